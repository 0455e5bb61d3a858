import JvmDerived
import JvmDerived.Pilot.@@N@@Statement
import JvmDerived.Pilot.@@N@@Code
set_option linter.unusedVariables false
set_option linter.unusedSimpArgs false
namespace Jvm.RoadKit
open Sem ClassFile Op Lib Jvm.Stand Jvm.Free Jvm.LawKit
section New
variable {p : Program} {l : Launch} {e : Env} {R : Room} {s : State} {m : MethodId} {args : Array Value} {below : List Frame} {meth : Method} {c : Code} {T : State} {locs : List Loc} {cells slots : Nat}
theorem retI (X : Stand p l e R s m args below meth c T locs cells slots) (hx : p.tables.exec = Jvm.exec) {pc : Nat} {Ls : Array Slot} {z : Int32} {rest : List Value} (hret : meth.sig.returnType = some .int) (hd : decode c.code pc = .ok (.ireturn, 1)) {fs : List Frame}
    (hl : ∀ (f : JFrame) (acts : List Action), f.method = m → f.locked = none → f.entered = [] → (doReturn e (T.setTop f) acts (some (.int z))).1 = T.setFrames fs) : Steps p.tables e below (T.setTop (mkF m pc Ls (.int z :: rest))) (T.setFrames fs) := by
  have hm' : T.vm.method? m = some meth := X.method'
  have hn : narrow .int (.int z) = .int z := rfl
  show Steps p.tables e below (T.setTop { method := m, pc := pc, locals := Ls, stack := _ :: rest, locked := none }) _
  jvm_step X.here [X.here.top, hx, hd, hm', hret, hn]
  first | (intro acts; rw [hl _ acts rfl rfl rfl]) | rw [hl _ _ rfl rfl rfl]
  exact Steps.refl _
theorem seg (X : Stand p l e R s m args below meth c T locs cells slots) (P : State → Prop) (h : ∃ T', Stand p l e R s m args below meth c T' locs cells slots ∧ P T') : ∃ T', Stand p l e R s m args below meth c T' locs cells slots ∧ P T' := h
/-- int to char -/
def i2c (x : Int32) : Int32 := x.toUInt32.toUInt16.toUInt32.toInt32
/-- int to byte -/
def own_lo (x : Int32) : Int32 := x.toInt8.toInt32
/-- the unsigned shift of an int -/
def ushr (x y : Int32) : Int32 := (x.toUInt32 >>> (y &&& 31).toUInt32).toInt32
/-- the unsigned shift of a long -/
def ushrJ (x : Int64) (y : Int32) : Int64 := (x.toUInt64 >>> (y &&& 0x3f).toInt64.toUInt64).toInt64
end New
end Jvm.RoadKit
namespace Jvm.Pilot.@@N@@
open Jvm Jvm.ClassFile Sem Op Lib Jvm.Free Jvm.Stand Jvm.LawKit Jvm.RoadKit Bundle Jvm.Pilot.@@N@@.Jvm.D
theorem own_neN {a b : Addr} (h : @Ne Nat a b) : ¬ (a = b) := h
theorem own_narb {q : Prop} [Decidable q] : nar .boolean (if q then (1 : Int32) else (0 : Int32)) = (if q then (1 : Int32) else (0 : Int32)) := by split <;> rfl
theorem own_declares {Z : State} {a0 : Array Value} {y : MethodName} {bytes : ByteArray} {mx : Nat} {r : Option FieldType} (w1 : (Jvm.Cond.instanceMethod y).before a0 Z = true) (w2 : (Jvm.Cond.code y bytes mx r).before a0 Z = true) : (Jvm.Cond.declares y).before a0 Z = true := by
  obtain ⟨mk, meth, h1, h2, h3, -⟩ := Cond.instanceMethod_spec w1
  obtain ⟨meth', c, q1, -, -, -, -, -, -, q2⟩ := Cond.code_spec h1 w2
  cases h2.symm.trans q1
  simp [Cond.before, Cond.holds, Cond.value, h1, h2, h3, q2]
/-- the class of a method that an object selects is no interface -/
theorem own_nf {Z : State} {a0 : Array Value} {y z : MethodName} {C : String} (hz : z.cls = y.cls) (w : (Jvm.Cond.selects C z z).before a0 Z = true) : ∀ r, Z.methodNamed? y = some r → ∃ k, Z.vm.classes[r.cls]? = some k ∧ k.isInterface = false := fun r hr => by
  obtain ⟨c, r2, m2, -, -, q3, -, kP, hkP, hkPi⟩ := Cond.selects_spec w
  have h1 := findClass_of_methodNamed q3
  have h2 := findClass_of_methodNamed hr
  rw [hz, h2] at h1
  rw [Option.some.inj h1]
  exact ⟨kP, hkP, hkPi⟩
/-- a method that its class declares itself is the one that the look-up finds -/
theorem own_same {Z : State} {a0 : Array Value} {y : MethodName} (w1 : (Jvm.Cond.instanceMethod y).before a0 Z = true) (w2 : ∀ r, Z.methodNamed? y = some r → ∃ k, Z.vm.classes[r.cls]? = some k ∧ k.isInterface = false) (hy : y.cls ≠ "java/lang/invoke/MethodHandle" ∧ y.cls ≠ "java/lang/invoke/VarHandle") : (Jvm.Cond.sameMethod y.cls y.cls y.name y.desc).before a0 Z = true := by
  obtain ⟨mk, meth, h1, -⟩ := Cond.instanceMethod_spec w1
  have hc := findClass_of_methodNamed h1
  obtain ⟨k, hk, hi⟩ := w2 mk h1
  have hf := State.methodFound?_of_named h1 hy
  have hk' : Z.vm.classes[mk.cls]? = some k := hk
  simp [Cond.before, Cond.holds, Cond.value, hc, hf, h1, hk', hi]
theorem own_ti {n : Nat} (h : n ≤ 8000) : (Int32.ofNat n).toInt = n := Int32.toInt_ofNat_of_lt (by omega)
theorem own_tn {n : Nat} (h : n ≤ 8000) : (Int32.ofNat n).toNatClampNeg = n := by
  rw [Int32.toNatClampNeg, own_ti h]; omega
theorem own_lt {i n : Nat} (h : i < n) (hn : n ≤ 8000) : (Int32.ofNat i) < (Int32.ofNat n) := by
  rw [Int32.lt_iff_toInt_lt, own_ti (by omega), own_ti hn]; omega
theorem own_nlt {i n : Nat} (h : n ≤ i) (hn : i ≤ 8000) : ¬ ((Int32.ofNat i) < (Int32.ofNat n)) := by
  rw [Int32.lt_iff_toInt_lt, own_ti hn, own_ti (by omega : n ≤ 8000)]; omega
theorem own_nn {n : Nat} (h : n ≤ 8000) : ¬ ((Int32.ofNat n) < (0 : Int32)) := by
  rw [Int32.lt_iff_toInt_lt, own_ti h]
  show ¬ ((n : Int) < 0)
  omega
theorem own_inj {i n : Nat} (h : i ≤ 8000) (hn : n ≤ 8000) (e : Int32.ofNat i = Int32.ofNat n) : i = n := by
  have := congrArg Int32.toInt e
  rw [own_ti h, own_ti hn] at this; omega
theorem own_up (k : Nat) : Int32.ofNat (k + 1) = Int32.ofNat k + (1 : Int32) := Int32.ofNat_add k 1
theorem own_in {i n : Nat} (h : i < n) (hn : n ≤ 8000) : ¬ (Int32.ofNat i) < 0 ∧ (Int32.ofNat i) < (Int32.ofNat n) := ⟨own_nn (by omega), own_lt h hn⟩
theorem own_eqI {z w : Int32} (h : z.toInt = w.toInt) : z = w := Int32.toInt_inj.mp h
theorem own_shl1 {n : Nat} (h : n ≤ 4000) : (Int32.ofNat n) <<< ((1 : Int32) &&& 31) = Int32.ofNat (2 * n) := by
  apply own_eqI
  have h1 := c_ishl (Int32.ofNat n) 1 1 (by decide)
  rw [own_ti (by omega)] at h1
  rw [own_ti (by omega : 2 * n ≤ 8000)]
  have := rng32 ((Int32.ofNat n) <<< ((1 : Int32) &&& 31))
  omega
theorem own_shr1 {n : Nat} (h : n ≤ 4000) : (Int32.ofNat (2 * n)) >>> ((1 : Int32) &&& 31) = Int32.ofNat n := by
  apply own_eqI
  rw [c_ishr (Int32.ofNat (2 * n)) 1 1 (by decide), own_ti (by omega : 2 * n ≤ 8000), own_ti (by omega)]
  omega
theorem own_shr0 (z : Int32) : z >>> ((0 : Int32) &&& 31) = z := by
  apply own_eqI
  rw [c_ishr z 0 0 (by decide)]; simp
def own_mix {α : Type} (ys vs : List α) (j : Nat) : List α := ys.take j ++ vs.drop j
theorem own_mix0 {α : Type} (ys vs : List α) : own_mix ys vs 0 = vs := by simp [own_mix]
theorem own_mixn {α : Type} (ys vs : List α) (n : Nat) (h : ys.length = n) (h2 : vs.length = n) : own_mix ys vs n = ys := by
  simp [own_mix, ← h, ← h2]
  omega
theorem own_mixl {α : Type} (ys vs : List α) (j : Nat) (h : ys.length = vs.length) : (own_mix ys vs j).length = vs.length := by simp [own_mix]; omega
theorem own_mixs {α : Type} (ys vs : List α) (d : α) (j : Nat) (h : ys.length = vs.length) (hj : j < vs.length) : (own_mix ys vs j).set j (ys.getD j d) = own_mix ys vs (j + 1) := by
  have hj' : j < ys.length := by omega
  apply List.ext_getElem?
  intro i
  simp only [own_mix, List.getElem?_set, List.length_append, List.length_take, List.length_drop, List.getElem?_append, List.getElem?_take, List.getElem?_drop, List.getD_eq_getElem?_getD, List.getElem?_eq_getElem hj', Option.getD_some]
  by_cases h1 : j = i
  · subst h1
    rw [if_pos rfl, if_pos (by omega), if_pos (by omega), if_pos (by omega), List.getElem?_eq_getElem hj']
  · rw [if_neg h1]
    by_cases h2 : i < j
    · rw [if_pos (by omega), if_pos (by omega), if_pos (by omega), if_pos (by omega)]
    · rw [if_neg (by omega), if_neg (by omega)]
      congr 1
      omega
/-- every char lies below 256 -/
abbrev own_lat (cs : List Int32) : Prop := ∀ c ∈ cs, ¬ ((255 : Int32) < c)
/-- every one is a char -/
abbrev own_chs (cs : List Int32) : Prop := ∀ c ∈ cs, ¬ (c < (0 : Int32)) ∧ ¬ ((65535 : Int32) < c)
def own_low (cs : List Int32) : List Value := cs.map fun c => .int (own_lo c)
def own_wide : List Int32 → List Value
  | [] => []
  | c :: r => .int (own_lo (c >>> ((0 : Int32) &&& 31))) :: .int (own_lo (c >>> ((8 : Int32) &&& 31))) :: own_wide r
def own_cod (cs : List Int32) : Int32 := if own_lat cs then 0 else 1
def own_enc (cs : List Int32) : List Value := if own_lat cs then own_low cs else own_wide cs
def own_enl (cs : List Int32) : Nat := if own_lat cs then cs.length else 2 * cs.length
theorem own_lowl (cs : List Int32) : (own_low cs).length = cs.length := by simp [own_low]
theorem own_widel : ∀ cs : List Int32, (own_wide cs).length = 2 * cs.length
  | [] => rfl
  | c :: r => by simp only [own_wide, List.length_cons, own_widel r]; omega
theorem own_getc (cs : List Int32) (j : Nat) (d : Value) (hj : j < cs.length) (hb : cs.length ≤ 8000) : (cs.map Value.int).getD (Int32.ofNat j).toNatClampNeg d = .int (cs.getD j 0) := by
  rw [own_tn (by omega)]
  simp [List.getD_eq_getElem?_getD, List.getElem?_map, List.getElem?_eq_getElem hj]
theorem own_getl (cs : List Int32) (j : Nat) (d : Value) (hj : j < cs.length) (hb : cs.length ≤ 8000) : (own_low cs).getD (Int32.ofNat j).toNatClampNeg d = .int (own_lo (cs.getD j 0)) := by
  rw [own_tn (by omega)]
  simp [own_low, List.getD_eq_getElem?_getD, List.getElem?_map, List.getElem?_eq_getElem hj]
theorem own_mem (cs : List Int32) (j : Nat) (hj : j < cs.length) : cs.getD j 0 ∈ cs := by
  simp [List.getD_eq_getElem?_getD, List.getElem?_eq_getElem hj]
theorem own_lolo (c : Int32) : nar .byte (own_lo c) = own_lo c := by
  show (own_lo c).toInt8.toInt32 = own_lo c
  simp [own_lo]
theorem own_mixc (cs : List Int32) (vs : List Value) (j : Nat) (h : cs.length = vs.length) (hj : j < vs.length) : (own_mix (own_low cs) vs j).set j (.int (nar .byte (own_lo (cs.getD j 0)))) = own_mix (own_low cs) vs (j + 1) := by
  have e : Value.int (own_lo (cs.getD j 0)) = (own_low cs).getD j (.int 0) := by
    simp [own_low, List.getD_eq_getElem?_getD, List.getElem?_map, List.getElem?_eq_getElem (by omega : j < cs.length)]
  rw [own_lolo, e]
  exact own_mixs _ _ _ _ (by rw [own_lowl]; exact h) hj
theorem own_wide0 (d : Value) : ∀ (cs : List Int32) (j : Nat), j < cs.length → (own_wide cs).getD (2 * j) d = .int (own_lo ((cs.getD j 0) >>> ((0 : Int32) &&& 31)))
  | [], _, h => nomatch h
  | c :: r, 0, _ => rfl
  | c :: r, j + 1, h => by
    have := own_wide0 d r j (by simpa using h)
    show (own_wide (c :: r)).getD (2 * j + 2) d = _
    simpa [own_wide] using this
theorem own_wide1 (d : Value) : ∀ (cs : List Int32) (j : Nat), j < cs.length → (own_wide cs).getD (2 * j + 1) d = .int (own_lo ((cs.getD j 0) >>> ((8 : Int32) &&& 31)))
  | [], _, h => nomatch h
  | c :: r, 0, _ => rfl
  | c :: r, j + 1, h => by
    have := own_wide1 d r j (by simpa using h)
    show (own_wide (c :: r)).getD (2 * j + 1 + 2) d = _
    simpa [own_wide] using this
theorem own_mixw (cs : List Int32) (vs : List Value) (j : Nat) (h : 2 * cs.length = vs.length) (hj : j < cs.length) :
    ((own_mix (own_wide cs) vs (2 * j)).set (2 * j) (.int (own_lo ((cs.getD j 0) >>> ((0 : Int32) &&& 31))))).set (2 * j + 1) (.int (own_lo ((cs.getD j 0) >>> ((8 : Int32) &&& 31)))) = own_mix (own_wide cs) vs (2 * (j + 1)) := by
  have hl : (own_wide cs).length = vs.length := by rw [own_widel]; exact h
  rw [← own_wide0 (.int 0) cs j hj, own_mixs _ _ _ _ hl (by omega), ← own_wide1 (.int 0) cs j hj, own_mixs _ _ _ _ hl (by omega)]
  rfl
/-- two bytes make the char again -/
theorem own_pair {c : Int32} (h0 : ¬ (c < (0 : Int32))) (h1 : ¬ ((65535 : Int32) < c)) :
    i2c (((own_lo (c >>> ((0 : Int32) &&& 31)) &&& (255 : Int32)) <<< ((0 : Int32) &&& 31)) ||| ((own_lo (c >>> ((8 : Int32) &&& 31)) &&& (255 : Int32)) <<< ((8 : Int32) &&& 31))) = c := by
  have b0 : 0 ≤ c.toInt ∧ c.toInt ≤ 65535 := by
    rw [Int32.lt_iff_toInt_lt] at h0 h1
    have : (0 : Int32).toInt = 0 := rfl
    have : (65535 : Int32).toInt = 65535 := rfl
    omega
  rw [own_shr0]
  have e8 : (c >>> ((8 : Int32) &&& 31)).toInt = c.toInt / 256 := c_ishr c 8 8 (by decide)
  have a1 := c_i2b c
  have a2 := c_i2b (c >>> ((8 : Int32) &&& 31))
  have m1 : (own_lo c &&& (255 : Int32)).toInt = (own_lo c).toInt % 256 := c_mask (own_lo c) 255 8 (by decide) (by decide)
  have m2 : (own_lo (c >>> ((8 : Int32) &&& 31)) &&& (255 : Int32)).toInt = (own_lo (c >>> ((8 : Int32) &&& 31))).toInt % 256 := c_mask (own_lo (c >>> ((8 : Int32) &&& 31))) 255 8 (by decide) (by decide)
  change ((own_lo c).toInt - c.toInt) % 256 = 0 ∧ _ at a1
  change ((own_lo (c >>> ((8 : Int32) &&& 31))).toInt - (c >>> ((8 : Int32) &&& 31)).toInt) % 256 = 0 ∧ _ at a2
  generalize own_lo c = u at *
  generalize own_lo (c >>> ((8 : Int32) &&& 31)) = w at *
  have s1 : ((u &&& (255 : Int32)) <<< ((0 : Int32) &&& 31)) = (u &&& (255 : Int32)) := by
    apply own_eqI
    have := c_ishl (u &&& (255 : Int32)) 0 0 (by decide)
    have := rng32 ((u &&& (255 : Int32)) <<< ((0 : Int32) &&& 31))
    omega
  have s2 := c_ishl (w &&& (255 : Int32)) 8 8 (by decide)
  have r2 := rng32 ((w &&& (255 : Int32)) <<< ((8 : Int32) &&& 31))
  rw [s1]
  generalize (w &&& (255 : Int32)) <<< ((8 : Int32) &&& 31) = y at *
  generalize u &&& (255 : Int32) = z at *
  have o := c_or' z y 8 (by decide) 256 rfl (by omega) (by omega) (by omega)
  have i := c_i2c (z ||| y)
  have r3 := rng32 (z ||| y)
  apply own_eqI
  show ((z ||| y).toUInt32.toUInt16.toUInt32.toInt32).toInt = _
  omega
theorem own_lo_inj {c d : Int32} (h0 : ¬ (c < (0 : Int32))) (h1 : ¬ ((255 : Int32) < c)) (g0 : ¬ (d < (0 : Int32))) (g1 : ¬ ((255 : Int32) < d)) (e : own_lo c = own_lo d) : c = d := by
  apply own_eqI
  have a1 := c_i2b c
  have a2 := c_i2b d
  have e' : c.toInt8.toInt32.toInt = d.toInt8.toInt32.toInt := congrArg Int32.toInt e
  rw [Int32.lt_iff_toInt_lt] at h0 h1 g0 g1
  have : (0 : Int32).toInt = 0 := rfl
  have : (255 : Int32).toInt = 255 := rfl
  omega
theorem own_ltbig {n : Nat} (h : n ≤ 8000) : (Int32.ofNat n) < (1073741823 : Int32) := by
  rw [Int32.lt_iff_toInt_lt, own_ti h]
  show (n : Int) < 1073741823
  omega
theorem own_narc {c : Int32} (h0 : ¬ (c < (0 : Int32))) (h1 : ¬ ((65535 : Int32) < c)) : nar .char c = c := by
  apply own_eqI
  have i := c_i2c c
  show (c.toUInt32.toUInt16.toUInt32.toInt32).toInt = _
  rw [Int32.lt_iff_toInt_lt] at h0 h1
  have : (0 : Int32).toInt = 0 := rfl
  have : (65535 : Int32).toInt = 65535 := rfl
  omega
theorem own_first {cs : List Int32} (h : ¬ own_lat cs) : ∃ i, i < cs.length ∧ (255 : Int32) < (cs.getD i 0) ∧ ∀ j, j < i → ¬ ((255 : Int32) < cs.getD j 0) := by
  induction cs with
  | nil => exact absurd (fun c hc => nomatch hc) h
  | cons c r ih =>
    by_cases hc : (255 : Int32) < c
    · exact ⟨0, by simp, hc, fun j hj => absurd hj (Nat.not_lt_zero j)⟩
    · have : ¬ own_lat r := fun hr => h fun d hd => by
        rcases List.mem_cons.mp hd with rfl | hd
        · exact hc
        · exact hr d hd
      obtain ⟨i, h1, h2, h3⟩ := ih this
      refine ⟨i + 1, by simpa using h1, by simpa using h2, fun j hj => ?_⟩
      cases j with
      | zero => simpa using hc
      | succ j => simpa using h3 j (by omega)
theorem own_fixL {Z : State} {hh : Heap} {b : Addr} {kb : ClassId} {cs : List Int32} {n : Nat} {vs : List Value} {d : Value} (h : own_lat cs) (F : Arv Z hh b kb .byte (Int32.ofNat n) (own_mix (own_low cs) vs n) d) (hn : cs.length = n) (hv : vs.length = n) : Arv Z hh b kb .byte (Int32.ofNat (own_enl cs)) (own_enc cs) d := by
  rw [own_mixn _ _ n (by rw [own_lowl]; exact hn) hv] at F
  rw [own_enl, own_enc, if_pos h, if_pos h, hn]; exact F
theorem own_fixW {Z : State} {hh : Heap} {b : Addr} {kb : ClassId} {cs : List Int32} {n : Nat} {d : Value} (h : ¬ own_lat cs) (F : Arv Z hh b kb .byte (Int32.ofNat (2 * n)) (own_wide cs) d) (hn : cs.length = n) : Arv Z hh b kb .byte (Int32.ofNat (own_enl cs)) (own_enc cs) d := by
  rw [own_enl, own_enc, if_neg h, if_neg h, hn]; exact F
theorem own_ne0 {n : Nat} (h : 0 < n) (hb : n ≤ 8000) : ¬ ((Int32.ofNat n) = (0 : Int32)) := fun e => by
  have := own_inj (n := 0) hb (by omega) e
  omega
theorem own_codl {cs : List Int32} {n : Nat} (hn : cs.length = n) (hp : 0 < n) (hb : n ≤ 4000) : nar .byte (own_lo (ushr ((Int32.ofNat n) - (Int32.ofNat (own_enl cs))) (31 : Int32))) = own_cod cs := by
  rw [own_lolo, own_enl, own_cod]
  by_cases h : own_lat cs
  · rw [if_pos h, if_pos h, hn, Int32.sub_self]; rfl
  · rw [if_neg h, if_neg h, hn]
    have e : ushr ((Int32.ofNat n) - (Int32.ofNat (2 * n))) (31 : Int32) = 1 := by
      apply own_eqI
      have a := c_isub (Int32.ofNat n) (Int32.ofNat (2 * n))
      rw [own_ti (by omega), own_ti (by omega : 2 * n ≤ 8000)] at a
      have r := rng32 ((Int32.ofNat n) - (Int32.ofNat (2 * n)))
      have s := c_iushr ((Int32.ofNat n) - (Int32.ofNat (2 * n))) 31 31 (by decide) (by decide)
      show (((Int32.ofNat n) - (Int32.ofNat (2 * n))).toUInt32 >>> ((31 : Int32) &&& 31).toUInt32).toInt32.toInt = 1
      rw [s]
      omega
    rw [e]; rfl
theorem own_c01 (cs : List Int32) : own_cod cs = 0 ∨ own_cod cs = 1 := by
  unfold own_cod; split
  · exact Or.inl rfl
  · exact Or.inr rfl
theorem own_cnar (cs : List Int32) : narrow .byte (.int (own_cod cs)) = .int (own_cod cs) := by rcases own_c01 cs with h | h <;> rw [h] <;> rfl
theorem own_cnarb (cs : List Int32) : nar .byte (own_cod cs) = own_cod cs := by rcases own_c01 cs with h | h <;> rw [h] <;> rfl
theorem own_cfit (cs : List Int32) : fits .byte (.int (own_cod cs)) = true := by rcases own_c01 cs with h | h <;> rw [h] <;> rfl
theorem own_lenq (cs : List Int32) (hb : cs.length ≤ 4000) : (Int32.ofNat (own_enl cs)) >>> ((own_cod cs) &&& 31) = Int32.ofNat cs.length := by
  rw [own_enl, own_cod]
  by_cases h : own_lat cs
  · rw [if_pos h, if_pos h]; exact own_shr0 _
  · rw [if_neg h, if_neg h]; exact own_shr1 hb
/-- one more than the place of the first ch among k chars from j on; 0: none -/
def own_ix (cs : List Int32) (ch : Int32) : Nat → Nat → Nat
  | _, 0 => 0
  | j, k + 1 => if cs.getD j 0 = ch then j + 1 else own_ix cs ch (j + 1) k
theorem own_ixle (cs : List Int32) (ch : Int32) : ∀ (k j : Nat), own_ix cs ch j k ≤ j + k
  | 0, j => by simp [own_ix]
  | k + 1, j => by
    unfold own_ix; split
    · omega
    · have := own_ixle cs ch k (j + 1); omega
theorem own_ix0 (cs : List Int32) (ch : Int32) (h : ∀ c ∈ cs, c ≠ ch) : ∀ (k j : Nat), j + k ≤ cs.length → own_ix cs ch j k = 0
  | 0, j, _ => rfl
  | k + 1, j, hj => by
    unfold own_ix
    rw [if_neg (h _ (own_mem cs j (by omega)))]
    exact own_ix0 cs ch h k (j + 1) (by omega)
theorem own_minT {i j : Nat} (hi : i ≤ 8000) (hj : j ≤ 8000) (h : ¬ ((Int32.ofNat j) < (Int32.ofNat i))) : Int32.ofNat i = Int32.ofNat (min i j) := by
  by_cases q : i ≤ j
  · rw [Nat.min_eq_left q]
  · exact absurd (own_lt (by omega) hi) h
theorem own_minF {i j : Nat} (hi : i ≤ 8000) (hj : j ≤ 8000) (h : (Int32.ofNat j) < (Int32.ofNat i)) : Int32.ofNat j = Int32.ofNat (min i j) := by
  by_cases q : i ≤ j
  · exact absurd h (own_nlt q hj)
  · rw [Nat.min_eq_right (by omega)]
theorem own_maxT {i j : Nat} (hi : i ≤ 8000) (hj : j ≤ 8000) (h : (Int32.ofNat i) < (Int32.ofNat j)) : Int32.ofNat j = Int32.ofNat (max i j) := by
  by_cases q : j ≤ i
  · exact absurd h (own_nlt q hi)
  · rw [Nat.max_eq_right (by omega)]
theorem own_maxF {i j : Nat} (hi : i ≤ 8000) (hj : j ≤ 8000) (h : ¬ ((Int32.ofNat i) < (Int32.ofNat j))) : Int32.ofNat i = Int32.ofNat (max i j) := by
  by_cases q : j ≤ i
  · rw [Nat.max_eq_left q]
  · exact absurd (own_lt (by omega) hj) h
theorem own_found (j : Nat) : Int32.ofNat j = Int32.ofNat (j + 1) - (1 : Int32) := by rw [own_up, Int32.add_sub_cancel]
theorem own_geth (cs : List Int32) (j : Nat) (d : Value) (hl : own_lat cs) (hj : j < cs.length) (hb : cs.length ≤ 8000) : (own_enc cs).getD (Int32.ofNat j).toNatClampNeg d = .int (own_lo (cs.getD j 0)) := by
  rw [own_enc, if_pos hl]; exact own_getl cs j d hj hb
theorem own_nari2c (z : Int32) : nar .char (i2c z) = i2c z := by
  have i := c_i2c z
  have k := c_i2c (z.toUInt32.toUInt16.toUInt32.toInt32)
  apply own_eqI
  show (z.toUInt32.toUInt16.toUInt32.toInt32).toUInt32.toUInt16.toUInt32.toInt32.toInt = z.toUInt32.toUInt16.toUInt32.toInt32.toInt
  omega
theorem own_rng {q z : Int32} (h : q = i2c z) : ¬ (q < (0 : Int32)) ∧ ¬ ((65535 : Int32) < q) := by
  have i := c_i2c z
  have e : q.toInt = z.toUInt32.toUInt16.toUInt32.toInt32.toInt := congrArg Int32.toInt h
  rw [Int32.lt_iff_toInt_lt, Int32.lt_iff_toInt_lt]
  have : (0 : Int32).toInt = 0 := rfl
  have : (65535 : Int32).toInt = 65535 := rfl
  omega
theorem own_chs0 : own_chs [] := fun _ h => nomatch h
theorem own_chsS {c : Int32} {r : List Int32} (h : ¬ (c < (0 : Int32)) ∧ ¬ ((65535 : Int32) < c)) (g : own_chs r) : own_chs (c :: r) := fun d hd => by
  rcases List.mem_cons.mp hd with rfl | hd
  · exact h
  · exact g d hd
theorem own_lat0 : own_lat [] := fun _ h => nomatch h
theorem own_latS {c : Int32} {r : List Int32} (h : ¬ ((255 : Int32) < c)) (g : own_lat r) : own_lat (c :: r) := fun d hd => by
  rcases List.mem_cons.mp hd with rfl | hd
  · exact h
  · exact g d hd
theorem own_int (z : Int32) (n : Nat) (h : z.toInt = n) : z = Int32.ofNat n := by
  apply Int32.toInt_inj.mp
  rw [h]
  have := z.toInt_lt
  have := z.le_toInt
  rw [Int32.toInt_ofNat_of_lt]
  omega
theorem own_and3 (z : Int32) : ∃ n : Nat, (z &&& (3 : Int32)) = Int32.ofNat n ∧ n < 4 := by
  have h := c_mask z 3 2 (by decide) (by decide)
  refine ⟨(z.toInt % 4).toNat, own_int _ _ ?_, by omega⟩
  rw [h]; omega
theorem own_modn (z : Int32) (d : Int32) (k : Nat) (hd : d.toInt = k) (hk : 0 < k) (hk2 : k ≤ 100) : ∃ n : Nat, ((z &&& (2147483647 : Int32)) % d) = Int32.ofNat n ∧ n < k := by
  have h := c_mask z 2147483647 31 (by decide) (by decide)
  have h2 := (c_irem (z &&& (2147483647 : Int32)) d k hd).1 (by rw [h]; omega)
  have h3 : 0 ≤ (z &&& (2147483647 : Int32)).toInt := by rw [h]; omega
  have h4 := Int.emod_nonneg (z &&& (2147483647 : Int32)).toInt (show (k : Int) ≠ 0 by omega)
  have h5 := Int.emod_lt_of_pos (z &&& (2147483647 : Int32)).toInt (show (0 : Int) < k by omega)
  refine ⟨((z &&& (2147483647 : Int32)).toInt % k).toNat, own_int _ _ ?_, by omega⟩
  rw [h2]; omega
theorem own_lt16 {c : Int32} (h : ¬ ((65535 : Int32) < c)) : c < (65536 : Int32) := by
  rw [Int32.lt_iff_toInt_lt] at *
  have : (65535 : Int32).toInt = 65535 := rfl
  have : (65536 : Int32).toInt = 65536 := rfl
  omega
theorem own_sub0 {i n : Nat} (h : ¬ ((Int32.ofNat i) < (Int32.ofNat n))) (hn : n ≤ 8000) : n - i = 0 := by
  by_cases q : i < n
  · exact absurd (own_lt q hn) h
  · omega
theorem own_cod0 {cs : List Int32} (h : own_lat cs) : own_cod cs = (0 : Int32) := if_pos h
theorem own_cod1 {cs : List Int32} (h : ¬ own_lat cs) : ¬ (own_cod cs = (0 : Int32)) := by rw [own_cod, if_neg h]; decide
/-- a String's bytes as ints -/
def own_wb : List Int32 → List Int32
  | [] => []
  | c :: r => own_lo (c >>> ((0 : Int32) &&& 31)) :: own_lo (c >>> ((8 : Int32) &&& 31)) :: own_wb r
def own_eb (cs : List Int32) : List Int32 := if own_lat cs then cs.map own_lo else own_wb cs
theorem own_wideb : ∀ cs : List Int32, own_wide cs = (own_wb cs).map Value.int
  | [] => rfl
  | c :: r => by simp only [own_wide, own_wb, List.map_cons, own_wideb r]
theorem own_encb (cs : List Int32) : own_enc cs = (own_eb cs).map Value.int := by
  rw [own_enc, own_eb]; split
  · simp [own_low]
  · exact own_wideb cs
theorem own_wbl : ∀ cs : List Int32, (own_wb cs).length = 2 * cs.length
  | [] => rfl
  | c :: r => by simp only [own_wb, List.length_cons, own_wbl r]; omega
theorem own_ebl (cs : List Int32) : (own_eb cs).length = own_enl cs := by
  rw [own_eb, own_enl]; split
  · simp
  · exact own_wbl cs
theorem own_mapinj : ∀ (cs ds : List Int32), own_chs cs → own_chs ds → own_lat cs → own_lat ds → cs.map own_lo = ds.map own_lo → cs = ds
  | [], [], _, _, _, _, _ => rfl
  | [], _ :: _, _, _, _, _, h => nomatch h
  | _ :: _, [], _, _, _, _, h => nomatch h
  | c :: r, d :: q, hc, hd, lc, ld, h => by
    simp only [List.map_cons, List.cons.injEq] at h
    have e : c = d := own_lo_inj (hc c (by simp)).1 (lc c (by simp)) (hd d (by simp)).1 (ld d (by simp)) h.1
    rw [e, own_mapinj r q (fun x hx => hc x (by simp [hx])) (fun x hx => hd x (by simp [hx])) (fun x hx => lc x (by simp [hx])) (fun x hx => ld x (by simp [hx])) h.2]
theorem own_wbinj : ∀ (cs ds : List Int32), own_chs cs → own_chs ds → own_wb cs = own_wb ds → cs = ds
  | [], [], _, _, _ => rfl
  | [], _ :: _, _, _, h => nomatch h
  | _ :: _, [], _, _, h => nomatch h
  | c :: r, d :: q, hc, hd, h => by
    simp only [own_wb, List.cons.injEq] at h
    have e : c = d := by
      rw [← own_pair (hc c (by simp)).1 (hc c (by simp)).2, ← own_pair (hd d (by simp)).1 (hd d (by simp)).2, h.1, h.2.1]
    rw [e, own_wbinj r q (fun x hx => hc x (by simp [hx])) (fun x hx => hd x (by simp [hx])) h.2.2]
theorem own_encinj {cs ds : List Int32} (hc : own_chs cs) (hd : own_chs ds) (h : own_cod cs = own_cod ds) (e : own_eb cs = own_eb ds) : cs = ds := by
  by_cases l1 : own_lat cs <;> by_cases l2 : own_lat ds
  · rw [own_eb, own_eb, if_pos l1, if_pos l2] at e; exact own_mapinj _ _ hc hd l1 l2 e
  · rw [own_cod, own_cod, if_pos l1, if_neg l2] at h; exact absurd h (by decide)
  · rw [own_cod, own_cod, if_neg l1, if_pos l2] at h; exact absurd h (by decide)
  · rw [own_eb, own_eb, if_neg l1, if_neg l2] at e; exact own_wbinj _ _ hc hd e
theorem own_ext {xs ys : List Int32} (hl : xs.length = ys.length) (h : ∀ i, i < xs.length → xs.getD i 0 = ys.getD i 0) : xs = ys := by
  apply List.ext_getElem hl
  intro i h1 h2
  have := h i h1
  simpa [List.getD_eq_getElem?_getD, List.getElem?_eq_getElem h1, List.getElem?_eq_getElem h2] using this
theorem own_enll (cs : List Int32) : own_enl cs ≤ 2 * cs.length := by rw [own_enl]; split <;> omega
def own_mk : Nat → Int32 → Int32 → Int32 → List Int32
  | 0, _, _, _ => []
  | 1, x, _, _ => [x]
  | 2, x, y, _ => [x, y]
  | _ + 3, x, y, z => [x, y, z]
theorem own_mkl (n : Nat) (x y z : Int32) : (own_mk n x y z).length ≤ 3 := by
  unfold own_mk; split <;> simp
theorem own_mkchs {n : Nat} {x y z : Int32} (h : n < 4) (hx : ¬ (x < (0 : Int32)) ∧ ¬ ((65535 : Int32) < x)) (hy : ¬ (y < (0 : Int32)) ∧ ¬ ((65535 : Int32) < y)) (hz : ¬ (z < (0 : Int32)) ∧ ¬ ((65535 : Int32) < z)) : own_chs (own_mk n x y z) := by
  unfold own_mk; split
  · exact own_chs0
  · exact own_chsS hx own_chs0
  · exact own_chsS hx (own_chsS hy own_chs0)
  · exact own_chsS hx (own_chsS hy (own_chsS hz own_chs0))
theorem own_le64k {c : Int32} (h : ¬ ((255 : Int32) < c)) : ¬ ((65535 : Int32) < c) := by
  rw [Int32.lt_iff_toInt_lt] at *
  have : (65535 : Int32).toInt = 65535 := rfl
  have : (255 : Int32).toInt = 255 := rfl
  omega
theorem own_small {z : Int32} (h : 0 ≤ z.toInt ∧ z.toInt ≤ 255) : ¬ (i2c z < (0 : Int32)) ∧ ¬ ((255 : Int32) < i2c z) := by
  have i := c_i2c z
  rw [Int32.lt_iff_toInt_lt, Int32.lt_iff_toInt_lt]
  have : (0 : Int32).toInt = 0 := rfl
  have : (255 : Int32).toInt = 255 := rfl
  show ¬ ((z.toUInt32.toUInt16.toUInt32.toInt32).toInt < (0 : Int32).toInt) ∧ ¬ ((255 : Int32).toInt < (z.toUInt32.toUInt16.toUInt32.toInt32).toInt)
  omega
theorem own_m255 (z : Int32) : 0 ≤ (z &&& (255 : Int32)).toInt ∧ (z &&& (255 : Int32)).toInt ≤ 255 := by
  have := c_mask z 255 8 (by decide) (by decide)
  omega
theorem own_b255 (z : Int32) : ¬ (i2c (z &&& (255 : Int32)) < (0 : Int32)) ∧ ¬ ((255 : Int32) < i2c (z &&& (255 : Int32))) := own_small (own_m255 z)
theorem own_k255 (z : Int32) : ¬ ((z &&& (255 : Int32)) < (0 : Int32)) ∧ ¬ ((255 : Int32) < (z &&& (255 : Int32))) := by
  have := own_m255 z
  rw [Int32.lt_iff_toInt_lt, Int32.lt_iff_toInt_lt]
  have : (0 : Int32).toInt = 0 := rfl
  have : (255 : Int32).toInt = 255 := rfl
  omega
theorem own_xb (z w : Int32) (h : 0 ≤ z.toInt ∧ z.toInt ≤ 255) (g : 0 ≤ w.toInt ∧ w.toInt ≤ 255) : 0 ≤ (z ^^^ w).toInt ∧ (z ^^^ w).toInt ≤ 255 := by
  have t (v : Int32) (h : 0 ≤ v.toInt ∧ v.toInt ≤ 255) : v.toBitVec.toNat < 256 := by
    have := v.toBitVec.isLt
    have e : v.toInt = v.toBitVec.toInt := rfl
    rw [BitVec.toInt_eq_toNat_cond] at e
    split at e <;> omega
  have h1 := t z h
  have h2 := t w g
  have h3 : (z ^^^ w).toBitVec.toNat < 256 := by
    rw [Int32.toBitVec_xor, BitVec.toNat_xor]
    exact Nat.xor_lt_two_pow (n := 8) h1 h2
  have e : (z ^^^ w).toInt = (z ^^^ w).toBitVec.toInt := rfl
  rw [BitVec.toInt_eq_toNat_cond] at e
  split at e <;> omega
theorem own_x255 {z w : Int32} (h : ¬ (z < (0 : Int32)) ∧ ¬ ((255 : Int32) < z)) (g : ¬ (w < (0 : Int32)) ∧ ¬ ((255 : Int32) < w)) : ¬ (i2c (z ^^^ w) < (0 : Int32)) ∧ ¬ ((255 : Int32) < i2c (z ^^^ w)) := by
  rw [Int32.lt_iff_toInt_lt, Int32.lt_iff_toInt_lt] at h g
  have : (0 : Int32).toInt = 0 := rfl
  have : (255 : Int32).toInt = 255 := rfl
  exact own_small (own_xb z w (by omega) (by omega))
abbrev ELs : List (String × Nat) := consts_1
theorem own_EW {Z : State} {a0 : Array Value} (hw : ∀ d ∈ tables_1, d.before a0 Z = true) : EW Z a0 ELs := (EW.cons (hw _ (List.mem_of_getElem? (i := 33) rfl)) (by decide) (EW.cons (hw _ (List.mem_of_getElem? (i := 18) rfl)) (by decide) EW.nil))
theorem own_wS {Z : State} {a0 : Array Value} (hw : ∀ d ∈ tables_1, d.before a0 Z = true) : ∀ a ∈ Bundle.stringAtoms, a.before a0 Z = true := by
  intro a ha
  simp only [Bundle.stringAtoms, List.mem_cons, List.not_mem_nil, or_false] at ha
  rcases ha with rfl | rfl | rfl | rfl | rfl | rfl | rfl
  · exact (hw _ (List.mem_of_getElem? (i := 6) rfl))
  · exact (hw _ (List.mem_of_getElem? (i := 5) rfl))
  · exact (hw _ (List.mem_of_getElem? (i := 19) rfl))
  · exact (hw _ (List.mem_of_getElem? (i := 20) rfl))
  · exact (hw _ (List.mem_of_getElem? (i := 21) rfl))
  · exact (hw _ (List.mem_of_getElem? (i := 22) rfl))
  · exact (hw _ (List.mem_of_getElem? (i := 23) rfl))
theorem own_NSroot {Z : State} {a0 : Array Value} {O K : String} {n : Nat} (w : (Jvm.Cond.noSuperclass O).before a0 Z = true) (wk : (Jvm.Cond.instantiable K n).before a0 Z = true) (hn : O ≠ K) : NS Z O K := by
  obtain ⟨c, k, h1, h2, h3, -, -⟩ := Cond.noSuperclass_spec w
  obtain ⟨t, kt, g1, -⟩ := Cond.instantiable_spec wk
  have ne := ids_ne h1 g1 hn
  refine ⟨c, t, h1, g1, fun fuel => ?_⟩
  cases fuel with
  | zero => rfl
  | succ f => simp [Vm.isSubclassAux, ne, h2, h3]
theorem own_NSno {Z : State} {a0 : Array Value} {C S K : String} {m : Nat} (w : (Jvm.Cond.superclass C S).before a0 Z = true) (wk : (Jvm.Cond.instantiable K m).before a0 Z = true) (n : NS Z C K) (hn : C ≠ K) : ∃ c t, Z.vm.findClass C = some c ∧ Z.vm.findClass K = some t ∧ Z.vm.assignable c t = false := by
  obtain ⟨c, t, h0, g0, n3⟩ := n
  obtain ⟨p, k, kp, h1, h2, h3, h4, h5, -, h7⟩ := Cond.superclass_spec h0 w
  obtain ⟨t', k', q1, q2, q3, q4, -⟩ := Cond.instantiable_spec wk
  cases g0.symm.trans q1
  have q5 : k'.isInterface = false := (Bool.or_eq_false_iff.mp q4).1
  have ne := ids_ne h0 g0 hn
  refine ⟨c, t, h0, g0, ?_⟩
  show Z.vm.assignableAux (255 + 1) c t = false
  simp [Vm.assignableAux, ne, h2, q2, h5, q3, q5, Vm.isSubclass, n3]
/-- a String whose value is still null is no constant's -/
theorem own_safeN {Z : State} {EL : List (String × Nat)} {vm : Vm} {h : Heap} {a : Addr} (hal : Z.vm.Alike vm) (E : Exa Z h a "java/lang/String") (F : Fld Z h a "java/lang/String" "value" "[B" .null) : Safe Z EL vm h a := fun B => by
  obtain ⟨p, -, u, a', -, q, -, S, rfl | rfl⟩ := B
  · obtain ⟨cS, ⟨⟨s1, -, -, ⟨c1, k1, i1, f1, -⟩, -, -, -, v1, -⟩, -⟩, -⟩ := S
    obtain ⟨cell, cf, k', i', f, e1, e2, -, -, -, -, e7⟩ := F
    cases (show h[q.sa]? = some q.sC from s1).symm.trans e1
    obtain ⟨k3, e3, -⟩ := State.fieldFound?_setVm (s := Z) hal e2
    have e4 := (show (Wst Z vm h).fieldFound? _ _ _ = _ from e3).symm.trans f1
    simp only [Option.some.injEq, Prod.mk.injEq] at e4
    rw [← e4.2.2.2, e7] at v1
    cases v1
  · obtain ⟨cell, k, e1, e2, e3, -, -⟩ := E
    cases (show h[q.sd]? = some q.SA from S.hd).symm.trans e1
    obtain ⟨cS, -, -, f, -⟩ := S
    have f' : vm.findClass "[B" = some q.SA.cls := f
    rw [hal.findClass] at f'
    obtain ⟨k1, q1, q2⟩ := Vm.findClass_spec f'
    obtain ⟨k2, q3, q4⟩ := Vm.findClass_spec e2
    cases q1.symm.trans q3
    exact absurd (q2.symm.trans q4) (by decide)
theorem own_fix0 {Z : State} {hh : Heap} {b : Addr} {kb : ClassId} {cs : List Int32} {d : Value} (h : cs = []) (F : Arv Z hh b kb .byte (0 : Int32) [] d) : Arv Z hh b kb .byte (Int32.ofNat (own_enl cs)) (own_enc cs) d := by
  subst h
  rw [own_enl, own_enc, if_pos own_lat0, if_pos own_lat0]; exact F
theorem own_pos {n : Nat} (h : ¬ ((Int32.ofNat n) = (0 : Int32))) : 0 < n := by
  cases n with
  | zero => exact absurd rfl h
  | succ n => omega
theorem own_streq (n m : Nat) (ix iy iz jx jy jz : Int32) (hn : n < 4) (hm : m < 4) : (if (Int32.ofNat n) = (Int32.ofNat m) then (if (Int32.ofNat n) < (1 : Int32) then (if (Int32.ofNat n) < (2 : Int32) then (if (Int32.ofNat n) < (3 : Int32) then (1 : Int32) else (if iz = jz then (1 : Int32) else (0 : Int32))) else (if iy = jy then (if (Int32.ofNat n) < (3 : Int32) then (1 : Int32) else (if iz = jz then (1 : Int32) else (0 : Int32))) else (0 : Int32))) else (if ix = jx then (if (Int32.ofNat n) < (2 : Int32) then (if (Int32.ofNat n) < (3 : Int32) then (1 : Int32) else (if iz = jz then (1 : Int32) else (0 : Int32))) else (if iy = jy then (if (Int32.ofNat n) < (3 : Int32) then (1 : Int32) else (if iz = jz then (1 : Int32) else (0 : Int32))) else (0 : Int32))) else (0 : Int32))) else (0 : Int32)) = (if (own_mk n ix iy iz) = (own_mk m jx jy jz) then (1 : Int32) else (0 : Int32)) := by
  by_cases hx : ix = jx <;> by_cases hy : iy = jy <;> by_cases hz : iz = jz <;>
  rcases (by omega : n = 0 ∨ n = 1 ∨ n = 2 ∨ n = 3) with rfl | rfl | rfl | rfl <;> rcases (by omega : m = 0 ∨ m = 1 ∨ m = 2 ∨ m = 3) with rfl | rfl | rfl | rfl <;>
  simp +decide [own_mk, hx, hy, hz]
theorem own_sym3 (A B : List Int32) (x y u v : Int32) : (if B = A then (if y = x then (if v = u then (1 : Int32) else (0 : Int32)) else (0 : Int32)) else (0 : Int32)) = (if (if A = B then (1 : Int32) else (0 : Int32)) = (0 : Int32) then (0 : Int32) else (if x = y then (if u = v then (1 : Int32) else (0 : Int32)) else (0 : Int32))) := by
  by_cases h1 : A = B
  · subst h1
    by_cases h2 : x = y
    · subst h2
      by_cases h3 : u = v
      · subst h3; simp
      · simp [h3, Ne.symm h3]
    · simp [h2, Ne.symm h2]
  · simp [h1, Ne.symm h1]
theorem pn_java_lang_StringUTF16 : plainName "java/lang/StringUTF16" = true := by first | (simp [plainName, overriddenIn]; done) | decide +kernel
theorem d_jdk_52_method_21_0 : decode jdk_52_method_21_code 0 = .ok (.iconst 0, 1) := by decide +kernel
theorem d_jdk_52_method_21_1 : decode jdk_52_method_21_code 1 = .ok (.istore 5, 2) := by decide +kernel
theorem d_jdk_52_method_21_3 : decode jdk_52_method_21_code 3 = .ok (.iload 5, 2) := by decide +kernel
theorem d_jdk_52_method_21_5 : decode jdk_52_method_21_code 5 = .ok (.iload 4, 2) := by decide +kernel
theorem d_jdk_52_method_21_7 : decode jdk_52_method_21_code 7 = .ok (.if_icmp .ge 37, 3) := by decide +kernel
theorem d_jdk_52_method_21_10 : decode jdk_52_method_21_code 10 = .ok (.aload_n 0, 1) := by decide +kernel
theorem d_jdk_52_method_21_11 : decode jdk_52_method_21_code 11 = .ok (.iload_n 1, 1) := by decide +kernel
theorem d_jdk_52_method_21_12 : decode jdk_52_method_21_code 12 = .ok (.caload, 1) := by decide +kernel
theorem os_rmCmpL_13 {z0 : Value} {z1 : Value} {z2 : Value} {z3 : Value} {z4 : Value} {z5 : Value} {s6 : Slot} {v : Int32} (h : One s6) : storeLocals #[.val z0, .val z1, .val z2, .val z3, .val z4, .val z5, s6] 6 (.int v) = some #[.val z0, .val z1, .val z2, .val z3, .val z4, .val z5, .val (.int v)] := by
  rcases h with rfl | ⟨w, rfl, hw⟩
  · rfl
  · cases w <;> first | rfl | (simp [Value.category] at hw)
theorem d_jdk_52_method_21_13 : decode jdk_52_method_21_code 13 = .ok (.istore 6, 2) := by decide +kernel
theorem d_jdk_52_method_21_15 : decode jdk_52_method_21_code 15 = .ok (.iload 6, 2) := by decide +kernel
theorem d_jdk_52_method_21_17 : decode jdk_52_method_21_code 17 = .ok (.sipush 255, 3) := by decide +kernel
theorem d_jdk_52_method_21_20 : decode jdk_52_method_21_code 20 = .ok (.if_icmp .le 6, 3) := by decide +kernel
theorem d_jdk_52_method_21_26 : decode jdk_52_method_21_code 26 = .ok (.aload_n 2, 1) := by decide +kernel
theorem d_jdk_52_method_21_27 : decode jdk_52_method_21_code 27 = .ok (.iload_n 3, 1) := by decide +kernel
theorem d_jdk_52_method_21_28 : decode jdk_52_method_21_code 28 = .ok (.iload 6, 2) := by decide +kernel
theorem d_jdk_52_method_21_30 : decode jdk_52_method_21_code 30 = .ok (.i2b, 1) := by decide +kernel
theorem d_jdk_52_method_21_31 : decode jdk_52_method_21_code 31 = .ok (.bastore, 1) := by decide +kernel
theorem d_jdk_52_method_21_32 : decode jdk_52_method_21_code 32 = .ok (.iinc 1 1, 3) := by decide +kernel
theorem d_jdk_52_method_21_35 : decode jdk_52_method_21_code 35 = .ok (.iinc 3 1, 3) := by decide +kernel
theorem d_jdk_52_method_21_38 : decode jdk_52_method_21_code 38 = .ok (.iinc 5 1, 3) := by decide +kernel
theorem d_jdk_52_method_21_41 : decode jdk_52_method_21_code 41 = .ok (.goto (-38), 3) := by decide +kernel
theorem d_jdk_52_method_21_44 : decode jdk_52_method_21_code 44 = .ok (.iload 4, 2) := by decide +kernel
theorem d_jdk_52_method_21_46 : decode jdk_52_method_21_code 46 = .ok (.ireturn, 1) := by decide +kernel
theorem ef_rmCmpL (m : MethodId) (x0 : Addr) (x1 : Int32) (x2 : Addr) (x3 : Int32) (x4 : Int32) : entryFrame m #[(.ref x0), (.int x1), (.ref x2), (.int x3), (.int x4)] 7 = mkF m 0 #[.val (.ref x0), .val (.int x1), .val (.ref x2), .val (.int x3), .val (.int x4), .unset, .unset] [] := by first | (simp [entryFrame, mkF, argsToLocals, Value.category]; done) | rfl
def Q_rmCmpL (Z : State) (ca : Addr) (ba : Addr) (cs : List Int32) (kc : ClassId) (n : Nat) (kb : ClassId) (vs : List Value) (h0 : Heap) (n0 : Nat) (v : Option Value) (h : Heap) (L : List Loc) : Prop := (v = some (.int (Int32.ofNat n))) ∧ (Fr n0 L) ∧ (Keep h0 h [ba]) ∧ (Arv Z h ba kb .byte (Int32.ofNat n) (own_mix (own_low cs) vs n) (.int (0 : Int32)))
set_option maxRecDepth 65536 in
set_option maxHeartbeats 40000000 in
theorem rmCmpL (l : Launch) (Z : State) (a0 : Array Value) (hw : ∀ d ∈ tables_1, d.before a0 Z = true) (ws : List Jvm.Cond) (ca : Addr) (ba : Addr) (cs : List Int32) (kc : ClassId) (n : Nat) (kb : ClassId) (vs : List Value) (h0 : Heap) (n0 : Nat) (Z0 : n0 ≤ h0.size) (I1 : Arv Z h0 ca kc .char (Int32.ofNat n) (cs.map Value.int) (.int (0 : Int32))) (I2 : Arv Z h0 ba kb .byte (Int32.ofNat n) vs (.int (0 : Int32))) (hn : cs.length = n) (hb : n ≤ 3) (hvs : vs.length = n) (gb : n0 ≤ ba) (hne : @Ne Nat ca ba) (hlat : own_lat cs) :
    MetFree l (⟨"java/lang/StringUTF16", "compress", "([CI[BII)I"⟩ : MethodName) (head1 (Jvm.Cond.code (⟨"java/lang/StringUTF16", "compress", "([CI[BII)I"⟩ : MethodName) jdk_52_method_21_code 7 (some .int) :: ws) ({ frames := 0, cells := 0, slots := 0, locals := 0 } : Room)) (fun ar_ U => ar_ = #[(.ref ca), (.int (0 : Int32)), (.ref ba), (.int (0 : Int32)), (.int (Int32.ofNat n))] ∧ Z.Warmed39 U.vm ∧ U.heap = h0) (fun _ _ _ _ _ => True) (fun _ U o U' => ∃ v L, o = .returned v ∧ Q_rmCmpL Z ca ba cs kc n kb vs h0 n0 v U'.heap L ∧ FrameEnd U o U' L ({ frames := 0, cells := 0, slots := 0, locals := 0 } : Room).cells ({ frames := 0, cells := 0, slots := 0, locals := 0 } : Room).slots) := by
  refine MetFree.of_bodySF (plainFor_of_name pn_java_lang_StringUTF16) hisR ?_
  intro p e s m args below meth c s₁ Bd hml0 hP hK
  obtain ⟨rfl, hZ, hh⟩ := hP
  have hx := Bd.exec
  have hby := Bd.bytes
  have hml : c.maxLocals = 7 := hml0
  have hown : s.vm.findClass "java/lang/StringUTF16" = some m.cls := findClass_of_methodNamed Bd.named
  have hnm := (name_of_methodNamed Bd.named Bd.method).1
  have X0 : Stand p l e ({ frames := 0, cells := 0, slots := 0, locals := 0 } : Room) s m #[(.ref ca), (.int (0 : Int32)), (.ref ba), (.int (0 : Int32)), (.int (Int32.ofNat n))] below meth c s₁ [] 0 0 := Stand.of_body Bd
  have e0 : s₁.heap = h0 := by rw [← hh, Bd.state]; rfl
  have N0 := Fr.nil n0
  have pre0 : ∀ t_, Steps p.tables e below (s₁.setTop (mkF m 0 #[.val (.ref ca), .val (.int (0 : Int32)), .val (.ref ba), .val (.int (0 : Int32)), .val (.int (Int32.ofNat n)), .unset, .unset] [])) t_ → Steps p.tables e below (s₁.setTop (entryFrame m #[(.ref ca), (.int (0 : Int32)), (.ref ba), (.int (0 : Int32)), (.int (Int32.ofNat n))] 7)) t_ := fun t_ k_ => castTop (ef_rmCmpL m ca (0 : Int32) ba (0 : Int32) (Int32.ofNat n)) k_
  have lt_I1 : @LT.lt Nat _ ca h0.size := I1.lt
  have lt_I2 : @LT.lt Nat _ ba h0.size := I2.lt
  have s1 : ∀ t_, Steps p.tables e below (s₁.setTop (mkF m 3 #[.val (.ref ca), .val (.int (0 : Int32)), .val (.ref ba), .val (.int (0 : Int32)), .val (.int (Int32.ofNat n)), .val (.int (0 : Int32)), .unset] [])) t_ → Steps p.tables e below (s₁.setTop (entryFrame m #[(.ref ca), (.int (0 : Int32)), (.ref ba), (.int (0 : Int32)), (.int (Int32.ofNat n))] 7)) t_ := fun t_ k_ => pre0 t_ (by
    show Steps p.tables e below (s₁.setTop (mkF m 0 #[.val (.ref ca), .val (.int (0 : Int32)), .val (.ref ba), .val (.int (0 : Int32)), .val (.int (Int32.ofNat n)), .unset, .unset] [])) t_
    refine XS.iconst X0.here hx rfl (Jvm.hb hby d_jdk_52_method_21_0) ?_
    refine XS.istore X0.here hx rfl (Jvm.hb hby d_jdk_52_method_21_1) rfl (l' := #[.val (.ref ca), .val (.int (0 : Int32)), .val (.ref ba), .val (.int (0 : Int32)), .val (.int (Int32.ofNat n)), .val (.int (0 : Int32)), .unset]) rfl ?_
    show Steps p.tables e below (s₁.setTop (mkF m 3 #[.val (.ref ca), .val (.int (0 : Int32)), .val (.ref ba), .val (.int (0 : Int32)), .val (.int (Int32.ofNat n)), .val (.int (0 : Int32)), .unset] [])) t_
    exact k_)
  have lp2 : ∀ (k_ : Nat) (j : Nat) (s6 : Slot) (T_ : State) (lo_ : List Loc) (hh2 : Heap), j + k_ = n → Stand p l e ({ frames := 0, cells := 0, slots := 0, locals := 0 } : Room) s m #[(.ref ca), (.int (0 : Int32)), (.ref ba), (.int (0 : Int32)), (.int (Int32.ofNat n))] below meth c T_ lo_ 0 0 → T_.heap = hh2 → Fr n0 lo_ → Keep h0 hh2 [ba] → Arv Z hh2 ba kb .byte (Int32.ofNat n) (own_mix (own_low cs) vs j) (.int (0 : Int32)) → (One s6) → ∃ (T' : State) (lo' : List Loc) (hx_ : Heap) (fe_ : JFrame), Stand p l e ({ frames := 0, cells := 0, slots := 0, locals := 0 } : Room) s m #[(.ref ca), (.int (0 : Int32)), (.ref ba), (.int (0 : Int32)), (.int (Int32.ofNat n))] below meth c T' lo' 0 0 ∧ T'.heap = hx_ ∧ Fr n0 lo' ∧ Keep h0 hx_ [ba] ∧ ((∃ (s6 : Slot), fe_ = (mkF m 44 #[.val (.ref ca), .val (.int (Int32.ofNat n)), .val (.ref ba), .val (.int (Int32.ofNat n)), .val (.int (Int32.ofNat n)), .val (.int (Int32.ofNat n)), s6] []) ∧ Arv Z hx_ ba kb .byte (Int32.ofNat n) (own_mix (own_low cs) vs n) (.int (0 : Int32)))) ∧ ∀ t_, Steps p.tables e below (T'.setTop fe_) t_ → Steps p.tables e below (T_.setTop (mkF m 3 #[.val (.ref ca), .val (.int (Int32.ofNat j)), .val (.ref ba), .val (.int (Int32.ofNat j)), .val (.int (Int32.ofNat n)), .val (.int (Int32.ofNat j)), s6] [])) t_ := by
    intro k_
    induction k_ with
    | zero => 
      intro j s6 T_ lo_ hh2 hm_ X_ e_ N_ K_ F_0 hs6
      have zk_ : h0.size ≤ hh2.size := K_.1
      have s3 : ∀ t_, Steps p.tables e below (T_.setTop (mkF m 44 #[.val (.ref ca), .val (.int (Int32.ofNat j)), .val (.ref ba), .val (.int (Int32.ofNat j)), .val (.int (Int32.ofNat n)), .val (.int (Int32.ofNat j)), s6] [])) t_ → Steps p.tables e below (T_.setTop (mkF m 3 #[.val (.ref ca), .val (.int (Int32.ofNat j)), .val (.ref ba), .val (.int (Int32.ofNat j)), .val (.int (Int32.ofNat n)), .val (.int (Int32.ofNat j)), s6] [])) t_ := fun t_ k_ => (fun _ k_ => k_) t_ (by
        show Steps p.tables e below (T_.setTop (mkF m 3 #[.val (.ref ca), .val (.int (Int32.ofNat j)), .val (.ref ba), .val (.int (Int32.ofNat j)), .val (.int (Int32.ofNat n)), .val (.int (Int32.ofNat j)), s6] [])) t_
        refine XS.iload X_.here hx rfl (Jvm.hb hby d_jdk_52_method_21_3) rfl ?_
        refine XS.iload X_.here hx rfl (Jvm.hb hby d_jdk_52_method_21_5) rfl ?_
        refine XS.icmpYes X_.here hx rfl (pc0 := 7) (pc' := 44) rfl (Jvm.hb hby d_jdk_52_method_21_7) rfl (flt (own_nlt (by omega) (by omega))).2.1 (by decide) (by decide) ?_
        show Steps p.tables e below (T_.setTop (mkF m 44 #[.val (.ref ca), .val (.int (Int32.ofNat j)), .val (.ref ba), .val (.int (Int32.ofNat j)), .val (.int (Int32.ofNat n)), .val (.int (Int32.ofNat j)), s6] [])) _
        show Steps p.tables e below (T_.setTop (mkF m 44 #[.val (.ref ca), .val (.int (Int32.ofNat j)), .val (.ref ba), .val (.int (Int32.ofNat j)), .val (.int (Int32.ofNat n)), .val (.int (Int32.ofNat j)), s6] [])) t_
        exact k_)
      exact ⟨T_, _, _, _, X_, e_, N_, ((Keep.refl h0 [ba]).trans K_ (allS (Or.inl (by simp)) all0)), ⟨s6, (by rw [show j = n by omega]), (by obtain rfl : j = n := (by omega); exact F_0)⟩, s3⟩
    | succ k_ ih => 
      intro j s6 T_ lo_ hh2 hm_ X_ e_ N_ K_ F_0 hs6
      have zk_ : h0.size ≤ hh2.size := K_.1
      have f4 : Arv Z hh2 ca kc .char (Int32.ofNat n) (cs.map Value.int) (.int (0 : Int32)) := (I1.keep K_ (ninS (show @Ne Nat ca ba by omega) nin0))
      obtain ⟨cl5, Ar5, -, S5, M5, H5, -⟩ := id f4
      have hin5 : ¬ ((Int32.ofNat j) < 0 ∨ cl5.slots.size ≤ ((Int32.ofNat j)).toNatClampNeg) := inb_of S5 (own_in (by omega) (by omega))
      have hat5 : cl5.slots[((Int32.ofNat j)).toNatClampNeg]? = some (.int (cs.getD j 0)) := H5.at hin5 (own_getc cs j _ (by omega) (by omega))
      obtain ⟨cl6, Ar6, q6, S6, M6, H6, G6⟩ := id F_0
      have hin6 : ¬ ((Int32.ofNat j) < 0 ∨ cl6.slots.size ≤ ((Int32.ofNat j)).toNatClampNeg) := inb_of S6 (own_in (by omega) (by omega))
      obtain ⟨T7, h7, X7, e7, W7, st7⟩ := stB X_ hx hZ e_ Ar6 (j := (Int32.ofNat j)) hin6 (g := (mkF m 31 #[.val (.ref ca), .val (.int (Int32.ofNat j)), .val (.ref ba), .val (.int (Int32.ofNat j)), .val (.int (Int32.ofNat n)), .val (.int (Int32.ofNat j)), .val (.int (cs.getD j 0))] [(.int (own_lo (cs.getD j 0))), (.int (Int32.ofNat j)), (.ref ba)])) rfl rfl (Jvm.hb hby d_jdk_52_method_21_31)
      have z8 : hh2.size ≤ h7.size := Nat.le_of_eq W7.size.symm
      have V7 : Arv Z h7 ba kb .byte (Int32.ofNat n) (own_mix (own_low cs) vs (j + 1)) (.int (0 : Int32)) := by
        have q : Arv Z h7 ba kb .byte (Int32.ofNat n) ((own_mix (own_low cs) vs j).set j (.int (nar .byte (own_lo (cs.getD j 0))))) (.int (0 : Int32)) := Arv.set Ar6 q6 S6 M6 H6 G6 (fits_nar_byte _) W7 j (own_tn (by omega)) (by rw [own_mixl _ _ _ (by rw [own_lowl]; omega)]; omega)
        rw [own_mixc cs vs j (by omega) (by omega)] at q
        exact q
      have N7 := Fr.snoc X7 N_ (show n0 ≤ ba by omega)
      have s9 : ∀ t_, Steps p.tables e below (T7.setTop (mkF m 3 #[.val (.ref ca), .val (.int ((Int32.ofNat j) + (1 : Int32))), .val (.ref ba), .val (.int ((Int32.ofNat j) + (1 : Int32))), .val (.int (Int32.ofNat n)), .val (.int ((Int32.ofNat j) + (1 : Int32))), .val (.int (cs.getD j 0))] [])) t_ → Steps p.tables e below (T_.setTop (mkF m 3 #[.val (.ref ca), .val (.int (Int32.ofNat j)), .val (.ref ba), .val (.int (Int32.ofNat j)), .val (.int (Int32.ofNat n)), .val (.int (Int32.ofNat j)), s6] [])) t_ := fun t_ k_ => (fun _ k_ => k_) t_ (by
        show Steps p.tables e below (T_.setTop (mkF m 3 #[.val (.ref ca), .val (.int (Int32.ofNat j)), .val (.ref ba), .val (.int (Int32.ofNat j)), .val (.int (Int32.ofNat n)), .val (.int (Int32.ofNat j)), s6] [])) t_
        refine XS.iload X_.here hx rfl (Jvm.hb hby d_jdk_52_method_21_3) rfl ?_
        refine XS.iload X_.here hx rfl (Jvm.hb hby d_jdk_52_method_21_5) rfl ?_
        refine XS.icmpNo X_.here hx rfl (Jvm.hb hby d_jdk_52_method_21_7) rfl (tlt (own_lt (by omega) (by omega))).2.1 ?_
        show Steps p.tables e below (T_.setTop (mkF m 10 #[.val (.ref ca), .val (.int (Int32.ofNat j)), .val (.ref ba), .val (.int (Int32.ofNat j)), .val (.int (Int32.ofNat n)), .val (.int (Int32.ofNat j)), s6] [])) _
        refine XS.aloadN X_.here hx rfl (Jvm.hb hby d_jdk_52_method_21_10) rfl rfl ?_
        refine XS.iloadN X_.here hx rfl (Jvm.hb hby d_jdk_52_method_21_11) rfl ?_
        refine X_.caload hx (j := (Int32.ofNat j)) (v := (.int (cs.getD j 0))) (by rw [e_]; exact Ar5.1) (State.isArrayOf_alike hZ.alike Ar5.2.1) Ar5.2.2 hin5 hat5 (g := (mkF m 12 #[.val (.ref ca), .val (.int (Int32.ofNat j)), .val (.ref ba), .val (.int (Int32.ofNat j)), .val (.int (Int32.ofNat n)), .val (.int (Int32.ofNat j)), s6] [(.int (Int32.ofNat j)), (.ref ca)])) rfl rfl (Jvm.hb hby d_jdk_52_method_21_12) _ ?_
        show Steps p.tables e below (T_.setTop (mkF m 13 #[.val (.ref ca), .val (.int (Int32.ofNat j)), .val (.ref ba), .val (.int (Int32.ofNat j)), .val (.int (Int32.ofNat n)), .val (.int (Int32.ofNat j)), s6] [(.int (cs.getD j 0))])) _
        refine XS.istore X_.here hx rfl (Jvm.hb hby d_jdk_52_method_21_13) rfl (l' := #[.val (.ref ca), .val (.int (Int32.ofNat j)), .val (.ref ba), .val (.int (Int32.ofNat j)), .val (.int (Int32.ofNat n)), .val (.int (Int32.ofNat j)), .val (.int (cs.getD j 0))]) (os_rmCmpL_13 hs6) ?_
        refine XS.iload X_.here hx rfl (Jvm.hb hby d_jdk_52_method_21_15) rfl ?_
        refine XS.sipush X_.here hx rfl (Jvm.hb hby d_jdk_52_method_21_17) ?_
        refine XS.icmpYes X_.here hx rfl (pc0 := 20) (pc' := 26) rfl (Jvm.hb hby d_jdk_52_method_21_20) rfl (flt (hlat _ (own_mem cs j (by omega)))).2.2.2 (by decide) (by decide) ?_
        show Steps p.tables e below (T_.setTop (mkF m 26 #[.val (.ref ca), .val (.int (Int32.ofNat j)), .val (.ref ba), .val (.int (Int32.ofNat j)), .val (.int (Int32.ofNat n)), .val (.int (Int32.ofNat j)), .val (.int (cs.getD j 0))] [])) _
        refine XS.aloadN X_.here hx rfl (Jvm.hb hby d_jdk_52_method_21_26) rfl rfl ?_
        refine XS.iloadN X_.here hx rfl (Jvm.hb hby d_jdk_52_method_21_27) rfl ?_
        refine XS.iload X_.here hx rfl (Jvm.hb hby d_jdk_52_method_21_28) rfl ?_
        refine XS.i2b X_.here hx rfl (Jvm.hb hby d_jdk_52_method_21_30) rfl ?_
        refine st7 _ ?_
        show Steps p.tables e below (T7.setTop (mkF m 32 #[.val (.ref ca), .val (.int (Int32.ofNat j)), .val (.ref ba), .val (.int (Int32.ofNat j)), .val (.int (Int32.ofNat n)), .val (.int (Int32.ofNat j)), .val (.int (cs.getD j 0))] [])) _
        refine XS.iinc X7.here hx rfl (Jvm.hb hby d_jdk_52_method_21_32) rfl (l' := #[.val (.ref ca), .val (.int ((Int32.ofNat j) + (1 : Int32))), .val (.ref ba), .val (.int (Int32.ofNat j)), .val (.int (Int32.ofNat n)), .val (.int (Int32.ofNat j)), .val (.int (cs.getD j 0))]) rfl ?_
        refine XS.iinc X7.here hx rfl (Jvm.hb hby d_jdk_52_method_21_35) rfl (l' := #[.val (.ref ca), .val (.int ((Int32.ofNat j) + (1 : Int32))), .val (.ref ba), .val (.int ((Int32.ofNat j) + (1 : Int32))), .val (.int (Int32.ofNat n)), .val (.int (Int32.ofNat j)), .val (.int (cs.getD j 0))]) rfl ?_
        refine XS.iinc X7.here hx rfl (Jvm.hb hby d_jdk_52_method_21_38) rfl (l' := #[.val (.ref ca), .val (.int ((Int32.ofNat j) + (1 : Int32))), .val (.ref ba), .val (.int ((Int32.ofNat j) + (1 : Int32))), .val (.int (Int32.ofNat n)), .val (.int ((Int32.ofNat j) + (1 : Int32))), .val (.int (cs.getD j 0))]) rfl ?_
        refine XS.goto X7.here hx rfl (pc0 := 41) (pc' := 3) rfl (Jvm.hb hby d_jdk_52_method_21_41) (by decide) (by decide) ?_
        show Steps p.tables e below (T7.setTop (mkF m 3 #[.val (.ref ca), .val (.int ((Int32.ofNat j) + (1 : Int32))), .val (.ref ba), .val (.int ((Int32.ofNat j) + (1 : Int32))), .val (.int (Int32.ofNat n)), .val (.int ((Int32.ofNat j) + (1 : Int32))), .val (.int (cs.getD j 0))] [])) t_
        exact k_)
      obtain ⟨T10, lo10, h10, fe10, X10, e10, N10, K10, A10, st10⟩ := ih (j + 1) (.val (.int (cs.getD j 0))) T7 _ h7 (by omega) X7 e7 N7 (((Keep.refl h0 [ba]).trans K_ (allS (Or.inl (by simp)) all0)).wr W7 (Or.inl (by simp))) V7 (One.val rfl)
      exact ⟨T10, lo10, h10, fe10, X10, e10, N10, K10, A10, fun t_ k_ => s9 t_ (castTop (by rw [own_up]) (st10 t_ k_))⟩
  obtain ⟨T11, lo11, h11, fe11, X11, e11, N11, K11, A11, st11⟩ := lp2 n 0 .unset s₁ _ h0 (by omega) X0 e0 N0 (Keep.refl _ _) (by rw [own_mix0]; exact I2) One.u
  have z12 : h0.size ≤ h11.size := K11.1
  obtain ⟨s6_11, rfl, G11_0⟩ := A11
  have s13 : ∀ t_, Steps p.tables e below (T11.setTop (mkF m 44 #[.val (.ref ca), .val (.int (Int32.ofNat n)), .val (.ref ba), .val (.int (Int32.ofNat n)), .val (.int (Int32.ofNat n)), .val (.int (Int32.ofNat n)), s6_11] [])) t_ → Steps p.tables e below (s₁.setTop (entryFrame m #[(.ref ca), (.int (0 : Int32)), (.ref ba), (.int (0 : Int32)), (.int (Int32.ofNat n))] 7)) t_ := fun t_ k_ => s1 t_ (st11 t_ k_)
  have s14 : ∀ t_, Steps p.tables e below (T11.setTop (mkF m 46 #[.val (.ref ca), .val (.int (Int32.ofNat n)), .val (.ref ba), .val (.int (Int32.ofNat n)), .val (.int (Int32.ofNat n)), .val (.int (Int32.ofNat n)), s6_11] [(.int (Int32.ofNat n))])) t_ → Steps p.tables e below (s₁.setTop (entryFrame m #[(.ref ca), (.int (0 : Int32)), (.ref ba), (.int (0 : Int32)), (.int (Int32.ofNat n))] 7)) t_ := fun t_ k_ => s13 t_ (by
    show Steps p.tables e below (T11.setTop (mkF m 44 #[.val (.ref ca), .val (.int (Int32.ofNat n)), .val (.ref ba), .val (.int (Int32.ofNat n)), .val (.int (Int32.ofNat n)), .val (.int (Int32.ofNat n)), s6_11] [])) t_
    refine XS.iload X11.here hx rfl (Jvm.hb hby d_jdk_52_method_21_44) rfl ?_
    show Steps p.tables e below (T11.setTop (mkF m 46 #[.val (.ref ca), .val (.int (Int32.ofNat n)), .val (.ref ba), .val (.int (Int32.ofNat n)), .val (.int (Int32.ofNat n)), .val (.int (Int32.ofNat n)), s6_11] [(.int (Int32.ofNat n))])) t_
    exact k_)
  obtain ⟨fs, hr, hrun, hended, hW, hsame⟩ := X11.leave (v := some (.int (Int32.ofNat n))) (fun h => by rw [Bd.returns] at h; cases h)
  refine ⟨_, _, s14 _ ?_, hrun, hended, _, _, rfl, ?_, ⟨_, rfl⟩, hW, hsame.mono (by decide) (by decide)⟩
  · show Steps p.tables e below (T11.setTop (mkF m 46 #[.val (.ref ca), .val (.int (Int32.ofNat n)), .val (.ref ba), .val (.int (Int32.ofNat n)), .val (.int (Int32.ofNat n)), .val (.int (Int32.ofNat n)), s6_11] [(.int (Int32.ofNat n))])) _
    exact retI X11 hx Bd.returns (Jvm.hb hby d_jdk_52_method_21_46) hr
  · show Q_rmCmpL Z _ _ _ _ _ _ _ h0 n0 _ T11.heap _
    rw [e11]
    exact ⟨rfl, N11, ((Keep.refl h0 [ba]).trans K11 (allS (Or.inl (by simp)) all0)), G11_0⟩
theorem d_jdk_52_method_15_0 : decode jdk_52_method_15_code 0 = .ok (.iload_n 1, 1) := by decide +kernel
theorem d_jdk_52_method_15_1 : decode jdk_52_method_15_code 1 = .ok (.aload_n 0, 1) := by decide +kernel
theorem d_jdk_52_method_15_2 : decode jdk_52_method_15_code 2 = .ok (.arraylength, 1) := by decide +kernel
theorem d_jdk_52_method_15_3 : decode jdk_52_method_15_code 3 = .ok (.isub, 1) := by decide +kernel
theorem d_jdk_52_method_15_4 : decode jdk_52_method_15_code 4 = .ok (.bipush 31, 2) := by decide +kernel
theorem d_jdk_52_method_15_6 : decode jdk_52_method_15_code 6 = .ok (.iushr, 1) := by decide +kernel
theorem d_jdk_52_method_15_7 : decode jdk_52_method_15_code 7 = .ok (.i2b, 1) := by decide +kernel
theorem d_jdk_52_method_15_8 : decode jdk_52_method_15_code 8 = .ok (.ireturn, 1) := by decide +kernel
theorem ef_rmCod (m : MethodId) (x0 : Addr) (x1 : Int32) : entryFrame m #[(.ref x0), (.int x1)] 2 = mkF m 0 #[.val (.ref x0), .val (.int x1)] [] := by first | (simp [entryFrame, mkF, argsToLocals, Value.category]; done) | rfl
def Q_rmCod (Z : State) (ba : Addr) (nn : Int32) (kb : ClassId) (zz : Int32) (vs : List Value) (h0 : Heap) (n0 : Nat) (v : Option Value) (h : Heap) (L : List Loc) : Prop := (v = some (.int (nar .byte (own_lo (ushr (nn - zz) (31 : Int32)))))) ∧ (Fr n0 L) ∧ (h = h0)
set_option maxRecDepth 65536 in
set_option maxHeartbeats 40000000 in
theorem rmCod (l : Launch) (Z : State) (a0 : Array Value) (hw : ∀ d ∈ tables_1, d.before a0 Z = true) (ws : List Jvm.Cond) (ba : Addr) (nn : Int32) (kb : ClassId) (zz : Int32) (vs : List Value) (h0 : Heap) (n0 : Nat) (Z0 : n0 ≤ h0.size) (I1 : Arv Z h0 ba kb .byte zz vs (.int (0 : Int32))) :
    MetFree l (⟨"java/lang/StringUTF16", "coderFromArrayLen", "([BI)B"⟩ : MethodName) (head1 (Jvm.Cond.code (⟨"java/lang/StringUTF16", "coderFromArrayLen", "([BI)B"⟩ : MethodName) jdk_52_method_15_code 2 (some .byte) :: ws) ({ frames := 0, cells := 0, slots := 0, locals := 0 } : Room)) (fun ar_ U => ar_ = #[(.ref ba), (.int nn)] ∧ Z.Warmed39 U.vm ∧ U.heap = h0) (fun _ _ _ _ _ => True) (fun _ U o U' => ∃ v L, o = .returned v ∧ Q_rmCod Z ba nn kb zz vs h0 n0 v U'.heap L ∧ FrameEnd U o U' L ({ frames := 0, cells := 0, slots := 0, locals := 0 } : Room).cells ({ frames := 0, cells := 0, slots := 0, locals := 0 } : Room).slots) := by
  refine MetFree.of_bodySF (plainFor_of_name pn_java_lang_StringUTF16) hisR ?_
  intro p e s m args below meth c s₁ Bd hml0 hP hK
  obtain ⟨rfl, hZ, hh⟩ := hP
  have hx := Bd.exec
  have hby := Bd.bytes
  have hml : c.maxLocals = 2 := hml0
  have hown : s.vm.findClass "java/lang/StringUTF16" = some m.cls := findClass_of_methodNamed Bd.named
  have hnm := (name_of_methodNamed Bd.named Bd.method).1
  have X0 : Stand p l e ({ frames := 0, cells := 0, slots := 0, locals := 0 } : Room) s m #[(.ref ba), (.int nn)] below meth c s₁ [] 0 0 := Stand.of_body Bd
  have e0 : s₁.heap = h0 := by rw [← hh, Bd.state]; rfl
  have N0 := Fr.nil n0
  have pre0 : ∀ t_, Steps p.tables e below (s₁.setTop (mkF m 0 #[.val (.ref ba), .val (.int nn)] [])) t_ → Steps p.tables e below (s₁.setTop (entryFrame m #[(.ref ba), (.int nn)] 2)) t_ := fun t_ k_ => castTop (ef_rmCod m ba nn) k_
  have lt_I1 : @LT.lt Nat _ ba h0.size := I1.lt
  obtain ⟨cl1, Ar1, -, S1, M1, -, -⟩ := id I1
  have s2 : ∀ t_, Steps p.tables e below (s₁.setTop (mkF m 8 #[.val (.ref ba), .val (.int nn)] [(.int (own_lo (ushr (nn - zz) (31 : Int32))))])) t_ → Steps p.tables e below (s₁.setTop (entryFrame m #[(.ref ba), (.int nn)] 2)) t_ := fun t_ k_ => pre0 t_ (by
    show Steps p.tables e below (s₁.setTop (mkF m 0 #[.val (.ref ba), .val (.int nn)] [])) t_
    refine XS.iloadN X0.here hx rfl (Jvm.hb hby d_jdk_52_method_15_0) rfl ?_
    refine XS.aloadN X0.here hx rfl (Jvm.hb hby d_jdk_52_method_15_1) rfl rfl ?_
    refine X0.arraylength hx (by rw [e0]; exact Ar1.1) (State.isArrayOf_alike hZ.alike Ar1.2.1) (g := (mkF m 2 #[.val (.ref ba), .val (.int nn)] [(.ref ba), (.int nn)])) rfl rfl (Jvm.hb hby d_jdk_52_method_15_2) _ ?_
    rw [len_of S1 M1]
    show Steps p.tables e below (s₁.setTop (mkF m 3 #[.val (.ref ba), .val (.int nn)] [(.int zz), (.int nn)])) _
    refine XS.isub X0.here hx rfl (Jvm.hb hby d_jdk_52_method_15_3) rfl ?_
    refine XS.bipush X0.here hx rfl (Jvm.hb hby d_jdk_52_method_15_4) ?_
    refine XS.iushr X0.here hx rfl (Jvm.hb hby d_jdk_52_method_15_6) rfl ?_
    refine XS.i2b X0.here hx rfl (Jvm.hb hby d_jdk_52_method_15_7) rfl ?_
    show Steps p.tables e below (s₁.setTop (mkF m 8 #[.val (.ref ba), .val (.int nn)] [(.int (own_lo (ushr (nn - zz) (31 : Int32))))])) t_
    exact k_)
  obtain ⟨fs, hr, hrun, hended, hW, hsame⟩ := X0.leave (v := some (.int (nar .byte (own_lo (ushr (nn - zz) (31 : Int32)))))) (fun h => by rw [Bd.returns] at h; cases h)
  refine ⟨_, _, s2 _ ?_, hrun, hended, _, _, rfl, ?_, ⟨_, rfl⟩, hW, hsame.mono (by decide) (by decide)⟩
  · show Steps p.tables e below (s₁.setTop (mkF m 8 #[.val (.ref ba), .val (.int nn)] [(.int (own_lo (ushr (nn - zz) (31 : Int32))))])) _
    exact retN X0 hx (t := .byte) Bd.returns (by simp) (Jvm.hb hby d_jdk_52_method_15_8) hr
  · show Q_rmCod Z _ _ _ _ _ h0 n0 _ s₁.heap _
    rw [e0]
    exact ⟨rfl, N0, rfl⟩
theorem d_jdk_52_method_16_0 : decode jdk_52_method_16_code 0 = .ok (.iload_n 2, 1) := by decide +kernel
theorem d_jdk_52_method_16_1 : decode jdk_52_method_16_code 1 = .ok (.newarray .byte, 2) := by decide +kernel
theorem d_jdk_52_method_16_3 : decode jdk_52_method_16_code 3 = .ok (.astore_n 3, 1) := by decide +kernel
theorem d_jdk_52_method_16_4 : decode jdk_52_method_16_code 4 = .ok (.aload_n 0, 1) := by decide +kernel
theorem d_jdk_52_method_16_5 : decode jdk_52_method_16_code 5 = .ok (.iload_n 1, 1) := by decide +kernel
theorem d_jdk_52_method_16_6 : decode jdk_52_method_16_code 6 = .ok (.aload_n 3, 1) := by decide +kernel
theorem d_jdk_52_method_16_7 : decode jdk_52_method_16_code 7 = .ok (.iconst 0, 1) := by decide +kernel
theorem d_jdk_52_method_16_8 : decode jdk_52_method_16_code 8 = .ok (.iload_n 2, 1) := by decide +kernel
theorem pd___CI_BII_I : parseMethodDescriptor "([CI[BII)I" = some ⟨[(.array .char), .int, (.array .byte), .int, .int], some .int⟩ := by decide +kernel
theorem d_jdk_52_method_16_9 : decode jdk_52_method_16_code 9 = .ok (.invokestatic 115, 3) := by decide +kernel
theorem d_jdk_52_method_16_12 : decode jdk_52_method_16_code 12 = .ok (.istore 4, 2) := by decide +kernel
theorem d_jdk_52_method_16_14 : decode jdk_52_method_16_code 14 = .ok (.iload 4, 2) := by decide +kernel
theorem d_jdk_52_method_16_16 : decode jdk_52_method_16_code 16 = .ok (.iload_n 2, 1) := by decide +kernel
theorem d_jdk_52_method_16_17 : decode jdk_52_method_16_code 17 = .ok (.if_icmp .eq 40, 3) := by decide +kernel
theorem d_jdk_52_method_16_57 : decode jdk_52_method_16_code 57 = .ok (.aload_n 3, 1) := by decide +kernel
theorem d_jdk_52_method_16_58 : decode jdk_52_method_16_code 58 = .ok (.areturn, 1) := by decide +kernel
theorem ef_rmComp (m : MethodId) (x0 : Addr) (x1 : Int32) (x2 : Int32) : entryFrame m #[(.ref x0), (.int x1), (.int x2)] 6 = mkF m 0 #[.val (.ref x0), .val (.int x1), .val (.int x2), .unset, .unset, .unset] [] := by first | (simp [entryFrame, mkF, argsToLocals, Value.category]; done) | rfl
def Q_rmComp (Z : State) (ca : Addr) (cs : List Int32) (kc : ClassId) (n : Nat) (h0 : Heap) (n0 : Nat) (v : Option Value) (h : Heap) (L : List Loc) : Prop := ∃ (b : Addr), ∃ (kb : ClassId), (v = some (.ref b)) ∧ (Fr n0 L) ∧ (Keep h0 h []) ∧ (Arv Z h b kb .byte (Int32.ofNat (own_enl cs)) (own_enc cs) (.int (0 : Int32))) ∧ (h0.size ≤ b)
set_option maxRecDepth 65536 in
set_option maxHeartbeats 40000000 in
theorem rmComp (l : Launch) (Z : State) (a0 : Array Value) (hw : ∀ d ∈ tables_1, d.before a0 Z = true) (ws : List Jvm.Cond) (ca : Addr) (cs : List Int32) (kc : ClassId) (n : Nat) (h0 : Heap) (n0 : Nat) (Z0 : n0 ≤ h0.size) (I1 : Arv Z h0 ca kc .char (Int32.ofNat n) (cs.map Value.int) (.int (0 : Int32))) (hn : cs.length = n) (hb : n ≤ 3) (hlat : own_lat cs) :
    MetFree l (⟨"java/lang/StringUTF16", "compress", "([CII)[B"⟩ : MethodName) (head1 (Jvm.Cond.code (⟨"java/lang/StringUTF16", "compress", "([CII)[B"⟩ : MethodName) jdk_52_method_16_code 6 (some (.array .byte)) :: ws) ({ frames := 1, cells := 1, slots := 3, locals := 18 } : Room)) (fun ar_ U => ar_ = #[(.ref ca), (.int (0 : Int32)), (.int (Int32.ofNat n))] ∧ Z.Warmed39 U.vm ∧ U.heap = h0) (fun _ _ _ _ _ => True) (fun _ U o U' => ∃ v L, o = .returned v ∧ Q_rmComp Z ca cs kc n h0 n0 v U'.heap L ∧ FrameEnd U o U' L ({ frames := 1, cells := 1, slots := 3, locals := 18 } : Room).cells ({ frames := 1, cells := 1, slots := 3, locals := 18 } : Room).slots) := by
  refine MetFree.of_bodySF (plainFor_of_name pn_java_lang_StringUTF16) hisR ?_
  intro p e s m args below meth c s₁ Bd hml0 hP hK
  obtain ⟨rfl, hZ, hh⟩ := hP
  have hx := Bd.exec
  have hby := Bd.bytes
  have hml : c.maxLocals = 6 := hml0
  have hown : s.vm.findClass "java/lang/StringUTF16" = some m.cls := findClass_of_methodNamed Bd.named
  have hnm := (name_of_methodNamed Bd.named Bd.method).1
  have X0 : Stand p l e ({ frames := 1, cells := 1, slots := 3, locals := 18 } : Room) s m #[(.ref ca), (.int (0 : Int32)), (.int (Int32.ofNat n))] below meth c s₁ [] 0 0 := Stand.of_body Bd
  have e0 : s₁.heap = h0 := by rw [← hh, Bd.state]; rfl
  have N0 := Fr.nil n0
  have pre0 : ∀ t_, Steps p.tables e below (s₁.setTop (mkF m 0 #[.val (.ref ca), .val (.int (0 : Int32)), .val (.int (Int32.ofNat n)), .unset, .unset, .unset] [])) t_ → Steps p.tables e below (s₁.setTop (entryFrame m #[(.ref ca), (.int (0 : Int32)), (.int (Int32.ofNat n))] 6)) t_ := fun t_ k_ => castTop (ef_rmComp m ca (0 : Int32) (Int32.ofNat n)) k_
  have lt_I1 : @LT.lt Nat _ ca h0.size := I1.lt
  obtain ⟨T1, h1, k1, X1, e1, E1, A1, st1⟩ := newP X0 hx hZ (hw _ (List.mem_of_getElem? (i := 19) rfl)) e0 (g := (mkF m 1 #[.val (.ref ca), .val (.int (0 : Int32)), .val (.int (Int32.ofNat n)), .unset, .unset, .unset] [(.int (Int32.ofNat n))])) rfl (Jvm.hb hby d_jdk_52_method_16_1) rfl (own_nn (by omega)) (cap := 3) (by rw [own_tn (by omega)]; omega) (by decide) (by decide) (by decide)
  obtain ⟨b1, g1⟩ : ∃ z, z = h0.size := ⟨_, rfl⟩
  rw [← g1] at A1 st1
  have z2 : h0.size ≤ h1.size := E1.1
  have l1 : b1 < h1.size := A1.lt
  have V1 : Arv Z h1 b1 k1 .byte (Int32.ofNat n) (List.replicate n (.int (0 : Int32))) (.int (0 : Int32)) := (Arv.new A1 (own_nn (by omega))).pad (pad_rep [] _ n)
  have f3 : Arv Z h1 ca kc .char (Int32.ofNat n) (cs.map Value.int) (.int (0 : Int32)) := (I1.ext E1)
  have Zc4 : n0 ≤ h1.size := by omega
  obtain ⟨_, _, ⟨T5, L5, k5, n5⟩, -, X5, ⟨Lc5, hQ5, l5, y5, z5⟩, st5⟩ := Jvm.LawKit.callS X1 hx (y := (⟨"java/lang/StringUTF16", "compress", "([CI[BII)I"⟩ : MethodName)) hown (mvT hZ (hw _ (List.mem_of_getElem? (i := 69) rfl))) (mvT hZ (hw _ (List.mem_of_getElem? (i := 70) rfl))) (mvT hZ (hw _ (List.mem_of_getElem? (i := 67) rfl))) (mvT hZ (hw _ (List.mem_of_getElem? (i := 71) rfl))) (by decide) (backOf (W := 0) (rmCmpL l Z a0 hw [] ca b1 cs kc n k1 (List.replicate n (.int (0 : Int32))) h1 n0 Zc4 f3 V1 (hn : cs.length = n) (hb : n ≤ 3) (by simp) (by first | assumption | rfl | decide | omega : n0 ≤ b1) (by first | assumption | rfl | decide | omega : @Ne Nat ca b1) (hlat : own_lat cs)) hZ (hw _ (List.mem_of_getElem? (i := 71) rfl)) (hw _ (List.mem_of_getElem? (i := 67) rfl)) (by decide) (by decide)) (g := (mkF m 9 #[.val (.ref ca), .val (.int (0 : Int32)), .val (.int (Int32.ofNat n)), .val (.ref b1), .unset, .unset] [(.int (Int32.ofNat n)), (.int (0 : Int32)), (.ref b1), (.int (0 : Int32)), (.ref ca)])) rfl (by rw [hml]; rfl) (argsL := [(.ref ca), (.int (0 : Int32)), (.ref b1), (.int (0 : Int32)), (.int (Int32.ofNat n))]) (rest := []) (lenOf pd___CI_BII_I rfl) rfl (by show 2 * 0 + _ ≤ _; exact Nat.le_of_eq rfl) (Jvm.hb hby d_jdk_52_method_16_9) (fun _ _ => ⟨rfl, e1, (by decide : 1 + 0 ≤ _), (by decide : 3 + 0 ≤ _)⟩)
  dsimp only [Pt.U, Pt.locs, Pt.cells, Pt.slots] at X5 l5 y5 z5 st5 hQ5
  subst l5 y5 z5
  obtain ⟨rfl, N5q, K5, Fq5_0⟩ := hQ5
  have N5 := Fr.app N0 N5q
  obtain ⟨h5, e5⟩ : ∃ z, T5.heap = z := ⟨_, rfl⟩
  rw [e5] at K5 Fq5_0
  have z6 : h1.size ≤ h5.size := K5.1
  have lt5_0 : @LT.lt Nat _ b1 h5.size := Fq5_0.lt
  have s7 : ∀ t_, Steps p.tables e below (T5.setTop (mkF m 58 #[.val (.ref ca), .val (.int (0 : Int32)), .val (.int (Int32.ofNat n)), .val (.ref b1), .val (.int (Int32.ofNat n)), .unset] [(.ref b1)])) t_ → Steps p.tables e below (s₁.setTop (entryFrame m #[(.ref ca), (.int (0 : Int32)), (.int (Int32.ofNat n))] 6)) t_ := fun t_ k_ => pre0 t_ (by
    show Steps p.tables e below (s₁.setTop (mkF m 0 #[.val (.ref ca), .val (.int (0 : Int32)), .val (.int (Int32.ofNat n)), .unset, .unset, .unset] [])) t_
    refine XS.iloadN X0.here hx rfl (Jvm.hb hby d_jdk_52_method_16_0) rfl ?_
    refine st1 _ ?_
    show Steps p.tables e below (T1.setTop (mkF m 3 #[.val (.ref ca), .val (.int (0 : Int32)), .val (.int (Int32.ofNat n)), .unset, .unset, .unset] [(.ref b1)])) _
    refine XS.astoreN X1.here hx rfl (Jvm.hb hby d_jdk_52_method_16_3) rfl rfl (l' := #[.val (.ref ca), .val (.int (0 : Int32)), .val (.int (Int32.ofNat n)), .val (.ref b1), .unset, .unset]) rfl ?_
    refine XS.aloadN X1.here hx rfl (Jvm.hb hby d_jdk_52_method_16_4) rfl rfl ?_
    refine XS.iloadN X1.here hx rfl (Jvm.hb hby d_jdk_52_method_16_5) rfl ?_
    refine XS.aloadN X1.here hx rfl (Jvm.hb hby d_jdk_52_method_16_6) rfl rfl ?_
    refine XS.iconst X1.here hx rfl (Jvm.hb hby d_jdk_52_method_16_7) ?_
    refine XS.iloadN X1.here hx rfl (Jvm.hb hby d_jdk_52_method_16_8) rfl ?_
    show Steps p.tables e below (T1.setTop (mkF m 9 #[.val (.ref ca), .val (.int (0 : Int32)), .val (.int (Int32.ofNat n)), .val (.ref b1), .unset, .unset] [(.int (Int32.ofNat n)), (.int (0 : Int32)), (.ref b1), (.int (0 : Int32)), (.ref ca)])) _
    refine st5 _ ?_
    show Steps p.tables e below (T5.setTop (mkF m 12 #[.val (.ref ca), .val (.int (0 : Int32)), .val (.int (Int32.ofNat n)), .val (.ref b1), .unset, .unset] [(.int (Int32.ofNat n))])) _
    refine XS.istore X5.here hx rfl (Jvm.hb hby d_jdk_52_method_16_12) rfl (l' := #[.val (.ref ca), .val (.int (0 : Int32)), .val (.int (Int32.ofNat n)), .val (.ref b1), .val (.int (Int32.ofNat n)), .unset]) rfl ?_
    refine XS.iload X5.here hx rfl (Jvm.hb hby d_jdk_52_method_16_14) rfl ?_
    refine XS.iloadN X5.here hx rfl (Jvm.hb hby d_jdk_52_method_16_16) rfl ?_
    refine XS.icmpYes X5.here hx rfl (pc0 := 17) (pc' := 57) rfl (Jvm.hb hby d_jdk_52_method_16_17) rfl (teq rfl).1 (by decide) (by decide) ?_
    show Steps p.tables e below (T5.setTop (mkF m 57 #[.val (.ref ca), .val (.int (0 : Int32)), .val (.int (Int32.ofNat n)), .val (.ref b1), .val (.int (Int32.ofNat n)), .unset] [])) _
    refine XS.aloadN X5.here hx rfl (Jvm.hb hby d_jdk_52_method_16_57) rfl rfl ?_
    show Steps p.tables e below (T5.setTop (mkF m 58 #[.val (.ref ca), .val (.int (0 : Int32)), .val (.int (Int32.ofNat n)), .val (.ref b1), .val (.int (Int32.ofNat n)), .unset] [(.ref b1)])) t_
    exact k_)
  obtain ⟨fs, hr, hrun, hended, hW, hsame⟩ := X5.leave (v := some (.ref b1)) (fun h => by rw [Bd.returns] at h; cases h)
  refine ⟨_, _, s7 _ ?_, hrun, hended, _, _, rfl, ?_, ⟨_, rfl⟩, hW, hsame.mono (by decide) (by decide)⟩
  · show Steps p.tables e below (T5.setTop (mkF m 58 #[.val (.ref ca), .val (.int (0 : Int32)), .val (.int (Int32.ofNat n)), .val (.ref b1), .val (.int (Int32.ofNat n)), .unset] [(.ref b1)])) _
    jvm_step X5.here [X5.here.top, hx, (Jvm.hb hby d_jdk_52_method_16_58), X5.method', Bd.returns, Value.isRef, FieldType.isReference]
    first | (intro acts; rw [hr _ acts rfl rfl rfl]) | rw [hr _ _ rfl rfl rfl]
    exact Steps.refl _
  · show Q_rmComp Z _ _ _ _ h0 n0 _ T5.heap _
    rw [e5]
    exact ⟨b1, k1, rfl, N5, (((Keep.refl h0 []).ext E1).trans K5 (allS (Or.inr (show h0.size ≤ b1 by omega)) all0)), (own_fixL hlat Fq5_0 hn (by simp)), by omega⟩
theorem pn_java_lang_String : plainName "java/lang/String" = true := by first | (simp [plainName, overriddenIn]; done) | decide +kernel
theorem d_jdk_42_method_149_0 : decode jdk_42_method_149_code 0 = .ok (.aload_n 0, 1) := by decide +kernel
theorem d_jdk_42_method_149_1 : decode jdk_42_method_149_code 1 = .ok (.invokespecial 1, 3) := by decide +kernel
theorem d_jdk_42_method_149_4 : decode jdk_42_method_149_code 4 = .ok (.iload_n 3, 1) := by decide +kernel
theorem d_jdk_42_method_149_5 : decode jdk_42_method_149_code 5 = .ok (.ifCond .ne 22, 3) := by decide +kernel
theorem d_jdk_42_method_149_8 : decode jdk_42_method_149_code 8 = .ok (.aload_n 0, 1) := by decide +kernel
theorem d_jdk_42_method_149_9 : decode jdk_42_method_149_code 9 = .ok (.ldc 7, 2) := by decide +kernel
theorem d_jdk_42_method_149_11 : decode jdk_42_method_149_code 11 = .ok (.getfield 9, 3) := by decide +kernel
theorem d_jdk_42_method_149_14 : decode jdk_42_method_149_code 14 = .ok (.putfield 9, 3) := by decide +kernel
theorem d_jdk_42_method_149_17 : decode jdk_42_method_149_code 17 = .ok (.aload_n 0, 1) := by decide +kernel
theorem d_jdk_42_method_149_18 : decode jdk_42_method_149_code 18 = .ok (.ldc 7, 2) := by decide +kernel
theorem d_jdk_42_method_149_20 : decode jdk_42_method_149_code 20 = .ok (.getfield 15, 3) := by decide +kernel
theorem d_jdk_42_method_149_23 : decode jdk_42_method_149_code 23 = .ok (.putfield 15, 3) := by decide +kernel
theorem d_jdk_42_method_149_26 : decode jdk_42_method_149_code 26 = .ok (.return_, 1) := by decide +kernel
theorem d_jdk_42_method_149_27 : decode jdk_42_method_149_code 27 = .ok (.getstatic 38, 3) := by decide +kernel
theorem d_jdk_42_method_149_30 : decode jdk_42_method_149_code 30 = .ok (.ifCond .eq 28, 3) := by decide +kernel
theorem d_jdk_42_method_149_33 : decode jdk_42_method_149_code 33 = .ok (.aload_n 1, 1) := by decide +kernel
theorem d_jdk_42_method_149_34 : decode jdk_42_method_149_code 34 = .ok (.iload_n 2, 1) := by decide +kernel
theorem d_jdk_42_method_149_35 : decode jdk_42_method_149_code 35 = .ok (.iload_n 3, 1) := by decide +kernel
theorem pd___CII__B : parseMethodDescriptor "([CII)[B" = some ⟨[(.array .char), .int, .int], some (.array .byte)⟩ := by decide +kernel
theorem d_jdk_42_method_149_36 : decode jdk_42_method_149_code 36 = .ok (.invokestatic 177, 3) := by decide +kernel
theorem d_jdk_42_method_149_39 : decode jdk_42_method_149_code 39 = .ok (.astore 5, 2) := by decide +kernel
theorem d_jdk_42_method_149_41 : decode jdk_42_method_149_code 41 = .ok (.aload_n 0, 1) := by decide +kernel
theorem d_jdk_42_method_149_42 : decode jdk_42_method_149_code 42 = .ok (.aload 5, 2) := by decide +kernel
theorem d_jdk_42_method_149_44 : decode jdk_42_method_149_code 44 = .ok (.iload_n 3, 1) := by decide +kernel
theorem pd___BI_B : parseMethodDescriptor "([BI)B" = some ⟨[(.array .byte), .int], some .byte⟩ := by decide +kernel
theorem d_jdk_42_method_149_45 : decode jdk_42_method_149_code 45 = .ok (.invokestatic 47, 3) := by decide +kernel
theorem d_jdk_42_method_149_48 : decode jdk_42_method_149_code 48 = .ok (.putfield 15, 3) := by decide +kernel
theorem d_jdk_42_method_149_51 : decode jdk_42_method_149_code 51 = .ok (.aload_n 0, 1) := by decide +kernel
theorem d_jdk_42_method_149_52 : decode jdk_42_method_149_code 52 = .ok (.aload 5, 2) := by decide +kernel
theorem d_jdk_42_method_149_54 : decode jdk_42_method_149_code 54 = .ok (.putfield 9, 3) := by decide +kernel
theorem d_jdk_42_method_149_57 : decode jdk_42_method_149_code 57 = .ok (.return_, 1) := by decide +kernel
theorem ef_rmIni4 (m : MethodId) (x0 : Addr) (x1 : Addr) (x2 : Int32) (x3 : Int32) : entryFrame m #[(.ref x0), (.ref x1), (.int x2), (.int x3), .null] 6 = mkF m 0 #[.val (.ref x0), .val (.ref x1), .val (.int x2), .val (.int x3), .val .null, .unset] [] := by first | (simp [entryFrame, mkF, argsToLocals, Value.category]; done) | rfl
def Q_rmIni4 (Z : State) (a : Addr) (ca : Addr) (cst : Int32) (cs : List Int32) (kc : ClassId) (n : Nat) (h0 : Heap) (n0 : Nat) (v : Option Value) (h : Heap) (L : List Loc) : Prop := ∃ (b : Addr), ∃ (kb : ClassId), (v = none) ∧ (Fr n0 L) ∧ (Keep h0 h [a]) ∧ (Exa Z h a "java/lang/String") ∧ (Fld Z h a "java/lang/String" "value" "[B" (.ref b)) ∧ (Fld Z h a "java/lang/String" "coder" "B" (.int (own_cod cs))) ∧ (Arv Z h b kb .byte (Int32.ofNat (own_enl cs)) (own_enc cs) (.int (0 : Int32)))
set_option maxRecDepth 65536 in
set_option maxHeartbeats 40000000 in
theorem rmIni4 (l : Launch) (Z : State) (a0 : Array Value) (hw : ∀ d ∈ tables_1, d.before a0 Z = true) (ws : List Jvm.Cond) (a : Addr) (ca : Addr) (cst : Int32) (cs : List Int32) (kc : ClassId) (n : Nat) (h0 : Heap) (n0 : Nat) (Z0 : n0 ≤ h0.size) (I1 : Sta Z Z.heap "java/lang/String" "COMPACT_STRINGS" "Z" (.int cst)) (OX : Old Z n0 h0) (hcst : ¬ (cst = (0 : Int32))) (I2 : Exa Z h0 a "java/lang/String") (I3 : Fld Z h0 a "java/lang/String" "value" "[B" .null) (I4 : Fld Z h0 a "java/lang/String" "coder" "B" (.int (0 : Int32))) (I5 : Arv Z h0 ca kc .char (Int32.ofNat n) (cs.map Value.int) (.int (0 : Int32))) (hn : cs.length = n) (hb : n ≤ 3) (hlat : own_lat cs) (ga : n0 ≤ a) (hac : @Ne Nat a ca) :
    MetFree l (⟨"java/lang/String", "<init>", "([CIILjava/lang/Void;)V"⟩ : MethodName) (head1 (Jvm.Cond.code (⟨"java/lang/String", "<init>", "([CIILjava/lang/Void;)V"⟩ : MethodName) jdk_42_method_149_code 6 none :: ws) ({ frames := 2, cells := 4, slots := 8, locals := 35 } : Room)) (fun ar_ U => ar_ = #[(.ref a), (.ref ca), (.int (0 : Int32)), (.int (Int32.ofNat n)), .null] ∧ Z.Warmed39 U.vm ∧ U.heap = h0 ∧ CHv Z ELs U.vm h0) (fun _ _ _ _ _ => True) (fun _ U o U' => ∃ v L, o = .returned v ∧ Q_rmIni4 Z a ca cst cs kc n h0 n0 v U'.heap L ∧ CHr Z ELs U.vm U.heap U'.vm U'.heap ∧ ReturnedEndW U o U' L ({ frames := 2, cells := 4, slots := 8, locals := 35 } : Room).cells ({ frames := 2, cells := 4, slots := 8, locals := 35 } : Room).slots) := by
  refine MetFree.of_bodySF (plainFor_of_name pn_java_lang_String) hisR ?_
  intro p e s m args below meth c s₁ Bd hml0 hP hK
  obtain ⟨rfl, hZ, hh, hCH⟩ := hP
  have hx := Bd.exec
  have hby := Bd.bytes
  have hml : c.maxLocals = 6 := hml0
  have hown : s.vm.findClass "java/lang/String" = some m.cls := findClass_of_methodNamed Bd.named
  have hnm := (name_of_methodNamed Bd.named Bd.method).1
  have X0 : Stand p l e ({ frames := 2, cells := 4, slots := 8, locals := 35 } : Room) (s.setVm s.vm) m #[(.ref a), (.ref ca), (.int (0 : Int32)), (.int (Int32.ofNat n)), .null] below meth c s₁ [] 0 0 := Stand.of_body Bd
  have e0 : s₁.heap = h0 := by rw [← hh, Bd.state]; rfl
  have N0 := Fr.nil n0
  have pre0 : ∀ t_, Steps p.tables e below (s₁.setTop (mkF m 0 #[.val (.ref a), .val (.ref ca), .val (.int (0 : Int32)), .val (.int (Int32.ofNat n)), .val .null, .unset] [])) t_ → Steps p.tables e below (s₁.setTop (entryFrame m #[(.ref a), (.ref ca), (.int (0 : Int32)), (.int (Int32.ofNat n)), .null] 6)) t_ := fun t_ k_ => castTop (ef_rmIni4 m a ca (0 : Int32) (Int32.ofNat n)) k_
  have hEL : EW Z a0 ELs := own_EW hw
  have wS : ∀ a ∈ Bundle.stringAtoms, a.before a0 Z = true := own_wS hw
  have hS : s.Since s.vm s.heap.size := (State.WarmedH.refl s).since _
  have hk : s.heap.size ≤ h0.size := by rw [hh]; exact Nat.le_refl _
  have CR : CHr Z ELs s.vm h0 s.vm h0 := CHr.refl hCH
  have lt_I2 : @LT.lt Nat _ a h0.size := I2.lt
  have lt_I3 : @LT.lt Nat _ a h0.size := I3.lt
  have lt_I4 : @LT.lt Nat _ a h0.size := I4.lt
  have lt_I5 : @LT.lt Nat _ ca h0.size := I5.lt
  obtain ⟨T1, X1, e1, st1⟩ := initO X0 hx hZ hown (hw _ (List.mem_of_getElem? (i := 15) rfl)) (hw _ (List.mem_of_getElem? (i := 16) rfl)) (hw _ (List.mem_of_getElem? (i := 17) rfl)) e0 (g := (mkF m 1 #[.val (.ref a), .val (.ref ca), .val (.int (0 : Int32)), .val (.int (Int32.ofNat n)), .val .null, .unset] [(.ref a)])) rfl (by rw [hml]; rfl) rfl (Jvm.hb hby d_jdk_42_method_149_1) (by decide) (W := 0) (by show 2 * 0 + _ ≤ _; exact Nat.le_of_eq rfl) (by decide)
  have s2 : ∀ t_, Steps p.tables e below (T1.setTop (mkF m 5 #[.val (.ref a), .val (.ref ca), .val (.int (0 : Int32)), .val (.int (Int32.ofNat n)), .val .null, .unset] [(.int (Int32.ofNat n))])) t_ → Steps p.tables e below (s₁.setTop (entryFrame m #[(.ref a), (.ref ca), (.int (0 : Int32)), (.int (Int32.ofNat n)), .null] 6)) t_ := fun t_ k_ => pre0 t_ (by
    show Steps p.tables e below (s₁.setTop (mkF m 0 #[.val (.ref a), .val (.ref ca), .val (.int (0 : Int32)), .val (.int (Int32.ofNat n)), .val .null, .unset] [])) t_
    refine XS.aloadN X0.here hx rfl (Jvm.hb hby d_jdk_42_method_149_0) rfl rfl ?_
    refine st1 _ ?_
    show Steps p.tables e below (T1.setTop (mkF m 4 #[.val (.ref a), .val (.ref ca), .val (.int (0 : Int32)), .val (.int (Int32.ofNat n)), .val .null, .unset] [])) _
    refine XS.iloadN X1.here hx rfl (Jvm.hb hby d_jdk_42_method_149_4) rfl ?_
    show Steps p.tables e below (T1.setTop (mkF m 5 #[.val (.ref a), .val (.ref ca), .val (.int (0 : Int32)), .val (.int (Int32.ofNat n)), .val .null, .unset] [(.int (Int32.ofNat n))])) t_
    exact k_)
  by_cases h3 : (Int32.ofNat n) = (0 : Int32)
  · have s5 : ∀ t_, Steps p.tables e below (T1.setTop (mkF m 9 #[.val (.ref a), .val (.ref ca), .val (.int (0 : Int32)), .val (.int (Int32.ofNat n)), .val .null, .unset] [(.ref a)])) t_ → Steps p.tables e below (s₁.setTop (entryFrame m #[(.ref a), (.ref ca), (.int (0 : Int32)), (.int (Int32.ofNat n)), .null] 6)) t_ := fun t_ k_ => s2 t_ (by
      show Steps p.tables e below (T1.setTop (mkF m 5 #[.val (.ref a), .val (.ref ca), .val (.int (0 : Int32)), .val (.int (Int32.ofNat n)), .val .null, .unset] [(.int (Int32.ofNat n))])) t_
      refine XS.ifNo X1.here hx rfl (Jvm.hb hby d_jdk_42_method_149_5) rfl ((if0 _ _).trans (teq h3).2) ?_
      show Steps p.tables e below (T1.setTop (mkF m 8 #[.val (.ref a), .val (.ref ca), .val (.int (0 : Int32)), .val (.int (Int32.ofNat n)), .val .null, .unset] [])) _
      refine XS.aloadN X1.here hx rfl (Jvm.hb hby d_jdk_42_method_149_8) rfl rfl ?_
      show Steps p.tables e below (T1.setTop (mkF m 9 #[.val (.ref a), .val (.ref ca), .val (.int (0 : Int32)), .val (.int (Int32.ofNat n)), .val .null, .unset] [(.ref a)])) t_
      exact k_)
    obtain ⟨a4, T4, h4, k4, b4, kk4, X4, e4, E4, hS, hk, hZ, hown, Ex4, Fc4, Fv4, Av4, la4, lb4, Cp4, Li4, Sa4, st4⟩ := ldcCH X1 hx hZ hown (hw _ (List.mem_of_getElem? (i := 18) rfl)) wS e1 hS hk hEL (List.mem_of_getElem? (i := 1) rfl) CR.1 (vs := []) (z := (0 : Int32)) ⟨by decide, by decide⟩ (by decide) rfl (g := (mkF m 9 #[.val (.ref a), .val (.ref ca), .val (.int (0 : Int32)), .val (.int (Int32.ofNat n)), .val .null, .unset] [(.ref a)])) rfl (Jvm.hb hby d_jdk_42_method_149_9) (n := 0) (by decide) (by decide) (by decide) (by decide)
    have z6 : h0.size ≤ h4.size := E4.1
    have CR := CR.trans Cp4
    have la4 : @LT.lt Nat _ a4 h4.size := la4
    have lb4 : @LT.lt Nat _ b4 h4.size := lb4
    obtain ⟨T7, X7, e7, st7⟩ := getF X4 hx hZ hown (host := "") (Or.inl (hw _ (List.mem_of_getElem? (i := 24) rfl))) Via.refl e4 Fv4 (g := (mkF m 11 #[.val (.ref a), .val (.ref ca), .val (.int (0 : Int32)), .val (.int (Int32.ofNat n)), .val .null, .unset] [(.ref a4), (.ref a)])) rfl rfl (Jvm.hb hby d_jdk_42_method_149_11)
    have f8 : Exa Z h4 a "java/lang/String" := (I2.ext E4)
    have f9 : Fld Z h4 a "java/lang/String" "value" "[B" .null := (I3.ext E4)
    obtain ⟨T10, h10, X10, e10, W10, st10⟩ := putF X7 hx hZ hown (host := "") (Or.inl (hw _ (List.mem_of_getElem? (i := 24) rfl))) Via.refl e7 f9 f8 (Or.inr ⟨(hw _ (List.mem_of_getElem? (i := 20) rfl)), rfl, hnm⟩) (hw _ (List.mem_of_getElem? (i := 5) rfl)) (ty := (.array .byte)) (by decide) rfl rfl (g := (mkF m 14 #[.val (.ref a), .val (.ref ca), .val (.int (0 : Int32)), .val (.int (Int32.ofNat n)), .val .null, .unset] [(.ref b4), (.ref a)])) rfl rfl (Jvm.hb hby d_jdk_42_method_149_14)
    have Sf12 : Safe Z ELs T4.vm h4 a := own_safeN hZ.alike f8 f9
    have z11 : h4.size ≤ h10.size := Nat.le_of_eq W10.size.symm
    have Cp11 : CHr Z ELs T4.vm h4 T4.vm h10 := CHr.wr W10 Sf12 CR.1
    have hk := Nat.le_trans hk z11
    have CR := CR.trans Cp11
    have F10 : Fld Z h10 a "java/lang/String" "value" "[B" (.ref b4) := f9.same W10
    have N10 := Fr.snoc X10 N0 (show n0 ≤ a by omega)
    have s14 : ∀ t_, Steps p.tables e below (T10.setTop (mkF m 18 #[.val (.ref a), .val (.ref ca), .val (.int (0 : Int32)), .val (.int (Int32.ofNat n)), .val .null, .unset] [(.ref a)])) t_ → Steps p.tables e below (s₁.setTop (entryFrame m #[(.ref a), (.ref ca), (.int (0 : Int32)), (.int (Int32.ofNat n)), .null] 6)) t_ := fun t_ k_ => s5 t_ (by
      show Steps p.tables e below (T1.setTop (mkF m 9 #[.val (.ref a), .val (.ref ca), .val (.int (0 : Int32)), .val (.int (Int32.ofNat n)), .val .null, .unset] [(.ref a)])) t_
      refine st4 _ ?_
      show Steps p.tables e below (T4.setTop (mkF m 11 #[.val (.ref a), .val (.ref ca), .val (.int (0 : Int32)), .val (.int (Int32.ofNat n)), .val .null, .unset] [(.ref a4), (.ref a)])) _
      refine st7 _ ?_
      show Steps p.tables e below (T7.setTop (mkF m 14 #[.val (.ref a), .val (.ref ca), .val (.int (0 : Int32)), .val (.int (Int32.ofNat n)), .val .null, .unset] [(.ref b4), (.ref a)])) _
      refine st10 _ ?_
      show Steps p.tables e below (T10.setTop (mkF m 17 #[.val (.ref a), .val (.ref ca), .val (.int (0 : Int32)), .val (.int (Int32.ofNat n)), .val .null, .unset] [])) _
      refine XS.aloadN X10.here hx rfl (Jvm.hb hby d_jdk_42_method_149_17) rfl rfl ?_
      show Steps p.tables e below (T10.setTop (mkF m 18 #[.val (.ref a), .val (.ref ca), .val (.int (0 : Int32)), .val (.int (Int32.ofNat n)), .val .null, .unset] [(.ref a)])) t_
      exact k_)
    obtain ⟨a13, T13, h13, k13, b13, kk13, X13, e13, E13, hS, hk, hZ, hown, Ex13, Fc13, Fv13, Av13, la13, lb13, Cp13, Li13, Sa13, st13⟩ := ldcCH X10 hx hZ hown (hw _ (List.mem_of_getElem? (i := 18) rfl)) wS e10 hS hk hEL (List.mem_of_getElem? (i := 1) rfl) CR.1 (vs := []) (z := (0 : Int32)) ⟨by decide, by decide⟩ (by decide) rfl (g := (mkF m 18 #[.val (.ref a), .val (.ref ca), .val (.int (0 : Int32)), .val (.int (Int32.ofNat n)), .val .null, .unset] [(.ref a)])) rfl (Jvm.hb hby d_jdk_42_method_149_18) (n := 0) (by decide) (by decide) (by decide) (by decide)
    have z15 : h10.size ≤ h13.size := E13.1
    have CR := CR.trans Cp13
    have la13 : @LT.lt Nat _ a13 h13.size := la13
    have lb13 : @LT.lt Nat _ b13 h13.size := lb13
    obtain ⟨T16, X16, e16, st16⟩ := getF X13 hx hZ hown (host := "") (Or.inl (hw _ (List.mem_of_getElem? (i := 25) rfl))) Via.refl e13 Fc13 (g := (mkF m 20 #[.val (.ref a), .val (.ref ca), .val (.int (0 : Int32)), .val (.int (Int32.ofNat n)), .val .null, .unset] [(.ref a13), (.ref a)])) rfl rfl (Jvm.hb hby d_jdk_42_method_149_20)
    have f17 : Exa Z h13 a "java/lang/String" := ((f8.wr W10).ext E13)
    have f18 : Fld Z h13 a "java/lang/String" "coder" "B" (.int (0 : Int32)) := (((I4.ext E4).other W10 (Or.inr (slot_ne (Or.inr (hw _ (List.mem_of_getElem? (i := 21) rfl))) (Or.inr (hw _ (List.mem_of_getElem? (i := 20) rfl))) (by decide) (t := .byte) (t' := (.array .byte)) (by decide) (by decide)))).ext E13)
    obtain ⟨T19, h19, X19, e19, W19, st19⟩ := putFN X16 hx hZ hown (hw _ (List.mem_of_getElem? (i := 25) rfl)) Via.refl e16 f18 f17 (Or.inr ⟨(hw _ (List.mem_of_getElem? (i := 21) rfl)), rfl, hnm⟩) (hw _ (List.mem_of_getElem? (i := 5) rfl)) (ty := .byte) (v' := (.int (0 : Int32))) (by decide) rfl rfl (g := (mkF m 23 #[.val (.ref a), .val (.ref ca), .val (.int (0 : Int32)), .val (.int (Int32.ofNat n)), .val .null, .unset] [(.int (0 : Int32)), (.ref a)])) rfl rfl (Jvm.hb hby d_jdk_42_method_149_23)
    have Sf21 : Safe Z ELs T13.vm h13 a := (Cp13.safe (show @LT.lt Nat _ a h10.size by omega) (Cp11.safe (show @LT.lt Nat _ a h4.size by omega) Sf12))
    have z20 : h13.size ≤ h19.size := Nat.le_of_eq W19.size.symm
    have Cp20 : CHr Z ELs T13.vm h13 T13.vm h19 := CHr.wr W19 Sf21 CR.1
    have hk := Nat.le_trans hk z20
    have CR := CR.trans Cp20
    have F19 : Fld Z h19 a "java/lang/String" "coder" "B" (.int (0 : Int32)) := f18.same W19
    have N19 := Fr.snoc X19 N10 (show n0 ≤ a by omega)
    have s22 : ∀ t_, Steps p.tables e below (T19.setTop (mkF m 26 #[.val (.ref a), .val (.ref ca), .val (.int (0 : Int32)), .val (.int (Int32.ofNat n)), .val .null, .unset] [])) t_ → Steps p.tables e below (s₁.setTop (entryFrame m #[(.ref a), (.ref ca), (.int (0 : Int32)), (.int (Int32.ofNat n)), .null] 6)) t_ := fun t_ k_ => s14 t_ (by
      show Steps p.tables e below (T10.setTop (mkF m 18 #[.val (.ref a), .val (.ref ca), .val (.int (0 : Int32)), .val (.int (Int32.ofNat n)), .val .null, .unset] [(.ref a)])) t_
      refine st13 _ ?_
      show Steps p.tables e below (T13.setTop (mkF m 20 #[.val (.ref a), .val (.ref ca), .val (.int (0 : Int32)), .val (.int (Int32.ofNat n)), .val .null, .unset] [(.ref a13), (.ref a)])) _
      refine st16 _ ?_
      show Steps p.tables e below (T16.setTop (mkF m 23 #[.val (.ref a), .val (.ref ca), .val (.int (0 : Int32)), .val (.int (Int32.ofNat n)), .val .null, .unset] [(.int (0 : Int32)), (.ref a)])) _
      refine st19 _ ?_
      show Steps p.tables e below (T19.setTop (mkF m 26 #[.val (.ref a), .val (.ref ca), .val (.int (0 : Int32)), .val (.int (Int32.ofNat n)), .val .null, .unset] [])) _
      show Steps p.tables e below (T19.setTop (mkF m 26 #[.val (.ref a), .val (.ref ca), .val (.int (0 : Int32)), .val (.int (Int32.ofNat n)), .val .null, .unset] [])) t_
      exact k_)
    obtain ⟨fs, hr, hrun, hended, hREW⟩ := X19.leaveW hS (by first | exact Nat.le_refl _ | (rw [e19]; exact hk)) (v := none) (fun _ => rfl)
    have hnil : cs = [] := List.eq_nil_of_length_eq_zero (hn.trans (own_inj (n := 0) (by omega) (by decide) h3))
    have F23 : Fld Z h19 a "java/lang/String" "coder" "B" (.int (own_cod cs)) := by have q := F19; rw [← own_cod0 (cs := cs) (by rw [hnil]; exact own_lat0)] at q; exact q
    have f24 : Arv Z h19 b4 kk4 .byte (0 : Int32) [] (.int (0 : Int32)) := (((Av4.other W10 (Ne.symm (Exa.neArv f8 Av4 (hw _ (List.mem_of_getElem? (i := 5) rfl))))).ext E13).other W19 (Ne.symm (Exa.neArv f17 ((Av4.other W10 (Ne.symm (Exa.neArv f8 Av4 (hw _ (List.mem_of_getElem? (i := 5) rfl))))).ext E13) (hw _ (List.mem_of_getElem? (i := 5) rfl)))))
    have f25 : Exa Z h19 a "java/lang/String" := (f17.wr W19)
    have f26 : Fld Z h19 a "java/lang/String" "value" "[B" (.ref b4) := ((F10.ext E13).other W19 (Or.inr (slot_ne (Or.inr (hw _ (List.mem_of_getElem? (i := 20) rfl))) (Or.inr (hw _ (List.mem_of_getElem? (i := 21) rfl))) (by decide) (t := (.array .byte)) (t' := .byte) (by decide) (by decide))))
    refine ⟨_, _, s22 _ ?_, hrun, hended, _, _, rfl, ?_, (by show CHr Z ELs s.vm s.heap T19.vm T19.heap; rw [hh, e19]; exact CR.trans (CHv.at X19 hZ hEL CR.1)), hREW.1, hREW.2.1, hREW.2.2.1, hREW.2.2.2.mono (by decide) (by decide)⟩
    · show Steps p.tables e below (T19.setTop (mkF m 26 #[.val (.ref a), .val (.ref ca), .val (.int (0 : Int32)), .val (.int (Int32.ofNat n)), .val .null, .unset] [])) _
      exact X19.returnOut hx Bd.returns (Jvm.hb hby d_jdk_42_method_149_26) hr
    · show Q_rmIni4 Z _ _ _ _ _ _ h0 n0 _ T19.heap _
      rw [e19]
      exact ⟨b4, kk4, rfl, N19, (((((Keep.refl h0 [a]).ext E4).wr W10 (Or.inl (by simp))).ext E13).wr W19 (Or.inl (by simp))), f25, f26, F23, (own_fix0 hnil f24)⟩
  · obtain ⟨T27, X27, e27, st27⟩ := getS2 X1 hx hZ hown (host := "") (Or.inl (hw _ (List.mem_of_getElem? (i := 58) rfl))) Via.refl e1 (I1.ext OX.2) (g := (mkF m 27 #[.val (.ref a), .val (.ref ca), .val (.int (0 : Int32)), .val (.int (Int32.ofNat n)), .val .null, .unset] [])) rfl (Jvm.hb hby d_jdk_42_method_149_27)
    have Zc28 : n0 ≤ h0.size := by omega
    obtain ⟨_, _, ⟨T29, L29, k29, n29⟩, -, X29, ⟨Lc29, hQ29, l29, y29, z29⟩, st29⟩ := Jvm.LawKit.callS X27 hx (y := (⟨"java/lang/StringUTF16", "compress", "([CII)[B"⟩ : MethodName)) hown (mvT hZ (hw _ (List.mem_of_getElem? (i := 65) rfl))) (mvT hZ (hw _ (List.mem_of_getElem? (i := 66) rfl))) (mvT hZ (hw _ (List.mem_of_getElem? (i := 67) rfl))) (mvT hZ (hw _ (List.mem_of_getElem? (i := 68) rfl))) (by decide) (backOf (W := 0) (rmComp l Z a0 hw [] ca cs kc n h0 n0 Zc28 I5 (hn : cs.length = n) (hb : n ≤ 3) (hlat : own_lat cs)) hZ (hw _ (List.mem_of_getElem? (i := 68) rfl)) (hw _ (List.mem_of_getElem? (i := 67) rfl)) (by decide) (by decide)) (g := (mkF m 36 #[.val (.ref a), .val (.ref ca), .val (.int (0 : Int32)), .val (.int (Int32.ofNat n)), .val .null, .unset] [(.int (Int32.ofNat n)), (.int (0 : Int32)), (.ref ca)])) rfl (by rw [hml]; rfl) (argsL := [(.ref ca), (.int (0 : Int32)), (.int (Int32.ofNat n))]) (rest := []) (lenOf pd___CII__B rfl) rfl (by show 2 * 0 + _ ≤ _; exact Nat.le_of_eq rfl) (Jvm.hb hby d_jdk_42_method_149_36) (fun _ _ => ⟨rfl, e27, (by decide : 0 + 1 ≤ _), (by decide : 0 + 3 ≤ _)⟩)
    dsimp only [Pt.U, Pt.locs, Pt.cells, Pt.slots] at X29 l29 y29 z29 st29 hQ29
    subst l29 y29 z29
    obtain ⟨b_29, kb_29, rfl, N29q, K29, Fq29_0, P29_0⟩ := hQ29
    have N29 := Fr.app N0 N29q
    obtain ⟨h29, e29⟩ : ∃ z, T29.heap = z := ⟨_, rfl⟩
    rw [e29] at K29 Fq29_0
    have z30 : h0.size ≤ h29.size := K29.1
    have Cp30 : CHr Z ELs s.vm h0 s.vm h29 := CHr.keep K29 sf0 CR.1
    have hk := Nat.le_trans hk z30
    have CR := CR.trans Cp30
    have lt29_0 : @LT.lt Nat _ b_29 h29.size := Fq29_0.lt
    have Zc31 : n0 ≤ h29.size := by omega
    obtain ⟨_, _, ⟨T32, L32, k32, n32⟩, -, X32, ⟨Lc32, hQ32, l32, y32, z32⟩, st32⟩ := Jvm.LawKit.callS X29 hx (y := (⟨"java/lang/StringUTF16", "coderFromArrayLen", "([BI)B"⟩ : MethodName)) hown (mvT hZ (hw _ (List.mem_of_getElem? (i := 72) rfl))) (mvT hZ (hw _ (List.mem_of_getElem? (i := 73) rfl))) (mvT hZ (hw _ (List.mem_of_getElem? (i := 67) rfl))) (mvT hZ (hw _ (List.mem_of_getElem? (i := 74) rfl))) (by decide) (backOf (W := 1) (rmCod l Z a0 hw [] b_29 (Int32.ofNat n) kb_29 (Int32.ofNat (own_enl cs)) (own_enc cs) h29 n0 Zc31 Fq29_0) hZ (hw _ (List.mem_of_getElem? (i := 74) rfl)) (hw _ (List.mem_of_getElem? (i := 67) rfl)) (by decide) (by decide)) (g := (mkF m 45 #[.val (.ref a), .val (.ref ca), .val (.int (0 : Int32)), .val (.int (Int32.ofNat n)), .val .null, .val (.ref b_29)] [(.int (Int32.ofNat n)), (.ref b_29), (.ref a)])) rfl (by rw [hml]; rfl) (argsL := [(.ref b_29), (.int (Int32.ofNat n))]) (rest := [(.ref a)]) (lenOf pd___BI_B rfl) rfl (by show 2 * 0 + _ ≤ _; exact Nat.le_of_eq rfl) (Jvm.hb hby d_jdk_42_method_149_45) (fun _ _ => ⟨rfl, e29, (by decide : 1 + 0 ≤ _), (by decide : 3 + 0 ≤ _)⟩)
    dsimp only [Pt.U, Pt.locs, Pt.cells, Pt.slots] at X32 l32 y32 z32 st32 hQ32
    subst l32 y32 z32
    obtain ⟨rfl, N32q, e32⟩ := hQ32
    have N32 := Fr.app N29 N32q
    have f33 : Exa Z h29 a "java/lang/String" := (I2.keep K29)
    have f34 : Fld Z h29 a "java/lang/String" "coder" "B" (.int (0 : Int32)) := (I4.keep K29 nin0)
    obtain ⟨T35, h35, X35, e35, W35, st35⟩ := putFN X32 hx hZ hown (hw _ (List.mem_of_getElem? (i := 25) rfl)) Via.refl e32 f34 f33 (Or.inr ⟨(hw _ (List.mem_of_getElem? (i := 21) rfl)), rfl, hnm⟩) (hw _ (List.mem_of_getElem? (i := 5) rfl)) (ty := .byte) (v' := (.int (own_cod cs))) (by decide) (own_cnar cs) (own_cfit cs) (g := (mkF m 48 #[.val (.ref a), .val (.ref ca), .val (.int (0 : Int32)), .val (.int (Int32.ofNat n)), .val .null, .val (.ref b_29)] [(.int (own_cod cs)), (.ref a)])) rfl rfl (Jvm.hb hby d_jdk_42_method_149_48)
    have f38 : Fld Z h29 a "java/lang/String" "value" "[B" .null := (I3.keep K29 nin0)
    have Sf37 : Safe Z ELs s.vm h29 a := own_safeN hZ.alike f33 f38
    have z36 : h29.size ≤ h35.size := Nat.le_of_eq W35.size.symm
    have Cp36 : CHr Z ELs s.vm h29 s.vm h35 := CHr.wr W35 Sf37 CR.1
    have hk := Nat.le_trans hk z36
    have CR := CR.trans Cp36
    have F35 : Fld Z h35 a "java/lang/String" "coder" "B" (.int (own_cod cs)) := f34.same W35
    have N35 := Fr.snoc X35 N32 (show n0 ≤ a by omega)
    have f39 : Exa Z h35 a "java/lang/String" := (f33.wr W35)
    have f40 : Fld Z h35 a "java/lang/String" "value" "[B" .null := (f38.other W35 (Or.inr (slot_ne (Or.inr (hw _ (List.mem_of_getElem? (i := 20) rfl))) (Or.inr (hw _ (List.mem_of_getElem? (i := 21) rfl))) (by decide) (t := (.array .byte)) (t' := .byte) (by decide) (by decide))))
    obtain ⟨T41, h41, X41, e41, W41, st41⟩ := putF X35 hx hZ hown (host := "") (Or.inl (hw _ (List.mem_of_getElem? (i := 24) rfl))) Via.refl e35 f40 f39 (Or.inr ⟨(hw _ (List.mem_of_getElem? (i := 20) rfl)), rfl, hnm⟩) (hw _ (List.mem_of_getElem? (i := 5) rfl)) (ty := (.array .byte)) (by decide) rfl rfl (g := (mkF m 54 #[.val (.ref a), .val (.ref ca), .val (.int (0 : Int32)), .val (.int (Int32.ofNat n)), .val .null, .val (.ref b_29)] [(.ref b_29), (.ref a)])) rfl rfl (Jvm.hb hby d_jdk_42_method_149_54)
    have Sf43 : Safe Z ELs s.vm h35 a := (Cp36.safe (show @LT.lt Nat _ a h29.size by omega) Sf37)
    have z42 : h35.size ≤ h41.size := Nat.le_of_eq W41.size.symm
    have Cp42 : CHr Z ELs s.vm h35 s.vm h41 := CHr.wr W41 Sf43 CR.1
    have hk := Nat.le_trans hk z42
    have CR := CR.trans Cp42
    have F41 : Fld Z h41 a "java/lang/String" "value" "[B" (.ref b_29) := f40.same W41
    have N41 := Fr.snoc X41 N35 (show n0 ≤ a by omega)
    have s44 : ∀ t_, Steps p.tables e below (T41.setTop (mkF m 57 #[.val (.ref a), .val (.ref ca), .val (.int (0 : Int32)), .val (.int (Int32.ofNat n)), .val .null, .val (.ref b_29)] [])) t_ → Steps p.tables e below (s₁.setTop (entryFrame m #[(.ref a), (.ref ca), (.int (0 : Int32)), (.int (Int32.ofNat n)), .null] 6)) t_ := fun t_ k_ => s2 t_ (by
      show Steps p.tables e below (T1.setTop (mkF m 5 #[.val (.ref a), .val (.ref ca), .val (.int (0 : Int32)), .val (.int (Int32.ofNat n)), .val .null, .unset] [(.int (Int32.ofNat n))])) t_
      refine XS.ifYes X1.here hx rfl (pc0 := 5) (pc' := 27) rfl (Jvm.hb hby d_jdk_42_method_149_5) rfl ((if0 _ _).trans (feq h3).2) (by decide) (by decide) ?_
      show Steps p.tables e below (T1.setTop (mkF m 27 #[.val (.ref a), .val (.ref ca), .val (.int (0 : Int32)), .val (.int (Int32.ofNat n)), .val .null, .unset] [])) _
      refine st27 _ ?_
      show Steps p.tables e below (T27.setTop (mkF m 30 #[.val (.ref a), .val (.ref ca), .val (.int (0 : Int32)), .val (.int (Int32.ofNat n)), .val .null, .unset] [(.int cst)])) _
      refine XS.ifNo X27.here hx rfl (Jvm.hb hby d_jdk_42_method_149_30) rfl ((if0 _ _).trans (feq hcst).1) ?_
      show Steps p.tables e below (T27.setTop (mkF m 33 #[.val (.ref a), .val (.ref ca), .val (.int (0 : Int32)), .val (.int (Int32.ofNat n)), .val .null, .unset] [])) _
      refine XS.aloadN X27.here hx rfl (Jvm.hb hby d_jdk_42_method_149_33) rfl rfl ?_
      refine XS.iloadN X27.here hx rfl (Jvm.hb hby d_jdk_42_method_149_34) rfl ?_
      refine XS.iloadN X27.here hx rfl (Jvm.hb hby d_jdk_42_method_149_35) rfl ?_
      refine st29 _ ?_
      show Steps p.tables e below (T29.setTop (mkF m 39 #[.val (.ref a), .val (.ref ca), .val (.int (0 : Int32)), .val (.int (Int32.ofNat n)), .val .null, .unset] [(.ref b_29)])) _
      refine XS.astore X29.here hx rfl (Jvm.hb hby d_jdk_42_method_149_39) rfl rfl (l' := #[.val (.ref a), .val (.ref ca), .val (.int (0 : Int32)), .val (.int (Int32.ofNat n)), .val .null, .val (.ref b_29)]) rfl ?_
      refine XS.aloadN X29.here hx rfl (Jvm.hb hby d_jdk_42_method_149_41) rfl rfl ?_
      refine XS.aload X29.here hx rfl (Jvm.hb hby d_jdk_42_method_149_42) rfl rfl ?_
      refine XS.iloadN X29.here hx rfl (Jvm.hb hby d_jdk_42_method_149_44) rfl ?_
      refine st32 _ ?_
      show Steps p.tables e below (T32.setTop (mkF m 48 #[.val (.ref a), .val (.ref ca), .val (.int (0 : Int32)), .val (.int (Int32.ofNat n)), .val .null, .val (.ref b_29)] [(.int (nar .byte (own_lo (ushr ((Int32.ofNat n) - (Int32.ofNat (own_enl cs))) (31 : Int32))))), (.ref a)])) _
      refine castTop (g' := (mkF m 48 #[.val (.ref a), .val (.ref ca), .val (.int (0 : Int32)), .val (.int (Int32.ofNat n)), .val .null, .val (.ref b_29)] [(.int (own_cod cs)), (.ref a)])) (by rw [own_codl hn (own_pos h3) (by omega)]) ?_
      show Steps p.tables e below (T32.setTop (mkF m 48 #[.val (.ref a), .val (.ref ca), .val (.int (0 : Int32)), .val (.int (Int32.ofNat n)), .val .null, .val (.ref b_29)] [(.int (own_cod cs)), (.ref a)])) _
      refine st35 _ ?_
      show Steps p.tables e below (T35.setTop (mkF m 51 #[.val (.ref a), .val (.ref ca), .val (.int (0 : Int32)), .val (.int (Int32.ofNat n)), .val .null, .val (.ref b_29)] [])) _
      refine XS.aloadN X35.here hx rfl (Jvm.hb hby d_jdk_42_method_149_51) rfl rfl ?_
      refine XS.aload X35.here hx rfl (Jvm.hb hby d_jdk_42_method_149_52) rfl rfl ?_
      refine st41 _ ?_
      show Steps p.tables e below (T41.setTop (mkF m 57 #[.val (.ref a), .val (.ref ca), .val (.int (0 : Int32)), .val (.int (Int32.ofNat n)), .val .null, .val (.ref b_29)] [])) _
      show Steps p.tables e below (T41.setTop (mkF m 57 #[.val (.ref a), .val (.ref ca), .val (.int (0 : Int32)), .val (.int (Int32.ofNat n)), .val .null, .val (.ref b_29)] [])) t_
      exact k_)
    obtain ⟨fs, hr, hrun, hended, hREW⟩ := X41.leaveW hS (by first | exact Nat.le_refl _ | (rw [e41]; exact hk)) (v := none) (fun _ => rfl)
    have f45 : Arv Z h41 b_29 kb_29 .byte (Int32.ofNat (own_enl cs)) (own_enc cs) (.int (0 : Int32)) := ((Fq29_0.other W35 (show @Ne Nat b_29 a by omega)).other W41 (show @Ne Nat b_29 a by omega))
    have f46 : Exa Z h41 a "java/lang/String" := (f39.wr W41)
    have f47 : Fld Z h41 a "java/lang/String" "coder" "B" (.int (own_cod cs)) := (F35.other W41 (Or.inr (slot_ne (Or.inr (hw _ (List.mem_of_getElem? (i := 21) rfl))) (Or.inr (hw _ (List.mem_of_getElem? (i := 20) rfl))) (by decide) (t := .byte) (t' := (.array .byte)) (by decide) (by decide))))
    refine ⟨_, _, s44 _ ?_, hrun, hended, _, _, rfl, ?_, (by show CHr Z ELs s.vm s.heap T41.vm T41.heap; rw [hh, e41]; exact CR.trans (CHv.at X41 hZ hEL CR.1)), hREW.1, hREW.2.1, hREW.2.2.1, hREW.2.2.2.mono (by decide) (by decide)⟩
    · show Steps p.tables e below (T41.setTop (mkF m 57 #[.val (.ref a), .val (.ref ca), .val (.int (0 : Int32)), .val (.int (Int32.ofNat n)), .val .null, .val (.ref b_29)] [])) _
      exact X41.returnOut hx Bd.returns (Jvm.hb hby d_jdk_42_method_149_57) hr
    · show Q_rmIni4 Z _ _ _ _ _ _ h0 n0 _ T41.heap _
      rw [e41]
      exact ⟨b_29, kb_29, rfl, N41, ((((Keep.refl h0 [a]).trans K29 all0).wr W35 (Or.inl (by simp))).wr W41 (Or.inl (by simp))), f46, F41, f47, f45⟩
theorem d_jdk_42_method_3_0 : decode jdk_42_method_3_code 0 = .ok (.aload_n 0, 1) := by decide +kernel
theorem d_jdk_42_method_3_1 : decode jdk_42_method_3_code 1 = .ok (.aload_n 1, 1) := by decide +kernel
theorem d_jdk_42_method_3_2 : decode jdk_42_method_3_code 2 = .ok (.iconst 0, 1) := by decide +kernel
theorem d_jdk_42_method_3_3 : decode jdk_42_method_3_code 3 = .ok (.aload_n 1, 1) := by decide +kernel
theorem d_jdk_42_method_3_4 : decode jdk_42_method_3_code 4 = .ok (.arraylength, 1) := by decide +kernel
theorem d_jdk_42_method_3_5 : decode jdk_42_method_3_code 5 = .ok (.aconst_null, 1) := by decide +kernel
theorem pd___CIILjava_lang_Void__V : parseMethodDescriptor "([CIILjava/lang/Void;)V" = some ⟨[(.array .char), .int, .int, (.object "java/lang/Void")], none⟩ := by decide +kernel
theorem d_jdk_42_method_3_6 : decode jdk_42_method_3_code 6 = .ok (.invokespecial 27, 3) := by decide +kernel
theorem d_jdk_42_method_3_9 : decode jdk_42_method_3_code 9 = .ok (.return_, 1) := by decide +kernel
theorem ef_rmIni1 (m : MethodId) (x0 : Addr) (x1 : Addr) : entryFrame m #[(.ref x0), (.ref x1)] 2 = mkF m 0 #[.val (.ref x0), .val (.ref x1)] [] := by first | (simp [entryFrame, mkF, argsToLocals, Value.category]; done) | rfl
def Q_rmIni1 (Z : State) (a : Addr) (ca : Addr) (cst : Int32) (cs : List Int32) (kc : ClassId) (n : Nat) (h0 : Heap) (n0 : Nat) (v : Option Value) (h : Heap) (L : List Loc) : Prop := ∃ (b : Addr), ∃ (kb : ClassId), (v = none) ∧ (Fr n0 L) ∧ (Keep h0 h [a]) ∧ (Exa Z h a "java/lang/String") ∧ (Fld Z h a "java/lang/String" "value" "[B" (.ref b)) ∧ (Fld Z h a "java/lang/String" "coder" "B" (.int (own_cod cs))) ∧ (Arv Z h b kb .byte (Int32.ofNat (own_enl cs)) (own_enc cs) (.int (0 : Int32)))
set_option maxRecDepth 65536 in
set_option maxHeartbeats 40000000 in
theorem rmIni1 (l : Launch) (Z : State) (a0 : Array Value) (hw : ∀ d ∈ tables_1, d.before a0 Z = true) (ws : List Jvm.Cond) (a : Addr) (ca : Addr) (cst : Int32) (cs : List Int32) (kc : ClassId) (n : Nat) (h0 : Heap) (n0 : Nat) (Z0 : n0 ≤ h0.size) (I1 : Sta Z Z.heap "java/lang/String" "COMPACT_STRINGS" "Z" (.int cst)) (OX : Old Z n0 h0) (hcst : ¬ (cst = (0 : Int32))) (I2 : Exa Z h0 a "java/lang/String") (I3 : Fld Z h0 a "java/lang/String" "value" "[B" .null) (I4 : Fld Z h0 a "java/lang/String" "coder" "B" (.int (0 : Int32))) (I5 : Arv Z h0 ca kc .char (Int32.ofNat n) (cs.map Value.int) (.int (0 : Int32))) (hn : cs.length = n) (hb : n ≤ 3) (hlat : own_lat cs) (ga : n0 ≤ a) (hac : @Ne Nat a ca) :
    MetFree l (⟨"java/lang/String", "<init>", "([C)V"⟩ : MethodName) (head1 (Jvm.Cond.code (⟨"java/lang/String", "<init>", "([C)V"⟩ : MethodName) jdk_42_method_3_code 2 none :: ws) ({ frames := 3, cells := 4, slots := 8, locals := 52 } : Room)) (fun ar_ U => ar_ = #[(.ref a), (.ref ca)] ∧ Z.Warmed39 U.vm ∧ U.heap = h0 ∧ CHv Z ELs U.vm h0) (fun _ _ _ _ _ => True) (fun _ U o U' => ∃ v L, o = .returned v ∧ Q_rmIni1 Z a ca cst cs kc n h0 n0 v U'.heap L ∧ CHr Z ELs U.vm U.heap U'.vm U'.heap ∧ ReturnedEndW U o U' L ({ frames := 3, cells := 4, slots := 8, locals := 52 } : Room).cells ({ frames := 3, cells := 4, slots := 8, locals := 52 } : Room).slots) := by
  refine MetFree.of_bodySF (plainFor_of_name pn_java_lang_String) hisR ?_
  intro p e s m args below meth c s₁ Bd hml0 hP hK
  obtain ⟨rfl, hZ, hh, hCH⟩ := hP
  have hx := Bd.exec
  have hby := Bd.bytes
  have hml : c.maxLocals = 2 := hml0
  have hown : s.vm.findClass "java/lang/String" = some m.cls := findClass_of_methodNamed Bd.named
  have hnm := (name_of_methodNamed Bd.named Bd.method).1
  have X0 : Stand p l e ({ frames := 3, cells := 4, slots := 8, locals := 52 } : Room) (s.setVm s.vm) m #[(.ref a), (.ref ca)] below meth c s₁ [] 0 0 := Stand.of_body Bd
  have e0 : s₁.heap = h0 := by rw [← hh, Bd.state]; rfl
  have N0 := Fr.nil n0
  have pre0 : ∀ t_, Steps p.tables e below (s₁.setTop (mkF m 0 #[.val (.ref a), .val (.ref ca)] [])) t_ → Steps p.tables e below (s₁.setTop (entryFrame m #[(.ref a), (.ref ca)] 2)) t_ := fun t_ k_ => castTop (ef_rmIni1 m a ca) k_
  have hEL : EW Z a0 ELs := own_EW hw
  have wS : ∀ a ∈ Bundle.stringAtoms, a.before a0 Z = true := own_wS hw
  have hS : s.Since s.vm s.heap.size := (State.WarmedH.refl s).since _
  have hk : s.heap.size ≤ h0.size := by rw [hh]; exact Nat.le_refl _
  have CR : CHr Z ELs s.vm h0 s.vm h0 := CHr.refl hCH
  have lt_I2 : @LT.lt Nat _ a h0.size := I2.lt
  have lt_I3 : @LT.lt Nat _ a h0.size := I3.lt
  have lt_I4 : @LT.lt Nat _ a h0.size := I4.lt
  have lt_I5 : @LT.lt Nat _ ca h0.size := I5.lt
  obtain ⟨cl1, Ar1, -, S1, M1, -, -⟩ := id I5
  have Zc2 : n0 ≤ h0.size := by omega
  have s4 : ∀ t_, Steps p.tables e below (s₁.setTop (mkF m 6 #[.val (.ref a), .val (.ref ca)] [.null, (.int (Int32.ofNat n)), (.int (0 : Int32)), (.ref ca), (.ref a)])) t_ → Steps p.tables e below (s₁.setTop (entryFrame m #[(.ref a), (.ref ca)] 2)) t_ := fun t_ k_ => pre0 t_ (by
    show Steps p.tables e below (s₁.setTop (mkF m 0 #[.val (.ref a), .val (.ref ca)] [])) t_
    refine XS.aloadN X0.here hx rfl (Jvm.hb hby d_jdk_42_method_3_0) rfl rfl ?_
    refine XS.aloadN X0.here hx rfl (Jvm.hb hby d_jdk_42_method_3_1) rfl rfl ?_
    refine XS.iconst X0.here hx rfl (Jvm.hb hby d_jdk_42_method_3_2) ?_
    refine XS.aloadN X0.here hx rfl (Jvm.hb hby d_jdk_42_method_3_3) rfl rfl ?_
    refine X0.arraylength hx (by rw [e0]; exact Ar1.1) (State.isArrayOf_alike hZ.alike Ar1.2.1) (g := (mkF m 4 #[.val (.ref a), .val (.ref ca)] [(.ref ca), (.int (0 : Int32)), (.ref ca), (.ref a)])) rfl rfl (Jvm.hb hby d_jdk_42_method_3_4) _ ?_
    rw [len_of S1 M1]
    show Steps p.tables e below (s₁.setTop (mkF m 5 #[.val (.ref a), .val (.ref ca)] [(.int (Int32.ofNat n)), (.int (0 : Int32)), (.ref ca), (.ref a)])) _
    refine XS.aconstNull X0.here hx rfl (Jvm.hb hby d_jdk_42_method_3_5) ?_
    show Steps p.tables e below (s₁.setTop (mkF m 6 #[.val (.ref a), .val (.ref ca)] [.null, (.int (Int32.ofNat n)), (.int (0 : Int32)), (.ref ca), (.ref a)])) t_
    exact k_)
  obtain ⟨_, _, ⟨T3, L3, k3, n3⟩, -, Xr3, hSr3, hg3, ⟨Lc3, hQ3, l3, y3, z3, Cp3⟩, st3⟩ := X0.specialBackS hx (y := (⟨"java/lang/String", "<init>", "([CIILjava/lang/Void;)V"⟩ : MethodName)) rfl hown (mvT hZ (hw _ (List.mem_of_getElem? (i := 11) rfl))) (mvT hZ (hw _ (List.mem_of_getElem? (i := 12) rfl))) (mvT hZ (hw _ (List.mem_of_getElem? (i := 14) rfl))) (by decide) (backOfSH (s := s) (vm0 := s.vm) (W := 0) (rmIni4 l Z a0 hw [] a ca cst cs kc n h0 n0 Zc2 I1 OX (hcst : ¬ (cst = (0 : Int32))) I2 I3 I4 I5 (hn : cs.length = n) (hb : n ≤ 3) (hlat : own_lat cs) (ga : n0 ≤ a) (hac : @Ne Nat a ca)) hZ (hw _ (List.mem_of_getElem? (i := 14) rfl)) (hw _ (List.mem_of_getElem? (i := 6) rfl)) (by decide) (by decide) hEL CR.1) (g := (mkF m 6 #[.val (.ref a), .val (.ref ca)] [.null, (.int (Int32.ofNat n)), (.int (0 : Int32)), (.ref ca), (.ref a)])) rfl (by rw [hml]; rfl) (Steps.refl _) (a := a) (argsL := [(.ref ca), (.int (0 : Int32)), (.int (Int32.ofNat n)), .null]) (rest := []) (lenOf pd___CIILjava_lang_Void__V rfl) rfl (by show 2 * 0 + _ ≤ _; exact Nat.le_of_eq rfl) (Jvm.hb hby d_jdk_42_method_3_6) (fun _ _ => ⟨rfl, e0, (by decide : 0 + 4 ≤ _), (by decide : 0 + 8 ≤ _)⟩)
  dsimp only [Pt.U, Pt.locs, Pt.cells, Pt.slots] at Xr3 hSr3 hg3 l3 y3 z3 st3 hQ3 Cp3
  subst l3 y3 z3
  obtain ⟨X3, hS, hZ, hown⟩ := rebS (own := "java/lang/String") hS (by first | exact Nat.le_refl _ | (rw [e0]; exact hk)) Xr3 hSr3 hg3 hZ hown
  obtain ⟨b_3, kb_3, rfl, N3q, K3, Fq3_0, Fq3_1, Fq3_2, Fq3_3⟩ := hQ3
  have N3 := Fr.app N0 N3q
  obtain ⟨h3, e3⟩ : ∃ z, T3.heap = z := ⟨_, rfl⟩
  rw [e3] at K3 Fq3_0 Fq3_1 Fq3_2 Fq3_3 Cp3
  have hk : T3.heap.size ≤ h3.size := Nat.le_of_eq (congrArg Array.size e3)
  have z5 : h0.size ≤ h3.size := K3.1
  have CR := CR.trans Cp3
  have lt3_0 : @LT.lt Nat _ a h3.size := Fq3_0.lt
  have lt3_3 : @LT.lt Nat _ b_3 h3.size := Fq3_3.lt
  have s6 : ∀ t_, Steps p.tables e below (T3.setTop (mkF m 9 #[.val (.ref a), .val (.ref ca)] [])) t_ → Steps p.tables e below (s₁.setTop (entryFrame m #[(.ref a), (.ref ca)] 2)) t_ := fun t_ k_ => s4 t_ (by
    show Steps p.tables e below (s₁.setTop (mkF m 6 #[.val (.ref a), .val (.ref ca)] [.null, (.int (Int32.ofNat n)), (.int (0 : Int32)), (.ref ca), (.ref a)])) t_
    refine st3.trans ?_
    show Steps p.tables e below (T3.setTop (mkF m 9 #[.val (.ref a), .val (.ref ca)] [])) _
    show Steps p.tables e below (T3.setTop (mkF m 9 #[.val (.ref a), .val (.ref ca)] [])) t_
    exact k_)
  obtain ⟨fs, hr, hrun, hended, hREW⟩ := X3.leaveW hS (by first | exact Nat.le_refl _ | (rw [e3]; exact hk)) (v := none) (fun _ => rfl)
  refine ⟨_, _, s6 _ ?_, hrun, hended, _, _, rfl, ?_, (by show CHr Z ELs s.vm s.heap T3.vm T3.heap; rw [hh, e3]; exact CR.trans (CHv.at X3 hZ hEL CR.1)), hREW.1, hREW.2.1, hREW.2.2.1, hREW.2.2.2.mono (by decide) (by decide)⟩
  · show Steps p.tables e below (T3.setTop (mkF m 9 #[.val (.ref a), .val (.ref ca)] [])) _
    exact X3.returnOut hx Bd.returns (Jvm.hb hby d_jdk_42_method_3_9) hr
  · show Q_rmIni1 Z _ _ _ _ _ _ h0 n0 _ T3.heap _
    rw [e3]
    exact ⟨b_3, kb_3, rfl, N3, ((Keep.refl h0 [a]).trans K3 (allS (Or.inl (by simp)) all0)), Fq3_0, Fq3_1, Fq3_2, Fq3_3⟩
theorem pn_java_lang_StringLatin1 : plainName "java/lang/StringLatin1" = true := by first | (simp [plainName, overriddenIn]; done) | decide +kernel
theorem d_jdk_43_method_13_0 : decode jdk_43_method_13_code 0 = .ok (.aload_n 0, 1) := by decide +kernel
theorem d_jdk_43_method_13_1 : decode jdk_43_method_13_code 1 = .ok (.arraylength, 1) := by decide +kernel
theorem d_jdk_43_method_13_2 : decode jdk_43_method_13_code 2 = .ok (.aload_n 1, 1) := by decide +kernel
theorem d_jdk_43_method_13_3 : decode jdk_43_method_13_code 3 = .ok (.arraylength, 1) := by decide +kernel
theorem d_jdk_43_method_13_4 : decode jdk_43_method_13_code 4 = .ok (.if_icmp .ne 30, 3) := by decide +kernel
theorem d_jdk_43_method_13_7 : decode jdk_43_method_13_code 7 = .ok (.iconst 0, 1) := by decide +kernel
theorem d_jdk_43_method_13_8 : decode jdk_43_method_13_code 8 = .ok (.istore_n 2, 1) := by decide +kernel
theorem d_jdk_43_method_13_9 : decode jdk_43_method_13_code 9 = .ok (.iload_n 2, 1) := by decide +kernel
theorem d_jdk_43_method_13_10 : decode jdk_43_method_13_code 10 = .ok (.aload_n 0, 1) := by decide +kernel
theorem d_jdk_43_method_13_11 : decode jdk_43_method_13_code 11 = .ok (.arraylength, 1) := by decide +kernel
theorem d_jdk_43_method_13_12 : decode jdk_43_method_13_code 12 = .ok (.if_icmp .ge 20, 3) := by decide +kernel
theorem d_jdk_43_method_13_15 : decode jdk_43_method_13_code 15 = .ok (.aload_n 0, 1) := by decide +kernel
theorem d_jdk_43_method_13_16 : decode jdk_43_method_13_code 16 = .ok (.iload_n 2, 1) := by decide +kernel
theorem d_jdk_43_method_13_17 : decode jdk_43_method_13_code 17 = .ok (.baload, 1) := by decide +kernel
theorem d_jdk_43_method_13_18 : decode jdk_43_method_13_code 18 = .ok (.aload_n 1, 1) := by decide +kernel
theorem d_jdk_43_method_13_19 : decode jdk_43_method_13_code 19 = .ok (.iload_n 2, 1) := by decide +kernel
theorem d_jdk_43_method_13_20 : decode jdk_43_method_13_code 20 = .ok (.baload, 1) := by decide +kernel
theorem d_jdk_43_method_13_21 : decode jdk_43_method_13_code 21 = .ok (.if_icmp .eq 5, 3) := by decide +kernel
theorem d_jdk_43_method_13_26 : decode jdk_43_method_13_code 26 = .ok (.iinc 2 1, 3) := by decide +kernel
theorem d_jdk_43_method_13_29 : decode jdk_43_method_13_code 29 = .ok (.goto (-20), 3) := by decide +kernel
theorem d_jdk_43_method_13_32 : decode jdk_43_method_13_code 32 = .ok (.iconst 1, 1) := by decide +kernel
theorem d_jdk_43_method_13_33 : decode jdk_43_method_13_code 33 = .ok (.ireturn, 1) := by decide +kernel
theorem d_jdk_43_method_13_24 : decode jdk_43_method_13_code 24 = .ok (.iconst 0, 1) := by decide +kernel
theorem d_jdk_43_method_13_25 : decode jdk_43_method_13_code 25 = .ok (.ireturn, 1) := by decide +kernel
theorem d_jdk_43_method_13_34 : decode jdk_43_method_13_code 34 = .ok (.iconst 0, 1) := by decide +kernel
theorem d_jdk_43_method_13_35 : decode jdk_43_method_13_code 35 = .ok (.ireturn, 1) := by decide +kernel
theorem ef_rmLEq (m : MethodId) (x0 : Addr) (x1 : Addr) : entryFrame m #[(.ref x0), (.ref x1)] 3 = mkF m 0 #[.val (.ref x0), .val (.ref x1), .unset] [] := by first | (simp [entryFrame, mkF, argsToLocals, Value.category]; done) | rfl
def Q_rmLEq (Z : State) (bx : Addr) (by_ : Addr) (kx : ClassId) (ky : ClassId) (xs : List Int32) (ys : List Int32) (h0 : Heap) (n0 : Nat) (v : Option Value) (h : Heap) (L : List Loc) : Prop := (v = some (.int (if xs = ys then (1 : Int32) else (0 : Int32)))) ∧ (Fr n0 L) ∧ (h = h0)
set_option maxRecDepth 65536 in
set_option maxHeartbeats 40000000 in
theorem rmLEq (l : Launch) (Z : State) (a0 : Array Value) (hw : ∀ d ∈ tables_1, d.before a0 Z = true) (ws : List Jvm.Cond) (bx : Addr) (by_ : Addr) (kx : ClassId) (ky : ClassId) (xs : List Int32) (ys : List Int32) (h0 : Heap) (n0 : Nat) (Z0 : n0 ≤ h0.size) (I1 : Arv Z h0 bx kx .byte (Int32.ofNat xs.length) (xs.map Value.int) (.int (0 : Int32))) (I2 : Arv Z h0 by_ ky .byte (Int32.ofNat ys.length) (ys.map Value.int) (.int (0 : Int32))) (hb1 : xs.length ≤ 8000) (hb2 : ys.length ≤ 8000) :
    MetFree l (⟨"java/lang/StringLatin1", "equals", "([B[B)Z"⟩ : MethodName) (head1 (Jvm.Cond.code (⟨"java/lang/StringLatin1", "equals", "([B[B)Z"⟩ : MethodName) jdk_43_method_13_code 3 (some .boolean) :: ws) ({ frames := 0, cells := 0, slots := 0, locals := 0 } : Room)) (fun ar_ U => ar_ = #[(.ref bx), (.ref by_)] ∧ Z.Warmed39 U.vm ∧ U.heap = h0) (fun _ _ _ _ _ => True) (fun _ U o U' => ∃ v L, o = .returned v ∧ Q_rmLEq Z bx by_ kx ky xs ys h0 n0 v U'.heap L ∧ FrameEnd U o U' L ({ frames := 0, cells := 0, slots := 0, locals := 0 } : Room).cells ({ frames := 0, cells := 0, slots := 0, locals := 0 } : Room).slots) := by
  refine MetFree.of_bodySF (plainFor_of_name pn_java_lang_StringLatin1) hisR ?_
  intro p e s m args below meth c s₁ Bd hml0 hP hK
  obtain ⟨rfl, hZ, hh⟩ := hP
  have hx := Bd.exec
  have hby := Bd.bytes
  have hml : c.maxLocals = 3 := hml0
  have hown : s.vm.findClass "java/lang/StringLatin1" = some m.cls := findClass_of_methodNamed Bd.named
  have hnm := (name_of_methodNamed Bd.named Bd.method).1
  have X0 : Stand p l e ({ frames := 0, cells := 0, slots := 0, locals := 0 } : Room) s m #[(.ref bx), (.ref by_)] below meth c s₁ [] 0 0 := Stand.of_body Bd
  have e0 : s₁.heap = h0 := by rw [← hh, Bd.state]; rfl
  have N0 := Fr.nil n0
  have pre0 : ∀ t_, Steps p.tables e below (s₁.setTop (mkF m 0 #[.val (.ref bx), .val (.ref by_), .unset] [])) t_ → Steps p.tables e below (s₁.setTop (entryFrame m #[(.ref bx), (.ref by_)] 3)) t_ := fun t_ k_ => castTop (ef_rmLEq m bx by_) k_
  have lt_I1 : @LT.lt Nat _ bx h0.size := I1.lt
  have lt_I2 : @LT.lt Nat _ by_ h0.size := I2.lt
  obtain ⟨cl1, Ar1, -, S1, M1, -, -⟩ := id I1
  obtain ⟨cl2, Ar2, -, S2, M2, -, -⟩ := id I2
  have s3 : ∀ t_, Steps p.tables e below (s₁.setTop (mkF m 4 #[.val (.ref bx), .val (.ref by_), .unset] [(.int (Int32.ofNat ys.length)), (.int (Int32.ofNat xs.length))])) t_ → Steps p.tables e below (s₁.setTop (entryFrame m #[(.ref bx), (.ref by_)] 3)) t_ := fun t_ k_ => pre0 t_ (by
    show Steps p.tables e below (s₁.setTop (mkF m 0 #[.val (.ref bx), .val (.ref by_), .unset] [])) t_
    refine XS.aloadN X0.here hx rfl (Jvm.hb hby d_jdk_43_method_13_0) rfl rfl ?_
    refine X0.arraylength hx (by rw [e0]; exact Ar1.1) (State.isArrayOf_alike hZ.alike Ar1.2.1) (g := (mkF m 1 #[.val (.ref bx), .val (.ref by_), .unset] [(.ref bx)])) rfl rfl (Jvm.hb hby d_jdk_43_method_13_1) _ ?_
    rw [len_of S1 M1]
    show Steps p.tables e below (s₁.setTop (mkF m 2 #[.val (.ref bx), .val (.ref by_), .unset] [(.int (Int32.ofNat xs.length))])) _
    refine XS.aloadN X0.here hx rfl (Jvm.hb hby d_jdk_43_method_13_2) rfl rfl ?_
    refine X0.arraylength hx (by rw [e0]; exact Ar2.1) (State.isArrayOf_alike hZ.alike Ar2.2.1) (g := (mkF m 3 #[.val (.ref bx), .val (.ref by_), .unset] [(.ref by_), (.int (Int32.ofNat xs.length))])) rfl rfl (Jvm.hb hby d_jdk_43_method_13_3) _ ?_
    rw [len_of S2 M2]
    show Steps p.tables e below (s₁.setTop (mkF m 4 #[.val (.ref bx), .val (.ref by_), .unset] [(.int (Int32.ofNat ys.length)), (.int (Int32.ofNat xs.length))])) _
    show Steps p.tables e below (s₁.setTop (mkF m 4 #[.val (.ref bx), .val (.ref by_), .unset] [(.int (Int32.ofNat ys.length)), (.int (Int32.ofNat xs.length))])) t_
    exact k_)
  by_cases h4 : (Int32.ofNat xs.length) = (Int32.ofNat ys.length)
  · have s5 : ∀ t_, Steps p.tables e below (s₁.setTop (mkF m 9 #[.val (.ref bx), .val (.ref by_), .val (.int (0 : Int32))] [])) t_ → Steps p.tables e below (s₁.setTop (entryFrame m #[(.ref bx), (.ref by_)] 3)) t_ := fun t_ k_ => s3 t_ (by
      show Steps p.tables e below (s₁.setTop (mkF m 4 #[.val (.ref bx), .val (.ref by_), .unset] [(.int (Int32.ofNat ys.length)), (.int (Int32.ofNat xs.length))])) t_
      refine XS.icmpNo X0.here hx rfl (Jvm.hb hby d_jdk_43_method_13_4) rfl (teq h4).2 ?_
      show Steps p.tables e below (s₁.setTop (mkF m 7 #[.val (.ref bx), .val (.ref by_), .unset] [])) _
      refine XS.iconst X0.here hx rfl (Jvm.hb hby d_jdk_43_method_13_7) ?_
      refine XS.istoreN X0.here hx rfl (Jvm.hb hby d_jdk_43_method_13_8) rfl (l' := #[.val (.ref bx), .val (.ref by_), .val (.int (0 : Int32))]) rfl ?_
      show Steps p.tables e below (s₁.setTop (mkF m 9 #[.val (.ref bx), .val (.ref by_), .val (.int (0 : Int32))] [])) t_
      exact k_)
    have lp6 : ∀ (k_ : Nat) (j : Nat) (T_ : State) (lo_ : List Loc), j + k_ = xs.length → Stand p l e ({ frames := 0, cells := 0, slots := 0, locals := 0 } : Room) s m #[(.ref bx), (.ref by_)] below meth c T_ lo_ 0 0 → T_.heap = h0 → Fr n0 lo_ → (∀ i, i < j → xs.getD i 0 = ys.getD i 0) → (xs.length = ys.length) → ∃ (T' : State) (lo' : List Loc) (fe_ : JFrame), Stand p l e ({ frames := 0, cells := 0, slots := 0, locals := 0 } : Room) s m #[(.ref bx), (.ref by_)] below meth c T' lo' 0 0 ∧ T'.heap = h0 ∧ Fr n0 lo' ∧ ((fe_ = (mkF m 32 #[.val (.ref bx), .val (.ref by_), .val (.int (Int32.ofNat xs.length))] []) ∧ (xs = ys)) ∨ (∃ (jj : Nat), fe_ = (mkF m 24 #[.val (.ref bx), .val (.ref by_), .val (.int (Int32.ofNat jj))] []) ∧ (¬ (xs = ys)))) ∧ ∀ t_, Steps p.tables e below (T'.setTop fe_) t_ → Steps p.tables e below (T_.setTop (mkF m 9 #[.val (.ref bx), .val (.ref by_), .val (.int (Int32.ofNat j))] [])) t_ := by
      intro k_
      induction k_ with
      | zero => 
        intro j T_ lo_ hm_ X_ e_ N_ hp hlen
        obtain ⟨cl7, Ar7, -, S7, M7, -, -⟩ := id I1
        have s8 : ∀ t_, Steps p.tables e below (T_.setTop (mkF m 32 #[.val (.ref bx), .val (.ref by_), .val (.int (Int32.ofNat j))] [])) t_ → Steps p.tables e below (T_.setTop (mkF m 9 #[.val (.ref bx), .val (.ref by_), .val (.int (Int32.ofNat j))] [])) t_ := fun t_ k_ => (fun _ k_ => k_) t_ (by
          show Steps p.tables e below (T_.setTop (mkF m 9 #[.val (.ref bx), .val (.ref by_), .val (.int (Int32.ofNat j))] [])) t_
          refine XS.iloadN X_.here hx rfl (Jvm.hb hby d_jdk_43_method_13_9) rfl ?_
          refine XS.aloadN X_.here hx rfl (Jvm.hb hby d_jdk_43_method_13_10) rfl rfl ?_
          refine X_.arraylength hx (by rw [e_]; exact Ar7.1) (State.isArrayOf_alike hZ.alike Ar7.2.1) (g := (mkF m 11 #[.val (.ref bx), .val (.ref by_), .val (.int (Int32.ofNat j))] [(.ref bx), (.int (Int32.ofNat j))])) rfl rfl (Jvm.hb hby d_jdk_43_method_13_11) _ ?_
          rw [len_of S7 M7]
          show Steps p.tables e below (T_.setTop (mkF m 12 #[.val (.ref bx), .val (.ref by_), .val (.int (Int32.ofNat j))] [(.int (Int32.ofNat xs.length)), (.int (Int32.ofNat j))])) _
          refine XS.icmpYes X_.here hx rfl (pc0 := 12) (pc' := 32) rfl (Jvm.hb hby d_jdk_43_method_13_12) rfl (flt (own_nlt (by omega) (by omega))).2.1 (by decide) (by decide) ?_
          show Steps p.tables e below (T_.setTop (mkF m 32 #[.val (.ref bx), .val (.ref by_), .val (.int (Int32.ofNat j))] [])) _
          show Steps p.tables e below (T_.setTop (mkF m 32 #[.val (.ref bx), .val (.ref by_), .val (.int (Int32.ofNat j))] [])) t_
          exact k_)
        exact ⟨T_, _, _, X_, e_, N_, (Or.inl ⟨(by rw [show j = xs.length by omega]), (own_ext hlen fun i hi => hp i (by omega))⟩), s8⟩
      | succ k_ ih => 
        intro j T_ lo_ hm_ X_ e_ N_ hp hlen
        obtain ⟨cl9, Ar9, -, S9, M9, -, -⟩ := id I1
        obtain ⟨cl10, Ar10, -, S10, M10, H10, -⟩ := id I1
        have hin10 : ¬ ((Int32.ofNat j) < 0 ∨ cl10.slots.size ≤ ((Int32.ofNat j)).toNatClampNeg) := inb_of S10 (own_in (by omega) (by omega))
        have hat10 : cl10.slots[((Int32.ofNat j)).toNatClampNeg]? = some (.int (xs.getD j 0)) := H10.at hin10 (own_getc xs j _ (by omega) (by omega))
        obtain ⟨cl11, Ar11, -, S11, M11, H11, -⟩ := id I2
        have hin11 : ¬ ((Int32.ofNat j) < 0 ∨ cl11.slots.size ≤ ((Int32.ofNat j)).toNatClampNeg) := inb_of S11 (own_in (by omega) (by omega))
        have hat11 : cl11.slots[((Int32.ofNat j)).toNatClampNeg]? = some (.int (ys.getD j 0)) := H11.at hin11 (own_getc ys j _ (by omega) (by omega))
        have s12 : ∀ t_, Steps p.tables e below (T_.setTop (mkF m 21 #[.val (.ref bx), .val (.ref by_), .val (.int (Int32.ofNat j))] [(.int (ys.getD j 0)), (.int (xs.getD j 0))])) t_ → Steps p.tables e below (T_.setTop (mkF m 9 #[.val (.ref bx), .val (.ref by_), .val (.int (Int32.ofNat j))] [])) t_ := fun t_ k_ => (fun _ k_ => k_) t_ (by
          show Steps p.tables e below (T_.setTop (mkF m 9 #[.val (.ref bx), .val (.ref by_), .val (.int (Int32.ofNat j))] [])) t_
          refine XS.iloadN X_.here hx rfl (Jvm.hb hby d_jdk_43_method_13_9) rfl ?_
          refine XS.aloadN X_.here hx rfl (Jvm.hb hby d_jdk_43_method_13_10) rfl rfl ?_
          refine X_.arraylength hx (by rw [e_]; exact Ar9.1) (State.isArrayOf_alike hZ.alike Ar9.2.1) (g := (mkF m 11 #[.val (.ref bx), .val (.ref by_), .val (.int (Int32.ofNat j))] [(.ref bx), (.int (Int32.ofNat j))])) rfl rfl (Jvm.hb hby d_jdk_43_method_13_11) _ ?_
          rw [len_of S9 M9]
          show Steps p.tables e below (T_.setTop (mkF m 12 #[.val (.ref bx), .val (.ref by_), .val (.int (Int32.ofNat j))] [(.int (Int32.ofNat xs.length)), (.int (Int32.ofNat j))])) _
          refine XS.icmpNo X_.here hx rfl (Jvm.hb hby d_jdk_43_method_13_12) rfl (tlt (own_lt (by omega) (by omega))).2.1 ?_
          show Steps p.tables e below (T_.setTop (mkF m 15 #[.val (.ref bx), .val (.ref by_), .val (.int (Int32.ofNat j))] [])) _
          refine XS.aloadN X_.here hx rfl (Jvm.hb hby d_jdk_43_method_13_15) rfl rfl ?_
          refine XS.iloadN X_.here hx rfl (Jvm.hb hby d_jdk_43_method_13_16) rfl ?_
          refine X_.baloadBytes hx (j := (Int32.ofNat j)) (v := (.int (xs.getD j 0))) (by rw [e_]; exact Ar10.1) (State.isArrayOf_alike hZ.alike Ar10.2.1) Ar10.2.2 hin10 hat10 (g := (mkF m 17 #[.val (.ref bx), .val (.ref by_), .val (.int (Int32.ofNat j))] [(.int (Int32.ofNat j)), (.ref bx)])) rfl rfl (Jvm.hb hby d_jdk_43_method_13_17) _ ?_
          show Steps p.tables e below (T_.setTop (mkF m 18 #[.val (.ref bx), .val (.ref by_), .val (.int (Int32.ofNat j))] [(.int (xs.getD j 0))])) _
          refine XS.aloadN X_.here hx rfl (Jvm.hb hby d_jdk_43_method_13_18) rfl rfl ?_
          refine XS.iloadN X_.here hx rfl (Jvm.hb hby d_jdk_43_method_13_19) rfl ?_
          refine X_.baloadBytes hx (j := (Int32.ofNat j)) (v := (.int (ys.getD j 0))) (by rw [e_]; exact Ar11.1) (State.isArrayOf_alike hZ.alike Ar11.2.1) Ar11.2.2 hin11 hat11 (g := (mkF m 20 #[.val (.ref bx), .val (.ref by_), .val (.int (Int32.ofNat j))] [(.int (Int32.ofNat j)), (.ref by_), (.int (xs.getD j 0))])) rfl rfl (Jvm.hb hby d_jdk_43_method_13_20) _ ?_
          show Steps p.tables e below (T_.setTop (mkF m 21 #[.val (.ref bx), .val (.ref by_), .val (.int (Int32.ofNat j))] [(.int (ys.getD j 0)), (.int (xs.getD j 0))])) _
          show Steps p.tables e below (T_.setTop (mkF m 21 #[.val (.ref bx), .val (.ref by_), .val (.int (Int32.ofNat j))] [(.int (ys.getD j 0)), (.int (xs.getD j 0))])) t_
          exact k_)
        by_cases h13 : (xs.getD j 0) = (ys.getD j 0)
        · have s14 : ∀ t_, Steps p.tables e below (T_.setTop (mkF m 9 #[.val (.ref bx), .val (.ref by_), .val (.int ((Int32.ofNat j) + (1 : Int32)))] [])) t_ → Steps p.tables e below (T_.setTop (mkF m 9 #[.val (.ref bx), .val (.ref by_), .val (.int (Int32.ofNat j))] [])) t_ := fun t_ k_ => s12 t_ (by
            show Steps p.tables e below (T_.setTop (mkF m 21 #[.val (.ref bx), .val (.ref by_), .val (.int (Int32.ofNat j))] [(.int (ys.getD j 0)), (.int (xs.getD j 0))])) t_
            refine XS.icmpYes X_.here hx rfl (pc0 := 21) (pc' := 26) rfl (Jvm.hb hby d_jdk_43_method_13_21) rfl (teq h13).1 (by decide) (by decide) ?_
            show Steps p.tables e below (T_.setTop (mkF m 26 #[.val (.ref bx), .val (.ref by_), .val (.int (Int32.ofNat j))] [])) _
            refine XS.iinc X_.here hx rfl (Jvm.hb hby d_jdk_43_method_13_26) rfl (l' := #[.val (.ref bx), .val (.ref by_), .val (.int ((Int32.ofNat j) + (1 : Int32)))]) rfl ?_
            refine XS.goto X_.here hx rfl (pc0 := 29) (pc' := 9) rfl (Jvm.hb hby d_jdk_43_method_13_29) (by decide) (by decide) ?_
            show Steps p.tables e below (T_.setTop (mkF m 9 #[.val (.ref bx), .val (.ref by_), .val (.int ((Int32.ofNat j) + (1 : Int32)))] [])) t_
            exact k_)
          obtain ⟨T15, lo15, fe15, X15, e15, N15, A15, st15⟩ := ih (j + 1) T_ _  (by omega) X_ e_ N_   (fun i hi => by rcases Nat.lt_succ_iff_lt_or_eq.mp hi with q | q; exact hp i q; rw [q]; exact h13) hlen
          exact ⟨T15, lo15, fe15, X15, e15, N15, A15, fun t_ k_ => s14 t_ (castTop (by rw [own_up]) (st15 t_ k_))⟩
        · have s16 : ∀ t_, Steps p.tables e below (T_.setTop (mkF m 24 #[.val (.ref bx), .val (.ref by_), .val (.int (Int32.ofNat j))] [])) t_ → Steps p.tables e below (T_.setTop (mkF m 9 #[.val (.ref bx), .val (.ref by_), .val (.int (Int32.ofNat j))] [])) t_ := fun t_ k_ => s12 t_ (by
            show Steps p.tables e below (T_.setTop (mkF m 21 #[.val (.ref bx), .val (.ref by_), .val (.int (Int32.ofNat j))] [(.int (ys.getD j 0)), (.int (xs.getD j 0))])) t_
            refine XS.icmpNo X_.here hx rfl (Jvm.hb hby d_jdk_43_method_13_21) rfl (feq h13).1 ?_
            show Steps p.tables e below (T_.setTop (mkF m 24 #[.val (.ref bx), .val (.ref by_), .val (.int (Int32.ofNat j))] [])) _
            show Steps p.tables e below (T_.setTop (mkF m 24 #[.val (.ref bx), .val (.ref by_), .val (.int (Int32.ofNat j))] [])) t_
            exact k_)
          exact ⟨T_, _, _, X_, e_, N_, (Or.inr ⟨j, rfl, (fun e => h13 (by rw [e]))⟩), s16⟩
    obtain ⟨T17, lo17, fe17, X17, e17, N17, A17, st17⟩ := lp6 xs.length 0 s₁ _  (by omega) X0 e0 N0   (fun i hi => absurd hi (Nat.not_lt_zero i)) (own_inj (by omega) (by omega) h4)
    rcases A17 with ⟨rfl, J17_0⟩ | ⟨jj_17, rfl, J17_0⟩
    · have s18 : ∀ t_, Steps p.tables e below (T17.setTop (mkF m 32 #[.val (.ref bx), .val (.ref by_), .val (.int (Int32.ofNat xs.length))] [])) t_ → Steps p.tables e below (s₁.setTop (entryFrame m #[(.ref bx), (.ref by_)] 3)) t_ := fun t_ k_ => s5 t_ (st17 t_ k_)
      have s19 : ∀ t_, Steps p.tables e below (T17.setTop (mkF m 33 #[.val (.ref bx), .val (.ref by_), .val (.int (Int32.ofNat xs.length))] [(.int (1 : Int32))])) t_ → Steps p.tables e below (s₁.setTop (entryFrame m #[(.ref bx), (.ref by_)] 3)) t_ := fun t_ k_ => s18 t_ (by
        show Steps p.tables e below (T17.setTop (mkF m 32 #[.val (.ref bx), .val (.ref by_), .val (.int (Int32.ofNat xs.length))] [])) t_
        refine XS.iconst X17.here hx rfl (Jvm.hb hby d_jdk_43_method_13_32) ?_
        show Steps p.tables e below (T17.setTop (mkF m 33 #[.val (.ref bx), .val (.ref by_), .val (.int (Int32.ofNat xs.length))] [(.int (1 : Int32))])) t_
        exact k_)
      obtain ⟨fs, hr, hrun, hended, hW, hsame⟩ := X17.leave (v := some (.int (1 : Int32))) (fun h => by rw [Bd.returns] at h; cases h)
      refine ⟨_, _, s19 _ ?_, hrun, hended, _, _, rfl, ?_, ⟨_, rfl⟩, hW, hsame.mono (by decide) (by decide)⟩
      · show Steps p.tables e below (T17.setTop (mkF m 33 #[.val (.ref bx), .val (.ref by_), .val (.int (Int32.ofNat xs.length))] [(.int (1 : Int32))])) _
        exact retN X17 hx (t := .boolean) Bd.returns (by simp) (Jvm.hb hby d_jdk_43_method_13_33) hr
      · show Q_rmLEq Z _ _ _ _ _ _ h0 n0 _ T17.heap _
        rw [e17]
        exact ⟨(by rw [if_pos J17_0]), N17, rfl⟩
    · have s20 : ∀ t_, Steps p.tables e below (T17.setTop (mkF m 24 #[.val (.ref bx), .val (.ref by_), .val (.int (Int32.ofNat jj_17))] [])) t_ → Steps p.tables e below (s₁.setTop (entryFrame m #[(.ref bx), (.ref by_)] 3)) t_ := fun t_ k_ => s5 t_ (st17 t_ k_)
      have s21 : ∀ t_, Steps p.tables e below (T17.setTop (mkF m 25 #[.val (.ref bx), .val (.ref by_), .val (.int (Int32.ofNat jj_17))] [(.int (0 : Int32))])) t_ → Steps p.tables e below (s₁.setTop (entryFrame m #[(.ref bx), (.ref by_)] 3)) t_ := fun t_ k_ => s20 t_ (by
        show Steps p.tables e below (T17.setTop (mkF m 24 #[.val (.ref bx), .val (.ref by_), .val (.int (Int32.ofNat jj_17))] [])) t_
        refine XS.iconst X17.here hx rfl (Jvm.hb hby d_jdk_43_method_13_24) ?_
        show Steps p.tables e below (T17.setTop (mkF m 25 #[.val (.ref bx), .val (.ref by_), .val (.int (Int32.ofNat jj_17))] [(.int (0 : Int32))])) t_
        exact k_)
      obtain ⟨fs, hr, hrun, hended, hW, hsame⟩ := X17.leave (v := some (.int (0 : Int32))) (fun h => by rw [Bd.returns] at h; cases h)
      refine ⟨_, _, s21 _ ?_, hrun, hended, _, _, rfl, ?_, ⟨_, rfl⟩, hW, hsame.mono (by decide) (by decide)⟩
      · show Steps p.tables e below (T17.setTop (mkF m 25 #[.val (.ref bx), .val (.ref by_), .val (.int (Int32.ofNat jj_17))] [(.int (0 : Int32))])) _
        exact retN X17 hx (t := .boolean) Bd.returns (by simp) (Jvm.hb hby d_jdk_43_method_13_25) hr
      · show Q_rmLEq Z _ _ _ _ _ _ h0 n0 _ T17.heap _
        rw [e17]
        exact ⟨(by rw [if_neg J17_0]), N17, rfl⟩
  · have s22 : ∀ t_, Steps p.tables e below (s₁.setTop (mkF m 35 #[.val (.ref bx), .val (.ref by_), .unset] [(.int (0 : Int32))])) t_ → Steps p.tables e below (s₁.setTop (entryFrame m #[(.ref bx), (.ref by_)] 3)) t_ := fun t_ k_ => s3 t_ (by
      show Steps p.tables e below (s₁.setTop (mkF m 4 #[.val (.ref bx), .val (.ref by_), .unset] [(.int (Int32.ofNat ys.length)), (.int (Int32.ofNat xs.length))])) t_
      refine XS.icmpYes X0.here hx rfl (pc0 := 4) (pc' := 34) rfl (Jvm.hb hby d_jdk_43_method_13_4) rfl (feq h4).2 (by decide) (by decide) ?_
      show Steps p.tables e below (s₁.setTop (mkF m 34 #[.val (.ref bx), .val (.ref by_), .unset] [])) _
      refine XS.iconst X0.here hx rfl (Jvm.hb hby d_jdk_43_method_13_34) ?_
      show Steps p.tables e below (s₁.setTop (mkF m 35 #[.val (.ref bx), .val (.ref by_), .unset] [(.int (0 : Int32))])) t_
      exact k_)
    obtain ⟨fs, hr, hrun, hended, hW, hsame⟩ := X0.leave (v := some (.int (0 : Int32))) (fun h => by rw [Bd.returns] at h; cases h)
    refine ⟨_, _, s22 _ ?_, hrun, hended, _, _, rfl, ?_, ⟨_, rfl⟩, hW, hsame.mono (by decide) (by decide)⟩
    · show Steps p.tables e below (s₁.setTop (mkF m 35 #[.val (.ref bx), .val (.ref by_), .unset] [(.int (0 : Int32))])) _
      exact retN X0 hx (t := .boolean) Bd.returns (by simp) (Jvm.hb hby d_jdk_43_method_13_35) hr
    · show Q_rmLEq Z _ _ _ _ _ _ h0 n0 _ s₁.heap _
      rw [e0]
      exact ⟨(by rw [if_neg (fun e => h4 (by rw [e]))]), N0, rfl⟩
theorem d_jdk_42_method_66_0 : decode jdk_42_method_66_code 0 = .ok (.aload_n 0, 1) := by decide +kernel
theorem d_jdk_42_method_66_1 : decode jdk_42_method_66_code 1 = .ok (.aload_n 1, 1) := by decide +kernel
theorem d_jdk_42_method_66_2 : decode jdk_42_method_66_code 2 = .ok (.if_acmp .ne 5, 3) := by decide +kernel
theorem d_jdk_42_method_66_7 : decode jdk_42_method_66_code 7 = .ok (.aload_n 1, 1) := by decide +kernel
theorem d_jdk_42_method_66_8 : decode jdk_42_method_66_code 8 = .ok (.instanceof 10, 3) := by decide +kernel
theorem d_jdk_42_method_66_11 : decode jdk_42_method_66_code 11 = .ok (.ifCond .eq 43, 3) := by decide +kernel
theorem d_jdk_42_method_66_14 : decode jdk_42_method_66_code 14 = .ok (.aload_n 1, 1) := by decide +kernel
theorem d_jdk_42_method_66_15 : decode jdk_42_method_66_code 15 = .ok (.checkcast 10, 3) := by decide +kernel
theorem d_jdk_42_method_66_18 : decode jdk_42_method_66_code 18 = .ok (.astore_n 2, 1) := by decide +kernel
theorem d_jdk_42_method_66_19 : decode jdk_42_method_66_code 19 = .ok (.getstatic 38, 3) := by decide +kernel
theorem d_jdk_42_method_66_22 : decode jdk_42_method_66_code 22 = .ok (.ifCond .eq 14, 3) := by decide +kernel
theorem d_jdk_42_method_66_25 : decode jdk_42_method_66_code 25 = .ok (.aload_n 0, 1) := by decide +kernel
theorem d_jdk_42_method_66_26 : decode jdk_42_method_66_code 26 = .ok (.getfield 15, 3) := by decide +kernel
theorem d_jdk_42_method_66_29 : decode jdk_42_method_66_code 29 = .ok (.aload_n 2, 1) := by decide +kernel
theorem d_jdk_42_method_66_30 : decode jdk_42_method_66_code 30 = .ok (.getfield 15, 3) := by decide +kernel
theorem d_jdk_42_method_66_33 : decode jdk_42_method_66_code 33 = .ok (.if_icmp .ne 21, 3) := by decide +kernel
theorem d_jdk_42_method_66_36 : decode jdk_42_method_66_code 36 = .ok (.aload_n 0, 1) := by decide +kernel
theorem d_jdk_42_method_66_37 : decode jdk_42_method_66_code 37 = .ok (.getfield 9, 3) := by decide +kernel
theorem d_jdk_42_method_66_40 : decode jdk_42_method_66_code 40 = .ok (.aload_n 2, 1) := by decide +kernel
theorem d_jdk_42_method_66_41 : decode jdk_42_method_66_code 41 = .ok (.getfield 9, 3) := by decide +kernel
theorem pd___B_B_Z : parseMethodDescriptor "([B[B)Z" = some ⟨[(.array .byte), (.array .byte)], some .boolean⟩ := by decide +kernel
theorem d_jdk_42_method_66_44 : decode jdk_42_method_66_code 44 = .ok (.invokestatic 541, 3) := by decide +kernel
theorem d_jdk_42_method_66_47 : decode jdk_42_method_66_code 47 = .ok (.ifCond .eq 7, 3) := by decide +kernel
theorem d_jdk_42_method_66_50 : decode jdk_42_method_66_code 50 = .ok (.iconst 1, 1) := by decide +kernel
theorem d_jdk_42_method_66_51 : decode jdk_42_method_66_code 51 = .ok (.goto 4, 3) := by decide +kernel
theorem d_jdk_42_method_66_55 : decode jdk_42_method_66_code 55 = .ok (.ireturn, 1) := by decide +kernel
theorem d_jdk_42_method_66_54 : decode jdk_42_method_66_code 54 = .ok (.iconst 0, 1) := by decide +kernel
theorem ef_rmSEq (m : MethodId) (x0 : Addr) (x1 : Addr) : entryFrame m #[(.ref x0), (.ref x1)] 3 = mkF m 0 #[.val (.ref x0), .val (.ref x1), .unset] [] := by first | (simp [entryFrame, mkF, argsToLocals, Value.category]; done) | rfl
def Q_rmSEq (Z : State) (ax : Addr) (ay : Addr) (cst : Int32) (bx : Addr) (kx : ClassId) (cs : List Int32) (by_ : Addr) (ky : ClassId) (ds : List Int32) (h0 : Heap) (n0 : Nat) (v : Option Value) (h : Heap) (L : List Loc) : Prop := (v = some (.int (if cs = ds then (1 : Int32) else (0 : Int32)))) ∧ (Fr n0 L) ∧ (h = h0)
set_option maxRecDepth 65536 in
set_option maxHeartbeats 40000000 in
theorem rmSEq (l : Launch) (Z : State) (a0 : Array Value) (hw : ∀ d ∈ tables_1, d.before a0 Z = true) (ws : List Jvm.Cond) (ax : Addr) (ay : Addr) (cst : Int32) (bx : Addr) (kx : ClassId) (cs : List Int32) (by_ : Addr) (ky : ClassId) (ds : List Int32) (h0 : Heap) (n0 : Nat) (Z0 : n0 ≤ h0.size) (I1 : Sta Z Z.heap "java/lang/String" "COMPACT_STRINGS" "Z" (.int cst)) (OX : Old Z n0 h0) (hcst : ¬ (cst = (0 : Int32))) (I2 : Exa Z h0 ax "java/lang/String") (I3 : Fld Z h0 ax "java/lang/String" "value" "[B" (.ref bx)) (I4 : Fld Z h0 ax "java/lang/String" "coder" "B" (.int (own_cod cs))) (I5 : Arv Z h0 bx kx .byte (Int32.ofNat (own_enl cs)) (own_enc cs) (.int (0 : Int32))) (I6 : Exa Z h0 ay "java/lang/String") (I7 : Fld Z h0 ay "java/lang/String" "value" "[B" (.ref by_)) (I8 : Fld Z h0 ay "java/lang/String" "coder" "B" (.int (own_cod ds))) (I9 : Arv Z h0 by_ ky .byte (Int32.ofNat (own_enl ds)) (own_enc ds) (.int (0 : Int32))) (hne : ¬ (ax = ay)) (hchc : own_chs cs) (hchd : own_chs ds) (hbc : cs.length ≤ 3) (hbd : ds.length ≤ 3) :
    MetFree l (⟨"java/lang/String", "equals", "(Ljava/lang/Object;)Z"⟩ : MethodName) (head1 (Jvm.Cond.code (⟨"java/lang/String", "equals", "(Ljava/lang/Object;)Z"⟩ : MethodName) jdk_42_method_66_code 3 (some .boolean) :: ws) ({ frames := 1, cells := 0, slots := 0, locals := 14 } : Room)) (fun ar_ U => ar_ = #[(.ref ax), (.ref ay)] ∧ Z.Warmed39 U.vm ∧ U.heap = h0) (fun _ _ _ _ _ => True) (fun _ U o U' => ∃ v L, o = .returned v ∧ Q_rmSEq Z ax ay cst bx kx cs by_ ky ds h0 n0 v U'.heap L ∧ FrameEnd U o U' L ({ frames := 1, cells := 0, slots := 0, locals := 14 } : Room).cells ({ frames := 1, cells := 0, slots := 0, locals := 14 } : Room).slots) := by
  refine MetFree.of_bodySF (plainFor_of_name pn_java_lang_String) hisR ?_
  intro p e s m args below meth c s₁ Bd hml0 hP hK
  obtain ⟨rfl, hZ, hh⟩ := hP
  have hx := Bd.exec
  have hby := Bd.bytes
  have hml : c.maxLocals = 3 := hml0
  have hown : s.vm.findClass "java/lang/String" = some m.cls := findClass_of_methodNamed Bd.named
  have hnm := (name_of_methodNamed Bd.named Bd.method).1
  have X0 : Stand p l e ({ frames := 1, cells := 0, slots := 0, locals := 14 } : Room) s m #[(.ref ax), (.ref ay)] below meth c s₁ [] 0 0 := Stand.of_body Bd
  have e0 : s₁.heap = h0 := by rw [← hh, Bd.state]; rfl
  have N0 := Fr.nil n0
  have pre0 : ∀ t_, Steps p.tables e below (s₁.setTop (mkF m 0 #[.val (.ref ax), .val (.ref ay), .unset] [])) t_ → Steps p.tables e below (s₁.setTop (entryFrame m #[(.ref ax), (.ref ay)] 3)) t_ := fun t_ k_ => castTop (ef_rmSEq m ax ay) k_
  have lt_I2 : @LT.lt Nat _ ax h0.size := I2.lt
  have lt_I3 : @LT.lt Nat _ ax h0.size := I3.lt
  have lt_I4 : @LT.lt Nat _ ax h0.size := I4.lt
  have lt_I5 : @LT.lt Nat _ bx h0.size := I5.lt
  have lt_I6 : @LT.lt Nat _ ay h0.size := I6.lt
  have lt_I7 : @LT.lt Nat _ ay h0.size := I7.lt
  have lt_I8 : @LT.lt Nat _ ay h0.size := I8.lt
  have lt_I9 : @LT.lt Nat _ by_ h0.size := I9.lt
  obtain ⟨T1, X1, e1, st1⟩ := instY X0 hx hZ hown (hw _ (List.mem_of_getElem? (i := 57) rfl)) e0 (Ins.self I6) (g := (mkF m 8 #[.val (.ref ax), .val (.ref ay), .unset] [(.ref ay)])) rfl rfl (Jvm.hb hby d_jdk_42_method_66_8)
  obtain ⟨T2, X2, e2, st2⟩ := castY X1 hx hZ hown (hw _ (List.mem_of_getElem? (i := 57) rfl)) e1 (Ins.self I6) (g := (mkF m 15 #[.val (.ref ax), .val (.ref ay), .unset] [(.ref ay)])) rfl rfl (Jvm.hb hby d_jdk_42_method_66_15)
  obtain ⟨T3, X3, e3, st3⟩ := getS2 X2 hx hZ hown (host := "") (Or.inl (hw _ (List.mem_of_getElem? (i := 58) rfl))) Via.refl e2 (I1.ext OX.2) (g := (mkF m 19 #[.val (.ref ax), .val (.ref ay), .val (.ref ay)] [])) rfl (Jvm.hb hby d_jdk_42_method_66_19)
  obtain ⟨T4, X4, e4, st4⟩ := getF X3 hx hZ hown (host := "") (Or.inl (hw _ (List.mem_of_getElem? (i := 25) rfl))) Via.refl e3 I4 (g := (mkF m 26 #[.val (.ref ax), .val (.ref ay), .val (.ref ay)] [(.ref ax)])) rfl rfl (Jvm.hb hby d_jdk_42_method_66_26)
  obtain ⟨T5, X5, e5, st5⟩ := getF X4 hx hZ hown (host := "") (Or.inl (hw _ (List.mem_of_getElem? (i := 25) rfl))) Via.refl e4 I8 (g := (mkF m 30 #[.val (.ref ax), .val (.ref ay), .val (.ref ay)] [(.ref ay), (.int (own_cod cs))])) rfl rfl (Jvm.hb hby d_jdk_42_method_66_30)
  have s6 : ∀ t_, Steps p.tables e below (T5.setTop (mkF m 33 #[.val (.ref ax), .val (.ref ay), .val (.ref ay)] [(.int (own_cod ds)), (.int (own_cod cs))])) t_ → Steps p.tables e below (s₁.setTop (entryFrame m #[(.ref ax), (.ref ay)] 3)) t_ := fun t_ k_ => pre0 t_ (by
    show Steps p.tables e below (s₁.setTop (mkF m 0 #[.val (.ref ax), .val (.ref ay), .unset] [])) t_
    refine XS.aloadN X0.here hx rfl (Jvm.hb hby d_jdk_42_method_66_0) rfl rfl ?_
    refine XS.aloadN X0.here hx rfl (Jvm.hb hby d_jdk_42_method_66_1) rfl rfl ?_
    refine Jvm.RoadKit.acmp (g := (mkF m 2 #[.val (.ref ax), .val (.ref ay), .unset] [(.ref ay), (.ref ax)])) X0 hx rfl rfl rfl (pc0 := 2) (pc' := 7) (same := false) rfl (Jvm.hb hby d_jdk_42_method_66_2) rfl (decide_eq_false fun q => hne (Value.ref.inj q)) (by decide) (by decide) ?_
    show Steps p.tables e below (s₁.setTop (mkF m 7 #[.val (.ref ax), .val (.ref ay), .unset] [])) _
    refine XS.aloadN X0.here hx rfl (Jvm.hb hby d_jdk_42_method_66_7) rfl rfl ?_
    refine st1 _ ?_
    show Steps p.tables e below (T1.setTop (mkF m 11 #[.val (.ref ax), .val (.ref ay), .unset] [(.int (1 : Int32))])) _
    refine XS.ifNo X1.here hx rfl (Jvm.hb hby d_jdk_42_method_66_11) rfl ((if0 _ _).trans (feq (by decide : ¬ ((1 : Int32) = (0 : Int32)))).1) ?_
    show Steps p.tables e below (T1.setTop (mkF m 14 #[.val (.ref ax), .val (.ref ay), .unset] [])) _
    refine XS.aloadN X1.here hx rfl (Jvm.hb hby d_jdk_42_method_66_14) rfl rfl ?_
    refine st2 _ ?_
    show Steps p.tables e below (T2.setTop (mkF m 18 #[.val (.ref ax), .val (.ref ay), .unset] [(.ref ay)])) _
    refine XS.astoreN X2.here hx rfl (Jvm.hb hby d_jdk_42_method_66_18) rfl rfl (l' := #[.val (.ref ax), .val (.ref ay), .val (.ref ay)]) rfl ?_
    refine st3 _ ?_
    show Steps p.tables e below (T3.setTop (mkF m 22 #[.val (.ref ax), .val (.ref ay), .val (.ref ay)] [(.int cst)])) _
    refine XS.ifNo X3.here hx rfl (Jvm.hb hby d_jdk_42_method_66_22) rfl ((if0 _ _).trans (feq hcst).1) ?_
    show Steps p.tables e below (T3.setTop (mkF m 25 #[.val (.ref ax), .val (.ref ay), .val (.ref ay)] [])) _
    refine XS.aloadN X3.here hx rfl (Jvm.hb hby d_jdk_42_method_66_25) rfl rfl ?_
    refine st4 _ ?_
    show Steps p.tables e below (T4.setTop (mkF m 29 #[.val (.ref ax), .val (.ref ay), .val (.ref ay)] [(.int (own_cod cs))])) _
    refine XS.aloadN X4.here hx rfl (Jvm.hb hby d_jdk_42_method_66_29) rfl rfl ?_
    refine st5 _ ?_
    show Steps p.tables e below (T5.setTop (mkF m 33 #[.val (.ref ax), .val (.ref ay), .val (.ref ay)] [(.int (own_cod ds)), (.int (own_cod cs))])) _
    show Steps p.tables e below (T5.setTop (mkF m 33 #[.val (.ref ax), .val (.ref ay), .val (.ref ay)] [(.int (own_cod ds)), (.int (own_cod cs))])) t_
    exact k_)
  by_cases h7 : (own_cod cs) = (own_cod ds)
  · obtain ⟨T8, X8, e8, st8⟩ := getF X5 hx hZ hown (host := "") (Or.inl (hw _ (List.mem_of_getElem? (i := 24) rfl))) Via.refl e5 I3 (g := (mkF m 37 #[.val (.ref ax), .val (.ref ay), .val (.ref ay)] [(.ref ax)])) rfl rfl (Jvm.hb hby d_jdk_42_method_66_37)
    obtain ⟨T9, X9, e9, st9⟩ := getF X8 hx hZ hown (host := "") (Or.inl (hw _ (List.mem_of_getElem? (i := 24) rfl))) Via.refl e8 I7 (g := (mkF m 41 #[.val (.ref ax), .val (.ref ay), .val (.ref ay)] [(.ref ay), (.ref bx)])) rfl rfl (Jvm.hb hby d_jdk_42_method_66_41)
    have V10 : Arv Z h0 bx kx .byte (Int32.ofNat (own_eb cs).length) ((own_eb cs).map Value.int) (.int (0 : Int32)) := by rw [own_ebl, ← own_encb]; exact I5
    have V11 : Arv Z h0 by_ ky .byte (Int32.ofNat (own_eb ds).length) ((own_eb ds).map Value.int) (.int (0 : Int32)) := by rw [own_ebl, ← own_encb]; exact I9
    have Zc12 : n0 ≤ h0.size := by omega
    obtain ⟨_, _, ⟨T13, L13, k13, n13⟩, -, X13, ⟨Lc13, hQ13, l13, y13, z13⟩, st13⟩ := Jvm.LawKit.callS X9 hx (y := (⟨"java/lang/StringLatin1", "equals", "([B[B)Z"⟩ : MethodName)) hown (mvT hZ (hw _ (List.mem_of_getElem? (i := 59) rfl))) (mvT hZ (hw _ (List.mem_of_getElem? (i := 60) rfl))) (mvT hZ (hw _ (List.mem_of_getElem? (i := 61) rfl))) (mvT hZ (hw _ (List.mem_of_getElem? (i := 62) rfl))) (by decide) (backOf (W := 0) (rmLEq l Z a0 hw [] bx by_ kx ky (own_eb cs) (own_eb ds) h0 n0 Zc12 V10 V11 (by rw [own_ebl]; have := own_enll cs; omega) (by rw [own_ebl]; have := own_enll ds; omega)) hZ (hw _ (List.mem_of_getElem? (i := 62) rfl)) (hw _ (List.mem_of_getElem? (i := 61) rfl)) (by decide) (by decide)) (g := (mkF m 44 #[.val (.ref ax), .val (.ref ay), .val (.ref ay)] [(.ref by_), (.ref bx)])) rfl (by rw [hml]; rfl) (argsL := [(.ref bx), (.ref by_)]) (rest := []) (lenOf pd___B_B_Z rfl) rfl (by show 2 * 0 + _ ≤ _; exact Nat.le_of_eq rfl) (Jvm.hb hby d_jdk_42_method_66_44) (fun _ _ => ⟨rfl, e9, (by decide : 0 + 0 ≤ _), (by decide : 0 + 0 ≤ _)⟩)
    dsimp only [Pt.U, Pt.locs, Pt.cells, Pt.slots] at X13 l13 y13 z13 st13 hQ13
    subst l13 y13 z13
    obtain ⟨rfl, N13q, e13⟩ := hQ13
    have N13 := Fr.app N0 N13q
    have s14 : ∀ t_, Steps p.tables e below (T13.setTop (mkF m 47 #[.val (.ref ax), .val (.ref ay), .val (.ref ay)] [(.int (if (own_eb cs) = (own_eb ds) then (1 : Int32) else (0 : Int32)))])) t_ → Steps p.tables e below (s₁.setTop (entryFrame m #[(.ref ax), (.ref ay)] 3)) t_ := fun t_ k_ => s6 t_ (by
      show Steps p.tables e below (T5.setTop (mkF m 33 #[.val (.ref ax), .val (.ref ay), .val (.ref ay)] [(.int (own_cod ds)), (.int (own_cod cs))])) t_
      refine XS.icmpNo X5.here hx rfl (Jvm.hb hby d_jdk_42_method_66_33) rfl (teq h7).2 ?_
      show Steps p.tables e below (T5.setTop (mkF m 36 #[.val (.ref ax), .val (.ref ay), .val (.ref ay)] [])) _
      refine XS.aloadN X5.here hx rfl (Jvm.hb hby d_jdk_42_method_66_36) rfl rfl ?_
      refine st8 _ ?_
      show Steps p.tables e below (T8.setTop (mkF m 40 #[.val (.ref ax), .val (.ref ay), .val (.ref ay)] [(.ref bx)])) _
      refine XS.aloadN X8.here hx rfl (Jvm.hb hby d_jdk_42_method_66_40) rfl rfl ?_
      refine st9 _ ?_
      show Steps p.tables e below (T9.setTop (mkF m 44 #[.val (.ref ax), .val (.ref ay), .val (.ref ay)] [(.ref by_), (.ref bx)])) _
      refine st13 _ ?_
      show Steps p.tables e below (T13.setTop (mkF m 47 #[.val (.ref ax), .val (.ref ay), .val (.ref ay)] [(.int (if (own_eb cs) = (own_eb ds) then (1 : Int32) else (0 : Int32)))])) _
      show Steps p.tables e below (T13.setTop (mkF m 47 #[.val (.ref ax), .val (.ref ay), .val (.ref ay)] [(.int (if (own_eb cs) = (own_eb ds) then (1 : Int32) else (0 : Int32)))])) t_
      exact k_)
    by_cases h15 : own_eb cs = own_eb ds
    · have s16 : ∀ t_, Steps p.tables e below (T13.setTop (mkF m 47 #[.val (.ref ax), .val (.ref ay), .val (.ref ay)] [(.int (1 : Int32))])) t_ → Steps p.tables e below (s₁.setTop (entryFrame m #[(.ref ax), (.ref ay)] 3)) t_ := fun t_ k_ => s14 t_ (castTop (by simp only [if_pos h15]) k_)
      have s17 : ∀ t_, Steps p.tables e below (T13.setTop (mkF m 55 #[.val (.ref ax), .val (.ref ay), .val (.ref ay)] [(.int (1 : Int32))])) t_ → Steps p.tables e below (s₁.setTop (entryFrame m #[(.ref ax), (.ref ay)] 3)) t_ := fun t_ k_ => s16 t_ (by
        show Steps p.tables e below (T13.setTop (mkF m 47 #[.val (.ref ax), .val (.ref ay), .val (.ref ay)] [(.int (1 : Int32))])) t_
        refine XS.ifNo X13.here hx rfl (Jvm.hb hby d_jdk_42_method_66_47) rfl ((if0 _ _).trans (feq (by decide : ¬ ((1 : Int32) = (0 : Int32)))).1) ?_
        show Steps p.tables e below (T13.setTop (mkF m 50 #[.val (.ref ax), .val (.ref ay), .val (.ref ay)] [])) _
        refine XS.iconst X13.here hx rfl (Jvm.hb hby d_jdk_42_method_66_50) ?_
        refine XS.goto X13.here hx rfl (pc0 := 51) (pc' := 55) rfl (Jvm.hb hby d_jdk_42_method_66_51) (by decide) (by decide) ?_
        show Steps p.tables e below (T13.setTop (mkF m 55 #[.val (.ref ax), .val (.ref ay), .val (.ref ay)] [(.int (1 : Int32))])) t_
        exact k_)
      obtain ⟨fs, hr, hrun, hended, hW, hsame⟩ := X13.leave (v := some (.int (1 : Int32))) (fun h => by rw [Bd.returns] at h; cases h)
      refine ⟨_, _, s17 _ ?_, hrun, hended, _, _, rfl, ?_, ⟨_, rfl⟩, hW, hsame.mono (by decide) (by decide)⟩
      · show Steps p.tables e below (T13.setTop (mkF m 55 #[.val (.ref ax), .val (.ref ay), .val (.ref ay)] [(.int (1 : Int32))])) _
        exact retN X13 hx (t := .boolean) Bd.returns (by simp) (Jvm.hb hby d_jdk_42_method_66_55) hr
      · show Q_rmSEq Z _ _ _ _ _ _ _ _ _ h0 n0 _ T13.heap _
        rw [e13]
        exact ⟨(by rw [if_pos (own_encinj hchc hchd h7 h15)]), N13, rfl⟩
    · have s18 : ∀ t_, Steps p.tables e below (T13.setTop (mkF m 47 #[.val (.ref ax), .val (.ref ay), .val (.ref ay)] [(.int (0 : Int32))])) t_ → Steps p.tables e below (s₁.setTop (entryFrame m #[(.ref ax), (.ref ay)] 3)) t_ := fun t_ k_ => s14 t_ (castTop (by simp only [if_neg h15]) k_)
      have s19 : ∀ t_, Steps p.tables e below (T13.setTop (mkF m 55 #[.val (.ref ax), .val (.ref ay), .val (.ref ay)] [(.int (0 : Int32))])) t_ → Steps p.tables e below (s₁.setTop (entryFrame m #[(.ref ax), (.ref ay)] 3)) t_ := fun t_ k_ => s18 t_ (by
        show Steps p.tables e below (T13.setTop (mkF m 47 #[.val (.ref ax), .val (.ref ay), .val (.ref ay)] [(.int (0 : Int32))])) t_
        refine XS.ifYes X13.here hx rfl (pc0 := 47) (pc' := 54) rfl (Jvm.hb hby d_jdk_42_method_66_47) rfl ((if0 _ _).trans (teq (rfl : (0 : Int32) = (0 : Int32))).1) (by decide) (by decide) ?_
        show Steps p.tables e below (T13.setTop (mkF m 54 #[.val (.ref ax), .val (.ref ay), .val (.ref ay)] [])) _
        refine XS.iconst X13.here hx rfl (Jvm.hb hby d_jdk_42_method_66_54) ?_
        show Steps p.tables e below (T13.setTop (mkF m 55 #[.val (.ref ax), .val (.ref ay), .val (.ref ay)] [(.int (0 : Int32))])) t_
        exact k_)
      obtain ⟨fs, hr, hrun, hended, hW, hsame⟩ := X13.leave (v := some (.int (0 : Int32))) (fun h => by rw [Bd.returns] at h; cases h)
      refine ⟨_, _, s19 _ ?_, hrun, hended, _, _, rfl, ?_, ⟨_, rfl⟩, hW, hsame.mono (by decide) (by decide)⟩
      · show Steps p.tables e below (T13.setTop (mkF m 55 #[.val (.ref ax), .val (.ref ay), .val (.ref ay)] [(.int (0 : Int32))])) _
        exact retN X13 hx (t := .boolean) Bd.returns (by simp) (Jvm.hb hby d_jdk_42_method_66_55) hr
      · show Q_rmSEq Z _ _ _ _ _ _ _ _ _ h0 n0 _ T13.heap _
        rw [e13]
        exact ⟨(by rw [if_neg (fun e => h15 (by rw [e]))]), N13, rfl⟩
  · have s20 : ∀ t_, Steps p.tables e below (T5.setTop (mkF m 55 #[.val (.ref ax), .val (.ref ay), .val (.ref ay)] [(.int (0 : Int32))])) t_ → Steps p.tables e below (s₁.setTop (entryFrame m #[(.ref ax), (.ref ay)] 3)) t_ := fun t_ k_ => s6 t_ (by
      show Steps p.tables e below (T5.setTop (mkF m 33 #[.val (.ref ax), .val (.ref ay), .val (.ref ay)] [(.int (own_cod ds)), (.int (own_cod cs))])) t_
      refine XS.icmpYes X5.here hx rfl (pc0 := 33) (pc' := 54) rfl (Jvm.hb hby d_jdk_42_method_66_33) rfl (feq h7).2 (by decide) (by decide) ?_
      show Steps p.tables e below (T5.setTop (mkF m 54 #[.val (.ref ax), .val (.ref ay), .val (.ref ay)] [])) _
      refine XS.iconst X5.here hx rfl (Jvm.hb hby d_jdk_42_method_66_54) ?_
      show Steps p.tables e below (T5.setTop (mkF m 55 #[.val (.ref ax), .val (.ref ay), .val (.ref ay)] [(.int (0 : Int32))])) t_
      exact k_)
    obtain ⟨fs, hr, hrun, hended, hW, hsame⟩ := X5.leave (v := some (.int (0 : Int32))) (fun h => by rw [Bd.returns] at h; cases h)
    refine ⟨_, _, s20 _ ?_, hrun, hended, _, _, rfl, ?_, ⟨_, rfl⟩, hW, hsame.mono (by decide) (by decide)⟩
    · show Steps p.tables e below (T5.setTop (mkF m 55 #[.val (.ref ax), .val (.ref ay), .val (.ref ay)] [(.int (0 : Int32))])) _
      exact retN X5 hx (t := .boolean) Bd.returns (by simp) (Jvm.hb hby d_jdk_42_method_66_55) hr
    · show Q_rmSEq Z _ _ _ _ _ _ _ _ _ h0 n0 _ T5.heap _
      rw [e5]
      exact ⟨(by rw [if_neg (fun e => h7 (by rw [e]))]), N0, rfl⟩
theorem d_jdk_42_method_66_5 : decode jdk_42_method_66_code 5 = .ok (.iconst 1, 1) := by decide +kernel
theorem d_jdk_42_method_66_6 : decode jdk_42_method_66_code 6 = .ok (.ireturn, 1) := by decide +kernel
theorem ef_rmSEqS (m : MethodId) (x0 : Addr) (x1 : Addr) : entryFrame m #[(.ref x0), (.ref x1)] 3 = mkF m 0 #[.val (.ref x0), .val (.ref x1), .unset] [] := by first | (simp [entryFrame, mkF, argsToLocals, Value.category]; done) | rfl
def Q_rmSEqS (Z : State) (ax : Addr) (h0 : Heap) (n0 : Nat) (v : Option Value) (h : Heap) (L : List Loc) : Prop := (v = some (.int (1 : Int32))) ∧ (Fr n0 L) ∧ (h = h0)
set_option maxRecDepth 65536 in
set_option maxHeartbeats 40000000 in
theorem rmSEqS (l : Launch) (Z : State) (a0 : Array Value) (hw : ∀ d ∈ tables_1, d.before a0 Z = true) (ws : List Jvm.Cond) (ax : Addr) (h0 : Heap) (n0 : Nat) (Z0 : n0 ≤ h0.size)  :
    MetFree l (⟨"java/lang/String", "equals", "(Ljava/lang/Object;)Z"⟩ : MethodName) (head1 (Jvm.Cond.code (⟨"java/lang/String", "equals", "(Ljava/lang/Object;)Z"⟩ : MethodName) jdk_42_method_66_code 3 (some .boolean) :: ws) ({ frames := 0, cells := 0, slots := 0, locals := 0 } : Room)) (fun ar_ U => ar_ = #[(.ref ax), (.ref ax)] ∧ Z.Warmed39 U.vm ∧ U.heap = h0) (fun _ _ _ _ _ => True) (fun _ U o U' => ∃ v L, o = .returned v ∧ Q_rmSEqS Z ax h0 n0 v U'.heap L ∧ FrameEnd U o U' L ({ frames := 0, cells := 0, slots := 0, locals := 0 } : Room).cells ({ frames := 0, cells := 0, slots := 0, locals := 0 } : Room).slots) := by
  refine MetFree.of_bodySF (plainFor_of_name pn_java_lang_String) hisR ?_
  intro p e s m args below meth c s₁ Bd hml0 hP hK
  obtain ⟨rfl, hZ, hh⟩ := hP
  have hx := Bd.exec
  have hby := Bd.bytes
  have hml : c.maxLocals = 3 := hml0
  have hown : s.vm.findClass "java/lang/String" = some m.cls := findClass_of_methodNamed Bd.named
  have hnm := (name_of_methodNamed Bd.named Bd.method).1
  have X0 : Stand p l e ({ frames := 0, cells := 0, slots := 0, locals := 0 } : Room) s m #[(.ref ax), (.ref ax)] below meth c s₁ [] 0 0 := Stand.of_body Bd
  have e0 : s₁.heap = h0 := by rw [← hh, Bd.state]; rfl
  have N0 := Fr.nil n0
  have pre0 : ∀ t_, Steps p.tables e below (s₁.setTop (mkF m 0 #[.val (.ref ax), .val (.ref ax), .unset] [])) t_ → Steps p.tables e below (s₁.setTop (entryFrame m #[(.ref ax), (.ref ax)] 3)) t_ := fun t_ k_ => castTop (ef_rmSEqS m ax ax) k_
  have s1 : ∀ t_, Steps p.tables e below (s₁.setTop (mkF m 6 #[.val (.ref ax), .val (.ref ax), .unset] [(.int (1 : Int32))])) t_ → Steps p.tables e below (s₁.setTop (entryFrame m #[(.ref ax), (.ref ax)] 3)) t_ := fun t_ k_ => pre0 t_ (by
    show Steps p.tables e below (s₁.setTop (mkF m 0 #[.val (.ref ax), .val (.ref ax), .unset] [])) t_
    refine XS.aloadN X0.here hx rfl (Jvm.hb hby d_jdk_42_method_66_0) rfl rfl ?_
    refine XS.aloadN X0.here hx rfl (Jvm.hb hby d_jdk_42_method_66_1) rfl rfl ?_
    refine Jvm.RoadKit.acmp (g := (mkF m 2 #[.val (.ref ax), .val (.ref ax), .unset] [(.ref ax), (.ref ax)])) X0 hx rfl rfl rfl (pc0 := 2) (pc' := 5) (same := true) rfl (Jvm.hb hby d_jdk_42_method_66_2) rfl (decide_eq_true rfl) (by decide) (by decide) ?_
    show Steps p.tables e below (s₁.setTop (mkF m 5 #[.val (.ref ax), .val (.ref ax), .unset] [])) _
    refine XS.iconst X0.here hx rfl (Jvm.hb hby d_jdk_42_method_66_5) ?_
    show Steps p.tables e below (s₁.setTop (mkF m 6 #[.val (.ref ax), .val (.ref ax), .unset] [(.int (1 : Int32))])) t_
    exact k_)
  obtain ⟨fs, hr, hrun, hended, hW, hsame⟩ := X0.leave (v := some (.int (1 : Int32))) (fun h => by rw [Bd.returns] at h; cases h)
  refine ⟨_, _, s1 _ ?_, hrun, hended, _, _, rfl, ?_, ⟨_, rfl⟩, hW, hsame.mono (by decide) (by decide)⟩
  · show Steps p.tables e below (s₁.setTop (mkF m 6 #[.val (.ref ax), .val (.ref ax), .unset] [(.int (1 : Int32))])) _
    exact retN X0 hx (t := .boolean) Bd.returns (by simp) (Jvm.hb hby d_jdk_42_method_66_6) hr
  · show Q_rmSEqS Z _ h0 n0 _ s₁.heap _
    rw [e0]
    exact ⟨rfl, N0, rfl⟩
theorem pn_com_example_coyote_hill_coyotehill_LeaseRequestEqualsPinLaw : plainName "com/example/coyote_hill/coyotehill/LeaseRequestEqualsPinLaw" = true := by first | (simp [plainName, overriddenIn]; done) | decide +kernel
theorem d_method_2_0 : decode method_2_code 0 = .ok (.iload_n 0, 1) := by decide +kernel
theorem d_method_2_1 : decode method_2_code 1 = .ok (.ifCond .ne 14, 3) := by decide +kernel
theorem d_method_2_4 : decode method_2_code 4 = .ok (.new 7, 3) := by decide +kernel
theorem d_method_2_7 : decode method_2_code 7 = .ok (.dup, 1) := by decide +kernel
theorem d_method_2_8 : decode method_2_code 8 = .ok (.iconst 0, 1) := by decide +kernel
theorem d_method_2_9 : decode method_2_code 9 = .ok (.newarray .char, 2) := by decide +kernel
theorem pd___C_V : parseMethodDescriptor "([C)V" = some ⟨[(.array .char)], none⟩ := by decide +kernel
theorem d_method_2_11 : decode method_2_code 11 = .ok (.invokespecial 9, 3) := by decide +kernel
theorem d_method_2_14 : decode method_2_code 14 = .ok (.areturn, 1) := by decide +kernel
theorem d_method_2_15 : decode method_2_code 15 = .ok (.iload_n 0, 1) := by decide +kernel
theorem d_method_2_16 : decode method_2_code 16 = .ok (.iconst 1, 1) := by decide +kernel
theorem d_method_2_17 : decode method_2_code 17 = .ok (.if_icmp .ne 18, 3) := by decide +kernel
theorem d_method_2_20 : decode method_2_code 20 = .ok (.new 7, 3) := by decide +kernel
theorem d_method_2_23 : decode method_2_code 23 = .ok (.dup, 1) := by decide +kernel
theorem d_method_2_24 : decode method_2_code 24 = .ok (.iconst 1, 1) := by decide +kernel
theorem d_method_2_25 : decode method_2_code 25 = .ok (.newarray .char, 2) := by decide +kernel
theorem d_method_2_27 : decode method_2_code 27 = .ok (.dup, 1) := by decide +kernel
theorem d_method_2_28 : decode method_2_code 28 = .ok (.iconst 0, 1) := by decide +kernel
theorem d_method_2_29 : decode method_2_code 29 = .ok (.iload_n 1, 1) := by decide +kernel
theorem d_method_2_30 : decode method_2_code 30 = .ok (.castore, 1) := by decide +kernel
theorem d_method_2_31 : decode method_2_code 31 = .ok (.invokespecial 9, 3) := by decide +kernel
theorem d_method_2_34 : decode method_2_code 34 = .ok (.areturn, 1) := by decide +kernel
theorem d_method_2_35 : decode method_2_code 35 = .ok (.iload_n 0, 1) := by decide +kernel
theorem d_method_2_36 : decode method_2_code 36 = .ok (.iconst 2, 1) := by decide +kernel
theorem d_method_2_37 : decode method_2_code 37 = .ok (.if_icmp .ne 22, 3) := by decide +kernel
theorem d_method_2_40 : decode method_2_code 40 = .ok (.new 7, 3) := by decide +kernel
theorem d_method_2_43 : decode method_2_code 43 = .ok (.dup, 1) := by decide +kernel
theorem d_method_2_44 : decode method_2_code 44 = .ok (.iconst 2, 1) := by decide +kernel
theorem d_method_2_45 : decode method_2_code 45 = .ok (.newarray .char, 2) := by decide +kernel
theorem d_method_2_47 : decode method_2_code 47 = .ok (.dup, 1) := by decide +kernel
theorem d_method_2_48 : decode method_2_code 48 = .ok (.iconst 0, 1) := by decide +kernel
theorem d_method_2_49 : decode method_2_code 49 = .ok (.iload_n 1, 1) := by decide +kernel
theorem d_method_2_50 : decode method_2_code 50 = .ok (.castore, 1) := by decide +kernel
theorem d_method_2_51 : decode method_2_code 51 = .ok (.dup, 1) := by decide +kernel
theorem d_method_2_52 : decode method_2_code 52 = .ok (.iconst 1, 1) := by decide +kernel
theorem d_method_2_53 : decode method_2_code 53 = .ok (.iload_n 2, 1) := by decide +kernel
theorem d_method_2_54 : decode method_2_code 54 = .ok (.castore, 1) := by decide +kernel
theorem d_method_2_55 : decode method_2_code 55 = .ok (.invokespecial 9, 3) := by decide +kernel
theorem d_method_2_58 : decode method_2_code 58 = .ok (.areturn, 1) := by decide +kernel
theorem d_method_2_59 : decode method_2_code 59 = .ok (.new 7, 3) := by decide +kernel
theorem d_method_2_62 : decode method_2_code 62 = .ok (.dup, 1) := by decide +kernel
theorem d_method_2_63 : decode method_2_code 63 = .ok (.iconst 3, 1) := by decide +kernel
theorem d_method_2_64 : decode method_2_code 64 = .ok (.newarray .char, 2) := by decide +kernel
theorem d_method_2_66 : decode method_2_code 66 = .ok (.dup, 1) := by decide +kernel
theorem d_method_2_67 : decode method_2_code 67 = .ok (.iconst 0, 1) := by decide +kernel
theorem d_method_2_68 : decode method_2_code 68 = .ok (.iload_n 1, 1) := by decide +kernel
theorem d_method_2_69 : decode method_2_code 69 = .ok (.castore, 1) := by decide +kernel
theorem d_method_2_70 : decode method_2_code 70 = .ok (.dup, 1) := by decide +kernel
theorem d_method_2_71 : decode method_2_code 71 = .ok (.iconst 1, 1) := by decide +kernel
theorem d_method_2_72 : decode method_2_code 72 = .ok (.iload_n 2, 1) := by decide +kernel
theorem d_method_2_73 : decode method_2_code 73 = .ok (.castore, 1) := by decide +kernel
theorem d_method_2_74 : decode method_2_code 74 = .ok (.dup, 1) := by decide +kernel
theorem d_method_2_75 : decode method_2_code 75 = .ok (.iconst 2, 1) := by decide +kernel
theorem d_method_2_76 : decode method_2_code 76 = .ok (.iload_n 3, 1) := by decide +kernel
theorem d_method_2_77 : decode method_2_code 77 = .ok (.castore, 1) := by decide +kernel
theorem d_method_2_78 : decode method_2_code 78 = .ok (.invokespecial 9, 3) := by decide +kernel
theorem d_method_2_81 : decode method_2_code 81 = .ok (.areturn, 1) := by decide +kernel
theorem ef_rmMk (m : MethodId) (x0 : Int32) (x1 : Int32) (x2 : Int32) (x3 : Int32) : entryFrame m #[(.int x0), (.int x1), (.int x2), (.int x3)] 4 = mkF m 0 #[.val (.int x0), .val (.int x1), .val (.int x2), .val (.int x3)] [] := by first | (simp [entryFrame, mkF, argsToLocals, Value.category]; done) | rfl
def Q_rmMk (Z : State) (cx : Int32) (cy : Int32) (cz : Int32) (cst : Int32) (n : Nat) (h0 : Heap) (n0 : Nat) (v : Option Value) (h : Heap) (L : List Loc) : Prop := ∃ (a : Addr), ∃ (b : Addr), ∃ (kb : ClassId), (v = some (.ref a)) ∧ (Fr n0 L) ∧ (Keep h0 h []) ∧ (Exa Z h a "java/lang/String") ∧ (Fld Z h a "java/lang/String" "value" "[B" (.ref b)) ∧ (Fld Z h a "java/lang/String" "coder" "B" (.int (own_cod (own_mk n cx cy cz)))) ∧ (Arv Z h b kb .byte (Int32.ofNat (own_enl (own_mk n cx cy cz))) (own_enc (own_mk n cx cy cz)) (.int (0 : Int32))) ∧ (h0.size ≤ a)
set_option maxRecDepth 65536 in
set_option maxHeartbeats 40000000 in
theorem rmMk (l : Launch) (Z : State) (a0 : Array Value) (hw : ∀ d ∈ tables_1, d.before a0 Z = true) (ws : List Jvm.Cond) (cx : Int32) (cy : Int32) (cz : Int32) (cst : Int32) (n : Nat) (h0 : Heap) (n0 : Nat) (Z0 : n0 ≤ h0.size) (I1 : Sta Z Z.heap "java/lang/String" "COMPACT_STRINGS" "Z" (.int cst)) (OX : Old Z n0 h0) (hcst : ¬ (cst = (0 : Int32))) (hn4 : n < 4) (r0a : ¬ (cx < (0 : Int32))) (r1a : ¬ (cy < (0 : Int32))) (r2a : ¬ (cz < (0 : Int32))) (r0b : ¬ ((255 : Int32) < cx)) (r1b : ¬ ((255 : Int32) < cy)) (r2b : ¬ ((255 : Int32) < cz)) :
    MetFree l (⟨"com/example/coyote_hill/coyotehill/LeaseRequestEqualsPinLaw", "mk", "(ICCC)Ljava/lang/String;"⟩ : MethodName) (head1 (Jvm.Cond.code (⟨"com/example/coyote_hill/coyotehill/LeaseRequestEqualsPinLaw", "mk", "(ICCC)Ljava/lang/String;"⟩ : MethodName) method_2_code 4 (some (.object "java/lang/String")) :: ws) ({ frames := 4, cells := 6, slots := 15, locals := 66 } : Room)) (fun ar_ U => ar_ = #[(.int (Int32.ofNat n)), (.int cx), (.int cy), (.int cz)] ∧ Z.Warmed39 U.vm ∧ U.heap = h0 ∧ CHv Z ELs U.vm h0) (fun _ _ _ _ _ => True) (fun _ U o U' => ∃ v L, o = .returned v ∧ Q_rmMk Z cx cy cz cst n h0 n0 v U'.heap L ∧ CHr Z ELs U.vm U.heap U'.vm U'.heap ∧ ReturnedEndW U o U' L ({ frames := 4, cells := 6, slots := 15, locals := 66 } : Room).cells ({ frames := 4, cells := 6, slots := 15, locals := 66 } : Room).slots) := by
  refine MetFree.of_bodySF (plainFor_of_name pn_com_example_coyote_hill_coyotehill_LeaseRequestEqualsPinLaw) hisR ?_
  intro p e s m args below meth c s₁ Bd hml0 hP hK
  obtain ⟨rfl, hZ, hh, hCH⟩ := hP
  have hx := Bd.exec
  have hby := Bd.bytes
  have hml : c.maxLocals = 4 := hml0
  have hown : s.vm.findClass "com/example/coyote_hill/coyotehill/LeaseRequestEqualsPinLaw" = some m.cls := findClass_of_methodNamed Bd.named
  have hnm := (name_of_methodNamed Bd.named Bd.method).1
  have X0 : Stand p l e ({ frames := 4, cells := 6, slots := 15, locals := 66 } : Room) (s.setVm s.vm) m #[(.int (Int32.ofNat n)), (.int cx), (.int cy), (.int cz)] below meth c s₁ [] 0 0 := Stand.of_body Bd
  have e0 : s₁.heap = h0 := by rw [← hh, Bd.state]; rfl
  have N0 := Fr.nil n0
  have pre0 : ∀ t_, Steps p.tables e below (s₁.setTop (mkF m 0 #[.val (.int (Int32.ofNat n)), .val (.int cx), .val (.int cy), .val (.int cz)] [])) t_ → Steps p.tables e below (s₁.setTop (entryFrame m #[(.int (Int32.ofNat n)), (.int cx), (.int cy), (.int cz)] 4)) t_ := fun t_ k_ => castTop (ef_rmMk m (Int32.ofNat n) cx cy cz) k_
  have hEL : EW Z a0 ELs := own_EW hw
  have wS : ∀ a ∈ Bundle.stringAtoms, a.before a0 Z = true := own_wS hw
  have hS : s.Since s.vm s.heap.size := (State.WarmedH.refl s).since _
  have hk : s.heap.size ≤ h0.size := by rw [hh]; exact Nat.le_refl _
  have CR : CHr Z ELs s.vm h0 s.vm h0 := CHr.refl hCH
  obtain rfl | rfl | rfl | rfl : n = 0 ∨ n = 1 ∨ n = 2 ∨ n = 3 := by omega
  · have hcase := trivial
    obtain ⟨T1, h1, X1, e1, E1, A1, D1, -, st1⟩ := newO X0 hx hZ hown (hw _ (List.mem_of_getElem? (i := 4) rfl)) (hw _ (List.mem_of_getElem? (i := 5) rfl)) (hw _ (List.mem_of_getElem? (i := 6) rfl)) e0 (g := (mkF m 4 #[.val (.int (0 : Int32)), .val (.int cx), .val (.int cy), .val (.int cz)] [])) rfl (Jvm.hb hby d_method_2_4) (by decide) (by decide)
    obtain ⟨b1, g1⟩ : ∃ z, z = h0.size := ⟨_, rfl⟩
    rw [← g1] at A1 D1 st1
    have z2 : h0.size ≤ h1.size := E1.1
    have Sf3 : Safe Z ELs s.vm h1 b1 := Safe.ext E1 CR.1 (Safe.new (by omega))
    have Cp2 : CHr Z ELs s.vm h0 s.vm h1 := CHr.ext E1 CR.1
    have hk := Nat.le_trans hk z2
    have CR := CR.trans Cp2
    have l1 : b1 < h1.size := A1.lt
    have F4 : Fld Z h1 b1 "java/lang/String" "value" "[B" .null := D1 (Or.inr (hw _ (List.mem_of_getElem? (i := 20) rfl))) (ty := (.array .byte)) (by decide)
    have F5 : Fld Z h1 b1 "java/lang/String" "coder" "B" (.int (0 : Int32)) := D1 (Or.inr (hw _ (List.mem_of_getElem? (i := 21) rfl))) (ty := .byte) (by decide)
    obtain ⟨T6, h6, k6, X6, e6, E6, A6, st6⟩ := newP X1 hx hZ (hw _ (List.mem_of_getElem? (i := 7) rfl)) e1 (g := (mkF m 9 #[.val (.int (0 : Int32)), .val (.int cx), .val (.int cy), .val (.int cz)] [(.int (0 : Int32)), (.ref b1), (.ref b1)])) rfl (Jvm.hb hby d_method_2_9) rfl (by decide) (cap := 0) (by decide) (by decide) (by decide) (by decide)
    obtain ⟨b6, g6⟩ : ∃ z, z = h1.size := ⟨_, rfl⟩
    rw [← g6] at A6 st6
    have z7 : h1.size ≤ h6.size := E6.1
    have Cp7 : CHr Z ELs s.vm h1 s.vm h6 := CHr.ext E6 CR.1
    have hk := Nat.le_trans hk z7
    have CR := CR.trans Cp7
    have l6 : b6 < h6.size := A6.lt
    have V6 : Arv Z h6 b6 k6 .char (0 : Int32) [] (.int (0 : Int32)) := (Arv.new A6 (by decide)).pad (pad_rep [] (.int (0 : Int32)) 0)
    have O8 : Old Z n0 h6 := ((OX.ext E1).ext E6)
    have f9 : Exa Z h6 b1 "java/lang/String" := (A1.ext E6)
    have f10 : Fld Z h6 b1 "java/lang/String" "value" "[B" .null := (F4.ext E6)
    have f11 : Fld Z h6 b1 "java/lang/String" "coder" "B" (.int (0 : Int32)) := (F5.ext E6)
    have Zc12 : n0 ≤ h6.size := by omega
    have s14 : ∀ t_, Steps p.tables e below (T6.setTop (mkF m 11 #[.val (.int (0 : Int32)), .val (.int cx), .val (.int cy), .val (.int cz)] [(.ref b6), (.ref b1), (.ref b1)])) t_ → Steps p.tables e below (s₁.setTop (entryFrame m #[(.int (0 : Int32)), (.int cx), (.int cy), (.int cz)] 4)) t_ := fun t_ k_ => pre0 t_ (by
      show Steps p.tables e below (s₁.setTop (mkF m 0 #[.val (.int (0 : Int32)), .val (.int cx), .val (.int cy), .val (.int cz)] [])) t_
      refine XS.iloadN X0.here hx rfl (Jvm.hb hby d_method_2_0) rfl ?_
      refine XS.ifNo X0.here hx rfl (Jvm.hb hby d_method_2_1) rfl ((if0 _ _).trans (teq (rfl : (0 : Int32) = (0 : Int32))).2) ?_
      show Steps p.tables e below (s₁.setTop (mkF m 4 #[.val (.int (0 : Int32)), .val (.int cx), .val (.int cy), .val (.int cz)] [])) _
      refine st1 _ ?_
      show Steps p.tables e below (T1.setTop (mkF m 7 #[.val (.int (0 : Int32)), .val (.int cx), .val (.int cy), .val (.int cz)] [(.ref b1)])) _
      refine XS.dup X1.here hx rfl (Jvm.hb hby d_method_2_7) rfl rfl ?_
      refine XS.iconst X1.here hx rfl (Jvm.hb hby d_method_2_8) ?_
      refine st6 _ ?_
      show Steps p.tables e below (T6.setTop (mkF m 11 #[.val (.int (0 : Int32)), .val (.int cx), .val (.int cy), .val (.int cz)] [(.ref b6), (.ref b1), (.ref b1)])) _
      show Steps p.tables e below (T6.setTop (mkF m 11 #[.val (.int (0 : Int32)), .val (.int cx), .val (.int cy), .val (.int cz)] [(.ref b6), (.ref b1), (.ref b1)])) t_
      exact k_)
    obtain ⟨_, _, ⟨T13, L13, k13, n13⟩, -, Xr13, hSr13, hg13, ⟨Lc13, hQ13, l13, y13, z13, Cp13⟩, st13⟩ := X6.specialBackS hx (y := (⟨"java/lang/String", "<init>", "([C)V"⟩ : MethodName)) rfl hown (mvT hZ (hw _ (List.mem_of_getElem? (i := 8) rfl))) (mvT hZ (hw _ (List.mem_of_getElem? (i := 9) rfl))) (mvT hZ (hw _ (List.mem_of_getElem? (i := 10) rfl))) (by decide) (backOfSH (s := s) (vm0 := s.vm) (W := 1) (rmIni1 l Z a0 hw [] b1 b6 cst ([] : List Int32) k6 0 h6 n0 Zc12 I1 O8 (hcst : ¬ (cst = (0 : Int32))) f9 f10 f11 V6 rfl (by first | assumption | rfl | decide | omega : 0 ≤ 3) own_lat0 (by first | assumption | rfl | decide | omega : n0 ≤ b1) (by first | assumption | rfl | decide | omega : @Ne Nat b1 b6)) hZ (hw _ (List.mem_of_getElem? (i := 10) rfl)) (hw _ (List.mem_of_getElem? (i := 6) rfl)) (by decide) (by decide) hEL CR.1) (g := (mkF m 11 #[.val (.int (0 : Int32)), .val (.int cx), .val (.int cy), .val (.int cz)] [(.ref b6), (.ref b1), (.ref b1)])) rfl (by rw [hml]; rfl) (Steps.refl _) (a := b1) (argsL := [(.ref b6)]) (rest := [(.ref b1)]) (lenOf pd___C_V rfl) rfl (by show 2 * 0 + _ ≤ _; exact Nat.le_of_eq rfl) (Jvm.hb hby d_method_2_11) (fun _ _ => ⟨rfl, e6, (by decide : 2 + 4 ≤ _), (by decide : 4 + 8 ≤ _)⟩)
    dsimp only [Pt.U, Pt.locs, Pt.cells, Pt.slots] at Xr13 hSr13 hg13 l13 y13 z13 st13 hQ13 Cp13
    subst l13 y13 z13
    obtain ⟨X13, hS, hZ, hown⟩ := rebS (own := "com/example/coyote_hill/coyotehill/LeaseRequestEqualsPinLaw") hS (by first | exact Nat.le_refl _ | (rw [e6]; exact hk)) Xr13 hSr13 hg13 hZ hown
    obtain ⟨b_13, kb_13, rfl, N13q, K13, Fq13_0, Fq13_1, Fq13_2, Fq13_3⟩ := hQ13
    have N13 := Fr.app N0 N13q
    obtain ⟨h13, e13⟩ : ∃ z, T13.heap = z := ⟨_, rfl⟩
    rw [e13] at K13 Fq13_0 Fq13_1 Fq13_2 Fq13_3 Cp13
    have hk : T13.heap.size ≤ h13.size := Nat.le_of_eq (congrArg Array.size e13)
    have z15 : h6.size ≤ h13.size := K13.1
    have CR := CR.trans Cp13
    have lt13_0 : @LT.lt Nat _ b1 h13.size := Fq13_0.lt
    have lt13_3 : @LT.lt Nat _ b_13 h13.size := Fq13_3.lt
    have s16 : ∀ t_, Steps p.tables e below (T13.setTop (mkF m 14 #[.val (.int (0 : Int32)), .val (.int cx), .val (.int cy), .val (.int cz)] [(.ref b1)])) t_ → Steps p.tables e below (s₁.setTop (entryFrame m #[(.int (0 : Int32)), (.int cx), (.int cy), (.int cz)] 4)) t_ := fun t_ k_ => s14 t_ (by
      show Steps p.tables e below (T6.setTop (mkF m 11 #[.val (.int (0 : Int32)), .val (.int cx), .val (.int cy), .val (.int cz)] [(.ref b6), (.ref b1), (.ref b1)])) t_
      refine st13.trans ?_
      show Steps p.tables e below (T13.setTop (mkF m 14 #[.val (.int (0 : Int32)), .val (.int cx), .val (.int cy), .val (.int cz)] [(.ref b1)])) _
      show Steps p.tables e below (T13.setTop (mkF m 14 #[.val (.int (0 : Int32)), .val (.int cx), .val (.int cy), .val (.int cz)] [(.ref b1)])) t_
      exact k_)
    obtain ⟨fs, hr, hrun, hended, hREW⟩ := X13.leaveW hS (by first | exact Nat.le_refl _ | (rw [e13]; exact hk)) (v := some (.ref b1)) (fun h => by rw [Bd.returns] at h; cases h)
    refine ⟨_, _, s16 _ ?_, hrun, hended, _, _, rfl, ?_, (by show CHr Z ELs s.vm s.heap T13.vm T13.heap; rw [hh, e13]; exact CR.trans (CHv.at X13 hZ hEL CR.1)), hREW.1, hREW.2.1, hREW.2.2.1, hREW.2.2.2.mono (by decide) (by decide)⟩
    · show Steps p.tables e below (T13.setTop (mkF m 14 #[.val (.int (0 : Int32)), .val (.int cx), .val (.int cy), .val (.int cz)] [(.ref b1)])) _
      jvm_step X13.here [X13.here.top, hx, (Jvm.hb hby d_method_2_14), X13.method', Bd.returns, Value.isRef, FieldType.isReference]
      first | (intro acts; rw [hr _ acts rfl rfl rfl]) | rw [hr _ _ rfl rfl rfl]
      exact Steps.refl _
    · show Q_rmMk Z _ _ _ _ _ h0 n0 _ T13.heap _
      rw [e13]
      exact ⟨b1, b_13, kb_13, rfl, N13, ((((Keep.refl h0 []).ext E1).ext E6).trans K13 (allS (Or.inr (show h0.size ≤ b1 by omega)) all0)), Fq13_0, Fq13_1, Fq13_2, Fq13_3, by omega⟩
  · have hcase := trivial
    obtain ⟨T17, h17, X17, e17, E17, A17, D17, -, st17⟩ := newO X0 hx hZ hown (hw _ (List.mem_of_getElem? (i := 4) rfl)) (hw _ (List.mem_of_getElem? (i := 5) rfl)) (hw _ (List.mem_of_getElem? (i := 6) rfl)) e0 (g := (mkF m 20 #[.val (.int (1 : Int32)), .val (.int cx), .val (.int cy), .val (.int cz)] [])) rfl (Jvm.hb hby d_method_2_20) (by decide) (by decide)
    obtain ⟨b17, g17⟩ : ∃ z, z = h0.size := ⟨_, rfl⟩
    rw [← g17] at A17 D17 st17
    have z18 : h0.size ≤ h17.size := E17.1
    have Sf19 : Safe Z ELs s.vm h17 b17 := Safe.ext E17 CR.1 (Safe.new (by omega))
    have Cp18 : CHr Z ELs s.vm h0 s.vm h17 := CHr.ext E17 CR.1
    have hk := Nat.le_trans hk z18
    have CR := CR.trans Cp18
    have l17 : b17 < h17.size := A17.lt
    have F20 : Fld Z h17 b17 "java/lang/String" "value" "[B" .null := D17 (Or.inr (hw _ (List.mem_of_getElem? (i := 20) rfl))) (ty := (.array .byte)) (by decide)
    have F21 : Fld Z h17 b17 "java/lang/String" "coder" "B" (.int (0 : Int32)) := D17 (Or.inr (hw _ (List.mem_of_getElem? (i := 21) rfl))) (ty := .byte) (by decide)
    obtain ⟨T22, h22, k22, X22, e22, E22, A22, st22⟩ := newP X17 hx hZ (hw _ (List.mem_of_getElem? (i := 7) rfl)) e17 (g := (mkF m 25 #[.val (.int (1 : Int32)), .val (.int cx), .val (.int cy), .val (.int cz)] [(.int (1 : Int32)), (.ref b17), (.ref b17)])) rfl (Jvm.hb hby d_method_2_25) rfl (by decide) (cap := 1) (by decide) (by decide) (by decide) (by decide)
    obtain ⟨b22, g22⟩ : ∃ z, z = h17.size := ⟨_, rfl⟩
    rw [← g22] at A22 st22
    have z23 : h17.size ≤ h22.size := E22.1
    have Cp23 : CHr Z ELs s.vm h17 s.vm h22 := CHr.ext E22 CR.1
    have hk := Nat.le_trans hk z23
    have CR := CR.trans Cp23
    have l22 : b22 < h22.size := A22.lt
    have V22 : Arv Z h22 b22 k22 .char (1 : Int32) [(.int (0 : Int32))] (.int (0 : Int32)) := (Arv.new A22 (by decide)).pad (pad_rep [] (.int (0 : Int32)) 1)
    obtain ⟨cl24, Ar24, q24, S24, M24, H24, G24⟩ := id V22
    have hin24 : ¬ ((0 : Int32) < 0 ∨ cl24.slots.size ≤ ((0 : Int32)).toNatClampNeg) := inb_of S24 ⟨by decide, by decide⟩
    obtain ⟨T25, h25, X25, e25, W25, st25⟩ := stC X22 hx hZ e22 Ar24 (j := (0 : Int32)) hin24 (g := (mkF m 30 #[.val (.int (1 : Int32)), .val (.int cx), .val (.int cy), .val (.int cz)] [(.int cx), (.int (0 : Int32)), (.ref b22), (.ref b22), (.ref b17), (.ref b17)])) rfl rfl (Jvm.hb hby d_method_2_30)
    have z26 : h22.size ≤ h25.size := Nat.le_of_eq W25.size.symm
    have Cp26 : CHr Z ELs s.vm h22 s.vm h25 := CHr.wr W25 (Safe.arv hZ.alike V22 (by decide)) CR.1
    have hk := Nat.le_trans hk z26
    have CR := CR.trans Cp26
    have V25 : Arv Z h25 b22 k22 .char (1 : Int32) [(.int cx)] (.int (0 : Int32)) := by have q : Arv Z h25 b22 k22 .char (1 : Int32) [(.int (nar .char cx))] (.int (0 : Int32)) := Arv.set Ar24 q24 S24 M24 H24 G24 (fits_nar_char _) W25 0 rfl (Nat.le_of_ble_eq_true rfl); rw [show nar .char cx = cx from own_narc r0a (own_le64k r0b)] at q; exact q
    have N25 := Fr.snoc X25 N0 (show n0 ≤ b22 by omega)
    have O27 : Old Z n0 h25 := (((OX.ext E17).ext E22).wr W25 (show n0 ≤ b22 by omega))
    have f28 : Exa Z h25 b17 "java/lang/String" := ((A17.ext E22).wr W25)
    have f29 : Fld Z h25 b17 "java/lang/String" "value" "[B" .null := ((F20.ext E22).other W25 (Or.inl (show @Ne Nat b17 b22 by omega)))
    have f30 : Fld Z h25 b17 "java/lang/String" "coder" "B" (.int (0 : Int32)) := ((F21.ext E22).other W25 (Or.inl (show @Ne Nat b17 b22 by omega)))
    have Zc31 : n0 ≤ h25.size := by omega
    have s33 : ∀ t_, Steps p.tables e below (T25.setTop (mkF m 31 #[.val (.int (1 : Int32)), .val (.int cx), .val (.int cy), .val (.int cz)] [(.ref b22), (.ref b17), (.ref b17)])) t_ → Steps p.tables e below (s₁.setTop (entryFrame m #[(.int (1 : Int32)), (.int cx), (.int cy), (.int cz)] 4)) t_ := fun t_ k_ => pre0 t_ (by
      show Steps p.tables e below (s₁.setTop (mkF m 0 #[.val (.int (1 : Int32)), .val (.int cx), .val (.int cy), .val (.int cz)] [])) t_
      refine XS.iloadN X0.here hx rfl (Jvm.hb hby d_method_2_0) rfl ?_
      refine XS.ifYes X0.here hx rfl (pc0 := 1) (pc' := 15) rfl (Jvm.hb hby d_method_2_1) rfl ((if0 _ _).trans (feq (by decide : ¬ ((1 : Int32) = (0 : Int32)))).2) (by decide) (by decide) ?_
      show Steps p.tables e below (s₁.setTop (mkF m 15 #[.val (.int (1 : Int32)), .val (.int cx), .val (.int cy), .val (.int cz)] [])) _
      refine XS.iloadN X0.here hx rfl (Jvm.hb hby d_method_2_15) rfl ?_
      refine XS.iconst X0.here hx rfl (Jvm.hb hby d_method_2_16) ?_
      refine XS.icmpNo X0.here hx rfl (Jvm.hb hby d_method_2_17) rfl (teq (rfl : (1 : Int32) = (1 : Int32))).2 ?_
      show Steps p.tables e below (s₁.setTop (mkF m 20 #[.val (.int (1 : Int32)), .val (.int cx), .val (.int cy), .val (.int cz)] [])) _
      refine st17 _ ?_
      show Steps p.tables e below (T17.setTop (mkF m 23 #[.val (.int (1 : Int32)), .val (.int cx), .val (.int cy), .val (.int cz)] [(.ref b17)])) _
      refine XS.dup X17.here hx rfl (Jvm.hb hby d_method_2_23) rfl rfl ?_
      refine XS.iconst X17.here hx rfl (Jvm.hb hby d_method_2_24) ?_
      refine st22 _ ?_
      show Steps p.tables e below (T22.setTop (mkF m 27 #[.val (.int (1 : Int32)), .val (.int cx), .val (.int cy), .val (.int cz)] [(.ref b22), (.ref b17), (.ref b17)])) _
      refine XS.dup X22.here hx rfl (Jvm.hb hby d_method_2_27) rfl rfl ?_
      refine XS.iconst X22.here hx rfl (Jvm.hb hby d_method_2_28) ?_
      refine XS.iloadN X22.here hx rfl (Jvm.hb hby d_method_2_29) rfl ?_
      refine st25 _ ?_
      show Steps p.tables e below (T25.setTop (mkF m 31 #[.val (.int (1 : Int32)), .val (.int cx), .val (.int cy), .val (.int cz)] [(.ref b22), (.ref b17), (.ref b17)])) _
      show Steps p.tables e below (T25.setTop (mkF m 31 #[.val (.int (1 : Int32)), .val (.int cx), .val (.int cy), .val (.int cz)] [(.ref b22), (.ref b17), (.ref b17)])) t_
      exact k_)
    obtain ⟨_, _, ⟨T32, L32, k32, n32⟩, -, Xr32, hSr32, hg32, ⟨Lc32, hQ32, l32, y32, z32, Cp32⟩, st32⟩ := X25.specialBackS hx (y := (⟨"java/lang/String", "<init>", "([C)V"⟩ : MethodName)) rfl hown (mvT hZ (hw _ (List.mem_of_getElem? (i := 8) rfl))) (mvT hZ (hw _ (List.mem_of_getElem? (i := 9) rfl))) (mvT hZ (hw _ (List.mem_of_getElem? (i := 10) rfl))) (by decide) (backOfSH (s := s) (vm0 := s.vm) (W := 1) (rmIni1 l Z a0 hw [] b17 b22 cst [cx] k22 1 h25 n0 Zc31 I1 O27 (hcst : ¬ (cst = (0 : Int32))) f28 f29 f30 V25 rfl (by first | assumption | rfl | decide | omega : 1 ≤ 3) (own_latS r0b own_lat0) (by first | assumption | rfl | decide | omega : n0 ≤ b17) (by first | assumption | rfl | decide | omega : @Ne Nat b17 b22)) hZ (hw _ (List.mem_of_getElem? (i := 10) rfl)) (hw _ (List.mem_of_getElem? (i := 6) rfl)) (by decide) (by decide) hEL CR.1) (g := (mkF m 31 #[.val (.int (1 : Int32)), .val (.int cx), .val (.int cy), .val (.int cz)] [(.ref b22), (.ref b17), (.ref b17)])) rfl (by rw [hml]; rfl) (Steps.refl _) (a := b17) (argsL := [(.ref b22)]) (rest := [(.ref b17)]) (lenOf pd___C_V rfl) rfl (by show 2 * 0 + _ ≤ _; exact Nat.le_of_eq rfl) (Jvm.hb hby d_method_2_31) (fun _ _ => ⟨rfl, e25, (by decide : 2 + 4 ≤ _), (by decide : 5 + 8 ≤ _)⟩)
    dsimp only [Pt.U, Pt.locs, Pt.cells, Pt.slots] at Xr32 hSr32 hg32 l32 y32 z32 st32 hQ32 Cp32
    subst l32 y32 z32
    obtain ⟨X32, hS, hZ, hown⟩ := rebS (own := "com/example/coyote_hill/coyotehill/LeaseRequestEqualsPinLaw") hS (by first | exact Nat.le_refl _ | (rw [e25]; exact hk)) Xr32 hSr32 hg32 hZ hown
    obtain ⟨b_32, kb_32, rfl, N32q, K32, Fq32_0, Fq32_1, Fq32_2, Fq32_3⟩ := hQ32
    have N32 := Fr.app N25 N32q
    obtain ⟨h32, e32⟩ : ∃ z, T32.heap = z := ⟨_, rfl⟩
    rw [e32] at K32 Fq32_0 Fq32_1 Fq32_2 Fq32_3 Cp32
    have hk : T32.heap.size ≤ h32.size := Nat.le_of_eq (congrArg Array.size e32)
    have z34 : h25.size ≤ h32.size := K32.1
    have CR := CR.trans Cp32
    have lt32_0 : @LT.lt Nat _ b17 h32.size := Fq32_0.lt
    have lt32_3 : @LT.lt Nat _ b_32 h32.size := Fq32_3.lt
    have s35 : ∀ t_, Steps p.tables e below (T32.setTop (mkF m 34 #[.val (.int (1 : Int32)), .val (.int cx), .val (.int cy), .val (.int cz)] [(.ref b17)])) t_ → Steps p.tables e below (s₁.setTop (entryFrame m #[(.int (1 : Int32)), (.int cx), (.int cy), (.int cz)] 4)) t_ := fun t_ k_ => s33 t_ (by
      show Steps p.tables e below (T25.setTop (mkF m 31 #[.val (.int (1 : Int32)), .val (.int cx), .val (.int cy), .val (.int cz)] [(.ref b22), (.ref b17), (.ref b17)])) t_
      refine st32.trans ?_
      show Steps p.tables e below (T32.setTop (mkF m 34 #[.val (.int (1 : Int32)), .val (.int cx), .val (.int cy), .val (.int cz)] [(.ref b17)])) _
      show Steps p.tables e below (T32.setTop (mkF m 34 #[.val (.int (1 : Int32)), .val (.int cx), .val (.int cy), .val (.int cz)] [(.ref b17)])) t_
      exact k_)
    obtain ⟨fs, hr, hrun, hended, hREW⟩ := X32.leaveW hS (by first | exact Nat.le_refl _ | (rw [e32]; exact hk)) (v := some (.ref b17)) (fun h => by rw [Bd.returns] at h; cases h)
    refine ⟨_, _, s35 _ ?_, hrun, hended, _, _, rfl, ?_, (by show CHr Z ELs s.vm s.heap T32.vm T32.heap; rw [hh, e32]; exact CR.trans (CHv.at X32 hZ hEL CR.1)), hREW.1, hREW.2.1, hREW.2.2.1, hREW.2.2.2.mono (by decide) (by decide)⟩
    · show Steps p.tables e below (T32.setTop (mkF m 34 #[.val (.int (1 : Int32)), .val (.int cx), .val (.int cy), .val (.int cz)] [(.ref b17)])) _
      jvm_step X32.here [X32.here.top, hx, (Jvm.hb hby d_method_2_34), X32.method', Bd.returns, Value.isRef, FieldType.isReference]
      first | (intro acts; rw [hr _ acts rfl rfl rfl]) | rw [hr _ _ rfl rfl rfl]
      exact Steps.refl _
    · show Q_rmMk Z _ _ _ _ _ h0 n0 _ T32.heap _
      rw [e32]
      exact ⟨b17, b_32, kb_32, rfl, N32, (((((Keep.refl h0 []).ext E17).ext E22).wr W25 (Or.inr (show h0.size ≤ b22 by omega))).trans K32 (allS (Or.inr (show h0.size ≤ b17 by omega)) all0)), Fq32_0, Fq32_1, Fq32_2, Fq32_3, by omega⟩
  · have hcase := trivial
    obtain ⟨T36, h36, X36, e36, E36, A36, D36, -, st36⟩ := newO X0 hx hZ hown (hw _ (List.mem_of_getElem? (i := 4) rfl)) (hw _ (List.mem_of_getElem? (i := 5) rfl)) (hw _ (List.mem_of_getElem? (i := 6) rfl)) e0 (g := (mkF m 40 #[.val (.int (2 : Int32)), .val (.int cx), .val (.int cy), .val (.int cz)] [])) rfl (Jvm.hb hby d_method_2_40) (by decide) (by decide)
    obtain ⟨b36, g36⟩ : ∃ z, z = h0.size := ⟨_, rfl⟩
    rw [← g36] at A36 D36 st36
    have z37 : h0.size ≤ h36.size := E36.1
    have Sf38 : Safe Z ELs s.vm h36 b36 := Safe.ext E36 CR.1 (Safe.new (by omega))
    have Cp37 : CHr Z ELs s.vm h0 s.vm h36 := CHr.ext E36 CR.1
    have hk := Nat.le_trans hk z37
    have CR := CR.trans Cp37
    have l36 : b36 < h36.size := A36.lt
    have F39 : Fld Z h36 b36 "java/lang/String" "value" "[B" .null := D36 (Or.inr (hw _ (List.mem_of_getElem? (i := 20) rfl))) (ty := (.array .byte)) (by decide)
    have F40 : Fld Z h36 b36 "java/lang/String" "coder" "B" (.int (0 : Int32)) := D36 (Or.inr (hw _ (List.mem_of_getElem? (i := 21) rfl))) (ty := .byte) (by decide)
    obtain ⟨T41, h41, k41, X41, e41, E41, A41, st41⟩ := newP X36 hx hZ (hw _ (List.mem_of_getElem? (i := 7) rfl)) e36 (g := (mkF m 45 #[.val (.int (2 : Int32)), .val (.int cx), .val (.int cy), .val (.int cz)] [(.int (2 : Int32)), (.ref b36), (.ref b36)])) rfl (Jvm.hb hby d_method_2_45) rfl (by decide) (cap := 2) (by decide) (by decide) (by decide) (by decide)
    obtain ⟨b41, g41⟩ : ∃ z, z = h36.size := ⟨_, rfl⟩
    rw [← g41] at A41 st41
    have z42 : h36.size ≤ h41.size := E41.1
    have Cp42 : CHr Z ELs s.vm h36 s.vm h41 := CHr.ext E41 CR.1
    have hk := Nat.le_trans hk z42
    have CR := CR.trans Cp42
    have l41 : b41 < h41.size := A41.lt
    have V41 : Arv Z h41 b41 k41 .char (2 : Int32) [(.int (0 : Int32)), (.int (0 : Int32))] (.int (0 : Int32)) := (Arv.new A41 (by decide)).pad (pad_rep [] (.int (0 : Int32)) 2)
    obtain ⟨cl43, Ar43, q43, S43, M43, H43, G43⟩ := id V41
    have hin43 : ¬ ((0 : Int32) < 0 ∨ cl43.slots.size ≤ ((0 : Int32)).toNatClampNeg) := inb_of S43 ⟨by decide, by decide⟩
    obtain ⟨T44, h44, X44, e44, W44, st44⟩ := stC X41 hx hZ e41 Ar43 (j := (0 : Int32)) hin43 (g := (mkF m 50 #[.val (.int (2 : Int32)), .val (.int cx), .val (.int cy), .val (.int cz)] [(.int cx), (.int (0 : Int32)), (.ref b41), (.ref b41), (.ref b36), (.ref b36)])) rfl rfl (Jvm.hb hby d_method_2_50)
    have z45 : h41.size ≤ h44.size := Nat.le_of_eq W44.size.symm
    have Cp45 : CHr Z ELs s.vm h41 s.vm h44 := CHr.wr W44 (Safe.arv hZ.alike V41 (by decide)) CR.1
    have hk := Nat.le_trans hk z45
    have CR := CR.trans Cp45
    have V44 : Arv Z h44 b41 k41 .char (2 : Int32) [(.int cx), (.int (0 : Int32))] (.int (0 : Int32)) := by have q : Arv Z h44 b41 k41 .char (2 : Int32) [(.int (nar .char cx)), (.int (0 : Int32))] (.int (0 : Int32)) := Arv.set Ar43 q43 S43 M43 H43 G43 (fits_nar_char _) W44 0 rfl (Nat.le_of_ble_eq_true rfl); rw [show nar .char cx = cx from own_narc r0a (own_le64k r0b)] at q; exact q
    have N44 := Fr.snoc X44 N0 (show n0 ≤ b41 by omega)
    obtain ⟨cl46, Ar46, q46, S46, M46, H46, G46⟩ := id V44
    have hin46 : ¬ ((1 : Int32) < 0 ∨ cl46.slots.size ≤ ((1 : Int32)).toNatClampNeg) := inb_of S46 ⟨by decide, by decide⟩
    obtain ⟨T47, h47, X47, e47, W47, st47⟩ := stC X44 hx hZ e44 Ar46 (j := (1 : Int32)) hin46 (g := (mkF m 54 #[.val (.int (2 : Int32)), .val (.int cx), .val (.int cy), .val (.int cz)] [(.int cy), (.int (1 : Int32)), (.ref b41), (.ref b41), (.ref b36), (.ref b36)])) rfl rfl (Jvm.hb hby d_method_2_54)
    have z48 : h44.size ≤ h47.size := Nat.le_of_eq W47.size.symm
    have Cp48 : CHr Z ELs s.vm h44 s.vm h47 := CHr.wr W47 (Safe.arv hZ.alike V44 (by decide)) CR.1
    have hk := Nat.le_trans hk z48
    have CR := CR.trans Cp48
    have V47 : Arv Z h47 b41 k41 .char (2 : Int32) [(.int cx), (.int cy)] (.int (0 : Int32)) := by have q : Arv Z h47 b41 k41 .char (2 : Int32) [(.int cx), (.int (nar .char cy))] (.int (0 : Int32)) := Arv.set Ar46 q46 S46 M46 H46 G46 (fits_nar_char _) W47 1 rfl (Nat.le_of_ble_eq_true rfl); rw [show nar .char cy = cy from own_narc r1a (own_le64k r1b)] at q; exact q
    have N47 := Fr.snoc X47 N44 (show n0 ≤ b41 by omega)
    have O49 : Old Z n0 h47 := ((((OX.ext E36).ext E41).wr W44 (show n0 ≤ b41 by omega)).wr W47 (show n0 ≤ b41 by omega))
    have f50 : Exa Z h47 b36 "java/lang/String" := (((A36.ext E41).wr W44).wr W47)
    have f51 : Fld Z h47 b36 "java/lang/String" "value" "[B" .null := (((F39.ext E41).other W44 (Or.inl (show @Ne Nat b36 b41 by omega))).other W47 (Or.inl (show @Ne Nat b36 b41 by omega)))
    have f52 : Fld Z h47 b36 "java/lang/String" "coder" "B" (.int (0 : Int32)) := (((F40.ext E41).other W44 (Or.inl (show @Ne Nat b36 b41 by omega))).other W47 (Or.inl (show @Ne Nat b36 b41 by omega)))
    have Zc53 : n0 ≤ h47.size := by omega
    have s55 : ∀ t_, Steps p.tables e below (T47.setTop (mkF m 55 #[.val (.int (2 : Int32)), .val (.int cx), .val (.int cy), .val (.int cz)] [(.ref b41), (.ref b36), (.ref b36)])) t_ → Steps p.tables e below (s₁.setTop (entryFrame m #[(.int (2 : Int32)), (.int cx), (.int cy), (.int cz)] 4)) t_ := fun t_ k_ => pre0 t_ (by
      show Steps p.tables e below (s₁.setTop (mkF m 0 #[.val (.int (2 : Int32)), .val (.int cx), .val (.int cy), .val (.int cz)] [])) t_
      refine XS.iloadN X0.here hx rfl (Jvm.hb hby d_method_2_0) rfl ?_
      refine XS.ifYes X0.here hx rfl (pc0 := 1) (pc' := 15) rfl (Jvm.hb hby d_method_2_1) rfl ((if0 _ _).trans (feq (by decide : ¬ ((2 : Int32) = (0 : Int32)))).2) (by decide) (by decide) ?_
      show Steps p.tables e below (s₁.setTop (mkF m 15 #[.val (.int (2 : Int32)), .val (.int cx), .val (.int cy), .val (.int cz)] [])) _
      refine XS.iloadN X0.here hx rfl (Jvm.hb hby d_method_2_15) rfl ?_
      refine XS.iconst X0.here hx rfl (Jvm.hb hby d_method_2_16) ?_
      refine XS.icmpYes X0.here hx rfl (pc0 := 17) (pc' := 35) rfl (Jvm.hb hby d_method_2_17) rfl (feq (by decide : ¬ ((2 : Int32) = (1 : Int32)))).2 (by decide) (by decide) ?_
      show Steps p.tables e below (s₁.setTop (mkF m 35 #[.val (.int (2 : Int32)), .val (.int cx), .val (.int cy), .val (.int cz)] [])) _
      refine XS.iloadN X0.here hx rfl (Jvm.hb hby d_method_2_35) rfl ?_
      refine XS.iconst X0.here hx rfl (Jvm.hb hby d_method_2_36) ?_
      refine XS.icmpNo X0.here hx rfl (Jvm.hb hby d_method_2_37) rfl (teq (rfl : (2 : Int32) = (2 : Int32))).2 ?_
      show Steps p.tables e below (s₁.setTop (mkF m 40 #[.val (.int (2 : Int32)), .val (.int cx), .val (.int cy), .val (.int cz)] [])) _
      refine st36 _ ?_
      show Steps p.tables e below (T36.setTop (mkF m 43 #[.val (.int (2 : Int32)), .val (.int cx), .val (.int cy), .val (.int cz)] [(.ref b36)])) _
      refine XS.dup X36.here hx rfl (Jvm.hb hby d_method_2_43) rfl rfl ?_
      refine XS.iconst X36.here hx rfl (Jvm.hb hby d_method_2_44) ?_
      refine st41 _ ?_
      show Steps p.tables e below (T41.setTop (mkF m 47 #[.val (.int (2 : Int32)), .val (.int cx), .val (.int cy), .val (.int cz)] [(.ref b41), (.ref b36), (.ref b36)])) _
      refine XS.dup X41.here hx rfl (Jvm.hb hby d_method_2_47) rfl rfl ?_
      refine XS.iconst X41.here hx rfl (Jvm.hb hby d_method_2_48) ?_
      refine XS.iloadN X41.here hx rfl (Jvm.hb hby d_method_2_49) rfl ?_
      refine st44 _ ?_
      show Steps p.tables e below (T44.setTop (mkF m 51 #[.val (.int (2 : Int32)), .val (.int cx), .val (.int cy), .val (.int cz)] [(.ref b41), (.ref b36), (.ref b36)])) _
      refine XS.dup X44.here hx rfl (Jvm.hb hby d_method_2_51) rfl rfl ?_
      refine XS.iconst X44.here hx rfl (Jvm.hb hby d_method_2_52) ?_
      refine XS.iloadN X44.here hx rfl (Jvm.hb hby d_method_2_53) rfl ?_
      refine st47 _ ?_
      show Steps p.tables e below (T47.setTop (mkF m 55 #[.val (.int (2 : Int32)), .val (.int cx), .val (.int cy), .val (.int cz)] [(.ref b41), (.ref b36), (.ref b36)])) _
      show Steps p.tables e below (T47.setTop (mkF m 55 #[.val (.int (2 : Int32)), .val (.int cx), .val (.int cy), .val (.int cz)] [(.ref b41), (.ref b36), (.ref b36)])) t_
      exact k_)
    obtain ⟨_, _, ⟨T54, L54, k54, n54⟩, -, Xr54, hSr54, hg54, ⟨Lc54, hQ54, l54, y54, z54, Cp54⟩, st54⟩ := X47.specialBackS hx (y := (⟨"java/lang/String", "<init>", "([C)V"⟩ : MethodName)) rfl hown (mvT hZ (hw _ (List.mem_of_getElem? (i := 8) rfl))) (mvT hZ (hw _ (List.mem_of_getElem? (i := 9) rfl))) (mvT hZ (hw _ (List.mem_of_getElem? (i := 10) rfl))) (by decide) (backOfSH (s := s) (vm0 := s.vm) (W := 1) (rmIni1 l Z a0 hw [] b36 b41 cst [cx, cy] k41 2 h47 n0 Zc53 I1 O49 (hcst : ¬ (cst = (0 : Int32))) f50 f51 f52 V47 rfl (by first | assumption | rfl | decide | omega : 2 ≤ 3) (own_latS r0b (own_latS r1b own_lat0)) (by first | assumption | rfl | decide | omega : n0 ≤ b36) (by first | assumption | rfl | decide | omega : @Ne Nat b36 b41)) hZ (hw _ (List.mem_of_getElem? (i := 10) rfl)) (hw _ (List.mem_of_getElem? (i := 6) rfl)) (by decide) (by decide) hEL CR.1) (g := (mkF m 55 #[.val (.int (2 : Int32)), .val (.int cx), .val (.int cy), .val (.int cz)] [(.ref b41), (.ref b36), (.ref b36)])) rfl (by rw [hml]; rfl) (Steps.refl _) (a := b36) (argsL := [(.ref b41)]) (rest := [(.ref b36)]) (lenOf pd___C_V rfl) rfl (by show 2 * 0 + _ ≤ _; exact Nat.le_of_eq rfl) (Jvm.hb hby d_method_2_55) (fun _ _ => ⟨rfl, e47, (by decide : 2 + 4 ≤ _), (by decide : 6 + 8 ≤ _)⟩)
    dsimp only [Pt.U, Pt.locs, Pt.cells, Pt.slots] at Xr54 hSr54 hg54 l54 y54 z54 st54 hQ54 Cp54
    subst l54 y54 z54
    obtain ⟨X54, hS, hZ, hown⟩ := rebS (own := "com/example/coyote_hill/coyotehill/LeaseRequestEqualsPinLaw") hS (by first | exact Nat.le_refl _ | (rw [e47]; exact hk)) Xr54 hSr54 hg54 hZ hown
    obtain ⟨b_54, kb_54, rfl, N54q, K54, Fq54_0, Fq54_1, Fq54_2, Fq54_3⟩ := hQ54
    have N54 := Fr.app N47 N54q
    obtain ⟨h54, e54⟩ : ∃ z, T54.heap = z := ⟨_, rfl⟩
    rw [e54] at K54 Fq54_0 Fq54_1 Fq54_2 Fq54_3 Cp54
    have hk : T54.heap.size ≤ h54.size := Nat.le_of_eq (congrArg Array.size e54)
    have z56 : h47.size ≤ h54.size := K54.1
    have CR := CR.trans Cp54
    have lt54_0 : @LT.lt Nat _ b36 h54.size := Fq54_0.lt
    have lt54_3 : @LT.lt Nat _ b_54 h54.size := Fq54_3.lt
    have s57 : ∀ t_, Steps p.tables e below (T54.setTop (mkF m 58 #[.val (.int (2 : Int32)), .val (.int cx), .val (.int cy), .val (.int cz)] [(.ref b36)])) t_ → Steps p.tables e below (s₁.setTop (entryFrame m #[(.int (2 : Int32)), (.int cx), (.int cy), (.int cz)] 4)) t_ := fun t_ k_ => s55 t_ (by
      show Steps p.tables e below (T47.setTop (mkF m 55 #[.val (.int (2 : Int32)), .val (.int cx), .val (.int cy), .val (.int cz)] [(.ref b41), (.ref b36), (.ref b36)])) t_
      refine st54.trans ?_
      show Steps p.tables e below (T54.setTop (mkF m 58 #[.val (.int (2 : Int32)), .val (.int cx), .val (.int cy), .val (.int cz)] [(.ref b36)])) _
      show Steps p.tables e below (T54.setTop (mkF m 58 #[.val (.int (2 : Int32)), .val (.int cx), .val (.int cy), .val (.int cz)] [(.ref b36)])) t_
      exact k_)
    obtain ⟨fs, hr, hrun, hended, hREW⟩ := X54.leaveW hS (by first | exact Nat.le_refl _ | (rw [e54]; exact hk)) (v := some (.ref b36)) (fun h => by rw [Bd.returns] at h; cases h)
    refine ⟨_, _, s57 _ ?_, hrun, hended, _, _, rfl, ?_, (by show CHr Z ELs s.vm s.heap T54.vm T54.heap; rw [hh, e54]; exact CR.trans (CHv.at X54 hZ hEL CR.1)), hREW.1, hREW.2.1, hREW.2.2.1, hREW.2.2.2.mono (by decide) (by decide)⟩
    · show Steps p.tables e below (T54.setTop (mkF m 58 #[.val (.int (2 : Int32)), .val (.int cx), .val (.int cy), .val (.int cz)] [(.ref b36)])) _
      jvm_step X54.here [X54.here.top, hx, (Jvm.hb hby d_method_2_58), X54.method', Bd.returns, Value.isRef, FieldType.isReference]
      first | (intro acts; rw [hr _ acts rfl rfl rfl]) | rw [hr _ _ rfl rfl rfl]
      exact Steps.refl _
    · show Q_rmMk Z _ _ _ _ _ h0 n0 _ T54.heap _
      rw [e54]
      exact ⟨b36, b_54, kb_54, rfl, N54, ((((((Keep.refl h0 []).ext E36).ext E41).wr W44 (Or.inr (show h0.size ≤ b41 by omega))).wr W47 (Or.inr (show h0.size ≤ b41 by omega))).trans K54 (allS (Or.inr (show h0.size ≤ b36 by omega)) all0)), Fq54_0, Fq54_1, Fq54_2, Fq54_3, by omega⟩
  · have hcase := trivial
    obtain ⟨T58, h58, X58, e58, E58, A58, D58, -, st58⟩ := newO X0 hx hZ hown (hw _ (List.mem_of_getElem? (i := 4) rfl)) (hw _ (List.mem_of_getElem? (i := 5) rfl)) (hw _ (List.mem_of_getElem? (i := 6) rfl)) e0 (g := (mkF m 59 #[.val (.int (3 : Int32)), .val (.int cx), .val (.int cy), .val (.int cz)] [])) rfl (Jvm.hb hby d_method_2_59) (by decide) (by decide)
    obtain ⟨b58, g58⟩ : ∃ z, z = h0.size := ⟨_, rfl⟩
    rw [← g58] at A58 D58 st58
    have z59 : h0.size ≤ h58.size := E58.1
    have Sf60 : Safe Z ELs s.vm h58 b58 := Safe.ext E58 CR.1 (Safe.new (by omega))
    have Cp59 : CHr Z ELs s.vm h0 s.vm h58 := CHr.ext E58 CR.1
    have hk := Nat.le_trans hk z59
    have CR := CR.trans Cp59
    have l58 : b58 < h58.size := A58.lt
    have F61 : Fld Z h58 b58 "java/lang/String" "value" "[B" .null := D58 (Or.inr (hw _ (List.mem_of_getElem? (i := 20) rfl))) (ty := (.array .byte)) (by decide)
    have F62 : Fld Z h58 b58 "java/lang/String" "coder" "B" (.int (0 : Int32)) := D58 (Or.inr (hw _ (List.mem_of_getElem? (i := 21) rfl))) (ty := .byte) (by decide)
    obtain ⟨T63, h63, k63, X63, e63, E63, A63, st63⟩ := newP X58 hx hZ (hw _ (List.mem_of_getElem? (i := 7) rfl)) e58 (g := (mkF m 64 #[.val (.int (3 : Int32)), .val (.int cx), .val (.int cy), .val (.int cz)] [(.int (3 : Int32)), (.ref b58), (.ref b58)])) rfl (Jvm.hb hby d_method_2_64) rfl (by decide) (cap := 3) (by decide) (by decide) (by decide) (by decide)
    obtain ⟨b63, g63⟩ : ∃ z, z = h58.size := ⟨_, rfl⟩
    rw [← g63] at A63 st63
    have z64 : h58.size ≤ h63.size := E63.1
    have Cp64 : CHr Z ELs s.vm h58 s.vm h63 := CHr.ext E63 CR.1
    have hk := Nat.le_trans hk z64
    have CR := CR.trans Cp64
    have l63 : b63 < h63.size := A63.lt
    have V63 : Arv Z h63 b63 k63 .char (3 : Int32) [(.int (0 : Int32)), (.int (0 : Int32)), (.int (0 : Int32))] (.int (0 : Int32)) := (Arv.new A63 (by decide)).pad (pad_rep [] (.int (0 : Int32)) 3)
    obtain ⟨cl65, Ar65, q65, S65, M65, H65, G65⟩ := id V63
    have hin65 : ¬ ((0 : Int32) < 0 ∨ cl65.slots.size ≤ ((0 : Int32)).toNatClampNeg) := inb_of S65 ⟨by decide, by decide⟩
    obtain ⟨T66, h66, X66, e66, W66, st66⟩ := stC X63 hx hZ e63 Ar65 (j := (0 : Int32)) hin65 (g := (mkF m 69 #[.val (.int (3 : Int32)), .val (.int cx), .val (.int cy), .val (.int cz)] [(.int cx), (.int (0 : Int32)), (.ref b63), (.ref b63), (.ref b58), (.ref b58)])) rfl rfl (Jvm.hb hby d_method_2_69)
    have z67 : h63.size ≤ h66.size := Nat.le_of_eq W66.size.symm
    have Cp67 : CHr Z ELs s.vm h63 s.vm h66 := CHr.wr W66 (Safe.arv hZ.alike V63 (by decide)) CR.1
    have hk := Nat.le_trans hk z67
    have CR := CR.trans Cp67
    have V66 : Arv Z h66 b63 k63 .char (3 : Int32) [(.int cx), (.int (0 : Int32)), (.int (0 : Int32))] (.int (0 : Int32)) := by have q : Arv Z h66 b63 k63 .char (3 : Int32) [(.int (nar .char cx)), (.int (0 : Int32)), (.int (0 : Int32))] (.int (0 : Int32)) := Arv.set Ar65 q65 S65 M65 H65 G65 (fits_nar_char _) W66 0 rfl (Nat.le_of_ble_eq_true rfl); rw [show nar .char cx = cx from own_narc r0a (own_le64k r0b)] at q; exact q
    have N66 := Fr.snoc X66 N0 (show n0 ≤ b63 by omega)
    obtain ⟨cl68, Ar68, q68, S68, M68, H68, G68⟩ := id V66
    have hin68 : ¬ ((1 : Int32) < 0 ∨ cl68.slots.size ≤ ((1 : Int32)).toNatClampNeg) := inb_of S68 ⟨by decide, by decide⟩
    obtain ⟨T69, h69, X69, e69, W69, st69⟩ := stC X66 hx hZ e66 Ar68 (j := (1 : Int32)) hin68 (g := (mkF m 73 #[.val (.int (3 : Int32)), .val (.int cx), .val (.int cy), .val (.int cz)] [(.int cy), (.int (1 : Int32)), (.ref b63), (.ref b63), (.ref b58), (.ref b58)])) rfl rfl (Jvm.hb hby d_method_2_73)
    have z70 : h66.size ≤ h69.size := Nat.le_of_eq W69.size.symm
    have Cp70 : CHr Z ELs s.vm h66 s.vm h69 := CHr.wr W69 (Safe.arv hZ.alike V66 (by decide)) CR.1
    have hk := Nat.le_trans hk z70
    have CR := CR.trans Cp70
    have V69 : Arv Z h69 b63 k63 .char (3 : Int32) [(.int cx), (.int cy), (.int (0 : Int32))] (.int (0 : Int32)) := by have q : Arv Z h69 b63 k63 .char (3 : Int32) [(.int cx), (.int (nar .char cy)), (.int (0 : Int32))] (.int (0 : Int32)) := Arv.set Ar68 q68 S68 M68 H68 G68 (fits_nar_char _) W69 1 rfl (Nat.le_of_ble_eq_true rfl); rw [show nar .char cy = cy from own_narc r1a (own_le64k r1b)] at q; exact q
    have N69 := Fr.snoc X69 N66 (show n0 ≤ b63 by omega)
    obtain ⟨cl71, Ar71, q71, S71, M71, H71, G71⟩ := id V69
    have hin71 : ¬ ((2 : Int32) < 0 ∨ cl71.slots.size ≤ ((2 : Int32)).toNatClampNeg) := inb_of S71 ⟨by decide, by decide⟩
    obtain ⟨T72, h72, X72, e72, W72, st72⟩ := stC X69 hx hZ e69 Ar71 (j := (2 : Int32)) hin71 (g := (mkF m 77 #[.val (.int (3 : Int32)), .val (.int cx), .val (.int cy), .val (.int cz)] [(.int cz), (.int (2 : Int32)), (.ref b63), (.ref b63), (.ref b58), (.ref b58)])) rfl rfl (Jvm.hb hby d_method_2_77)
    have z73 : h69.size ≤ h72.size := Nat.le_of_eq W72.size.symm
    have Cp73 : CHr Z ELs s.vm h69 s.vm h72 := CHr.wr W72 (Safe.arv hZ.alike V69 (by decide)) CR.1
    have hk := Nat.le_trans hk z73
    have CR := CR.trans Cp73
    have V72 : Arv Z h72 b63 k63 .char (3 : Int32) [(.int cx), (.int cy), (.int cz)] (.int (0 : Int32)) := by have q : Arv Z h72 b63 k63 .char (3 : Int32) [(.int cx), (.int cy), (.int (nar .char cz))] (.int (0 : Int32)) := Arv.set Ar71 q71 S71 M71 H71 G71 (fits_nar_char _) W72 2 rfl (Nat.le_of_ble_eq_true rfl); rw [show nar .char cz = cz from own_narc r2a (own_le64k r2b)] at q; exact q
    have N72 := Fr.snoc X72 N69 (show n0 ≤ b63 by omega)
    have O74 : Old Z n0 h72 := (((((OX.ext E58).ext E63).wr W66 (show n0 ≤ b63 by omega)).wr W69 (show n0 ≤ b63 by omega)).wr W72 (show n0 ≤ b63 by omega))
    have f75 : Exa Z h72 b58 "java/lang/String" := ((((A58.ext E63).wr W66).wr W69).wr W72)
    have f76 : Fld Z h72 b58 "java/lang/String" "value" "[B" .null := ((((F61.ext E63).other W66 (Or.inl (show @Ne Nat b58 b63 by omega))).other W69 (Or.inl (show @Ne Nat b58 b63 by omega))).other W72 (Or.inl (show @Ne Nat b58 b63 by omega)))
    have f77 : Fld Z h72 b58 "java/lang/String" "coder" "B" (.int (0 : Int32)) := ((((F62.ext E63).other W66 (Or.inl (show @Ne Nat b58 b63 by omega))).other W69 (Or.inl (show @Ne Nat b58 b63 by omega))).other W72 (Or.inl (show @Ne Nat b58 b63 by omega)))
    have Zc78 : n0 ≤ h72.size := by omega
    have s80 : ∀ t_, Steps p.tables e below (T72.setTop (mkF m 78 #[.val (.int (3 : Int32)), .val (.int cx), .val (.int cy), .val (.int cz)] [(.ref b63), (.ref b58), (.ref b58)])) t_ → Steps p.tables e below (s₁.setTop (entryFrame m #[(.int (3 : Int32)), (.int cx), (.int cy), (.int cz)] 4)) t_ := fun t_ k_ => pre0 t_ (by
      show Steps p.tables e below (s₁.setTop (mkF m 0 #[.val (.int (3 : Int32)), .val (.int cx), .val (.int cy), .val (.int cz)] [])) t_
      refine XS.iloadN X0.here hx rfl (Jvm.hb hby d_method_2_0) rfl ?_
      refine XS.ifYes X0.here hx rfl (pc0 := 1) (pc' := 15) rfl (Jvm.hb hby d_method_2_1) rfl ((if0 _ _).trans (feq (by decide : ¬ ((3 : Int32) = (0 : Int32)))).2) (by decide) (by decide) ?_
      show Steps p.tables e below (s₁.setTop (mkF m 15 #[.val (.int (3 : Int32)), .val (.int cx), .val (.int cy), .val (.int cz)] [])) _
      refine XS.iloadN X0.here hx rfl (Jvm.hb hby d_method_2_15) rfl ?_
      refine XS.iconst X0.here hx rfl (Jvm.hb hby d_method_2_16) ?_
      refine XS.icmpYes X0.here hx rfl (pc0 := 17) (pc' := 35) rfl (Jvm.hb hby d_method_2_17) rfl (feq (by decide : ¬ ((3 : Int32) = (1 : Int32)))).2 (by decide) (by decide) ?_
      show Steps p.tables e below (s₁.setTop (mkF m 35 #[.val (.int (3 : Int32)), .val (.int cx), .val (.int cy), .val (.int cz)] [])) _
      refine XS.iloadN X0.here hx rfl (Jvm.hb hby d_method_2_35) rfl ?_
      refine XS.iconst X0.here hx rfl (Jvm.hb hby d_method_2_36) ?_
      refine XS.icmpYes X0.here hx rfl (pc0 := 37) (pc' := 59) rfl (Jvm.hb hby d_method_2_37) rfl (feq (by decide : ¬ ((3 : Int32) = (2 : Int32)))).2 (by decide) (by decide) ?_
      show Steps p.tables e below (s₁.setTop (mkF m 59 #[.val (.int (3 : Int32)), .val (.int cx), .val (.int cy), .val (.int cz)] [])) _
      refine st58 _ ?_
      show Steps p.tables e below (T58.setTop (mkF m 62 #[.val (.int (3 : Int32)), .val (.int cx), .val (.int cy), .val (.int cz)] [(.ref b58)])) _
      refine XS.dup X58.here hx rfl (Jvm.hb hby d_method_2_62) rfl rfl ?_
      refine XS.iconst X58.here hx rfl (Jvm.hb hby d_method_2_63) ?_
      refine st63 _ ?_
      show Steps p.tables e below (T63.setTop (mkF m 66 #[.val (.int (3 : Int32)), .val (.int cx), .val (.int cy), .val (.int cz)] [(.ref b63), (.ref b58), (.ref b58)])) _
      refine XS.dup X63.here hx rfl (Jvm.hb hby d_method_2_66) rfl rfl ?_
      refine XS.iconst X63.here hx rfl (Jvm.hb hby d_method_2_67) ?_
      refine XS.iloadN X63.here hx rfl (Jvm.hb hby d_method_2_68) rfl ?_
      refine st66 _ ?_
      show Steps p.tables e below (T66.setTop (mkF m 70 #[.val (.int (3 : Int32)), .val (.int cx), .val (.int cy), .val (.int cz)] [(.ref b63), (.ref b58), (.ref b58)])) _
      refine XS.dup X66.here hx rfl (Jvm.hb hby d_method_2_70) rfl rfl ?_
      refine XS.iconst X66.here hx rfl (Jvm.hb hby d_method_2_71) ?_
      refine XS.iloadN X66.here hx rfl (Jvm.hb hby d_method_2_72) rfl ?_
      refine st69 _ ?_
      show Steps p.tables e below (T69.setTop (mkF m 74 #[.val (.int (3 : Int32)), .val (.int cx), .val (.int cy), .val (.int cz)] [(.ref b63), (.ref b58), (.ref b58)])) _
      refine XS.dup X69.here hx rfl (Jvm.hb hby d_method_2_74) rfl rfl ?_
      refine XS.iconst X69.here hx rfl (Jvm.hb hby d_method_2_75) ?_
      refine XS.iloadN X69.here hx rfl (Jvm.hb hby d_method_2_76) rfl ?_
      refine st72 _ ?_
      show Steps p.tables e below (T72.setTop (mkF m 78 #[.val (.int (3 : Int32)), .val (.int cx), .val (.int cy), .val (.int cz)] [(.ref b63), (.ref b58), (.ref b58)])) _
      show Steps p.tables e below (T72.setTop (mkF m 78 #[.val (.int (3 : Int32)), .val (.int cx), .val (.int cy), .val (.int cz)] [(.ref b63), (.ref b58), (.ref b58)])) t_
      exact k_)
    obtain ⟨_, _, ⟨T79, L79, k79, n79⟩, -, Xr79, hSr79, hg79, ⟨Lc79, hQ79, l79, y79, z79, Cp79⟩, st79⟩ := X72.specialBackS hx (y := (⟨"java/lang/String", "<init>", "([C)V"⟩ : MethodName)) rfl hown (mvT hZ (hw _ (List.mem_of_getElem? (i := 8) rfl))) (mvT hZ (hw _ (List.mem_of_getElem? (i := 9) rfl))) (mvT hZ (hw _ (List.mem_of_getElem? (i := 10) rfl))) (by decide) (backOfSH (s := s) (vm0 := s.vm) (W := 1) (rmIni1 l Z a0 hw [] b58 b63 cst [cx, cy, cz] k63 3 h72 n0 Zc78 I1 O74 (hcst : ¬ (cst = (0 : Int32))) f75 f76 f77 V72 rfl (by first | assumption | rfl | decide | omega : 3 ≤ 3) (own_latS r0b (own_latS r1b (own_latS r2b own_lat0))) (by first | assumption | rfl | decide | omega : n0 ≤ b58) (by first | assumption | rfl | decide | omega : @Ne Nat b58 b63)) hZ (hw _ (List.mem_of_getElem? (i := 10) rfl)) (hw _ (List.mem_of_getElem? (i := 6) rfl)) (by decide) (by decide) hEL CR.1) (g := (mkF m 78 #[.val (.int (3 : Int32)), .val (.int cx), .val (.int cy), .val (.int cz)] [(.ref b63), (.ref b58), (.ref b58)])) rfl (by rw [hml]; rfl) (Steps.refl _) (a := b58) (argsL := [(.ref b63)]) (rest := [(.ref b58)]) (lenOf pd___C_V rfl) rfl (by show 2 * 0 + _ ≤ _; exact Nat.le_of_eq rfl) (Jvm.hb hby d_method_2_78) (fun _ _ => ⟨rfl, e72, (by decide : 2 + 4 ≤ _), (by decide : 7 + 8 ≤ _)⟩)
    dsimp only [Pt.U, Pt.locs, Pt.cells, Pt.slots] at Xr79 hSr79 hg79 l79 y79 z79 st79 hQ79 Cp79
    subst l79 y79 z79
    obtain ⟨X79, hS, hZ, hown⟩ := rebS (own := "com/example/coyote_hill/coyotehill/LeaseRequestEqualsPinLaw") hS (by first | exact Nat.le_refl _ | (rw [e72]; exact hk)) Xr79 hSr79 hg79 hZ hown
    obtain ⟨b_79, kb_79, rfl, N79q, K79, Fq79_0, Fq79_1, Fq79_2, Fq79_3⟩ := hQ79
    have N79 := Fr.app N72 N79q
    obtain ⟨h79, e79⟩ : ∃ z, T79.heap = z := ⟨_, rfl⟩
    rw [e79] at K79 Fq79_0 Fq79_1 Fq79_2 Fq79_3 Cp79
    have hk : T79.heap.size ≤ h79.size := Nat.le_of_eq (congrArg Array.size e79)
    have z81 : h72.size ≤ h79.size := K79.1
    have CR := CR.trans Cp79
    have lt79_0 : @LT.lt Nat _ b58 h79.size := Fq79_0.lt
    have lt79_3 : @LT.lt Nat _ b_79 h79.size := Fq79_3.lt
    have s82 : ∀ t_, Steps p.tables e below (T79.setTop (mkF m 81 #[.val (.int (3 : Int32)), .val (.int cx), .val (.int cy), .val (.int cz)] [(.ref b58)])) t_ → Steps p.tables e below (s₁.setTop (entryFrame m #[(.int (3 : Int32)), (.int cx), (.int cy), (.int cz)] 4)) t_ := fun t_ k_ => s80 t_ (by
      show Steps p.tables e below (T72.setTop (mkF m 78 #[.val (.int (3 : Int32)), .val (.int cx), .val (.int cy), .val (.int cz)] [(.ref b63), (.ref b58), (.ref b58)])) t_
      refine st79.trans ?_
      show Steps p.tables e below (T79.setTop (mkF m 81 #[.val (.int (3 : Int32)), .val (.int cx), .val (.int cy), .val (.int cz)] [(.ref b58)])) _
      show Steps p.tables e below (T79.setTop (mkF m 81 #[.val (.int (3 : Int32)), .val (.int cx), .val (.int cy), .val (.int cz)] [(.ref b58)])) t_
      exact k_)
    obtain ⟨fs, hr, hrun, hended, hREW⟩ := X79.leaveW hS (by first | exact Nat.le_refl _ | (rw [e79]; exact hk)) (v := some (.ref b58)) (fun h => by rw [Bd.returns] at h; cases h)
    refine ⟨_, _, s82 _ ?_, hrun, hended, _, _, rfl, ?_, (by show CHr Z ELs s.vm s.heap T79.vm T79.heap; rw [hh, e79]; exact CR.trans (CHv.at X79 hZ hEL CR.1)), hREW.1, hREW.2.1, hREW.2.2.1, hREW.2.2.2.mono (by decide) (by decide)⟩
    · show Steps p.tables e below (T79.setTop (mkF m 81 #[.val (.int (3 : Int32)), .val (.int cx), .val (.int cy), .val (.int cz)] [(.ref b58)])) _
      jvm_step X79.here [X79.here.top, hx, (Jvm.hb hby d_method_2_81), X79.method', Bd.returns, Value.isRef, FieldType.isReference]
      first | (intro acts; rw [hr _ acts rfl rfl rfl]) | rw [hr _ _ rfl rfl rfl]
      exact Steps.refl _
    · show Q_rmMk Z _ _ _ _ _ h0 n0 _ T79.heap _
      rw [e79]
      exact ⟨b58, b_79, kb_79, rfl, N79, (((((((Keep.refl h0 []).ext E58).ext E63).wr W66 (Or.inr (show h0.size ≤ b63 by omega))).wr W69 (Or.inr (show h0.size ≤ b63 by omega))).wr W72 (Or.inr (show h0.size ≤ b63 by omega))).trans K79 (allS (Or.inr (show h0.size ≤ b58 by omega)) all0)), Fq79_0, Fq79_1, Fq79_2, Fq79_3, by omega⟩
theorem pn_java_util_Objects : plainName "java/util/Objects" = true := by first | (simp [plainName, overriddenIn]; done) | decide +kernel
theorem d_jdk_31_method_11_0 : decode jdk_31_method_11_code 0 = .ok (.aload_n 0, 1) := by decide +kernel
theorem d_jdk_31_method_11_1 : decode jdk_31_method_11_code 1 = .ok (.ifnonnull 12, 3) := by decide +kernel
theorem d_jdk_31_method_11_13 : decode jdk_31_method_11_code 13 = .ok (.aload_n 0, 1) := by decide +kernel
theorem d_jdk_31_method_11_14 : decode jdk_31_method_11_code 14 = .ok (.areturn, 1) := by decide +kernel
theorem ef_rmReq (m : MethodId) (x0 : Addr) (x1 : Addr) : entryFrame m #[(.ref x0), (.ref x1)] 2 = mkF m 0 #[.val (.ref x0), .val (.ref x1)] [] := by first | (simp [entryFrame, mkF, argsToLocals, Value.category]; done) | rfl
def Q_rmReq (Z : State) (ob : Addr) (msg : Addr) (h0 : Heap) (n0 : Nat) (v : Option Value) (h : Heap) (L : List Loc) : Prop := (v = some (.ref ob)) ∧ (Fr n0 L) ∧ (h = h0)
set_option maxRecDepth 65536 in
set_option maxHeartbeats 40000000 in
theorem rmReq (l : Launch) (Z : State) (a0 : Array Value) (hw : ∀ d ∈ tables_1, d.before a0 Z = true) (ws : List Jvm.Cond) (ob : Addr) (msg : Addr) (h0 : Heap) (n0 : Nat) (Z0 : n0 ≤ h0.size)  :
    MetFree l (⟨"java/util/Objects", "requireNonNull", "(Ljava/lang/Object;Ljava/lang/String;)Ljava/lang/Object;"⟩ : MethodName) (head1 (Jvm.Cond.code (⟨"java/util/Objects", "requireNonNull", "(Ljava/lang/Object;Ljava/lang/String;)Ljava/lang/Object;"⟩ : MethodName) jdk_31_method_11_code 2 (some (.object "java/lang/Object")) :: ws) ({ frames := 0, cells := 0, slots := 0, locals := 0 } : Room)) (fun ar_ U => ar_ = #[(.ref ob), (.ref msg)] ∧ Z.Warmed39 U.vm ∧ U.heap = h0) (fun _ _ _ _ _ => True) (fun _ U o U' => ∃ v L, o = .returned v ∧ Q_rmReq Z ob msg h0 n0 v U'.heap L ∧ FrameEnd U o U' L ({ frames := 0, cells := 0, slots := 0, locals := 0 } : Room).cells ({ frames := 0, cells := 0, slots := 0, locals := 0 } : Room).slots) := by
  refine MetFree.of_bodySF (plainFor_of_name pn_java_util_Objects) hisR ?_
  intro p e s m args below meth c s₁ Bd hml0 hP hK
  obtain ⟨rfl, hZ, hh⟩ := hP
  have hx := Bd.exec
  have hby := Bd.bytes
  have hml : c.maxLocals = 2 := hml0
  have hown : s.vm.findClass "java/util/Objects" = some m.cls := findClass_of_methodNamed Bd.named
  have hnm := (name_of_methodNamed Bd.named Bd.method).1
  have X0 : Stand p l e ({ frames := 0, cells := 0, slots := 0, locals := 0 } : Room) s m #[(.ref ob), (.ref msg)] below meth c s₁ [] 0 0 := Stand.of_body Bd
  have e0 : s₁.heap = h0 := by rw [← hh, Bd.state]; rfl
  have N0 := Fr.nil n0
  have pre0 : ∀ t_, Steps p.tables e below (s₁.setTop (mkF m 0 #[.val (.ref ob), .val (.ref msg)] [])) t_ → Steps p.tables e below (s₁.setTop (entryFrame m #[(.ref ob), (.ref msg)] 2)) t_ := fun t_ k_ => castTop (ef_rmReq m ob msg) k_
  have s1 : ∀ t_, Steps p.tables e below (s₁.setTop (mkF m 14 #[.val (.ref ob), .val (.ref msg)] [(.ref ob)])) t_ → Steps p.tables e below (s₁.setTop (entryFrame m #[(.ref ob), (.ref msg)] 2)) t_ := fun t_ k_ => pre0 t_ (by
    show Steps p.tables e below (s₁.setTop (mkF m 0 #[.val (.ref ob), .val (.ref msg)] [])) t_
    refine XS.aloadN X0.here hx rfl (Jvm.hb hby d_jdk_31_method_11_0) rfl rfl ?_
    refine XS.ifnonnullYes X0.here hx rfl (pc0 := 1) (pc' := 13) rfl (Jvm.hb hby d_jdk_31_method_11_1) rfl (by decide) (by decide) ?_
    show Steps p.tables e below (s₁.setTop (mkF m 13 #[.val (.ref ob), .val (.ref msg)] [])) _
    refine XS.aloadN X0.here hx rfl (Jvm.hb hby d_jdk_31_method_11_13) rfl rfl ?_
    show Steps p.tables e below (s₁.setTop (mkF m 14 #[.val (.ref ob), .val (.ref msg)] [(.ref ob)])) t_
    exact k_)
  obtain ⟨fs, hr, hrun, hended, hW, hsame⟩ := X0.leave (v := some (.ref ob)) (fun h => by rw [Bd.returns] at h; cases h)
  refine ⟨_, _, s1 _ ?_, hrun, hended, _, _, rfl, ?_, ⟨_, rfl⟩, hW, hsame.mono (by decide) (by decide)⟩
  · show Steps p.tables e below (s₁.setTop (mkF m 14 #[.val (.ref ob), .val (.ref msg)] [(.ref ob)])) _
    jvm_step X0.here [X0.here.top, hx, (Jvm.hb hby d_jdk_31_method_11_14), X0.method', Bd.returns, Value.isRef, FieldType.isReference]
    first | (intro acts; rw [hr _ acts rfl rfl rfl]) | rw [hr _ _ rfl rfl rfl]
    exact Steps.refl _
  · show Q_rmReq Z _ _ h0 n0 _ s₁.heap _
    rw [e0]
    exact ⟨rfl, N0, rfl⟩
theorem pn_com_example_coyote_hill_coyotehill_LeaseRequest : plainName "com/example/coyote_hill/coyotehill/LeaseRequest" = true := by first | (simp [plainName, overriddenIn]; done) | decide +kernel
theorem d_prog_9_method_1_0 : decode prog_9_method_1_code 0 = .ok (.aload_n 0, 1) := by decide +kernel
theorem d_prog_9_method_1_1 : decode prog_9_method_1_code 1 = .ok (.invokespecial 1, 3) := by decide +kernel
theorem d_prog_9_method_1_4 : decode prog_9_method_1_code 4 = .ok (.aload_n 0, 1) := by decide +kernel
theorem d_prog_9_method_1_5 : decode prog_9_method_1_code 5 = .ok (.aload_n 1, 1) := by decide +kernel
theorem d_prog_9_method_1_6 : decode prog_9_method_1_code 6 = .ok (.ldc 7, 2) := by decide +kernel
theorem pd__Ljava_lang_Object_Ljava_lang_String__Ljava_lang_Object_ : parseMethodDescriptor "(Ljava/lang/Object;Ljava/lang/String;)Ljava/lang/Object;" = some ⟨[(.object "java/lang/Object"), (.object "java/lang/String")], some (.object "java/lang/Object")⟩ := by decide +kernel
theorem d_prog_9_method_1_8 : decode prog_9_method_1_code 8 = .ok (.invokestatic 9, 3) := by decide +kernel
theorem d_prog_9_method_1_11 : decode prog_9_method_1_code 11 = .ok (.checkcast 15, 3) := by decide +kernel
theorem d_prog_9_method_1_14 : decode prog_9_method_1_code 14 = .ok (.putfield 17, 3) := by decide +kernel
theorem d_prog_9_method_1_17 : decode prog_9_method_1_code 17 = .ok (.aload_n 0, 1) := by decide +kernel
theorem d_prog_9_method_1_18 : decode prog_9_method_1_code 18 = .ok (.iload_n 2, 1) := by decide +kernel
theorem d_prog_9_method_1_19 : decode prog_9_method_1_code 19 = .ok (.putfield 23, 3) := by decide +kernel
theorem d_prog_9_method_1_22 : decode prog_9_method_1_code 22 = .ok (.aload_n 0, 1) := by decide +kernel
theorem d_prog_9_method_1_23 : decode prog_9_method_1_code 23 = .ok (.iload_n 3, 1) := by decide +kernel
theorem d_prog_9_method_1_24 : decode prog_9_method_1_code 24 = .ok (.putfield 27, 3) := by decide +kernel
theorem d_prog_9_method_1_27 : decode prog_9_method_1_code 27 = .ok (.return_, 1) := by decide +kernel
theorem ef_rmLRi (m : MethodId) (x0 : Addr) (x1 : Addr) (x2 : Int32) (x3 : Int32) : entryFrame m #[(.ref x0), (.ref x1), (.int x2), (.int x3)] 4 = mkF m 0 #[.val (.ref x0), .val (.ref x1), .val (.int x2), .val (.int x3)] [] := by first | (simp [entryFrame, mkF, argsToLocals, Value.category]; done) | rfl
def Q_rmLRi (Z : State) (a : Addr) (wk : Addr) (li : Int32) (mi : Int32) (h0 : Heap) (n0 : Nat) (v : Option Value) (h : Heap) (L : List Loc) : Prop := (v = none) ∧ (Fr n0 L) ∧ (Keep h0 h [a]) ∧ (Exa Z h a "com/example/coyote_hill/coyotehill/LeaseRequest") ∧ (Fld Z h a "com/example/coyote_hill/coyotehill/LeaseRequest" "_worker" "Ljava/lang/String;" (.ref wk)) ∧ (Fld Z h a "com/example/coyote_hill/coyotehill/LeaseRequest" "_leaseMs" "I" (.int li)) ∧ (Fld Z h a "com/example/coyote_hill/coyotehill/LeaseRequest" "_maxItems" "I" (.int mi))
set_option maxRecDepth 65536 in
set_option maxHeartbeats 40000000 in
theorem rmLRi (l : Launch) (Z : State) (a0 : Array Value) (hw : ∀ d ∈ tables_1, d.before a0 Z = true) (ws : List Jvm.Cond) (a : Addr) (wk : Addr) (li : Int32) (mi : Int32) (h0 : Heap) (n0 : Nat) (Z0 : n0 ≤ h0.size) (I1 : Exa Z h0 a "com/example/coyote_hill/coyotehill/LeaseRequest") (I2 : Fld Z h0 a "com/example/coyote_hill/coyotehill/LeaseRequest" "_worker" "Ljava/lang/String;" .null) (I3 : Fld Z h0 a "com/example/coyote_hill/coyotehill/LeaseRequest" "_leaseMs" "I" (.int (0 : Int32))) (I4 : Fld Z h0 a "com/example/coyote_hill/coyotehill/LeaseRequest" "_maxItems" "I" (.int (0 : Int32))) (I5 : Exa Z h0 wk "java/lang/String") (ga : n0 ≤ a) :
    MetFree l (⟨"com/example/coyote_hill/coyotehill/LeaseRequest", "<init>", "(Ljava/lang/String;II)V"⟩ : MethodName) (head1 (Jvm.Cond.code (⟨"com/example/coyote_hill/coyotehill/LeaseRequest", "<init>", "(Ljava/lang/String;II)V"⟩ : MethodName) prog_9_method_1_code 4 none :: ws) ({ frames := 1, cells := 2, slots := 28, locals := 14 } : Room)) (fun ar_ U => ar_ = #[(.ref a), (.ref wk), (.int li), (.int mi)] ∧ Z.Warmed39 U.vm ∧ U.heap = h0 ∧ CHv Z ELs U.vm h0) (fun _ _ _ _ _ => True) (fun _ U o U' => ∃ v L, o = .returned v ∧ Q_rmLRi Z a wk li mi h0 n0 v U'.heap L ∧ CHr Z ELs U.vm U.heap U'.vm U'.heap ∧ ReturnedEndW U o U' L ({ frames := 1, cells := 2, slots := 28, locals := 14 } : Room).cells ({ frames := 1, cells := 2, slots := 28, locals := 14 } : Room).slots) := by
  refine MetFree.of_bodySF (plainFor_of_name pn_com_example_coyote_hill_coyotehill_LeaseRequest) hisR ?_
  intro p e s m args below meth c s₁ Bd hml0 hP hK
  obtain ⟨rfl, hZ, hh, hCH⟩ := hP
  have hx := Bd.exec
  have hby := Bd.bytes
  have hml : c.maxLocals = 4 := hml0
  have hown : s.vm.findClass "com/example/coyote_hill/coyotehill/LeaseRequest" = some m.cls := findClass_of_methodNamed Bd.named
  have hnm := (name_of_methodNamed Bd.named Bd.method).1
  have X0 : Stand p l e ({ frames := 1, cells := 2, slots := 28, locals := 14 } : Room) (s.setVm s.vm) m #[(.ref a), (.ref wk), (.int li), (.int mi)] below meth c s₁ [] 0 0 := Stand.of_body Bd
  have e0 : s₁.heap = h0 := by rw [← hh, Bd.state]; rfl
  have N0 := Fr.nil n0
  have pre0 : ∀ t_, Steps p.tables e below (s₁.setTop (mkF m 0 #[.val (.ref a), .val (.ref wk), .val (.int li), .val (.int mi)] [])) t_ → Steps p.tables e below (s₁.setTop (entryFrame m #[(.ref a), (.ref wk), (.int li), (.int mi)] 4)) t_ := fun t_ k_ => castTop (ef_rmLRi m a wk li mi) k_
  have hEL : EW Z a0 ELs := own_EW hw
  have wS : ∀ a ∈ Bundle.stringAtoms, a.before a0 Z = true := own_wS hw
  have hS : s.Since s.vm s.heap.size := (State.WarmedH.refl s).since _
  have hk : s.heap.size ≤ h0.size := by rw [hh]; exact Nat.le_refl _
  have CR : CHr Z ELs s.vm h0 s.vm h0 := CHr.refl hCH
  have lt_I1 : @LT.lt Nat _ a h0.size := I1.lt
  have lt_I2 : @LT.lt Nat _ a h0.size := I2.lt
  have lt_I3 : @LT.lt Nat _ a h0.size := I3.lt
  have lt_I4 : @LT.lt Nat _ a h0.size := I4.lt
  have lt_I5 : @LT.lt Nat _ wk h0.size := I5.lt
  obtain ⟨T1, X1, e1, st1⟩ := initO X0 hx hZ hown (hw _ (List.mem_of_getElem? (i := 32) rfl)) (hw _ (List.mem_of_getElem? (i := 16) rfl)) (hw _ (List.mem_of_getElem? (i := 17) rfl)) e0 (g := (mkF m 1 #[.val (.ref a), .val (.ref wk), .val (.int li), .val (.int mi)] [(.ref a)])) rfl (by rw [hml]; rfl) rfl (Jvm.hb hby d_prog_9_method_1_1) (by decide) (W := 0) (by show 2 * 0 + _ ≤ _; exact Nat.le_of_eq rfl) (by decide)
  have s3 : ∀ t_, Steps p.tables e below (T1.setTop (mkF m 6 #[.val (.ref a), .val (.ref wk), .val (.int li), .val (.int mi)] [(.ref wk), (.ref a)])) t_ → Steps p.tables e below (s₁.setTop (entryFrame m #[(.ref a), (.ref wk), (.int li), (.int mi)] 4)) t_ := fun t_ k_ => pre0 t_ (by
    show Steps p.tables e below (s₁.setTop (mkF m 0 #[.val (.ref a), .val (.ref wk), .val (.int li), .val (.int mi)] [])) t_
    refine XS.aloadN X0.here hx rfl (Jvm.hb hby d_prog_9_method_1_0) rfl rfl ?_
    refine st1 _ ?_
    show Steps p.tables e below (T1.setTop (mkF m 4 #[.val (.ref a), .val (.ref wk), .val (.int li), .val (.int mi)] [])) _
    refine XS.aloadN X1.here hx rfl (Jvm.hb hby d_prog_9_method_1_4) rfl rfl ?_
    refine XS.aloadN X1.here hx rfl (Jvm.hb hby d_prog_9_method_1_5) rfl rfl ?_
    show Steps p.tables e below (T1.setTop (mkF m 6 #[.val (.ref a), .val (.ref wk), .val (.int li), .val (.int mi)] [(.ref wk), (.ref a)])) t_
    exact k_)
  obtain ⟨a2, T2, h2, k2, b2, kk2, X2, e2, E2, hS, hk, hZ, hown, Ex2, Fc2, Fv2, Av2, la2, lb2, Cp2, Li2, Sa2, st2⟩ := ldcCH X1 hx hZ hown (hw _ (List.mem_of_getElem? (i := 33) rfl)) wS e1 hS hk hEL (List.mem_of_getElem? (i := 0) rfl) CR.1 (vs := [(.int (119 : Int32)), (.int (111 : Int32)), (.int (114 : Int32)), (.int (107 : Int32)), (.int (101 : Int32)), (.int (114 : Int32))]) (z := (6 : Int32)) ⟨by decide, by decide⟩ (by decide) rfl (g := (mkF m 6 #[.val (.ref a), .val (.ref wk), .val (.int li), .val (.int mi)] [(.ref wk), (.ref a)])) rfl (Jvm.hb hby d_prog_9_method_1_6) (n := 24) (by decide) (by decide) (by decide) (by decide)
  have z4 : h0.size ≤ h2.size := E2.1
  have CR := CR.trans Cp2
  have la2 : @LT.lt Nat _ a2 h2.size := la2
  have lb2 : @LT.lt Nat _ b2 h2.size := lb2
  have Zc5 : n0 ≤ h2.size := by omega
  obtain ⟨_, _, ⟨T6, L6, k6, n6⟩, -, X6, ⟨Lc6, hQ6, l6, y6, z6⟩, st6⟩ := Jvm.LawKit.callS X2 hx (y := (⟨"java/util/Objects", "requireNonNull", "(Ljava/lang/Object;Ljava/lang/String;)Ljava/lang/Object;"⟩ : MethodName)) hown (mvT hZ (hw _ (List.mem_of_getElem? (i := 34) rfl))) (mvT hZ (hw _ (List.mem_of_getElem? (i := 35) rfl))) (mvT hZ (hw _ (List.mem_of_getElem? (i := 36) rfl))) (mvT hZ (hw _ (List.mem_of_getElem? (i := 37) rfl))) (by decide) (backOf (W := 1) (rmReq l Z a0 hw [] wk a2 h2 n0 Zc5) hZ (hw _ (List.mem_of_getElem? (i := 37) rfl)) (hw _ (List.mem_of_getElem? (i := 36) rfl)) (by decide) (by decide)) (g := (mkF m 8 #[.val (.ref a), .val (.ref wk), .val (.int li), .val (.int mi)] [(.ref a2), (.ref wk), (.ref a)])) rfl (by rw [hml]; rfl) (argsL := [(.ref wk), (.ref a2)]) (rest := [(.ref a)]) (lenOf pd__Ljava_lang_Object_Ljava_lang_String__Ljava_lang_Object_ rfl) rfl (by show 2 * 0 + _ ≤ _; exact Nat.le_of_eq rfl) (Jvm.hb hby d_prog_9_method_1_8) (fun _ _ => ⟨rfl, e2, (by decide : 2 + 0 ≤ _), (by decide : 28 + 0 ≤ _)⟩)
  dsimp only [Pt.U, Pt.locs, Pt.cells, Pt.slots] at X6 l6 y6 z6 st6 hQ6
  subst l6 y6 z6
  obtain ⟨rfl, N6q, e6⟩ := hQ6
  have N6 := Fr.app N0 N6q
  have f7 : Exa Z h2 wk "java/lang/String" := (I5.ext E2)
  obtain ⟨T8, X8, e8, st8⟩ := castY X6 hx hZ hown (hw _ (List.mem_of_getElem? (i := 38) rfl)) e6 (Ins.self f7) (g := (mkF m 11 #[.val (.ref a), .val (.ref wk), .val (.int li), .val (.int mi)] [(.ref wk), (.ref a)])) rfl rfl (Jvm.hb hby d_prog_9_method_1_11)
  have f9 : Exa Z h2 a "com/example/coyote_hill/coyotehill/LeaseRequest" := (I1.ext E2)
  have f10 : Fld Z h2 a "com/example/coyote_hill/coyotehill/LeaseRequest" "_worker" "Ljava/lang/String;" .null := (I2.ext E2)
  obtain ⟨T11, h11, X11, e11, W11, st11⟩ := putF X8 hx hZ hown (host := "") (Or.inl (hw _ (List.mem_of_getElem? (i := 39) rfl))) Via.refl e8 f10 f9 (Or.inr ⟨(hw _ (List.mem_of_getElem? (i := 40) rfl)), rfl, hnm⟩) (hw _ (List.mem_of_getElem? (i := 27) rfl)) (ty := (.object "java/lang/String")) (by decide) rfl rfl (g := (mkF m 14 #[.val (.ref a), .val (.ref wk), .val (.int li), .val (.int mi)] [(.ref wk), (.ref a)])) rfl rfl (Jvm.hb hby d_prog_9_method_1_14)
  have z12 : h2.size ≤ h11.size := Nat.le_of_eq W11.size.symm
  have Cp12 : CHr Z ELs T2.vm h2 T2.vm h11 := CHr.wr W11 (Safe.exa hZ.alike f9 (by decide) (by decide)) CR.1
  have hk := Nat.le_trans hk z12
  have CR := CR.trans Cp12
  have F11 : Fld Z h11 a "com/example/coyote_hill/coyotehill/LeaseRequest" "_worker" "Ljava/lang/String;" (.ref wk) := f10.same W11
  have N11 := Fr.snoc X11 N6 (show n0 ≤ a by omega)
  have f13 : Exa Z h11 a "com/example/coyote_hill/coyotehill/LeaseRequest" := (f9.wr W11)
  have f14 : Fld Z h11 a "com/example/coyote_hill/coyotehill/LeaseRequest" "_leaseMs" "I" (.int (0 : Int32)) := ((I3.ext E2).other W11 (Or.inr (slot_ne (Or.inr (hw _ (List.mem_of_getElem? (i := 42) rfl))) (Or.inr (hw _ (List.mem_of_getElem? (i := 40) rfl))) (by decide) (t := .int) (t' := (.object "java/lang/String")) (by decide) (by decide))))
  obtain ⟨T15, h15, X15, e15, W15, st15⟩ := putF X11 hx hZ hown (host := "") (Or.inl (hw _ (List.mem_of_getElem? (i := 41) rfl))) Via.refl e11 f14 f13 (Or.inr ⟨(hw _ (List.mem_of_getElem? (i := 42) rfl)), rfl, hnm⟩) (hw _ (List.mem_of_getElem? (i := 27) rfl)) (ty := .int) (by decide) rfl rfl (g := (mkF m 19 #[.val (.ref a), .val (.ref wk), .val (.int li), .val (.int mi)] [(.int li), (.ref a)])) rfl rfl (Jvm.hb hby d_prog_9_method_1_19)
  have z16 : h11.size ≤ h15.size := Nat.le_of_eq W15.size.symm
  have Cp16 : CHr Z ELs T2.vm h11 T2.vm h15 := CHr.wr W15 (Safe.exa hZ.alike f13 (by decide) (by decide)) CR.1
  have hk := Nat.le_trans hk z16
  have CR := CR.trans Cp16
  have F15 : Fld Z h15 a "com/example/coyote_hill/coyotehill/LeaseRequest" "_leaseMs" "I" (.int li) := f14.same W15
  have N15 := Fr.snoc X15 N11 (show n0 ≤ a by omega)
  have f17 : Exa Z h15 a "com/example/coyote_hill/coyotehill/LeaseRequest" := (f13.wr W15)
  have f18 : Fld Z h15 a "com/example/coyote_hill/coyotehill/LeaseRequest" "_maxItems" "I" (.int (0 : Int32)) := (((I4.ext E2).other W11 (Or.inr (slot_ne (Or.inr (hw _ (List.mem_of_getElem? (i := 44) rfl))) (Or.inr (hw _ (List.mem_of_getElem? (i := 40) rfl))) (by decide) (t := .int) (t' := (.object "java/lang/String")) (by decide) (by decide)))).other W15 (Or.inr (slot_ne (Or.inr (hw _ (List.mem_of_getElem? (i := 44) rfl))) (Or.inr (hw _ (List.mem_of_getElem? (i := 42) rfl))) (by decide) (t := .int) (t' := .int) (by decide) (by decide))))
  obtain ⟨T19, h19, X19, e19, W19, st19⟩ := putF X15 hx hZ hown (host := "") (Or.inl (hw _ (List.mem_of_getElem? (i := 43) rfl))) Via.refl e15 f18 f17 (Or.inr ⟨(hw _ (List.mem_of_getElem? (i := 44) rfl)), rfl, hnm⟩) (hw _ (List.mem_of_getElem? (i := 27) rfl)) (ty := .int) (by decide) rfl rfl (g := (mkF m 24 #[.val (.ref a), .val (.ref wk), .val (.int li), .val (.int mi)] [(.int mi), (.ref a)])) rfl rfl (Jvm.hb hby d_prog_9_method_1_24)
  have z20 : h15.size ≤ h19.size := Nat.le_of_eq W19.size.symm
  have Cp20 : CHr Z ELs T2.vm h15 T2.vm h19 := CHr.wr W19 (Safe.exa hZ.alike f17 (by decide) (by decide)) CR.1
  have hk := Nat.le_trans hk z20
  have CR := CR.trans Cp20
  have F19 : Fld Z h19 a "com/example/coyote_hill/coyotehill/LeaseRequest" "_maxItems" "I" (.int mi) := f18.same W19
  have N19 := Fr.snoc X19 N15 (show n0 ≤ a by omega)
  have s21 : ∀ t_, Steps p.tables e below (T19.setTop (mkF m 27 #[.val (.ref a), .val (.ref wk), .val (.int li), .val (.int mi)] [])) t_ → Steps p.tables e below (s₁.setTop (entryFrame m #[(.ref a), (.ref wk), (.int li), (.int mi)] 4)) t_ := fun t_ k_ => s3 t_ (by
    show Steps p.tables e below (T1.setTop (mkF m 6 #[.val (.ref a), .val (.ref wk), .val (.int li), .val (.int mi)] [(.ref wk), (.ref a)])) t_
    refine st2 _ ?_
    show Steps p.tables e below (T2.setTop (mkF m 8 #[.val (.ref a), .val (.ref wk), .val (.int li), .val (.int mi)] [(.ref a2), (.ref wk), (.ref a)])) _
    refine st6 _ ?_
    show Steps p.tables e below (T6.setTop (mkF m 11 #[.val (.ref a), .val (.ref wk), .val (.int li), .val (.int mi)] [(.ref wk), (.ref a)])) _
    refine st8 _ ?_
    show Steps p.tables e below (T8.setTop (mkF m 14 #[.val (.ref a), .val (.ref wk), .val (.int li), .val (.int mi)] [(.ref wk), (.ref a)])) _
    refine st11 _ ?_
    show Steps p.tables e below (T11.setTop (mkF m 17 #[.val (.ref a), .val (.ref wk), .val (.int li), .val (.int mi)] [])) _
    refine XS.aloadN X11.here hx rfl (Jvm.hb hby d_prog_9_method_1_17) rfl rfl ?_
    refine XS.iloadN X11.here hx rfl (Jvm.hb hby d_prog_9_method_1_18) rfl ?_
    refine st15 _ ?_
    show Steps p.tables e below (T15.setTop (mkF m 22 #[.val (.ref a), .val (.ref wk), .val (.int li), .val (.int mi)] [])) _
    refine XS.aloadN X15.here hx rfl (Jvm.hb hby d_prog_9_method_1_22) rfl rfl ?_
    refine XS.iloadN X15.here hx rfl (Jvm.hb hby d_prog_9_method_1_23) rfl ?_
    refine st19 _ ?_
    show Steps p.tables e below (T19.setTop (mkF m 27 #[.val (.ref a), .val (.ref wk), .val (.int li), .val (.int mi)] [])) _
    show Steps p.tables e below (T19.setTop (mkF m 27 #[.val (.ref a), .val (.ref wk), .val (.int li), .val (.int mi)] [])) t_
    exact k_)
  obtain ⟨fs, hr, hrun, hended, hREW⟩ := X19.leaveW hS (by first | exact Nat.le_refl _ | (rw [e19]; exact hk)) (v := none) (fun _ => rfl)
  have f22 : Exa Z h19 a "com/example/coyote_hill/coyotehill/LeaseRequest" := (f17.wr W19)
  have f23 : Fld Z h19 a "com/example/coyote_hill/coyotehill/LeaseRequest" "_worker" "Ljava/lang/String;" (.ref wk) := ((F11.other W15 (Or.inr (slot_ne (Or.inr (hw _ (List.mem_of_getElem? (i := 40) rfl))) (Or.inr (hw _ (List.mem_of_getElem? (i := 42) rfl))) (by decide) (t := (.object "java/lang/String")) (t' := .int) (by decide) (by decide)))).other W19 (Or.inr (slot_ne (Or.inr (hw _ (List.mem_of_getElem? (i := 40) rfl))) (Or.inr (hw _ (List.mem_of_getElem? (i := 44) rfl))) (by decide) (t := (.object "java/lang/String")) (t' := .int) (by decide) (by decide))))
  have f24 : Fld Z h19 a "com/example/coyote_hill/coyotehill/LeaseRequest" "_leaseMs" "I" (.int li) := (F15.other W19 (Or.inr (slot_ne (Or.inr (hw _ (List.mem_of_getElem? (i := 42) rfl))) (Or.inr (hw _ (List.mem_of_getElem? (i := 44) rfl))) (by decide) (t := .int) (t' := .int) (by decide) (by decide))))
  refine ⟨_, _, s21 _ ?_, hrun, hended, _, _, rfl, ?_, (by show CHr Z ELs s.vm s.heap T19.vm T19.heap; rw [hh, e19]; exact CR.trans (CHv.at X19 hZ hEL CR.1)), hREW.1, hREW.2.1, hREW.2.2.1, hREW.2.2.2.mono (by decide) (by decide)⟩
  · show Steps p.tables e below (T19.setTop (mkF m 27 #[.val (.ref a), .val (.ref wk), .val (.int li), .val (.int mi)] [])) _
    exact X19.returnOut hx Bd.returns (Jvm.hb hby d_prog_9_method_1_27) hr
  · show Q_rmLRi Z _ _ _ _ h0 n0 _ T19.heap _
    rw [e19]
    exact ⟨rfl, N19, (((((Keep.refl h0 [a]).ext E2).wr W11 (Or.inl (by simp))).wr W15 (Or.inl (by simp))).wr W19 (Or.inl (by simp))), f22, f23, f24, F19⟩
theorem d_prog_9_method_5_0 : decode prog_9_method_5_code 0 = .ok (.aload_n 1, 1) := by decide +kernel
theorem d_prog_9_method_5_1 : decode prog_9_method_5_code 1 = .ok (.instanceof 18, 3) := by decide +kernel
theorem d_prog_9_method_5_4 : decode prog_9_method_5_code 4 = .ok (.ifCond .ne 5, 3) := by decide +kernel
theorem d_prog_9_method_5_9 : decode prog_9_method_5_code 9 = .ok (.aload_n 1, 1) := by decide +kernel
theorem d_prog_9_method_5_10 : decode prog_9_method_5_code 10 = .ok (.checkcast 18, 3) := by decide +kernel
theorem d_prog_9_method_5_13 : decode prog_9_method_5_code 13 = .ok (.astore_n 2, 1) := by decide +kernel
theorem d_prog_9_method_5_14 : decode prog_9_method_5_code 14 = .ok (.aload_n 0, 1) := by decide +kernel
theorem d_prog_9_method_5_15 : decode prog_9_method_5_code 15 = .ok (.getfield 17, 3) := by decide +kernel
theorem d_prog_9_method_5_18 : decode prog_9_method_5_code 18 = .ok (.aload_n 2, 1) := by decide +kernel
theorem d_prog_9_method_5_19 : decode prog_9_method_5_code 19 = .ok (.getfield 17, 3) := by decide +kernel
theorem pd__Ljava_lang_Object__Z : parseMethodDescriptor "(Ljava/lang/Object;)Z" = some ⟨[(.object "java/lang/Object")], some .boolean⟩ := by decide +kernel
theorem d_prog_9_method_5_22 : decode prog_9_method_5_code 22 = .ok (.invokevirtual 30, 3) := by decide +kernel
theorem d_prog_9_method_5_25 : decode prog_9_method_5_code 25 = .ok (.ifCond .eq 29, 3) := by decide +kernel
theorem d_prog_9_method_5_28 : decode prog_9_method_5_code 28 = .ok (.aload_n 0, 1) := by decide +kernel
theorem d_prog_9_method_5_29 : decode prog_9_method_5_code 29 = .ok (.getfield 23, 3) := by decide +kernel
theorem d_prog_9_method_5_32 : decode prog_9_method_5_code 32 = .ok (.aload_n 2, 1) := by decide +kernel
theorem d_prog_9_method_5_33 : decode prog_9_method_5_code 33 = .ok (.getfield 23, 3) := by decide +kernel
theorem d_prog_9_method_5_36 : decode prog_9_method_5_code 36 = .ok (.if_icmp .ne 18, 3) := by decide +kernel
theorem d_prog_9_method_5_39 : decode prog_9_method_5_code 39 = .ok (.aload_n 0, 1) := by decide +kernel
theorem d_prog_9_method_5_40 : decode prog_9_method_5_code 40 = .ok (.getfield 27, 3) := by decide +kernel
theorem d_prog_9_method_5_43 : decode prog_9_method_5_code 43 = .ok (.aload_n 2, 1) := by decide +kernel
theorem d_prog_9_method_5_44 : decode prog_9_method_5_code 44 = .ok (.getfield 27, 3) := by decide +kernel
theorem d_prog_9_method_5_47 : decode prog_9_method_5_code 47 = .ok (.if_icmp .ne 7, 3) := by decide +kernel
theorem d_prog_9_method_5_50 : decode prog_9_method_5_code 50 = .ok (.iconst 1, 1) := by decide +kernel
theorem d_prog_9_method_5_51 : decode prog_9_method_5_code 51 = .ok (.goto 4, 3) := by decide +kernel
theorem d_prog_9_method_5_55 : decode prog_9_method_5_code 55 = .ok (.ireturn, 1) := by decide +kernel
theorem d_prog_9_method_5_54 : decode prog_9_method_5_code 54 = .ok (.iconst 0, 1) := by decide +kernel
theorem ef_rmEqO (m : MethodId) (x0 : Addr) (x1 : Addr) : entryFrame m #[(.ref x0), (.ref x1)] 3 = mkF m 0 #[.val (.ref x0), .val (.ref x1), .unset] [] := by first | (simp [entryFrame, mkF, argsToLocals, Value.category]; done) | rfl
def Q_rmEqO (Z : State) (p_ : Addr) (q_ : Addr) (cst : Int32) (ax : Addr) (bx : Addr) (kx : ClassId) (cs : List Int32) (lx : Int32) (mx : Int32) (ay : Addr) (by_ : Addr) (ky : ClassId) (ds : List Int32) (ly : Int32) (my : Int32) (h0 : Heap) (n0 : Nat) (v : Option Value) (h : Heap) (L : List Loc) : Prop := (v = some (.int (if cs = ds then (if lx = ly then (if mx = my then (1 : Int32) else (0 : Int32)) else (0 : Int32)) else (0 : Int32)))) ∧ (Fr n0 L) ∧ (h = h0)
set_option maxRecDepth 65536 in
set_option maxHeartbeats 40000000 in
theorem rmEqO (l : Launch) (Z : State) (a0 : Array Value) (hw : ∀ d ∈ tables_1, d.before a0 Z = true) (ws : List Jvm.Cond) (p_ : Addr) (q_ : Addr) (cst : Int32) (ax : Addr) (bx : Addr) (kx : ClassId) (cs : List Int32) (lx : Int32) (mx : Int32) (ay : Addr) (by_ : Addr) (ky : ClassId) (ds : List Int32) (ly : Int32) (my : Int32) (h0 : Heap) (n0 : Nat) (Z0 : n0 ≤ h0.size) (I1 : Sta Z Z.heap "java/lang/String" "COMPACT_STRINGS" "Z" (.int cst)) (OX : Old Z n0 h0) (hcst : ¬ (cst = (0 : Int32))) (I2 : Exa Z h0 p_ "com/example/coyote_hill/coyotehill/LeaseRequest") (I3 : Fld Z h0 p_ "com/example/coyote_hill/coyotehill/LeaseRequest" "_worker" "Ljava/lang/String;" (.ref ax)) (I4 : Fld Z h0 p_ "com/example/coyote_hill/coyotehill/LeaseRequest" "_leaseMs" "I" (.int lx)) (I5 : Fld Z h0 p_ "com/example/coyote_hill/coyotehill/LeaseRequest" "_maxItems" "I" (.int mx)) (I6 : Exa Z h0 q_ "com/example/coyote_hill/coyotehill/LeaseRequest") (I7 : Fld Z h0 q_ "com/example/coyote_hill/coyotehill/LeaseRequest" "_worker" "Ljava/lang/String;" (.ref ay)) (I8 : Fld Z h0 q_ "com/example/coyote_hill/coyotehill/LeaseRequest" "_leaseMs" "I" (.int ly)) (I9 : Fld Z h0 q_ "com/example/coyote_hill/coyotehill/LeaseRequest" "_maxItems" "I" (.int my)) (I10 : Exa Z h0 ax "java/lang/String") (I11 : Fld Z h0 ax "java/lang/String" "value" "[B" (.ref bx)) (I12 : Fld Z h0 ax "java/lang/String" "coder" "B" (.int (own_cod cs))) (I13 : Arv Z h0 bx kx .byte (Int32.ofNat (own_enl cs)) (own_enc cs) (.int (0 : Int32))) (I14 : Exa Z h0 ay "java/lang/String") (I15 : Fld Z h0 ay "java/lang/String" "value" "[B" (.ref by_)) (I16 : Fld Z h0 ay "java/lang/String" "coder" "B" (.int (own_cod ds))) (I17 : Arv Z h0 by_ ky .byte (Int32.ofNat (own_enl ds)) (own_enc ds) (.int (0 : Int32))) (hne : ¬ (ax = ay)) (hchc : own_chs cs) (hchd : own_chs ds) (hbc : cs.length ≤ 3) (hbd : ds.length ≤ 3) :
    MetFree l (⟨"com/example/coyote_hill/coyotehill/LeaseRequest", "equals", "(Ljava/lang/Object;)Z"⟩ : MethodName) (head1 (Jvm.Cond.code (⟨"com/example/coyote_hill/coyotehill/LeaseRequest", "equals", "(Ljava/lang/Object;)Z"⟩ : MethodName) prog_9_method_5_code 3 (some .boolean) :: ws) ({ frames := 2, cells := 0, slots := 0, locals := 28 } : Room)) (fun ar_ U => ar_ = #[(.ref p_), (.ref q_)] ∧ Z.Warmed39 U.vm ∧ U.heap = h0) (fun _ _ _ _ _ => True) (fun _ U o U' => ∃ v L, o = .returned v ∧ Q_rmEqO Z p_ q_ cst ax bx kx cs lx mx ay by_ ky ds ly my h0 n0 v U'.heap L ∧ FrameEnd U o U' L ({ frames := 2, cells := 0, slots := 0, locals := 28 } : Room).cells ({ frames := 2, cells := 0, slots := 0, locals := 28 } : Room).slots) := by
  refine MetFree.of_bodySF (plainFor_of_name pn_com_example_coyote_hill_coyotehill_LeaseRequest) hisR ?_
  intro p e s m args below meth c s₁ Bd hml0 hP hK
  obtain ⟨rfl, hZ, hh⟩ := hP
  have hx := Bd.exec
  have hby := Bd.bytes
  have hml : c.maxLocals = 3 := hml0
  have hown : s.vm.findClass "com/example/coyote_hill/coyotehill/LeaseRequest" = some m.cls := findClass_of_methodNamed Bd.named
  have hnm := (name_of_methodNamed Bd.named Bd.method).1
  have X0 : Stand p l e ({ frames := 2, cells := 0, slots := 0, locals := 28 } : Room) s m #[(.ref p_), (.ref q_)] below meth c s₁ [] 0 0 := Stand.of_body Bd
  have e0 : s₁.heap = h0 := by rw [← hh, Bd.state]; rfl
  have N0 := Fr.nil n0
  have pre0 : ∀ t_, Steps p.tables e below (s₁.setTop (mkF m 0 #[.val (.ref p_), .val (.ref q_), .unset] [])) t_ → Steps p.tables e below (s₁.setTop (entryFrame m #[(.ref p_), (.ref q_)] 3)) t_ := fun t_ k_ => castTop (ef_rmEqO m p_ q_) k_
  have lt_I2 : @LT.lt Nat _ p_ h0.size := I2.lt
  have lt_I3 : @LT.lt Nat _ p_ h0.size := I3.lt
  have lt_I4 : @LT.lt Nat _ p_ h0.size := I4.lt
  have lt_I5 : @LT.lt Nat _ p_ h0.size := I5.lt
  have lt_I6 : @LT.lt Nat _ q_ h0.size := I6.lt
  have lt_I7 : @LT.lt Nat _ q_ h0.size := I7.lt
  have lt_I8 : @LT.lt Nat _ q_ h0.size := I8.lt
  have lt_I9 : @LT.lt Nat _ q_ h0.size := I9.lt
  have lt_I10 : @LT.lt Nat _ ax h0.size := I10.lt
  have lt_I11 : @LT.lt Nat _ ax h0.size := I11.lt
  have lt_I12 : @LT.lt Nat _ ax h0.size := I12.lt
  have lt_I13 : @LT.lt Nat _ bx h0.size := I13.lt
  have lt_I14 : @LT.lt Nat _ ay h0.size := I14.lt
  have lt_I15 : @LT.lt Nat _ ay h0.size := I15.lt
  have lt_I16 : @LT.lt Nat _ ay h0.size := I16.lt
  have lt_I17 : @LT.lt Nat _ by_ h0.size := I17.lt
  obtain ⟨T1, X1, e1, st1⟩ := instY X0 hx hZ hown (hw _ (List.mem_of_getElem? (i := 50) rfl)) e0 (Ins.self I6) (g := (mkF m 1 #[.val (.ref p_), .val (.ref q_), .unset] [(.ref q_)])) rfl rfl (Jvm.hb hby d_prog_9_method_5_1)
  obtain ⟨T2, X2, e2, st2⟩ := castY X1 hx hZ hown (hw _ (List.mem_of_getElem? (i := 50) rfl)) e1 (Ins.self I6) (g := (mkF m 10 #[.val (.ref p_), .val (.ref q_), .unset] [(.ref q_)])) rfl rfl (Jvm.hb hby d_prog_9_method_5_10)
  obtain ⟨T3, X3, e3, st3⟩ := getF X2 hx hZ hown (host := "") (Or.inl (hw _ (List.mem_of_getElem? (i := 39) rfl))) Via.refl e2 I3 (g := (mkF m 15 #[.val (.ref p_), .val (.ref q_), .val (.ref q_)] [(.ref p_)])) rfl rfl (Jvm.hb hby d_prog_9_method_5_15)
  obtain ⟨T4, X4, e4, st4⟩ := getF X3 hx hZ hown (host := "") (Or.inl (hw _ (List.mem_of_getElem? (i := 39) rfl))) Via.refl e3 I7 (g := (mkF m 19 #[.val (.ref p_), .val (.ref q_), .val (.ref q_)] [(.ref q_), (.ref ax)])) rfl rfl (Jvm.hb hby d_prog_9_method_5_19)
  have Zc5 : n0 ≤ h0.size := by omega
  obtain ⟨cq6, kq6, q6a, q6b, q6c⟩ := isOf hZ e4 I10
  obtain ⟨_, _, ⟨T6, L6, k6, n6⟩, -, X6, ⟨Lc6, hQ6, l6, y6, z6⟩, st6⟩ := X4.virtualBack hx (y := (⟨"java/lang/String", "equals", "(Ljava/lang/Object;)Z"⟩ : MethodName)) (z := (⟨"java/lang/String", "equals", "(Ljava/lang/Object;)Z"⟩ : MethodName)) hown (mvT hZ (hw _ (List.mem_of_getElem? (i := 52) rfl))) (mvT hZ (hw _ (List.mem_of_getElem? (i := 53) rfl))) (notFace_of_selects (args := #[]) (mvT hZ (hw _ (List.mem_of_getElem? (i := 55) rfl)))) (mvT hZ (hw _ (List.mem_of_getElem? (i := 55) rfl))) (mvT hZ (hw _ (List.mem_of_getElem? (i := 54) rfl))) (by decide) (backOf (W := 0) (rmSEq l Z a0 hw [] ax ay cst bx kx cs by_ ky ds h0 n0 Zc5 I1 OX (hcst : ¬ (cst = (0 : Int32))) I10 I11 I12 I13 I14 I15 I16 I17 (hne : ¬ (ax = ay)) (hchc : own_chs cs) (hchd : own_chs ds) (hbc : cs.length ≤ 3) (hbd : ds.length ≤ 3)) hZ (hw _ (List.mem_of_getElem? (i := 56) rfl)) (hw _ (List.mem_of_getElem? (i := 6) rfl)) (by decide) (by decide)) q6a q6c (g := (mkF m 22 #[.val (.ref p_), .val (.ref q_), .val (.ref q_)] [(.ref ay), (.ref ax)])) rfl (by rw [hml]; rfl) (Steps.refl _) (argsL := [(.ref ay)]) (rest := []) (lenOf pd__Ljava_lang_Object__Z rfl) rfl (by show 2 * 0 + _ ≤ _; exact Nat.le_of_eq rfl) (Jvm.hb hby d_prog_9_method_5_22) (fun _ _ => ⟨rfl, e4, (by decide : 0 + 0 ≤ _), (by decide : 0 + 0 ≤ _)⟩)
  dsimp only [Pt.U, Pt.locs, Pt.cells, Pt.slots] at X6 l6 y6 z6 st6 hQ6
  subst l6 y6 z6
  obtain ⟨rfl, N6q, e6⟩ := hQ6
  have N6 := Fr.app N0 N6q
  have s7 : ∀ t_, Steps p.tables e below (T6.setTop (mkF m 25 #[.val (.ref p_), .val (.ref q_), .val (.ref q_)] [(.int (if cs = ds then (1 : Int32) else (0 : Int32)))])) t_ → Steps p.tables e below (s₁.setTop (entryFrame m #[(.ref p_), (.ref q_)] 3)) t_ := fun t_ k_ => pre0 t_ (by
    show Steps p.tables e below (s₁.setTop (mkF m 0 #[.val (.ref p_), .val (.ref q_), .unset] [])) t_
    refine XS.aloadN X0.here hx rfl (Jvm.hb hby d_prog_9_method_5_0) rfl rfl ?_
    refine st1 _ ?_
    show Steps p.tables e below (T1.setTop (mkF m 4 #[.val (.ref p_), .val (.ref q_), .unset] [(.int (1 : Int32))])) _
    refine XS.ifYes X1.here hx rfl (pc0 := 4) (pc' := 9) rfl (Jvm.hb hby d_prog_9_method_5_4) rfl ((if0 _ _).trans (feq (by decide : ¬ ((1 : Int32) = (0 : Int32)))).2) (by decide) (by decide) ?_
    show Steps p.tables e below (T1.setTop (mkF m 9 #[.val (.ref p_), .val (.ref q_), .unset] [])) _
    refine XS.aloadN X1.here hx rfl (Jvm.hb hby d_prog_9_method_5_9) rfl rfl ?_
    refine st2 _ ?_
    show Steps p.tables e below (T2.setTop (mkF m 13 #[.val (.ref p_), .val (.ref q_), .unset] [(.ref q_)])) _
    refine XS.astoreN X2.here hx rfl (Jvm.hb hby d_prog_9_method_5_13) rfl rfl (l' := #[.val (.ref p_), .val (.ref q_), .val (.ref q_)]) rfl ?_
    refine XS.aloadN X2.here hx rfl (Jvm.hb hby d_prog_9_method_5_14) rfl rfl ?_
    refine st3 _ ?_
    show Steps p.tables e below (T3.setTop (mkF m 18 #[.val (.ref p_), .val (.ref q_), .val (.ref q_)] [(.ref ax)])) _
    refine XS.aloadN X3.here hx rfl (Jvm.hb hby d_prog_9_method_5_18) rfl rfl ?_
    refine st4 _ ?_
    show Steps p.tables e below (T4.setTop (mkF m 22 #[.val (.ref p_), .val (.ref q_), .val (.ref q_)] [(.ref ay), (.ref ax)])) _
    refine st6.trans ?_
    show Steps p.tables e below (T6.setTop (mkF m 25 #[.val (.ref p_), .val (.ref q_), .val (.ref q_)] [(.int (if cs = ds then (1 : Int32) else (0 : Int32)))])) _
    show Steps p.tables e below (T6.setTop (mkF m 25 #[.val (.ref p_), .val (.ref q_), .val (.ref q_)] [(.int (if cs = ds then (1 : Int32) else (0 : Int32)))])) t_
    exact k_)
  by_cases h8 : cs = ds
  · have s9 : ∀ t_, Steps p.tables e below (T6.setTop (mkF m 25 #[.val (.ref p_), .val (.ref q_), .val (.ref q_)] [(.int (1 : Int32))])) t_ → Steps p.tables e below (s₁.setTop (entryFrame m #[(.ref p_), (.ref q_)] 3)) t_ := fun t_ k_ => s7 t_ (castTop (by simp only [if_pos h8]) k_)
    obtain ⟨T10, X10, e10, st10⟩ := getF X6 hx hZ hown (host := "") (Or.inl (hw _ (List.mem_of_getElem? (i := 41) rfl))) Via.refl e6 I4 (g := (mkF m 29 #[.val (.ref p_), .val (.ref q_), .val (.ref q_)] [(.ref p_)])) rfl rfl (Jvm.hb hby d_prog_9_method_5_29)
    obtain ⟨T11, X11, e11, st11⟩ := getF X10 hx hZ hown (host := "") (Or.inl (hw _ (List.mem_of_getElem? (i := 41) rfl))) Via.refl e10 I8 (g := (mkF m 33 #[.val (.ref p_), .val (.ref q_), .val (.ref q_)] [(.ref q_), (.int lx)])) rfl rfl (Jvm.hb hby d_prog_9_method_5_33)
    have s12 : ∀ t_, Steps p.tables e below (T11.setTop (mkF m 36 #[.val (.ref p_), .val (.ref q_), .val (.ref q_)] [(.int ly), (.int lx)])) t_ → Steps p.tables e below (s₁.setTop (entryFrame m #[(.ref p_), (.ref q_)] 3)) t_ := fun t_ k_ => s9 t_ (by
      show Steps p.tables e below (T6.setTop (mkF m 25 #[.val (.ref p_), .val (.ref q_), .val (.ref q_)] [(.int (1 : Int32))])) t_
      refine XS.ifNo X6.here hx rfl (Jvm.hb hby d_prog_9_method_5_25) rfl ((if0 _ _).trans (feq (by decide : ¬ ((1 : Int32) = (0 : Int32)))).1) ?_
      show Steps p.tables e below (T6.setTop (mkF m 28 #[.val (.ref p_), .val (.ref q_), .val (.ref q_)] [])) _
      refine XS.aloadN X6.here hx rfl (Jvm.hb hby d_prog_9_method_5_28) rfl rfl ?_
      refine st10 _ ?_
      show Steps p.tables e below (T10.setTop (mkF m 32 #[.val (.ref p_), .val (.ref q_), .val (.ref q_)] [(.int lx)])) _
      refine XS.aloadN X10.here hx rfl (Jvm.hb hby d_prog_9_method_5_32) rfl rfl ?_
      refine st11 _ ?_
      show Steps p.tables e below (T11.setTop (mkF m 36 #[.val (.ref p_), .val (.ref q_), .val (.ref q_)] [(.int ly), (.int lx)])) _
      show Steps p.tables e below (T11.setTop (mkF m 36 #[.val (.ref p_), .val (.ref q_), .val (.ref q_)] [(.int ly), (.int lx)])) t_
      exact k_)
    by_cases h13 : lx = ly
    · obtain ⟨T14, X14, e14, st14⟩ := getF X11 hx hZ hown (host := "") (Or.inl (hw _ (List.mem_of_getElem? (i := 43) rfl))) Via.refl e11 I5 (g := (mkF m 40 #[.val (.ref p_), .val (.ref q_), .val (.ref q_)] [(.ref p_)])) rfl rfl (Jvm.hb hby d_prog_9_method_5_40)
      obtain ⟨T15, X15, e15, st15⟩ := getF X14 hx hZ hown (host := "") (Or.inl (hw _ (List.mem_of_getElem? (i := 43) rfl))) Via.refl e14 I9 (g := (mkF m 44 #[.val (.ref p_), .val (.ref q_), .val (.ref q_)] [(.ref q_), (.int mx)])) rfl rfl (Jvm.hb hby d_prog_9_method_5_44)
      have s16 : ∀ t_, Steps p.tables e below (T15.setTop (mkF m 47 #[.val (.ref p_), .val (.ref q_), .val (.ref q_)] [(.int my), (.int mx)])) t_ → Steps p.tables e below (s₁.setTop (entryFrame m #[(.ref p_), (.ref q_)] 3)) t_ := fun t_ k_ => s12 t_ (by
        show Steps p.tables e below (T11.setTop (mkF m 36 #[.val (.ref p_), .val (.ref q_), .val (.ref q_)] [(.int ly), (.int lx)])) t_
        refine XS.icmpNo X11.here hx rfl (Jvm.hb hby d_prog_9_method_5_36) rfl (teq h13).2 ?_
        show Steps p.tables e below (T11.setTop (mkF m 39 #[.val (.ref p_), .val (.ref q_), .val (.ref q_)] [])) _
        refine XS.aloadN X11.here hx rfl (Jvm.hb hby d_prog_9_method_5_39) rfl rfl ?_
        refine st14 _ ?_
        show Steps p.tables e below (T14.setTop (mkF m 43 #[.val (.ref p_), .val (.ref q_), .val (.ref q_)] [(.int mx)])) _
        refine XS.aloadN X14.here hx rfl (Jvm.hb hby d_prog_9_method_5_43) rfl rfl ?_
        refine st15 _ ?_
        show Steps p.tables e below (T15.setTop (mkF m 47 #[.val (.ref p_), .val (.ref q_), .val (.ref q_)] [(.int my), (.int mx)])) _
        show Steps p.tables e below (T15.setTop (mkF m 47 #[.val (.ref p_), .val (.ref q_), .val (.ref q_)] [(.int my), (.int mx)])) t_
        exact k_)
      by_cases h17 : mx = my
      · have s18 : ∀ t_, Steps p.tables e below (T15.setTop (mkF m 55 #[.val (.ref p_), .val (.ref q_), .val (.ref q_)] [(.int (1 : Int32))])) t_ → Steps p.tables e below (s₁.setTop (entryFrame m #[(.ref p_), (.ref q_)] 3)) t_ := fun t_ k_ => s16 t_ (by
          show Steps p.tables e below (T15.setTop (mkF m 47 #[.val (.ref p_), .val (.ref q_), .val (.ref q_)] [(.int my), (.int mx)])) t_
          refine XS.icmpNo X15.here hx rfl (Jvm.hb hby d_prog_9_method_5_47) rfl (teq h17).2 ?_
          show Steps p.tables e below (T15.setTop (mkF m 50 #[.val (.ref p_), .val (.ref q_), .val (.ref q_)] [])) _
          refine XS.iconst X15.here hx rfl (Jvm.hb hby d_prog_9_method_5_50) ?_
          refine XS.goto X15.here hx rfl (pc0 := 51) (pc' := 55) rfl (Jvm.hb hby d_prog_9_method_5_51) (by decide) (by decide) ?_
          show Steps p.tables e below (T15.setTop (mkF m 55 #[.val (.ref p_), .val (.ref q_), .val (.ref q_)] [(.int (1 : Int32))])) t_
          exact k_)
        obtain ⟨fs, hr, hrun, hended, hW, hsame⟩ := X15.leave (v := some (.int (1 : Int32))) (fun h => by rw [Bd.returns] at h; cases h)
        refine ⟨_, _, s18 _ ?_, hrun, hended, _, _, rfl, ?_, ⟨_, rfl⟩, hW, hsame.mono (by decide) (by decide)⟩
        · show Steps p.tables e below (T15.setTop (mkF m 55 #[.val (.ref p_), .val (.ref q_), .val (.ref q_)] [(.int (1 : Int32))])) _
          exact retN X15 hx (t := .boolean) Bd.returns (by simp) (Jvm.hb hby d_prog_9_method_5_55) hr
        · show Q_rmEqO Z _ _ _ _ _ _ _ _ _ _ _ _ _ _ _ h0 n0 _ T15.heap _
          rw [e15]
          exact ⟨(by first | rfl | (simp only [if_pos h8, if_pos h13, if_pos h17]; done) | (simp only [if_pos h8, if_pos h13, if_pos h17]; rfl) | (simp only [if_pos h8, if_pos h13, if_pos h17, own_narb]; done)), N6, rfl⟩
      · have s19 : ∀ t_, Steps p.tables e below (T15.setTop (mkF m 55 #[.val (.ref p_), .val (.ref q_), .val (.ref q_)] [(.int (0 : Int32))])) t_ → Steps p.tables e below (s₁.setTop (entryFrame m #[(.ref p_), (.ref q_)] 3)) t_ := fun t_ k_ => s16 t_ (by
          show Steps p.tables e below (T15.setTop (mkF m 47 #[.val (.ref p_), .val (.ref q_), .val (.ref q_)] [(.int my), (.int mx)])) t_
          refine XS.icmpYes X15.here hx rfl (pc0 := 47) (pc' := 54) rfl (Jvm.hb hby d_prog_9_method_5_47) rfl (feq h17).2 (by decide) (by decide) ?_
          show Steps p.tables e below (T15.setTop (mkF m 54 #[.val (.ref p_), .val (.ref q_), .val (.ref q_)] [])) _
          refine XS.iconst X15.here hx rfl (Jvm.hb hby d_prog_9_method_5_54) ?_
          show Steps p.tables e below (T15.setTop (mkF m 55 #[.val (.ref p_), .val (.ref q_), .val (.ref q_)] [(.int (0 : Int32))])) t_
          exact k_)
        obtain ⟨fs, hr, hrun, hended, hW, hsame⟩ := X15.leave (v := some (.int (0 : Int32))) (fun h => by rw [Bd.returns] at h; cases h)
        refine ⟨_, _, s19 _ ?_, hrun, hended, _, _, rfl, ?_, ⟨_, rfl⟩, hW, hsame.mono (by decide) (by decide)⟩
        · show Steps p.tables e below (T15.setTop (mkF m 55 #[.val (.ref p_), .val (.ref q_), .val (.ref q_)] [(.int (0 : Int32))])) _
          exact retN X15 hx (t := .boolean) Bd.returns (by simp) (Jvm.hb hby d_prog_9_method_5_55) hr
        · show Q_rmEqO Z _ _ _ _ _ _ _ _ _ _ _ _ _ _ _ h0 n0 _ T15.heap _
          rw [e15]
          exact ⟨(by first | rfl | (simp only [if_pos h8, if_pos h13, if_neg h17]; done) | (simp only [if_pos h8, if_pos h13, if_neg h17]; rfl) | (simp only [if_pos h8, if_pos h13, if_neg h17, own_narb]; done)), N6, rfl⟩
    · have s20 : ∀ t_, Steps p.tables e below (T11.setTop (mkF m 55 #[.val (.ref p_), .val (.ref q_), .val (.ref q_)] [(.int (0 : Int32))])) t_ → Steps p.tables e below (s₁.setTop (entryFrame m #[(.ref p_), (.ref q_)] 3)) t_ := fun t_ k_ => s12 t_ (by
        show Steps p.tables e below (T11.setTop (mkF m 36 #[.val (.ref p_), .val (.ref q_), .val (.ref q_)] [(.int ly), (.int lx)])) t_
        refine XS.icmpYes X11.here hx rfl (pc0 := 36) (pc' := 54) rfl (Jvm.hb hby d_prog_9_method_5_36) rfl (feq h13).2 (by decide) (by decide) ?_
        show Steps p.tables e below (T11.setTop (mkF m 54 #[.val (.ref p_), .val (.ref q_), .val (.ref q_)] [])) _
        refine XS.iconst X11.here hx rfl (Jvm.hb hby d_prog_9_method_5_54) ?_
        show Steps p.tables e below (T11.setTop (mkF m 55 #[.val (.ref p_), .val (.ref q_), .val (.ref q_)] [(.int (0 : Int32))])) t_
        exact k_)
      obtain ⟨fs, hr, hrun, hended, hW, hsame⟩ := X11.leave (v := some (.int (0 : Int32))) (fun h => by rw [Bd.returns] at h; cases h)
      refine ⟨_, _, s20 _ ?_, hrun, hended, _, _, rfl, ?_, ⟨_, rfl⟩, hW, hsame.mono (by decide) (by decide)⟩
      · show Steps p.tables e below (T11.setTop (mkF m 55 #[.val (.ref p_), .val (.ref q_), .val (.ref q_)] [(.int (0 : Int32))])) _
        exact retN X11 hx (t := .boolean) Bd.returns (by simp) (Jvm.hb hby d_prog_9_method_5_55) hr
      · show Q_rmEqO Z _ _ _ _ _ _ _ _ _ _ _ _ _ _ _ h0 n0 _ T11.heap _
        rw [e11]
        exact ⟨(by first | rfl | (simp only [if_pos h8, if_neg h13]; done) | (simp only [if_pos h8, if_neg h13]; rfl) | (simp only [if_pos h8, if_neg h13, own_narb]; done)), N6, rfl⟩
  · have s21 : ∀ t_, Steps p.tables e below (T6.setTop (mkF m 25 #[.val (.ref p_), .val (.ref q_), .val (.ref q_)] [(.int (0 : Int32))])) t_ → Steps p.tables e below (s₁.setTop (entryFrame m #[(.ref p_), (.ref q_)] 3)) t_ := fun t_ k_ => s7 t_ (castTop (by simp only [if_neg h8]) k_)
    have s22 : ∀ t_, Steps p.tables e below (T6.setTop (mkF m 55 #[.val (.ref p_), .val (.ref q_), .val (.ref q_)] [(.int (0 : Int32))])) t_ → Steps p.tables e below (s₁.setTop (entryFrame m #[(.ref p_), (.ref q_)] 3)) t_ := fun t_ k_ => s21 t_ (by
      show Steps p.tables e below (T6.setTop (mkF m 25 #[.val (.ref p_), .val (.ref q_), .val (.ref q_)] [(.int (0 : Int32))])) t_
      refine XS.ifYes X6.here hx rfl (pc0 := 25) (pc' := 54) rfl (Jvm.hb hby d_prog_9_method_5_25) rfl ((if0 _ _).trans (teq (rfl : (0 : Int32) = (0 : Int32))).1) (by decide) (by decide) ?_
      show Steps p.tables e below (T6.setTop (mkF m 54 #[.val (.ref p_), .val (.ref q_), .val (.ref q_)] [])) _
      refine XS.iconst X6.here hx rfl (Jvm.hb hby d_prog_9_method_5_54) ?_
      show Steps p.tables e below (T6.setTop (mkF m 55 #[.val (.ref p_), .val (.ref q_), .val (.ref q_)] [(.int (0 : Int32))])) t_
      exact k_)
    obtain ⟨fs, hr, hrun, hended, hW, hsame⟩ := X6.leave (v := some (.int (0 : Int32))) (fun h => by rw [Bd.returns] at h; cases h)
    refine ⟨_, _, s22 _ ?_, hrun, hended, _, _, rfl, ?_, ⟨_, rfl⟩, hW, hsame.mono (by decide) (by decide)⟩
    · show Steps p.tables e below (T6.setTop (mkF m 55 #[.val (.ref p_), .val (.ref q_), .val (.ref q_)] [(.int (0 : Int32))])) _
      exact retN X6 hx (t := .boolean) Bd.returns (by simp) (Jvm.hb hby d_prog_9_method_5_55) hr
    · show Q_rmEqO Z _ _ _ _ _ _ _ _ _ _ _ _ _ _ _ h0 n0 _ T6.heap _
      rw [e6]
      exact ⟨(by first | rfl | (simp only [if_neg h8]; done) | (simp only [if_neg h8]; rfl) | (simp only [if_neg h8, own_narb]; done)), N6, rfl⟩
theorem ef_rmEqS (m : MethodId) (x0 : Addr) (x1 : Addr) : entryFrame m #[(.ref x0), (.ref x1)] 3 = mkF m 0 #[.val (.ref x0), .val (.ref x1), .unset] [] := by first | (simp [entryFrame, mkF, argsToLocals, Value.category]; done) | rfl
def Q_rmEqS (Z : State) (p_ : Addr) (ax : Addr) (lx : Int32) (mx : Int32) (h0 : Heap) (n0 : Nat) (v : Option Value) (h : Heap) (L : List Loc) : Prop := (v = some (.int (1 : Int32))) ∧ (Fr n0 L) ∧ (h = h0)
set_option maxRecDepth 65536 in
set_option maxHeartbeats 40000000 in
theorem rmEqS (l : Launch) (Z : State) (a0 : Array Value) (hw : ∀ d ∈ tables_1, d.before a0 Z = true) (ws : List Jvm.Cond) (p_ : Addr) (ax : Addr) (lx : Int32) (mx : Int32) (h0 : Heap) (n0 : Nat) (Z0 : n0 ≤ h0.size) (I1 : Exa Z h0 p_ "com/example/coyote_hill/coyotehill/LeaseRequest") (I2 : Fld Z h0 p_ "com/example/coyote_hill/coyotehill/LeaseRequest" "_worker" "Ljava/lang/String;" (.ref ax)) (I3 : Fld Z h0 p_ "com/example/coyote_hill/coyotehill/LeaseRequest" "_leaseMs" "I" (.int lx)) (I4 : Fld Z h0 p_ "com/example/coyote_hill/coyotehill/LeaseRequest" "_maxItems" "I" (.int mx)) (I5 : Exa Z h0 ax "java/lang/String") :
    MetFree l (⟨"com/example/coyote_hill/coyotehill/LeaseRequest", "equals", "(Ljava/lang/Object;)Z"⟩ : MethodName) (head1 (Jvm.Cond.code (⟨"com/example/coyote_hill/coyotehill/LeaseRequest", "equals", "(Ljava/lang/Object;)Z"⟩ : MethodName) prog_9_method_5_code 3 (some .boolean) :: ws) ({ frames := 1, cells := 0, slots := 0, locals := 14 } : Room)) (fun ar_ U => ar_ = #[(.ref p_), (.ref p_)] ∧ Z.Warmed39 U.vm ∧ U.heap = h0) (fun _ _ _ _ _ => True) (fun _ U o U' => ∃ v L, o = .returned v ∧ Q_rmEqS Z p_ ax lx mx h0 n0 v U'.heap L ∧ FrameEnd U o U' L ({ frames := 1, cells := 0, slots := 0, locals := 14 } : Room).cells ({ frames := 1, cells := 0, slots := 0, locals := 14 } : Room).slots) := by
  refine MetFree.of_bodySF (plainFor_of_name pn_com_example_coyote_hill_coyotehill_LeaseRequest) hisR ?_
  intro p e s m args below meth c s₁ Bd hml0 hP hK
  obtain ⟨rfl, hZ, hh⟩ := hP
  have hx := Bd.exec
  have hby := Bd.bytes
  have hml : c.maxLocals = 3 := hml0
  have hown : s.vm.findClass "com/example/coyote_hill/coyotehill/LeaseRequest" = some m.cls := findClass_of_methodNamed Bd.named
  have hnm := (name_of_methodNamed Bd.named Bd.method).1
  have X0 : Stand p l e ({ frames := 1, cells := 0, slots := 0, locals := 14 } : Room) s m #[(.ref p_), (.ref p_)] below meth c s₁ [] 0 0 := Stand.of_body Bd
  have e0 : s₁.heap = h0 := by rw [← hh, Bd.state]; rfl
  have N0 := Fr.nil n0
  have pre0 : ∀ t_, Steps p.tables e below (s₁.setTop (mkF m 0 #[.val (.ref p_), .val (.ref p_), .unset] [])) t_ → Steps p.tables e below (s₁.setTop (entryFrame m #[(.ref p_), (.ref p_)] 3)) t_ := fun t_ k_ => castTop (ef_rmEqS m p_ p_) k_
  have lt_I1 : @LT.lt Nat _ p_ h0.size := I1.lt
  have lt_I2 : @LT.lt Nat _ p_ h0.size := I2.lt
  have lt_I3 : @LT.lt Nat _ p_ h0.size := I3.lt
  have lt_I4 : @LT.lt Nat _ p_ h0.size := I4.lt
  have lt_I5 : @LT.lt Nat _ ax h0.size := I5.lt
  obtain ⟨T1, X1, e1, st1⟩ := instY X0 hx hZ hown (hw _ (List.mem_of_getElem? (i := 50) rfl)) e0 (Ins.self I1) (g := (mkF m 1 #[.val (.ref p_), .val (.ref p_), .unset] [(.ref p_)])) rfl rfl (Jvm.hb hby d_prog_9_method_5_1)
  obtain ⟨T2, X2, e2, st2⟩ := castY X1 hx hZ hown (hw _ (List.mem_of_getElem? (i := 50) rfl)) e1 (Ins.self I1) (g := (mkF m 10 #[.val (.ref p_), .val (.ref p_), .unset] [(.ref p_)])) rfl rfl (Jvm.hb hby d_prog_9_method_5_10)
  obtain ⟨T3, X3, e3, st3⟩ := getF X2 hx hZ hown (host := "") (Or.inl (hw _ (List.mem_of_getElem? (i := 39) rfl))) Via.refl e2 I2 (g := (mkF m 15 #[.val (.ref p_), .val (.ref p_), .val (.ref p_)] [(.ref p_)])) rfl rfl (Jvm.hb hby d_prog_9_method_5_15)
  obtain ⟨T4, X4, e4, st4⟩ := getF X3 hx hZ hown (host := "") (Or.inl (hw _ (List.mem_of_getElem? (i := 39) rfl))) Via.refl e3 I2 (g := (mkF m 19 #[.val (.ref p_), .val (.ref p_), .val (.ref p_)] [(.ref p_), (.ref ax)])) rfl rfl (Jvm.hb hby d_prog_9_method_5_19)
  have Zc5 : n0 ≤ h0.size := by omega
  obtain ⟨cq6, kq6, q6a, q6b, q6c⟩ := isOf hZ e4 I5
  obtain ⟨_, _, ⟨T6, L6, k6, n6⟩, -, X6, ⟨Lc6, hQ6, l6, y6, z6⟩, st6⟩ := X4.virtualBack hx (y := (⟨"java/lang/String", "equals", "(Ljava/lang/Object;)Z"⟩ : MethodName)) (z := (⟨"java/lang/String", "equals", "(Ljava/lang/Object;)Z"⟩ : MethodName)) hown (mvT hZ (hw _ (List.mem_of_getElem? (i := 52) rfl))) (mvT hZ (hw _ (List.mem_of_getElem? (i := 53) rfl))) (notFace_of_selects (args := #[]) (mvT hZ (hw _ (List.mem_of_getElem? (i := 55) rfl)))) (mvT hZ (hw _ (List.mem_of_getElem? (i := 55) rfl))) (mvT hZ (hw _ (List.mem_of_getElem? (i := 54) rfl))) (by decide) (backOf (W := 0) (rmSEqS l Z a0 hw [] ax h0 n0 Zc5) hZ (hw _ (List.mem_of_getElem? (i := 56) rfl)) (hw _ (List.mem_of_getElem? (i := 6) rfl)) (by decide) (by decide)) q6a q6c (g := (mkF m 22 #[.val (.ref p_), .val (.ref p_), .val (.ref p_)] [(.ref ax), (.ref ax)])) rfl (by rw [hml]; rfl) (Steps.refl _) (argsL := [(.ref ax)]) (rest := []) (lenOf pd__Ljava_lang_Object__Z rfl) rfl (by show 2 * 0 + _ ≤ _; exact Nat.le_of_eq rfl) (Jvm.hb hby d_prog_9_method_5_22) (fun _ _ => ⟨rfl, e4, (by decide : 0 + 0 ≤ _), (by decide : 0 + 0 ≤ _)⟩)
  dsimp only [Pt.U, Pt.locs, Pt.cells, Pt.slots] at X6 l6 y6 z6 st6 hQ6
  subst l6 y6 z6
  obtain ⟨rfl, N6q, e6⟩ := hQ6
  have N6 := Fr.app N0 N6q
  obtain ⟨T7, X7, e7, st7⟩ := getF X6 hx hZ hown (host := "") (Or.inl (hw _ (List.mem_of_getElem? (i := 41) rfl))) Via.refl e6 I3 (g := (mkF m 29 #[.val (.ref p_), .val (.ref p_), .val (.ref p_)] [(.ref p_)])) rfl rfl (Jvm.hb hby d_prog_9_method_5_29)
  obtain ⟨T8, X8, e8, st8⟩ := getF X7 hx hZ hown (host := "") (Or.inl (hw _ (List.mem_of_getElem? (i := 41) rfl))) Via.refl e7 I3 (g := (mkF m 33 #[.val (.ref p_), .val (.ref p_), .val (.ref p_)] [(.ref p_), (.int lx)])) rfl rfl (Jvm.hb hby d_prog_9_method_5_33)
  obtain ⟨T9, X9, e9, st9⟩ := getF X8 hx hZ hown (host := "") (Or.inl (hw _ (List.mem_of_getElem? (i := 43) rfl))) Via.refl e8 I4 (g := (mkF m 40 #[.val (.ref p_), .val (.ref p_), .val (.ref p_)] [(.ref p_)])) rfl rfl (Jvm.hb hby d_prog_9_method_5_40)
  obtain ⟨T10, X10, e10, st10⟩ := getF X9 hx hZ hown (host := "") (Or.inl (hw _ (List.mem_of_getElem? (i := 43) rfl))) Via.refl e9 I4 (g := (mkF m 44 #[.val (.ref p_), .val (.ref p_), .val (.ref p_)] [(.ref p_), (.int mx)])) rfl rfl (Jvm.hb hby d_prog_9_method_5_44)
  have s11 : ∀ t_, Steps p.tables e below (T10.setTop (mkF m 55 #[.val (.ref p_), .val (.ref p_), .val (.ref p_)] [(.int (1 : Int32))])) t_ → Steps p.tables e below (s₁.setTop (entryFrame m #[(.ref p_), (.ref p_)] 3)) t_ := fun t_ k_ => pre0 t_ (by
    show Steps p.tables e below (s₁.setTop (mkF m 0 #[.val (.ref p_), .val (.ref p_), .unset] [])) t_
    refine XS.aloadN X0.here hx rfl (Jvm.hb hby d_prog_9_method_5_0) rfl rfl ?_
    refine st1 _ ?_
    show Steps p.tables e below (T1.setTop (mkF m 4 #[.val (.ref p_), .val (.ref p_), .unset] [(.int (1 : Int32))])) _
    refine XS.ifYes X1.here hx rfl (pc0 := 4) (pc' := 9) rfl (Jvm.hb hby d_prog_9_method_5_4) rfl ((if0 _ _).trans (feq (by decide : ¬ ((1 : Int32) = (0 : Int32)))).2) (by decide) (by decide) ?_
    show Steps p.tables e below (T1.setTop (mkF m 9 #[.val (.ref p_), .val (.ref p_), .unset] [])) _
    refine XS.aloadN X1.here hx rfl (Jvm.hb hby d_prog_9_method_5_9) rfl rfl ?_
    refine st2 _ ?_
    show Steps p.tables e below (T2.setTop (mkF m 13 #[.val (.ref p_), .val (.ref p_), .unset] [(.ref p_)])) _
    refine XS.astoreN X2.here hx rfl (Jvm.hb hby d_prog_9_method_5_13) rfl rfl (l' := #[.val (.ref p_), .val (.ref p_), .val (.ref p_)]) rfl ?_
    refine XS.aloadN X2.here hx rfl (Jvm.hb hby d_prog_9_method_5_14) rfl rfl ?_
    refine st3 _ ?_
    show Steps p.tables e below (T3.setTop (mkF m 18 #[.val (.ref p_), .val (.ref p_), .val (.ref p_)] [(.ref ax)])) _
    refine XS.aloadN X3.here hx rfl (Jvm.hb hby d_prog_9_method_5_18) rfl rfl ?_
    refine st4 _ ?_
    show Steps p.tables e below (T4.setTop (mkF m 22 #[.val (.ref p_), .val (.ref p_), .val (.ref p_)] [(.ref ax), (.ref ax)])) _
    refine st6.trans ?_
    show Steps p.tables e below (T6.setTop (mkF m 25 #[.val (.ref p_), .val (.ref p_), .val (.ref p_)] [(.int (1 : Int32))])) _
    refine XS.ifNo X6.here hx rfl (Jvm.hb hby d_prog_9_method_5_25) rfl ((if0 _ _).trans (feq (by decide : ¬ ((1 : Int32) = (0 : Int32)))).1) ?_
    show Steps p.tables e below (T6.setTop (mkF m 28 #[.val (.ref p_), .val (.ref p_), .val (.ref p_)] [])) _
    refine XS.aloadN X6.here hx rfl (Jvm.hb hby d_prog_9_method_5_28) rfl rfl ?_
    refine st7 _ ?_
    show Steps p.tables e below (T7.setTop (mkF m 32 #[.val (.ref p_), .val (.ref p_), .val (.ref p_)] [(.int lx)])) _
    refine XS.aloadN X7.here hx rfl (Jvm.hb hby d_prog_9_method_5_32) rfl rfl ?_
    refine st8 _ ?_
    show Steps p.tables e below (T8.setTop (mkF m 36 #[.val (.ref p_), .val (.ref p_), .val (.ref p_)] [(.int lx), (.int lx)])) _
    refine XS.icmpNo X8.here hx rfl (Jvm.hb hby d_prog_9_method_5_36) rfl (teq (rfl : lx = lx)).2 ?_
    show Steps p.tables e below (T8.setTop (mkF m 39 #[.val (.ref p_), .val (.ref p_), .val (.ref p_)] [])) _
    refine XS.aloadN X8.here hx rfl (Jvm.hb hby d_prog_9_method_5_39) rfl rfl ?_
    refine st9 _ ?_
    show Steps p.tables e below (T9.setTop (mkF m 43 #[.val (.ref p_), .val (.ref p_), .val (.ref p_)] [(.int mx)])) _
    refine XS.aloadN X9.here hx rfl (Jvm.hb hby d_prog_9_method_5_43) rfl rfl ?_
    refine st10 _ ?_
    show Steps p.tables e below (T10.setTop (mkF m 47 #[.val (.ref p_), .val (.ref p_), .val (.ref p_)] [(.int mx), (.int mx)])) _
    refine XS.icmpNo X10.here hx rfl (Jvm.hb hby d_prog_9_method_5_47) rfl (teq (rfl : mx = mx)).2 ?_
    show Steps p.tables e below (T10.setTop (mkF m 50 #[.val (.ref p_), .val (.ref p_), .val (.ref p_)] [])) _
    refine XS.iconst X10.here hx rfl (Jvm.hb hby d_prog_9_method_5_50) ?_
    refine XS.goto X10.here hx rfl (pc0 := 51) (pc' := 55) rfl (Jvm.hb hby d_prog_9_method_5_51) (by decide) (by decide) ?_
    show Steps p.tables e below (T10.setTop (mkF m 55 #[.val (.ref p_), .val (.ref p_), .val (.ref p_)] [(.int (1 : Int32))])) t_
    exact k_)
  obtain ⟨fs, hr, hrun, hended, hW, hsame⟩ := X10.leave (v := some (.int (1 : Int32))) (fun h => by rw [Bd.returns] at h; cases h)
  refine ⟨_, _, s11 _ ?_, hrun, hended, _, _, rfl, ?_, ⟨_, rfl⟩, hW, hsame.mono (by decide) (by decide)⟩
  · show Steps p.tables e below (T10.setTop (mkF m 55 #[.val (.ref p_), .val (.ref p_), .val (.ref p_)] [(.int (1 : Int32))])) _
    exact retN X10 hx (t := .boolean) Bd.returns (by simp) (Jvm.hb hby d_prog_9_method_5_55) hr
  · show Q_rmEqS Z _ _ _ _ h0 n0 _ T10.heap _
    rw [e10]
    exact ⟨rfl, N6, rfl⟩
theorem d_prog_9_method_5_7 : decode prog_9_method_5_code 7 = .ok (.iconst 0, 1) := by decide +kernel
theorem d_prog_9_method_5_8 : decode prog_9_method_5_code 8 = .ok (.ireturn, 1) := by decide +kernel
theorem ef_rmEqN (m : MethodId) (x0 : Addr) : entryFrame m #[(.ref x0), .null] 3 = mkF m 0 #[.val (.ref x0), .val .null, .unset] [] := by first | (simp [entryFrame, mkF, argsToLocals, Value.category]; done) | rfl
def Q_rmEqN (Z : State) (p_ : Addr) (h0 : Heap) (n0 : Nat) (v : Option Value) (h : Heap) (L : List Loc) : Prop := (v = some (.int (0 : Int32))) ∧ (Fr n0 L) ∧ (h = h0)
set_option maxRecDepth 65536 in
set_option maxHeartbeats 40000000 in
theorem rmEqN (l : Launch) (Z : State) (a0 : Array Value) (hw : ∀ d ∈ tables_1, d.before a0 Z = true) (ws : List Jvm.Cond) (p_ : Addr) (h0 : Heap) (n0 : Nat) (Z0 : n0 ≤ h0.size)  :
    MetFree l (⟨"com/example/coyote_hill/coyotehill/LeaseRequest", "equals", "(Ljava/lang/Object;)Z"⟩ : MethodName) (head1 (Jvm.Cond.code (⟨"com/example/coyote_hill/coyotehill/LeaseRequest", "equals", "(Ljava/lang/Object;)Z"⟩ : MethodName) prog_9_method_5_code 3 (some .boolean) :: ws) ({ frames := 0, cells := 0, slots := 0, locals := 0 } : Room)) (fun ar_ U => ar_ = #[(.ref p_), .null] ∧ Z.Warmed39 U.vm ∧ U.heap = h0) (fun _ _ _ _ _ => True) (fun _ U o U' => ∃ v L, o = .returned v ∧ Q_rmEqN Z p_ h0 n0 v U'.heap L ∧ FrameEnd U o U' L ({ frames := 0, cells := 0, slots := 0, locals := 0 } : Room).cells ({ frames := 0, cells := 0, slots := 0, locals := 0 } : Room).slots) := by
  refine MetFree.of_bodySF (plainFor_of_name pn_com_example_coyote_hill_coyotehill_LeaseRequest) hisR ?_
  intro p e s m args below meth c s₁ Bd hml0 hP hK
  obtain ⟨rfl, hZ, hh⟩ := hP
  have hx := Bd.exec
  have hby := Bd.bytes
  have hml : c.maxLocals = 3 := hml0
  have hown : s.vm.findClass "com/example/coyote_hill/coyotehill/LeaseRequest" = some m.cls := findClass_of_methodNamed Bd.named
  have hnm := (name_of_methodNamed Bd.named Bd.method).1
  have X0 : Stand p l e ({ frames := 0, cells := 0, slots := 0, locals := 0 } : Room) s m #[(.ref p_), .null] below meth c s₁ [] 0 0 := Stand.of_body Bd
  have e0 : s₁.heap = h0 := by rw [← hh, Bd.state]; rfl
  have N0 := Fr.nil n0
  have pre0 : ∀ t_, Steps p.tables e below (s₁.setTop (mkF m 0 #[.val (.ref p_), .val .null, .unset] [])) t_ → Steps p.tables e below (s₁.setTop (entryFrame m #[(.ref p_), .null] 3)) t_ := fun t_ k_ => castTop (ef_rmEqN m p_) k_
  have s1 : ∀ t_, Steps p.tables e below (s₁.setTop (mkF m 8 #[.val (.ref p_), .val .null, .unset] [(.int (0 : Int32))])) t_ → Steps p.tables e below (s₁.setTop (entryFrame m #[(.ref p_), .null] 3)) t_ := fun t_ k_ => pre0 t_ (by
    show Steps p.tables e below (s₁.setTop (mkF m 0 #[.val (.ref p_), .val .null, .unset] [])) t_
    refine XS.aloadN X0.here hx rfl (Jvm.hb hby d_prog_9_method_5_0) rfl rfl ?_
    refine X0.instanceofNull hx (g := (mkF m 1 #[.val (.ref p_), .val .null, .unset] [.null])) rfl rfl (Jvm.hb hby d_prog_9_method_5_1) _ ?_
    show Steps p.tables e below (s₁.setTop (mkF m 4 #[.val (.ref p_), .val .null, .unset] [(.int (0 : Int32))])) _
    refine XS.ifNo X0.here hx rfl (Jvm.hb hby d_prog_9_method_5_4) rfl ((if0 _ _).trans (teq (rfl : (0 : Int32) = (0 : Int32))).2) ?_
    show Steps p.tables e below (s₁.setTop (mkF m 7 #[.val (.ref p_), .val .null, .unset] [])) _
    refine XS.iconst X0.here hx rfl (Jvm.hb hby d_prog_9_method_5_7) ?_
    show Steps p.tables e below (s₁.setTop (mkF m 8 #[.val (.ref p_), .val .null, .unset] [(.int (0 : Int32))])) t_
    exact k_)
  obtain ⟨fs, hr, hrun, hended, hW, hsame⟩ := X0.leave (v := some (.int (0 : Int32))) (fun h => by rw [Bd.returns] at h; cases h)
  refine ⟨_, _, s1 _ ?_, hrun, hended, _, _, rfl, ?_, ⟨_, rfl⟩, hW, hsame.mono (by decide) (by decide)⟩
  · show Steps p.tables e below (s₁.setTop (mkF m 8 #[.val (.ref p_), .val .null, .unset] [(.int (0 : Int32))])) _
    exact retN X0 hx (t := .boolean) Bd.returns (by simp) (Jvm.hb hby d_prog_9_method_5_8) hr
  · show Q_rmEqN Z _ h0 n0 _ s₁.heap _
    rw [e0]
    exact ⟨rfl, N0, rfl⟩
theorem ef_rmEqX (m : MethodId) (x0 : Addr) (x1 : Addr) : entryFrame m #[(.ref x0), (.ref x1)] 3 = mkF m 0 #[.val (.ref x0), .val (.ref x1), .unset] [] := by first | (simp [entryFrame, mkF, argsToLocals, Value.category]; done) | rfl
def Q_rmEqX (Z : State) (p_ : Addr) (q_ : Addr) (h0 : Heap) (n0 : Nat) (v : Option Value) (h : Heap) (L : List Loc) : Prop := (v = some (.int (0 : Int32))) ∧ (Fr n0 L) ∧ (h = h0)
set_option maxRecDepth 65536 in
set_option maxHeartbeats 40000000 in
theorem rmEqX (l : Launch) (Z : State) (a0 : Array Value) (hw : ∀ d ∈ tables_1, d.before a0 Z = true) (ws : List Jvm.Cond) (p_ : Addr) (q_ : Addr) (h0 : Heap) (n0 : Nat) (Z0 : n0 ≤ h0.size) (I1 : Exa Z h0 q_ "java/lang/String") :
    MetFree l (⟨"com/example/coyote_hill/coyotehill/LeaseRequest", "equals", "(Ljava/lang/Object;)Z"⟩ : MethodName) (head1 (Jvm.Cond.code (⟨"com/example/coyote_hill/coyotehill/LeaseRequest", "equals", "(Ljava/lang/Object;)Z"⟩ : MethodName) prog_9_method_5_code 3 (some .boolean) :: ws) ({ frames := 0, cells := 0, slots := 0, locals := 0 } : Room)) (fun ar_ U => ar_ = #[(.ref p_), (.ref q_)] ∧ Z.Warmed39 U.vm ∧ U.heap = h0) (fun _ _ _ _ _ => True) (fun _ U o U' => ∃ v L, o = .returned v ∧ Q_rmEqX Z p_ q_ h0 n0 v U'.heap L ∧ FrameEnd U o U' L ({ frames := 0, cells := 0, slots := 0, locals := 0 } : Room).cells ({ frames := 0, cells := 0, slots := 0, locals := 0 } : Room).slots) := by
  refine MetFree.of_bodySF (plainFor_of_name pn_com_example_coyote_hill_coyotehill_LeaseRequest) hisR ?_
  intro p e s m args below meth c s₁ Bd hml0 hP hK
  obtain ⟨rfl, hZ, hh⟩ := hP
  have hx := Bd.exec
  have hby := Bd.bytes
  have hml : c.maxLocals = 3 := hml0
  have hown : s.vm.findClass "com/example/coyote_hill/coyotehill/LeaseRequest" = some m.cls := findClass_of_methodNamed Bd.named
  have hnm := (name_of_methodNamed Bd.named Bd.method).1
  have X0 : Stand p l e ({ frames := 0, cells := 0, slots := 0, locals := 0 } : Room) s m #[(.ref p_), (.ref q_)] below meth c s₁ [] 0 0 := Stand.of_body Bd
  have e0 : s₁.heap = h0 := by rw [← hh, Bd.state]; rfl
  have N0 := Fr.nil n0
  have pre0 : ∀ t_, Steps p.tables e below (s₁.setTop (mkF m 0 #[.val (.ref p_), .val (.ref q_), .unset] [])) t_ → Steps p.tables e below (s₁.setTop (entryFrame m #[(.ref p_), (.ref q_)] 3)) t_ := fun t_ k_ => castTop (ef_rmEqX m p_ q_) k_
  have lt_I1 : @LT.lt Nat _ q_ h0.size := I1.lt
  obtain ⟨T1, X1, e1, st1⟩ := instNo X0 hx hZ hown (hw _ (List.mem_of_getElem? (i := 50) rfl)) e0 I1 (own_NSno (hw _ (List.mem_of_getElem? (i := 63) rfl)) (hw _ (List.mem_of_getElem? (i := 27) rfl)) (NS.step (hw _ (List.mem_of_getElem? (i := 63) rfl)) (own_NSroot (hw _ (List.mem_of_getElem? (i := 64) rfl)) (hw _ (List.mem_of_getElem? (i := 27) rfl)) (by decide)) (by decide)) (by decide)) (g := (mkF m 1 #[.val (.ref p_), .val (.ref q_), .unset] [(.ref q_)])) rfl rfl (Jvm.hb hby d_prog_9_method_5_1)
  have s2 : ∀ t_, Steps p.tables e below (T1.setTop (mkF m 8 #[.val (.ref p_), .val (.ref q_), .unset] [(.int (0 : Int32))])) t_ → Steps p.tables e below (s₁.setTop (entryFrame m #[(.ref p_), (.ref q_)] 3)) t_ := fun t_ k_ => pre0 t_ (by
    show Steps p.tables e below (s₁.setTop (mkF m 0 #[.val (.ref p_), .val (.ref q_), .unset] [])) t_
    refine XS.aloadN X0.here hx rfl (Jvm.hb hby d_prog_9_method_5_0) rfl rfl ?_
    refine st1 _ ?_
    show Steps p.tables e below (T1.setTop (mkF m 4 #[.val (.ref p_), .val (.ref q_), .unset] [(.int (0 : Int32))])) _
    refine XS.ifNo X1.here hx rfl (Jvm.hb hby d_prog_9_method_5_4) rfl ((if0 _ _).trans (teq (rfl : (0 : Int32) = (0 : Int32))).2) ?_
    show Steps p.tables e below (T1.setTop (mkF m 7 #[.val (.ref p_), .val (.ref q_), .unset] [])) _
    refine XS.iconst X1.here hx rfl (Jvm.hb hby d_prog_9_method_5_7) ?_
    show Steps p.tables e below (T1.setTop (mkF m 8 #[.val (.ref p_), .val (.ref q_), .unset] [(.int (0 : Int32))])) t_
    exact k_)
  obtain ⟨fs, hr, hrun, hended, hW, hsame⟩ := X1.leave (v := some (.int (0 : Int32))) (fun h => by rw [Bd.returns] at h; cases h)
  refine ⟨_, _, s2 _ ?_, hrun, hended, _, _, rfl, ?_, ⟨_, rfl⟩, hW, hsame.mono (by decide) (by decide)⟩
  · show Steps p.tables e below (T1.setTop (mkF m 8 #[.val (.ref p_), .val (.ref q_), .unset] [(.int (0 : Int32))])) _
    exact retN X1 hx (t := .boolean) Bd.returns (by simp) (Jvm.hb hby d_prog_9_method_5_8) hr
  · show Q_rmEqX Z _ _ h0 n0 _ T1.heap _
    rw [e1]
    exact ⟨rfl, N0, rfl⟩
theorem os_rmLaw_210 {z0 : Value} {z1 : Value} {z2 : Value} {z4 : Value} {z6 : Value} {z7 : Value} {z8 : Value} {z9 : Value} {z10 : Value} {z11 : Value} {z12 : Value} {z13 : Value} {z14 : Value} {z15 : Value} {sl7 : Slot} {sl8 : Slot} {v : Int32} (h : One sl7) : storeLocals #[.val z0, .val z1, .val z2, .second, .val z4, .second, .val z6, .val z7, .val z8, .val z9, .val z10, .val z11, .val z12, .val z13, .val z14, .val z15, sl7, sl8, .unset, .unset, .unset, .unset, .unset, .unset, .unset, .unset, .unset] 16 (.int v) = some #[.val z0, .val z1, .val z2, .second, .val z4, .second, .val z6, .val z7, .val z8, .val z9, .val z10, .val z11, .val z12, .val z13, .val z14, .val z15, .val (.int v), sl8, .unset, .unset, .unset, .unset, .unset, .unset, .unset, .unset, .unset] := by
  rcases h with rfl | ⟨w, rfl, hw⟩
  · rfl
  · cases w <;> first | rfl | (simp [Value.category] at hw)
theorem os_rmLaw_229 {z0 : Value} {z1 : Value} {z2 : Value} {z4 : Value} {z6 : Value} {z7 : Value} {z8 : Value} {z9 : Value} {z10 : Value} {z11 : Value} {z12 : Value} {z13 : Value} {z14 : Value} {z15 : Value} {z16 : Value} {sl8 : Slot} {v : Int32} (h : One sl8) : storeLocals #[.val z0, .val z1, .val z2, .second, .val z4, .second, .val z6, .val z7, .val z8, .val z9, .val z10, .val z11, .val z12, .val z13, .val z14, .val z15, .val z16, sl8, .unset, .unset, .unset, .unset, .unset, .unset, .unset, .unset, .unset] 17 (.int v) = some #[.val z0, .val z1, .val z2, .second, .val z4, .second, .val z6, .val z7, .val z8, .val z9, .val z10, .val z11, .val z12, .val z13, .val z14, .val z15, .val z16, .val (.int v), .unset, .unset, .unset, .unset, .unset, .unset, .unset, .unset, .unset] := by
  rcases h with rfl | ⟨w, rfl, hw⟩
  · rfl
  · cases w <;> first | rfl | (simp [Value.category] at hw)
theorem pd__ICCC_Ljava_lang_String_ : parseMethodDescriptor "(ICCC)Ljava/lang/String;" = some ⟨[.int, .char, .char, .char], some (.object "java/lang/String")⟩ := by decide +kernel
theorem pd__Ljava_lang_String_II_V : parseMethodDescriptor "(Ljava/lang/String;II)V" = some ⟨[(.object "java/lang/String"), .int, .int], none⟩ := by decide +kernel
theorem ef_rmLaw (m : MethodId) (x0 : Int32) (x1 : Int32) (x2 : Int64) (x3 : Int64) (x4 : Int32) : entryFrame m #[(.int x0), (.int x1), (.long x2), (.long x3), (.int x4)] maxLocals = mkF m 0 #[.val (.int x0), .val (.int x1), .val (.long x2), .second, .val (.long x3), .second, .val (.int x4), .unset, .unset, .unset, .unset, .unset, .unset, .unset, .unset, .unset, .unset, .unset, .unset, .unset, .unset, .unset, .unset, .unset, .unset, .unset, .unset] [] := by first | (simp [entryFrame, mkF, argsToLocals, Value.category, maxLocals]; done) | rfl
def Q_rmLaw (Z : State) (wa : Int32) (wb : Int32) (ls : Int64) (ms : Int64) (sel : Int32) (cst : Int32) (h0 : Heap) (n0 : Nat) (v : Option Value) (h : Heap) (L : List Loc) : Prop := v = some (.int 1) ∧ Fr n0 L
set_option maxRecDepth 65536 in
set_option maxHeartbeats 40000000 in
theorem rmLaw (l : Launch) (Z : State) (a0 : Array Value) (hw : ∀ d ∈ tables_1, d.before a0 Z = true) (ws : List Jvm.Cond) (wa : Int32) (wb : Int32) (ls : Int64) (ms : Int64) (sel : Int32) (cst : Int32) (h0 : Heap) (n0 : Nat) (Z0 : n0 ≤ h0.size) (I1 : Sta Z Z.heap "java/lang/String" "COMPACT_STRINGS" "Z" (.int cst)) (OX : Old Z n0 h0) (hcst : ¬ (cst = (0 : Int32))) :
    MetFree l x (head1 (Jvm.Cond.code x code maxLocals ret :: ws) room_1) (fun ar_ U => ar_ = #[(.int wa), (.int wb), (.long ls), (.long ms), (.int sel)] ∧ Z.Warmed39 U.vm ∧ U.heap = h0 ∧ CHv Z ELs U.vm h0) (fun _ _ _ _ _ => True) (fun _ U o U' => ∃ v L, o = .returned v ∧ Q_rmLaw Z wa wb ls ms sel cst h0 n0 v U'.heap L ∧ CHr Z ELs U.vm U.heap U'.vm U'.heap ∧ ReturnedEndW U o U' L room_1.cells room_1.slots) := by
  refine MetFree.of_bodySF (plainFor_of_name pn_com_example_coyote_hill_coyotehill_LeaseRequestEqualsPinLaw) hisR ?_
  intro p e s m args below meth c s₁ Bd hml0 hP hK
  obtain ⟨rfl, hZ, hh, hCH⟩ := hP
  have hx := Bd.exec
  have hby := Bd.bytes
  have hml : c.maxLocals = 27 := hml0
  have hown : s.vm.findClass "com/example/coyote_hill/coyotehill/LeaseRequestEqualsPinLaw" = some m.cls := findClass_of_methodNamed Bd.named
  have hnm := (name_of_methodNamed Bd.named Bd.method).1
  have X0 : Stand p l e room_1 (s.setVm s.vm) m #[(.int wa), (.int wb), (.long ls), (.long ms), (.int sel)] below meth c s₁ [] 0 0 := Stand.of_body Bd
  have e0 : s₁.heap = h0 := by rw [← hh, Bd.state]; rfl
  have N0 := Fr.nil n0
  have pre0 : ∀ t_, Steps p.tables e below (s₁.setTop (mkF m 0 #[.val (.int wa), .val (.int wb), .val (.long ls), .second, .val (.long ms), .second, .val (.int sel), .unset, .unset, .unset, .unset, .unset, .unset, .unset, .unset, .unset, .unset, .unset, .unset, .unset, .unset, .unset, .unset, .unset, .unset, .unset, .unset] [])) t_ → Steps p.tables e below (s₁.setTop (entryFrame m #[(.int wa), (.int wb), (.long ls), (.long ms), (.int sel)] maxLocals)) t_ := fun t_ k_ => castTop (ef_rmLaw m wa wb ls ms sel) k_
  have hEL : EW Z a0 ELs := own_EW hw
  have wS : ∀ a ∈ Bundle.stringAtoms, a.before a0 Z = true := own_wS hw
  have hS : s.Since s.vm s.heap.size := (State.WarmedH.refl s).since _
  have hk : s.heap.size ≤ h0.size := by rw [hh]; exact Nat.le_refl _
  have CR : CHr Z ELs s.vm h0 s.vm h0 := CHr.refl hCH
  obtain ⟨m1, hq1, hl1⟩ := own_and3 wa
  obtain ⟨q2, hq2⟩ : ∃ z : Int32, z = (i2c ((ushr wa (2 : Int32)) &&& (255 : Int32))) := ⟨_, rfl⟩
  obtain ⟨q3, hq3⟩ : ∃ z : Int32, z = (i2c ((ushr wa (10 : Int32)) &&& (255 : Int32))) := ⟨_, rfl⟩
  obtain ⟨q4, hq4⟩ : ∃ z : Int32, z = (i2c ((ushr wa (18 : Int32)) &&& (255 : Int32))) := ⟨_, rfl⟩
  obtain ⟨q5, hq5⟩ : ∃ z : Int32, z = (sel &&& (3 : Int32)) := ⟨_, rfl⟩
  have s6 : ∀ t_, Steps p.tables e below (s₁.setTop (mkF m 45 #[.val (.int wa), .val (.int wb), .val (.long ls), .second, .val (.long ms), .second, .val (.int sel), .val (.int (Int32.ofNat m1)), .val (.int q2), .val (.int q3), .val (.int q4), .val (.int q5), .unset, .unset, .unset, .unset, .unset, .unset, .unset, .unset, .unset, .unset, .unset, .unset, .unset, .unset, .unset] [(.int q5)])) t_ → Steps p.tables e below (s₁.setTop (entryFrame m #[(.int wa), (.int wb), (.long ls), (.long ms), (.int sel)] maxLocals)) t_ := fun t_ k_ => pre0 t_ (by
    show Steps p.tables e below (s₁.setTop (mkF m 0 #[.val (.int wa), .val (.int wb), .val (.long ls), .second, .val (.long ms), .second, .val (.int sel), .unset, .unset, .unset, .unset, .unset, .unset, .unset, .unset, .unset, .unset, .unset, .unset, .unset, .unset, .unset, .unset, .unset, .unset, .unset, .unset] [])) t_
    refine XS.iloadN X0.here hx rfl (Jvm.hb hby at_0) rfl ?_
    refine XS.iconst X0.here hx rfl (Jvm.hb hby at_1) ?_
    refine XS.iand X0.here hx rfl (Jvm.hb hby at_2) rfl ?_
    refine XS.istore X0.here hx rfl (Jvm.hb hby at_3) rfl (l' := #[.val (.int wa), .val (.int wb), .val (.long ls), .second, .val (.long ms), .second, .val (.int sel), .val (.int (wa &&& (3 : Int32))), .unset, .unset, .unset, .unset, .unset, .unset, .unset, .unset, .unset, .unset, .unset, .unset, .unset, .unset, .unset, .unset, .unset, .unset, .unset]) rfl ?_
    refine XS.iloadN X0.here hx rfl (Jvm.hb hby at_5) rfl ?_
    refine XS.iconst X0.here hx rfl (Jvm.hb hby at_6) ?_
    show Steps p.tables e below (s₁.setTop (mkF m 7 #[.val (.int wa), .val (.int wb), .val (.long ls), .second, .val (.long ms), .second, .val (.int sel), .val (.int (wa &&& (3 : Int32))), .unset, .unset, .unset, .unset, .unset, .unset, .unset, .unset, .unset, .unset, .unset, .unset, .unset, .unset, .unset, .unset, .unset, .unset, .unset] [(.int (2 : Int32)), (.int wa)])) _
    refine XS.iushr X0.here hx rfl (Jvm.hb hby at_7) rfl ?_
    refine XS.sipush X0.here hx rfl (Jvm.hb hby at_8) ?_
    refine XS.iand X0.here hx rfl (Jvm.hb hby at_11) rfl ?_
    refine XS.i2c X0.here hx rfl (Jvm.hb hby at_12) rfl ?_
    refine XS.istore X0.here hx rfl (Jvm.hb hby at_13) rfl (l' := #[.val (.int wa), .val (.int wb), .val (.long ls), .second, .val (.long ms), .second, .val (.int sel), .val (.int (wa &&& (3 : Int32))), .val (.int (i2c ((ushr wa (2 : Int32)) &&& (255 : Int32)))), .unset, .unset, .unset, .unset, .unset, .unset, .unset, .unset, .unset, .unset, .unset, .unset, .unset, .unset, .unset, .unset, .unset, .unset]) rfl ?_
    refine XS.iloadN X0.here hx rfl (Jvm.hb hby at_15) rfl ?_
    show Steps p.tables e below (s₁.setTop (mkF m 16 #[.val (.int wa), .val (.int wb), .val (.long ls), .second, .val (.long ms), .second, .val (.int sel), .val (.int (wa &&& (3 : Int32))), .val (.int (i2c ((ushr wa (2 : Int32)) &&& (255 : Int32)))), .unset, .unset, .unset, .unset, .unset, .unset, .unset, .unset, .unset, .unset, .unset, .unset, .unset, .unset, .unset, .unset, .unset, .unset] [(.int wa)])) _
    refine XS.bipush X0.here hx rfl (Jvm.hb hby at_16) ?_
    refine XS.iushr X0.here hx rfl (Jvm.hb hby at_18) rfl ?_
    refine XS.sipush X0.here hx rfl (Jvm.hb hby at_19) ?_
    refine XS.iand X0.here hx rfl (Jvm.hb hby at_22) rfl ?_
    refine XS.i2c X0.here hx rfl (Jvm.hb hby at_23) rfl ?_
    refine XS.istore X0.here hx rfl (Jvm.hb hby at_24) rfl (l' := #[.val (.int wa), .val (.int wb), .val (.long ls), .second, .val (.long ms), .second, .val (.int sel), .val (.int (wa &&& (3 : Int32))), .val (.int (i2c ((ushr wa (2 : Int32)) &&& (255 : Int32)))), .val (.int (i2c ((ushr wa (10 : Int32)) &&& (255 : Int32)))), .unset, .unset, .unset, .unset, .unset, .unset, .unset, .unset, .unset, .unset, .unset, .unset, .unset, .unset, .unset, .unset, .unset]) rfl ?_
    show Steps p.tables e below (s₁.setTop (mkF m 26 #[.val (.int wa), .val (.int wb), .val (.long ls), .second, .val (.long ms), .second, .val (.int sel), .val (.int (wa &&& (3 : Int32))), .val (.int (i2c ((ushr wa (2 : Int32)) &&& (255 : Int32)))), .val (.int (i2c ((ushr wa (10 : Int32)) &&& (255 : Int32)))), .unset, .unset, .unset, .unset, .unset, .unset, .unset, .unset, .unset, .unset, .unset, .unset, .unset, .unset, .unset, .unset, .unset] [])) _
    refine XS.iloadN X0.here hx rfl (Jvm.hb hby at_26) rfl ?_
    refine XS.bipush X0.here hx rfl (Jvm.hb hby at_27) ?_
    refine XS.iushr X0.here hx rfl (Jvm.hb hby at_29) rfl ?_
    refine XS.sipush X0.here hx rfl (Jvm.hb hby at_30) ?_
    refine XS.iand X0.here hx rfl (Jvm.hb hby at_33) rfl ?_
    refine XS.i2c X0.here hx rfl (Jvm.hb hby at_34) rfl ?_
    show Steps p.tables e below (s₁.setTop (mkF m 35 #[.val (.int wa), .val (.int wb), .val (.long ls), .second, .val (.long ms), .second, .val (.int sel), .val (.int (wa &&& (3 : Int32))), .val (.int (i2c ((ushr wa (2 : Int32)) &&& (255 : Int32)))), .val (.int (i2c ((ushr wa (10 : Int32)) &&& (255 : Int32)))), .unset, .unset, .unset, .unset, .unset, .unset, .unset, .unset, .unset, .unset, .unset, .unset, .unset, .unset, .unset, .unset, .unset] [(.int (i2c ((ushr wa (18 : Int32)) &&& (255 : Int32))))])) _
    refine XS.istore X0.here hx rfl (Jvm.hb hby at_35) rfl (l' := #[.val (.int wa), .val (.int wb), .val (.long ls), .second, .val (.long ms), .second, .val (.int sel), .val (.int (wa &&& (3 : Int32))), .val (.int (i2c ((ushr wa (2 : Int32)) &&& (255 : Int32)))), .val (.int (i2c ((ushr wa (10 : Int32)) &&& (255 : Int32)))), .val (.int (i2c ((ushr wa (18 : Int32)) &&& (255 : Int32)))), .unset, .unset, .unset, .unset, .unset, .unset, .unset, .unset, .unset, .unset, .unset, .unset, .unset, .unset, .unset, .unset]) rfl ?_
    refine XS.iload X0.here hx rfl (Jvm.hb hby at_37) rfl ?_
    refine XS.iconst X0.here hx rfl (Jvm.hb hby at_39) ?_
    refine XS.iand X0.here hx rfl (Jvm.hb hby at_40) rfl ?_
    refine XS.istore X0.here hx rfl (Jvm.hb hby at_41) rfl (l' := #[.val (.int wa), .val (.int wb), .val (.long ls), .second, .val (.long ms), .second, .val (.int sel), .val (.int (wa &&& (3 : Int32))), .val (.int (i2c ((ushr wa (2 : Int32)) &&& (255 : Int32)))), .val (.int (i2c ((ushr wa (10 : Int32)) &&& (255 : Int32)))), .val (.int (i2c ((ushr wa (18 : Int32)) &&& (255 : Int32)))), .val (.int (sel &&& (3 : Int32))), .unset, .unset, .unset, .unset, .unset, .unset, .unset, .unset, .unset, .unset, .unset, .unset, .unset, .unset, .unset]) rfl ?_
    refine XS.iload X0.here hx rfl (Jvm.hb hby at_43) rfl ?_
    show Steps p.tables e below (s₁.setTop (mkF m 45 #[.val (.int wa), .val (.int wb), .val (.long ls), .second, .val (.long ms), .second, .val (.int sel), .val (.int (wa &&& (3 : Int32))), .val (.int (i2c ((ushr wa (2 : Int32)) &&& (255 : Int32)))), .val (.int (i2c ((ushr wa (10 : Int32)) &&& (255 : Int32)))), .val (.int (i2c ((ushr wa (18 : Int32)) &&& (255 : Int32)))), .val (.int (sel &&& (3 : Int32))), .unset, .unset, .unset, .unset, .unset, .unset, .unset, .unset, .unset, .unset, .unset, .unset, .unset, .unset, .unset] [(.int (sel &&& (3 : Int32)))])) _
    exact castTop (by simp only [hq1, hq2, hq3, hq4, hq5]) k_)
  obtain ⟨sl7, esl7⟩ : ∃ z : Slot, z = (if q5 = (0 : Int32) then .unset else (if q5 = (3 : Int32) then .unset else (if q5 = (2 : Int32) then .val (.int (if ((ushr wb (2 : Int32)) &&& (255 : Int32)) = (0 : Int32) then (1 : Int32) else ((ushr wb (2 : Int32)) &&& (255 : Int32)))) else .unset))) := ⟨_, rfl⟩
  have hsl7 : One sl7 := by
    rw [esl7]; repeat' split
    all_goals first | exact One.u | exact One.val rfl
  obtain ⟨sl8, esl8⟩ : ∃ z : Slot, z = (if q5 = (0 : Int32) then .unset else (if q5 = (3 : Int32) then .unset else (if q5 = (2 : Int32) then .val (.int ((wb &&& (3 : Int32)) % (3 : Int32))) else .unset))) := ⟨_, rfl⟩
  have hsl8 : One sl8 := by
    rw [esl8]; repeat' split
    all_goals first | exact One.u | exact One.val rfl
  obtain ⟨q9, hq9⟩ : ∃ z : Int32, z = (if q5 = (0 : Int32) then (wb &&& (3 : Int32)) else (if q5 = (3 : Int32) then ((((Int32.ofNat m1) + (1 : Int32)) + (wb &&& (1 : Int32))) &&& (3 : Int32)) else (Int32.ofNat m1))) := ⟨_, rfl⟩
  obtain ⟨q10, hq10⟩ : ∃ z : Int32, z = (if q5 = (0 : Int32) then (i2c ((ushr wb (2 : Int32)) &&& (255 : Int32))) else (if q5 = (3 : Int32) then q2 else (if q5 = (2 : Int32) then (if ((ushr wb (2 : Int32)) &&& (255 : Int32)) = (0 : Int32) then (if ((wb &&& (3 : Int32)) % (3 : Int32)) = (0 : Int32) then (i2c (q2 ^^^ (1 : Int32))) else q2) else (if ((wb &&& (3 : Int32)) % (3 : Int32)) = (0 : Int32) then (i2c (q2 ^^^ ((ushr wb (2 : Int32)) &&& (255 : Int32)))) else q2)) else q2))) := ⟨_, rfl⟩
  obtain ⟨q11, hq11⟩ : ∃ z : Int32, z = (if q5 = (0 : Int32) then (i2c ((ushr wb (10 : Int32)) &&& (255 : Int32))) else (if q5 = (3 : Int32) then q3 else (if q5 = (2 : Int32) then (if ((ushr wb (2 : Int32)) &&& (255 : Int32)) = (0 : Int32) then (if ((wb &&& (3 : Int32)) % (3 : Int32)) = (0 : Int32) then q3 else (if ((wb &&& (3 : Int32)) % (3 : Int32)) = (1 : Int32) then (i2c (q3 ^^^ (1 : Int32))) else q3)) else (if ((wb &&& (3 : Int32)) % (3 : Int32)) = (0 : Int32) then q3 else (if ((wb &&& (3 : Int32)) % (3 : Int32)) = (1 : Int32) then (i2c (q3 ^^^ ((ushr wb (2 : Int32)) &&& (255 : Int32)))) else q3))) else q3))) := ⟨_, rfl⟩
  obtain ⟨q12, hq12⟩ : ∃ z : Int32, z = (if q5 = (0 : Int32) then (i2c ((ushr wb (18 : Int32)) &&& (255 : Int32))) else (if q5 = (3 : Int32) then q4 else (if q5 = (2 : Int32) then (if ((ushr wb (2 : Int32)) &&& (255 : Int32)) = (0 : Int32) then (if ((wb &&& (3 : Int32)) % (3 : Int32)) = (0 : Int32) then q4 else (if ((wb &&& (3 : Int32)) % (3 : Int32)) = (1 : Int32) then q4 else (i2c (q4 ^^^ (1 : Int32))))) else (if ((wb &&& (3 : Int32)) % (3 : Int32)) = (0 : Int32) then q4 else (if ((wb &&& (3 : Int32)) % (3 : Int32)) = (1 : Int32) then q4 else (i2c (q4 ^^^ ((ushr wb (2 : Int32)) &&& (255 : Int32))))))) else q4))) := ⟨_, rfl⟩
  obtain ⟨T13, X13, e13, s13⟩ := seg X0 (fun T' => T'.heap = h0 ∧ ∀ t_, Steps p.tables e below (T'.setTop (mkF m 208 #[.val (.int wa), .val (.int wb), .val (.long ls), .second, .val (.long ms), .second, .val (.int sel), .val (.int (Int32.ofNat m1)), .val (.int q2), .val (.int q3), .val (.int q4), .val (.int q5), .val (.int q9), .val (.int q10), .val (.int q11), .val (.int q12), sl7, sl8, .unset, .unset, .unset, .unset, .unset, .unset, .unset, .unset, .unset] [])) t_ → Steps p.tables e below (s₁.setTop (entryFrame m #[(.int wa), (.int wb), (.long ls), (.long ms), (.int sel)] maxLocals)) t_) (by
    by_cases h14 : q5 = (0 : Int32)
    · have s15 : ∀ t_, Steps p.tables e below (s₁.setTop (mkF m 208 #[.val (.int wa), .val (.int wb), .val (.long ls), .second, .val (.long ms), .second, .val (.int sel), .val (.int (Int32.ofNat m1)), .val (.int q2), .val (.int q3), .val (.int q4), .val (.int q5), .val (.int (wb &&& (3 : Int32))), .val (.int (i2c ((ushr wb (2 : Int32)) &&& (255 : Int32)))), .val (.int (i2c ((ushr wb (10 : Int32)) &&& (255 : Int32)))), .val (.int (i2c ((ushr wb (18 : Int32)) &&& (255 : Int32)))), .unset, .unset, .unset, .unset, .unset, .unset, .unset, .unset, .unset, .unset, .unset] [])) t_ → Steps p.tables e below (s₁.setTop (entryFrame m #[(.int wa), (.int wb), (.long ls), (.long ms), (.int sel)] maxLocals)) t_ := fun t_ k_ => s6 t_ (by
        show Steps p.tables e below (s₁.setTop (mkF m 45 #[.val (.int wa), .val (.int wb), .val (.long ls), .second, .val (.long ms), .second, .val (.int sel), .val (.int (Int32.ofNat m1)), .val (.int q2), .val (.int q3), .val (.int q4), .val (.int q5), .unset, .unset, .unset, .unset, .unset, .unset, .unset, .unset, .unset, .unset, .unset, .unset, .unset, .unset, .unset] [(.int q5)])) t_
        refine XS.ifNo X0.here hx rfl (Jvm.hb hby at_45) rfl ((if0 _ _).trans (teq h14).2) ?_
        show Steps p.tables e below (s₁.setTop (mkF m 48 #[.val (.int wa), .val (.int wb), .val (.long ls), .second, .val (.long ms), .second, .val (.int sel), .val (.int (Int32.ofNat m1)), .val (.int q2), .val (.int q3), .val (.int q4), .val (.int q5), .unset, .unset, .unset, .unset, .unset, .unset, .unset, .unset, .unset, .unset, .unset, .unset, .unset, .unset, .unset] [])) _
        refine XS.iloadN X0.here hx rfl (Jvm.hb hby at_48) rfl ?_
        refine XS.iconst X0.here hx rfl (Jvm.hb hby at_49) ?_
        refine XS.iand X0.here hx rfl (Jvm.hb hby at_50) rfl ?_
        refine XS.istore X0.here hx rfl (Jvm.hb hby at_51) rfl (l' := #[.val (.int wa), .val (.int wb), .val (.long ls), .second, .val (.long ms), .second, .val (.int sel), .val (.int (Int32.ofNat m1)), .val (.int q2), .val (.int q3), .val (.int q4), .val (.int q5), .val (.int (wb &&& (3 : Int32))), .unset, .unset, .unset, .unset, .unset, .unset, .unset, .unset, .unset, .unset, .unset, .unset, .unset, .unset]) rfl ?_
        refine XS.iloadN X0.here hx rfl (Jvm.hb hby at_53) rfl ?_
        refine XS.iconst X0.here hx rfl (Jvm.hb hby at_54) ?_
        show Steps p.tables e below (s₁.setTop (mkF m 55 #[.val (.int wa), .val (.int wb), .val (.long ls), .second, .val (.long ms), .second, .val (.int sel), .val (.int (Int32.ofNat m1)), .val (.int q2), .val (.int q3), .val (.int q4), .val (.int q5), .val (.int (wb &&& (3 : Int32))), .unset, .unset, .unset, .unset, .unset, .unset, .unset, .unset, .unset, .unset, .unset, .unset, .unset, .unset] [(.int (2 : Int32)), (.int wb)])) _
        refine XS.iushr X0.here hx rfl (Jvm.hb hby at_55) rfl ?_
        refine XS.sipush X0.here hx rfl (Jvm.hb hby at_56) ?_
        refine XS.iand X0.here hx rfl (Jvm.hb hby at_59) rfl ?_
        refine XS.i2c X0.here hx rfl (Jvm.hb hby at_60) rfl ?_
        refine XS.istore X0.here hx rfl (Jvm.hb hby at_61) rfl (l' := #[.val (.int wa), .val (.int wb), .val (.long ls), .second, .val (.long ms), .second, .val (.int sel), .val (.int (Int32.ofNat m1)), .val (.int q2), .val (.int q3), .val (.int q4), .val (.int q5), .val (.int (wb &&& (3 : Int32))), .val (.int (i2c ((ushr wb (2 : Int32)) &&& (255 : Int32)))), .unset, .unset, .unset, .unset, .unset, .unset, .unset, .unset, .unset, .unset, .unset, .unset, .unset]) rfl ?_
        refine XS.iloadN X0.here hx rfl (Jvm.hb hby at_63) rfl ?_
        show Steps p.tables e below (s₁.setTop (mkF m 64 #[.val (.int wa), .val (.int wb), .val (.long ls), .second, .val (.long ms), .second, .val (.int sel), .val (.int (Int32.ofNat m1)), .val (.int q2), .val (.int q3), .val (.int q4), .val (.int q5), .val (.int (wb &&& (3 : Int32))), .val (.int (i2c ((ushr wb (2 : Int32)) &&& (255 : Int32)))), .unset, .unset, .unset, .unset, .unset, .unset, .unset, .unset, .unset, .unset, .unset, .unset, .unset] [(.int wb)])) _
        refine XS.bipush X0.here hx rfl (Jvm.hb hby at_64) ?_
        refine XS.iushr X0.here hx rfl (Jvm.hb hby at_66) rfl ?_
        refine XS.sipush X0.here hx rfl (Jvm.hb hby at_67) ?_
        refine XS.iand X0.here hx rfl (Jvm.hb hby at_70) rfl ?_
        refine XS.i2c X0.here hx rfl (Jvm.hb hby at_71) rfl ?_
        refine XS.istore X0.here hx rfl (Jvm.hb hby at_72) rfl (l' := #[.val (.int wa), .val (.int wb), .val (.long ls), .second, .val (.long ms), .second, .val (.int sel), .val (.int (Int32.ofNat m1)), .val (.int q2), .val (.int q3), .val (.int q4), .val (.int q5), .val (.int (wb &&& (3 : Int32))), .val (.int (i2c ((ushr wb (2 : Int32)) &&& (255 : Int32)))), .val (.int (i2c ((ushr wb (10 : Int32)) &&& (255 : Int32)))), .unset, .unset, .unset, .unset, .unset, .unset, .unset, .unset, .unset, .unset, .unset, .unset]) rfl ?_
        show Steps p.tables e below (s₁.setTop (mkF m 74 #[.val (.int wa), .val (.int wb), .val (.long ls), .second, .val (.long ms), .second, .val (.int sel), .val (.int (Int32.ofNat m1)), .val (.int q2), .val (.int q3), .val (.int q4), .val (.int q5), .val (.int (wb &&& (3 : Int32))), .val (.int (i2c ((ushr wb (2 : Int32)) &&& (255 : Int32)))), .val (.int (i2c ((ushr wb (10 : Int32)) &&& (255 : Int32)))), .unset, .unset, .unset, .unset, .unset, .unset, .unset, .unset, .unset, .unset, .unset, .unset] [])) _
        refine XS.iloadN X0.here hx rfl (Jvm.hb hby at_74) rfl ?_
        refine XS.bipush X0.here hx rfl (Jvm.hb hby at_75) ?_
        refine XS.iushr X0.here hx rfl (Jvm.hb hby at_77) rfl ?_
        refine XS.sipush X0.here hx rfl (Jvm.hb hby at_78) ?_
        refine XS.iand X0.here hx rfl (Jvm.hb hby at_81) rfl ?_
        refine XS.i2c X0.here hx rfl (Jvm.hb hby at_82) rfl ?_
        show Steps p.tables e below (s₁.setTop (mkF m 83 #[.val (.int wa), .val (.int wb), .val (.long ls), .second, .val (.long ms), .second, .val (.int sel), .val (.int (Int32.ofNat m1)), .val (.int q2), .val (.int q3), .val (.int q4), .val (.int q5), .val (.int (wb &&& (3 : Int32))), .val (.int (i2c ((ushr wb (2 : Int32)) &&& (255 : Int32)))), .val (.int (i2c ((ushr wb (10 : Int32)) &&& (255 : Int32)))), .unset, .unset, .unset, .unset, .unset, .unset, .unset, .unset, .unset, .unset, .unset, .unset] [(.int (i2c ((ushr wb (18 : Int32)) &&& (255 : Int32))))])) _
        refine XS.istore X0.here hx rfl (Jvm.hb hby at_83) rfl (l' := #[.val (.int wa), .val (.int wb), .val (.long ls), .second, .val (.long ms), .second, .val (.int sel), .val (.int (Int32.ofNat m1)), .val (.int q2), .val (.int q3), .val (.int q4), .val (.int q5), .val (.int (wb &&& (3 : Int32))), .val (.int (i2c ((ushr wb (2 : Int32)) &&& (255 : Int32)))), .val (.int (i2c ((ushr wb (10 : Int32)) &&& (255 : Int32)))), .val (.int (i2c ((ushr wb (18 : Int32)) &&& (255 : Int32)))), .unset, .unset, .unset, .unset, .unset, .unset, .unset, .unset, .unset, .unset, .unset]) rfl ?_
        refine XS.goto X0.here hx rfl (pc0 := 85) (pc' := 208) rfl (Jvm.hb hby at_85) (by decide) (by decide) ?_
        show Steps p.tables e below (s₁.setTop (mkF m 208 #[.val (.int wa), .val (.int wb), .val (.long ls), .second, .val (.long ms), .second, .val (.int sel), .val (.int (Int32.ofNat m1)), .val (.int q2), .val (.int q3), .val (.int q4), .val (.int q5), .val (.int (wb &&& (3 : Int32))), .val (.int (i2c ((ushr wb (2 : Int32)) &&& (255 : Int32)))), .val (.int (i2c ((ushr wb (10 : Int32)) &&& (255 : Int32)))), .val (.int (i2c ((ushr wb (18 : Int32)) &&& (255 : Int32)))), .unset, .unset, .unset, .unset, .unset, .unset, .unset, .unset, .unset, .unset, .unset] [])) t_
        exact k_)
      exact ⟨s₁, X0, e0, fun t_ k_ => s15 t_ (castTop (by simp only [esl7, esl8, hq9, hq10, hq11, hq12, if_pos h14]) k_)⟩
    · have s16 : ∀ t_, Steps p.tables e below (s₁.setTop (mkF m 91 #[.val (.int wa), .val (.int wb), .val (.long ls), .second, .val (.long ms), .second, .val (.int sel), .val (.int (Int32.ofNat m1)), .val (.int q2), .val (.int q3), .val (.int q4), .val (.int q5), .unset, .unset, .unset, .unset, .unset, .unset, .unset, .unset, .unset, .unset, .unset, .unset, .unset, .unset, .unset] [(.int (3 : Int32)), (.int q5)])) t_ → Steps p.tables e below (s₁.setTop (entryFrame m #[(.int wa), (.int wb), (.long ls), (.long ms), (.int sel)] maxLocals)) t_ := fun t_ k_ => s6 t_ (by
        show Steps p.tables e below (s₁.setTop (mkF m 45 #[.val (.int wa), .val (.int wb), .val (.long ls), .second, .val (.long ms), .second, .val (.int sel), .val (.int (Int32.ofNat m1)), .val (.int q2), .val (.int q3), .val (.int q4), .val (.int q5), .unset, .unset, .unset, .unset, .unset, .unset, .unset, .unset, .unset, .unset, .unset, .unset, .unset, .unset, .unset] [(.int q5)])) t_
        refine XS.ifYes X0.here hx rfl (pc0 := 45) (pc' := 88) rfl (Jvm.hb hby at_45) rfl ((if0 _ _).trans (feq h14).2) (by decide) (by decide) ?_
        show Steps p.tables e below (s₁.setTop (mkF m 88 #[.val (.int wa), .val (.int wb), .val (.long ls), .second, .val (.long ms), .second, .val (.int sel), .val (.int (Int32.ofNat m1)), .val (.int q2), .val (.int q3), .val (.int q4), .val (.int q5), .unset, .unset, .unset, .unset, .unset, .unset, .unset, .unset, .unset, .unset, .unset, .unset, .unset, .unset, .unset] [])) _
        refine XS.iload X0.here hx rfl (Jvm.hb hby at_88) rfl ?_
        refine XS.iconst X0.here hx rfl (Jvm.hb hby at_90) ?_
        show Steps p.tables e below (s₁.setTop (mkF m 91 #[.val (.int wa), .val (.int wb), .val (.long ls), .second, .val (.long ms), .second, .val (.int sel), .val (.int (Int32.ofNat m1)), .val (.int q2), .val (.int q3), .val (.int q4), .val (.int q5), .unset, .unset, .unset, .unset, .unset, .unset, .unset, .unset, .unset, .unset, .unset, .unset, .unset, .unset, .unset] [(.int (3 : Int32)), (.int q5)])) t_
        exact k_)
      by_cases h17 : q5 = (3 : Int32)
      · have s18 : ∀ t_, Steps p.tables e below (s₁.setTop (mkF m 208 #[.val (.int wa), .val (.int wb), .val (.long ls), .second, .val (.long ms), .second, .val (.int sel), .val (.int (Int32.ofNat m1)), .val (.int q2), .val (.int q3), .val (.int q4), .val (.int q5), .val (.int ((((Int32.ofNat m1) + (1 : Int32)) + (wb &&& (1 : Int32))) &&& (3 : Int32))), .val (.int q2), .val (.int q3), .val (.int q4), .unset, .unset, .unset, .unset, .unset, .unset, .unset, .unset, .unset, .unset, .unset] [])) t_ → Steps p.tables e below (s₁.setTop (entryFrame m #[(.int wa), (.int wb), (.long ls), (.long ms), (.int sel)] maxLocals)) t_ := fun t_ k_ => s16 t_ (by
          show Steps p.tables e below (s₁.setTop (mkF m 91 #[.val (.int wa), .val (.int wb), .val (.long ls), .second, .val (.long ms), .second, .val (.int sel), .val (.int (Int32.ofNat m1)), .val (.int q2), .val (.int q3), .val (.int q4), .val (.int q5), .unset, .unset, .unset, .unset, .unset, .unset, .unset, .unset, .unset, .unset, .unset, .unset, .unset, .unset, .unset] [(.int (3 : Int32)), (.int q5)])) t_
          refine XS.icmpNo X0.here hx rfl (Jvm.hb hby at_91) rfl (teq h17).2 ?_
          show Steps p.tables e below (s₁.setTop (mkF m 94 #[.val (.int wa), .val (.int wb), .val (.long ls), .second, .val (.long ms), .second, .val (.int sel), .val (.int (Int32.ofNat m1)), .val (.int q2), .val (.int q3), .val (.int q4), .val (.int q5), .unset, .unset, .unset, .unset, .unset, .unset, .unset, .unset, .unset, .unset, .unset, .unset, .unset, .unset, .unset] [])) _
          refine XS.iload X0.here hx rfl (Jvm.hb hby at_94) rfl ?_
          refine XS.iconst X0.here hx rfl (Jvm.hb hby at_96) ?_
          refine XS.iadd X0.here hx rfl (Jvm.hb hby at_97) rfl ?_
          refine XS.iloadN X0.here hx rfl (Jvm.hb hby at_98) rfl ?_
          refine XS.iconst X0.here hx rfl (Jvm.hb hby at_99) ?_
          refine XS.iand X0.here hx rfl (Jvm.hb hby at_100) rfl ?_
          show Steps p.tables e below (s₁.setTop (mkF m 101 #[.val (.int wa), .val (.int wb), .val (.long ls), .second, .val (.long ms), .second, .val (.int sel), .val (.int (Int32.ofNat m1)), .val (.int q2), .val (.int q3), .val (.int q4), .val (.int q5), .unset, .unset, .unset, .unset, .unset, .unset, .unset, .unset, .unset, .unset, .unset, .unset, .unset, .unset, .unset] [(.int (wb &&& (1 : Int32))), (.int ((Int32.ofNat m1) + (1 : Int32)))])) _
          refine XS.iadd X0.here hx rfl (Jvm.hb hby at_101) rfl ?_
          refine XS.iconst X0.here hx rfl (Jvm.hb hby at_102) ?_
          refine XS.iand X0.here hx rfl (Jvm.hb hby at_103) rfl ?_
          refine XS.istore X0.here hx rfl (Jvm.hb hby at_104) rfl (l' := #[.val (.int wa), .val (.int wb), .val (.long ls), .second, .val (.long ms), .second, .val (.int sel), .val (.int (Int32.ofNat m1)), .val (.int q2), .val (.int q3), .val (.int q4), .val (.int q5), .val (.int ((((Int32.ofNat m1) + (1 : Int32)) + (wb &&& (1 : Int32))) &&& (3 : Int32))), .unset, .unset, .unset, .unset, .unset, .unset, .unset, .unset, .unset, .unset, .unset, .unset, .unset, .unset]) rfl ?_
          refine XS.iload X0.here hx rfl (Jvm.hb hby at_106) rfl ?_
          refine XS.istore X0.here hx rfl (Jvm.hb hby at_108) rfl (l' := #[.val (.int wa), .val (.int wb), .val (.long ls), .second, .val (.long ms), .second, .val (.int sel), .val (.int (Int32.ofNat m1)), .val (.int q2), .val (.int q3), .val (.int q4), .val (.int q5), .val (.int ((((Int32.ofNat m1) + (1 : Int32)) + (wb &&& (1 : Int32))) &&& (3 : Int32))), .val (.int q2), .unset, .unset, .unset, .unset, .unset, .unset, .unset, .unset, .unset, .unset, .unset, .unset, .unset]) rfl ?_
          show Steps p.tables e below (s₁.setTop (mkF m 110 #[.val (.int wa), .val (.int wb), .val (.long ls), .second, .val (.long ms), .second, .val (.int sel), .val (.int (Int32.ofNat m1)), .val (.int q2), .val (.int q3), .val (.int q4), .val (.int q5), .val (.int ((((Int32.ofNat m1) + (1 : Int32)) + (wb &&& (1 : Int32))) &&& (3 : Int32))), .val (.int q2), .unset, .unset, .unset, .unset, .unset, .unset, .unset, .unset, .unset, .unset, .unset, .unset, .unset] [])) _
          refine XS.iload X0.here hx rfl (Jvm.hb hby at_110) rfl ?_
          refine XS.istore X0.here hx rfl (Jvm.hb hby at_112) rfl (l' := #[.val (.int wa), .val (.int wb), .val (.long ls), .second, .val (.long ms), .second, .val (.int sel), .val (.int (Int32.ofNat m1)), .val (.int q2), .val (.int q3), .val (.int q4), .val (.int q5), .val (.int ((((Int32.ofNat m1) + (1 : Int32)) + (wb &&& (1 : Int32))) &&& (3 : Int32))), .val (.int q2), .val (.int q3), .unset, .unset, .unset, .unset, .unset, .unset, .unset, .unset, .unset, .unset, .unset, .unset]) rfl ?_
          refine XS.iload X0.here hx rfl (Jvm.hb hby at_114) rfl ?_
          refine XS.istore X0.here hx rfl (Jvm.hb hby at_116) rfl (l' := #[.val (.int wa), .val (.int wb), .val (.long ls), .second, .val (.long ms), .second, .val (.int sel), .val (.int (Int32.ofNat m1)), .val (.int q2), .val (.int q3), .val (.int q4), .val (.int q5), .val (.int ((((Int32.ofNat m1) + (1 : Int32)) + (wb &&& (1 : Int32))) &&& (3 : Int32))), .val (.int q2), .val (.int q3), .val (.int q4), .unset, .unset, .unset, .unset, .unset, .unset, .unset, .unset, .unset, .unset, .unset]) rfl ?_
          refine XS.goto X0.here hx rfl (pc0 := 118) (pc' := 208) rfl (Jvm.hb hby at_118) (by decide) (by decide) ?_
          show Steps p.tables e below (s₁.setTop (mkF m 208 #[.val (.int wa), .val (.int wb), .val (.long ls), .second, .val (.long ms), .second, .val (.int sel), .val (.int (Int32.ofNat m1)), .val (.int q2), .val (.int q3), .val (.int q4), .val (.int q5), .val (.int ((((Int32.ofNat m1) + (1 : Int32)) + (wb &&& (1 : Int32))) &&& (3 : Int32))), .val (.int q2), .val (.int q3), .val (.int q4), .unset, .unset, .unset, .unset, .unset, .unset, .unset, .unset, .unset, .unset, .unset] [])) t_
          exact k_)
        exact ⟨s₁, X0, e0, fun t_ k_ => s18 t_ (castTop (by simp only [esl7, esl8, hq9, hq10, hq11, hq12, if_neg h14, if_pos h17]) k_)⟩
      · have s19 : ∀ t_, Steps p.tables e below (s₁.setTop (mkF m 140 #[.val (.int wa), .val (.int wb), .val (.long ls), .second, .val (.long ms), .second, .val (.int sel), .val (.int (Int32.ofNat m1)), .val (.int q2), .val (.int q3), .val (.int q4), .val (.int q5), .val (.int (Int32.ofNat m1)), .val (.int q2), .val (.int q3), .val (.int q4), .unset, .unset, .unset, .unset, .unset, .unset, .unset, .unset, .unset, .unset, .unset] [(.int (2 : Int32)), (.int q5)])) t_ → Steps p.tables e below (s₁.setTop (entryFrame m #[(.int wa), (.int wb), (.long ls), (.long ms), (.int sel)] maxLocals)) t_ := fun t_ k_ => s16 t_ (by
          show Steps p.tables e below (s₁.setTop (mkF m 91 #[.val (.int wa), .val (.int wb), .val (.long ls), .second, .val (.long ms), .second, .val (.int sel), .val (.int (Int32.ofNat m1)), .val (.int q2), .val (.int q3), .val (.int q4), .val (.int q5), .unset, .unset, .unset, .unset, .unset, .unset, .unset, .unset, .unset, .unset, .unset, .unset, .unset, .unset, .unset] [(.int (3 : Int32)), (.int q5)])) t_
          refine XS.icmpYes X0.here hx rfl (pc0 := 91) (pc' := 121) rfl (Jvm.hb hby at_91) rfl (feq h17).2 (by decide) (by decide) ?_
          show Steps p.tables e below (s₁.setTop (mkF m 121 #[.val (.int wa), .val (.int wb), .val (.long ls), .second, .val (.long ms), .second, .val (.int sel), .val (.int (Int32.ofNat m1)), .val (.int q2), .val (.int q3), .val (.int q4), .val (.int q5), .unset, .unset, .unset, .unset, .unset, .unset, .unset, .unset, .unset, .unset, .unset, .unset, .unset, .unset, .unset] [])) _
          refine XS.iload X0.here hx rfl (Jvm.hb hby at_121) rfl ?_
          refine XS.istore X0.here hx rfl (Jvm.hb hby at_123) rfl (l' := #[.val (.int wa), .val (.int wb), .val (.long ls), .second, .val (.long ms), .second, .val (.int sel), .val (.int (Int32.ofNat m1)), .val (.int q2), .val (.int q3), .val (.int q4), .val (.int q5), .val (.int (Int32.ofNat m1)), .unset, .unset, .unset, .unset, .unset, .unset, .unset, .unset, .unset, .unset, .unset, .unset, .unset, .unset]) rfl ?_
          refine XS.iload X0.here hx rfl (Jvm.hb hby at_125) rfl ?_
          refine XS.istore X0.here hx rfl (Jvm.hb hby at_127) rfl (l' := #[.val (.int wa), .val (.int wb), .val (.long ls), .second, .val (.long ms), .second, .val (.int sel), .val (.int (Int32.ofNat m1)), .val (.int q2), .val (.int q3), .val (.int q4), .val (.int q5), .val (.int (Int32.ofNat m1)), .val (.int q2), .unset, .unset, .unset, .unset, .unset, .unset, .unset, .unset, .unset, .unset, .unset, .unset, .unset]) rfl ?_
          refine XS.iload X0.here hx rfl (Jvm.hb hby at_129) rfl ?_
          refine XS.istore X0.here hx rfl (Jvm.hb hby at_131) rfl (l' := #[.val (.int wa), .val (.int wb), .val (.long ls), .second, .val (.long ms), .second, .val (.int sel), .val (.int (Int32.ofNat m1)), .val (.int q2), .val (.int q3), .val (.int q4), .val (.int q5), .val (.int (Int32.ofNat m1)), .val (.int q2), .val (.int q3), .unset, .unset, .unset, .unset, .unset, .unset, .unset, .unset, .unset, .unset, .unset, .unset]) rfl ?_
          show Steps p.tables e below (s₁.setTop (mkF m 133 #[.val (.int wa), .val (.int wb), .val (.long ls), .second, .val (.long ms), .second, .val (.int sel), .val (.int (Int32.ofNat m1)), .val (.int q2), .val (.int q3), .val (.int q4), .val (.int q5), .val (.int (Int32.ofNat m1)), .val (.int q2), .val (.int q3), .unset, .unset, .unset, .unset, .unset, .unset, .unset, .unset, .unset, .unset, .unset, .unset] [])) _
          refine XS.iload X0.here hx rfl (Jvm.hb hby at_133) rfl ?_
          refine XS.istore X0.here hx rfl (Jvm.hb hby at_135) rfl (l' := #[.val (.int wa), .val (.int wb), .val (.long ls), .second, .val (.long ms), .second, .val (.int sel), .val (.int (Int32.ofNat m1)), .val (.int q2), .val (.int q3), .val (.int q4), .val (.int q5), .val (.int (Int32.ofNat m1)), .val (.int q2), .val (.int q3), .val (.int q4), .unset, .unset, .unset, .unset, .unset, .unset, .unset, .unset, .unset, .unset, .unset]) rfl ?_
          refine XS.iload X0.here hx rfl (Jvm.hb hby at_137) rfl ?_
          refine XS.iconst X0.here hx rfl (Jvm.hb hby at_139) ?_
          show Steps p.tables e below (s₁.setTop (mkF m 140 #[.val (.int wa), .val (.int wb), .val (.long ls), .second, .val (.long ms), .second, .val (.int sel), .val (.int (Int32.ofNat m1)), .val (.int q2), .val (.int q3), .val (.int q4), .val (.int q5), .val (.int (Int32.ofNat m1)), .val (.int q2), .val (.int q3), .val (.int q4), .unset, .unset, .unset, .unset, .unset, .unset, .unset, .unset, .unset, .unset, .unset] [(.int (2 : Int32)), (.int q5)])) t_
          exact k_)
        by_cases h20 : q5 = (2 : Int32)
        · have s21 : ∀ t_, Steps p.tables e below (s₁.setTop (mkF m 154 #[.val (.int wa), .val (.int wb), .val (.long ls), .second, .val (.long ms), .second, .val (.int sel), .val (.int (Int32.ofNat m1)), .val (.int q2), .val (.int q3), .val (.int q4), .val (.int q5), .val (.int (Int32.ofNat m1)), .val (.int q2), .val (.int q3), .val (.int q4), .val (.int ((ushr wb (2 : Int32)) &&& (255 : Int32))), .unset, .unset, .unset, .unset, .unset, .unset, .unset, .unset, .unset, .unset] [(.int ((ushr wb (2 : Int32)) &&& (255 : Int32)))])) t_ → Steps p.tables e below (s₁.setTop (entryFrame m #[(.int wa), (.int wb), (.long ls), (.long ms), (.int sel)] maxLocals)) t_ := fun t_ k_ => s19 t_ (by
            show Steps p.tables e below (s₁.setTop (mkF m 140 #[.val (.int wa), .val (.int wb), .val (.long ls), .second, .val (.long ms), .second, .val (.int sel), .val (.int (Int32.ofNat m1)), .val (.int q2), .val (.int q3), .val (.int q4), .val (.int q5), .val (.int (Int32.ofNat m1)), .val (.int q2), .val (.int q3), .val (.int q4), .unset, .unset, .unset, .unset, .unset, .unset, .unset, .unset, .unset, .unset, .unset] [(.int (2 : Int32)), (.int q5)])) t_
            refine XS.icmpNo X0.here hx rfl (Jvm.hb hby at_140) rfl (teq h20).2 ?_
            show Steps p.tables e below (s₁.setTop (mkF m 143 #[.val (.int wa), .val (.int wb), .val (.long ls), .second, .val (.long ms), .second, .val (.int sel), .val (.int (Int32.ofNat m1)), .val (.int q2), .val (.int q3), .val (.int q4), .val (.int q5), .val (.int (Int32.ofNat m1)), .val (.int q2), .val (.int q3), .val (.int q4), .unset, .unset, .unset, .unset, .unset, .unset, .unset, .unset, .unset, .unset, .unset] [])) _
            refine XS.iloadN X0.here hx rfl (Jvm.hb hby at_143) rfl ?_
            refine XS.iconst X0.here hx rfl (Jvm.hb hby at_144) ?_
            refine XS.iushr X0.here hx rfl (Jvm.hb hby at_145) rfl ?_
            refine XS.sipush X0.here hx rfl (Jvm.hb hby at_146) ?_
            refine XS.iand X0.here hx rfl (Jvm.hb hby at_149) rfl ?_
            refine XS.istore X0.here hx rfl (Jvm.hb hby at_150) rfl (l' := #[.val (.int wa), .val (.int wb), .val (.long ls), .second, .val (.long ms), .second, .val (.int sel), .val (.int (Int32.ofNat m1)), .val (.int q2), .val (.int q3), .val (.int q4), .val (.int q5), .val (.int (Int32.ofNat m1)), .val (.int q2), .val (.int q3), .val (.int q4), .val (.int ((ushr wb (2 : Int32)) &&& (255 : Int32))), .unset, .unset, .unset, .unset, .unset, .unset, .unset, .unset, .unset, .unset]) rfl ?_
            show Steps p.tables e below (s₁.setTop (mkF m 152 #[.val (.int wa), .val (.int wb), .val (.long ls), .second, .val (.long ms), .second, .val (.int sel), .val (.int (Int32.ofNat m1)), .val (.int q2), .val (.int q3), .val (.int q4), .val (.int q5), .val (.int (Int32.ofNat m1)), .val (.int q2), .val (.int q3), .val (.int q4), .val (.int ((ushr wb (2 : Int32)) &&& (255 : Int32))), .unset, .unset, .unset, .unset, .unset, .unset, .unset, .unset, .unset, .unset] [])) _
            refine XS.iload X0.here hx rfl (Jvm.hb hby at_152) rfl ?_
            show Steps p.tables e below (s₁.setTop (mkF m 154 #[.val (.int wa), .val (.int wb), .val (.long ls), .second, .val (.long ms), .second, .val (.int sel), .val (.int (Int32.ofNat m1)), .val (.int q2), .val (.int q3), .val (.int q4), .val (.int q5), .val (.int (Int32.ofNat m1)), .val (.int q2), .val (.int q3), .val (.int q4), .val (.int ((ushr wb (2 : Int32)) &&& (255 : Int32))), .unset, .unset, .unset, .unset, .unset, .unset, .unset, .unset, .unset, .unset] [(.int ((ushr wb (2 : Int32)) &&& (255 : Int32)))])) t_
            exact k_)
          by_cases h22 : ((ushr wb (2 : Int32)) &&& (255 : Int32)) = (0 : Int32)
          · have s23 : ∀ t_, Steps p.tables e below (s₁.setTop (mkF m 169 #[.val (.int wa), .val (.int wb), .val (.long ls), .second, .val (.long ms), .second, .val (.int sel), .val (.int (Int32.ofNat m1)), .val (.int q2), .val (.int q3), .val (.int q4), .val (.int q5), .val (.int (Int32.ofNat m1)), .val (.int q2), .val (.int q3), .val (.int q4), .val (.int (1 : Int32)), .val (.int ((wb &&& (3 : Int32)) % (3 : Int32))), .unset, .unset, .unset, .unset, .unset, .unset, .unset, .unset, .unset] [(.int ((wb &&& (3 : Int32)) % (3 : Int32)))])) t_ → Steps p.tables e below (s₁.setTop (entryFrame m #[(.int wa), (.int wb), (.long ls), (.long ms), (.int sel)] maxLocals)) t_ := fun t_ k_ => s21 t_ (by
              show Steps p.tables e below (s₁.setTop (mkF m 154 #[.val (.int wa), .val (.int wb), .val (.long ls), .second, .val (.long ms), .second, .val (.int sel), .val (.int (Int32.ofNat m1)), .val (.int q2), .val (.int q3), .val (.int q4), .val (.int q5), .val (.int (Int32.ofNat m1)), .val (.int q2), .val (.int q3), .val (.int q4), .val (.int ((ushr wb (2 : Int32)) &&& (255 : Int32))), .unset, .unset, .unset, .unset, .unset, .unset, .unset, .unset, .unset, .unset] [(.int ((ushr wb (2 : Int32)) &&& (255 : Int32)))])) t_
              refine XS.ifNo X0.here hx rfl (Jvm.hb hby at_154) rfl ((if0 _ _).trans (teq h22).2) ?_
              show Steps p.tables e below (s₁.setTop (mkF m 157 #[.val (.int wa), .val (.int wb), .val (.long ls), .second, .val (.long ms), .second, .val (.int sel), .val (.int (Int32.ofNat m1)), .val (.int q2), .val (.int q3), .val (.int q4), .val (.int q5), .val (.int (Int32.ofNat m1)), .val (.int q2), .val (.int q3), .val (.int q4), .val (.int ((ushr wb (2 : Int32)) &&& (255 : Int32))), .unset, .unset, .unset, .unset, .unset, .unset, .unset, .unset, .unset, .unset] [])) _
              refine XS.iconst X0.here hx rfl (Jvm.hb hby at_157) ?_
              refine XS.istore X0.here hx rfl (Jvm.hb hby at_158) rfl (l' := #[.val (.int wa), .val (.int wb), .val (.long ls), .second, .val (.long ms), .second, .val (.int sel), .val (.int (Int32.ofNat m1)), .val (.int q2), .val (.int q3), .val (.int q4), .val (.int q5), .val (.int (Int32.ofNat m1)), .val (.int q2), .val (.int q3), .val (.int q4), .val (.int (1 : Int32)), .unset, .unset, .unset, .unset, .unset, .unset, .unset, .unset, .unset, .unset]) rfl ?_
              refine XS.iloadN X0.here hx rfl (Jvm.hb hby at_160) rfl ?_
              refine XS.iconst X0.here hx rfl (Jvm.hb hby at_161) ?_
              refine XS.iand X0.here hx rfl (Jvm.hb hby at_162) rfl ?_
              refine XS.iconst X0.here hx rfl (Jvm.hb hby at_163) ?_
              show Steps p.tables e below (s₁.setTop (mkF m 164 #[.val (.int wa), .val (.int wb), .val (.long ls), .second, .val (.long ms), .second, .val (.int sel), .val (.int (Int32.ofNat m1)), .val (.int q2), .val (.int q3), .val (.int q4), .val (.int q5), .val (.int (Int32.ofNat m1)), .val (.int q2), .val (.int q3), .val (.int q4), .val (.int (1 : Int32)), .unset, .unset, .unset, .unset, .unset, .unset, .unset, .unset, .unset, .unset] [(.int (3 : Int32)), (.int (wb &&& (3 : Int32)))])) _
              refine iremM (g := (mkF m 164 #[.val (.int wa), .val (.int wb), .val (.long ls), .second, .val (.long ms), .second, .val (.int sel), .val (.int (Int32.ofNat m1)), .val (.int q2), .val (.int q3), .val (.int q4), .val (.int q5), .val (.int (Int32.ofNat m1)), .val (.int q2), .val (.int q3), .val (.int q4), .val (.int (1 : Int32)), .unset, .unset, .unset, .unset, .unset, .unset, .unset, .unset, .unset, .unset] [(.int (3 : Int32)), (.int (wb &&& (3 : Int32)))])) X0 hx rfl (Jvm.hb hby at_164) rfl (by decide) ?_
              show Steps p.tables e below (s₁.setTop (mkF m 165 #[.val (.int wa), .val (.int wb), .val (.long ls), .second, .val (.long ms), .second, .val (.int sel), .val (.int (Int32.ofNat m1)), .val (.int q2), .val (.int q3), .val (.int q4), .val (.int q5), .val (.int (Int32.ofNat m1)), .val (.int q2), .val (.int q3), .val (.int q4), .val (.int (1 : Int32)), .unset, .unset, .unset, .unset, .unset, .unset, .unset, .unset, .unset, .unset] [(.int ((wb &&& (3 : Int32)) % (3 : Int32)))])) _
              refine XS.istore X0.here hx rfl (Jvm.hb hby at_165) rfl (l' := #[.val (.int wa), .val (.int wb), .val (.long ls), .second, .val (.long ms), .second, .val (.int sel), .val (.int (Int32.ofNat m1)), .val (.int q2), .val (.int q3), .val (.int q4), .val (.int q5), .val (.int (Int32.ofNat m1)), .val (.int q2), .val (.int q3), .val (.int q4), .val (.int (1 : Int32)), .val (.int ((wb &&& (3 : Int32)) % (3 : Int32))), .unset, .unset, .unset, .unset, .unset, .unset, .unset, .unset, .unset]) rfl ?_
              refine XS.iload X0.here hx rfl (Jvm.hb hby at_167) rfl ?_
              show Steps p.tables e below (s₁.setTop (mkF m 169 #[.val (.int wa), .val (.int wb), .val (.long ls), .second, .val (.long ms), .second, .val (.int sel), .val (.int (Int32.ofNat m1)), .val (.int q2), .val (.int q3), .val (.int q4), .val (.int q5), .val (.int (Int32.ofNat m1)), .val (.int q2), .val (.int q3), .val (.int q4), .val (.int (1 : Int32)), .val (.int ((wb &&& (3 : Int32)) % (3 : Int32))), .unset, .unset, .unset, .unset, .unset, .unset, .unset, .unset, .unset] [(.int ((wb &&& (3 : Int32)) % (3 : Int32)))])) t_
              exact k_)
            by_cases h24 : ((wb &&& (3 : Int32)) % (3 : Int32)) = (0 : Int32)
            · have s25 : ∀ t_, Steps p.tables e below (s₁.setTop (mkF m 208 #[.val (.int wa), .val (.int wb), .val (.long ls), .second, .val (.long ms), .second, .val (.int sel), .val (.int (Int32.ofNat m1)), .val (.int q2), .val (.int q3), .val (.int q4), .val (.int q5), .val (.int (Int32.ofNat m1)), .val (.int (i2c (q2 ^^^ (1 : Int32)))), .val (.int q3), .val (.int q4), .val (.int (1 : Int32)), .val (.int ((wb &&& (3 : Int32)) % (3 : Int32))), .unset, .unset, .unset, .unset, .unset, .unset, .unset, .unset, .unset] [])) t_ → Steps p.tables e below (s₁.setTop (entryFrame m #[(.int wa), (.int wb), (.long ls), (.long ms), (.int sel)] maxLocals)) t_ := fun t_ k_ => s23 t_ (by
                show Steps p.tables e below (s₁.setTop (mkF m 169 #[.val (.int wa), .val (.int wb), .val (.long ls), .second, .val (.long ms), .second, .val (.int sel), .val (.int (Int32.ofNat m1)), .val (.int q2), .val (.int q3), .val (.int q4), .val (.int q5), .val (.int (Int32.ofNat m1)), .val (.int q2), .val (.int q3), .val (.int q4), .val (.int (1 : Int32)), .val (.int ((wb &&& (3 : Int32)) % (3 : Int32))), .unset, .unset, .unset, .unset, .unset, .unset, .unset, .unset, .unset] [(.int ((wb &&& (3 : Int32)) % (3 : Int32)))])) t_
                refine XS.ifNo X0.here hx rfl (Jvm.hb hby at_169) rfl ((if0 _ _).trans (teq h24).2) ?_
                show Steps p.tables e below (s₁.setTop (mkF m 172 #[.val (.int wa), .val (.int wb), .val (.long ls), .second, .val (.long ms), .second, .val (.int sel), .val (.int (Int32.ofNat m1)), .val (.int q2), .val (.int q3), .val (.int q4), .val (.int q5), .val (.int (Int32.ofNat m1)), .val (.int q2), .val (.int q3), .val (.int q4), .val (.int (1 : Int32)), .val (.int ((wb &&& (3 : Int32)) % (3 : Int32))), .unset, .unset, .unset, .unset, .unset, .unset, .unset, .unset, .unset] [])) _
                refine XS.iload X0.here hx rfl (Jvm.hb hby at_172) rfl ?_
                refine XS.iload X0.here hx rfl (Jvm.hb hby at_174) rfl ?_
                refine XS.ixor X0.here hx rfl (Jvm.hb hby at_176) rfl ?_
                refine XS.i2c X0.here hx rfl (Jvm.hb hby at_177) rfl ?_
                refine XS.istore X0.here hx rfl (Jvm.hb hby at_178) rfl (l' := #[.val (.int wa), .val (.int wb), .val (.long ls), .second, .val (.long ms), .second, .val (.int sel), .val (.int (Int32.ofNat m1)), .val (.int q2), .val (.int q3), .val (.int q4), .val (.int q5), .val (.int (Int32.ofNat m1)), .val (.int (i2c (q2 ^^^ (1 : Int32)))), .val (.int q3), .val (.int q4), .val (.int (1 : Int32)), .val (.int ((wb &&& (3 : Int32)) % (3 : Int32))), .unset, .unset, .unset, .unset, .unset, .unset, .unset, .unset, .unset]) rfl ?_
                refine XS.goto X0.here hx rfl (pc0 := 180) (pc' := 208) rfl (Jvm.hb hby at_180) (by decide) (by decide) ?_
                show Steps p.tables e below (s₁.setTop (mkF m 208 #[.val (.int wa), .val (.int wb), .val (.long ls), .second, .val (.long ms), .second, .val (.int sel), .val (.int (Int32.ofNat m1)), .val (.int q2), .val (.int q3), .val (.int q4), .val (.int q5), .val (.int (Int32.ofNat m1)), .val (.int (i2c (q2 ^^^ (1 : Int32)))), .val (.int q3), .val (.int q4), .val (.int (1 : Int32)), .val (.int ((wb &&& (3 : Int32)) % (3 : Int32))), .unset, .unset, .unset, .unset, .unset, .unset, .unset, .unset, .unset] [])) _
                show Steps p.tables e below (s₁.setTop (mkF m 208 #[.val (.int wa), .val (.int wb), .val (.long ls), .second, .val (.long ms), .second, .val (.int sel), .val (.int (Int32.ofNat m1)), .val (.int q2), .val (.int q3), .val (.int q4), .val (.int q5), .val (.int (Int32.ofNat m1)), .val (.int (i2c (q2 ^^^ (1 : Int32)))), .val (.int q3), .val (.int q4), .val (.int (1 : Int32)), .val (.int ((wb &&& (3 : Int32)) % (3 : Int32))), .unset, .unset, .unset, .unset, .unset, .unset, .unset, .unset, .unset] [])) t_
                exact k_)
              exact ⟨s₁, X0, e0, fun t_ k_ => s25 t_ (castTop (by simp only [esl7, esl8, hq9, hq10, hq11, hq12, if_neg h14, if_neg h17, if_pos h20, if_pos h22, if_pos h24]) k_)⟩
            · have s26 : ∀ t_, Steps p.tables e below (s₁.setTop (mkF m 186 #[.val (.int wa), .val (.int wb), .val (.long ls), .second, .val (.long ms), .second, .val (.int sel), .val (.int (Int32.ofNat m1)), .val (.int q2), .val (.int q3), .val (.int q4), .val (.int q5), .val (.int (Int32.ofNat m1)), .val (.int q2), .val (.int q3), .val (.int q4), .val (.int (1 : Int32)), .val (.int ((wb &&& (3 : Int32)) % (3 : Int32))), .unset, .unset, .unset, .unset, .unset, .unset, .unset, .unset, .unset] [(.int (1 : Int32)), (.int ((wb &&& (3 : Int32)) % (3 : Int32)))])) t_ → Steps p.tables e below (s₁.setTop (entryFrame m #[(.int wa), (.int wb), (.long ls), (.long ms), (.int sel)] maxLocals)) t_ := fun t_ k_ => s23 t_ (by
                show Steps p.tables e below (s₁.setTop (mkF m 169 #[.val (.int wa), .val (.int wb), .val (.long ls), .second, .val (.long ms), .second, .val (.int sel), .val (.int (Int32.ofNat m1)), .val (.int q2), .val (.int q3), .val (.int q4), .val (.int q5), .val (.int (Int32.ofNat m1)), .val (.int q2), .val (.int q3), .val (.int q4), .val (.int (1 : Int32)), .val (.int ((wb &&& (3 : Int32)) % (3 : Int32))), .unset, .unset, .unset, .unset, .unset, .unset, .unset, .unset, .unset] [(.int ((wb &&& (3 : Int32)) % (3 : Int32)))])) t_
                refine XS.ifYes X0.here hx rfl (pc0 := 169) (pc' := 183) rfl (Jvm.hb hby at_169) rfl ((if0 _ _).trans (feq h24).2) (by decide) (by decide) ?_
                show Steps p.tables e below (s₁.setTop (mkF m 183 #[.val (.int wa), .val (.int wb), .val (.long ls), .second, .val (.long ms), .second, .val (.int sel), .val (.int (Int32.ofNat m1)), .val (.int q2), .val (.int q3), .val (.int q4), .val (.int q5), .val (.int (Int32.ofNat m1)), .val (.int q2), .val (.int q3), .val (.int q4), .val (.int (1 : Int32)), .val (.int ((wb &&& (3 : Int32)) % (3 : Int32))), .unset, .unset, .unset, .unset, .unset, .unset, .unset, .unset, .unset] [])) _
                refine XS.iload X0.here hx rfl (Jvm.hb hby at_183) rfl ?_
                refine XS.iconst X0.here hx rfl (Jvm.hb hby at_185) ?_
                show Steps p.tables e below (s₁.setTop (mkF m 186 #[.val (.int wa), .val (.int wb), .val (.long ls), .second, .val (.long ms), .second, .val (.int sel), .val (.int (Int32.ofNat m1)), .val (.int q2), .val (.int q3), .val (.int q4), .val (.int q5), .val (.int (Int32.ofNat m1)), .val (.int q2), .val (.int q3), .val (.int q4), .val (.int (1 : Int32)), .val (.int ((wb &&& (3 : Int32)) % (3 : Int32))), .unset, .unset, .unset, .unset, .unset, .unset, .unset, .unset, .unset] [(.int (1 : Int32)), (.int ((wb &&& (3 : Int32)) % (3 : Int32)))])) t_
                exact k_)
              by_cases h27 : ((wb &&& (3 : Int32)) % (3 : Int32)) = (1 : Int32)
              · have s28 : ∀ t_, Steps p.tables e below (s₁.setTop (mkF m 208 #[.val (.int wa), .val (.int wb), .val (.long ls), .second, .val (.long ms), .second, .val (.int sel), .val (.int (Int32.ofNat m1)), .val (.int q2), .val (.int q3), .val (.int q4), .val (.int q5), .val (.int (Int32.ofNat m1)), .val (.int q2), .val (.int (i2c (q3 ^^^ (1 : Int32)))), .val (.int q4), .val (.int (1 : Int32)), .val (.int ((wb &&& (3 : Int32)) % (3 : Int32))), .unset, .unset, .unset, .unset, .unset, .unset, .unset, .unset, .unset] [])) t_ → Steps p.tables e below (s₁.setTop (entryFrame m #[(.int wa), (.int wb), (.long ls), (.long ms), (.int sel)] maxLocals)) t_ := fun t_ k_ => s26 t_ (by
                  show Steps p.tables e below (s₁.setTop (mkF m 186 #[.val (.int wa), .val (.int wb), .val (.long ls), .second, .val (.long ms), .second, .val (.int sel), .val (.int (Int32.ofNat m1)), .val (.int q2), .val (.int q3), .val (.int q4), .val (.int q5), .val (.int (Int32.ofNat m1)), .val (.int q2), .val (.int q3), .val (.int q4), .val (.int (1 : Int32)), .val (.int ((wb &&& (3 : Int32)) % (3 : Int32))), .unset, .unset, .unset, .unset, .unset, .unset, .unset, .unset, .unset] [(.int (1 : Int32)), (.int ((wb &&& (3 : Int32)) % (3 : Int32)))])) t_
                  refine XS.icmpNo X0.here hx rfl (Jvm.hb hby at_186) rfl (teq h27).2 ?_
                  show Steps p.tables e below (s₁.setTop (mkF m 189 #[.val (.int wa), .val (.int wb), .val (.long ls), .second, .val (.long ms), .second, .val (.int sel), .val (.int (Int32.ofNat m1)), .val (.int q2), .val (.int q3), .val (.int q4), .val (.int q5), .val (.int (Int32.ofNat m1)), .val (.int q2), .val (.int q3), .val (.int q4), .val (.int (1 : Int32)), .val (.int ((wb &&& (3 : Int32)) % (3 : Int32))), .unset, .unset, .unset, .unset, .unset, .unset, .unset, .unset, .unset] [])) _
                  refine XS.iload X0.here hx rfl (Jvm.hb hby at_189) rfl ?_
                  refine XS.iload X0.here hx rfl (Jvm.hb hby at_191) rfl ?_
                  refine XS.ixor X0.here hx rfl (Jvm.hb hby at_193) rfl ?_
                  refine XS.i2c X0.here hx rfl (Jvm.hb hby at_194) rfl ?_
                  refine XS.istore X0.here hx rfl (Jvm.hb hby at_195) rfl (l' := #[.val (.int wa), .val (.int wb), .val (.long ls), .second, .val (.long ms), .second, .val (.int sel), .val (.int (Int32.ofNat m1)), .val (.int q2), .val (.int q3), .val (.int q4), .val (.int q5), .val (.int (Int32.ofNat m1)), .val (.int q2), .val (.int (i2c (q3 ^^^ (1 : Int32)))), .val (.int q4), .val (.int (1 : Int32)), .val (.int ((wb &&& (3 : Int32)) % (3 : Int32))), .unset, .unset, .unset, .unset, .unset, .unset, .unset, .unset, .unset]) rfl ?_
                  refine XS.goto X0.here hx rfl (pc0 := 197) (pc' := 208) rfl (Jvm.hb hby at_197) (by decide) (by decide) ?_
                  show Steps p.tables e below (s₁.setTop (mkF m 208 #[.val (.int wa), .val (.int wb), .val (.long ls), .second, .val (.long ms), .second, .val (.int sel), .val (.int (Int32.ofNat m1)), .val (.int q2), .val (.int q3), .val (.int q4), .val (.int q5), .val (.int (Int32.ofNat m1)), .val (.int q2), .val (.int (i2c (q3 ^^^ (1 : Int32)))), .val (.int q4), .val (.int (1 : Int32)), .val (.int ((wb &&& (3 : Int32)) % (3 : Int32))), .unset, .unset, .unset, .unset, .unset, .unset, .unset, .unset, .unset] [])) _
                  show Steps p.tables e below (s₁.setTop (mkF m 208 #[.val (.int wa), .val (.int wb), .val (.long ls), .second, .val (.long ms), .second, .val (.int sel), .val (.int (Int32.ofNat m1)), .val (.int q2), .val (.int q3), .val (.int q4), .val (.int q5), .val (.int (Int32.ofNat m1)), .val (.int q2), .val (.int (i2c (q3 ^^^ (1 : Int32)))), .val (.int q4), .val (.int (1 : Int32)), .val (.int ((wb &&& (3 : Int32)) % (3 : Int32))), .unset, .unset, .unset, .unset, .unset, .unset, .unset, .unset, .unset] [])) t_
                  exact k_)
                exact ⟨s₁, X0, e0, fun t_ k_ => s28 t_ (castTop (by simp only [esl7, esl8, hq9, hq10, hq11, hq12, if_neg h14, if_neg h17, if_pos h20, if_pos h22, if_neg h24, if_pos h27]) k_)⟩
              · have s29 : ∀ t_, Steps p.tables e below (s₁.setTop (mkF m 208 #[.val (.int wa), .val (.int wb), .val (.long ls), .second, .val (.long ms), .second, .val (.int sel), .val (.int (Int32.ofNat m1)), .val (.int q2), .val (.int q3), .val (.int q4), .val (.int q5), .val (.int (Int32.ofNat m1)), .val (.int q2), .val (.int q3), .val (.int (i2c (q4 ^^^ (1 : Int32)))), .val (.int (1 : Int32)), .val (.int ((wb &&& (3 : Int32)) % (3 : Int32))), .unset, .unset, .unset, .unset, .unset, .unset, .unset, .unset, .unset] [])) t_ → Steps p.tables e below (s₁.setTop (entryFrame m #[(.int wa), (.int wb), (.long ls), (.long ms), (.int sel)] maxLocals)) t_ := fun t_ k_ => s26 t_ (by
                  show Steps p.tables e below (s₁.setTop (mkF m 186 #[.val (.int wa), .val (.int wb), .val (.long ls), .second, .val (.long ms), .second, .val (.int sel), .val (.int (Int32.ofNat m1)), .val (.int q2), .val (.int q3), .val (.int q4), .val (.int q5), .val (.int (Int32.ofNat m1)), .val (.int q2), .val (.int q3), .val (.int q4), .val (.int (1 : Int32)), .val (.int ((wb &&& (3 : Int32)) % (3 : Int32))), .unset, .unset, .unset, .unset, .unset, .unset, .unset, .unset, .unset] [(.int (1 : Int32)), (.int ((wb &&& (3 : Int32)) % (3 : Int32)))])) t_
                  refine XS.icmpYes X0.here hx rfl (pc0 := 186) (pc' := 200) rfl (Jvm.hb hby at_186) rfl (feq h27).2 (by decide) (by decide) ?_
                  show Steps p.tables e below (s₁.setTop (mkF m 200 #[.val (.int wa), .val (.int wb), .val (.long ls), .second, .val (.long ms), .second, .val (.int sel), .val (.int (Int32.ofNat m1)), .val (.int q2), .val (.int q3), .val (.int q4), .val (.int q5), .val (.int (Int32.ofNat m1)), .val (.int q2), .val (.int q3), .val (.int q4), .val (.int (1 : Int32)), .val (.int ((wb &&& (3 : Int32)) % (3 : Int32))), .unset, .unset, .unset, .unset, .unset, .unset, .unset, .unset, .unset] [])) _
                  refine XS.iload X0.here hx rfl (Jvm.hb hby at_200) rfl ?_
                  refine XS.iload X0.here hx rfl (Jvm.hb hby at_202) rfl ?_
                  refine XS.ixor X0.here hx rfl (Jvm.hb hby at_204) rfl ?_
                  refine XS.i2c X0.here hx rfl (Jvm.hb hby at_205) rfl ?_
                  refine XS.istore X0.here hx rfl (Jvm.hb hby at_206) rfl (l' := #[.val (.int wa), .val (.int wb), .val (.long ls), .second, .val (.long ms), .second, .val (.int sel), .val (.int (Int32.ofNat m1)), .val (.int q2), .val (.int q3), .val (.int q4), .val (.int q5), .val (.int (Int32.ofNat m1)), .val (.int q2), .val (.int q3), .val (.int (i2c (q4 ^^^ (1 : Int32)))), .val (.int (1 : Int32)), .val (.int ((wb &&& (3 : Int32)) % (3 : Int32))), .unset, .unset, .unset, .unset, .unset, .unset, .unset, .unset, .unset]) rfl ?_
                  show Steps p.tables e below (s₁.setTop (mkF m 208 #[.val (.int wa), .val (.int wb), .val (.long ls), .second, .val (.long ms), .second, .val (.int sel), .val (.int (Int32.ofNat m1)), .val (.int q2), .val (.int q3), .val (.int q4), .val (.int q5), .val (.int (Int32.ofNat m1)), .val (.int q2), .val (.int q3), .val (.int (i2c (q4 ^^^ (1 : Int32)))), .val (.int (1 : Int32)), .val (.int ((wb &&& (3 : Int32)) % (3 : Int32))), .unset, .unset, .unset, .unset, .unset, .unset, .unset, .unset, .unset] [])) t_
                  exact k_)
                exact ⟨s₁, X0, e0, fun t_ k_ => s29 t_ (castTop (by simp only [esl7, esl8, hq9, hq10, hq11, hq12, if_neg h14, if_neg h17, if_pos h20, if_pos h22, if_neg h24, if_neg h27]) k_)⟩
          · have s30 : ∀ t_, Steps p.tables e below (s₁.setTop (mkF m 169 #[.val (.int wa), .val (.int wb), .val (.long ls), .second, .val (.long ms), .second, .val (.int sel), .val (.int (Int32.ofNat m1)), .val (.int q2), .val (.int q3), .val (.int q4), .val (.int q5), .val (.int (Int32.ofNat m1)), .val (.int q2), .val (.int q3), .val (.int q4), .val (.int ((ushr wb (2 : Int32)) &&& (255 : Int32))), .val (.int ((wb &&& (3 : Int32)) % (3 : Int32))), .unset, .unset, .unset, .unset, .unset, .unset, .unset, .unset, .unset] [(.int ((wb &&& (3 : Int32)) % (3 : Int32)))])) t_ → Steps p.tables e below (s₁.setTop (entryFrame m #[(.int wa), (.int wb), (.long ls), (.long ms), (.int sel)] maxLocals)) t_ := fun t_ k_ => s21 t_ (by
              show Steps p.tables e below (s₁.setTop (mkF m 154 #[.val (.int wa), .val (.int wb), .val (.long ls), .second, .val (.long ms), .second, .val (.int sel), .val (.int (Int32.ofNat m1)), .val (.int q2), .val (.int q3), .val (.int q4), .val (.int q5), .val (.int (Int32.ofNat m1)), .val (.int q2), .val (.int q3), .val (.int q4), .val (.int ((ushr wb (2 : Int32)) &&& (255 : Int32))), .unset, .unset, .unset, .unset, .unset, .unset, .unset, .unset, .unset, .unset] [(.int ((ushr wb (2 : Int32)) &&& (255 : Int32)))])) t_
              refine XS.ifYes X0.here hx rfl (pc0 := 154) (pc' := 160) rfl (Jvm.hb hby at_154) rfl ((if0 _ _).trans (feq h22).2) (by decide) (by decide) ?_
              show Steps p.tables e below (s₁.setTop (mkF m 160 #[.val (.int wa), .val (.int wb), .val (.long ls), .second, .val (.long ms), .second, .val (.int sel), .val (.int (Int32.ofNat m1)), .val (.int q2), .val (.int q3), .val (.int q4), .val (.int q5), .val (.int (Int32.ofNat m1)), .val (.int q2), .val (.int q3), .val (.int q4), .val (.int ((ushr wb (2 : Int32)) &&& (255 : Int32))), .unset, .unset, .unset, .unset, .unset, .unset, .unset, .unset, .unset, .unset] [])) _
              refine XS.iloadN X0.here hx rfl (Jvm.hb hby at_160) rfl ?_
              refine XS.iconst X0.here hx rfl (Jvm.hb hby at_161) ?_
              refine XS.iand X0.here hx rfl (Jvm.hb hby at_162) rfl ?_
              refine XS.iconst X0.here hx rfl (Jvm.hb hby at_163) ?_
              refine iremM (g := (mkF m 164 #[.val (.int wa), .val (.int wb), .val (.long ls), .second, .val (.long ms), .second, .val (.int sel), .val (.int (Int32.ofNat m1)), .val (.int q2), .val (.int q3), .val (.int q4), .val (.int q5), .val (.int (Int32.ofNat m1)), .val (.int q2), .val (.int q3), .val (.int q4), .val (.int ((ushr wb (2 : Int32)) &&& (255 : Int32))), .unset, .unset, .unset, .unset, .unset, .unset, .unset, .unset, .unset, .unset] [(.int (3 : Int32)), (.int (wb &&& (3 : Int32)))])) X0 hx rfl (Jvm.hb hby at_164) rfl (by decide) ?_
              show Steps p.tables e below (s₁.setTop (mkF m 165 #[.val (.int wa), .val (.int wb), .val (.long ls), .second, .val (.long ms), .second, .val (.int sel), .val (.int (Int32.ofNat m1)), .val (.int q2), .val (.int q3), .val (.int q4), .val (.int q5), .val (.int (Int32.ofNat m1)), .val (.int q2), .val (.int q3), .val (.int q4), .val (.int ((ushr wb (2 : Int32)) &&& (255 : Int32))), .unset, .unset, .unset, .unset, .unset, .unset, .unset, .unset, .unset, .unset] [(.int ((wb &&& (3 : Int32)) % (3 : Int32)))])) _
              refine XS.istore X0.here hx rfl (Jvm.hb hby at_165) rfl (l' := #[.val (.int wa), .val (.int wb), .val (.long ls), .second, .val (.long ms), .second, .val (.int sel), .val (.int (Int32.ofNat m1)), .val (.int q2), .val (.int q3), .val (.int q4), .val (.int q5), .val (.int (Int32.ofNat m1)), .val (.int q2), .val (.int q3), .val (.int q4), .val (.int ((ushr wb (2 : Int32)) &&& (255 : Int32))), .val (.int ((wb &&& (3 : Int32)) % (3 : Int32))), .unset, .unset, .unset, .unset, .unset, .unset, .unset, .unset, .unset]) rfl ?_
              refine XS.iload X0.here hx rfl (Jvm.hb hby at_167) rfl ?_
              show Steps p.tables e below (s₁.setTop (mkF m 169 #[.val (.int wa), .val (.int wb), .val (.long ls), .second, .val (.long ms), .second, .val (.int sel), .val (.int (Int32.ofNat m1)), .val (.int q2), .val (.int q3), .val (.int q4), .val (.int q5), .val (.int (Int32.ofNat m1)), .val (.int q2), .val (.int q3), .val (.int q4), .val (.int ((ushr wb (2 : Int32)) &&& (255 : Int32))), .val (.int ((wb &&& (3 : Int32)) % (3 : Int32))), .unset, .unset, .unset, .unset, .unset, .unset, .unset, .unset, .unset] [(.int ((wb &&& (3 : Int32)) % (3 : Int32)))])) t_
              exact k_)
            by_cases h31 : ((wb &&& (3 : Int32)) % (3 : Int32)) = (0 : Int32)
            · have s32 : ∀ t_, Steps p.tables e below (s₁.setTop (mkF m 208 #[.val (.int wa), .val (.int wb), .val (.long ls), .second, .val (.long ms), .second, .val (.int sel), .val (.int (Int32.ofNat m1)), .val (.int q2), .val (.int q3), .val (.int q4), .val (.int q5), .val (.int (Int32.ofNat m1)), .val (.int (i2c (q2 ^^^ ((ushr wb (2 : Int32)) &&& (255 : Int32))))), .val (.int q3), .val (.int q4), .val (.int ((ushr wb (2 : Int32)) &&& (255 : Int32))), .val (.int ((wb &&& (3 : Int32)) % (3 : Int32))), .unset, .unset, .unset, .unset, .unset, .unset, .unset, .unset, .unset] [])) t_ → Steps p.tables e below (s₁.setTop (entryFrame m #[(.int wa), (.int wb), (.long ls), (.long ms), (.int sel)] maxLocals)) t_ := fun t_ k_ => s30 t_ (by
                show Steps p.tables e below (s₁.setTop (mkF m 169 #[.val (.int wa), .val (.int wb), .val (.long ls), .second, .val (.long ms), .second, .val (.int sel), .val (.int (Int32.ofNat m1)), .val (.int q2), .val (.int q3), .val (.int q4), .val (.int q5), .val (.int (Int32.ofNat m1)), .val (.int q2), .val (.int q3), .val (.int q4), .val (.int ((ushr wb (2 : Int32)) &&& (255 : Int32))), .val (.int ((wb &&& (3 : Int32)) % (3 : Int32))), .unset, .unset, .unset, .unset, .unset, .unset, .unset, .unset, .unset] [(.int ((wb &&& (3 : Int32)) % (3 : Int32)))])) t_
                refine XS.ifNo X0.here hx rfl (Jvm.hb hby at_169) rfl ((if0 _ _).trans (teq h31).2) ?_
                show Steps p.tables e below (s₁.setTop (mkF m 172 #[.val (.int wa), .val (.int wb), .val (.long ls), .second, .val (.long ms), .second, .val (.int sel), .val (.int (Int32.ofNat m1)), .val (.int q2), .val (.int q3), .val (.int q4), .val (.int q5), .val (.int (Int32.ofNat m1)), .val (.int q2), .val (.int q3), .val (.int q4), .val (.int ((ushr wb (2 : Int32)) &&& (255 : Int32))), .val (.int ((wb &&& (3 : Int32)) % (3 : Int32))), .unset, .unset, .unset, .unset, .unset, .unset, .unset, .unset, .unset] [])) _
                refine XS.iload X0.here hx rfl (Jvm.hb hby at_172) rfl ?_
                refine XS.iload X0.here hx rfl (Jvm.hb hby at_174) rfl ?_
                refine XS.ixor X0.here hx rfl (Jvm.hb hby at_176) rfl ?_
                refine XS.i2c X0.here hx rfl (Jvm.hb hby at_177) rfl ?_
                refine XS.istore X0.here hx rfl (Jvm.hb hby at_178) rfl (l' := #[.val (.int wa), .val (.int wb), .val (.long ls), .second, .val (.long ms), .second, .val (.int sel), .val (.int (Int32.ofNat m1)), .val (.int q2), .val (.int q3), .val (.int q4), .val (.int q5), .val (.int (Int32.ofNat m1)), .val (.int (i2c (q2 ^^^ ((ushr wb (2 : Int32)) &&& (255 : Int32))))), .val (.int q3), .val (.int q4), .val (.int ((ushr wb (2 : Int32)) &&& (255 : Int32))), .val (.int ((wb &&& (3 : Int32)) % (3 : Int32))), .unset, .unset, .unset, .unset, .unset, .unset, .unset, .unset, .unset]) rfl ?_
                refine XS.goto X0.here hx rfl (pc0 := 180) (pc' := 208) rfl (Jvm.hb hby at_180) (by decide) (by decide) ?_
                show Steps p.tables e below (s₁.setTop (mkF m 208 #[.val (.int wa), .val (.int wb), .val (.long ls), .second, .val (.long ms), .second, .val (.int sel), .val (.int (Int32.ofNat m1)), .val (.int q2), .val (.int q3), .val (.int q4), .val (.int q5), .val (.int (Int32.ofNat m1)), .val (.int (i2c (q2 ^^^ ((ushr wb (2 : Int32)) &&& (255 : Int32))))), .val (.int q3), .val (.int q4), .val (.int ((ushr wb (2 : Int32)) &&& (255 : Int32))), .val (.int ((wb &&& (3 : Int32)) % (3 : Int32))), .unset, .unset, .unset, .unset, .unset, .unset, .unset, .unset, .unset] [])) _
                show Steps p.tables e below (s₁.setTop (mkF m 208 #[.val (.int wa), .val (.int wb), .val (.long ls), .second, .val (.long ms), .second, .val (.int sel), .val (.int (Int32.ofNat m1)), .val (.int q2), .val (.int q3), .val (.int q4), .val (.int q5), .val (.int (Int32.ofNat m1)), .val (.int (i2c (q2 ^^^ ((ushr wb (2 : Int32)) &&& (255 : Int32))))), .val (.int q3), .val (.int q4), .val (.int ((ushr wb (2 : Int32)) &&& (255 : Int32))), .val (.int ((wb &&& (3 : Int32)) % (3 : Int32))), .unset, .unset, .unset, .unset, .unset, .unset, .unset, .unset, .unset] [])) t_
                exact k_)
              exact ⟨s₁, X0, e0, fun t_ k_ => s32 t_ (castTop (by simp only [esl7, esl8, hq9, hq10, hq11, hq12, if_neg h14, if_neg h17, if_pos h20, if_neg h22, if_pos h31]) k_)⟩
            · have s33 : ∀ t_, Steps p.tables e below (s₁.setTop (mkF m 186 #[.val (.int wa), .val (.int wb), .val (.long ls), .second, .val (.long ms), .second, .val (.int sel), .val (.int (Int32.ofNat m1)), .val (.int q2), .val (.int q3), .val (.int q4), .val (.int q5), .val (.int (Int32.ofNat m1)), .val (.int q2), .val (.int q3), .val (.int q4), .val (.int ((ushr wb (2 : Int32)) &&& (255 : Int32))), .val (.int ((wb &&& (3 : Int32)) % (3 : Int32))), .unset, .unset, .unset, .unset, .unset, .unset, .unset, .unset, .unset] [(.int (1 : Int32)), (.int ((wb &&& (3 : Int32)) % (3 : Int32)))])) t_ → Steps p.tables e below (s₁.setTop (entryFrame m #[(.int wa), (.int wb), (.long ls), (.long ms), (.int sel)] maxLocals)) t_ := fun t_ k_ => s30 t_ (by
                show Steps p.tables e below (s₁.setTop (mkF m 169 #[.val (.int wa), .val (.int wb), .val (.long ls), .second, .val (.long ms), .second, .val (.int sel), .val (.int (Int32.ofNat m1)), .val (.int q2), .val (.int q3), .val (.int q4), .val (.int q5), .val (.int (Int32.ofNat m1)), .val (.int q2), .val (.int q3), .val (.int q4), .val (.int ((ushr wb (2 : Int32)) &&& (255 : Int32))), .val (.int ((wb &&& (3 : Int32)) % (3 : Int32))), .unset, .unset, .unset, .unset, .unset, .unset, .unset, .unset, .unset] [(.int ((wb &&& (3 : Int32)) % (3 : Int32)))])) t_
                refine XS.ifYes X0.here hx rfl (pc0 := 169) (pc' := 183) rfl (Jvm.hb hby at_169) rfl ((if0 _ _).trans (feq h31).2) (by decide) (by decide) ?_
                show Steps p.tables e below (s₁.setTop (mkF m 183 #[.val (.int wa), .val (.int wb), .val (.long ls), .second, .val (.long ms), .second, .val (.int sel), .val (.int (Int32.ofNat m1)), .val (.int q2), .val (.int q3), .val (.int q4), .val (.int q5), .val (.int (Int32.ofNat m1)), .val (.int q2), .val (.int q3), .val (.int q4), .val (.int ((ushr wb (2 : Int32)) &&& (255 : Int32))), .val (.int ((wb &&& (3 : Int32)) % (3 : Int32))), .unset, .unset, .unset, .unset, .unset, .unset, .unset, .unset, .unset] [])) _
                refine XS.iload X0.here hx rfl (Jvm.hb hby at_183) rfl ?_
                refine XS.iconst X0.here hx rfl (Jvm.hb hby at_185) ?_
                show Steps p.tables e below (s₁.setTop (mkF m 186 #[.val (.int wa), .val (.int wb), .val (.long ls), .second, .val (.long ms), .second, .val (.int sel), .val (.int (Int32.ofNat m1)), .val (.int q2), .val (.int q3), .val (.int q4), .val (.int q5), .val (.int (Int32.ofNat m1)), .val (.int q2), .val (.int q3), .val (.int q4), .val (.int ((ushr wb (2 : Int32)) &&& (255 : Int32))), .val (.int ((wb &&& (3 : Int32)) % (3 : Int32))), .unset, .unset, .unset, .unset, .unset, .unset, .unset, .unset, .unset] [(.int (1 : Int32)), (.int ((wb &&& (3 : Int32)) % (3 : Int32)))])) t_
                exact k_)
              by_cases h34 : ((wb &&& (3 : Int32)) % (3 : Int32)) = (1 : Int32)
              · have s35 : ∀ t_, Steps p.tables e below (s₁.setTop (mkF m 208 #[.val (.int wa), .val (.int wb), .val (.long ls), .second, .val (.long ms), .second, .val (.int sel), .val (.int (Int32.ofNat m1)), .val (.int q2), .val (.int q3), .val (.int q4), .val (.int q5), .val (.int (Int32.ofNat m1)), .val (.int q2), .val (.int (i2c (q3 ^^^ ((ushr wb (2 : Int32)) &&& (255 : Int32))))), .val (.int q4), .val (.int ((ushr wb (2 : Int32)) &&& (255 : Int32))), .val (.int ((wb &&& (3 : Int32)) % (3 : Int32))), .unset, .unset, .unset, .unset, .unset, .unset, .unset, .unset, .unset] [])) t_ → Steps p.tables e below (s₁.setTop (entryFrame m #[(.int wa), (.int wb), (.long ls), (.long ms), (.int sel)] maxLocals)) t_ := fun t_ k_ => s33 t_ (by
                  show Steps p.tables e below (s₁.setTop (mkF m 186 #[.val (.int wa), .val (.int wb), .val (.long ls), .second, .val (.long ms), .second, .val (.int sel), .val (.int (Int32.ofNat m1)), .val (.int q2), .val (.int q3), .val (.int q4), .val (.int q5), .val (.int (Int32.ofNat m1)), .val (.int q2), .val (.int q3), .val (.int q4), .val (.int ((ushr wb (2 : Int32)) &&& (255 : Int32))), .val (.int ((wb &&& (3 : Int32)) % (3 : Int32))), .unset, .unset, .unset, .unset, .unset, .unset, .unset, .unset, .unset] [(.int (1 : Int32)), (.int ((wb &&& (3 : Int32)) % (3 : Int32)))])) t_
                  refine XS.icmpNo X0.here hx rfl (Jvm.hb hby at_186) rfl (teq h34).2 ?_
                  show Steps p.tables e below (s₁.setTop (mkF m 189 #[.val (.int wa), .val (.int wb), .val (.long ls), .second, .val (.long ms), .second, .val (.int sel), .val (.int (Int32.ofNat m1)), .val (.int q2), .val (.int q3), .val (.int q4), .val (.int q5), .val (.int (Int32.ofNat m1)), .val (.int q2), .val (.int q3), .val (.int q4), .val (.int ((ushr wb (2 : Int32)) &&& (255 : Int32))), .val (.int ((wb &&& (3 : Int32)) % (3 : Int32))), .unset, .unset, .unset, .unset, .unset, .unset, .unset, .unset, .unset] [])) _
                  refine XS.iload X0.here hx rfl (Jvm.hb hby at_189) rfl ?_
                  refine XS.iload X0.here hx rfl (Jvm.hb hby at_191) rfl ?_
                  refine XS.ixor X0.here hx rfl (Jvm.hb hby at_193) rfl ?_
                  refine XS.i2c X0.here hx rfl (Jvm.hb hby at_194) rfl ?_
                  refine XS.istore X0.here hx rfl (Jvm.hb hby at_195) rfl (l' := #[.val (.int wa), .val (.int wb), .val (.long ls), .second, .val (.long ms), .second, .val (.int sel), .val (.int (Int32.ofNat m1)), .val (.int q2), .val (.int q3), .val (.int q4), .val (.int q5), .val (.int (Int32.ofNat m1)), .val (.int q2), .val (.int (i2c (q3 ^^^ ((ushr wb (2 : Int32)) &&& (255 : Int32))))), .val (.int q4), .val (.int ((ushr wb (2 : Int32)) &&& (255 : Int32))), .val (.int ((wb &&& (3 : Int32)) % (3 : Int32))), .unset, .unset, .unset, .unset, .unset, .unset, .unset, .unset, .unset]) rfl ?_
                  refine XS.goto X0.here hx rfl (pc0 := 197) (pc' := 208) rfl (Jvm.hb hby at_197) (by decide) (by decide) ?_
                  show Steps p.tables e below (s₁.setTop (mkF m 208 #[.val (.int wa), .val (.int wb), .val (.long ls), .second, .val (.long ms), .second, .val (.int sel), .val (.int (Int32.ofNat m1)), .val (.int q2), .val (.int q3), .val (.int q4), .val (.int q5), .val (.int (Int32.ofNat m1)), .val (.int q2), .val (.int (i2c (q3 ^^^ ((ushr wb (2 : Int32)) &&& (255 : Int32))))), .val (.int q4), .val (.int ((ushr wb (2 : Int32)) &&& (255 : Int32))), .val (.int ((wb &&& (3 : Int32)) % (3 : Int32))), .unset, .unset, .unset, .unset, .unset, .unset, .unset, .unset, .unset] [])) _
                  show Steps p.tables e below (s₁.setTop (mkF m 208 #[.val (.int wa), .val (.int wb), .val (.long ls), .second, .val (.long ms), .second, .val (.int sel), .val (.int (Int32.ofNat m1)), .val (.int q2), .val (.int q3), .val (.int q4), .val (.int q5), .val (.int (Int32.ofNat m1)), .val (.int q2), .val (.int (i2c (q3 ^^^ ((ushr wb (2 : Int32)) &&& (255 : Int32))))), .val (.int q4), .val (.int ((ushr wb (2 : Int32)) &&& (255 : Int32))), .val (.int ((wb &&& (3 : Int32)) % (3 : Int32))), .unset, .unset, .unset, .unset, .unset, .unset, .unset, .unset, .unset] [])) t_
                  exact k_)
                exact ⟨s₁, X0, e0, fun t_ k_ => s35 t_ (castTop (by simp only [esl7, esl8, hq9, hq10, hq11, hq12, if_neg h14, if_neg h17, if_pos h20, if_neg h22, if_neg h31, if_pos h34]) k_)⟩
              · have s36 : ∀ t_, Steps p.tables e below (s₁.setTop (mkF m 208 #[.val (.int wa), .val (.int wb), .val (.long ls), .second, .val (.long ms), .second, .val (.int sel), .val (.int (Int32.ofNat m1)), .val (.int q2), .val (.int q3), .val (.int q4), .val (.int q5), .val (.int (Int32.ofNat m1)), .val (.int q2), .val (.int q3), .val (.int (i2c (q4 ^^^ ((ushr wb (2 : Int32)) &&& (255 : Int32))))), .val (.int ((ushr wb (2 : Int32)) &&& (255 : Int32))), .val (.int ((wb &&& (3 : Int32)) % (3 : Int32))), .unset, .unset, .unset, .unset, .unset, .unset, .unset, .unset, .unset] [])) t_ → Steps p.tables e below (s₁.setTop (entryFrame m #[(.int wa), (.int wb), (.long ls), (.long ms), (.int sel)] maxLocals)) t_ := fun t_ k_ => s33 t_ (by
                  show Steps p.tables e below (s₁.setTop (mkF m 186 #[.val (.int wa), .val (.int wb), .val (.long ls), .second, .val (.long ms), .second, .val (.int sel), .val (.int (Int32.ofNat m1)), .val (.int q2), .val (.int q3), .val (.int q4), .val (.int q5), .val (.int (Int32.ofNat m1)), .val (.int q2), .val (.int q3), .val (.int q4), .val (.int ((ushr wb (2 : Int32)) &&& (255 : Int32))), .val (.int ((wb &&& (3 : Int32)) % (3 : Int32))), .unset, .unset, .unset, .unset, .unset, .unset, .unset, .unset, .unset] [(.int (1 : Int32)), (.int ((wb &&& (3 : Int32)) % (3 : Int32)))])) t_
                  refine XS.icmpYes X0.here hx rfl (pc0 := 186) (pc' := 200) rfl (Jvm.hb hby at_186) rfl (feq h34).2 (by decide) (by decide) ?_
                  show Steps p.tables e below (s₁.setTop (mkF m 200 #[.val (.int wa), .val (.int wb), .val (.long ls), .second, .val (.long ms), .second, .val (.int sel), .val (.int (Int32.ofNat m1)), .val (.int q2), .val (.int q3), .val (.int q4), .val (.int q5), .val (.int (Int32.ofNat m1)), .val (.int q2), .val (.int q3), .val (.int q4), .val (.int ((ushr wb (2 : Int32)) &&& (255 : Int32))), .val (.int ((wb &&& (3 : Int32)) % (3 : Int32))), .unset, .unset, .unset, .unset, .unset, .unset, .unset, .unset, .unset] [])) _
                  refine XS.iload X0.here hx rfl (Jvm.hb hby at_200) rfl ?_
                  refine XS.iload X0.here hx rfl (Jvm.hb hby at_202) rfl ?_
                  refine XS.ixor X0.here hx rfl (Jvm.hb hby at_204) rfl ?_
                  refine XS.i2c X0.here hx rfl (Jvm.hb hby at_205) rfl ?_
                  refine XS.istore X0.here hx rfl (Jvm.hb hby at_206) rfl (l' := #[.val (.int wa), .val (.int wb), .val (.long ls), .second, .val (.long ms), .second, .val (.int sel), .val (.int (Int32.ofNat m1)), .val (.int q2), .val (.int q3), .val (.int q4), .val (.int q5), .val (.int (Int32.ofNat m1)), .val (.int q2), .val (.int q3), .val (.int (i2c (q4 ^^^ ((ushr wb (2 : Int32)) &&& (255 : Int32))))), .val (.int ((ushr wb (2 : Int32)) &&& (255 : Int32))), .val (.int ((wb &&& (3 : Int32)) % (3 : Int32))), .unset, .unset, .unset, .unset, .unset, .unset, .unset, .unset, .unset]) rfl ?_
                  show Steps p.tables e below (s₁.setTop (mkF m 208 #[.val (.int wa), .val (.int wb), .val (.long ls), .second, .val (.long ms), .second, .val (.int sel), .val (.int (Int32.ofNat m1)), .val (.int q2), .val (.int q3), .val (.int q4), .val (.int q5), .val (.int (Int32.ofNat m1)), .val (.int q2), .val (.int q3), .val (.int (i2c (q4 ^^^ ((ushr wb (2 : Int32)) &&& (255 : Int32))))), .val (.int ((ushr wb (2 : Int32)) &&& (255 : Int32))), .val (.int ((wb &&& (3 : Int32)) % (3 : Int32))), .unset, .unset, .unset, .unset, .unset, .unset, .unset, .unset, .unset] [])) t_
                  exact k_)
                exact ⟨s₁, X0, e0, fun t_ k_ => s36 t_ (castTop (by simp only [esl7, esl8, hq9, hq10, hq11, hq12, if_neg h14, if_neg h17, if_pos h20, if_neg h22, if_neg h31, if_neg h34]) k_)⟩
        · have s37 : ∀ t_, Steps p.tables e below (s₁.setTop (mkF m 208 #[.val (.int wa), .val (.int wb), .val (.long ls), .second, .val (.long ms), .second, .val (.int sel), .val (.int (Int32.ofNat m1)), .val (.int q2), .val (.int q3), .val (.int q4), .val (.int q5), .val (.int (Int32.ofNat m1)), .val (.int q2), .val (.int q3), .val (.int q4), .unset, .unset, .unset, .unset, .unset, .unset, .unset, .unset, .unset, .unset, .unset] [])) t_ → Steps p.tables e below (s₁.setTop (entryFrame m #[(.int wa), (.int wb), (.long ls), (.long ms), (.int sel)] maxLocals)) t_ := fun t_ k_ => s19 t_ (by
            show Steps p.tables e below (s₁.setTop (mkF m 140 #[.val (.int wa), .val (.int wb), .val (.long ls), .second, .val (.long ms), .second, .val (.int sel), .val (.int (Int32.ofNat m1)), .val (.int q2), .val (.int q3), .val (.int q4), .val (.int q5), .val (.int (Int32.ofNat m1)), .val (.int q2), .val (.int q3), .val (.int q4), .unset, .unset, .unset, .unset, .unset, .unset, .unset, .unset, .unset, .unset, .unset] [(.int (2 : Int32)), (.int q5)])) t_
            refine XS.icmpYes X0.here hx rfl (pc0 := 140) (pc' := 208) rfl (Jvm.hb hby at_140) rfl (feq h20).2 (by decide) (by decide) ?_
            show Steps p.tables e below (s₁.setTop (mkF m 208 #[.val (.int wa), .val (.int wb), .val (.long ls), .second, .val (.long ms), .second, .val (.int sel), .val (.int (Int32.ofNat m1)), .val (.int q2), .val (.int q3), .val (.int q4), .val (.int q5), .val (.int (Int32.ofNat m1)), .val (.int q2), .val (.int q3), .val (.int q4), .unset, .unset, .unset, .unset, .unset, .unset, .unset, .unset, .unset, .unset, .unset] [])) _
            show Steps p.tables e below (s₁.setTop (mkF m 208 #[.val (.int wa), .val (.int wb), .val (.long ls), .second, .val (.long ms), .second, .val (.int sel), .val (.int (Int32.ofNat m1)), .val (.int q2), .val (.int q3), .val (.int q4), .val (.int q5), .val (.int (Int32.ofNat m1)), .val (.int q2), .val (.int q3), .val (.int q4), .unset, .unset, .unset, .unset, .unset, .unset, .unset, .unset, .unset, .unset, .unset] [])) t_
            exact k_)
          exact ⟨s₁, X0, e0, fun t_ k_ => s37 t_ (castTop (by simp only [esl7, esl8, hq9, hq10, hq11, hq12, if_neg h14, if_neg h17, if_neg h20]) k_)⟩)
  obtain ⟨q38, hq38⟩ : ∃ z : Int32, z = (sel &&& (4 : Int32)) := ⟨_, rfl⟩
  have s39 : ∀ t_, Steps p.tables e below (T13.setTop (mkF m 216 #[.val (.int wa), .val (.int wb), .val (.long ls), .second, .val (.long ms), .second, .val (.int sel), .val (.int (Int32.ofNat m1)), .val (.int q2), .val (.int q3), .val (.int q4), .val (.int q5), .val (.int q9), .val (.int q10), .val (.int q11), .val (.int q12), .val (.int (ls.toInt32)), sl8, .unset, .unset, .unset, .unset, .unset, .unset, .unset, .unset, .unset] [(.int q38)])) t_ → Steps p.tables e below (s₁.setTop (entryFrame m #[(.int wa), (.int wb), (.long ls), (.long ms), (.int sel)] maxLocals)) t_ := fun t_ k_ => s13 t_ (by
    show Steps p.tables e below (T13.setTop (mkF m 208 #[.val (.int wa), .val (.int wb), .val (.long ls), .second, .val (.long ms), .second, .val (.int sel), .val (.int (Int32.ofNat m1)), .val (.int q2), .val (.int q3), .val (.int q4), .val (.int q5), .val (.int q9), .val (.int q10), .val (.int q11), .val (.int q12), sl7, sl8, .unset, .unset, .unset, .unset, .unset, .unset, .unset, .unset, .unset] [])) t_
    refine XS.lloadN X13.here hx rfl (Jvm.hb hby at_208) rfl ?_
    refine XS.l2i X13.here hx rfl (Jvm.hb hby at_209) rfl ?_
    refine XS.istore X13.here hx rfl (Jvm.hb hby at_210) rfl (l' := #[.val (.int wa), .val (.int wb), .val (.long ls), .second, .val (.long ms), .second, .val (.int sel), .val (.int (Int32.ofNat m1)), .val (.int q2), .val (.int q3), .val (.int q4), .val (.int q5), .val (.int q9), .val (.int q10), .val (.int q11), .val (.int q12), .val (.int (ls.toInt32)), sl8, .unset, .unset, .unset, .unset, .unset, .unset, .unset, .unset, .unset]) (os_rmLaw_210 hsl7) ?_
    refine XS.iload X13.here hx rfl (Jvm.hb hby at_212) rfl ?_
    refine XS.iconst X13.here hx rfl (Jvm.hb hby at_214) ?_
    refine XS.iand X13.here hx rfl (Jvm.hb hby at_215) rfl ?_
    show Steps p.tables e below (T13.setTop (mkF m 216 #[.val (.int wa), .val (.int wb), .val (.long ls), .second, .val (.long ms), .second, .val (.int sel), .val (.int (Int32.ofNat m1)), .val (.int q2), .val (.int q3), .val (.int q4), .val (.int q5), .val (.int q9), .val (.int q10), .val (.int q11), .val (.int q12), .val (.int (ls.toInt32)), sl8, .unset, .unset, .unset, .unset, .unset, .unset, .unset, .unset, .unset] [(.int (sel &&& (4 : Int32)))])) _
    exact castTop (by simp only [hq38]) k_)
  obtain ⟨q40, hq40⟩ : ∃ z : Int32, z = (if q38 = (0 : Int32) then ((ushrJ ls (32 : Int32)).toInt32) else (ls.toInt32)) := ⟨_, rfl⟩
  obtain ⟨T41, X41, e41, s41⟩ := seg X13 (fun T' => T'.heap = h0 ∧ ∀ t_, Steps p.tables e below (T'.setTop (mkF m 229 #[.val (.int wa), .val (.int wb), .val (.long ls), .second, .val (.long ms), .second, .val (.int sel), .val (.int (Int32.ofNat m1)), .val (.int q2), .val (.int q3), .val (.int q4), .val (.int q5), .val (.int q9), .val (.int q10), .val (.int q11), .val (.int q12), .val (.int (ls.toInt32)), sl8, .unset, .unset, .unset, .unset, .unset, .unset, .unset, .unset, .unset] [(.int q40)])) t_ → Steps p.tables e below (s₁.setTop (entryFrame m #[(.int wa), (.int wb), (.long ls), (.long ms), (.int sel)] maxLocals)) t_) (by
    by_cases h42 : q38 = (0 : Int32)
    · have s43 : ∀ t_, Steps p.tables e below (T13.setTop (mkF m 229 #[.val (.int wa), .val (.int wb), .val (.long ls), .second, .val (.long ms), .second, .val (.int sel), .val (.int (Int32.ofNat m1)), .val (.int q2), .val (.int q3), .val (.int q4), .val (.int q5), .val (.int q9), .val (.int q10), .val (.int q11), .val (.int q12), .val (.int (ls.toInt32)), sl8, .unset, .unset, .unset, .unset, .unset, .unset, .unset, .unset, .unset] [(.int ((ushrJ ls (32 : Int32)).toInt32))])) t_ → Steps p.tables e below (s₁.setTop (entryFrame m #[(.int wa), (.int wb), (.long ls), (.long ms), (.int sel)] maxLocals)) t_ := fun t_ k_ => s39 t_ (by
        show Steps p.tables e below (T13.setTop (mkF m 216 #[.val (.int wa), .val (.int wb), .val (.long ls), .second, .val (.long ms), .second, .val (.int sel), .val (.int (Int32.ofNat m1)), .val (.int q2), .val (.int q3), .val (.int q4), .val (.int q5), .val (.int q9), .val (.int q10), .val (.int q11), .val (.int q12), .val (.int (ls.toInt32)), sl8, .unset, .unset, .unset, .unset, .unset, .unset, .unset, .unset, .unset] [(.int q38)])) t_
        refine XS.ifYes X13.here hx rfl (pc0 := 216) (pc' := 224) rfl (Jvm.hb hby at_216) rfl ((if0 _ _).trans (teq h42).1) (by decide) (by decide) ?_
        show Steps p.tables e below (T13.setTop (mkF m 224 #[.val (.int wa), .val (.int wb), .val (.long ls), .second, .val (.long ms), .second, .val (.int sel), .val (.int (Int32.ofNat m1)), .val (.int q2), .val (.int q3), .val (.int q4), .val (.int q5), .val (.int q9), .val (.int q10), .val (.int q11), .val (.int q12), .val (.int (ls.toInt32)), sl8, .unset, .unset, .unset, .unset, .unset, .unset, .unset, .unset, .unset] [])) _
        refine XS.lloadN X13.here hx rfl (Jvm.hb hby at_224) rfl ?_
        refine XS.bipush X13.here hx rfl (Jvm.hb hby at_225) ?_
        refine XS.lushr X13.here hx rfl (Jvm.hb hby at_227) rfl ?_
        refine XS.l2i X13.here hx rfl (Jvm.hb hby at_228) rfl ?_
        show Steps p.tables e below (T13.setTop (mkF m 229 #[.val (.int wa), .val (.int wb), .val (.long ls), .second, .val (.long ms), .second, .val (.int sel), .val (.int (Int32.ofNat m1)), .val (.int q2), .val (.int q3), .val (.int q4), .val (.int q5), .val (.int q9), .val (.int q10), .val (.int q11), .val (.int q12), .val (.int (ls.toInt32)), sl8, .unset, .unset, .unset, .unset, .unset, .unset, .unset, .unset, .unset] [(.int ((ushrJ ls (32 : Int32)).toInt32))])) t_
        exact k_)
      exact ⟨T13, X13, e13, fun t_ k_ => s43 t_ (castTop (by simp only [hq40, if_pos h42]) k_)⟩
    · have s44 : ∀ t_, Steps p.tables e below (T13.setTop (mkF m 229 #[.val (.int wa), .val (.int wb), .val (.long ls), .second, .val (.long ms), .second, .val (.int sel), .val (.int (Int32.ofNat m1)), .val (.int q2), .val (.int q3), .val (.int q4), .val (.int q5), .val (.int q9), .val (.int q10), .val (.int q11), .val (.int q12), .val (.int (ls.toInt32)), sl8, .unset, .unset, .unset, .unset, .unset, .unset, .unset, .unset, .unset] [(.int (ls.toInt32))])) t_ → Steps p.tables e below (s₁.setTop (entryFrame m #[(.int wa), (.int wb), (.long ls), (.long ms), (.int sel)] maxLocals)) t_ := fun t_ k_ => s39 t_ (by
        show Steps p.tables e below (T13.setTop (mkF m 216 #[.val (.int wa), .val (.int wb), .val (.long ls), .second, .val (.long ms), .second, .val (.int sel), .val (.int (Int32.ofNat m1)), .val (.int q2), .val (.int q3), .val (.int q4), .val (.int q5), .val (.int q9), .val (.int q10), .val (.int q11), .val (.int q12), .val (.int (ls.toInt32)), sl8, .unset, .unset, .unset, .unset, .unset, .unset, .unset, .unset, .unset] [(.int q38)])) t_
        refine XS.ifNo X13.here hx rfl (Jvm.hb hby at_216) rfl ((if0 _ _).trans (feq h42).1) ?_
        show Steps p.tables e below (T13.setTop (mkF m 219 #[.val (.int wa), .val (.int wb), .val (.long ls), .second, .val (.long ms), .second, .val (.int sel), .val (.int (Int32.ofNat m1)), .val (.int q2), .val (.int q3), .val (.int q4), .val (.int q5), .val (.int q9), .val (.int q10), .val (.int q11), .val (.int q12), .val (.int (ls.toInt32)), sl8, .unset, .unset, .unset, .unset, .unset, .unset, .unset, .unset, .unset] [])) _
        refine XS.iload X13.here hx rfl (Jvm.hb hby at_219) rfl ?_
        refine XS.goto X13.here hx rfl (pc0 := 221) (pc' := 229) rfl (Jvm.hb hby at_221) (by decide) (by decide) ?_
        show Steps p.tables e below (T13.setTop (mkF m 229 #[.val (.int wa), .val (.int wb), .val (.long ls), .second, .val (.long ms), .second, .val (.int sel), .val (.int (Int32.ofNat m1)), .val (.int q2), .val (.int q3), .val (.int q4), .val (.int q5), .val (.int q9), .val (.int q10), .val (.int q11), .val (.int q12), .val (.int (ls.toInt32)), sl8, .unset, .unset, .unset, .unset, .unset, .unset, .unset, .unset, .unset] [(.int (ls.toInt32))])) t_
        exact k_)
      exact ⟨T13, X13, e13, fun t_ k_ => s44 t_ (castTop (by simp only [hq40, if_neg h42]) k_)⟩)
  obtain ⟨q45, hq45⟩ : ∃ z : Int32, z = (sel &&& (8 : Int32)) := ⟨_, rfl⟩
  have s46 : ∀ t_, Steps p.tables e below (T41.setTop (mkF m 241 #[.val (.int wa), .val (.int wb), .val (.long ls), .second, .val (.long ms), .second, .val (.int sel), .val (.int (Int32.ofNat m1)), .val (.int q2), .val (.int q3), .val (.int q4), .val (.int q5), .val (.int q9), .val (.int q10), .val (.int q11), .val (.int q12), .val (.int (ls.toInt32)), .val (.int q40), .val (.int (ms.toInt32)), .unset, .unset, .unset, .unset, .unset, .unset, .unset, .unset] [(.int q45)])) t_ → Steps p.tables e below (s₁.setTop (entryFrame m #[(.int wa), (.int wb), (.long ls), (.long ms), (.int sel)] maxLocals)) t_ := fun t_ k_ => s41 t_ (by
    show Steps p.tables e below (T41.setTop (mkF m 229 #[.val (.int wa), .val (.int wb), .val (.long ls), .second, .val (.long ms), .second, .val (.int sel), .val (.int (Int32.ofNat m1)), .val (.int q2), .val (.int q3), .val (.int q4), .val (.int q5), .val (.int q9), .val (.int q10), .val (.int q11), .val (.int q12), .val (.int (ls.toInt32)), sl8, .unset, .unset, .unset, .unset, .unset, .unset, .unset, .unset, .unset] [(.int q40)])) t_
    refine XS.istore X41.here hx rfl (Jvm.hb hby at_229) rfl (l' := #[.val (.int wa), .val (.int wb), .val (.long ls), .second, .val (.long ms), .second, .val (.int sel), .val (.int (Int32.ofNat m1)), .val (.int q2), .val (.int q3), .val (.int q4), .val (.int q5), .val (.int q9), .val (.int q10), .val (.int q11), .val (.int q12), .val (.int (ls.toInt32)), .val (.int q40), .unset, .unset, .unset, .unset, .unset, .unset, .unset, .unset, .unset]) (os_rmLaw_229 hsl8) ?_
    refine XS.lload X41.here hx rfl (Jvm.hb hby at_231) rfl ?_
    refine XS.l2i X41.here hx rfl (Jvm.hb hby at_233) rfl ?_
    refine XS.istore X41.here hx rfl (Jvm.hb hby at_234) rfl (l' := #[.val (.int wa), .val (.int wb), .val (.long ls), .second, .val (.long ms), .second, .val (.int sel), .val (.int (Int32.ofNat m1)), .val (.int q2), .val (.int q3), .val (.int q4), .val (.int q5), .val (.int q9), .val (.int q10), .val (.int q11), .val (.int q12), .val (.int (ls.toInt32)), .val (.int q40), .val (.int (ms.toInt32)), .unset, .unset, .unset, .unset, .unset, .unset, .unset, .unset]) rfl ?_
    refine XS.iload X41.here hx rfl (Jvm.hb hby at_236) rfl ?_
    refine XS.bipush X41.here hx rfl (Jvm.hb hby at_238) ?_
    show Steps p.tables e below (T41.setTop (mkF m 240 #[.val (.int wa), .val (.int wb), .val (.long ls), .second, .val (.long ms), .second, .val (.int sel), .val (.int (Int32.ofNat m1)), .val (.int q2), .val (.int q3), .val (.int q4), .val (.int q5), .val (.int q9), .val (.int q10), .val (.int q11), .val (.int q12), .val (.int (ls.toInt32)), .val (.int q40), .val (.int (ms.toInt32)), .unset, .unset, .unset, .unset, .unset, .unset, .unset, .unset] [(.int (8 : Int32)), (.int sel)])) _
    refine XS.iand X41.here hx rfl (Jvm.hb hby at_240) rfl ?_
    show Steps p.tables e below (T41.setTop (mkF m 241 #[.val (.int wa), .val (.int wb), .val (.long ls), .second, .val (.long ms), .second, .val (.int sel), .val (.int (Int32.ofNat m1)), .val (.int q2), .val (.int q3), .val (.int q4), .val (.int q5), .val (.int q9), .val (.int q10), .val (.int q11), .val (.int q12), .val (.int (ls.toInt32)), .val (.int q40), .val (.int (ms.toInt32)), .unset, .unset, .unset, .unset, .unset, .unset, .unset, .unset] [(.int (sel &&& (8 : Int32)))])) t_
    exact castTop (by simp only [hq45]) k_)
  obtain ⟨q47, hq47⟩ : ∃ z : Int32, z = (if q45 = (0 : Int32) then ((ushrJ ms (32 : Int32)).toInt32) else (ms.toInt32)) := ⟨_, rfl⟩
  obtain ⟨T48, X48, e48, s48⟩ := seg X41 (fun T' => T'.heap = h0 ∧ ∀ t_, Steps p.tables e below (T'.setTop (mkF m 255 #[.val (.int wa), .val (.int wb), .val (.long ls), .second, .val (.long ms), .second, .val (.int sel), .val (.int (Int32.ofNat m1)), .val (.int q2), .val (.int q3), .val (.int q4), .val (.int q5), .val (.int q9), .val (.int q10), .val (.int q11), .val (.int q12), .val (.int (ls.toInt32)), .val (.int q40), .val (.int (ms.toInt32)), .unset, .unset, .unset, .unset, .unset, .unset, .unset, .unset] [(.int q47)])) t_ → Steps p.tables e below (s₁.setTop (entryFrame m #[(.int wa), (.int wb), (.long ls), (.long ms), (.int sel)] maxLocals)) t_) (by
    by_cases h49 : q45 = (0 : Int32)
    · have s50 : ∀ t_, Steps p.tables e below (T41.setTop (mkF m 255 #[.val (.int wa), .val (.int wb), .val (.long ls), .second, .val (.long ms), .second, .val (.int sel), .val (.int (Int32.ofNat m1)), .val (.int q2), .val (.int q3), .val (.int q4), .val (.int q5), .val (.int q9), .val (.int q10), .val (.int q11), .val (.int q12), .val (.int (ls.toInt32)), .val (.int q40), .val (.int (ms.toInt32)), .unset, .unset, .unset, .unset, .unset, .unset, .unset, .unset] [(.int ((ushrJ ms (32 : Int32)).toInt32))])) t_ → Steps p.tables e below (s₁.setTop (entryFrame m #[(.int wa), (.int wb), (.long ls), (.long ms), (.int sel)] maxLocals)) t_ := fun t_ k_ => s46 t_ (by
        show Steps p.tables e below (T41.setTop (mkF m 241 #[.val (.int wa), .val (.int wb), .val (.long ls), .second, .val (.long ms), .second, .val (.int sel), .val (.int (Int32.ofNat m1)), .val (.int q2), .val (.int q3), .val (.int q4), .val (.int q5), .val (.int q9), .val (.int q10), .val (.int q11), .val (.int q12), .val (.int (ls.toInt32)), .val (.int q40), .val (.int (ms.toInt32)), .unset, .unset, .unset, .unset, .unset, .unset, .unset, .unset] [(.int q45)])) t_
        refine XS.ifYes X41.here hx rfl (pc0 := 241) (pc' := 249) rfl (Jvm.hb hby at_241) rfl ((if0 _ _).trans (teq h49).1) (by decide) (by decide) ?_
        show Steps p.tables e below (T41.setTop (mkF m 249 #[.val (.int wa), .val (.int wb), .val (.long ls), .second, .val (.long ms), .second, .val (.int sel), .val (.int (Int32.ofNat m1)), .val (.int q2), .val (.int q3), .val (.int q4), .val (.int q5), .val (.int q9), .val (.int q10), .val (.int q11), .val (.int q12), .val (.int (ls.toInt32)), .val (.int q40), .val (.int (ms.toInt32)), .unset, .unset, .unset, .unset, .unset, .unset, .unset, .unset] [])) _
        refine XS.lload X41.here hx rfl (Jvm.hb hby at_249) rfl ?_
        refine XS.bipush X41.here hx rfl (Jvm.hb hby at_251) ?_
        refine XS.lushr X41.here hx rfl (Jvm.hb hby at_253) rfl ?_
        refine XS.l2i X41.here hx rfl (Jvm.hb hby at_254) rfl ?_
        show Steps p.tables e below (T41.setTop (mkF m 255 #[.val (.int wa), .val (.int wb), .val (.long ls), .second, .val (.long ms), .second, .val (.int sel), .val (.int (Int32.ofNat m1)), .val (.int q2), .val (.int q3), .val (.int q4), .val (.int q5), .val (.int q9), .val (.int q10), .val (.int q11), .val (.int q12), .val (.int (ls.toInt32)), .val (.int q40), .val (.int (ms.toInt32)), .unset, .unset, .unset, .unset, .unset, .unset, .unset, .unset] [(.int ((ushrJ ms (32 : Int32)).toInt32))])) t_
        exact k_)
      exact ⟨T41, X41, e41, fun t_ k_ => s50 t_ (castTop (by simp only [hq47, if_pos h49]) k_)⟩
    · have s51 : ∀ t_, Steps p.tables e below (T41.setTop (mkF m 255 #[.val (.int wa), .val (.int wb), .val (.long ls), .second, .val (.long ms), .second, .val (.int sel), .val (.int (Int32.ofNat m1)), .val (.int q2), .val (.int q3), .val (.int q4), .val (.int q5), .val (.int q9), .val (.int q10), .val (.int q11), .val (.int q12), .val (.int (ls.toInt32)), .val (.int q40), .val (.int (ms.toInt32)), .unset, .unset, .unset, .unset, .unset, .unset, .unset, .unset] [(.int (ms.toInt32))])) t_ → Steps p.tables e below (s₁.setTop (entryFrame m #[(.int wa), (.int wb), (.long ls), (.long ms), (.int sel)] maxLocals)) t_ := fun t_ k_ => s46 t_ (by
        show Steps p.tables e below (T41.setTop (mkF m 241 #[.val (.int wa), .val (.int wb), .val (.long ls), .second, .val (.long ms), .second, .val (.int sel), .val (.int (Int32.ofNat m1)), .val (.int q2), .val (.int q3), .val (.int q4), .val (.int q5), .val (.int q9), .val (.int q10), .val (.int q11), .val (.int q12), .val (.int (ls.toInt32)), .val (.int q40), .val (.int (ms.toInt32)), .unset, .unset, .unset, .unset, .unset, .unset, .unset, .unset] [(.int q45)])) t_
        refine XS.ifNo X41.here hx rfl (Jvm.hb hby at_241) rfl ((if0 _ _).trans (feq h49).1) ?_
        show Steps p.tables e below (T41.setTop (mkF m 244 #[.val (.int wa), .val (.int wb), .val (.long ls), .second, .val (.long ms), .second, .val (.int sel), .val (.int (Int32.ofNat m1)), .val (.int q2), .val (.int q3), .val (.int q4), .val (.int q5), .val (.int q9), .val (.int q10), .val (.int q11), .val (.int q12), .val (.int (ls.toInt32)), .val (.int q40), .val (.int (ms.toInt32)), .unset, .unset, .unset, .unset, .unset, .unset, .unset, .unset] [])) _
        refine XS.iload X41.here hx rfl (Jvm.hb hby at_244) rfl ?_
        refine XS.goto X41.here hx rfl (pc0 := 246) (pc' := 255) rfl (Jvm.hb hby at_246) (by decide) (by decide) ?_
        show Steps p.tables e below (T41.setTop (mkF m 255 #[.val (.int wa), .val (.int wb), .val (.long ls), .second, .val (.long ms), .second, .val (.int sel), .val (.int (Int32.ofNat m1)), .val (.int q2), .val (.int q3), .val (.int q4), .val (.int q5), .val (.int q9), .val (.int q10), .val (.int q11), .val (.int q12), .val (.int (ls.toInt32)), .val (.int q40), .val (.int (ms.toInt32)), .unset, .unset, .unset, .unset, .unset, .unset, .unset, .unset] [(.int (ms.toInt32))])) t_
        exact k_)
      exact ⟨T41, X41, e41, fun t_ k_ => s51 t_ (castTop (by simp only [hq47, if_neg h49]) k_)⟩)
  have rg52 : ¬ (q2 < (0 : Int32)) ∧ ¬ ((255 : Int32) < q2) := by
    rw [hq2]; exact own_b255 _
  have rg53 : ¬ (q3 < (0 : Int32)) ∧ ¬ ((255 : Int32) < q3) := by
    rw [hq3]; exact own_b255 _
  have rg54 : ¬ (q4 < (0 : Int32)) ∧ ¬ ((255 : Int32) < q4) := by
    rw [hq4]; exact own_b255 _
  have rg55 : ¬ (q10 < (0 : Int32)) ∧ ¬ ((255 : Int32) < q10) := by
    rw [hq10]
    repeat' split
    all_goals first | with_reducible exact own_b255 _ | with_reducible exact rg52 | with_reducible exact own_x255 rg52 (own_k255 _) | exact own_x255 rg52 ⟨by decide, by decide⟩
  have rg56 : ¬ (q11 < (0 : Int32)) ∧ ¬ ((255 : Int32) < q11) := by
    rw [hq11]
    repeat' split
    all_goals first | with_reducible exact own_b255 _ | with_reducible exact rg53 | with_reducible exact own_x255 rg53 (own_k255 _) | exact own_x255 rg53 ⟨by decide, by decide⟩
  have rg57 : ¬ (q12 < (0 : Int32)) ∧ ¬ ((255 : Int32) < q12) := by
    rw [hq12]
    repeat' split
    all_goals first | with_reducible exact own_b255 _ | with_reducible exact rg54 | with_reducible exact own_x255 rg54 (own_k255 _) | exact own_x255 rg54 ⟨by decide, by decide⟩
  obtain ⟨nB, hnB, hlB⟩ : ∃ n : Nat, q9 = Int32.ofNat n ∧ n < 4 := by
    rw [hq9]
    repeat' split
    all_goals first | with_reducible exact own_and3 _ | exact ⟨_, rfl, by omega⟩
  have s58 : ∀ t_, Steps p.tables e below (T48.setTop (mkF m 265 #[.val (.int wa), .val (.int wb), .val (.long ls), .second, .val (.long ms), .second, .val (.int sel), .val (.int (Int32.ofNat m1)), .val (.int q2), .val (.int q3), .val (.int q4), .val (.int q5), .val (.int q9), .val (.int q10), .val (.int q11), .val (.int q12), .val (.int (ls.toInt32)), .val (.int q40), .val (.int (ms.toInt32)), .val (.int q47), .unset, .unset, .unset, .unset, .unset, .unset, .unset] [(.int q4), (.int q3), (.int q2), (.int (Int32.ofNat m1))])) t_ → Steps p.tables e below (s₁.setTop (entryFrame m #[(.int wa), (.int wb), (.long ls), (.long ms), (.int sel)] maxLocals)) t_ := fun t_ k_ => s48 t_ (by
    show Steps p.tables e below (T48.setTop (mkF m 255 #[.val (.int wa), .val (.int wb), .val (.long ls), .second, .val (.long ms), .second, .val (.int sel), .val (.int (Int32.ofNat m1)), .val (.int q2), .val (.int q3), .val (.int q4), .val (.int q5), .val (.int q9), .val (.int q10), .val (.int q11), .val (.int q12), .val (.int (ls.toInt32)), .val (.int q40), .val (.int (ms.toInt32)), .unset, .unset, .unset, .unset, .unset, .unset, .unset, .unset] [(.int q47)])) t_
    refine XS.istore X48.here hx rfl (Jvm.hb hby at_255) rfl (l' := #[.val (.int wa), .val (.int wb), .val (.long ls), .second, .val (.long ms), .second, .val (.int sel), .val (.int (Int32.ofNat m1)), .val (.int q2), .val (.int q3), .val (.int q4), .val (.int q5), .val (.int q9), .val (.int q10), .val (.int q11), .val (.int q12), .val (.int (ls.toInt32)), .val (.int q40), .val (.int (ms.toInt32)), .val (.int q47), .unset, .unset, .unset, .unset, .unset, .unset, .unset]) rfl ?_
    refine XS.iload X48.here hx rfl (Jvm.hb hby at_257) rfl ?_
    refine XS.iload X48.here hx rfl (Jvm.hb hby at_259) rfl ?_
    refine XS.iload X48.here hx rfl (Jvm.hb hby at_261) rfl ?_
    refine XS.iload X48.here hx rfl (Jvm.hb hby at_263) rfl ?_
    show Steps p.tables e below (T48.setTop (mkF m 265 #[.val (.int wa), .val (.int wb), .val (.long ls), .second, .val (.long ms), .second, .val (.int sel), .val (.int (Int32.ofNat m1)), .val (.int q2), .val (.int q3), .val (.int q4), .val (.int q5), .val (.int q9), .val (.int q10), .val (.int q11), .val (.int q12), .val (.int (ls.toInt32)), .val (.int q40), .val (.int (ms.toInt32)), .val (.int q47), .unset, .unset, .unset, .unset, .unset, .unset, .unset] [(.int q4), (.int q3), (.int q2), (.int (Int32.ofNat m1))])) _
    show Steps p.tables e below (T48.setTop (mkF m 265 #[.val (.int wa), .val (.int wb), .val (.long ls), .second, .val (.long ms), .second, .val (.int sel), .val (.int (Int32.ofNat m1)), .val (.int q2), .val (.int q3), .val (.int q4), .val (.int q5), .val (.int q9), .val (.int q10), .val (.int q11), .val (.int q12), .val (.int (ls.toInt32)), .val (.int q40), .val (.int (ms.toInt32)), .val (.int q47), .unset, .unset, .unset, .unset, .unset, .unset, .unset] [(.int q4), (.int q3), (.int q2), (.int (Int32.ofNat m1))])) t_
    exact k_)
  have Zc59 : n0 ≤ h0.size := by omega
  obtain ⟨_, _, ⟨T60, L60, k60, n60⟩, -, Xr60, hSr60, hg60, ⟨Lc60, hQ60, l60, y60, z60, Cp60⟩, st60⟩ := callSS X48 hx (y := (⟨"com/example/coyote_hill/coyotehill/LeaseRequestEqualsPinLaw", "mk", "(ICCC)Ljava/lang/String;"⟩ : MethodName)) hown (mvT hZ (hw _ (List.mem_of_getElem? (i := 0) rfl))) (mvT hZ (hw _ (List.mem_of_getElem? (i := 1) rfl))) (mvT hZ (hw _ (List.mem_of_getElem? (i := 2) rfl))) (mvT hZ (hw _ (List.mem_of_getElem? (i := 3) rfl))) (by decide) (backOfSH (s := s) (vm0 := s.vm) (W := 0) (rmMk l Z a0 hw [] q2 q3 q4 cst m1 h0 n0 Zc59 I1 OX (hcst : ¬ (cst = (0 : Int32))) (by first | assumption | rfl | decide | omega : m1 < 4) (rg52.1 : ¬ (q2 < (0 : Int32))) (rg53.1 : ¬ (q3 < (0 : Int32))) (rg54.1 : ¬ (q4 < (0 : Int32))) (rg52.2 : ¬ ((255 : Int32) < q2)) (rg53.2 : ¬ ((255 : Int32) < q3)) (rg54.2 : ¬ ((255 : Int32) < q4))) hZ (hw _ (List.mem_of_getElem? (i := 3) rfl)) (hw _ (List.mem_of_getElem? (i := 2) rfl)) (by decide) (by decide) hEL CR.1) (g := (mkF m 265 #[.val (.int wa), .val (.int wb), .val (.long ls), .second, .val (.long ms), .second, .val (.int sel), .val (.int (Int32.ofNat m1)), .val (.int q2), .val (.int q3), .val (.int q4), .val (.int q5), .val (.int q9), .val (.int q10), .val (.int q11), .val (.int q12), .val (.int (ls.toInt32)), .val (.int q40), .val (.int (ms.toInt32)), .val (.int q47), .unset, .unset, .unset, .unset, .unset, .unset, .unset] [(.int q4), (.int q3), (.int q2), (.int (Int32.ofNat m1))])) rfl (by rw [hml]; rfl) (argsL := [(.int (Int32.ofNat m1)), (.int q2), (.int q3), (.int q4)]) (rest := []) (lenOf pd__ICCC_Ljava_lang_String_ rfl) rfl (by show 2 * 0 + _ ≤ _; exact Nat.le_of_eq rfl) (Jvm.hb hby at_265) (fun _ _ => ⟨rfl, e48, (by decide : 0 + 6 ≤ _), (by decide : 0 + 15 ≤ _)⟩)
  dsimp only [Pt.U, Pt.locs, Pt.cells, Pt.slots] at Xr60 hSr60 hg60 l60 y60 z60 st60 hQ60 Cp60
  subst l60 y60 z60
  obtain ⟨X60, hS, hZ, hown⟩ := rebS (own := "com/example/coyote_hill/coyotehill/LeaseRequestEqualsPinLaw") hS (by first | exact Nat.le_refl _ | (rw [e48]; exact hk)) Xr60 hSr60 hg60 hZ hown
  obtain ⟨a_60, b_60, kb_60, rfl, N60q, K60, Fq60_0, Fq60_1, Fq60_2, Fq60_3, P60_0⟩ := hQ60
  have N60 := Fr.app N0 N60q
  obtain ⟨h60, e60⟩ : ∃ z, T60.heap = z := ⟨_, rfl⟩
  rw [e60] at K60 Fq60_0 Fq60_1 Fq60_2 Fq60_3 Cp60
  have hk : T60.heap.size ≤ h60.size := Nat.le_of_eq (congrArg Array.size e60)
  have z61 : h0.size ≤ h60.size := K60.1
  have CR := CR.trans Cp60
  have lt60_0 : @LT.lt Nat _ a_60 h60.size := Fq60_0.lt
  have lt60_3 : @LT.lt Nat _ b_60 h60.size := Fq60_3.lt
  have s62 : ∀ t_, Steps p.tables e below (T60.setTop (mkF m 278 #[.val (.int wa), .val (.int wb), .val (.long ls), .second, .val (.long ms), .second, .val (.int sel), .val (.int (Int32.ofNat m1)), .val (.int q2), .val (.int q3), .val (.int q4), .val (.int q5), .val (.int (Int32.ofNat nB)), .val (.int q10), .val (.int q11), .val (.int q12), .val (.int (ls.toInt32)), .val (.int q40), .val (.int (ms.toInt32)), .val (.int q47), .val (.ref a_60), .unset, .unset, .unset, .unset, .unset, .unset] [(.int q12), (.int q11), (.int q10), (.int (Int32.ofNat nB))])) t_ → Steps p.tables e below (s₁.setTop (entryFrame m #[(.int wa), (.int wb), (.long ls), (.long ms), (.int sel)] maxLocals)) t_ := fun t_ k_ => s58 t_ (by
    show Steps p.tables e below (T48.setTop (mkF m 265 #[.val (.int wa), .val (.int wb), .val (.long ls), .second, .val (.long ms), .second, .val (.int sel), .val (.int (Int32.ofNat m1)), .val (.int q2), .val (.int q3), .val (.int q4), .val (.int q5), .val (.int q9), .val (.int q10), .val (.int q11), .val (.int q12), .val (.int (ls.toInt32)), .val (.int q40), .val (.int (ms.toInt32)), .val (.int q47), .unset, .unset, .unset, .unset, .unset, .unset, .unset] [(.int q4), (.int q3), (.int q2), (.int (Int32.ofNat m1))])) t_
    refine st60.trans ?_
    show Steps p.tables e below (T60.setTop (mkF m 268 #[.val (.int wa), .val (.int wb), .val (.long ls), .second, .val (.long ms), .second, .val (.int sel), .val (.int (Int32.ofNat m1)), .val (.int q2), .val (.int q3), .val (.int q4), .val (.int q5), .val (.int q9), .val (.int q10), .val (.int q11), .val (.int q12), .val (.int (ls.toInt32)), .val (.int q40), .val (.int (ms.toInt32)), .val (.int q47), .unset, .unset, .unset, .unset, .unset, .unset, .unset] [(.ref a_60)])) _
    refine XS.astore X60.here hx rfl (Jvm.hb hby at_268) rfl rfl (l' := #[.val (.int wa), .val (.int wb), .val (.long ls), .second, .val (.long ms), .second, .val (.int sel), .val (.int (Int32.ofNat m1)), .val (.int q2), .val (.int q3), .val (.int q4), .val (.int q5), .val (.int q9), .val (.int q10), .val (.int q11), .val (.int q12), .val (.int (ls.toInt32)), .val (.int q40), .val (.int (ms.toInt32)), .val (.int q47), .val (.ref a_60), .unset, .unset, .unset, .unset, .unset, .unset]) rfl ?_
    refine XS.iload X60.here hx rfl (Jvm.hb hby at_270) rfl ?_
    refine XS.iload X60.here hx rfl (Jvm.hb hby at_272) rfl ?_
    refine XS.iload X60.here hx rfl (Jvm.hb hby at_274) rfl ?_
    refine XS.iload X60.here hx rfl (Jvm.hb hby at_276) rfl ?_
    show Steps p.tables e below (T60.setTop (mkF m 278 #[.val (.int wa), .val (.int wb), .val (.long ls), .second, .val (.long ms), .second, .val (.int sel), .val (.int (Int32.ofNat m1)), .val (.int q2), .val (.int q3), .val (.int q4), .val (.int q5), .val (.int q9), .val (.int q10), .val (.int q11), .val (.int q12), .val (.int (ls.toInt32)), .val (.int q40), .val (.int (ms.toInt32)), .val (.int q47), .val (.ref a_60), .unset, .unset, .unset, .unset, .unset, .unset] [(.int q12), (.int q11), (.int q10), (.int q9)])) _
    refine castTop (g' := (mkF m 278 #[.val (.int wa), .val (.int wb), .val (.long ls), .second, .val (.long ms), .second, .val (.int sel), .val (.int (Int32.ofNat m1)), .val (.int q2), .val (.int q3), .val (.int q4), .val (.int q5), .val (.int (Int32.ofNat nB)), .val (.int q10), .val (.int q11), .val (.int q12), .val (.int (ls.toInt32)), .val (.int q40), .val (.int (ms.toInt32)), .val (.int q47), .val (.ref a_60), .unset, .unset, .unset, .unset, .unset, .unset] [(.int q12), (.int q11), (.int q10), (.int (Int32.ofNat nB))])) (by rw [hnB]) ?_
    show Steps p.tables e below (T60.setTop (mkF m 278 #[.val (.int wa), .val (.int wb), .val (.long ls), .second, .val (.long ms), .second, .val (.int sel), .val (.int (Int32.ofNat m1)), .val (.int q2), .val (.int q3), .val (.int q4), .val (.int q5), .val (.int (Int32.ofNat nB)), .val (.int q10), .val (.int q11), .val (.int q12), .val (.int (ls.toInt32)), .val (.int q40), .val (.int (ms.toInt32)), .val (.int q47), .val (.ref a_60), .unset, .unset, .unset, .unset, .unset, .unset] [(.int q12), (.int q11), (.int q10), (.int (Int32.ofNat nB))])) _
    show Steps p.tables e below (T60.setTop (mkF m 278 #[.val (.int wa), .val (.int wb), .val (.long ls), .second, .val (.long ms), .second, .val (.int sel), .val (.int (Int32.ofNat m1)), .val (.int q2), .val (.int q3), .val (.int q4), .val (.int q5), .val (.int (Int32.ofNat nB)), .val (.int q10), .val (.int q11), .val (.int q12), .val (.int (ls.toInt32)), .val (.int q40), .val (.int (ms.toInt32)), .val (.int q47), .val (.ref a_60), .unset, .unset, .unset, .unset, .unset, .unset] [(.int q12), (.int q11), (.int q10), (.int (Int32.ofNat nB))])) t_
    exact k_)
  have O63 : Old Z n0 h60 := (OX.keep K60 all0)
  have Zc64 : n0 ≤ h60.size := by omega
  obtain ⟨_, _, ⟨T65, L65, k65, n65⟩, -, Xr65, hSr65, hg65, ⟨Lc65, hQ65, l65, y65, z65, Cp65⟩, st65⟩ := callSS X60 hx (y := (⟨"com/example/coyote_hill/coyotehill/LeaseRequestEqualsPinLaw", "mk", "(ICCC)Ljava/lang/String;"⟩ : MethodName)) hown (mvT hZ (hw _ (List.mem_of_getElem? (i := 0) rfl))) (mvT hZ (hw _ (List.mem_of_getElem? (i := 1) rfl))) (mvT hZ (hw _ (List.mem_of_getElem? (i := 2) rfl))) (mvT hZ (hw _ (List.mem_of_getElem? (i := 3) rfl))) (by decide) (backOfSH (s := s) (vm0 := T60.vm) (W := 0) (rmMk l Z a0 hw [] q10 q11 q12 cst nB h60 n0 Zc64 I1 O63 (hcst : ¬ (cst = (0 : Int32))) (by first | assumption | rfl | decide | omega : nB < 4) (rg55.1 : ¬ (q10 < (0 : Int32))) (rg56.1 : ¬ (q11 < (0 : Int32))) (rg57.1 : ¬ (q12 < (0 : Int32))) (rg55.2 : ¬ ((255 : Int32) < q10)) (rg56.2 : ¬ ((255 : Int32) < q11)) (rg57.2 : ¬ ((255 : Int32) < q12))) hZ (hw _ (List.mem_of_getElem? (i := 3) rfl)) (hw _ (List.mem_of_getElem? (i := 2) rfl)) (by decide) (by decide) hEL CR.1) (g := (mkF m 278 #[.val (.int wa), .val (.int wb), .val (.long ls), .second, .val (.long ms), .second, .val (.int sel), .val (.int (Int32.ofNat m1)), .val (.int q2), .val (.int q3), .val (.int q4), .val (.int q5), .val (.int (Int32.ofNat nB)), .val (.int q10), .val (.int q11), .val (.int q12), .val (.int (ls.toInt32)), .val (.int q40), .val (.int (ms.toInt32)), .val (.int q47), .val (.ref a_60), .unset, .unset, .unset, .unset, .unset, .unset] [(.int q12), (.int q11), (.int q10), (.int (Int32.ofNat nB))])) rfl (by rw [hml]; rfl) (argsL := [(.int (Int32.ofNat nB)), (.int q10), (.int q11), (.int q12)]) (rest := []) (lenOf pd__ICCC_Ljava_lang_String_ rfl) rfl (by show 2 * 0 + _ ≤ _; exact Nat.le_of_eq rfl) (Jvm.hb hby at_278) (fun _ _ => ⟨rfl, e60, (by decide : 6 + 6 ≤ _), (by decide : 15 + 15 ≤ _)⟩)
  dsimp only [Pt.U, Pt.locs, Pt.cells, Pt.slots] at Xr65 hSr65 hg65 l65 y65 z65 st65 hQ65 Cp65
  subst l65 y65 z65
  obtain ⟨X65, hS, hZ, hown⟩ := rebS (own := "com/example/coyote_hill/coyotehill/LeaseRequestEqualsPinLaw") hS (by first | exact Nat.le_refl _ | (rw [e60]; exact hk)) Xr65 hSr65 hg65 hZ hown
  obtain ⟨a_65, b_65, kb_65, rfl, N65q, K65, Fq65_0, Fq65_1, Fq65_2, Fq65_3, P65_0⟩ := hQ65
  have N65 := Fr.app N60 N65q
  obtain ⟨h65, e65⟩ : ∃ z, T65.heap = z := ⟨_, rfl⟩
  rw [e65] at K65 Fq65_0 Fq65_1 Fq65_2 Fq65_3 Cp65
  have hk : T65.heap.size ≤ h65.size := Nat.le_of_eq (congrArg Array.size e65)
  have z66 : h60.size ≤ h65.size := K65.1
  have CR := CR.trans Cp65
  have lt65_0 : @LT.lt Nat _ a_65 h65.size := Fq65_0.lt
  have lt65_3 : @LT.lt Nat _ b_65 h65.size := Fq65_3.lt
  obtain ⟨T67, h67, X67, e67, E67, A67, D67, -, st67⟩ := newO X65 hx hZ hown (hw _ (List.mem_of_getElem? (i := 26) rfl)) (hw _ (List.mem_of_getElem? (i := 27) rfl)) (hw _ (List.mem_of_getElem? (i := 28) rfl)) e65 (g := (mkF m 283 #[.val (.int wa), .val (.int wb), .val (.long ls), .second, .val (.long ms), .second, .val (.int sel), .val (.int (Int32.ofNat m1)), .val (.int q2), .val (.int q3), .val (.int q4), .val (.int q5), .val (.int (Int32.ofNat nB)), .val (.int q10), .val (.int q11), .val (.int q12), .val (.int (ls.toInt32)), .val (.int q40), .val (.int (ms.toInt32)), .val (.int q47), .val (.ref a_60), .val (.ref a_65), .unset, .unset, .unset, .unset, .unset] [])) rfl (Jvm.hb hby at_283) (by decide) (by decide)
  obtain ⟨b67, g67⟩ : ∃ z, z = h65.size := ⟨_, rfl⟩
  rw [← g67] at A67 D67 st67
  have z68 : h65.size ≤ h67.size := E67.1
  have Cp68 : CHr Z ELs T65.vm h65 T65.vm h67 := CHr.ext E67 CR.1
  have hk := Nat.le_trans hk z68
  have CR := CR.trans Cp68
  have l67 : b67 < h67.size := A67.lt
  have F69 : Fld Z h67 b67 "com/example/coyote_hill/coyotehill/LeaseRequest" "_worker" "Ljava/lang/String;" .null := D67 (Or.inr (hw _ (List.mem_of_getElem? (i := 40) rfl))) (ty := (.object "java/lang/String")) (by decide)
  have F70 : Fld Z h67 b67 "com/example/coyote_hill/coyotehill/LeaseRequest" "_leaseMs" "I" (.int (0 : Int32)) := D67 (Or.inr (hw _ (List.mem_of_getElem? (i := 42) rfl))) (ty := .int) (by decide)
  have F71 : Fld Z h67 b67 "com/example/coyote_hill/coyotehill/LeaseRequest" "_maxItems" "I" (.int (0 : Int32)) := D67 (Or.inr (hw _ (List.mem_of_getElem? (i := 44) rfl))) (ty := .int) (by decide)
  have s72 : ∀ t_, Steps p.tables e below (T67.setTop (mkF m 293 #[.val (.int wa), .val (.int wb), .val (.long ls), .second, .val (.long ms), .second, .val (.int sel), .val (.int (Int32.ofNat m1)), .val (.int q2), .val (.int q3), .val (.int q4), .val (.int q5), .val (.int (Int32.ofNat nB)), .val (.int q10), .val (.int q11), .val (.int q12), .val (.int (ls.toInt32)), .val (.int q40), .val (.int (ms.toInt32)), .val (.int q47), .val (.ref a_60), .val (.ref a_65), .unset, .unset, .unset, .unset, .unset] [(.int (ms.toInt32)), (.int (ls.toInt32)), (.ref a_60), (.ref b67), (.ref b67)])) t_ → Steps p.tables e below (s₁.setTop (entryFrame m #[(.int wa), (.int wb), (.long ls), (.long ms), (.int sel)] maxLocals)) t_ := fun t_ k_ => s62 t_ (by
    show Steps p.tables e below (T60.setTop (mkF m 278 #[.val (.int wa), .val (.int wb), .val (.long ls), .second, .val (.long ms), .second, .val (.int sel), .val (.int (Int32.ofNat m1)), .val (.int q2), .val (.int q3), .val (.int q4), .val (.int q5), .val (.int (Int32.ofNat nB)), .val (.int q10), .val (.int q11), .val (.int q12), .val (.int (ls.toInt32)), .val (.int q40), .val (.int (ms.toInt32)), .val (.int q47), .val (.ref a_60), .unset, .unset, .unset, .unset, .unset, .unset] [(.int q12), (.int q11), (.int q10), (.int (Int32.ofNat nB))])) t_
    refine st65.trans ?_
    show Steps p.tables e below (T65.setTop (mkF m 281 #[.val (.int wa), .val (.int wb), .val (.long ls), .second, .val (.long ms), .second, .val (.int sel), .val (.int (Int32.ofNat m1)), .val (.int q2), .val (.int q3), .val (.int q4), .val (.int q5), .val (.int (Int32.ofNat nB)), .val (.int q10), .val (.int q11), .val (.int q12), .val (.int (ls.toInt32)), .val (.int q40), .val (.int (ms.toInt32)), .val (.int q47), .val (.ref a_60), .unset, .unset, .unset, .unset, .unset, .unset] [(.ref a_65)])) _
    refine XS.astore X65.here hx rfl (Jvm.hb hby at_281) rfl rfl (l' := #[.val (.int wa), .val (.int wb), .val (.long ls), .second, .val (.long ms), .second, .val (.int sel), .val (.int (Int32.ofNat m1)), .val (.int q2), .val (.int q3), .val (.int q4), .val (.int q5), .val (.int (Int32.ofNat nB)), .val (.int q10), .val (.int q11), .val (.int q12), .val (.int (ls.toInt32)), .val (.int q40), .val (.int (ms.toInt32)), .val (.int q47), .val (.ref a_60), .val (.ref a_65), .unset, .unset, .unset, .unset, .unset]) rfl ?_
    refine st67 _ ?_
    show Steps p.tables e below (T67.setTop (mkF m 286 #[.val (.int wa), .val (.int wb), .val (.long ls), .second, .val (.long ms), .second, .val (.int sel), .val (.int (Int32.ofNat m1)), .val (.int q2), .val (.int q3), .val (.int q4), .val (.int q5), .val (.int (Int32.ofNat nB)), .val (.int q10), .val (.int q11), .val (.int q12), .val (.int (ls.toInt32)), .val (.int q40), .val (.int (ms.toInt32)), .val (.int q47), .val (.ref a_60), .val (.ref a_65), .unset, .unset, .unset, .unset, .unset] [(.ref b67)])) _
    refine XS.dup X67.here hx rfl (Jvm.hb hby at_286) rfl rfl ?_
    refine XS.aload X67.here hx rfl (Jvm.hb hby at_287) rfl rfl ?_
    refine XS.iload X67.here hx rfl (Jvm.hb hby at_289) rfl ?_
    refine XS.iload X67.here hx rfl (Jvm.hb hby at_291) rfl ?_
    show Steps p.tables e below (T67.setTop (mkF m 293 #[.val (.int wa), .val (.int wb), .val (.long ls), .second, .val (.long ms), .second, .val (.int sel), .val (.int (Int32.ofNat m1)), .val (.int q2), .val (.int q3), .val (.int q4), .val (.int q5), .val (.int (Int32.ofNat nB)), .val (.int q10), .val (.int q11), .val (.int q12), .val (.int (ls.toInt32)), .val (.int q40), .val (.int (ms.toInt32)), .val (.int q47), .val (.ref a_60), .val (.ref a_65), .unset, .unset, .unset, .unset, .unset] [(.int (ms.toInt32)), (.int (ls.toInt32)), (.ref a_60), (.ref b67), (.ref b67)])) t_
    exact k_)
  have f73 : Exa Z h67 a_60 "java/lang/String" := ((Fq60_0.keep K65).ext E67)
  have Zc74 : n0 ≤ h67.size := by omega
  obtain ⟨_, _, ⟨T75, L75, k75, n75⟩, -, Xr75, hSr75, hg75, ⟨Lc75, hQ75, l75, y75, z75, Cp75⟩, st75⟩ := X67.specialBackS hx (y := (⟨"com/example/coyote_hill/coyotehill/LeaseRequest", "<init>", "(Ljava/lang/String;II)V"⟩ : MethodName)) rfl hown (mvT hZ (hw _ (List.mem_of_getElem? (i := 29) rfl))) (mvT hZ (hw _ (List.mem_of_getElem? (i := 30) rfl))) (mvT hZ (hw _ (List.mem_of_getElem? (i := 31) rfl))) (by decide) (backOfSH (s := s) (vm0 := T65.vm) (W := 1) (rmLRi l Z a0 hw [] b67 a_60 (ls.toInt32) (ms.toInt32) h67 n0 Zc74 A67 F69 F70 F71 f73 (by first | assumption | rfl | decide | omega : n0 ≤ b67)) hZ (hw _ (List.mem_of_getElem? (i := 31) rfl)) (hw _ (List.mem_of_getElem? (i := 28) rfl)) (by decide) (by decide) hEL CR.1) (g := (mkF m 293 #[.val (.int wa), .val (.int wb), .val (.long ls), .second, .val (.long ms), .second, .val (.int sel), .val (.int (Int32.ofNat m1)), .val (.int q2), .val (.int q3), .val (.int q4), .val (.int q5), .val (.int (Int32.ofNat nB)), .val (.int q10), .val (.int q11), .val (.int q12), .val (.int (ls.toInt32)), .val (.int q40), .val (.int (ms.toInt32)), .val (.int q47), .val (.ref a_60), .val (.ref a_65), .unset, .unset, .unset, .unset, .unset] [(.int (ms.toInt32)), (.int (ls.toInt32)), (.ref a_60), (.ref b67), (.ref b67)])) rfl (by rw [hml]; rfl) (Steps.refl _) (a := b67) (argsL := [(.ref a_60), (.int (ls.toInt32)), (.int (ms.toInt32))]) (rest := [(.ref b67)]) (lenOf pd__Ljava_lang_String_II_V rfl) rfl (by show 2 * 0 + _ ≤ _; exact Nat.le_of_eq rfl) (Jvm.hb hby at_293) (fun _ _ => ⟨rfl, e67, (by decide : 13 + 2 ≤ _), (by decide : 33 + 28 ≤ _)⟩)
  dsimp only [Pt.U, Pt.locs, Pt.cells, Pt.slots] at Xr75 hSr75 hg75 l75 y75 z75 st75 hQ75 Cp75
  subst l75 y75 z75
  obtain ⟨X75, hS, hZ, hown⟩ := rebS (own := "com/example/coyote_hill/coyotehill/LeaseRequestEqualsPinLaw") hS (by first | exact Nat.le_refl _ | (rw [e67]; exact hk)) Xr75 hSr75 hg75 hZ hown
  obtain ⟨rfl, N75q, K75, Fq75_0, Fq75_1, Fq75_2, Fq75_3⟩ := hQ75
  have N75 := Fr.app N65 N75q
  obtain ⟨h75, e75⟩ : ∃ z, T75.heap = z := ⟨_, rfl⟩
  rw [e75] at K75 Fq75_0 Fq75_1 Fq75_2 Fq75_3 Cp75
  have hk : T75.heap.size ≤ h75.size := Nat.le_of_eq (congrArg Array.size e75)
  have z76 : h67.size ≤ h75.size := K75.1
  have CR := CR.trans Cp75
  have lt75_0 : @LT.lt Nat _ b67 h75.size := Fq75_0.lt
  obtain ⟨T77, h77, X77, e77, E77, A77, D77, -, st77⟩ := newO X75 hx hZ hown (hw _ (List.mem_of_getElem? (i := 26) rfl)) (hw _ (List.mem_of_getElem? (i := 27) rfl)) (hw _ (List.mem_of_getElem? (i := 28) rfl)) e75 (g := (mkF m 298 #[.val (.int wa), .val (.int wb), .val (.long ls), .second, .val (.long ms), .second, .val (.int sel), .val (.int (Int32.ofNat m1)), .val (.int q2), .val (.int q3), .val (.int q4), .val (.int q5), .val (.int (Int32.ofNat nB)), .val (.int q10), .val (.int q11), .val (.int q12), .val (.int (ls.toInt32)), .val (.int q40), .val (.int (ms.toInt32)), .val (.int q47), .val (.ref a_60), .val (.ref a_65), .val (.ref b67), .unset, .unset, .unset, .unset] [])) rfl (Jvm.hb hby at_298) (by decide) (by decide)
  obtain ⟨b77, g77⟩ : ∃ z, z = h75.size := ⟨_, rfl⟩
  rw [← g77] at A77 D77 st77
  have z78 : h75.size ≤ h77.size := E77.1
  have Cp78 : CHr Z ELs T75.vm h75 T75.vm h77 := CHr.ext E77 CR.1
  have hk := Nat.le_trans hk z78
  have CR := CR.trans Cp78
  have l77 : b77 < h77.size := A77.lt
  have F79 : Fld Z h77 b77 "com/example/coyote_hill/coyotehill/LeaseRequest" "_worker" "Ljava/lang/String;" .null := D77 (Or.inr (hw _ (List.mem_of_getElem? (i := 40) rfl))) (ty := (.object "java/lang/String")) (by decide)
  have F80 : Fld Z h77 b77 "com/example/coyote_hill/coyotehill/LeaseRequest" "_leaseMs" "I" (.int (0 : Int32)) := D77 (Or.inr (hw _ (List.mem_of_getElem? (i := 42) rfl))) (ty := .int) (by decide)
  have F81 : Fld Z h77 b77 "com/example/coyote_hill/coyotehill/LeaseRequest" "_maxItems" "I" (.int (0 : Int32)) := D77 (Or.inr (hw _ (List.mem_of_getElem? (i := 44) rfl))) (ty := .int) (by decide)
  have s82 : ∀ t_, Steps p.tables e below (T77.setTop (mkF m 308 #[.val (.int wa), .val (.int wb), .val (.long ls), .second, .val (.long ms), .second, .val (.int sel), .val (.int (Int32.ofNat m1)), .val (.int q2), .val (.int q3), .val (.int q4), .val (.int q5), .val (.int (Int32.ofNat nB)), .val (.int q10), .val (.int q11), .val (.int q12), .val (.int (ls.toInt32)), .val (.int q40), .val (.int (ms.toInt32)), .val (.int q47), .val (.ref a_60), .val (.ref a_65), .val (.ref b67), .unset, .unset, .unset, .unset] [(.int q47), (.int q40), (.ref a_65), (.ref b77), (.ref b77)])) t_ → Steps p.tables e below (s₁.setTop (entryFrame m #[(.int wa), (.int wb), (.long ls), (.long ms), (.int sel)] maxLocals)) t_ := fun t_ k_ => s72 t_ (by
    show Steps p.tables e below (T67.setTop (mkF m 293 #[.val (.int wa), .val (.int wb), .val (.long ls), .second, .val (.long ms), .second, .val (.int sel), .val (.int (Int32.ofNat m1)), .val (.int q2), .val (.int q3), .val (.int q4), .val (.int q5), .val (.int (Int32.ofNat nB)), .val (.int q10), .val (.int q11), .val (.int q12), .val (.int (ls.toInt32)), .val (.int q40), .val (.int (ms.toInt32)), .val (.int q47), .val (.ref a_60), .val (.ref a_65), .unset, .unset, .unset, .unset, .unset] [(.int (ms.toInt32)), (.int (ls.toInt32)), (.ref a_60), (.ref b67), (.ref b67)])) t_
    refine st75.trans ?_
    show Steps p.tables e below (T75.setTop (mkF m 296 #[.val (.int wa), .val (.int wb), .val (.long ls), .second, .val (.long ms), .second, .val (.int sel), .val (.int (Int32.ofNat m1)), .val (.int q2), .val (.int q3), .val (.int q4), .val (.int q5), .val (.int (Int32.ofNat nB)), .val (.int q10), .val (.int q11), .val (.int q12), .val (.int (ls.toInt32)), .val (.int q40), .val (.int (ms.toInt32)), .val (.int q47), .val (.ref a_60), .val (.ref a_65), .unset, .unset, .unset, .unset, .unset] [(.ref b67)])) _
    refine XS.astore X75.here hx rfl (Jvm.hb hby at_296) rfl rfl (l' := #[.val (.int wa), .val (.int wb), .val (.long ls), .second, .val (.long ms), .second, .val (.int sel), .val (.int (Int32.ofNat m1)), .val (.int q2), .val (.int q3), .val (.int q4), .val (.int q5), .val (.int (Int32.ofNat nB)), .val (.int q10), .val (.int q11), .val (.int q12), .val (.int (ls.toInt32)), .val (.int q40), .val (.int (ms.toInt32)), .val (.int q47), .val (.ref a_60), .val (.ref a_65), .val (.ref b67), .unset, .unset, .unset, .unset]) rfl ?_
    refine st77 _ ?_
    show Steps p.tables e below (T77.setTop (mkF m 301 #[.val (.int wa), .val (.int wb), .val (.long ls), .second, .val (.long ms), .second, .val (.int sel), .val (.int (Int32.ofNat m1)), .val (.int q2), .val (.int q3), .val (.int q4), .val (.int q5), .val (.int (Int32.ofNat nB)), .val (.int q10), .val (.int q11), .val (.int q12), .val (.int (ls.toInt32)), .val (.int q40), .val (.int (ms.toInt32)), .val (.int q47), .val (.ref a_60), .val (.ref a_65), .val (.ref b67), .unset, .unset, .unset, .unset] [(.ref b77)])) _
    refine XS.dup X77.here hx rfl (Jvm.hb hby at_301) rfl rfl ?_
    refine XS.aload X77.here hx rfl (Jvm.hb hby at_302) rfl rfl ?_
    refine XS.iload X77.here hx rfl (Jvm.hb hby at_304) rfl ?_
    refine XS.iload X77.here hx rfl (Jvm.hb hby at_306) rfl ?_
    show Steps p.tables e below (T77.setTop (mkF m 308 #[.val (.int wa), .val (.int wb), .val (.long ls), .second, .val (.long ms), .second, .val (.int sel), .val (.int (Int32.ofNat m1)), .val (.int q2), .val (.int q3), .val (.int q4), .val (.int q5), .val (.int (Int32.ofNat nB)), .val (.int q10), .val (.int q11), .val (.int q12), .val (.int (ls.toInt32)), .val (.int q40), .val (.int (ms.toInt32)), .val (.int q47), .val (.ref a_60), .val (.ref a_65), .val (.ref b67), .unset, .unset, .unset, .unset] [(.int q47), (.int q40), (.ref a_65), (.ref b77), (.ref b77)])) t_
    exact k_)
  have f83 : Exa Z h77 a_65 "java/lang/String" := (((Fq65_0.ext E67).keep K75).ext E77)
  have Zc84 : n0 ≤ h77.size := by omega
  obtain ⟨_, _, ⟨T85, L85, k85, n85⟩, -, Xr85, hSr85, hg85, ⟨Lc85, hQ85, l85, y85, z85, Cp85⟩, st85⟩ := X77.specialBackS hx (y := (⟨"com/example/coyote_hill/coyotehill/LeaseRequest", "<init>", "(Ljava/lang/String;II)V"⟩ : MethodName)) rfl hown (mvT hZ (hw _ (List.mem_of_getElem? (i := 29) rfl))) (mvT hZ (hw _ (List.mem_of_getElem? (i := 30) rfl))) (mvT hZ (hw _ (List.mem_of_getElem? (i := 31) rfl))) (by decide) (backOfSH (s := s) (vm0 := T75.vm) (W := 1) (rmLRi l Z a0 hw [] b77 a_65 q40 q47 h77 n0 Zc84 A77 F79 F80 F81 f83 (by first | assumption | rfl | decide | omega : n0 ≤ b77)) hZ (hw _ (List.mem_of_getElem? (i := 31) rfl)) (hw _ (List.mem_of_getElem? (i := 28) rfl)) (by decide) (by decide) hEL CR.1) (g := (mkF m 308 #[.val (.int wa), .val (.int wb), .val (.long ls), .second, .val (.long ms), .second, .val (.int sel), .val (.int (Int32.ofNat m1)), .val (.int q2), .val (.int q3), .val (.int q4), .val (.int q5), .val (.int (Int32.ofNat nB)), .val (.int q10), .val (.int q11), .val (.int q12), .val (.int (ls.toInt32)), .val (.int q40), .val (.int (ms.toInt32)), .val (.int q47), .val (.ref a_60), .val (.ref a_65), .val (.ref b67), .unset, .unset, .unset, .unset] [(.int q47), (.int q40), (.ref a_65), (.ref b77), (.ref b77)])) rfl (by rw [hml]; rfl) (Steps.refl _) (a := b77) (argsL := [(.ref a_65), (.int q40), (.int q47)]) (rest := [(.ref b77)]) (lenOf pd__Ljava_lang_String_II_V rfl) rfl (by show 2 * 0 + _ ≤ _; exact Nat.le_of_eq rfl) (Jvm.hb hby at_308) (fun _ _ => ⟨rfl, e77, (by decide : 16 + 2 ≤ _), (by decide : 64 + 28 ≤ _)⟩)
  dsimp only [Pt.U, Pt.locs, Pt.cells, Pt.slots] at Xr85 hSr85 hg85 l85 y85 z85 st85 hQ85 Cp85
  subst l85 y85 z85
  obtain ⟨X85, hS, hZ, hown⟩ := rebS (own := "com/example/coyote_hill/coyotehill/LeaseRequestEqualsPinLaw") hS (by first | exact Nat.le_refl _ | (rw [e77]; exact hk)) Xr85 hSr85 hg85 hZ hown
  obtain ⟨rfl, N85q, K85, Fq85_0, Fq85_1, Fq85_2, Fq85_3⟩ := hQ85
  have N85 := Fr.app N75 N85q
  obtain ⟨h85, e85⟩ : ∃ z, T85.heap = z := ⟨_, rfl⟩
  rw [e85] at K85 Fq85_0 Fq85_1 Fq85_2 Fq85_3 Cp85
  have hk : T85.heap.size ≤ h85.size := Nat.le_of_eq (congrArg Array.size e85)
  have z86 : h77.size ≤ h85.size := K85.1
  have CR := CR.trans Cp85
  have lt85_0 : @LT.lt Nat _ b77 h85.size := Fq85_0.lt
  have s87 : ∀ t_, Steps p.tables e below (T85.setTop (mkF m 317 #[.val (.int wa), .val (.int wb), .val (.long ls), .second, .val (.long ms), .second, .val (.int sel), .val (.int (Int32.ofNat m1)), .val (.int q2), .val (.int q3), .val (.int q4), .val (.int q5), .val (.int (Int32.ofNat nB)), .val (.int q10), .val (.int q11), .val (.int q12), .val (.int (ls.toInt32)), .val (.int q40), .val (.int (ms.toInt32)), .val (.int q47), .val (.ref a_60), .val (.ref a_65), .val (.ref b67), .val (.ref b77), .unset, .unset, .unset] [(.int (Int32.ofNat nB)), (.int (Int32.ofNat m1))])) t_ → Steps p.tables e below (s₁.setTop (entryFrame m #[(.int wa), (.int wb), (.long ls), (.long ms), (.int sel)] maxLocals)) t_ := fun t_ k_ => s82 t_ (by
    show Steps p.tables e below (T77.setTop (mkF m 308 #[.val (.int wa), .val (.int wb), .val (.long ls), .second, .val (.long ms), .second, .val (.int sel), .val (.int (Int32.ofNat m1)), .val (.int q2), .val (.int q3), .val (.int q4), .val (.int q5), .val (.int (Int32.ofNat nB)), .val (.int q10), .val (.int q11), .val (.int q12), .val (.int (ls.toInt32)), .val (.int q40), .val (.int (ms.toInt32)), .val (.int q47), .val (.ref a_60), .val (.ref a_65), .val (.ref b67), .unset, .unset, .unset, .unset] [(.int q47), (.int q40), (.ref a_65), (.ref b77), (.ref b77)])) t_
    refine st85.trans ?_
    show Steps p.tables e below (T85.setTop (mkF m 311 #[.val (.int wa), .val (.int wb), .val (.long ls), .second, .val (.long ms), .second, .val (.int sel), .val (.int (Int32.ofNat m1)), .val (.int q2), .val (.int q3), .val (.int q4), .val (.int q5), .val (.int (Int32.ofNat nB)), .val (.int q10), .val (.int q11), .val (.int q12), .val (.int (ls.toInt32)), .val (.int q40), .val (.int (ms.toInt32)), .val (.int q47), .val (.ref a_60), .val (.ref a_65), .val (.ref b67), .unset, .unset, .unset, .unset] [(.ref b77)])) _
    refine XS.astore X85.here hx rfl (Jvm.hb hby at_311) rfl rfl (l' := #[.val (.int wa), .val (.int wb), .val (.long ls), .second, .val (.long ms), .second, .val (.int sel), .val (.int (Int32.ofNat m1)), .val (.int q2), .val (.int q3), .val (.int q4), .val (.int q5), .val (.int (Int32.ofNat nB)), .val (.int q10), .val (.int q11), .val (.int q12), .val (.int (ls.toInt32)), .val (.int q40), .val (.int (ms.toInt32)), .val (.int q47), .val (.ref a_60), .val (.ref a_65), .val (.ref b67), .val (.ref b77), .unset, .unset, .unset]) rfl ?_
    refine XS.iload X85.here hx rfl (Jvm.hb hby at_313) rfl ?_
    refine XS.iload X85.here hx rfl (Jvm.hb hby at_315) rfl ?_
    show Steps p.tables e below (T85.setTop (mkF m 317 #[.val (.int wa), .val (.int wb), .val (.long ls), .second, .val (.long ms), .second, .val (.int sel), .val (.int (Int32.ofNat m1)), .val (.int q2), .val (.int q3), .val (.int q4), .val (.int q5), .val (.int (Int32.ofNat nB)), .val (.int q10), .val (.int q11), .val (.int q12), .val (.int (ls.toInt32)), .val (.int q40), .val (.int (ms.toInt32)), .val (.int q47), .val (.ref a_60), .val (.ref a_65), .val (.ref b67), .val (.ref b77), .unset, .unset, .unset] [(.int (Int32.ofNat nB)), (.int (Int32.ofNat m1))])) t_
    exact k_)
  obtain ⟨q88, hq88⟩ : ∃ z : Int32, z = (if (Int32.ofNat m1) = (Int32.ofNat nB) then (if (Int32.ofNat m1) < (1 : Int32) then (if (Int32.ofNat m1) < (2 : Int32) then (if (Int32.ofNat m1) < (3 : Int32) then (1 : Int32) else (if q4 = q12 then (1 : Int32) else (0 : Int32))) else (if q3 = q11 then (if (Int32.ofNat m1) < (3 : Int32) then (1 : Int32) else (if q4 = q12 then (1 : Int32) else (0 : Int32))) else (0 : Int32))) else (if q2 = q10 then (if (Int32.ofNat m1) < (2 : Int32) then (if (Int32.ofNat m1) < (3 : Int32) then (1 : Int32) else (if q4 = q12 then (1 : Int32) else (0 : Int32))) else (if q3 = q11 then (if (Int32.ofNat m1) < (3 : Int32) then (1 : Int32) else (if q4 = q12 then (1 : Int32) else (0 : Int32))) else (0 : Int32))) else (0 : Int32))) else (0 : Int32)) := ⟨_, rfl⟩
  obtain ⟨T89, X89, e89, s89⟩ := seg X85 (fun T' => T'.heap = h85 ∧ ∀ t_, Steps p.tables e below (T'.setTop (mkF m 364 #[.val (.int wa), .val (.int wb), .val (.long ls), .second, .val (.long ms), .second, .val (.int sel), .val (.int (Int32.ofNat m1)), .val (.int q2), .val (.int q3), .val (.int q4), .val (.int q5), .val (.int (Int32.ofNat nB)), .val (.int q10), .val (.int q11), .val (.int q12), .val (.int (ls.toInt32)), .val (.int q40), .val (.int (ms.toInt32)), .val (.int q47), .val (.ref a_60), .val (.ref a_65), .val (.ref b67), .val (.ref b77), .unset, .unset, .unset] [(.int q88)])) t_ → Steps p.tables e below (s₁.setTop (entryFrame m #[(.int wa), (.int wb), (.long ls), (.long ms), (.int sel)] maxLocals)) t_) (by
    by_cases h90 : (Int32.ofNat m1) = (Int32.ofNat nB)
    · have s91 : ∀ t_, Steps p.tables e below (T85.setTop (mkF m 323 #[.val (.int wa), .val (.int wb), .val (.long ls), .second, .val (.long ms), .second, .val (.int sel), .val (.int (Int32.ofNat m1)), .val (.int q2), .val (.int q3), .val (.int q4), .val (.int q5), .val (.int (Int32.ofNat nB)), .val (.int q10), .val (.int q11), .val (.int q12), .val (.int (ls.toInt32)), .val (.int q40), .val (.int (ms.toInt32)), .val (.int q47), .val (.ref a_60), .val (.ref a_65), .val (.ref b67), .val (.ref b77), .unset, .unset, .unset] [(.int (1 : Int32)), (.int (Int32.ofNat m1))])) t_ → Steps p.tables e below (s₁.setTop (entryFrame m #[(.int wa), (.int wb), (.long ls), (.long ms), (.int sel)] maxLocals)) t_ := fun t_ k_ => s87 t_ (by
        show Steps p.tables e below (T85.setTop (mkF m 317 #[.val (.int wa), .val (.int wb), .val (.long ls), .second, .val (.long ms), .second, .val (.int sel), .val (.int (Int32.ofNat m1)), .val (.int q2), .val (.int q3), .val (.int q4), .val (.int q5), .val (.int (Int32.ofNat nB)), .val (.int q10), .val (.int q11), .val (.int q12), .val (.int (ls.toInt32)), .val (.int q40), .val (.int (ms.toInt32)), .val (.int q47), .val (.ref a_60), .val (.ref a_65), .val (.ref b67), .val (.ref b77), .unset, .unset, .unset] [(.int (Int32.ofNat nB)), (.int (Int32.ofNat m1))])) t_
        refine XS.icmpNo X85.here hx rfl (Jvm.hb hby at_317) rfl (teq h90).2 ?_
        show Steps p.tables e below (T85.setTop (mkF m 320 #[.val (.int wa), .val (.int wb), .val (.long ls), .second, .val (.long ms), .second, .val (.int sel), .val (.int (Int32.ofNat m1)), .val (.int q2), .val (.int q3), .val (.int q4), .val (.int q5), .val (.int (Int32.ofNat nB)), .val (.int q10), .val (.int q11), .val (.int q12), .val (.int (ls.toInt32)), .val (.int q40), .val (.int (ms.toInt32)), .val (.int q47), .val (.ref a_60), .val (.ref a_65), .val (.ref b67), .val (.ref b77), .unset, .unset, .unset] [])) _
        refine XS.iload X85.here hx rfl (Jvm.hb hby at_320) rfl ?_
        refine XS.iconst X85.here hx rfl (Jvm.hb hby at_322) ?_
        show Steps p.tables e below (T85.setTop (mkF m 323 #[.val (.int wa), .val (.int wb), .val (.long ls), .second, .val (.long ms), .second, .val (.int sel), .val (.int (Int32.ofNat m1)), .val (.int q2), .val (.int q3), .val (.int q4), .val (.int q5), .val (.int (Int32.ofNat nB)), .val (.int q10), .val (.int q11), .val (.int q12), .val (.int (ls.toInt32)), .val (.int q40), .val (.int (ms.toInt32)), .val (.int q47), .val (.ref a_60), .val (.ref a_65), .val (.ref b67), .val (.ref b77), .unset, .unset, .unset] [(.int (1 : Int32)), (.int (Int32.ofNat m1))])) t_
        exact k_)
      by_cases h92 : (Int32.ofNat m1) < (1 : Int32)
      · have s93 : ∀ t_, Steps p.tables e below (T85.setTop (mkF m 336 #[.val (.int wa), .val (.int wb), .val (.long ls), .second, .val (.long ms), .second, .val (.int sel), .val (.int (Int32.ofNat m1)), .val (.int q2), .val (.int q3), .val (.int q4), .val (.int q5), .val (.int (Int32.ofNat nB)), .val (.int q10), .val (.int q11), .val (.int q12), .val (.int (ls.toInt32)), .val (.int q40), .val (.int (ms.toInt32)), .val (.int q47), .val (.ref a_60), .val (.ref a_65), .val (.ref b67), .val (.ref b77), .unset, .unset, .unset] [(.int (2 : Int32)), (.int (Int32.ofNat m1))])) t_ → Steps p.tables e below (s₁.setTop (entryFrame m #[(.int wa), (.int wb), (.long ls), (.long ms), (.int sel)] maxLocals)) t_ := fun t_ k_ => s91 t_ (by
          show Steps p.tables e below (T85.setTop (mkF m 323 #[.val (.int wa), .val (.int wb), .val (.long ls), .second, .val (.long ms), .second, .val (.int sel), .val (.int (Int32.ofNat m1)), .val (.int q2), .val (.int q3), .val (.int q4), .val (.int q5), .val (.int (Int32.ofNat nB)), .val (.int q10), .val (.int q11), .val (.int q12), .val (.int (ls.toInt32)), .val (.int q40), .val (.int (ms.toInt32)), .val (.int q47), .val (.ref a_60), .val (.ref a_65), .val (.ref b67), .val (.ref b77), .unset, .unset, .unset] [(.int (1 : Int32)), (.int (Int32.ofNat m1))])) t_
          refine XS.icmpYes X85.here hx rfl (pc0 := 323) (pc' := 333) rfl (Jvm.hb hby at_323) rfl (tlt h92).1 (by decide) (by decide) ?_
          show Steps p.tables e below (T85.setTop (mkF m 333 #[.val (.int wa), .val (.int wb), .val (.long ls), .second, .val (.long ms), .second, .val (.int sel), .val (.int (Int32.ofNat m1)), .val (.int q2), .val (.int q3), .val (.int q4), .val (.int q5), .val (.int (Int32.ofNat nB)), .val (.int q10), .val (.int q11), .val (.int q12), .val (.int (ls.toInt32)), .val (.int q40), .val (.int (ms.toInt32)), .val (.int q47), .val (.ref a_60), .val (.ref a_65), .val (.ref b67), .val (.ref b77), .unset, .unset, .unset] [])) _
          refine XS.iload X85.here hx rfl (Jvm.hb hby at_333) rfl ?_
          refine XS.iconst X85.here hx rfl (Jvm.hb hby at_335) ?_
          show Steps p.tables e below (T85.setTop (mkF m 336 #[.val (.int wa), .val (.int wb), .val (.long ls), .second, .val (.long ms), .second, .val (.int sel), .val (.int (Int32.ofNat m1)), .val (.int q2), .val (.int q3), .val (.int q4), .val (.int q5), .val (.int (Int32.ofNat nB)), .val (.int q10), .val (.int q11), .val (.int q12), .val (.int (ls.toInt32)), .val (.int q40), .val (.int (ms.toInt32)), .val (.int q47), .val (.ref a_60), .val (.ref a_65), .val (.ref b67), .val (.ref b77), .unset, .unset, .unset] [(.int (2 : Int32)), (.int (Int32.ofNat m1))])) t_
          exact k_)
        by_cases h94 : (Int32.ofNat m1) < (2 : Int32)
        · have s95 : ∀ t_, Steps p.tables e below (T85.setTop (mkF m 349 #[.val (.int wa), .val (.int wb), .val (.long ls), .second, .val (.long ms), .second, .val (.int sel), .val (.int (Int32.ofNat m1)), .val (.int q2), .val (.int q3), .val (.int q4), .val (.int q5), .val (.int (Int32.ofNat nB)), .val (.int q10), .val (.int q11), .val (.int q12), .val (.int (ls.toInt32)), .val (.int q40), .val (.int (ms.toInt32)), .val (.int q47), .val (.ref a_60), .val (.ref a_65), .val (.ref b67), .val (.ref b77), .unset, .unset, .unset] [(.int (3 : Int32)), (.int (Int32.ofNat m1))])) t_ → Steps p.tables e below (s₁.setTop (entryFrame m #[(.int wa), (.int wb), (.long ls), (.long ms), (.int sel)] maxLocals)) t_ := fun t_ k_ => s93 t_ (by
            show Steps p.tables e below (T85.setTop (mkF m 336 #[.val (.int wa), .val (.int wb), .val (.long ls), .second, .val (.long ms), .second, .val (.int sel), .val (.int (Int32.ofNat m1)), .val (.int q2), .val (.int q3), .val (.int q4), .val (.int q5), .val (.int (Int32.ofNat nB)), .val (.int q10), .val (.int q11), .val (.int q12), .val (.int (ls.toInt32)), .val (.int q40), .val (.int (ms.toInt32)), .val (.int q47), .val (.ref a_60), .val (.ref a_65), .val (.ref b67), .val (.ref b77), .unset, .unset, .unset] [(.int (2 : Int32)), (.int (Int32.ofNat m1))])) t_
            refine XS.icmpYes X85.here hx rfl (pc0 := 336) (pc' := 346) rfl (Jvm.hb hby at_336) rfl (tlt h94).1 (by decide) (by decide) ?_
            show Steps p.tables e below (T85.setTop (mkF m 346 #[.val (.int wa), .val (.int wb), .val (.long ls), .second, .val (.long ms), .second, .val (.int sel), .val (.int (Int32.ofNat m1)), .val (.int q2), .val (.int q3), .val (.int q4), .val (.int q5), .val (.int (Int32.ofNat nB)), .val (.int q10), .val (.int q11), .val (.int q12), .val (.int (ls.toInt32)), .val (.int q40), .val (.int (ms.toInt32)), .val (.int q47), .val (.ref a_60), .val (.ref a_65), .val (.ref b67), .val (.ref b77), .unset, .unset, .unset] [])) _
            refine XS.iload X85.here hx rfl (Jvm.hb hby at_346) rfl ?_
            refine XS.iconst X85.here hx rfl (Jvm.hb hby at_348) ?_
            show Steps p.tables e below (T85.setTop (mkF m 349 #[.val (.int wa), .val (.int wb), .val (.long ls), .second, .val (.long ms), .second, .val (.int sel), .val (.int (Int32.ofNat m1)), .val (.int q2), .val (.int q3), .val (.int q4), .val (.int q5), .val (.int (Int32.ofNat nB)), .val (.int q10), .val (.int q11), .val (.int q12), .val (.int (ls.toInt32)), .val (.int q40), .val (.int (ms.toInt32)), .val (.int q47), .val (.ref a_60), .val (.ref a_65), .val (.ref b67), .val (.ref b77), .unset, .unset, .unset] [(.int (3 : Int32)), (.int (Int32.ofNat m1))])) t_
            exact k_)
          by_cases h96 : (Int32.ofNat m1) < (3 : Int32)
          · have s97 : ∀ t_, Steps p.tables e below (T85.setTop (mkF m 364 #[.val (.int wa), .val (.int wb), .val (.long ls), .second, .val (.long ms), .second, .val (.int sel), .val (.int (Int32.ofNat m1)), .val (.int q2), .val (.int q3), .val (.int q4), .val (.int q5), .val (.int (Int32.ofNat nB)), .val (.int q10), .val (.int q11), .val (.int q12), .val (.int (ls.toInt32)), .val (.int q40), .val (.int (ms.toInt32)), .val (.int q47), .val (.ref a_60), .val (.ref a_65), .val (.ref b67), .val (.ref b77), .unset, .unset, .unset] [(.int (1 : Int32))])) t_ → Steps p.tables e below (s₁.setTop (entryFrame m #[(.int wa), (.int wb), (.long ls), (.long ms), (.int sel)] maxLocals)) t_ := fun t_ k_ => s95 t_ (by
              show Steps p.tables e below (T85.setTop (mkF m 349 #[.val (.int wa), .val (.int wb), .val (.long ls), .second, .val (.long ms), .second, .val (.int sel), .val (.int (Int32.ofNat m1)), .val (.int q2), .val (.int q3), .val (.int q4), .val (.int q5), .val (.int (Int32.ofNat nB)), .val (.int q10), .val (.int q11), .val (.int q12), .val (.int (ls.toInt32)), .val (.int q40), .val (.int (ms.toInt32)), .val (.int q47), .val (.ref a_60), .val (.ref a_65), .val (.ref b67), .val (.ref b77), .unset, .unset, .unset] [(.int (3 : Int32)), (.int (Int32.ofNat m1))])) t_
              refine XS.icmpYes X85.here hx rfl (pc0 := 349) (pc' := 359) rfl (Jvm.hb hby at_349) rfl (tlt h96).1 (by decide) (by decide) ?_
              show Steps p.tables e below (T85.setTop (mkF m 359 #[.val (.int wa), .val (.int wb), .val (.long ls), .second, .val (.long ms), .second, .val (.int sel), .val (.int (Int32.ofNat m1)), .val (.int q2), .val (.int q3), .val (.int q4), .val (.int q5), .val (.int (Int32.ofNat nB)), .val (.int q10), .val (.int q11), .val (.int q12), .val (.int (ls.toInt32)), .val (.int q40), .val (.int (ms.toInt32)), .val (.int q47), .val (.ref a_60), .val (.ref a_65), .val (.ref b67), .val (.ref b77), .unset, .unset, .unset] [])) _
              refine XS.iconst X85.here hx rfl (Jvm.hb hby at_359) ?_
              refine XS.goto X85.here hx rfl (pc0 := 360) (pc' := 364) rfl (Jvm.hb hby at_360) (by decide) (by decide) ?_
              show Steps p.tables e below (T85.setTop (mkF m 364 #[.val (.int wa), .val (.int wb), .val (.long ls), .second, .val (.long ms), .second, .val (.int sel), .val (.int (Int32.ofNat m1)), .val (.int q2), .val (.int q3), .val (.int q4), .val (.int q5), .val (.int (Int32.ofNat nB)), .val (.int q10), .val (.int q11), .val (.int q12), .val (.int (ls.toInt32)), .val (.int q40), .val (.int (ms.toInt32)), .val (.int q47), .val (.ref a_60), .val (.ref a_65), .val (.ref b67), .val (.ref b77), .unset, .unset, .unset] [(.int (1 : Int32))])) t_
              exact k_)
            exact ⟨T85, X85, e85, fun t_ k_ => s97 t_ (castTop (by simp only [hq88, if_pos h90, if_pos h92, if_pos h94, if_pos h96]) k_)⟩
          · have s98 : ∀ t_, Steps p.tables e below (T85.setTop (mkF m 356 #[.val (.int wa), .val (.int wb), .val (.long ls), .second, .val (.long ms), .second, .val (.int sel), .val (.int (Int32.ofNat m1)), .val (.int q2), .val (.int q3), .val (.int q4), .val (.int q5), .val (.int (Int32.ofNat nB)), .val (.int q10), .val (.int q11), .val (.int q12), .val (.int (ls.toInt32)), .val (.int q40), .val (.int (ms.toInt32)), .val (.int q47), .val (.ref a_60), .val (.ref a_65), .val (.ref b67), .val (.ref b77), .unset, .unset, .unset] [(.int q12), (.int q4)])) t_ → Steps p.tables e below (s₁.setTop (entryFrame m #[(.int wa), (.int wb), (.long ls), (.long ms), (.int sel)] maxLocals)) t_ := fun t_ k_ => s95 t_ (by
              show Steps p.tables e below (T85.setTop (mkF m 349 #[.val (.int wa), .val (.int wb), .val (.long ls), .second, .val (.long ms), .second, .val (.int sel), .val (.int (Int32.ofNat m1)), .val (.int q2), .val (.int q3), .val (.int q4), .val (.int q5), .val (.int (Int32.ofNat nB)), .val (.int q10), .val (.int q11), .val (.int q12), .val (.int (ls.toInt32)), .val (.int q40), .val (.int (ms.toInt32)), .val (.int q47), .val (.ref a_60), .val (.ref a_65), .val (.ref b67), .val (.ref b77), .unset, .unset, .unset] [(.int (3 : Int32)), (.int (Int32.ofNat m1))])) t_
              refine XS.icmpNo X85.here hx rfl (Jvm.hb hby at_349) rfl (flt h96).1 ?_
              show Steps p.tables e below (T85.setTop (mkF m 352 #[.val (.int wa), .val (.int wb), .val (.long ls), .second, .val (.long ms), .second, .val (.int sel), .val (.int (Int32.ofNat m1)), .val (.int q2), .val (.int q3), .val (.int q4), .val (.int q5), .val (.int (Int32.ofNat nB)), .val (.int q10), .val (.int q11), .val (.int q12), .val (.int (ls.toInt32)), .val (.int q40), .val (.int (ms.toInt32)), .val (.int q47), .val (.ref a_60), .val (.ref a_65), .val (.ref b67), .val (.ref b77), .unset, .unset, .unset] [])) _
              refine XS.iload X85.here hx rfl (Jvm.hb hby at_352) rfl ?_
              refine XS.iload X85.here hx rfl (Jvm.hb hby at_354) rfl ?_
              show Steps p.tables e below (T85.setTop (mkF m 356 #[.val (.int wa), .val (.int wb), .val (.long ls), .second, .val (.long ms), .second, .val (.int sel), .val (.int (Int32.ofNat m1)), .val (.int q2), .val (.int q3), .val (.int q4), .val (.int q5), .val (.int (Int32.ofNat nB)), .val (.int q10), .val (.int q11), .val (.int q12), .val (.int (ls.toInt32)), .val (.int q40), .val (.int (ms.toInt32)), .val (.int q47), .val (.ref a_60), .val (.ref a_65), .val (.ref b67), .val (.ref b77), .unset, .unset, .unset] [(.int q12), (.int q4)])) t_
              exact k_)
            by_cases h99 : q4 = q12
            · have s100 : ∀ t_, Steps p.tables e below (T85.setTop (mkF m 364 #[.val (.int wa), .val (.int wb), .val (.long ls), .second, .val (.long ms), .second, .val (.int sel), .val (.int (Int32.ofNat m1)), .val (.int q2), .val (.int q3), .val (.int q4), .val (.int q5), .val (.int (Int32.ofNat nB)), .val (.int q10), .val (.int q11), .val (.int q12), .val (.int (ls.toInt32)), .val (.int q40), .val (.int (ms.toInt32)), .val (.int q47), .val (.ref a_60), .val (.ref a_65), .val (.ref b67), .val (.ref b77), .unset, .unset, .unset] [(.int (1 : Int32))])) t_ → Steps p.tables e below (s₁.setTop (entryFrame m #[(.int wa), (.int wb), (.long ls), (.long ms), (.int sel)] maxLocals)) t_ := fun t_ k_ => s98 t_ (by
                show Steps p.tables e below (T85.setTop (mkF m 356 #[.val (.int wa), .val (.int wb), .val (.long ls), .second, .val (.long ms), .second, .val (.int sel), .val (.int (Int32.ofNat m1)), .val (.int q2), .val (.int q3), .val (.int q4), .val (.int q5), .val (.int (Int32.ofNat nB)), .val (.int q10), .val (.int q11), .val (.int q12), .val (.int (ls.toInt32)), .val (.int q40), .val (.int (ms.toInt32)), .val (.int q47), .val (.ref a_60), .val (.ref a_65), .val (.ref b67), .val (.ref b77), .unset, .unset, .unset] [(.int q12), (.int q4)])) t_
                refine XS.icmpNo X85.here hx rfl (Jvm.hb hby at_356) rfl (teq h99).2 ?_
                show Steps p.tables e below (T85.setTop (mkF m 359 #[.val (.int wa), .val (.int wb), .val (.long ls), .second, .val (.long ms), .second, .val (.int sel), .val (.int (Int32.ofNat m1)), .val (.int q2), .val (.int q3), .val (.int q4), .val (.int q5), .val (.int (Int32.ofNat nB)), .val (.int q10), .val (.int q11), .val (.int q12), .val (.int (ls.toInt32)), .val (.int q40), .val (.int (ms.toInt32)), .val (.int q47), .val (.ref a_60), .val (.ref a_65), .val (.ref b67), .val (.ref b77), .unset, .unset, .unset] [])) _
                refine XS.iconst X85.here hx rfl (Jvm.hb hby at_359) ?_
                refine XS.goto X85.here hx rfl (pc0 := 360) (pc' := 364) rfl (Jvm.hb hby at_360) (by decide) (by decide) ?_
                show Steps p.tables e below (T85.setTop (mkF m 364 #[.val (.int wa), .val (.int wb), .val (.long ls), .second, .val (.long ms), .second, .val (.int sel), .val (.int (Int32.ofNat m1)), .val (.int q2), .val (.int q3), .val (.int q4), .val (.int q5), .val (.int (Int32.ofNat nB)), .val (.int q10), .val (.int q11), .val (.int q12), .val (.int (ls.toInt32)), .val (.int q40), .val (.int (ms.toInt32)), .val (.int q47), .val (.ref a_60), .val (.ref a_65), .val (.ref b67), .val (.ref b77), .unset, .unset, .unset] [(.int (1 : Int32))])) t_
                exact k_)
              exact ⟨T85, X85, e85, fun t_ k_ => s100 t_ (castTop (by simp only [hq88, if_pos h90, if_pos h92, if_pos h94, if_neg h96, if_pos h99]) k_)⟩
            · have s101 : ∀ t_, Steps p.tables e below (T85.setTop (mkF m 364 #[.val (.int wa), .val (.int wb), .val (.long ls), .second, .val (.long ms), .second, .val (.int sel), .val (.int (Int32.ofNat m1)), .val (.int q2), .val (.int q3), .val (.int q4), .val (.int q5), .val (.int (Int32.ofNat nB)), .val (.int q10), .val (.int q11), .val (.int q12), .val (.int (ls.toInt32)), .val (.int q40), .val (.int (ms.toInt32)), .val (.int q47), .val (.ref a_60), .val (.ref a_65), .val (.ref b67), .val (.ref b77), .unset, .unset, .unset] [(.int (0 : Int32))])) t_ → Steps p.tables e below (s₁.setTop (entryFrame m #[(.int wa), (.int wb), (.long ls), (.long ms), (.int sel)] maxLocals)) t_ := fun t_ k_ => s98 t_ (by
                show Steps p.tables e below (T85.setTop (mkF m 356 #[.val (.int wa), .val (.int wb), .val (.long ls), .second, .val (.long ms), .second, .val (.int sel), .val (.int (Int32.ofNat m1)), .val (.int q2), .val (.int q3), .val (.int q4), .val (.int q5), .val (.int (Int32.ofNat nB)), .val (.int q10), .val (.int q11), .val (.int q12), .val (.int (ls.toInt32)), .val (.int q40), .val (.int (ms.toInt32)), .val (.int q47), .val (.ref a_60), .val (.ref a_65), .val (.ref b67), .val (.ref b77), .unset, .unset, .unset] [(.int q12), (.int q4)])) t_
                refine XS.icmpYes X85.here hx rfl (pc0 := 356) (pc' := 363) rfl (Jvm.hb hby at_356) rfl (feq h99).2 (by decide) (by decide) ?_
                show Steps p.tables e below (T85.setTop (mkF m 363 #[.val (.int wa), .val (.int wb), .val (.long ls), .second, .val (.long ms), .second, .val (.int sel), .val (.int (Int32.ofNat m1)), .val (.int q2), .val (.int q3), .val (.int q4), .val (.int q5), .val (.int (Int32.ofNat nB)), .val (.int q10), .val (.int q11), .val (.int q12), .val (.int (ls.toInt32)), .val (.int q40), .val (.int (ms.toInt32)), .val (.int q47), .val (.ref a_60), .val (.ref a_65), .val (.ref b67), .val (.ref b77), .unset, .unset, .unset] [])) _
                refine XS.iconst X85.here hx rfl (Jvm.hb hby at_363) ?_
                show Steps p.tables e below (T85.setTop (mkF m 364 #[.val (.int wa), .val (.int wb), .val (.long ls), .second, .val (.long ms), .second, .val (.int sel), .val (.int (Int32.ofNat m1)), .val (.int q2), .val (.int q3), .val (.int q4), .val (.int q5), .val (.int (Int32.ofNat nB)), .val (.int q10), .val (.int q11), .val (.int q12), .val (.int (ls.toInt32)), .val (.int q40), .val (.int (ms.toInt32)), .val (.int q47), .val (.ref a_60), .val (.ref a_65), .val (.ref b67), .val (.ref b77), .unset, .unset, .unset] [(.int (0 : Int32))])) t_
                exact k_)
              exact ⟨T85, X85, e85, fun t_ k_ => s101 t_ (castTop (by simp only [hq88, if_pos h90, if_pos h92, if_pos h94, if_neg h96, if_neg h99]) k_)⟩
        · have s102 : ∀ t_, Steps p.tables e below (T85.setTop (mkF m 343 #[.val (.int wa), .val (.int wb), .val (.long ls), .second, .val (.long ms), .second, .val (.int sel), .val (.int (Int32.ofNat m1)), .val (.int q2), .val (.int q3), .val (.int q4), .val (.int q5), .val (.int (Int32.ofNat nB)), .val (.int q10), .val (.int q11), .val (.int q12), .val (.int (ls.toInt32)), .val (.int q40), .val (.int (ms.toInt32)), .val (.int q47), .val (.ref a_60), .val (.ref a_65), .val (.ref b67), .val (.ref b77), .unset, .unset, .unset] [(.int q11), (.int q3)])) t_ → Steps p.tables e below (s₁.setTop (entryFrame m #[(.int wa), (.int wb), (.long ls), (.long ms), (.int sel)] maxLocals)) t_ := fun t_ k_ => s93 t_ (by
            show Steps p.tables e below (T85.setTop (mkF m 336 #[.val (.int wa), .val (.int wb), .val (.long ls), .second, .val (.long ms), .second, .val (.int sel), .val (.int (Int32.ofNat m1)), .val (.int q2), .val (.int q3), .val (.int q4), .val (.int q5), .val (.int (Int32.ofNat nB)), .val (.int q10), .val (.int q11), .val (.int q12), .val (.int (ls.toInt32)), .val (.int q40), .val (.int (ms.toInt32)), .val (.int q47), .val (.ref a_60), .val (.ref a_65), .val (.ref b67), .val (.ref b77), .unset, .unset, .unset] [(.int (2 : Int32)), (.int (Int32.ofNat m1))])) t_
            refine XS.icmpNo X85.here hx rfl (Jvm.hb hby at_336) rfl (flt h94).1 ?_
            show Steps p.tables e below (T85.setTop (mkF m 339 #[.val (.int wa), .val (.int wb), .val (.long ls), .second, .val (.long ms), .second, .val (.int sel), .val (.int (Int32.ofNat m1)), .val (.int q2), .val (.int q3), .val (.int q4), .val (.int q5), .val (.int (Int32.ofNat nB)), .val (.int q10), .val (.int q11), .val (.int q12), .val (.int (ls.toInt32)), .val (.int q40), .val (.int (ms.toInt32)), .val (.int q47), .val (.ref a_60), .val (.ref a_65), .val (.ref b67), .val (.ref b77), .unset, .unset, .unset] [])) _
            refine XS.iload X85.here hx rfl (Jvm.hb hby at_339) rfl ?_
            refine XS.iload X85.here hx rfl (Jvm.hb hby at_341) rfl ?_
            show Steps p.tables e below (T85.setTop (mkF m 343 #[.val (.int wa), .val (.int wb), .val (.long ls), .second, .val (.long ms), .second, .val (.int sel), .val (.int (Int32.ofNat m1)), .val (.int q2), .val (.int q3), .val (.int q4), .val (.int q5), .val (.int (Int32.ofNat nB)), .val (.int q10), .val (.int q11), .val (.int q12), .val (.int (ls.toInt32)), .val (.int q40), .val (.int (ms.toInt32)), .val (.int q47), .val (.ref a_60), .val (.ref a_65), .val (.ref b67), .val (.ref b77), .unset, .unset, .unset] [(.int q11), (.int q3)])) t_
            exact k_)
          by_cases h103 : q3 = q11
          · have s104 : ∀ t_, Steps p.tables e below (T85.setTop (mkF m 349 #[.val (.int wa), .val (.int wb), .val (.long ls), .second, .val (.long ms), .second, .val (.int sel), .val (.int (Int32.ofNat m1)), .val (.int q2), .val (.int q3), .val (.int q4), .val (.int q5), .val (.int (Int32.ofNat nB)), .val (.int q10), .val (.int q11), .val (.int q12), .val (.int (ls.toInt32)), .val (.int q40), .val (.int (ms.toInt32)), .val (.int q47), .val (.ref a_60), .val (.ref a_65), .val (.ref b67), .val (.ref b77), .unset, .unset, .unset] [(.int (3 : Int32)), (.int (Int32.ofNat m1))])) t_ → Steps p.tables e below (s₁.setTop (entryFrame m #[(.int wa), (.int wb), (.long ls), (.long ms), (.int sel)] maxLocals)) t_ := fun t_ k_ => s102 t_ (by
              show Steps p.tables e below (T85.setTop (mkF m 343 #[.val (.int wa), .val (.int wb), .val (.long ls), .second, .val (.long ms), .second, .val (.int sel), .val (.int (Int32.ofNat m1)), .val (.int q2), .val (.int q3), .val (.int q4), .val (.int q5), .val (.int (Int32.ofNat nB)), .val (.int q10), .val (.int q11), .val (.int q12), .val (.int (ls.toInt32)), .val (.int q40), .val (.int (ms.toInt32)), .val (.int q47), .val (.ref a_60), .val (.ref a_65), .val (.ref b67), .val (.ref b77), .unset, .unset, .unset] [(.int q11), (.int q3)])) t_
              refine XS.icmpNo X85.here hx rfl (Jvm.hb hby at_343) rfl (teq h103).2 ?_
              show Steps p.tables e below (T85.setTop (mkF m 346 #[.val (.int wa), .val (.int wb), .val (.long ls), .second, .val (.long ms), .second, .val (.int sel), .val (.int (Int32.ofNat m1)), .val (.int q2), .val (.int q3), .val (.int q4), .val (.int q5), .val (.int (Int32.ofNat nB)), .val (.int q10), .val (.int q11), .val (.int q12), .val (.int (ls.toInt32)), .val (.int q40), .val (.int (ms.toInt32)), .val (.int q47), .val (.ref a_60), .val (.ref a_65), .val (.ref b67), .val (.ref b77), .unset, .unset, .unset] [])) _
              refine XS.iload X85.here hx rfl (Jvm.hb hby at_346) rfl ?_
              refine XS.iconst X85.here hx rfl (Jvm.hb hby at_348) ?_
              show Steps p.tables e below (T85.setTop (mkF m 349 #[.val (.int wa), .val (.int wb), .val (.long ls), .second, .val (.long ms), .second, .val (.int sel), .val (.int (Int32.ofNat m1)), .val (.int q2), .val (.int q3), .val (.int q4), .val (.int q5), .val (.int (Int32.ofNat nB)), .val (.int q10), .val (.int q11), .val (.int q12), .val (.int (ls.toInt32)), .val (.int q40), .val (.int (ms.toInt32)), .val (.int q47), .val (.ref a_60), .val (.ref a_65), .val (.ref b67), .val (.ref b77), .unset, .unset, .unset] [(.int (3 : Int32)), (.int (Int32.ofNat m1))])) t_
              exact k_)
            by_cases h105 : (Int32.ofNat m1) < (3 : Int32)
            · have s106 : ∀ t_, Steps p.tables e below (T85.setTop (mkF m 364 #[.val (.int wa), .val (.int wb), .val (.long ls), .second, .val (.long ms), .second, .val (.int sel), .val (.int (Int32.ofNat m1)), .val (.int q2), .val (.int q3), .val (.int q4), .val (.int q5), .val (.int (Int32.ofNat nB)), .val (.int q10), .val (.int q11), .val (.int q12), .val (.int (ls.toInt32)), .val (.int q40), .val (.int (ms.toInt32)), .val (.int q47), .val (.ref a_60), .val (.ref a_65), .val (.ref b67), .val (.ref b77), .unset, .unset, .unset] [(.int (1 : Int32))])) t_ → Steps p.tables e below (s₁.setTop (entryFrame m #[(.int wa), (.int wb), (.long ls), (.long ms), (.int sel)] maxLocals)) t_ := fun t_ k_ => s104 t_ (by
                show Steps p.tables e below (T85.setTop (mkF m 349 #[.val (.int wa), .val (.int wb), .val (.long ls), .second, .val (.long ms), .second, .val (.int sel), .val (.int (Int32.ofNat m1)), .val (.int q2), .val (.int q3), .val (.int q4), .val (.int q5), .val (.int (Int32.ofNat nB)), .val (.int q10), .val (.int q11), .val (.int q12), .val (.int (ls.toInt32)), .val (.int q40), .val (.int (ms.toInt32)), .val (.int q47), .val (.ref a_60), .val (.ref a_65), .val (.ref b67), .val (.ref b77), .unset, .unset, .unset] [(.int (3 : Int32)), (.int (Int32.ofNat m1))])) t_
                refine XS.icmpYes X85.here hx rfl (pc0 := 349) (pc' := 359) rfl (Jvm.hb hby at_349) rfl (tlt h105).1 (by decide) (by decide) ?_
                show Steps p.tables e below (T85.setTop (mkF m 359 #[.val (.int wa), .val (.int wb), .val (.long ls), .second, .val (.long ms), .second, .val (.int sel), .val (.int (Int32.ofNat m1)), .val (.int q2), .val (.int q3), .val (.int q4), .val (.int q5), .val (.int (Int32.ofNat nB)), .val (.int q10), .val (.int q11), .val (.int q12), .val (.int (ls.toInt32)), .val (.int q40), .val (.int (ms.toInt32)), .val (.int q47), .val (.ref a_60), .val (.ref a_65), .val (.ref b67), .val (.ref b77), .unset, .unset, .unset] [])) _
                refine XS.iconst X85.here hx rfl (Jvm.hb hby at_359) ?_
                refine XS.goto X85.here hx rfl (pc0 := 360) (pc' := 364) rfl (Jvm.hb hby at_360) (by decide) (by decide) ?_
                show Steps p.tables e below (T85.setTop (mkF m 364 #[.val (.int wa), .val (.int wb), .val (.long ls), .second, .val (.long ms), .second, .val (.int sel), .val (.int (Int32.ofNat m1)), .val (.int q2), .val (.int q3), .val (.int q4), .val (.int q5), .val (.int (Int32.ofNat nB)), .val (.int q10), .val (.int q11), .val (.int q12), .val (.int (ls.toInt32)), .val (.int q40), .val (.int (ms.toInt32)), .val (.int q47), .val (.ref a_60), .val (.ref a_65), .val (.ref b67), .val (.ref b77), .unset, .unset, .unset] [(.int (1 : Int32))])) t_
                exact k_)
              exact ⟨T85, X85, e85, fun t_ k_ => s106 t_ (castTop (by simp only [hq88, if_pos h90, if_pos h92, if_neg h94, if_pos h103, if_pos h105]) k_)⟩
            · have s107 : ∀ t_, Steps p.tables e below (T85.setTop (mkF m 356 #[.val (.int wa), .val (.int wb), .val (.long ls), .second, .val (.long ms), .second, .val (.int sel), .val (.int (Int32.ofNat m1)), .val (.int q2), .val (.int q3), .val (.int q4), .val (.int q5), .val (.int (Int32.ofNat nB)), .val (.int q10), .val (.int q11), .val (.int q12), .val (.int (ls.toInt32)), .val (.int q40), .val (.int (ms.toInt32)), .val (.int q47), .val (.ref a_60), .val (.ref a_65), .val (.ref b67), .val (.ref b77), .unset, .unset, .unset] [(.int q12), (.int q4)])) t_ → Steps p.tables e below (s₁.setTop (entryFrame m #[(.int wa), (.int wb), (.long ls), (.long ms), (.int sel)] maxLocals)) t_ := fun t_ k_ => s104 t_ (by
                show Steps p.tables e below (T85.setTop (mkF m 349 #[.val (.int wa), .val (.int wb), .val (.long ls), .second, .val (.long ms), .second, .val (.int sel), .val (.int (Int32.ofNat m1)), .val (.int q2), .val (.int q3), .val (.int q4), .val (.int q5), .val (.int (Int32.ofNat nB)), .val (.int q10), .val (.int q11), .val (.int q12), .val (.int (ls.toInt32)), .val (.int q40), .val (.int (ms.toInt32)), .val (.int q47), .val (.ref a_60), .val (.ref a_65), .val (.ref b67), .val (.ref b77), .unset, .unset, .unset] [(.int (3 : Int32)), (.int (Int32.ofNat m1))])) t_
                refine XS.icmpNo X85.here hx rfl (Jvm.hb hby at_349) rfl (flt h105).1 ?_
                show Steps p.tables e below (T85.setTop (mkF m 352 #[.val (.int wa), .val (.int wb), .val (.long ls), .second, .val (.long ms), .second, .val (.int sel), .val (.int (Int32.ofNat m1)), .val (.int q2), .val (.int q3), .val (.int q4), .val (.int q5), .val (.int (Int32.ofNat nB)), .val (.int q10), .val (.int q11), .val (.int q12), .val (.int (ls.toInt32)), .val (.int q40), .val (.int (ms.toInt32)), .val (.int q47), .val (.ref a_60), .val (.ref a_65), .val (.ref b67), .val (.ref b77), .unset, .unset, .unset] [])) _
                refine XS.iload X85.here hx rfl (Jvm.hb hby at_352) rfl ?_
                refine XS.iload X85.here hx rfl (Jvm.hb hby at_354) rfl ?_
                show Steps p.tables e below (T85.setTop (mkF m 356 #[.val (.int wa), .val (.int wb), .val (.long ls), .second, .val (.long ms), .second, .val (.int sel), .val (.int (Int32.ofNat m1)), .val (.int q2), .val (.int q3), .val (.int q4), .val (.int q5), .val (.int (Int32.ofNat nB)), .val (.int q10), .val (.int q11), .val (.int q12), .val (.int (ls.toInt32)), .val (.int q40), .val (.int (ms.toInt32)), .val (.int q47), .val (.ref a_60), .val (.ref a_65), .val (.ref b67), .val (.ref b77), .unset, .unset, .unset] [(.int q12), (.int q4)])) t_
                exact k_)
              by_cases h108 : q4 = q12
              · have s109 : ∀ t_, Steps p.tables e below (T85.setTop (mkF m 364 #[.val (.int wa), .val (.int wb), .val (.long ls), .second, .val (.long ms), .second, .val (.int sel), .val (.int (Int32.ofNat m1)), .val (.int q2), .val (.int q3), .val (.int q4), .val (.int q5), .val (.int (Int32.ofNat nB)), .val (.int q10), .val (.int q11), .val (.int q12), .val (.int (ls.toInt32)), .val (.int q40), .val (.int (ms.toInt32)), .val (.int q47), .val (.ref a_60), .val (.ref a_65), .val (.ref b67), .val (.ref b77), .unset, .unset, .unset] [(.int (1 : Int32))])) t_ → Steps p.tables e below (s₁.setTop (entryFrame m #[(.int wa), (.int wb), (.long ls), (.long ms), (.int sel)] maxLocals)) t_ := fun t_ k_ => s107 t_ (by
                  show Steps p.tables e below (T85.setTop (mkF m 356 #[.val (.int wa), .val (.int wb), .val (.long ls), .second, .val (.long ms), .second, .val (.int sel), .val (.int (Int32.ofNat m1)), .val (.int q2), .val (.int q3), .val (.int q4), .val (.int q5), .val (.int (Int32.ofNat nB)), .val (.int q10), .val (.int q11), .val (.int q12), .val (.int (ls.toInt32)), .val (.int q40), .val (.int (ms.toInt32)), .val (.int q47), .val (.ref a_60), .val (.ref a_65), .val (.ref b67), .val (.ref b77), .unset, .unset, .unset] [(.int q12), (.int q4)])) t_
                  refine XS.icmpNo X85.here hx rfl (Jvm.hb hby at_356) rfl (teq h108).2 ?_
                  show Steps p.tables e below (T85.setTop (mkF m 359 #[.val (.int wa), .val (.int wb), .val (.long ls), .second, .val (.long ms), .second, .val (.int sel), .val (.int (Int32.ofNat m1)), .val (.int q2), .val (.int q3), .val (.int q4), .val (.int q5), .val (.int (Int32.ofNat nB)), .val (.int q10), .val (.int q11), .val (.int q12), .val (.int (ls.toInt32)), .val (.int q40), .val (.int (ms.toInt32)), .val (.int q47), .val (.ref a_60), .val (.ref a_65), .val (.ref b67), .val (.ref b77), .unset, .unset, .unset] [])) _
                  refine XS.iconst X85.here hx rfl (Jvm.hb hby at_359) ?_
                  refine XS.goto X85.here hx rfl (pc0 := 360) (pc' := 364) rfl (Jvm.hb hby at_360) (by decide) (by decide) ?_
                  show Steps p.tables e below (T85.setTop (mkF m 364 #[.val (.int wa), .val (.int wb), .val (.long ls), .second, .val (.long ms), .second, .val (.int sel), .val (.int (Int32.ofNat m1)), .val (.int q2), .val (.int q3), .val (.int q4), .val (.int q5), .val (.int (Int32.ofNat nB)), .val (.int q10), .val (.int q11), .val (.int q12), .val (.int (ls.toInt32)), .val (.int q40), .val (.int (ms.toInt32)), .val (.int q47), .val (.ref a_60), .val (.ref a_65), .val (.ref b67), .val (.ref b77), .unset, .unset, .unset] [(.int (1 : Int32))])) t_
                  exact k_)
                exact ⟨T85, X85, e85, fun t_ k_ => s109 t_ (castTop (by simp only [hq88, if_pos h90, if_pos h92, if_neg h94, if_pos h103, if_neg h105, if_pos h108]) k_)⟩
              · have s110 : ∀ t_, Steps p.tables e below (T85.setTop (mkF m 364 #[.val (.int wa), .val (.int wb), .val (.long ls), .second, .val (.long ms), .second, .val (.int sel), .val (.int (Int32.ofNat m1)), .val (.int q2), .val (.int q3), .val (.int q4), .val (.int q5), .val (.int (Int32.ofNat nB)), .val (.int q10), .val (.int q11), .val (.int q12), .val (.int (ls.toInt32)), .val (.int q40), .val (.int (ms.toInt32)), .val (.int q47), .val (.ref a_60), .val (.ref a_65), .val (.ref b67), .val (.ref b77), .unset, .unset, .unset] [(.int (0 : Int32))])) t_ → Steps p.tables e below (s₁.setTop (entryFrame m #[(.int wa), (.int wb), (.long ls), (.long ms), (.int sel)] maxLocals)) t_ := fun t_ k_ => s107 t_ (by
                  show Steps p.tables e below (T85.setTop (mkF m 356 #[.val (.int wa), .val (.int wb), .val (.long ls), .second, .val (.long ms), .second, .val (.int sel), .val (.int (Int32.ofNat m1)), .val (.int q2), .val (.int q3), .val (.int q4), .val (.int q5), .val (.int (Int32.ofNat nB)), .val (.int q10), .val (.int q11), .val (.int q12), .val (.int (ls.toInt32)), .val (.int q40), .val (.int (ms.toInt32)), .val (.int q47), .val (.ref a_60), .val (.ref a_65), .val (.ref b67), .val (.ref b77), .unset, .unset, .unset] [(.int q12), (.int q4)])) t_
                  refine XS.icmpYes X85.here hx rfl (pc0 := 356) (pc' := 363) rfl (Jvm.hb hby at_356) rfl (feq h108).2 (by decide) (by decide) ?_
                  show Steps p.tables e below (T85.setTop (mkF m 363 #[.val (.int wa), .val (.int wb), .val (.long ls), .second, .val (.long ms), .second, .val (.int sel), .val (.int (Int32.ofNat m1)), .val (.int q2), .val (.int q3), .val (.int q4), .val (.int q5), .val (.int (Int32.ofNat nB)), .val (.int q10), .val (.int q11), .val (.int q12), .val (.int (ls.toInt32)), .val (.int q40), .val (.int (ms.toInt32)), .val (.int q47), .val (.ref a_60), .val (.ref a_65), .val (.ref b67), .val (.ref b77), .unset, .unset, .unset] [])) _
                  refine XS.iconst X85.here hx rfl (Jvm.hb hby at_363) ?_
                  show Steps p.tables e below (T85.setTop (mkF m 364 #[.val (.int wa), .val (.int wb), .val (.long ls), .second, .val (.long ms), .second, .val (.int sel), .val (.int (Int32.ofNat m1)), .val (.int q2), .val (.int q3), .val (.int q4), .val (.int q5), .val (.int (Int32.ofNat nB)), .val (.int q10), .val (.int q11), .val (.int q12), .val (.int (ls.toInt32)), .val (.int q40), .val (.int (ms.toInt32)), .val (.int q47), .val (.ref a_60), .val (.ref a_65), .val (.ref b67), .val (.ref b77), .unset, .unset, .unset] [(.int (0 : Int32))])) t_
                  exact k_)
                exact ⟨T85, X85, e85, fun t_ k_ => s110 t_ (castTop (by simp only [hq88, if_pos h90, if_pos h92, if_neg h94, if_pos h103, if_neg h105, if_neg h108]) k_)⟩
          · have s111 : ∀ t_, Steps p.tables e below (T85.setTop (mkF m 364 #[.val (.int wa), .val (.int wb), .val (.long ls), .second, .val (.long ms), .second, .val (.int sel), .val (.int (Int32.ofNat m1)), .val (.int q2), .val (.int q3), .val (.int q4), .val (.int q5), .val (.int (Int32.ofNat nB)), .val (.int q10), .val (.int q11), .val (.int q12), .val (.int (ls.toInt32)), .val (.int q40), .val (.int (ms.toInt32)), .val (.int q47), .val (.ref a_60), .val (.ref a_65), .val (.ref b67), .val (.ref b77), .unset, .unset, .unset] [(.int (0 : Int32))])) t_ → Steps p.tables e below (s₁.setTop (entryFrame m #[(.int wa), (.int wb), (.long ls), (.long ms), (.int sel)] maxLocals)) t_ := fun t_ k_ => s102 t_ (by
              show Steps p.tables e below (T85.setTop (mkF m 343 #[.val (.int wa), .val (.int wb), .val (.long ls), .second, .val (.long ms), .second, .val (.int sel), .val (.int (Int32.ofNat m1)), .val (.int q2), .val (.int q3), .val (.int q4), .val (.int q5), .val (.int (Int32.ofNat nB)), .val (.int q10), .val (.int q11), .val (.int q12), .val (.int (ls.toInt32)), .val (.int q40), .val (.int (ms.toInt32)), .val (.int q47), .val (.ref a_60), .val (.ref a_65), .val (.ref b67), .val (.ref b77), .unset, .unset, .unset] [(.int q11), (.int q3)])) t_
              refine XS.icmpYes X85.here hx rfl (pc0 := 343) (pc' := 363) rfl (Jvm.hb hby at_343) rfl (feq h103).2 (by decide) (by decide) ?_
              show Steps p.tables e below (T85.setTop (mkF m 363 #[.val (.int wa), .val (.int wb), .val (.long ls), .second, .val (.long ms), .second, .val (.int sel), .val (.int (Int32.ofNat m1)), .val (.int q2), .val (.int q3), .val (.int q4), .val (.int q5), .val (.int (Int32.ofNat nB)), .val (.int q10), .val (.int q11), .val (.int q12), .val (.int (ls.toInt32)), .val (.int q40), .val (.int (ms.toInt32)), .val (.int q47), .val (.ref a_60), .val (.ref a_65), .val (.ref b67), .val (.ref b77), .unset, .unset, .unset] [])) _
              refine XS.iconst X85.here hx rfl (Jvm.hb hby at_363) ?_
              show Steps p.tables e below (T85.setTop (mkF m 364 #[.val (.int wa), .val (.int wb), .val (.long ls), .second, .val (.long ms), .second, .val (.int sel), .val (.int (Int32.ofNat m1)), .val (.int q2), .val (.int q3), .val (.int q4), .val (.int q5), .val (.int (Int32.ofNat nB)), .val (.int q10), .val (.int q11), .val (.int q12), .val (.int (ls.toInt32)), .val (.int q40), .val (.int (ms.toInt32)), .val (.int q47), .val (.ref a_60), .val (.ref a_65), .val (.ref b67), .val (.ref b77), .unset, .unset, .unset] [(.int (0 : Int32))])) t_
              exact k_)
            exact ⟨T85, X85, e85, fun t_ k_ => s111 t_ (castTop (by simp only [hq88, if_pos h90, if_pos h92, if_neg h94, if_neg h103]) k_)⟩
      · have s112 : ∀ t_, Steps p.tables e below (T85.setTop (mkF m 330 #[.val (.int wa), .val (.int wb), .val (.long ls), .second, .val (.long ms), .second, .val (.int sel), .val (.int (Int32.ofNat m1)), .val (.int q2), .val (.int q3), .val (.int q4), .val (.int q5), .val (.int (Int32.ofNat nB)), .val (.int q10), .val (.int q11), .val (.int q12), .val (.int (ls.toInt32)), .val (.int q40), .val (.int (ms.toInt32)), .val (.int q47), .val (.ref a_60), .val (.ref a_65), .val (.ref b67), .val (.ref b77), .unset, .unset, .unset] [(.int q10), (.int q2)])) t_ → Steps p.tables e below (s₁.setTop (entryFrame m #[(.int wa), (.int wb), (.long ls), (.long ms), (.int sel)] maxLocals)) t_ := fun t_ k_ => s91 t_ (by
          show Steps p.tables e below (T85.setTop (mkF m 323 #[.val (.int wa), .val (.int wb), .val (.long ls), .second, .val (.long ms), .second, .val (.int sel), .val (.int (Int32.ofNat m1)), .val (.int q2), .val (.int q3), .val (.int q4), .val (.int q5), .val (.int (Int32.ofNat nB)), .val (.int q10), .val (.int q11), .val (.int q12), .val (.int (ls.toInt32)), .val (.int q40), .val (.int (ms.toInt32)), .val (.int q47), .val (.ref a_60), .val (.ref a_65), .val (.ref b67), .val (.ref b77), .unset, .unset, .unset] [(.int (1 : Int32)), (.int (Int32.ofNat m1))])) t_
          refine XS.icmpNo X85.here hx rfl (Jvm.hb hby at_323) rfl (flt h92).1 ?_
          show Steps p.tables e below (T85.setTop (mkF m 326 #[.val (.int wa), .val (.int wb), .val (.long ls), .second, .val (.long ms), .second, .val (.int sel), .val (.int (Int32.ofNat m1)), .val (.int q2), .val (.int q3), .val (.int q4), .val (.int q5), .val (.int (Int32.ofNat nB)), .val (.int q10), .val (.int q11), .val (.int q12), .val (.int (ls.toInt32)), .val (.int q40), .val (.int (ms.toInt32)), .val (.int q47), .val (.ref a_60), .val (.ref a_65), .val (.ref b67), .val (.ref b77), .unset, .unset, .unset] [])) _
          refine XS.iload X85.here hx rfl (Jvm.hb hby at_326) rfl ?_
          refine XS.iload X85.here hx rfl (Jvm.hb hby at_328) rfl ?_
          show Steps p.tables e below (T85.setTop (mkF m 330 #[.val (.int wa), .val (.int wb), .val (.long ls), .second, .val (.long ms), .second, .val (.int sel), .val (.int (Int32.ofNat m1)), .val (.int q2), .val (.int q3), .val (.int q4), .val (.int q5), .val (.int (Int32.ofNat nB)), .val (.int q10), .val (.int q11), .val (.int q12), .val (.int (ls.toInt32)), .val (.int q40), .val (.int (ms.toInt32)), .val (.int q47), .val (.ref a_60), .val (.ref a_65), .val (.ref b67), .val (.ref b77), .unset, .unset, .unset] [(.int q10), (.int q2)])) t_
          exact k_)
        by_cases h113 : q2 = q10
        · have s114 : ∀ t_, Steps p.tables e below (T85.setTop (mkF m 336 #[.val (.int wa), .val (.int wb), .val (.long ls), .second, .val (.long ms), .second, .val (.int sel), .val (.int (Int32.ofNat m1)), .val (.int q2), .val (.int q3), .val (.int q4), .val (.int q5), .val (.int (Int32.ofNat nB)), .val (.int q10), .val (.int q11), .val (.int q12), .val (.int (ls.toInt32)), .val (.int q40), .val (.int (ms.toInt32)), .val (.int q47), .val (.ref a_60), .val (.ref a_65), .val (.ref b67), .val (.ref b77), .unset, .unset, .unset] [(.int (2 : Int32)), (.int (Int32.ofNat m1))])) t_ → Steps p.tables e below (s₁.setTop (entryFrame m #[(.int wa), (.int wb), (.long ls), (.long ms), (.int sel)] maxLocals)) t_ := fun t_ k_ => s112 t_ (by
            show Steps p.tables e below (T85.setTop (mkF m 330 #[.val (.int wa), .val (.int wb), .val (.long ls), .second, .val (.long ms), .second, .val (.int sel), .val (.int (Int32.ofNat m1)), .val (.int q2), .val (.int q3), .val (.int q4), .val (.int q5), .val (.int (Int32.ofNat nB)), .val (.int q10), .val (.int q11), .val (.int q12), .val (.int (ls.toInt32)), .val (.int q40), .val (.int (ms.toInt32)), .val (.int q47), .val (.ref a_60), .val (.ref a_65), .val (.ref b67), .val (.ref b77), .unset, .unset, .unset] [(.int q10), (.int q2)])) t_
            refine XS.icmpNo X85.here hx rfl (Jvm.hb hby at_330) rfl (teq h113).2 ?_
            show Steps p.tables e below (T85.setTop (mkF m 333 #[.val (.int wa), .val (.int wb), .val (.long ls), .second, .val (.long ms), .second, .val (.int sel), .val (.int (Int32.ofNat m1)), .val (.int q2), .val (.int q3), .val (.int q4), .val (.int q5), .val (.int (Int32.ofNat nB)), .val (.int q10), .val (.int q11), .val (.int q12), .val (.int (ls.toInt32)), .val (.int q40), .val (.int (ms.toInt32)), .val (.int q47), .val (.ref a_60), .val (.ref a_65), .val (.ref b67), .val (.ref b77), .unset, .unset, .unset] [])) _
            refine XS.iload X85.here hx rfl (Jvm.hb hby at_333) rfl ?_
            refine XS.iconst X85.here hx rfl (Jvm.hb hby at_335) ?_
            show Steps p.tables e below (T85.setTop (mkF m 336 #[.val (.int wa), .val (.int wb), .val (.long ls), .second, .val (.long ms), .second, .val (.int sel), .val (.int (Int32.ofNat m1)), .val (.int q2), .val (.int q3), .val (.int q4), .val (.int q5), .val (.int (Int32.ofNat nB)), .val (.int q10), .val (.int q11), .val (.int q12), .val (.int (ls.toInt32)), .val (.int q40), .val (.int (ms.toInt32)), .val (.int q47), .val (.ref a_60), .val (.ref a_65), .val (.ref b67), .val (.ref b77), .unset, .unset, .unset] [(.int (2 : Int32)), (.int (Int32.ofNat m1))])) t_
            exact k_)
          by_cases h115 : (Int32.ofNat m1) < (2 : Int32)
          · have s116 : ∀ t_, Steps p.tables e below (T85.setTop (mkF m 349 #[.val (.int wa), .val (.int wb), .val (.long ls), .second, .val (.long ms), .second, .val (.int sel), .val (.int (Int32.ofNat m1)), .val (.int q2), .val (.int q3), .val (.int q4), .val (.int q5), .val (.int (Int32.ofNat nB)), .val (.int q10), .val (.int q11), .val (.int q12), .val (.int (ls.toInt32)), .val (.int q40), .val (.int (ms.toInt32)), .val (.int q47), .val (.ref a_60), .val (.ref a_65), .val (.ref b67), .val (.ref b77), .unset, .unset, .unset] [(.int (3 : Int32)), (.int (Int32.ofNat m1))])) t_ → Steps p.tables e below (s₁.setTop (entryFrame m #[(.int wa), (.int wb), (.long ls), (.long ms), (.int sel)] maxLocals)) t_ := fun t_ k_ => s114 t_ (by
              show Steps p.tables e below (T85.setTop (mkF m 336 #[.val (.int wa), .val (.int wb), .val (.long ls), .second, .val (.long ms), .second, .val (.int sel), .val (.int (Int32.ofNat m1)), .val (.int q2), .val (.int q3), .val (.int q4), .val (.int q5), .val (.int (Int32.ofNat nB)), .val (.int q10), .val (.int q11), .val (.int q12), .val (.int (ls.toInt32)), .val (.int q40), .val (.int (ms.toInt32)), .val (.int q47), .val (.ref a_60), .val (.ref a_65), .val (.ref b67), .val (.ref b77), .unset, .unset, .unset] [(.int (2 : Int32)), (.int (Int32.ofNat m1))])) t_
              refine XS.icmpYes X85.here hx rfl (pc0 := 336) (pc' := 346) rfl (Jvm.hb hby at_336) rfl (tlt h115).1 (by decide) (by decide) ?_
              show Steps p.tables e below (T85.setTop (mkF m 346 #[.val (.int wa), .val (.int wb), .val (.long ls), .second, .val (.long ms), .second, .val (.int sel), .val (.int (Int32.ofNat m1)), .val (.int q2), .val (.int q3), .val (.int q4), .val (.int q5), .val (.int (Int32.ofNat nB)), .val (.int q10), .val (.int q11), .val (.int q12), .val (.int (ls.toInt32)), .val (.int q40), .val (.int (ms.toInt32)), .val (.int q47), .val (.ref a_60), .val (.ref a_65), .val (.ref b67), .val (.ref b77), .unset, .unset, .unset] [])) _
              refine XS.iload X85.here hx rfl (Jvm.hb hby at_346) rfl ?_
              refine XS.iconst X85.here hx rfl (Jvm.hb hby at_348) ?_
              show Steps p.tables e below (T85.setTop (mkF m 349 #[.val (.int wa), .val (.int wb), .val (.long ls), .second, .val (.long ms), .second, .val (.int sel), .val (.int (Int32.ofNat m1)), .val (.int q2), .val (.int q3), .val (.int q4), .val (.int q5), .val (.int (Int32.ofNat nB)), .val (.int q10), .val (.int q11), .val (.int q12), .val (.int (ls.toInt32)), .val (.int q40), .val (.int (ms.toInt32)), .val (.int q47), .val (.ref a_60), .val (.ref a_65), .val (.ref b67), .val (.ref b77), .unset, .unset, .unset] [(.int (3 : Int32)), (.int (Int32.ofNat m1))])) t_
              exact k_)
            by_cases h117 : (Int32.ofNat m1) < (3 : Int32)
            · have s118 : ∀ t_, Steps p.tables e below (T85.setTop (mkF m 364 #[.val (.int wa), .val (.int wb), .val (.long ls), .second, .val (.long ms), .second, .val (.int sel), .val (.int (Int32.ofNat m1)), .val (.int q2), .val (.int q3), .val (.int q4), .val (.int q5), .val (.int (Int32.ofNat nB)), .val (.int q10), .val (.int q11), .val (.int q12), .val (.int (ls.toInt32)), .val (.int q40), .val (.int (ms.toInt32)), .val (.int q47), .val (.ref a_60), .val (.ref a_65), .val (.ref b67), .val (.ref b77), .unset, .unset, .unset] [(.int (1 : Int32))])) t_ → Steps p.tables e below (s₁.setTop (entryFrame m #[(.int wa), (.int wb), (.long ls), (.long ms), (.int sel)] maxLocals)) t_ := fun t_ k_ => s116 t_ (by
                show Steps p.tables e below (T85.setTop (mkF m 349 #[.val (.int wa), .val (.int wb), .val (.long ls), .second, .val (.long ms), .second, .val (.int sel), .val (.int (Int32.ofNat m1)), .val (.int q2), .val (.int q3), .val (.int q4), .val (.int q5), .val (.int (Int32.ofNat nB)), .val (.int q10), .val (.int q11), .val (.int q12), .val (.int (ls.toInt32)), .val (.int q40), .val (.int (ms.toInt32)), .val (.int q47), .val (.ref a_60), .val (.ref a_65), .val (.ref b67), .val (.ref b77), .unset, .unset, .unset] [(.int (3 : Int32)), (.int (Int32.ofNat m1))])) t_
                refine XS.icmpYes X85.here hx rfl (pc0 := 349) (pc' := 359) rfl (Jvm.hb hby at_349) rfl (tlt h117).1 (by decide) (by decide) ?_
                show Steps p.tables e below (T85.setTop (mkF m 359 #[.val (.int wa), .val (.int wb), .val (.long ls), .second, .val (.long ms), .second, .val (.int sel), .val (.int (Int32.ofNat m1)), .val (.int q2), .val (.int q3), .val (.int q4), .val (.int q5), .val (.int (Int32.ofNat nB)), .val (.int q10), .val (.int q11), .val (.int q12), .val (.int (ls.toInt32)), .val (.int q40), .val (.int (ms.toInt32)), .val (.int q47), .val (.ref a_60), .val (.ref a_65), .val (.ref b67), .val (.ref b77), .unset, .unset, .unset] [])) _
                refine XS.iconst X85.here hx rfl (Jvm.hb hby at_359) ?_
                refine XS.goto X85.here hx rfl (pc0 := 360) (pc' := 364) rfl (Jvm.hb hby at_360) (by decide) (by decide) ?_
                show Steps p.tables e below (T85.setTop (mkF m 364 #[.val (.int wa), .val (.int wb), .val (.long ls), .second, .val (.long ms), .second, .val (.int sel), .val (.int (Int32.ofNat m1)), .val (.int q2), .val (.int q3), .val (.int q4), .val (.int q5), .val (.int (Int32.ofNat nB)), .val (.int q10), .val (.int q11), .val (.int q12), .val (.int (ls.toInt32)), .val (.int q40), .val (.int (ms.toInt32)), .val (.int q47), .val (.ref a_60), .val (.ref a_65), .val (.ref b67), .val (.ref b77), .unset, .unset, .unset] [(.int (1 : Int32))])) t_
                exact k_)
              exact ⟨T85, X85, e85, fun t_ k_ => s118 t_ (castTop (by simp only [hq88, if_pos h90, if_neg h92, if_pos h113, if_pos h115, if_pos h117]) k_)⟩
            · have s119 : ∀ t_, Steps p.tables e below (T85.setTop (mkF m 356 #[.val (.int wa), .val (.int wb), .val (.long ls), .second, .val (.long ms), .second, .val (.int sel), .val (.int (Int32.ofNat m1)), .val (.int q2), .val (.int q3), .val (.int q4), .val (.int q5), .val (.int (Int32.ofNat nB)), .val (.int q10), .val (.int q11), .val (.int q12), .val (.int (ls.toInt32)), .val (.int q40), .val (.int (ms.toInt32)), .val (.int q47), .val (.ref a_60), .val (.ref a_65), .val (.ref b67), .val (.ref b77), .unset, .unset, .unset] [(.int q12), (.int q4)])) t_ → Steps p.tables e below (s₁.setTop (entryFrame m #[(.int wa), (.int wb), (.long ls), (.long ms), (.int sel)] maxLocals)) t_ := fun t_ k_ => s116 t_ (by
                show Steps p.tables e below (T85.setTop (mkF m 349 #[.val (.int wa), .val (.int wb), .val (.long ls), .second, .val (.long ms), .second, .val (.int sel), .val (.int (Int32.ofNat m1)), .val (.int q2), .val (.int q3), .val (.int q4), .val (.int q5), .val (.int (Int32.ofNat nB)), .val (.int q10), .val (.int q11), .val (.int q12), .val (.int (ls.toInt32)), .val (.int q40), .val (.int (ms.toInt32)), .val (.int q47), .val (.ref a_60), .val (.ref a_65), .val (.ref b67), .val (.ref b77), .unset, .unset, .unset] [(.int (3 : Int32)), (.int (Int32.ofNat m1))])) t_
                refine XS.icmpNo X85.here hx rfl (Jvm.hb hby at_349) rfl (flt h117).1 ?_
                show Steps p.tables e below (T85.setTop (mkF m 352 #[.val (.int wa), .val (.int wb), .val (.long ls), .second, .val (.long ms), .second, .val (.int sel), .val (.int (Int32.ofNat m1)), .val (.int q2), .val (.int q3), .val (.int q4), .val (.int q5), .val (.int (Int32.ofNat nB)), .val (.int q10), .val (.int q11), .val (.int q12), .val (.int (ls.toInt32)), .val (.int q40), .val (.int (ms.toInt32)), .val (.int q47), .val (.ref a_60), .val (.ref a_65), .val (.ref b67), .val (.ref b77), .unset, .unset, .unset] [])) _
                refine XS.iload X85.here hx rfl (Jvm.hb hby at_352) rfl ?_
                refine XS.iload X85.here hx rfl (Jvm.hb hby at_354) rfl ?_
                show Steps p.tables e below (T85.setTop (mkF m 356 #[.val (.int wa), .val (.int wb), .val (.long ls), .second, .val (.long ms), .second, .val (.int sel), .val (.int (Int32.ofNat m1)), .val (.int q2), .val (.int q3), .val (.int q4), .val (.int q5), .val (.int (Int32.ofNat nB)), .val (.int q10), .val (.int q11), .val (.int q12), .val (.int (ls.toInt32)), .val (.int q40), .val (.int (ms.toInt32)), .val (.int q47), .val (.ref a_60), .val (.ref a_65), .val (.ref b67), .val (.ref b77), .unset, .unset, .unset] [(.int q12), (.int q4)])) t_
                exact k_)
              by_cases h120 : q4 = q12
              · have s121 : ∀ t_, Steps p.tables e below (T85.setTop (mkF m 364 #[.val (.int wa), .val (.int wb), .val (.long ls), .second, .val (.long ms), .second, .val (.int sel), .val (.int (Int32.ofNat m1)), .val (.int q2), .val (.int q3), .val (.int q4), .val (.int q5), .val (.int (Int32.ofNat nB)), .val (.int q10), .val (.int q11), .val (.int q12), .val (.int (ls.toInt32)), .val (.int q40), .val (.int (ms.toInt32)), .val (.int q47), .val (.ref a_60), .val (.ref a_65), .val (.ref b67), .val (.ref b77), .unset, .unset, .unset] [(.int (1 : Int32))])) t_ → Steps p.tables e below (s₁.setTop (entryFrame m #[(.int wa), (.int wb), (.long ls), (.long ms), (.int sel)] maxLocals)) t_ := fun t_ k_ => s119 t_ (by
                  show Steps p.tables e below (T85.setTop (mkF m 356 #[.val (.int wa), .val (.int wb), .val (.long ls), .second, .val (.long ms), .second, .val (.int sel), .val (.int (Int32.ofNat m1)), .val (.int q2), .val (.int q3), .val (.int q4), .val (.int q5), .val (.int (Int32.ofNat nB)), .val (.int q10), .val (.int q11), .val (.int q12), .val (.int (ls.toInt32)), .val (.int q40), .val (.int (ms.toInt32)), .val (.int q47), .val (.ref a_60), .val (.ref a_65), .val (.ref b67), .val (.ref b77), .unset, .unset, .unset] [(.int q12), (.int q4)])) t_
                  refine XS.icmpNo X85.here hx rfl (Jvm.hb hby at_356) rfl (teq h120).2 ?_
                  show Steps p.tables e below (T85.setTop (mkF m 359 #[.val (.int wa), .val (.int wb), .val (.long ls), .second, .val (.long ms), .second, .val (.int sel), .val (.int (Int32.ofNat m1)), .val (.int q2), .val (.int q3), .val (.int q4), .val (.int q5), .val (.int (Int32.ofNat nB)), .val (.int q10), .val (.int q11), .val (.int q12), .val (.int (ls.toInt32)), .val (.int q40), .val (.int (ms.toInt32)), .val (.int q47), .val (.ref a_60), .val (.ref a_65), .val (.ref b67), .val (.ref b77), .unset, .unset, .unset] [])) _
                  refine XS.iconst X85.here hx rfl (Jvm.hb hby at_359) ?_
                  refine XS.goto X85.here hx rfl (pc0 := 360) (pc' := 364) rfl (Jvm.hb hby at_360) (by decide) (by decide) ?_
                  show Steps p.tables e below (T85.setTop (mkF m 364 #[.val (.int wa), .val (.int wb), .val (.long ls), .second, .val (.long ms), .second, .val (.int sel), .val (.int (Int32.ofNat m1)), .val (.int q2), .val (.int q3), .val (.int q4), .val (.int q5), .val (.int (Int32.ofNat nB)), .val (.int q10), .val (.int q11), .val (.int q12), .val (.int (ls.toInt32)), .val (.int q40), .val (.int (ms.toInt32)), .val (.int q47), .val (.ref a_60), .val (.ref a_65), .val (.ref b67), .val (.ref b77), .unset, .unset, .unset] [(.int (1 : Int32))])) t_
                  exact k_)
                exact ⟨T85, X85, e85, fun t_ k_ => s121 t_ (castTop (by simp only [hq88, if_pos h90, if_neg h92, if_pos h113, if_pos h115, if_neg h117, if_pos h120]) k_)⟩
              · have s122 : ∀ t_, Steps p.tables e below (T85.setTop (mkF m 364 #[.val (.int wa), .val (.int wb), .val (.long ls), .second, .val (.long ms), .second, .val (.int sel), .val (.int (Int32.ofNat m1)), .val (.int q2), .val (.int q3), .val (.int q4), .val (.int q5), .val (.int (Int32.ofNat nB)), .val (.int q10), .val (.int q11), .val (.int q12), .val (.int (ls.toInt32)), .val (.int q40), .val (.int (ms.toInt32)), .val (.int q47), .val (.ref a_60), .val (.ref a_65), .val (.ref b67), .val (.ref b77), .unset, .unset, .unset] [(.int (0 : Int32))])) t_ → Steps p.tables e below (s₁.setTop (entryFrame m #[(.int wa), (.int wb), (.long ls), (.long ms), (.int sel)] maxLocals)) t_ := fun t_ k_ => s119 t_ (by
                  show Steps p.tables e below (T85.setTop (mkF m 356 #[.val (.int wa), .val (.int wb), .val (.long ls), .second, .val (.long ms), .second, .val (.int sel), .val (.int (Int32.ofNat m1)), .val (.int q2), .val (.int q3), .val (.int q4), .val (.int q5), .val (.int (Int32.ofNat nB)), .val (.int q10), .val (.int q11), .val (.int q12), .val (.int (ls.toInt32)), .val (.int q40), .val (.int (ms.toInt32)), .val (.int q47), .val (.ref a_60), .val (.ref a_65), .val (.ref b67), .val (.ref b77), .unset, .unset, .unset] [(.int q12), (.int q4)])) t_
                  refine XS.icmpYes X85.here hx rfl (pc0 := 356) (pc' := 363) rfl (Jvm.hb hby at_356) rfl (feq h120).2 (by decide) (by decide) ?_
                  show Steps p.tables e below (T85.setTop (mkF m 363 #[.val (.int wa), .val (.int wb), .val (.long ls), .second, .val (.long ms), .second, .val (.int sel), .val (.int (Int32.ofNat m1)), .val (.int q2), .val (.int q3), .val (.int q4), .val (.int q5), .val (.int (Int32.ofNat nB)), .val (.int q10), .val (.int q11), .val (.int q12), .val (.int (ls.toInt32)), .val (.int q40), .val (.int (ms.toInt32)), .val (.int q47), .val (.ref a_60), .val (.ref a_65), .val (.ref b67), .val (.ref b77), .unset, .unset, .unset] [])) _
                  refine XS.iconst X85.here hx rfl (Jvm.hb hby at_363) ?_
                  show Steps p.tables e below (T85.setTop (mkF m 364 #[.val (.int wa), .val (.int wb), .val (.long ls), .second, .val (.long ms), .second, .val (.int sel), .val (.int (Int32.ofNat m1)), .val (.int q2), .val (.int q3), .val (.int q4), .val (.int q5), .val (.int (Int32.ofNat nB)), .val (.int q10), .val (.int q11), .val (.int q12), .val (.int (ls.toInt32)), .val (.int q40), .val (.int (ms.toInt32)), .val (.int q47), .val (.ref a_60), .val (.ref a_65), .val (.ref b67), .val (.ref b77), .unset, .unset, .unset] [(.int (0 : Int32))])) t_
                  exact k_)
                exact ⟨T85, X85, e85, fun t_ k_ => s122 t_ (castTop (by simp only [hq88, if_pos h90, if_neg h92, if_pos h113, if_pos h115, if_neg h117, if_neg h120]) k_)⟩
          · have s123 : ∀ t_, Steps p.tables e below (T85.setTop (mkF m 343 #[.val (.int wa), .val (.int wb), .val (.long ls), .second, .val (.long ms), .second, .val (.int sel), .val (.int (Int32.ofNat m1)), .val (.int q2), .val (.int q3), .val (.int q4), .val (.int q5), .val (.int (Int32.ofNat nB)), .val (.int q10), .val (.int q11), .val (.int q12), .val (.int (ls.toInt32)), .val (.int q40), .val (.int (ms.toInt32)), .val (.int q47), .val (.ref a_60), .val (.ref a_65), .val (.ref b67), .val (.ref b77), .unset, .unset, .unset] [(.int q11), (.int q3)])) t_ → Steps p.tables e below (s₁.setTop (entryFrame m #[(.int wa), (.int wb), (.long ls), (.long ms), (.int sel)] maxLocals)) t_ := fun t_ k_ => s114 t_ (by
              show Steps p.tables e below (T85.setTop (mkF m 336 #[.val (.int wa), .val (.int wb), .val (.long ls), .second, .val (.long ms), .second, .val (.int sel), .val (.int (Int32.ofNat m1)), .val (.int q2), .val (.int q3), .val (.int q4), .val (.int q5), .val (.int (Int32.ofNat nB)), .val (.int q10), .val (.int q11), .val (.int q12), .val (.int (ls.toInt32)), .val (.int q40), .val (.int (ms.toInt32)), .val (.int q47), .val (.ref a_60), .val (.ref a_65), .val (.ref b67), .val (.ref b77), .unset, .unset, .unset] [(.int (2 : Int32)), (.int (Int32.ofNat m1))])) t_
              refine XS.icmpNo X85.here hx rfl (Jvm.hb hby at_336) rfl (flt h115).1 ?_
              show Steps p.tables e below (T85.setTop (mkF m 339 #[.val (.int wa), .val (.int wb), .val (.long ls), .second, .val (.long ms), .second, .val (.int sel), .val (.int (Int32.ofNat m1)), .val (.int q2), .val (.int q3), .val (.int q4), .val (.int q5), .val (.int (Int32.ofNat nB)), .val (.int q10), .val (.int q11), .val (.int q12), .val (.int (ls.toInt32)), .val (.int q40), .val (.int (ms.toInt32)), .val (.int q47), .val (.ref a_60), .val (.ref a_65), .val (.ref b67), .val (.ref b77), .unset, .unset, .unset] [])) _
              refine XS.iload X85.here hx rfl (Jvm.hb hby at_339) rfl ?_
              refine XS.iload X85.here hx rfl (Jvm.hb hby at_341) rfl ?_
              show Steps p.tables e below (T85.setTop (mkF m 343 #[.val (.int wa), .val (.int wb), .val (.long ls), .second, .val (.long ms), .second, .val (.int sel), .val (.int (Int32.ofNat m1)), .val (.int q2), .val (.int q3), .val (.int q4), .val (.int q5), .val (.int (Int32.ofNat nB)), .val (.int q10), .val (.int q11), .val (.int q12), .val (.int (ls.toInt32)), .val (.int q40), .val (.int (ms.toInt32)), .val (.int q47), .val (.ref a_60), .val (.ref a_65), .val (.ref b67), .val (.ref b77), .unset, .unset, .unset] [(.int q11), (.int q3)])) t_
              exact k_)
            by_cases h124 : q3 = q11
            · have s125 : ∀ t_, Steps p.tables e below (T85.setTop (mkF m 349 #[.val (.int wa), .val (.int wb), .val (.long ls), .second, .val (.long ms), .second, .val (.int sel), .val (.int (Int32.ofNat m1)), .val (.int q2), .val (.int q3), .val (.int q4), .val (.int q5), .val (.int (Int32.ofNat nB)), .val (.int q10), .val (.int q11), .val (.int q12), .val (.int (ls.toInt32)), .val (.int q40), .val (.int (ms.toInt32)), .val (.int q47), .val (.ref a_60), .val (.ref a_65), .val (.ref b67), .val (.ref b77), .unset, .unset, .unset] [(.int (3 : Int32)), (.int (Int32.ofNat m1))])) t_ → Steps p.tables e below (s₁.setTop (entryFrame m #[(.int wa), (.int wb), (.long ls), (.long ms), (.int sel)] maxLocals)) t_ := fun t_ k_ => s123 t_ (by
                show Steps p.tables e below (T85.setTop (mkF m 343 #[.val (.int wa), .val (.int wb), .val (.long ls), .second, .val (.long ms), .second, .val (.int sel), .val (.int (Int32.ofNat m1)), .val (.int q2), .val (.int q3), .val (.int q4), .val (.int q5), .val (.int (Int32.ofNat nB)), .val (.int q10), .val (.int q11), .val (.int q12), .val (.int (ls.toInt32)), .val (.int q40), .val (.int (ms.toInt32)), .val (.int q47), .val (.ref a_60), .val (.ref a_65), .val (.ref b67), .val (.ref b77), .unset, .unset, .unset] [(.int q11), (.int q3)])) t_
                refine XS.icmpNo X85.here hx rfl (Jvm.hb hby at_343) rfl (teq h124).2 ?_
                show Steps p.tables e below (T85.setTop (mkF m 346 #[.val (.int wa), .val (.int wb), .val (.long ls), .second, .val (.long ms), .second, .val (.int sel), .val (.int (Int32.ofNat m1)), .val (.int q2), .val (.int q3), .val (.int q4), .val (.int q5), .val (.int (Int32.ofNat nB)), .val (.int q10), .val (.int q11), .val (.int q12), .val (.int (ls.toInt32)), .val (.int q40), .val (.int (ms.toInt32)), .val (.int q47), .val (.ref a_60), .val (.ref a_65), .val (.ref b67), .val (.ref b77), .unset, .unset, .unset] [])) _
                refine XS.iload X85.here hx rfl (Jvm.hb hby at_346) rfl ?_
                refine XS.iconst X85.here hx rfl (Jvm.hb hby at_348) ?_
                show Steps p.tables e below (T85.setTop (mkF m 349 #[.val (.int wa), .val (.int wb), .val (.long ls), .second, .val (.long ms), .second, .val (.int sel), .val (.int (Int32.ofNat m1)), .val (.int q2), .val (.int q3), .val (.int q4), .val (.int q5), .val (.int (Int32.ofNat nB)), .val (.int q10), .val (.int q11), .val (.int q12), .val (.int (ls.toInt32)), .val (.int q40), .val (.int (ms.toInt32)), .val (.int q47), .val (.ref a_60), .val (.ref a_65), .val (.ref b67), .val (.ref b77), .unset, .unset, .unset] [(.int (3 : Int32)), (.int (Int32.ofNat m1))])) t_
                exact k_)
              by_cases h126 : (Int32.ofNat m1) < (3 : Int32)
              · have s127 : ∀ t_, Steps p.tables e below (T85.setTop (mkF m 364 #[.val (.int wa), .val (.int wb), .val (.long ls), .second, .val (.long ms), .second, .val (.int sel), .val (.int (Int32.ofNat m1)), .val (.int q2), .val (.int q3), .val (.int q4), .val (.int q5), .val (.int (Int32.ofNat nB)), .val (.int q10), .val (.int q11), .val (.int q12), .val (.int (ls.toInt32)), .val (.int q40), .val (.int (ms.toInt32)), .val (.int q47), .val (.ref a_60), .val (.ref a_65), .val (.ref b67), .val (.ref b77), .unset, .unset, .unset] [(.int (1 : Int32))])) t_ → Steps p.tables e below (s₁.setTop (entryFrame m #[(.int wa), (.int wb), (.long ls), (.long ms), (.int sel)] maxLocals)) t_ := fun t_ k_ => s125 t_ (by
                  show Steps p.tables e below (T85.setTop (mkF m 349 #[.val (.int wa), .val (.int wb), .val (.long ls), .second, .val (.long ms), .second, .val (.int sel), .val (.int (Int32.ofNat m1)), .val (.int q2), .val (.int q3), .val (.int q4), .val (.int q5), .val (.int (Int32.ofNat nB)), .val (.int q10), .val (.int q11), .val (.int q12), .val (.int (ls.toInt32)), .val (.int q40), .val (.int (ms.toInt32)), .val (.int q47), .val (.ref a_60), .val (.ref a_65), .val (.ref b67), .val (.ref b77), .unset, .unset, .unset] [(.int (3 : Int32)), (.int (Int32.ofNat m1))])) t_
                  refine XS.icmpYes X85.here hx rfl (pc0 := 349) (pc' := 359) rfl (Jvm.hb hby at_349) rfl (tlt h126).1 (by decide) (by decide) ?_
                  show Steps p.tables e below (T85.setTop (mkF m 359 #[.val (.int wa), .val (.int wb), .val (.long ls), .second, .val (.long ms), .second, .val (.int sel), .val (.int (Int32.ofNat m1)), .val (.int q2), .val (.int q3), .val (.int q4), .val (.int q5), .val (.int (Int32.ofNat nB)), .val (.int q10), .val (.int q11), .val (.int q12), .val (.int (ls.toInt32)), .val (.int q40), .val (.int (ms.toInt32)), .val (.int q47), .val (.ref a_60), .val (.ref a_65), .val (.ref b67), .val (.ref b77), .unset, .unset, .unset] [])) _
                  refine XS.iconst X85.here hx rfl (Jvm.hb hby at_359) ?_
                  refine XS.goto X85.here hx rfl (pc0 := 360) (pc' := 364) rfl (Jvm.hb hby at_360) (by decide) (by decide) ?_
                  show Steps p.tables e below (T85.setTop (mkF m 364 #[.val (.int wa), .val (.int wb), .val (.long ls), .second, .val (.long ms), .second, .val (.int sel), .val (.int (Int32.ofNat m1)), .val (.int q2), .val (.int q3), .val (.int q4), .val (.int q5), .val (.int (Int32.ofNat nB)), .val (.int q10), .val (.int q11), .val (.int q12), .val (.int (ls.toInt32)), .val (.int q40), .val (.int (ms.toInt32)), .val (.int q47), .val (.ref a_60), .val (.ref a_65), .val (.ref b67), .val (.ref b77), .unset, .unset, .unset] [(.int (1 : Int32))])) t_
                  exact k_)
                exact ⟨T85, X85, e85, fun t_ k_ => s127 t_ (castTop (by simp only [hq88, if_pos h90, if_neg h92, if_pos h113, if_neg h115, if_pos h124, if_pos h126]) k_)⟩
              · have s128 : ∀ t_, Steps p.tables e below (T85.setTop (mkF m 356 #[.val (.int wa), .val (.int wb), .val (.long ls), .second, .val (.long ms), .second, .val (.int sel), .val (.int (Int32.ofNat m1)), .val (.int q2), .val (.int q3), .val (.int q4), .val (.int q5), .val (.int (Int32.ofNat nB)), .val (.int q10), .val (.int q11), .val (.int q12), .val (.int (ls.toInt32)), .val (.int q40), .val (.int (ms.toInt32)), .val (.int q47), .val (.ref a_60), .val (.ref a_65), .val (.ref b67), .val (.ref b77), .unset, .unset, .unset] [(.int q12), (.int q4)])) t_ → Steps p.tables e below (s₁.setTop (entryFrame m #[(.int wa), (.int wb), (.long ls), (.long ms), (.int sel)] maxLocals)) t_ := fun t_ k_ => s125 t_ (by
                  show Steps p.tables e below (T85.setTop (mkF m 349 #[.val (.int wa), .val (.int wb), .val (.long ls), .second, .val (.long ms), .second, .val (.int sel), .val (.int (Int32.ofNat m1)), .val (.int q2), .val (.int q3), .val (.int q4), .val (.int q5), .val (.int (Int32.ofNat nB)), .val (.int q10), .val (.int q11), .val (.int q12), .val (.int (ls.toInt32)), .val (.int q40), .val (.int (ms.toInt32)), .val (.int q47), .val (.ref a_60), .val (.ref a_65), .val (.ref b67), .val (.ref b77), .unset, .unset, .unset] [(.int (3 : Int32)), (.int (Int32.ofNat m1))])) t_
                  refine XS.icmpNo X85.here hx rfl (Jvm.hb hby at_349) rfl (flt h126).1 ?_
                  show Steps p.tables e below (T85.setTop (mkF m 352 #[.val (.int wa), .val (.int wb), .val (.long ls), .second, .val (.long ms), .second, .val (.int sel), .val (.int (Int32.ofNat m1)), .val (.int q2), .val (.int q3), .val (.int q4), .val (.int q5), .val (.int (Int32.ofNat nB)), .val (.int q10), .val (.int q11), .val (.int q12), .val (.int (ls.toInt32)), .val (.int q40), .val (.int (ms.toInt32)), .val (.int q47), .val (.ref a_60), .val (.ref a_65), .val (.ref b67), .val (.ref b77), .unset, .unset, .unset] [])) _
                  refine XS.iload X85.here hx rfl (Jvm.hb hby at_352) rfl ?_
                  refine XS.iload X85.here hx rfl (Jvm.hb hby at_354) rfl ?_
                  show Steps p.tables e below (T85.setTop (mkF m 356 #[.val (.int wa), .val (.int wb), .val (.long ls), .second, .val (.long ms), .second, .val (.int sel), .val (.int (Int32.ofNat m1)), .val (.int q2), .val (.int q3), .val (.int q4), .val (.int q5), .val (.int (Int32.ofNat nB)), .val (.int q10), .val (.int q11), .val (.int q12), .val (.int (ls.toInt32)), .val (.int q40), .val (.int (ms.toInt32)), .val (.int q47), .val (.ref a_60), .val (.ref a_65), .val (.ref b67), .val (.ref b77), .unset, .unset, .unset] [(.int q12), (.int q4)])) t_
                  exact k_)
                by_cases h129 : q4 = q12
                · have s130 : ∀ t_, Steps p.tables e below (T85.setTop (mkF m 364 #[.val (.int wa), .val (.int wb), .val (.long ls), .second, .val (.long ms), .second, .val (.int sel), .val (.int (Int32.ofNat m1)), .val (.int q2), .val (.int q3), .val (.int q4), .val (.int q5), .val (.int (Int32.ofNat nB)), .val (.int q10), .val (.int q11), .val (.int q12), .val (.int (ls.toInt32)), .val (.int q40), .val (.int (ms.toInt32)), .val (.int q47), .val (.ref a_60), .val (.ref a_65), .val (.ref b67), .val (.ref b77), .unset, .unset, .unset] [(.int (1 : Int32))])) t_ → Steps p.tables e below (s₁.setTop (entryFrame m #[(.int wa), (.int wb), (.long ls), (.long ms), (.int sel)] maxLocals)) t_ := fun t_ k_ => s128 t_ (by
                    show Steps p.tables e below (T85.setTop (mkF m 356 #[.val (.int wa), .val (.int wb), .val (.long ls), .second, .val (.long ms), .second, .val (.int sel), .val (.int (Int32.ofNat m1)), .val (.int q2), .val (.int q3), .val (.int q4), .val (.int q5), .val (.int (Int32.ofNat nB)), .val (.int q10), .val (.int q11), .val (.int q12), .val (.int (ls.toInt32)), .val (.int q40), .val (.int (ms.toInt32)), .val (.int q47), .val (.ref a_60), .val (.ref a_65), .val (.ref b67), .val (.ref b77), .unset, .unset, .unset] [(.int q12), (.int q4)])) t_
                    refine XS.icmpNo X85.here hx rfl (Jvm.hb hby at_356) rfl (teq h129).2 ?_
                    show Steps p.tables e below (T85.setTop (mkF m 359 #[.val (.int wa), .val (.int wb), .val (.long ls), .second, .val (.long ms), .second, .val (.int sel), .val (.int (Int32.ofNat m1)), .val (.int q2), .val (.int q3), .val (.int q4), .val (.int q5), .val (.int (Int32.ofNat nB)), .val (.int q10), .val (.int q11), .val (.int q12), .val (.int (ls.toInt32)), .val (.int q40), .val (.int (ms.toInt32)), .val (.int q47), .val (.ref a_60), .val (.ref a_65), .val (.ref b67), .val (.ref b77), .unset, .unset, .unset] [])) _
                    refine XS.iconst X85.here hx rfl (Jvm.hb hby at_359) ?_
                    refine XS.goto X85.here hx rfl (pc0 := 360) (pc' := 364) rfl (Jvm.hb hby at_360) (by decide) (by decide) ?_
                    show Steps p.tables e below (T85.setTop (mkF m 364 #[.val (.int wa), .val (.int wb), .val (.long ls), .second, .val (.long ms), .second, .val (.int sel), .val (.int (Int32.ofNat m1)), .val (.int q2), .val (.int q3), .val (.int q4), .val (.int q5), .val (.int (Int32.ofNat nB)), .val (.int q10), .val (.int q11), .val (.int q12), .val (.int (ls.toInt32)), .val (.int q40), .val (.int (ms.toInt32)), .val (.int q47), .val (.ref a_60), .val (.ref a_65), .val (.ref b67), .val (.ref b77), .unset, .unset, .unset] [(.int (1 : Int32))])) t_
                    exact k_)
                  exact ⟨T85, X85, e85, fun t_ k_ => s130 t_ (castTop (by simp only [hq88, if_pos h90, if_neg h92, if_pos h113, if_neg h115, if_pos h124, if_neg h126, if_pos h129]) k_)⟩
                · have s131 : ∀ t_, Steps p.tables e below (T85.setTop (mkF m 364 #[.val (.int wa), .val (.int wb), .val (.long ls), .second, .val (.long ms), .second, .val (.int sel), .val (.int (Int32.ofNat m1)), .val (.int q2), .val (.int q3), .val (.int q4), .val (.int q5), .val (.int (Int32.ofNat nB)), .val (.int q10), .val (.int q11), .val (.int q12), .val (.int (ls.toInt32)), .val (.int q40), .val (.int (ms.toInt32)), .val (.int q47), .val (.ref a_60), .val (.ref a_65), .val (.ref b67), .val (.ref b77), .unset, .unset, .unset] [(.int (0 : Int32))])) t_ → Steps p.tables e below (s₁.setTop (entryFrame m #[(.int wa), (.int wb), (.long ls), (.long ms), (.int sel)] maxLocals)) t_ := fun t_ k_ => s128 t_ (by
                    show Steps p.tables e below (T85.setTop (mkF m 356 #[.val (.int wa), .val (.int wb), .val (.long ls), .second, .val (.long ms), .second, .val (.int sel), .val (.int (Int32.ofNat m1)), .val (.int q2), .val (.int q3), .val (.int q4), .val (.int q5), .val (.int (Int32.ofNat nB)), .val (.int q10), .val (.int q11), .val (.int q12), .val (.int (ls.toInt32)), .val (.int q40), .val (.int (ms.toInt32)), .val (.int q47), .val (.ref a_60), .val (.ref a_65), .val (.ref b67), .val (.ref b77), .unset, .unset, .unset] [(.int q12), (.int q4)])) t_
                    refine XS.icmpYes X85.here hx rfl (pc0 := 356) (pc' := 363) rfl (Jvm.hb hby at_356) rfl (feq h129).2 (by decide) (by decide) ?_
                    show Steps p.tables e below (T85.setTop (mkF m 363 #[.val (.int wa), .val (.int wb), .val (.long ls), .second, .val (.long ms), .second, .val (.int sel), .val (.int (Int32.ofNat m1)), .val (.int q2), .val (.int q3), .val (.int q4), .val (.int q5), .val (.int (Int32.ofNat nB)), .val (.int q10), .val (.int q11), .val (.int q12), .val (.int (ls.toInt32)), .val (.int q40), .val (.int (ms.toInt32)), .val (.int q47), .val (.ref a_60), .val (.ref a_65), .val (.ref b67), .val (.ref b77), .unset, .unset, .unset] [])) _
                    refine XS.iconst X85.here hx rfl (Jvm.hb hby at_363) ?_
                    show Steps p.tables e below (T85.setTop (mkF m 364 #[.val (.int wa), .val (.int wb), .val (.long ls), .second, .val (.long ms), .second, .val (.int sel), .val (.int (Int32.ofNat m1)), .val (.int q2), .val (.int q3), .val (.int q4), .val (.int q5), .val (.int (Int32.ofNat nB)), .val (.int q10), .val (.int q11), .val (.int q12), .val (.int (ls.toInt32)), .val (.int q40), .val (.int (ms.toInt32)), .val (.int q47), .val (.ref a_60), .val (.ref a_65), .val (.ref b67), .val (.ref b77), .unset, .unset, .unset] [(.int (0 : Int32))])) t_
                    exact k_)
                  exact ⟨T85, X85, e85, fun t_ k_ => s131 t_ (castTop (by simp only [hq88, if_pos h90, if_neg h92, if_pos h113, if_neg h115, if_pos h124, if_neg h126, if_neg h129]) k_)⟩
            · have s132 : ∀ t_, Steps p.tables e below (T85.setTop (mkF m 364 #[.val (.int wa), .val (.int wb), .val (.long ls), .second, .val (.long ms), .second, .val (.int sel), .val (.int (Int32.ofNat m1)), .val (.int q2), .val (.int q3), .val (.int q4), .val (.int q5), .val (.int (Int32.ofNat nB)), .val (.int q10), .val (.int q11), .val (.int q12), .val (.int (ls.toInt32)), .val (.int q40), .val (.int (ms.toInt32)), .val (.int q47), .val (.ref a_60), .val (.ref a_65), .val (.ref b67), .val (.ref b77), .unset, .unset, .unset] [(.int (0 : Int32))])) t_ → Steps p.tables e below (s₁.setTop (entryFrame m #[(.int wa), (.int wb), (.long ls), (.long ms), (.int sel)] maxLocals)) t_ := fun t_ k_ => s123 t_ (by
                show Steps p.tables e below (T85.setTop (mkF m 343 #[.val (.int wa), .val (.int wb), .val (.long ls), .second, .val (.long ms), .second, .val (.int sel), .val (.int (Int32.ofNat m1)), .val (.int q2), .val (.int q3), .val (.int q4), .val (.int q5), .val (.int (Int32.ofNat nB)), .val (.int q10), .val (.int q11), .val (.int q12), .val (.int (ls.toInt32)), .val (.int q40), .val (.int (ms.toInt32)), .val (.int q47), .val (.ref a_60), .val (.ref a_65), .val (.ref b67), .val (.ref b77), .unset, .unset, .unset] [(.int q11), (.int q3)])) t_
                refine XS.icmpYes X85.here hx rfl (pc0 := 343) (pc' := 363) rfl (Jvm.hb hby at_343) rfl (feq h124).2 (by decide) (by decide) ?_
                show Steps p.tables e below (T85.setTop (mkF m 363 #[.val (.int wa), .val (.int wb), .val (.long ls), .second, .val (.long ms), .second, .val (.int sel), .val (.int (Int32.ofNat m1)), .val (.int q2), .val (.int q3), .val (.int q4), .val (.int q5), .val (.int (Int32.ofNat nB)), .val (.int q10), .val (.int q11), .val (.int q12), .val (.int (ls.toInt32)), .val (.int q40), .val (.int (ms.toInt32)), .val (.int q47), .val (.ref a_60), .val (.ref a_65), .val (.ref b67), .val (.ref b77), .unset, .unset, .unset] [])) _
                refine XS.iconst X85.here hx rfl (Jvm.hb hby at_363) ?_
                show Steps p.tables e below (T85.setTop (mkF m 364 #[.val (.int wa), .val (.int wb), .val (.long ls), .second, .val (.long ms), .second, .val (.int sel), .val (.int (Int32.ofNat m1)), .val (.int q2), .val (.int q3), .val (.int q4), .val (.int q5), .val (.int (Int32.ofNat nB)), .val (.int q10), .val (.int q11), .val (.int q12), .val (.int (ls.toInt32)), .val (.int q40), .val (.int (ms.toInt32)), .val (.int q47), .val (.ref a_60), .val (.ref a_65), .val (.ref b67), .val (.ref b77), .unset, .unset, .unset] [(.int (0 : Int32))])) t_
                exact k_)
              exact ⟨T85, X85, e85, fun t_ k_ => s132 t_ (castTop (by simp only [hq88, if_pos h90, if_neg h92, if_pos h113, if_neg h115, if_neg h124]) k_)⟩
        · have s133 : ∀ t_, Steps p.tables e below (T85.setTop (mkF m 364 #[.val (.int wa), .val (.int wb), .val (.long ls), .second, .val (.long ms), .second, .val (.int sel), .val (.int (Int32.ofNat m1)), .val (.int q2), .val (.int q3), .val (.int q4), .val (.int q5), .val (.int (Int32.ofNat nB)), .val (.int q10), .val (.int q11), .val (.int q12), .val (.int (ls.toInt32)), .val (.int q40), .val (.int (ms.toInt32)), .val (.int q47), .val (.ref a_60), .val (.ref a_65), .val (.ref b67), .val (.ref b77), .unset, .unset, .unset] [(.int (0 : Int32))])) t_ → Steps p.tables e below (s₁.setTop (entryFrame m #[(.int wa), (.int wb), (.long ls), (.long ms), (.int sel)] maxLocals)) t_ := fun t_ k_ => s112 t_ (by
            show Steps p.tables e below (T85.setTop (mkF m 330 #[.val (.int wa), .val (.int wb), .val (.long ls), .second, .val (.long ms), .second, .val (.int sel), .val (.int (Int32.ofNat m1)), .val (.int q2), .val (.int q3), .val (.int q4), .val (.int q5), .val (.int (Int32.ofNat nB)), .val (.int q10), .val (.int q11), .val (.int q12), .val (.int (ls.toInt32)), .val (.int q40), .val (.int (ms.toInt32)), .val (.int q47), .val (.ref a_60), .val (.ref a_65), .val (.ref b67), .val (.ref b77), .unset, .unset, .unset] [(.int q10), (.int q2)])) t_
            refine XS.icmpYes X85.here hx rfl (pc0 := 330) (pc' := 363) rfl (Jvm.hb hby at_330) rfl (feq h113).2 (by decide) (by decide) ?_
            show Steps p.tables e below (T85.setTop (mkF m 363 #[.val (.int wa), .val (.int wb), .val (.long ls), .second, .val (.long ms), .second, .val (.int sel), .val (.int (Int32.ofNat m1)), .val (.int q2), .val (.int q3), .val (.int q4), .val (.int q5), .val (.int (Int32.ofNat nB)), .val (.int q10), .val (.int q11), .val (.int q12), .val (.int (ls.toInt32)), .val (.int q40), .val (.int (ms.toInt32)), .val (.int q47), .val (.ref a_60), .val (.ref a_65), .val (.ref b67), .val (.ref b77), .unset, .unset, .unset] [])) _
            refine XS.iconst X85.here hx rfl (Jvm.hb hby at_363) ?_
            show Steps p.tables e below (T85.setTop (mkF m 364 #[.val (.int wa), .val (.int wb), .val (.long ls), .second, .val (.long ms), .second, .val (.int sel), .val (.int (Int32.ofNat m1)), .val (.int q2), .val (.int q3), .val (.int q4), .val (.int q5), .val (.int (Int32.ofNat nB)), .val (.int q10), .val (.int q11), .val (.int q12), .val (.int (ls.toInt32)), .val (.int q40), .val (.int (ms.toInt32)), .val (.int q47), .val (.ref a_60), .val (.ref a_65), .val (.ref b67), .val (.ref b77), .unset, .unset, .unset] [(.int (0 : Int32))])) t_
            exact k_)
          exact ⟨T85, X85, e85, fun t_ k_ => s133 t_ (castTop (by simp only [hq88, if_pos h90, if_neg h92, if_neg h113]) k_)⟩
    · have s134 : ∀ t_, Steps p.tables e below (T85.setTop (mkF m 364 #[.val (.int wa), .val (.int wb), .val (.long ls), .second, .val (.long ms), .second, .val (.int sel), .val (.int (Int32.ofNat m1)), .val (.int q2), .val (.int q3), .val (.int q4), .val (.int q5), .val (.int (Int32.ofNat nB)), .val (.int q10), .val (.int q11), .val (.int q12), .val (.int (ls.toInt32)), .val (.int q40), .val (.int (ms.toInt32)), .val (.int q47), .val (.ref a_60), .val (.ref a_65), .val (.ref b67), .val (.ref b77), .unset, .unset, .unset] [(.int (0 : Int32))])) t_ → Steps p.tables e below (s₁.setTop (entryFrame m #[(.int wa), (.int wb), (.long ls), (.long ms), (.int sel)] maxLocals)) t_ := fun t_ k_ => s87 t_ (by
        show Steps p.tables e below (T85.setTop (mkF m 317 #[.val (.int wa), .val (.int wb), .val (.long ls), .second, .val (.long ms), .second, .val (.int sel), .val (.int (Int32.ofNat m1)), .val (.int q2), .val (.int q3), .val (.int q4), .val (.int q5), .val (.int (Int32.ofNat nB)), .val (.int q10), .val (.int q11), .val (.int q12), .val (.int (ls.toInt32)), .val (.int q40), .val (.int (ms.toInt32)), .val (.int q47), .val (.ref a_60), .val (.ref a_65), .val (.ref b67), .val (.ref b77), .unset, .unset, .unset] [(.int (Int32.ofNat nB)), (.int (Int32.ofNat m1))])) t_
        refine XS.icmpYes X85.here hx rfl (pc0 := 317) (pc' := 363) rfl (Jvm.hb hby at_317) rfl (feq h90).2 (by decide) (by decide) ?_
        show Steps p.tables e below (T85.setTop (mkF m 363 #[.val (.int wa), .val (.int wb), .val (.long ls), .second, .val (.long ms), .second, .val (.int sel), .val (.int (Int32.ofNat m1)), .val (.int q2), .val (.int q3), .val (.int q4), .val (.int q5), .val (.int (Int32.ofNat nB)), .val (.int q10), .val (.int q11), .val (.int q12), .val (.int (ls.toInt32)), .val (.int q40), .val (.int (ms.toInt32)), .val (.int q47), .val (.ref a_60), .val (.ref a_65), .val (.ref b67), .val (.ref b77), .unset, .unset, .unset] [])) _
        refine XS.iconst X85.here hx rfl (Jvm.hb hby at_363) ?_
        show Steps p.tables e below (T85.setTop (mkF m 364 #[.val (.int wa), .val (.int wb), .val (.long ls), .second, .val (.long ms), .second, .val (.int sel), .val (.int (Int32.ofNat m1)), .val (.int q2), .val (.int q3), .val (.int q4), .val (.int q5), .val (.int (Int32.ofNat nB)), .val (.int q10), .val (.int q11), .val (.int q12), .val (.int (ls.toInt32)), .val (.int q40), .val (.int (ms.toInt32)), .val (.int q47), .val (.ref a_60), .val (.ref a_65), .val (.ref b67), .val (.ref b77), .unset, .unset, .unset] [(.int (0 : Int32))])) t_
        exact k_)
      exact ⟨T85, X85, e85, fun t_ k_ => s134 t_ (castTop (by simp only [hq88, if_neg h90]) k_)⟩)
  have s135 : ∀ t_, Steps p.tables e below (T89.setTop (mkF m 368 #[.val (.int wa), .val (.int wb), .val (.long ls), .second, .val (.long ms), .second, .val (.int sel), .val (.int (Int32.ofNat m1)), .val (.int q2), .val (.int q3), .val (.int q4), .val (.int q5), .val (.int (Int32.ofNat nB)), .val (.int q10), .val (.int q11), .val (.int q12), .val (.int (ls.toInt32)), .val (.int q40), .val (.int (ms.toInt32)), .val (.int q47), .val (.ref a_60), .val (.ref a_65), .val (.ref b67), .val (.ref b77), .val (.int q88), .unset, .unset] [(.int q88)])) t_ → Steps p.tables e below (s₁.setTop (entryFrame m #[(.int wa), (.int wb), (.long ls), (.long ms), (.int sel)] maxLocals)) t_ := fun t_ k_ => s89 t_ (by
    show Steps p.tables e below (T89.setTop (mkF m 364 #[.val (.int wa), .val (.int wb), .val (.long ls), .second, .val (.long ms), .second, .val (.int sel), .val (.int (Int32.ofNat m1)), .val (.int q2), .val (.int q3), .val (.int q4), .val (.int q5), .val (.int (Int32.ofNat nB)), .val (.int q10), .val (.int q11), .val (.int q12), .val (.int (ls.toInt32)), .val (.int q40), .val (.int (ms.toInt32)), .val (.int q47), .val (.ref a_60), .val (.ref a_65), .val (.ref b67), .val (.ref b77), .unset, .unset, .unset] [(.int q88)])) t_
    refine XS.istore X89.here hx rfl (Jvm.hb hby at_364) rfl (l' := #[.val (.int wa), .val (.int wb), .val (.long ls), .second, .val (.long ms), .second, .val (.int sel), .val (.int (Int32.ofNat m1)), .val (.int q2), .val (.int q3), .val (.int q4), .val (.int q5), .val (.int (Int32.ofNat nB)), .val (.int q10), .val (.int q11), .val (.int q12), .val (.int (ls.toInt32)), .val (.int q40), .val (.int (ms.toInt32)), .val (.int q47), .val (.ref a_60), .val (.ref a_65), .val (.ref b67), .val (.ref b77), .val (.int q88), .unset, .unset]) rfl ?_
    refine XS.iload X89.here hx rfl (Jvm.hb hby at_366) rfl ?_
    show Steps p.tables e below (T89.setTop (mkF m 368 #[.val (.int wa), .val (.int wb), .val (.long ls), .second, .val (.long ms), .second, .val (.int sel), .val (.int (Int32.ofNat m1)), .val (.int q2), .val (.int q3), .val (.int q4), .val (.int q5), .val (.int (Int32.ofNat nB)), .val (.int q10), .val (.int q11), .val (.int q12), .val (.int (ls.toInt32)), .val (.int q40), .val (.int (ms.toInt32)), .val (.int q47), .val (.ref a_60), .val (.ref a_65), .val (.ref b67), .val (.ref b77), .val (.int q88), .unset, .unset] [(.int q88)])) t_
    exact k_)
  obtain ⟨q136, hq136⟩ : ∃ z : Int32, z = (if q88 = (0 : Int32) then (0 : Int32) else (if (ls.toInt32) = q40 then (if (ms.toInt32) = q47 then (1 : Int32) else (0 : Int32)) else (0 : Int32))) := ⟨_, rfl⟩
  obtain ⟨T137, X137, e137, s137⟩ := seg X89 (fun T' => T'.heap = h85 ∧ ∀ t_, Steps p.tables e below (T'.setTop (mkF m 390 #[.val (.int wa), .val (.int wb), .val (.long ls), .second, .val (.long ms), .second, .val (.int sel), .val (.int (Int32.ofNat m1)), .val (.int q2), .val (.int q3), .val (.int q4), .val (.int q5), .val (.int (Int32.ofNat nB)), .val (.int q10), .val (.int q11), .val (.int q12), .val (.int (ls.toInt32)), .val (.int q40), .val (.int (ms.toInt32)), .val (.int q47), .val (.ref a_60), .val (.ref a_65), .val (.ref b67), .val (.ref b77), .val (.int q88), .unset, .unset] [(.int q136)])) t_ → Steps p.tables e below (s₁.setTop (entryFrame m #[(.int wa), (.int wb), (.long ls), (.long ms), (.int sel)] maxLocals)) t_) (by
    by_cases h138 : q88 = (0 : Int32)
    · have s139 : ∀ t_, Steps p.tables e below (T89.setTop (mkF m 390 #[.val (.int wa), .val (.int wb), .val (.long ls), .second, .val (.long ms), .second, .val (.int sel), .val (.int (Int32.ofNat m1)), .val (.int q2), .val (.int q3), .val (.int q4), .val (.int q5), .val (.int (Int32.ofNat nB)), .val (.int q10), .val (.int q11), .val (.int q12), .val (.int (ls.toInt32)), .val (.int q40), .val (.int (ms.toInt32)), .val (.int q47), .val (.ref a_60), .val (.ref a_65), .val (.ref b67), .val (.ref b77), .val (.int q88), .unset, .unset] [(.int (0 : Int32))])) t_ → Steps p.tables e below (s₁.setTop (entryFrame m #[(.int wa), (.int wb), (.long ls), (.long ms), (.int sel)] maxLocals)) t_ := fun t_ k_ => s135 t_ (by
        show Steps p.tables e below (T89.setTop (mkF m 368 #[.val (.int wa), .val (.int wb), .val (.long ls), .second, .val (.long ms), .second, .val (.int sel), .val (.int (Int32.ofNat m1)), .val (.int q2), .val (.int q3), .val (.int q4), .val (.int q5), .val (.int (Int32.ofNat nB)), .val (.int q10), .val (.int q11), .val (.int q12), .val (.int (ls.toInt32)), .val (.int q40), .val (.int (ms.toInt32)), .val (.int q47), .val (.ref a_60), .val (.ref a_65), .val (.ref b67), .val (.ref b77), .val (.int q88), .unset, .unset] [(.int q88)])) t_
        refine XS.ifYes X89.here hx rfl (pc0 := 368) (pc' := 389) rfl (Jvm.hb hby at_368) rfl ((if0 _ _).trans (teq h138).1) (by decide) (by decide) ?_
        show Steps p.tables e below (T89.setTop (mkF m 389 #[.val (.int wa), .val (.int wb), .val (.long ls), .second, .val (.long ms), .second, .val (.int sel), .val (.int (Int32.ofNat m1)), .val (.int q2), .val (.int q3), .val (.int q4), .val (.int q5), .val (.int (Int32.ofNat nB)), .val (.int q10), .val (.int q11), .val (.int q12), .val (.int (ls.toInt32)), .val (.int q40), .val (.int (ms.toInt32)), .val (.int q47), .val (.ref a_60), .val (.ref a_65), .val (.ref b67), .val (.ref b77), .val (.int q88), .unset, .unset] [])) _
        refine XS.iconst X89.here hx rfl (Jvm.hb hby at_389) ?_
        show Steps p.tables e below (T89.setTop (mkF m 390 #[.val (.int wa), .val (.int wb), .val (.long ls), .second, .val (.long ms), .second, .val (.int sel), .val (.int (Int32.ofNat m1)), .val (.int q2), .val (.int q3), .val (.int q4), .val (.int q5), .val (.int (Int32.ofNat nB)), .val (.int q10), .val (.int q11), .val (.int q12), .val (.int (ls.toInt32)), .val (.int q40), .val (.int (ms.toInt32)), .val (.int q47), .val (.ref a_60), .val (.ref a_65), .val (.ref b67), .val (.ref b77), .val (.int q88), .unset, .unset] [(.int (0 : Int32))])) t_
        exact k_)
      exact ⟨T89, X89, e89, fun t_ k_ => s139 t_ (castTop (by simp only [hq136, if_pos h138]) k_)⟩
    · have s140 : ∀ t_, Steps p.tables e below (T89.setTop (mkF m 375 #[.val (.int wa), .val (.int wb), .val (.long ls), .second, .val (.long ms), .second, .val (.int sel), .val (.int (Int32.ofNat m1)), .val (.int q2), .val (.int q3), .val (.int q4), .val (.int q5), .val (.int (Int32.ofNat nB)), .val (.int q10), .val (.int q11), .val (.int q12), .val (.int (ls.toInt32)), .val (.int q40), .val (.int (ms.toInt32)), .val (.int q47), .val (.ref a_60), .val (.ref a_65), .val (.ref b67), .val (.ref b77), .val (.int q88), .unset, .unset] [(.int q40), (.int (ls.toInt32))])) t_ → Steps p.tables e below (s₁.setTop (entryFrame m #[(.int wa), (.int wb), (.long ls), (.long ms), (.int sel)] maxLocals)) t_ := fun t_ k_ => s135 t_ (by
        show Steps p.tables e below (T89.setTop (mkF m 368 #[.val (.int wa), .val (.int wb), .val (.long ls), .second, .val (.long ms), .second, .val (.int sel), .val (.int (Int32.ofNat m1)), .val (.int q2), .val (.int q3), .val (.int q4), .val (.int q5), .val (.int (Int32.ofNat nB)), .val (.int q10), .val (.int q11), .val (.int q12), .val (.int (ls.toInt32)), .val (.int q40), .val (.int (ms.toInt32)), .val (.int q47), .val (.ref a_60), .val (.ref a_65), .val (.ref b67), .val (.ref b77), .val (.int q88), .unset, .unset] [(.int q88)])) t_
        refine XS.ifNo X89.here hx rfl (Jvm.hb hby at_368) rfl ((if0 _ _).trans (feq h138).1) ?_
        show Steps p.tables e below (T89.setTop (mkF m 371 #[.val (.int wa), .val (.int wb), .val (.long ls), .second, .val (.long ms), .second, .val (.int sel), .val (.int (Int32.ofNat m1)), .val (.int q2), .val (.int q3), .val (.int q4), .val (.int q5), .val (.int (Int32.ofNat nB)), .val (.int q10), .val (.int q11), .val (.int q12), .val (.int (ls.toInt32)), .val (.int q40), .val (.int (ms.toInt32)), .val (.int q47), .val (.ref a_60), .val (.ref a_65), .val (.ref b67), .val (.ref b77), .val (.int q88), .unset, .unset] [])) _
        refine XS.iload X89.here hx rfl (Jvm.hb hby at_371) rfl ?_
        refine XS.iload X89.here hx rfl (Jvm.hb hby at_373) rfl ?_
        show Steps p.tables e below (T89.setTop (mkF m 375 #[.val (.int wa), .val (.int wb), .val (.long ls), .second, .val (.long ms), .second, .val (.int sel), .val (.int (Int32.ofNat m1)), .val (.int q2), .val (.int q3), .val (.int q4), .val (.int q5), .val (.int (Int32.ofNat nB)), .val (.int q10), .val (.int q11), .val (.int q12), .val (.int (ls.toInt32)), .val (.int q40), .val (.int (ms.toInt32)), .val (.int q47), .val (.ref a_60), .val (.ref a_65), .val (.ref b67), .val (.ref b77), .val (.int q88), .unset, .unset] [(.int q40), (.int (ls.toInt32))])) t_
        exact k_)
      by_cases h141 : (ls.toInt32) = q40
      · have s142 : ∀ t_, Steps p.tables e below (T89.setTop (mkF m 382 #[.val (.int wa), .val (.int wb), .val (.long ls), .second, .val (.long ms), .second, .val (.int sel), .val (.int (Int32.ofNat m1)), .val (.int q2), .val (.int q3), .val (.int q4), .val (.int q5), .val (.int (Int32.ofNat nB)), .val (.int q10), .val (.int q11), .val (.int q12), .val (.int (ls.toInt32)), .val (.int q40), .val (.int (ms.toInt32)), .val (.int q47), .val (.ref a_60), .val (.ref a_65), .val (.ref b67), .val (.ref b77), .val (.int q88), .unset, .unset] [(.int q47), (.int (ms.toInt32))])) t_ → Steps p.tables e below (s₁.setTop (entryFrame m #[(.int wa), (.int wb), (.long ls), (.long ms), (.int sel)] maxLocals)) t_ := fun t_ k_ => s140 t_ (by
          show Steps p.tables e below (T89.setTop (mkF m 375 #[.val (.int wa), .val (.int wb), .val (.long ls), .second, .val (.long ms), .second, .val (.int sel), .val (.int (Int32.ofNat m1)), .val (.int q2), .val (.int q3), .val (.int q4), .val (.int q5), .val (.int (Int32.ofNat nB)), .val (.int q10), .val (.int q11), .val (.int q12), .val (.int (ls.toInt32)), .val (.int q40), .val (.int (ms.toInt32)), .val (.int q47), .val (.ref a_60), .val (.ref a_65), .val (.ref b67), .val (.ref b77), .val (.int q88), .unset, .unset] [(.int q40), (.int (ls.toInt32))])) t_
          refine XS.icmpNo X89.here hx rfl (Jvm.hb hby at_375) rfl (teq h141).2 ?_
          show Steps p.tables e below (T89.setTop (mkF m 378 #[.val (.int wa), .val (.int wb), .val (.long ls), .second, .val (.long ms), .second, .val (.int sel), .val (.int (Int32.ofNat m1)), .val (.int q2), .val (.int q3), .val (.int q4), .val (.int q5), .val (.int (Int32.ofNat nB)), .val (.int q10), .val (.int q11), .val (.int q12), .val (.int (ls.toInt32)), .val (.int q40), .val (.int (ms.toInt32)), .val (.int q47), .val (.ref a_60), .val (.ref a_65), .val (.ref b67), .val (.ref b77), .val (.int q88), .unset, .unset] [])) _
          refine XS.iload X89.here hx rfl (Jvm.hb hby at_378) rfl ?_
          refine XS.iload X89.here hx rfl (Jvm.hb hby at_380) rfl ?_
          show Steps p.tables e below (T89.setTop (mkF m 382 #[.val (.int wa), .val (.int wb), .val (.long ls), .second, .val (.long ms), .second, .val (.int sel), .val (.int (Int32.ofNat m1)), .val (.int q2), .val (.int q3), .val (.int q4), .val (.int q5), .val (.int (Int32.ofNat nB)), .val (.int q10), .val (.int q11), .val (.int q12), .val (.int (ls.toInt32)), .val (.int q40), .val (.int (ms.toInt32)), .val (.int q47), .val (.ref a_60), .val (.ref a_65), .val (.ref b67), .val (.ref b77), .val (.int q88), .unset, .unset] [(.int q47), (.int (ms.toInt32))])) t_
          exact k_)
        by_cases h143 : (ms.toInt32) = q47
        · have s144 : ∀ t_, Steps p.tables e below (T89.setTop (mkF m 390 #[.val (.int wa), .val (.int wb), .val (.long ls), .second, .val (.long ms), .second, .val (.int sel), .val (.int (Int32.ofNat m1)), .val (.int q2), .val (.int q3), .val (.int q4), .val (.int q5), .val (.int (Int32.ofNat nB)), .val (.int q10), .val (.int q11), .val (.int q12), .val (.int (ls.toInt32)), .val (.int q40), .val (.int (ms.toInt32)), .val (.int q47), .val (.ref a_60), .val (.ref a_65), .val (.ref b67), .val (.ref b77), .val (.int q88), .unset, .unset] [(.int (1 : Int32))])) t_ → Steps p.tables e below (s₁.setTop (entryFrame m #[(.int wa), (.int wb), (.long ls), (.long ms), (.int sel)] maxLocals)) t_ := fun t_ k_ => s142 t_ (by
            show Steps p.tables e below (T89.setTop (mkF m 382 #[.val (.int wa), .val (.int wb), .val (.long ls), .second, .val (.long ms), .second, .val (.int sel), .val (.int (Int32.ofNat m1)), .val (.int q2), .val (.int q3), .val (.int q4), .val (.int q5), .val (.int (Int32.ofNat nB)), .val (.int q10), .val (.int q11), .val (.int q12), .val (.int (ls.toInt32)), .val (.int q40), .val (.int (ms.toInt32)), .val (.int q47), .val (.ref a_60), .val (.ref a_65), .val (.ref b67), .val (.ref b77), .val (.int q88), .unset, .unset] [(.int q47), (.int (ms.toInt32))])) t_
            refine XS.icmpNo X89.here hx rfl (Jvm.hb hby at_382) rfl (teq h143).2 ?_
            show Steps p.tables e below (T89.setTop (mkF m 385 #[.val (.int wa), .val (.int wb), .val (.long ls), .second, .val (.long ms), .second, .val (.int sel), .val (.int (Int32.ofNat m1)), .val (.int q2), .val (.int q3), .val (.int q4), .val (.int q5), .val (.int (Int32.ofNat nB)), .val (.int q10), .val (.int q11), .val (.int q12), .val (.int (ls.toInt32)), .val (.int q40), .val (.int (ms.toInt32)), .val (.int q47), .val (.ref a_60), .val (.ref a_65), .val (.ref b67), .val (.ref b77), .val (.int q88), .unset, .unset] [])) _
            refine XS.iconst X89.here hx rfl (Jvm.hb hby at_385) ?_
            refine XS.goto X89.here hx rfl (pc0 := 386) (pc' := 390) rfl (Jvm.hb hby at_386) (by decide) (by decide) ?_
            show Steps p.tables e below (T89.setTop (mkF m 390 #[.val (.int wa), .val (.int wb), .val (.long ls), .second, .val (.long ms), .second, .val (.int sel), .val (.int (Int32.ofNat m1)), .val (.int q2), .val (.int q3), .val (.int q4), .val (.int q5), .val (.int (Int32.ofNat nB)), .val (.int q10), .val (.int q11), .val (.int q12), .val (.int (ls.toInt32)), .val (.int q40), .val (.int (ms.toInt32)), .val (.int q47), .val (.ref a_60), .val (.ref a_65), .val (.ref b67), .val (.ref b77), .val (.int q88), .unset, .unset] [(.int (1 : Int32))])) t_
            exact k_)
          exact ⟨T89, X89, e89, fun t_ k_ => s144 t_ (castTop (by simp only [hq136, if_neg h138, if_pos h141, if_pos h143]) k_)⟩
        · have s145 : ∀ t_, Steps p.tables e below (T89.setTop (mkF m 390 #[.val (.int wa), .val (.int wb), .val (.long ls), .second, .val (.long ms), .second, .val (.int sel), .val (.int (Int32.ofNat m1)), .val (.int q2), .val (.int q3), .val (.int q4), .val (.int q5), .val (.int (Int32.ofNat nB)), .val (.int q10), .val (.int q11), .val (.int q12), .val (.int (ls.toInt32)), .val (.int q40), .val (.int (ms.toInt32)), .val (.int q47), .val (.ref a_60), .val (.ref a_65), .val (.ref b67), .val (.ref b77), .val (.int q88), .unset, .unset] [(.int (0 : Int32))])) t_ → Steps p.tables e below (s₁.setTop (entryFrame m #[(.int wa), (.int wb), (.long ls), (.long ms), (.int sel)] maxLocals)) t_ := fun t_ k_ => s142 t_ (by
            show Steps p.tables e below (T89.setTop (mkF m 382 #[.val (.int wa), .val (.int wb), .val (.long ls), .second, .val (.long ms), .second, .val (.int sel), .val (.int (Int32.ofNat m1)), .val (.int q2), .val (.int q3), .val (.int q4), .val (.int q5), .val (.int (Int32.ofNat nB)), .val (.int q10), .val (.int q11), .val (.int q12), .val (.int (ls.toInt32)), .val (.int q40), .val (.int (ms.toInt32)), .val (.int q47), .val (.ref a_60), .val (.ref a_65), .val (.ref b67), .val (.ref b77), .val (.int q88), .unset, .unset] [(.int q47), (.int (ms.toInt32))])) t_
            refine XS.icmpYes X89.here hx rfl (pc0 := 382) (pc' := 389) rfl (Jvm.hb hby at_382) rfl (feq h143).2 (by decide) (by decide) ?_
            show Steps p.tables e below (T89.setTop (mkF m 389 #[.val (.int wa), .val (.int wb), .val (.long ls), .second, .val (.long ms), .second, .val (.int sel), .val (.int (Int32.ofNat m1)), .val (.int q2), .val (.int q3), .val (.int q4), .val (.int q5), .val (.int (Int32.ofNat nB)), .val (.int q10), .val (.int q11), .val (.int q12), .val (.int (ls.toInt32)), .val (.int q40), .val (.int (ms.toInt32)), .val (.int q47), .val (.ref a_60), .val (.ref a_65), .val (.ref b67), .val (.ref b77), .val (.int q88), .unset, .unset] [])) _
            refine XS.iconst X89.here hx rfl (Jvm.hb hby at_389) ?_
            show Steps p.tables e below (T89.setTop (mkF m 390 #[.val (.int wa), .val (.int wb), .val (.long ls), .second, .val (.long ms), .second, .val (.int sel), .val (.int (Int32.ofNat m1)), .val (.int q2), .val (.int q3), .val (.int q4), .val (.int q5), .val (.int (Int32.ofNat nB)), .val (.int q10), .val (.int q11), .val (.int q12), .val (.int (ls.toInt32)), .val (.int q40), .val (.int (ms.toInt32)), .val (.int q47), .val (.ref a_60), .val (.ref a_65), .val (.ref b67), .val (.ref b77), .val (.int q88), .unset, .unset] [(.int (0 : Int32))])) t_
            exact k_)
          exact ⟨T89, X89, e89, fun t_ k_ => s145 t_ (castTop (by simp only [hq136, if_neg h138, if_pos h141, if_neg h143]) k_)⟩
      · have s146 : ∀ t_, Steps p.tables e below (T89.setTop (mkF m 390 #[.val (.int wa), .val (.int wb), .val (.long ls), .second, .val (.long ms), .second, .val (.int sel), .val (.int (Int32.ofNat m1)), .val (.int q2), .val (.int q3), .val (.int q4), .val (.int q5), .val (.int (Int32.ofNat nB)), .val (.int q10), .val (.int q11), .val (.int q12), .val (.int (ls.toInt32)), .val (.int q40), .val (.int (ms.toInt32)), .val (.int q47), .val (.ref a_60), .val (.ref a_65), .val (.ref b67), .val (.ref b77), .val (.int q88), .unset, .unset] [(.int (0 : Int32))])) t_ → Steps p.tables e below (s₁.setTop (entryFrame m #[(.int wa), (.int wb), (.long ls), (.long ms), (.int sel)] maxLocals)) t_ := fun t_ k_ => s140 t_ (by
          show Steps p.tables e below (T89.setTop (mkF m 375 #[.val (.int wa), .val (.int wb), .val (.long ls), .second, .val (.long ms), .second, .val (.int sel), .val (.int (Int32.ofNat m1)), .val (.int q2), .val (.int q3), .val (.int q4), .val (.int q5), .val (.int (Int32.ofNat nB)), .val (.int q10), .val (.int q11), .val (.int q12), .val (.int (ls.toInt32)), .val (.int q40), .val (.int (ms.toInt32)), .val (.int q47), .val (.ref a_60), .val (.ref a_65), .val (.ref b67), .val (.ref b77), .val (.int q88), .unset, .unset] [(.int q40), (.int (ls.toInt32))])) t_
          refine XS.icmpYes X89.here hx rfl (pc0 := 375) (pc' := 389) rfl (Jvm.hb hby at_375) rfl (feq h141).2 (by decide) (by decide) ?_
          show Steps p.tables e below (T89.setTop (mkF m 389 #[.val (.int wa), .val (.int wb), .val (.long ls), .second, .val (.long ms), .second, .val (.int sel), .val (.int (Int32.ofNat m1)), .val (.int q2), .val (.int q3), .val (.int q4), .val (.int q5), .val (.int (Int32.ofNat nB)), .val (.int q10), .val (.int q11), .val (.int q12), .val (.int (ls.toInt32)), .val (.int q40), .val (.int (ms.toInt32)), .val (.int q47), .val (.ref a_60), .val (.ref a_65), .val (.ref b67), .val (.ref b77), .val (.int q88), .unset, .unset] [])) _
          refine XS.iconst X89.here hx rfl (Jvm.hb hby at_389) ?_
          show Steps p.tables e below (T89.setTop (mkF m 390 #[.val (.int wa), .val (.int wb), .val (.long ls), .second, .val (.long ms), .second, .val (.int sel), .val (.int (Int32.ofNat m1)), .val (.int q2), .val (.int q3), .val (.int q4), .val (.int q5), .val (.int (Int32.ofNat nB)), .val (.int q10), .val (.int q11), .val (.int q12), .val (.int (ls.toInt32)), .val (.int q40), .val (.int (ms.toInt32)), .val (.int q47), .val (.ref a_60), .val (.ref a_65), .val (.ref b67), .val (.ref b77), .val (.int q88), .unset, .unset] [(.int (0 : Int32))])) t_
          exact k_)
        exact ⟨T89, X89, e89, fun t_ k_ => s146 t_ (castTop (by simp only [hq136, if_neg h138, if_neg h141]) k_)⟩)
  have s147 : ∀ t_, Steps p.tables e below (T137.setTop (mkF m 400 #[.val (.int wa), .val (.int wb), .val (.long ls), .second, .val (.long ms), .second, .val (.int sel), .val (.int (Int32.ofNat m1)), .val (.int q2), .val (.int q3), .val (.int q4), .val (.int q5), .val (.int (Int32.ofNat nB)), .val (.int q10), .val (.int q11), .val (.int q12), .val (.int (ls.toInt32)), .val (.int q40), .val (.int (ms.toInt32)), .val (.int q47), .val (.ref a_60), .val (.ref a_65), .val (.ref b67), .val (.ref b77), .val (.int q88), .val (.int q136), .val (.ref a_60)] [(.ref b77), (.ref b67)])) t_ → Steps p.tables e below (s₁.setTop (entryFrame m #[(.int wa), (.int wb), (.long ls), (.long ms), (.int sel)] maxLocals)) t_ := fun t_ k_ => s137 t_ (by
    show Steps p.tables e below (T137.setTop (mkF m 390 #[.val (.int wa), .val (.int wb), .val (.long ls), .second, .val (.long ms), .second, .val (.int sel), .val (.int (Int32.ofNat m1)), .val (.int q2), .val (.int q3), .val (.int q4), .val (.int q5), .val (.int (Int32.ofNat nB)), .val (.int q10), .val (.int q11), .val (.int q12), .val (.int (ls.toInt32)), .val (.int q40), .val (.int (ms.toInt32)), .val (.int q47), .val (.ref a_60), .val (.ref a_65), .val (.ref b67), .val (.ref b77), .val (.int q88), .unset, .unset] [(.int q136)])) t_
    refine XS.istore X137.here hx rfl (Jvm.hb hby at_390) rfl (l' := #[.val (.int wa), .val (.int wb), .val (.long ls), .second, .val (.long ms), .second, .val (.int sel), .val (.int (Int32.ofNat m1)), .val (.int q2), .val (.int q3), .val (.int q4), .val (.int q5), .val (.int (Int32.ofNat nB)), .val (.int q10), .val (.int q11), .val (.int q12), .val (.int (ls.toInt32)), .val (.int q40), .val (.int (ms.toInt32)), .val (.int q47), .val (.ref a_60), .val (.ref a_65), .val (.ref b67), .val (.ref b77), .val (.int q88), .val (.int q136), .unset]) rfl ?_
    show Steps p.tables e below (T137.setTop (mkF m 392 #[.val (.int wa), .val (.int wb), .val (.long ls), .second, .val (.long ms), .second, .val (.int sel), .val (.int (Int32.ofNat m1)), .val (.int q2), .val (.int q3), .val (.int q4), .val (.int q5), .val (.int (Int32.ofNat nB)), .val (.int q10), .val (.int q11), .val (.int q12), .val (.int (ls.toInt32)), .val (.int q40), .val (.int (ms.toInt32)), .val (.int q47), .val (.ref a_60), .val (.ref a_65), .val (.ref b67), .val (.ref b77), .val (.int q88), .val (.int q136), .unset] [])) _
    refine XS.aload X137.here hx rfl (Jvm.hb hby at_392) rfl rfl ?_
    refine XS.astore X137.here hx rfl (Jvm.hb hby at_394) rfl rfl (l' := #[.val (.int wa), .val (.int wb), .val (.long ls), .second, .val (.long ms), .second, .val (.int sel), .val (.int (Int32.ofNat m1)), .val (.int q2), .val (.int q3), .val (.int q4), .val (.int q5), .val (.int (Int32.ofNat nB)), .val (.int q10), .val (.int q11), .val (.int q12), .val (.int (ls.toInt32)), .val (.int q40), .val (.int (ms.toInt32)), .val (.int q47), .val (.ref a_60), .val (.ref a_65), .val (.ref b67), .val (.ref b77), .val (.int q88), .val (.int q136), .val (.ref a_60)]) rfl ?_
    refine XS.aload X137.here hx rfl (Jvm.hb hby at_396) rfl rfl ?_
    refine XS.aload X137.here hx rfl (Jvm.hb hby at_398) rfl rfl ?_
    show Steps p.tables e below (T137.setTop (mkF m 400 #[.val (.int wa), .val (.int wb), .val (.long ls), .second, .val (.long ms), .second, .val (.int sel), .val (.int (Int32.ofNat m1)), .val (.int q2), .val (.int q3), .val (.int q4), .val (.int q5), .val (.int (Int32.ofNat nB)), .val (.int q10), .val (.int q11), .val (.int q12), .val (.int (ls.toInt32)), .val (.int q40), .val (.int (ms.toInt32)), .val (.int q47), .val (.ref a_60), .val (.ref a_65), .val (.ref b67), .val (.ref b77), .val (.int q88), .val (.int q136), .val (.ref a_60)] [(.ref b77), (.ref b67)])) t_
    exact k_)
  have O148 : Old Z n0 h85 := (((((O63.keep K65 all0).ext E67).keep K75 (allS (show n0 ≤ b67 by omega) all0)).ext E77).keep K85 (allS (show n0 ≤ b77 by omega) all0))
  have f149 : Exa Z h85 b67 "com/example/coyote_hill/coyotehill/LeaseRequest" := ((Fq75_0.ext E77).keep K85)
  have f150 : Fld Z h85 b67 "com/example/coyote_hill/coyotehill/LeaseRequest" "_worker" "Ljava/lang/String;" (.ref a_60) := ((Fq75_1.ext E77).keep K85 (ninS (show @Ne Nat b67 b77 by omega) nin0))
  have f151 : Fld Z h85 b67 "com/example/coyote_hill/coyotehill/LeaseRequest" "_leaseMs" "I" (.int (ls.toInt32)) := ((Fq75_2.ext E77).keep K85 (ninS (show @Ne Nat b67 b77 by omega) nin0))
  have f152 : Fld Z h85 b67 "com/example/coyote_hill/coyotehill/LeaseRequest" "_maxItems" "I" (.int (ms.toInt32)) := ((Fq75_3.ext E77).keep K85 (ninS (show @Ne Nat b67 b77 by omega) nin0))
  have f153 : Exa Z h85 a_60 "java/lang/String" := (((f73.keep K75).ext E77).keep K85)
  have f154 : Fld Z h85 a_60 "java/lang/String" "value" "[B" (.ref b_60) := (((((Fq60_1.keep K65 nin0).ext E67).keep K75 (ninS (show @Ne Nat a_60 b67 by omega) nin0)).ext E77).keep K85 (ninS (show @Ne Nat a_60 b77 by omega) nin0))
  have f155 : Fld Z h85 a_60 "java/lang/String" "coder" "B" (.int (own_cod (own_mk m1 q2 q3 q4))) := (((((Fq60_2.keep K65 nin0).ext E67).keep K75 (ninS (show @Ne Nat a_60 b67 by omega) nin0)).ext E77).keep K85 (ninS (show @Ne Nat a_60 b77 by omega) nin0))
  have f156 : Arv Z h85 b_60 kb_60 .byte (Int32.ofNat (own_enl (own_mk m1 q2 q3 q4))) (own_enc (own_mk m1 q2 q3 q4)) (.int (0 : Int32)) := (((((Fq60_3.keep K65 nin0).ext E67).keep K75 (ninS (Ne.symm (Exa.neArv A67 ((Fq60_3.keep K65 nin0).ext E67) (hw _ (List.mem_of_getElem? (i := 27) rfl)))) nin0)).ext E77).keep K85 (ninS (Ne.symm (Exa.neArv A77 ((((Fq60_3.keep K65 nin0).ext E67).keep K75 (ninS (Ne.symm (Exa.neArv A67 ((Fq60_3.keep K65 nin0).ext E67) (hw _ (List.mem_of_getElem? (i := 27) rfl)))) nin0)).ext E77) (hw _ (List.mem_of_getElem? (i := 27) rfl)))) nin0))
  have f157 : Exa Z h85 a_65 "java/lang/String" := (f83.keep K85)
  have f158 : Fld Z h85 a_65 "java/lang/String" "value" "[B" (.ref b_65) := ((((Fq65_1.ext E67).keep K75 (ninS (show @Ne Nat a_65 b67 by omega) nin0)).ext E77).keep K85 (ninS (show @Ne Nat a_65 b77 by omega) nin0))
  have f159 : Fld Z h85 a_65 "java/lang/String" "coder" "B" (.int (own_cod (own_mk nB q10 q11 q12))) := ((((Fq65_2.ext E67).keep K75 (ninS (show @Ne Nat a_65 b67 by omega) nin0)).ext E77).keep K85 (ninS (show @Ne Nat a_65 b77 by omega) nin0))
  have f160 : Arv Z h85 b_65 kb_65 .byte (Int32.ofNat (own_enl (own_mk nB q10 q11 q12))) (own_enc (own_mk nB q10 q11 q12)) (.int (0 : Int32)) := ((((Fq65_3.ext E67).keep K75 (ninS (Ne.symm (Exa.neArv A67 (Fq65_3.ext E67) (hw _ (List.mem_of_getElem? (i := 27) rfl)))) nin0)).ext E77).keep K85 (ninS (Ne.symm (Exa.neArv A77 (((Fq65_3.ext E67).keep K75 (ninS (Ne.symm (Exa.neArv A67 (Fq65_3.ext E67) (hw _ (List.mem_of_getElem? (i := 27) rfl)))) nin0)).ext E77) (hw _ (List.mem_of_getElem? (i := 27) rfl)))) nin0))
  have Zc161 : n0 ≤ h85.size := by omega
  obtain ⟨cq162, kq162, q162a, q162b, q162c⟩ := isOf hZ e137 f149
  obtain ⟨_, _, ⟨T162, L162, k162, n162⟩, -, X162, ⟨Lc162, hQ162, l162, y162, z162⟩, st162⟩ := X137.virtualBack hx (y := (⟨"com/example/coyote_hill/coyotehill/LeaseRequest", "equals", "(Ljava/lang/Object;)Z"⟩ : MethodName)) (z := (⟨"com/example/coyote_hill/coyotehill/LeaseRequest", "equals", "(Ljava/lang/Object;)Z"⟩ : MethodName)) hown (mvT hZ (hw _ (List.mem_of_getElem? (i := 45) rfl))) (mvT hZ (hw _ (List.mem_of_getElem? (i := 46) rfl))) (notFace_of_selects (args := #[]) (mvT hZ (hw _ (List.mem_of_getElem? (i := 48) rfl)))) (mvT hZ (hw _ (List.mem_of_getElem? (i := 48) rfl))) (mvT hZ (hw _ (List.mem_of_getElem? (i := 47) rfl))) (by decide) (backOf (W := 0) (rmEqO l Z a0 hw [] b67 b77 cst a_60 b_60 kb_60 (own_mk m1 q2 q3 q4) (ls.toInt32) (ms.toInt32) a_65 b_65 kb_65 (own_mk nB q10 q11 q12) q40 q47 h85 n0 Zc161 I1 O148 (hcst : ¬ (cst = (0 : Int32))) f149 f150 f151 f152 Fq85_0 Fq85_1 Fq85_2 Fq85_3 f153 f154 f155 f156 f157 f158 f159 f160 (own_neN (by omega)) (own_mkchs (by omega) ⟨rg52.1, own_le64k rg52.2⟩ ⟨rg53.1, own_le64k rg53.2⟩ ⟨rg54.1, own_le64k rg54.2⟩) (own_mkchs (by omega) ⟨rg55.1, own_le64k rg55.2⟩ ⟨rg56.1, own_le64k rg56.2⟩ ⟨rg57.1, own_le64k rg57.2⟩) (own_mkl _ _ _ _) (own_mkl _ _ _ _)) hZ (hw _ (List.mem_of_getElem? (i := 49) rfl)) (hw _ (List.mem_of_getElem? (i := 28) rfl)) (by decide) (by decide)) q162a q162c (g := (mkF m 400 #[.val (.int wa), .val (.int wb), .val (.long ls), .second, .val (.long ms), .second, .val (.int sel), .val (.int (Int32.ofNat m1)), .val (.int q2), .val (.int q3), .val (.int q4), .val (.int q5), .val (.int (Int32.ofNat nB)), .val (.int q10), .val (.int q11), .val (.int q12), .val (.int (ls.toInt32)), .val (.int q40), .val (.int (ms.toInt32)), .val (.int q47), .val (.ref a_60), .val (.ref a_65), .val (.ref b67), .val (.ref b77), .val (.int q88), .val (.int q136), .val (.ref a_60)] [(.ref b77), (.ref b67)])) rfl (by rw [hml]; rfl) (Steps.refl _) (argsL := [(.ref b77)]) (rest := []) (lenOf pd__Ljava_lang_Object__Z rfl) rfl (by show 2 * 0 + _ ≤ _; exact Nat.le_of_eq rfl) (Jvm.hb hby at_400) (fun _ _ => ⟨rfl, e137, (by decide : 18 + 0 ≤ _), (by decide : 92 + 0 ≤ _)⟩)
  dsimp only [Pt.U, Pt.locs, Pt.cells, Pt.slots] at X162 l162 y162 z162 st162 hQ162
  subst l162 y162 z162
  obtain ⟨rfl, N162q, e162⟩ := hQ162
  have N162 := Fr.app N85 N162q
  obtain ⟨q163, hq163⟩ : ∃ z : Int32, z = (if (own_mk m1 q2 q3 q4) = (own_mk nB q10 q11 q12) then (if (ls.toInt32) = q40 then (if (ms.toInt32) = q47 then (1 : Int32) else (0 : Int32)) else (0 : Int32)) else (0 : Int32)) := ⟨_, rfl⟩
  rw [← hq163] at st162
  have hst : q88 = (if (own_mk m1 q2 q3 q4) = (own_mk nB q10 q11 q12) then (1 : Int32) else (0 : Int32)) := by rw [hq88]; exact own_streq m1 nB q2 q3 q4 q10 q11 q12 (by omega) (by omega)
  have hE1 : q163 = q136 := by
    rw [hq163, hq136, hst]; split <;> rfl
  have s164 : ∀ t_, Steps p.tables e below (T162.setTop (mkF m 412 #[.val (.int wa), .val (.int wb), .val (.long ls), .second, .val (.long ms), .second, .val (.int sel), .val (.int (Int32.ofNat m1)), .val (.int q2), .val (.int q3), .val (.int q4), .val (.int q5), .val (.int (Int32.ofNat nB)), .val (.int q10), .val (.int q11), .val (.int q12), .val (.int (ls.toInt32)), .val (.int q40), .val (.int (ms.toInt32)), .val (.int q47), .val (.ref a_60), .val (.ref a_65), .val (.ref b67), .val (.ref b77), .val (.int q88), .val (.int q136), .val (.ref a_60)] [(.ref b67), (.ref b77)])) t_ → Steps p.tables e below (s₁.setTop (entryFrame m #[(.int wa), (.int wb), (.long ls), (.long ms), (.int sel)] maxLocals)) t_ := fun t_ k_ => s147 t_ (by
    show Steps p.tables e below (T137.setTop (mkF m 400 #[.val (.int wa), .val (.int wb), .val (.long ls), .second, .val (.long ms), .second, .val (.int sel), .val (.int (Int32.ofNat m1)), .val (.int q2), .val (.int q3), .val (.int q4), .val (.int q5), .val (.int (Int32.ofNat nB)), .val (.int q10), .val (.int q11), .val (.int q12), .val (.int (ls.toInt32)), .val (.int q40), .val (.int (ms.toInt32)), .val (.int q47), .val (.ref a_60), .val (.ref a_65), .val (.ref b67), .val (.ref b77), .val (.int q88), .val (.int q136), .val (.ref a_60)] [(.ref b77), (.ref b67)])) t_
    refine st162.trans ?_
    show Steps p.tables e below (T162.setTop (mkF m 403 #[.val (.int wa), .val (.int wb), .val (.long ls), .second, .val (.long ms), .second, .val (.int sel), .val (.int (Int32.ofNat m1)), .val (.int q2), .val (.int q3), .val (.int q4), .val (.int q5), .val (.int (Int32.ofNat nB)), .val (.int q10), .val (.int q11), .val (.int q12), .val (.int (ls.toInt32)), .val (.int q40), .val (.int (ms.toInt32)), .val (.int q47), .val (.ref a_60), .val (.ref a_65), .val (.ref b67), .val (.ref b77), .val (.int q88), .val (.int q136), .val (.ref a_60)] [(.int q163)])) _
    refine XS.iload X162.here hx rfl (Jvm.hb hby at_403) rfl ?_
    refine XS.icmpNo X162.here hx rfl (Jvm.hb hby at_405) rfl (teq hE1).2 ?_
    show Steps p.tables e below (T162.setTop (mkF m 408 #[.val (.int wa), .val (.int wb), .val (.long ls), .second, .val (.long ms), .second, .val (.int sel), .val (.int (Int32.ofNat m1)), .val (.int q2), .val (.int q3), .val (.int q4), .val (.int q5), .val (.int (Int32.ofNat nB)), .val (.int q10), .val (.int q11), .val (.int q12), .val (.int (ls.toInt32)), .val (.int q40), .val (.int (ms.toInt32)), .val (.int q47), .val (.ref a_60), .val (.ref a_65), .val (.ref b67), .val (.ref b77), .val (.int q88), .val (.int q136), .val (.ref a_60)] [])) _
    refine XS.aload X162.here hx rfl (Jvm.hb hby at_408) rfl rfl ?_
    refine XS.aload X162.here hx rfl (Jvm.hb hby at_410) rfl rfl ?_
    show Steps p.tables e below (T162.setTop (mkF m 412 #[.val (.int wa), .val (.int wb), .val (.long ls), .second, .val (.long ms), .second, .val (.int sel), .val (.int (Int32.ofNat m1)), .val (.int q2), .val (.int q3), .val (.int q4), .val (.int q5), .val (.int (Int32.ofNat nB)), .val (.int q10), .val (.int q11), .val (.int q12), .val (.int (ls.toInt32)), .val (.int q40), .val (.int (ms.toInt32)), .val (.int q47), .val (.ref a_60), .val (.ref a_65), .val (.ref b67), .val (.ref b77), .val (.int q88), .val (.int q136), .val (.ref a_60)] [(.ref b67), (.ref b77)])) t_
    exact k_)
  have Zc165 : n0 ≤ h85.size := by omega
  obtain ⟨cq166, kq166, q166a, q166b, q166c⟩ := isOf hZ e162 Fq85_0
  obtain ⟨_, _, ⟨T166, L166, k166, n166⟩, -, X166, ⟨Lc166, hQ166, l166, y166, z166⟩, st166⟩ := X162.virtualBack hx (y := (⟨"com/example/coyote_hill/coyotehill/LeaseRequest", "equals", "(Ljava/lang/Object;)Z"⟩ : MethodName)) (z := (⟨"com/example/coyote_hill/coyotehill/LeaseRequest", "equals", "(Ljava/lang/Object;)Z"⟩ : MethodName)) hown (mvT hZ (hw _ (List.mem_of_getElem? (i := 45) rfl))) (mvT hZ (hw _ (List.mem_of_getElem? (i := 46) rfl))) (notFace_of_selects (args := #[]) (mvT hZ (hw _ (List.mem_of_getElem? (i := 48) rfl)))) (mvT hZ (hw _ (List.mem_of_getElem? (i := 48) rfl))) (mvT hZ (hw _ (List.mem_of_getElem? (i := 47) rfl))) (by decide) (backOf (W := 0) (rmEqO l Z a0 hw [] b77 b67 cst a_65 b_65 kb_65 (own_mk nB q10 q11 q12) q40 q47 a_60 b_60 kb_60 (own_mk m1 q2 q3 q4) (ls.toInt32) (ms.toInt32) h85 n0 Zc165 I1 O148 (hcst : ¬ (cst = (0 : Int32))) Fq85_0 Fq85_1 Fq85_2 Fq85_3 f149 f150 f151 f152 f157 f158 f159 f160 f153 f154 f155 f156 (own_neN (by omega)) (own_mkchs (by omega) ⟨rg55.1, own_le64k rg55.2⟩ ⟨rg56.1, own_le64k rg56.2⟩ ⟨rg57.1, own_le64k rg57.2⟩) (own_mkchs (by omega) ⟨rg52.1, own_le64k rg52.2⟩ ⟨rg53.1, own_le64k rg53.2⟩ ⟨rg54.1, own_le64k rg54.2⟩) (own_mkl _ _ _ _) (own_mkl _ _ _ _)) hZ (hw _ (List.mem_of_getElem? (i := 49) rfl)) (hw _ (List.mem_of_getElem? (i := 28) rfl)) (by decide) (by decide)) q166a q166c (g := (mkF m 412 #[.val (.int wa), .val (.int wb), .val (.long ls), .second, .val (.long ms), .second, .val (.int sel), .val (.int (Int32.ofNat m1)), .val (.int q2), .val (.int q3), .val (.int q4), .val (.int q5), .val (.int (Int32.ofNat nB)), .val (.int q10), .val (.int q11), .val (.int q12), .val (.int (ls.toInt32)), .val (.int q40), .val (.int (ms.toInt32)), .val (.int q47), .val (.ref a_60), .val (.ref a_65), .val (.ref b67), .val (.ref b77), .val (.int q88), .val (.int q136), .val (.ref a_60)] [(.ref b67), (.ref b77)])) rfl (by rw [hml]; rfl) (Steps.refl _) (argsL := [(.ref b67)]) (rest := []) (lenOf pd__Ljava_lang_Object__Z rfl) rfl (by show 2 * 0 + _ ≤ _; exact Nat.le_of_eq rfl) (Jvm.hb hby at_412) (fun _ _ => ⟨rfl, e162, (by decide : 18 + 0 ≤ _), (by decide : 92 + 0 ≤ _)⟩)
  dsimp only [Pt.U, Pt.locs, Pt.cells, Pt.slots] at X166 l166 y166 z166 st166 hQ166
  subst l166 y166 z166
  obtain ⟨rfl, N166q, e166⟩ := hQ166
  have N166 := Fr.app N162 N166q
  obtain ⟨q167, hq167⟩ : ∃ z : Int32, z = (if (own_mk nB q10 q11 q12) = (own_mk m1 q2 q3 q4) then (if q40 = (ls.toInt32) then (if q47 = (ms.toInt32) then (1 : Int32) else (0 : Int32)) else (0 : Int32)) else (0 : Int32)) := ⟨_, rfl⟩
  rw [← hq167] at st166
  have hE2 : q167 = q136 := by
    rw [hq167, hq136, hst]; exact own_sym3 _ _ _ _ _ _
  have s168 : ∀ t_, Steps p.tables e below (T166.setTop (mkF m 424 #[.val (.int wa), .val (.int wb), .val (.long ls), .second, .val (.long ms), .second, .val (.int sel), .val (.int (Int32.ofNat m1)), .val (.int q2), .val (.int q3), .val (.int q4), .val (.int q5), .val (.int (Int32.ofNat nB)), .val (.int q10), .val (.int q11), .val (.int q12), .val (.int (ls.toInt32)), .val (.int q40), .val (.int (ms.toInt32)), .val (.int q47), .val (.ref a_60), .val (.ref a_65), .val (.ref b67), .val (.ref b77), .val (.int q88), .val (.int q136), .val (.ref a_60)] [(.ref b67), (.ref b67)])) t_ → Steps p.tables e below (s₁.setTop (entryFrame m #[(.int wa), (.int wb), (.long ls), (.long ms), (.int sel)] maxLocals)) t_ := fun t_ k_ => s164 t_ (by
    show Steps p.tables e below (T162.setTop (mkF m 412 #[.val (.int wa), .val (.int wb), .val (.long ls), .second, .val (.long ms), .second, .val (.int sel), .val (.int (Int32.ofNat m1)), .val (.int q2), .val (.int q3), .val (.int q4), .val (.int q5), .val (.int (Int32.ofNat nB)), .val (.int q10), .val (.int q11), .val (.int q12), .val (.int (ls.toInt32)), .val (.int q40), .val (.int (ms.toInt32)), .val (.int q47), .val (.ref a_60), .val (.ref a_65), .val (.ref b67), .val (.ref b77), .val (.int q88), .val (.int q136), .val (.ref a_60)] [(.ref b67), (.ref b77)])) t_
    refine st166.trans ?_
    show Steps p.tables e below (T166.setTop (mkF m 415 #[.val (.int wa), .val (.int wb), .val (.long ls), .second, .val (.long ms), .second, .val (.int sel), .val (.int (Int32.ofNat m1)), .val (.int q2), .val (.int q3), .val (.int q4), .val (.int q5), .val (.int (Int32.ofNat nB)), .val (.int q10), .val (.int q11), .val (.int q12), .val (.int (ls.toInt32)), .val (.int q40), .val (.int (ms.toInt32)), .val (.int q47), .val (.ref a_60), .val (.ref a_65), .val (.ref b67), .val (.ref b77), .val (.int q88), .val (.int q136), .val (.ref a_60)] [(.int q167)])) _
    refine XS.iload X166.here hx rfl (Jvm.hb hby at_415) rfl ?_
    refine XS.icmpNo X166.here hx rfl (Jvm.hb hby at_417) rfl (teq hE2).2 ?_
    show Steps p.tables e below (T166.setTop (mkF m 420 #[.val (.int wa), .val (.int wb), .val (.long ls), .second, .val (.long ms), .second, .val (.int sel), .val (.int (Int32.ofNat m1)), .val (.int q2), .val (.int q3), .val (.int q4), .val (.int q5), .val (.int (Int32.ofNat nB)), .val (.int q10), .val (.int q11), .val (.int q12), .val (.int (ls.toInt32)), .val (.int q40), .val (.int (ms.toInt32)), .val (.int q47), .val (.ref a_60), .val (.ref a_65), .val (.ref b67), .val (.ref b77), .val (.int q88), .val (.int q136), .val (.ref a_60)] [])) _
    refine XS.aload X166.here hx rfl (Jvm.hb hby at_420) rfl rfl ?_
    refine XS.aload X166.here hx rfl (Jvm.hb hby at_422) rfl rfl ?_
    show Steps p.tables e below (T166.setTop (mkF m 424 #[.val (.int wa), .val (.int wb), .val (.long ls), .second, .val (.long ms), .second, .val (.int sel), .val (.int (Int32.ofNat m1)), .val (.int q2), .val (.int q3), .val (.int q4), .val (.int q5), .val (.int (Int32.ofNat nB)), .val (.int q10), .val (.int q11), .val (.int q12), .val (.int (ls.toInt32)), .val (.int q40), .val (.int (ms.toInt32)), .val (.int q47), .val (.ref a_60), .val (.ref a_65), .val (.ref b67), .val (.ref b77), .val (.int q88), .val (.int q136), .val (.ref a_60)] [(.ref b67), (.ref b67)])) t_
    exact k_)
  have Zc169 : n0 ≤ h85.size := by omega
  obtain ⟨cq170, kq170, q170a, q170b, q170c⟩ := isOf hZ e166 f149
  obtain ⟨_, _, ⟨T170, L170, k170, n170⟩, -, X170, ⟨Lc170, hQ170, l170, y170, z170⟩, st170⟩ := X166.virtualBack hx (y := (⟨"com/example/coyote_hill/coyotehill/LeaseRequest", "equals", "(Ljava/lang/Object;)Z"⟩ : MethodName)) (z := (⟨"com/example/coyote_hill/coyotehill/LeaseRequest", "equals", "(Ljava/lang/Object;)Z"⟩ : MethodName)) hown (mvT hZ (hw _ (List.mem_of_getElem? (i := 45) rfl))) (mvT hZ (hw _ (List.mem_of_getElem? (i := 46) rfl))) (notFace_of_selects (args := #[]) (mvT hZ (hw _ (List.mem_of_getElem? (i := 48) rfl)))) (mvT hZ (hw _ (List.mem_of_getElem? (i := 48) rfl))) (mvT hZ (hw _ (List.mem_of_getElem? (i := 47) rfl))) (by decide) (backOf (W := 0) (rmEqS l Z a0 hw [] b67 a_60 (ls.toInt32) (ms.toInt32) h85 n0 Zc169 f149 f150 f151 f152 f153) hZ (hw _ (List.mem_of_getElem? (i := 49) rfl)) (hw _ (List.mem_of_getElem? (i := 28) rfl)) (by decide) (by decide)) q170a q170c (g := (mkF m 424 #[.val (.int wa), .val (.int wb), .val (.long ls), .second, .val (.long ms), .second, .val (.int sel), .val (.int (Int32.ofNat m1)), .val (.int q2), .val (.int q3), .val (.int q4), .val (.int q5), .val (.int (Int32.ofNat nB)), .val (.int q10), .val (.int q11), .val (.int q12), .val (.int (ls.toInt32)), .val (.int q40), .val (.int (ms.toInt32)), .val (.int q47), .val (.ref a_60), .val (.ref a_65), .val (.ref b67), .val (.ref b77), .val (.int q88), .val (.int q136), .val (.ref a_60)] [(.ref b67), (.ref b67)])) rfl (by rw [hml]; rfl) (Steps.refl _) (argsL := [(.ref b67)]) (rest := []) (lenOf pd__Ljava_lang_Object__Z rfl) rfl (by show 2 * 0 + _ ≤ _; exact Nat.le_of_eq rfl) (Jvm.hb hby at_424) (fun _ _ => ⟨rfl, e166, (by decide : 18 + 0 ≤ _), (by decide : 92 + 0 ≤ _)⟩)
  dsimp only [Pt.U, Pt.locs, Pt.cells, Pt.slots] at X170 l170 y170 z170 st170 hQ170
  subst l170 y170 z170
  obtain ⟨rfl, N170q, e170⟩ := hQ170
  have N170 := Fr.app N166 N170q
  have s171 : ∀ t_, Steps p.tables e below (T170.setTop (mkF m 433 #[.val (.int wa), .val (.int wb), .val (.long ls), .second, .val (.long ms), .second, .val (.int sel), .val (.int (Int32.ofNat m1)), .val (.int q2), .val (.int q3), .val (.int q4), .val (.int q5), .val (.int (Int32.ofNat nB)), .val (.int q10), .val (.int q11), .val (.int q12), .val (.int (ls.toInt32)), .val (.int q40), .val (.int (ms.toInt32)), .val (.int q47), .val (.ref a_60), .val (.ref a_65), .val (.ref b67), .val (.ref b77), .val (.int q88), .val (.int q136), .val (.ref a_60)] [.null, (.ref b67)])) t_ → Steps p.tables e below (s₁.setTop (entryFrame m #[(.int wa), (.int wb), (.long ls), (.long ms), (.int sel)] maxLocals)) t_ := fun t_ k_ => s168 t_ (by
    show Steps p.tables e below (T166.setTop (mkF m 424 #[.val (.int wa), .val (.int wb), .val (.long ls), .second, .val (.long ms), .second, .val (.int sel), .val (.int (Int32.ofNat m1)), .val (.int q2), .val (.int q3), .val (.int q4), .val (.int q5), .val (.int (Int32.ofNat nB)), .val (.int q10), .val (.int q11), .val (.int q12), .val (.int (ls.toInt32)), .val (.int q40), .val (.int (ms.toInt32)), .val (.int q47), .val (.ref a_60), .val (.ref a_65), .val (.ref b67), .val (.ref b77), .val (.int q88), .val (.int q136), .val (.ref a_60)] [(.ref b67), (.ref b67)])) t_
    refine st170.trans ?_
    show Steps p.tables e below (T170.setTop (mkF m 427 #[.val (.int wa), .val (.int wb), .val (.long ls), .second, .val (.long ms), .second, .val (.int sel), .val (.int (Int32.ofNat m1)), .val (.int q2), .val (.int q3), .val (.int q4), .val (.int q5), .val (.int (Int32.ofNat nB)), .val (.int q10), .val (.int q11), .val (.int q12), .val (.int (ls.toInt32)), .val (.int q40), .val (.int (ms.toInt32)), .val (.int q47), .val (.ref a_60), .val (.ref a_65), .val (.ref b67), .val (.ref b77), .val (.int q88), .val (.int q136), .val (.ref a_60)] [(.int (1 : Int32))])) _
    refine XS.ifNo X170.here hx rfl (Jvm.hb hby at_427) rfl ((if0 _ _).trans (feq (by decide : ¬ ((1 : Int32) = (0 : Int32)))).1) ?_
    show Steps p.tables e below (T170.setTop (mkF m 430 #[.val (.int wa), .val (.int wb), .val (.long ls), .second, .val (.long ms), .second, .val (.int sel), .val (.int (Int32.ofNat m1)), .val (.int q2), .val (.int q3), .val (.int q4), .val (.int q5), .val (.int (Int32.ofNat nB)), .val (.int q10), .val (.int q11), .val (.int q12), .val (.int (ls.toInt32)), .val (.int q40), .val (.int (ms.toInt32)), .val (.int q47), .val (.ref a_60), .val (.ref a_65), .val (.ref b67), .val (.ref b77), .val (.int q88), .val (.int q136), .val (.ref a_60)] [])) _
    refine XS.aload X170.here hx rfl (Jvm.hb hby at_430) rfl rfl ?_
    refine XS.aconstNull X170.here hx rfl (Jvm.hb hby at_432) ?_
    show Steps p.tables e below (T170.setTop (mkF m 433 #[.val (.int wa), .val (.int wb), .val (.long ls), .second, .val (.long ms), .second, .val (.int sel), .val (.int (Int32.ofNat m1)), .val (.int q2), .val (.int q3), .val (.int q4), .val (.int q5), .val (.int (Int32.ofNat nB)), .val (.int q10), .val (.int q11), .val (.int q12), .val (.int (ls.toInt32)), .val (.int q40), .val (.int (ms.toInt32)), .val (.int q47), .val (.ref a_60), .val (.ref a_65), .val (.ref b67), .val (.ref b77), .val (.int q88), .val (.int q136), .val (.ref a_60)] [.null, (.ref b67)])) t_
    exact k_)
  have Zc172 : n0 ≤ h85.size := by omega
  obtain ⟨cq173, kq173, q173a, q173b, q173c⟩ := isOf hZ e170 f149
  obtain ⟨_, _, ⟨T173, L173, k173, n173⟩, -, X173, ⟨Lc173, hQ173, l173, y173, z173⟩, st173⟩ := X170.virtualBack hx (y := (⟨"com/example/coyote_hill/coyotehill/LeaseRequest", "equals", "(Ljava/lang/Object;)Z"⟩ : MethodName)) (z := (⟨"com/example/coyote_hill/coyotehill/LeaseRequest", "equals", "(Ljava/lang/Object;)Z"⟩ : MethodName)) hown (mvT hZ (hw _ (List.mem_of_getElem? (i := 45) rfl))) (mvT hZ (hw _ (List.mem_of_getElem? (i := 46) rfl))) (notFace_of_selects (args := #[]) (mvT hZ (hw _ (List.mem_of_getElem? (i := 48) rfl)))) (mvT hZ (hw _ (List.mem_of_getElem? (i := 48) rfl))) (mvT hZ (hw _ (List.mem_of_getElem? (i := 47) rfl))) (by decide) (backOf (W := 0) (rmEqN l Z a0 hw [] b67 h85 n0 Zc172) hZ (hw _ (List.mem_of_getElem? (i := 49) rfl)) (hw _ (List.mem_of_getElem? (i := 28) rfl)) (by decide) (by decide)) q173a q173c (g := (mkF m 433 #[.val (.int wa), .val (.int wb), .val (.long ls), .second, .val (.long ms), .second, .val (.int sel), .val (.int (Int32.ofNat m1)), .val (.int q2), .val (.int q3), .val (.int q4), .val (.int q5), .val (.int (Int32.ofNat nB)), .val (.int q10), .val (.int q11), .val (.int q12), .val (.int (ls.toInt32)), .val (.int q40), .val (.int (ms.toInt32)), .val (.int q47), .val (.ref a_60), .val (.ref a_65), .val (.ref b67), .val (.ref b77), .val (.int q88), .val (.int q136), .val (.ref a_60)] [.null, (.ref b67)])) rfl (by rw [hml]; rfl) (Steps.refl _) (argsL := [.null]) (rest := []) (lenOf pd__Ljava_lang_Object__Z rfl) rfl (by show 2 * 0 + _ ≤ _; exact Nat.le_of_eq rfl) (Jvm.hb hby at_433) (fun _ _ => ⟨rfl, e170, (by decide : 18 + 0 ≤ _), (by decide : 92 + 0 ≤ _)⟩)
  dsimp only [Pt.U, Pt.locs, Pt.cells, Pt.slots] at X173 l173 y173 z173 st173 hQ173
  subst l173 y173 z173
  obtain ⟨rfl, N173q, e173⟩ := hQ173
  have N173 := Fr.app N170 N173q
  have s174 : ∀ t_, Steps p.tables e below (T173.setTop (mkF m 443 #[.val (.int wa), .val (.int wb), .val (.long ls), .second, .val (.long ms), .second, .val (.int sel), .val (.int (Int32.ofNat m1)), .val (.int q2), .val (.int q3), .val (.int q4), .val (.int q5), .val (.int (Int32.ofNat nB)), .val (.int q10), .val (.int q11), .val (.int q12), .val (.int (ls.toInt32)), .val (.int q40), .val (.int (ms.toInt32)), .val (.int q47), .val (.ref a_60), .val (.ref a_65), .val (.ref b67), .val (.ref b77), .val (.int q88), .val (.int q136), .val (.ref a_60)] [(.ref a_60), (.ref b67)])) t_ → Steps p.tables e below (s₁.setTop (entryFrame m #[(.int wa), (.int wb), (.long ls), (.long ms), (.int sel)] maxLocals)) t_ := fun t_ k_ => s171 t_ (by
    show Steps p.tables e below (T170.setTop (mkF m 433 #[.val (.int wa), .val (.int wb), .val (.long ls), .second, .val (.long ms), .second, .val (.int sel), .val (.int (Int32.ofNat m1)), .val (.int q2), .val (.int q3), .val (.int q4), .val (.int q5), .val (.int (Int32.ofNat nB)), .val (.int q10), .val (.int q11), .val (.int q12), .val (.int (ls.toInt32)), .val (.int q40), .val (.int (ms.toInt32)), .val (.int q47), .val (.ref a_60), .val (.ref a_65), .val (.ref b67), .val (.ref b77), .val (.int q88), .val (.int q136), .val (.ref a_60)] [.null, (.ref b67)])) t_
    refine st173.trans ?_
    show Steps p.tables e below (T173.setTop (mkF m 436 #[.val (.int wa), .val (.int wb), .val (.long ls), .second, .val (.long ms), .second, .val (.int sel), .val (.int (Int32.ofNat m1)), .val (.int q2), .val (.int q3), .val (.int q4), .val (.int q5), .val (.int (Int32.ofNat nB)), .val (.int q10), .val (.int q11), .val (.int q12), .val (.int (ls.toInt32)), .val (.int q40), .val (.int (ms.toInt32)), .val (.int q47), .val (.ref a_60), .val (.ref a_65), .val (.ref b67), .val (.ref b77), .val (.int q88), .val (.int q136), .val (.ref a_60)] [(.int (0 : Int32))])) _
    refine XS.ifNo X173.here hx rfl (Jvm.hb hby at_436) rfl ((if0 _ _).trans (teq (rfl : (0 : Int32) = (0 : Int32))).2) ?_
    show Steps p.tables e below (T173.setTop (mkF m 439 #[.val (.int wa), .val (.int wb), .val (.long ls), .second, .val (.long ms), .second, .val (.int sel), .val (.int (Int32.ofNat m1)), .val (.int q2), .val (.int q3), .val (.int q4), .val (.int q5), .val (.int (Int32.ofNat nB)), .val (.int q10), .val (.int q11), .val (.int q12), .val (.int (ls.toInt32)), .val (.int q40), .val (.int (ms.toInt32)), .val (.int q47), .val (.ref a_60), .val (.ref a_65), .val (.ref b67), .val (.ref b77), .val (.int q88), .val (.int q136), .val (.ref a_60)] [])) _
    refine XS.aload X173.here hx rfl (Jvm.hb hby at_439) rfl rfl ?_
    refine XS.aload X173.here hx rfl (Jvm.hb hby at_441) rfl rfl ?_
    show Steps p.tables e below (T173.setTop (mkF m 443 #[.val (.int wa), .val (.int wb), .val (.long ls), .second, .val (.long ms), .second, .val (.int sel), .val (.int (Int32.ofNat m1)), .val (.int q2), .val (.int q3), .val (.int q4), .val (.int q5), .val (.int (Int32.ofNat nB)), .val (.int q10), .val (.int q11), .val (.int q12), .val (.int (ls.toInt32)), .val (.int q40), .val (.int (ms.toInt32)), .val (.int q47), .val (.ref a_60), .val (.ref a_65), .val (.ref b67), .val (.ref b77), .val (.int q88), .val (.int q136), .val (.ref a_60)] [(.ref a_60), (.ref b67)])) t_
    exact k_)
  have Zc175 : n0 ≤ h85.size := by omega
  obtain ⟨cq176, kq176, q176a, q176b, q176c⟩ := isOf hZ e173 f149
  obtain ⟨_, _, ⟨T176, L176, k176, n176⟩, -, X176, ⟨Lc176, hQ176, l176, y176, z176⟩, st176⟩ := X173.virtualBack hx (y := (⟨"com/example/coyote_hill/coyotehill/LeaseRequest", "equals", "(Ljava/lang/Object;)Z"⟩ : MethodName)) (z := (⟨"com/example/coyote_hill/coyotehill/LeaseRequest", "equals", "(Ljava/lang/Object;)Z"⟩ : MethodName)) hown (mvT hZ (hw _ (List.mem_of_getElem? (i := 45) rfl))) (mvT hZ (hw _ (List.mem_of_getElem? (i := 46) rfl))) (notFace_of_selects (args := #[]) (mvT hZ (hw _ (List.mem_of_getElem? (i := 48) rfl)))) (mvT hZ (hw _ (List.mem_of_getElem? (i := 48) rfl))) (mvT hZ (hw _ (List.mem_of_getElem? (i := 47) rfl))) (by decide) (backOf (W := 0) (rmEqX l Z a0 hw [] b67 a_60 h85 n0 Zc175 f153) hZ (hw _ (List.mem_of_getElem? (i := 49) rfl)) (hw _ (List.mem_of_getElem? (i := 28) rfl)) (by decide) (by decide)) q176a q176c (g := (mkF m 443 #[.val (.int wa), .val (.int wb), .val (.long ls), .second, .val (.long ms), .second, .val (.int sel), .val (.int (Int32.ofNat m1)), .val (.int q2), .val (.int q3), .val (.int q4), .val (.int q5), .val (.int (Int32.ofNat nB)), .val (.int q10), .val (.int q11), .val (.int q12), .val (.int (ls.toInt32)), .val (.int q40), .val (.int (ms.toInt32)), .val (.int q47), .val (.ref a_60), .val (.ref a_65), .val (.ref b67), .val (.ref b77), .val (.int q88), .val (.int q136), .val (.ref a_60)] [(.ref a_60), (.ref b67)])) rfl (by rw [hml]; rfl) (Steps.refl _) (argsL := [(.ref a_60)]) (rest := []) (lenOf pd__Ljava_lang_Object__Z rfl) rfl (by show 2 * 0 + _ ≤ _; exact Nat.le_of_eq rfl) (Jvm.hb hby at_443) (fun _ _ => ⟨rfl, e173, (by decide : 18 + 0 ≤ _), (by decide : 92 + 0 ≤ _)⟩)
  dsimp only [Pt.U, Pt.locs, Pt.cells, Pt.slots] at X176 l176 y176 z176 st176 hQ176
  subst l176 y176 z176
  obtain ⟨rfl, N176q, e176⟩ := hQ176
  have N176 := Fr.app N173 N176q
  have s177 : ∀ t_, Steps p.tables e below (T176.setTop (mkF m 454 #[.val (.int wa), .val (.int wb), .val (.long ls), .second, .val (.long ms), .second, .val (.int sel), .val (.int (Int32.ofNat m1)), .val (.int q2), .val (.int q3), .val (.int q4), .val (.int q5), .val (.int (Int32.ofNat nB)), .val (.int q10), .val (.int q11), .val (.int q12), .val (.int (ls.toInt32)), .val (.int q40), .val (.int (ms.toInt32)), .val (.int q47), .val (.ref a_60), .val (.ref a_65), .val (.ref b67), .val (.ref b77), .val (.int q88), .val (.int q136), .val (.ref a_60)] [(.int (1 : Int32))])) t_ → Steps p.tables e below (s₁.setTop (entryFrame m #[(.int wa), (.int wb), (.long ls), (.long ms), (.int sel)] maxLocals)) t_ := fun t_ k_ => s174 t_ (by
    show Steps p.tables e below (T173.setTop (mkF m 443 #[.val (.int wa), .val (.int wb), .val (.long ls), .second, .val (.long ms), .second, .val (.int sel), .val (.int (Int32.ofNat m1)), .val (.int q2), .val (.int q3), .val (.int q4), .val (.int q5), .val (.int (Int32.ofNat nB)), .val (.int q10), .val (.int q11), .val (.int q12), .val (.int (ls.toInt32)), .val (.int q40), .val (.int (ms.toInt32)), .val (.int q47), .val (.ref a_60), .val (.ref a_65), .val (.ref b67), .val (.ref b77), .val (.int q88), .val (.int q136), .val (.ref a_60)] [(.ref a_60), (.ref b67)])) t_
    refine st176.trans ?_
    show Steps p.tables e below (T176.setTop (mkF m 446 #[.val (.int wa), .val (.int wb), .val (.long ls), .second, .val (.long ms), .second, .val (.int sel), .val (.int (Int32.ofNat m1)), .val (.int q2), .val (.int q3), .val (.int q4), .val (.int q5), .val (.int (Int32.ofNat nB)), .val (.int q10), .val (.int q11), .val (.int q12), .val (.int (ls.toInt32)), .val (.int q40), .val (.int (ms.toInt32)), .val (.int q47), .val (.ref a_60), .val (.ref a_65), .val (.ref b67), .val (.ref b77), .val (.int q88), .val (.int q136), .val (.ref a_60)] [(.int (0 : Int32))])) _
    refine XS.ifNo X176.here hx rfl (Jvm.hb hby at_446) rfl ((if0 _ _).trans (teq (rfl : (0 : Int32) = (0 : Int32))).2) ?_
    show Steps p.tables e below (T176.setTop (mkF m 449 #[.val (.int wa), .val (.int wb), .val (.long ls), .second, .val (.long ms), .second, .val (.int sel), .val (.int (Int32.ofNat m1)), .val (.int q2), .val (.int q3), .val (.int q4), .val (.int q5), .val (.int (Int32.ofNat nB)), .val (.int q10), .val (.int q11), .val (.int q12), .val (.int (ls.toInt32)), .val (.int q40), .val (.int (ms.toInt32)), .val (.int q47), .val (.ref a_60), .val (.ref a_65), .val (.ref b67), .val (.ref b77), .val (.int q88), .val (.int q136), .val (.ref a_60)] [])) _
    refine XS.iconst X176.here hx rfl (Jvm.hb hby at_449) ?_
    refine XS.goto X176.here hx rfl (pc0 := 450) (pc' := 454) rfl (Jvm.hb hby at_450) (by decide) (by decide) ?_
    show Steps p.tables e below (T176.setTop (mkF m 454 #[.val (.int wa), .val (.int wb), .val (.long ls), .second, .val (.long ms), .second, .val (.int sel), .val (.int (Int32.ofNat m1)), .val (.int q2), .val (.int q3), .val (.int q4), .val (.int q5), .val (.int (Int32.ofNat nB)), .val (.int q10), .val (.int q11), .val (.int q12), .val (.int (ls.toInt32)), .val (.int q40), .val (.int (ms.toInt32)), .val (.int q47), .val (.ref a_60), .val (.ref a_65), .val (.ref b67), .val (.ref b77), .val (.int q88), .val (.int q136), .val (.ref a_60)] [(.int (1 : Int32))])) t_
    exact k_)
  obtain ⟨fs, hr, hrun, hended, hREW⟩ := X176.leaveW hS (by first | exact Nat.le_refl _ | (rw [e176]; exact hk)) (v := some (.int (1 : Int32))) (fun h => by rw [Bd.returns] at h; cases h)
  refine ⟨_, _, s177 _ ?_, hrun, hended, _, _, rfl, ?_, (by show CHr Z ELs s.vm s.heap T176.vm T176.heap; rw [hh, e176]; exact CR.trans (CHv.at X176 hZ hEL CR.1)), hREW.1, hREW.2.1, hREW.2.2.1, hREW.2.2.2.mono (by decide) (by decide)⟩
  · show Steps p.tables e below (T176.setTop (mkF m 454 #[.val (.int wa), .val (.int wb), .val (.long ls), .second, .val (.long ms), .second, .val (.int sel), .val (.int (Int32.ofNat m1)), .val (.int q2), .val (.int q3), .val (.int q4), .val (.int q5), .val (.int (Int32.ofNat nB)), .val (.int q10), .val (.int q11), .val (.int q12), .val (.int (ls.toInt32)), .val (.int q40), .val (.int (ms.toInt32)), .val (.int q47), .val (.ref a_60), .val (.ref a_65), .val (.ref b67), .val (.ref b77), .val (.int q88), .val (.int q136), .val (.ref a_60)] [(.int (1 : Int32))])) _
    exact retN X176 hx (t := .boolean) Bd.returns (by simp) (Jvm.hb hby at_454) hr
  · show Q_rmLaw Z _ _ _ _ _ _ h0 n0 _ T176.heap _
    rw [e176]
    exact ⟨rfl, N176⟩
set_option maxRecDepth 65536 in
set_option maxHeartbeats 40000000 in
theorem comes_1 {Post : Tables → Env → Array Value → State → Outcome → State → Prop} (hpost : ∀ tb e args s v u, (limb_1_1.after args s (.returned v) u = true ∧ limb_1_2.after args s (.returned v) u = true ∧ True) → ReturnedEndW s (.returned v) u (Jvm.fieldLocs frame_1_writes args s ++ Jvm.arrayLocs frame_1_arrays args s ++ Jvm.staticLocs frame_1_statics s) 32 2176 → Post tb e args s (.returned v) u) :
    ArmFor flags0 classFile x code maxLocals ret World_1 tables_1 room_1 Calls_1 rest_1 Pre_1 Post := by
  intro l hfl _ _ p e ha hc hk s m args below hf hA hF happ hP
  obtain ⟨hcalls, hrest, hpre⟩ := hP
  obtain ⟨-, -, -, hnamed, -, -, -, hat⟩ := (Spec.applies_iff hf).mp happ
  obtain ⟨hg, hn⟩ := and_e (Cond.before_iff.mp (show (Jvm.Cond.and given_1 narrow_1).before args s = true from hpre))
  obtain ⟨ga, gr⟩ := and_e hg
  obtain ⟨g0, gr0⟩ := and_e gr
  obtain ⟨g1, gr1⟩ := and_e gr0
  obtain ⟨g2, gr2⟩ := and_e gr1
  obtain ⟨g3, gr3⟩ := and_e gr2
  obtain ⟨w0, w1, w2, w3, w4, rfl⟩ : ∃ w0 w1 w2 w3 w4 : Value, args = #[w0, w1, w2, w3, w4] := by
    have hs : args.size = 5 := by simpa [Cond.value, given_1] using ga
    obtain ⟨L⟩ := args
    match L, hs with
    | [w0, w1, w2, w3, w4], _ => exact ⟨w0, w1, w2, w3, w4, rfl⟩
  have hw := fun d (hd : d ∈ tables_1) => atoms_spec (ws := Jvm.Cond.code x code maxLocals ret :: tables_1) hat d (List.mem_cons_of_mem _ hd)
  have hfit : Fit s := fun {y c} hc i hi => by
    obtain ⟨ha, rfl⟩ := Array.getElem?_eq_some_iff.mp hc
    have q := List.all_eq_true.mp ((Array.all_eq_true_iff_forall_mem.mp hF) _ (Array.getElem_mem ha)) i (List.mem_range.mpr hi)
    simpa [Array.getElem?_eq_getElem hi] using q
  obtain ⟨hsets, hown0⟩ := atoms_of _ (rest_1_c_eq ▸ (show rest_1_c.before _ s = true from hrest))
  have hr0 := Cond.before_iff.mp hown0
  obtain ⟨i0, ei0⟩ := is_v g0
  obtain rfl : w0 = (.int i0) := Option.some.inj ei0
  obtain ⟨i1, ei1⟩ := is_v g1
  obtain rfl : w1 = (.int i1) := Option.some.inj ei1
  obtain ⟨i2, ei2⟩ := isL_v g2
  obtain rfl : w2 = (.long i2) := Option.some.inj ei2
  obtain ⟨i3, ei3⟩ := isL_v g3
  obtain rfl : w3 = (.long i3) := Option.some.inj ei3
  obtain ⟨i4, ei4⟩ := is_v gr3
  obtain rfl : w4 = (.int i4) := Option.some.inj ei4
  obtain ⟨cst, ecs⟩ := is_v (Cond.before_iff.mp (hsets _ (List.mem_of_getElem? (i := 1) rfl)))
  have hcw := (hsets _ (List.mem_of_getElem? (i := 2) rfl))
  have hcst : ¬ (cst = (0 : Int32)) := fun q => by
    have h1 := not_v (Cond.before_iff.mp hcw)
    rw [Cond.eq_ints ecs (Term.int_eval 0)] at h1
    simp [q] at h1
  have hCH : CHv s ELs s.vm s.heap := CHv.start (own_EW hw) (fun p hp => hcalls.1 p hp) (show Jvm.Lit.compactW.before _ s = true from hcw) (hw _ (List.mem_of_getElem? (i := 19) rfl)) (hw _ (List.mem_of_getElem? (i := 5) rfl))
  obtain ⟨n, o, h1, h2, h3, _, L, rfl, ⟨rfl, N⟩, -, hq⟩ := rmLaw l s _ hw tables_1 i0 i1 i2 i3 i4 cst  s.heap s.heap.size (Nat.le_refl _) (Sta.start ecs (Or.inl (hsets _ (List.mem_of_getElem? (i := 0) rfl)))) (Old.start s) hcst  p e ha hc hk s m _ below hf ((Spec.applies_iff_loose hf).mp happ).1 ⟨rfl, State.Warmed39.refl s, rfl, hCH⟩ trivial
  refine ⟨n, _, h1, h2, h3, hpost _ _ _ _ _ _ ⟨Cond.after_iff.mpr rfl, Cond.after_iff.mpr (eq_i res_at (Term.int_eval (1)) rfl), trivial⟩ ⟨hq.1, hq.2.1, hq.2.2.1, (hq.2.2.2.sift fun y hy => Or.inr (N y hy)).mono (by decide) (by decide)⟩⟩
theorem main_1_1 : Claimed_1_1 := comes_1 fun _ _ _ _ _ _ h hF => ⟨h.1, hF⟩
theorem main_1_2 : Claimed_1_2 := comes_1 fun _ _ _ _ _ _ h hF => ⟨h.2.1, hF⟩
end Jvm.Pilot.@@N@@
namespace Jvm.Pilot.@@N@@
open Jvm Jvm.ClassFile Sem Op Lib Jvm.Free Jvm.Stand Jvm.Pilot.@@N@@.Jvm.D
/-! MADE BY PROGRAM (witnessworld.py) out of the Statement's table words and the real class files: 21 classes; the members and pool entries that the words name. The judged class is class 1, her method 2. -/
namespace start1
open Jvm.ClassFile
def u (s : String) : CpInfo := .utf8 (stringToUtf16 s)
/-- a pool by its gaps: so many unusable entries, then the entry; so many at the end -/
def gap : Nat → List CpInfo → List CpInfo
  | 0, r => r
  | n + 1, r => .unusable :: gap n r
def poolList (es : List (Nat × CpInfo)) (last : Nat) : List CpInfo := es.foldr (fun e r => gap e.1 (e.2 :: r)) (gap last [])
def pool (es : List (Nat × CpInfo)) (last : Nat) : Array CpInfo := ⟨poolList es last⟩
def fileOf (pool : Array CpInfo) (this : Nat) (attrs : Array Attribute := #[]) (ms : Array MethodInfo := #[]) (fl : Nat := 33) (sup : Nat := 0) (ifs : Array Nat := #[]) (fds : Array FieldInfo := #[]) : ClassFile where
  minorVersion := 0
  majorVersion := 65
  constantPool := pool
  accessFlags := fl
  thisClass := this
  superClass := sup
  interfaces := ifs
  fields := fds
  methods := ms
  attributes := attrs
def plain (name : String) (sup : Option ClassId) : Class where
  name := name
  kind := .ordinary
  loader := none
  accessFlags := 33
  super := sup
  interfaces := #[]
  cf := none
  fields := #[]
  methods := #[]
  instanceTypes := #[]
  staticTypes := #[]
  resolved := #[]
  callSites := []
  init := .initialized
  statics := none
  mirror := none

def pool0 : Array CpInfo := pool [(5, u "<init>"), (0, u "()V"), (1, .class_ 10), (1, u "java/lang/Object")] 113

def k0c0 : Code := { maxStack := 0, maxLocals := 1, code := object_method_1_code, exceptionTable := #[], attributes := #[] }
def k0m0 : Method := { name := "<init>", desc := "()V", sig := { parameters := [], returnType := none }, accessFlags := 1, code := some k0c0 }
/-- java/lang/Object -/
def k0 : Class := { plain "java/lang/Object" none with
  accessFlags := 33
  interfaces := #[]
  cf := some (fileOf pool0 8 #[] #[{ accessFlags := 1, nameIndex := 5, descriptorIndex := 6, attributes := #[] }] 33 0 #[] #[])
  fields := #[]
  methods := #[k0m0]
  instanceTypes := #[]
  staticTypes := #[]
  resolved := Array.replicate 124 none
  statics := none }

def pool1 : Array CpInfo := pool [(2, .class_ 4), (1, u "java/lang/Object"), (0, u "<init>"), (0, u "()V"), (0, .class_ 8), (0, u "java/lang/String"), (0, .methodref 7 10), (0, .nameAndType 5 11), (0, u "([C)V"), (0, .methodref 13 14), (0, .class_ 15), (0, .nameAndType 16 17), (0, u "com/example/coyote_hill/coyotehill/LeaseRequestEqualsPinLaw"), (0, u "mk"), (0, u "(ICCC)Ljava/lang/String;"), (0, .class_ 19), (0, u "com/example/coyote_hill/coyotehill/LeaseRequest"), (0, .methodref 18 21), (0, .nameAndType 5 22), (0, u "(Ljava/lang/String;II)V"), (0, .methodref 18 24), (0, .nameAndType 25 26), (0, u "equals"), (0, u "(Ljava/lang/Object;)Z"), (3, u "law"), (0, u "(IIJJI)Z")] 2

def k1m0 : Method := { name := "<init>", desc := "()V", sig := { parameters := [], returnType := none }, accessFlags := 1, code := none }
def k1c1 : Code := { maxStack := 6, maxLocals := 4, code := method_2_code, exceptionTable := #[], attributes := #[] }
def k1m1 : Method := { name := "mk", desc := "(ICCC)Ljava/lang/String;", sig := { parameters := [.int, .char, .char, .char], returnType := some (.object "java/lang/String") }, accessFlags := 10, code := some k1c1 }
def k1c2 : Code := { maxStack := 5, maxLocals := 27, code := code, exceptionTable := #[], attributes := #[] }
def k1m2 : Method := { name := "law", desc := "(IIJJI)Z", sig := { parameters := [.int, .int, .long, .long, .int], returnType := some .boolean }, accessFlags := 9, code := some k1c2 }
/-- com/example/coyote_hill/coyotehill/LeaseRequestEqualsPinLaw -/
def k1 : Class := { plain "com/example/coyote_hill/coyotehill/LeaseRequestEqualsPinLaw" (some 0) with
  accessFlags := 49
  interfaces := #[]
  cf := some (fileOf pool1 13 #[] #[{ accessFlags := 1, nameIndex := 5, descriptorIndex := 6, attributes := #[] }, { accessFlags := 10, nameIndex := 16, descriptorIndex := 17, attributes := #[] }, { accessFlags := 9, nameIndex := 30, descriptorIndex := 31, attributes := #[] }] 49 2 #[] #[])
  fields := #[]
  methods := #[k1m0, k1m1, k1m2]
  instanceTypes := #[]
  staticTypes := #[]
  resolved := Array.replicate 34 none
  statics := none }

def pool2 : Array CpInfo := pool [(1, .class_ 2), (0, u "java/io/Serializable"), (0, .class_ 4), (0, u "java/lang/Object")] 2

/-- java/io/Serializable -/
def k2 : Class := { plain "java/io/Serializable" (some 0) with
  accessFlags := 1537
  interfaces := #[]
  cf := some (fileOf pool2 1 #[] #[] 1537 3 #[] #[])
  fields := #[]
  methods := #[]
  instanceTypes := #[]
  staticTypes := #[]
  resolved := Array.replicate 7 none
  statics := none }

def pool3 : Array CpInfo := pool [(1, .class_ 2), (0, u "java/lang/Comparable"), (0, .class_ 4), (0, u "java/lang/Object")] 7

/-- java/lang/Comparable -/
def k3 : Class := { plain "java/lang/Comparable" (some 0) with
  accessFlags := 1537
  interfaces := #[]
  cf := some (fileOf pool3 1 #[] #[] 1537 3 #[] #[])
  fields := #[]
  methods := #[]
  instanceTypes := #[]
  staticTypes := #[]
  resolved := Array.replicate 12 none
  statics := none }

def pool4 : Array CpInfo := pool [(2, .class_ 4), (1, u "java/lang/CharSequence"), (42, .class_ 48), (0, u "java/lang/CharSequence$1CodePointIterator"), (10, .class_ 60), (0, u "java/lang/CharSequence$1CharIterator"), (5, .class_ 67), (0, u "java/lang/Object")] 63

/-- java/lang/CharSequence -/
def k4 : Class := { plain "java/lang/CharSequence" (some 0) with
  accessFlags := 1537
  interfaces := #[]
  cf := some (fileOf pool4 2 #[.nestMembers #[47, 59]] #[] 1537 66 #[] #[])
  fields := #[]
  methods := #[]
  instanceTypes := #[]
  staticTypes := #[]
  resolved := Array.replicate 131 none
  statics := none }

def pool5 : Array CpInfo := pool [(1, .class_ 2), (0, u "java/lang/constant/Constable"), (0, .class_ 4), (0, u "java/lang/Object")] 6

/-- java/lang/constant/Constable -/
def k5 : Class := { plain "java/lang/constant/Constable" (some 0) with
  accessFlags := 1537
  interfaces := #[]
  cf := some (fileOf pool5 1 #[] #[] 1537 3 #[] #[])
  fields := #[]
  methods := #[]
  instanceTypes := #[]
  staticTypes := #[]
  resolved := Array.replicate 11 none
  statics := none }

def pool6 : Array CpInfo := pool [(1, .class_ 2), (0, u "java/lang/constant/ConstantDesc"), (0, .class_ 4), (0, u "java/lang/Object")] 32

/-- java/lang/constant/ConstantDesc -/
def k6 : Class := { plain "java/lang/constant/ConstantDesc" (some 0) with
  accessFlags := 1537
  interfaces := #[]
  cf := some (fileOf pool6 1 #[] #[] 1537 3 #[] #[])
  fields := #[]
  methods := #[]
  instanceTypes := #[]
  staticTypes := #[]
  resolved := Array.replicate 37 none
  statics := none }

def pool7 : Array CpInfo := pool [(1, .methodref 2 3), (0, .class_ 4), (0, .nameAndType 5 6), (0, u "java/lang/Object"), (0, u "<init>"), (0, u "()V"), (0, .string 8), (0, u ""), (0, .fieldref 10 11), (0, .class_ 12), (0, .nameAndType 13 14), (0, u "java/lang/String"), (0, u "value"), (0, u "[B"), (0, .fieldref 10 16), (0, .nameAndType 17 18), (0, u "coder"), (0, u "B"), (2, u "hash"), (0, u "I"), (2, u "hashIsZero"), (0, u "Z"), (0, .methodref 10 28), (0, .nameAndType 5 29), (0, u "([CIILjava/lang/Void;)V"), (8, .fieldref 10 39), (0, .nameAndType 40 26), (0, u "COMPACT_STRINGS"), (1, .class_ 44), (1, u "java/lang/StringUTF16"), (0, u "compress"), (1, .methodref 42 48), (0, .nameAndType 49 50), (0, u "coderFromArrayLen"), (0, u "([BI)B"), (56, .class_ 109), (1, u "java/lang/StringLatin1"), (67, .methodref 42 178), (0, .nameAndType 45 179), (0, u "([CII)[B"), (361, .methodref 107 542), (0, .nameAndType 543 544), (0, u "equals"), (0, u "([B[B)Z"), (28, u "(Ljava/lang/Object;)Z"), (1, .class_ 576), (0, u "java/lang/CharSequence"), (22, u "CASE_INSENSITIVE_ORDER"), (0, u "Ljava/util/Comparator;"), (409, u "([C)V"), (90, u "serialPersistentFields"), (0, u "[Ljava/io/ObjectStreamField;"), (0, .class_ 1104), (0, u "java/lang/String$CaseInsensitiveComparator"), (1, .class_ 1107), (0, u "java/io/Serializable"), (0, .class_ 1109), (0, u "java/lang/Comparable"), (0, .class_ 1111), (0, u "java/lang/constant/Constable"), (0, .class_ 1113), (0, u "java/lang/constant/ConstantDesc"), (2, u "serialVersionUID"), (0, u "J"), (3, u "REPL"), (0, u "C"), (2, u "LATIN1"), (1, u "UTF16")] 323

def k7m0 : Method := { name := "<init>", desc := "()V", sig := { parameters := [], returnType := none }, accessFlags := 1, code := none }
def k7c1 : Code := { maxStack := 5, maxLocals := 2, code := jdk_42_method_3_code, exceptionTable := #[], attributes := #[] }
def k7m1 : Method := { name := "<init>", desc := "([C)V", sig := { parameters := [(.array .char)], returnType := none }, accessFlags := 1, code := some k7c1 }
def k7c2 : Code := { maxStack := 2, maxLocals := 3, code := jdk_42_method_66_code, exceptionTable := #[], attributes := #[] }
def k7m2 : Method := { name := "equals", desc := "(Ljava/lang/Object;)Z", sig := { parameters := [(.object "java/lang/Object")], returnType := some .boolean }, accessFlags := 1, code := some k7c2 }
def k7c3 : Code := { maxStack := 4, maxLocals := 6, code := jdk_42_method_149_code, exceptionTable := #[], attributes := #[] }
def k7m3 : Method := { name := "<init>", desc := "([CIILjava/lang/Void;)V", sig := { parameters := [(.array .char), .int, .int, (.object "java/lang/Void")], returnType := none }, accessFlags := 2, code := some k7c3 }
/-- java/lang/String -/
def k7 : Class := { plain "java/lang/String" (some 0) with
  accessFlags := 49
  interfaces := #[2, 3, 4, 5, 6]
  cf := some (fileOf pool7 10 #[.nestMembers #[1103]] #[{ accessFlags := 1, nameIndex := 5, descriptorIndex := 6, attributes := #[] }, { accessFlags := 1, nameIndex := 5, descriptorIndex := 1010, attributes := #[] }, { accessFlags := 1, nameIndex := 543, descriptorIndex := 573, attributes := #[] }, { accessFlags := 2, nameIndex := 5, descriptorIndex := 29, attributes := #[] }] 49 2 #[1106, 1108, 575, 1110, 1112] #[{ accessFlags := 18, nameIndex := 13, descriptorIndex := 14, attributes := #[] }, { accessFlags := 18, nameIndex := 17, descriptorIndex := 18, attributes := #[] }, { accessFlags := 2, nameIndex := 21, descriptorIndex := 22, attributes := #[] }, { accessFlags := 2, nameIndex := 25, descriptorIndex := 26, attributes := #[] }, { accessFlags := 26, nameIndex := 1116, descriptorIndex := 1117, attributes := #[] }, { accessFlags := 24, nameIndex := 40, descriptorIndex := 26, attributes := #[] }, { accessFlags := 26, nameIndex := 1101, descriptorIndex := 1102, attributes := #[] }, { accessFlags := 26, nameIndex := 1121, descriptorIndex := 1122, attributes := #[] }, { accessFlags := 25, nameIndex := 599, descriptorIndex := 600, attributes := #[] }, { accessFlags := 24, nameIndex := 1125, descriptorIndex := 18, attributes := #[] }, { accessFlags := 24, nameIndex := 1127, descriptorIndex := 18, attributes := #[] }])
  fields := #[{ name := "value", type := (.array .byte), accessFlags := 18, slot := 0, constantValue := 0 }, { name := "coder", type := .byte, accessFlags := 18, slot := 1, constantValue := 0 }, { name := "hash", type := .int, accessFlags := 2, slot := 2, constantValue := 0 }, { name := "hashIsZero", type := .boolean, accessFlags := 2, slot := 3, constantValue := 0 }, { name := "serialVersionUID", type := .long, accessFlags := 26, slot := 0, constantValue := 0 }, { name := "COMPACT_STRINGS", type := .boolean, accessFlags := 24, slot := 1, constantValue := 0 }, { name := "serialPersistentFields", type := (.array (.object "java/io/ObjectStreamField")), accessFlags := 26, slot := 2, constantValue := 0 }, { name := "REPL", type := .char, accessFlags := 26, slot := 3, constantValue := 0 }, { name := "CASE_INSENSITIVE_ORDER", type := (.object "java/util/Comparator"), accessFlags := 25, slot := 4, constantValue := 0 }, { name := "LATIN1", type := .byte, accessFlags := 24, slot := 5, constantValue := 0 }, { name := "UTF16", type := .byte, accessFlags := 24, slot := 6, constantValue := 0 }]
  methods := #[k7m0, k7m1, k7m2, k7m3]
  instanceTypes := #[(.array .byte), .byte, .int, .boolean]
  staticTypes := #[.long, .boolean, (.array (.object "java/io/ObjectStreamField")), .char, (.object "java/util/Comparator"), .byte, .byte]
  resolved := Array.replicate 1451 none
  statics := some 0 }

def pool8 : Array CpInfo := pool [(1, .methodref 2 3), (0, .class_ 4), (0, .nameAndType 5 6), (0, u "java/lang/Object"), (0, u "<init>"), (0, u "()V"), (0, .string 8), (0, u "worker"), (0, .methodref 10 11), (0, .class_ 12), (0, .nameAndType 13 14), (0, u "java/util/Objects"), (0, u "requireNonNull"), (0, u "(Ljava/lang/Object;Ljava/lang/String;)Ljava/lang/Object;"), (0, .class_ 16), (0, u "java/lang/String"), (0, .fieldref 18 19), (0, .class_ 20), (0, .nameAndType 21 22), (0, u "com/example/coyote_hill/coyotehill/LeaseRequest"), (0, u "_worker"), (0, u "Ljava/lang/String;"), (0, .fieldref 18 24), (0, .nameAndType 25 26), (0, u "_leaseMs"), (0, u "I"), (0, .fieldref 18 28), (0, .nameAndType 29 26), (0, u "_maxItems"), (0, .methodref 15 31), (0, .nameAndType 32 33), (0, u "equals"), (0, u "(Ljava/lang/Object;)Z"), (14, u "(Ljava/lang/String;II)V")] 27

def k8c0 : Code := { maxStack := 3, maxLocals := 4, code := prog_9_method_1_code, exceptionTable := #[], attributes := #[] }
def k8m0 : Method := { name := "<init>", desc := "(Ljava/lang/String;II)V", sig := { parameters := [(.object "java/lang/String"), .int, .int], returnType := none }, accessFlags := 1, code := some k8c0 }
def k8c1 : Code := { maxStack := 2, maxLocals := 3, code := prog_9_method_5_code, exceptionTable := #[], attributes := #[] }
def k8m1 : Method := { name := "equals", desc := "(Ljava/lang/Object;)Z", sig := { parameters := [(.object "java/lang/Object")], returnType := some .boolean }, accessFlags := 1, code := some k8c1 }
/-- com/example/coyote_hill/coyotehill/LeaseRequest -/
def k8 : Class := { plain "com/example/coyote_hill/coyotehill/LeaseRequest" (some 0) with
  accessFlags := 49
  interfaces := #[]
  cf := some (fileOf pool8 18 #[] #[{ accessFlags := 1, nameIndex := 5, descriptorIndex := 48, attributes := #[] }, { accessFlags := 1, nameIndex := 32, descriptorIndex := 33, attributes := #[] }] 49 2 #[] #[{ accessFlags := 18, nameIndex := 21, descriptorIndex := 22, attributes := #[] }, { accessFlags := 18, nameIndex := 25, descriptorIndex := 26, attributes := #[] }, { accessFlags := 18, nameIndex := 29, descriptorIndex := 26, attributes := #[] }])
  fields := #[{ name := "_worker", type := (.object "java/lang/String"), accessFlags := 18, slot := 0, constantValue := 0 }, { name := "_leaseMs", type := .int, accessFlags := 18, slot := 1, constantValue := 0 }, { name := "_maxItems", type := .int, accessFlags := 18, slot := 2, constantValue := 0 }]
  methods := #[k8m0, k8m1]
  instanceTypes := #[(.object "java/lang/String"), .int, .int]
  staticTypes := #[]
  resolved := Array.replicate 76 none
  statics := none }

def pool9 : Array CpInfo := pool [(2, .class_ 4), (1, u "java/lang/Object"), (0, u "<init>"), (0, u "()V"), (35, .class_ 44), (1, u "java/util/Objects"), (0, u "requireNonNull"), (48, u "(Ljava/lang/Object;Ljava/lang/String;)Ljava/lang/Object;")] 89

def k9m0 : Method := { name := "<init>", desc := "()V", sig := { parameters := [], returnType := none }, accessFlags := 2, code := none }
def k9c1 : Code := { maxStack := 3, maxLocals := 2, code := jdk_31_method_11_code, exceptionTable := #[], attributes := #[] }
def k9m1 : Method := { name := "requireNonNull", desc := "(Ljava/lang/Object;Ljava/lang/String;)Ljava/lang/Object;", sig := { parameters := [(.object "java/lang/Object"), (.object "java/lang/String")], returnType := some (.object "java/lang/Object") }, accessFlags := 9, code := some k9c1 }
/-- java/util/Objects -/
def k9 : Class := { plain "java/util/Objects" (some 0) with
  accessFlags := 49
  interfaces := #[]
  cf := some (fileOf pool9 42 #[] #[{ accessFlags := 2, nameIndex := 5, descriptorIndex := 6, attributes := #[] }, { accessFlags := 9, nameIndex := 45, descriptorIndex := 94, attributes := #[] }] 49 2 #[] #[])
  fields := #[]
  methods := #[k9m0, k9m1]
  instanceTypes := #[]
  staticTypes := #[]
  resolved := Array.replicate 184 none
  statics := none }

def pool10 : Array CpInfo := pool [(4, .class_ 6), (1, u "java/lang/Object"), (0, u "<init>"), (0, u "()V"), (5, .class_ 16), (1, u "java/lang/StringLatin1"), (104, u "$assertionsDisabled"), (0, u "Z"), (98, .class_ 223), (1, u "java/lang/StringLatin1$LinesSpliterator"), (57, u "equals"), (0, u "([B[B)Z"), (107, .class_ 391), (0, u "java/lang/StringLatin1$CharsSpliterator")] 3

def k10m0 : Method := { name := "<init>", desc := "()V", sig := { parameters := [], returnType := none }, accessFlags := 0, code := none }
def k10c1 : Code := { maxStack := 3, maxLocals := 3, code := jdk_43_method_13_code, exceptionTable := #[], attributes := #[] }
def k10m1 : Method := { name := "equals", desc := "([B[B)Z", sig := { parameters := [(.array .byte), (.array .byte)], returnType := some .boolean }, accessFlags := 9, code := some k10c1 }
/-- java/lang/StringLatin1 -/
def k10 : Class := { plain "java/lang/StringLatin1" (some 0) with
  accessFlags := 48
  interfaces := #[]
  cf := some (fileOf pool10 14 #[.nestMembers #[390, 221]] #[{ accessFlags := 0, nameIndex := 7, descriptorIndex := 8, attributes := #[] }, { accessFlags := 9, nameIndex := 281, descriptorIndex := 282, attributes := #[] }] 48 4 #[] #[{ accessFlags := 4120, nameIndex := 121, descriptorIndex := 122, attributes := #[] }])
  fields := #[{ name := "$assertionsDisabled", type := .boolean, accessFlags := 4120, slot := 0, constantValue := 0 }]
  methods := #[k10m0, k10m1]
  instanceTypes := #[]
  staticTypes := #[.boolean]
  resolved := Array.replicate 395 none
  statics := none }

def pool11 : Array CpInfo := pool [(6, .class_ 8), (1, u "java/lang/Object"), (0, u "<init>"), (0, u "()V"), (1, .class_ 14), (1, u "java/lang/StringUTF16"), (31, u "$assertionsDisabled"), (0, u "Z"), (13, u "HI_BYTE_SHIFT"), (0, u "I"), (2, u "LO_BYTE_SHIFT"), (49, .methodref 12 116), (0, .nameAndType 117 118), (0, u "compress"), (0, u "([CI[BII)I"), (3, u "([CII)[B"), (138, u "coderFromArrayLen"), (0, u "([BI)B"), (106, .class_ 371), (1, u "java/lang/StringUTF16$LinesSpliterator"), (58, u "MAX_LENGTH"), (196, .class_ 628), (0, u "java/lang/StringUTF16$CodePointsSpliterator"), (0, .class_ 630), (0, u "java/lang/StringUTF16$CharsSpliterator")] 4

def k11m0 : Method := { name := "<init>", desc := "()V", sig := { parameters := [], returnType := none }, accessFlags := 0, code := none }
def k11c1 : Code := { maxStack := 2, maxLocals := 2, code := jdk_52_method_15_code, exceptionTable := #[], attributes := #[] }
def k11m1 : Method := { name := "coderFromArrayLen", desc := "([BI)B", sig := { parameters := [(.array .byte), .int], returnType := some .byte }, accessFlags := 8, code := some k11c1 }
def k11c2 : Code := { maxStack := 5, maxLocals := 6, code := jdk_52_method_16_code, exceptionTable := #[], attributes := #[] }
def k11m2 : Method := { name := "compress", desc := "([CII)[B", sig := { parameters := [(.array .char), .int, .int], returnType := some (.array .byte) }, accessFlags := 9, code := some k11c2 }
def k11c3 : Code := { maxStack := 3, maxLocals := 7, code := jdk_52_method_21_code, exceptionTable := #[], attributes := #[] }
def k11m3 : Method := { name := "compress", desc := "([CI[BII)I", sig := { parameters := [(.array .char), .int, (.array .byte), .int, .int], returnType := some .int }, accessFlags := 9, code := some k11c3 }
/-- java/lang/StringUTF16 -/
def k11 : Class := { plain "java/lang/StringUTF16" (some 0) with
  accessFlags := 48
  interfaces := #[]
  cf := some (fileOf pool11 12 #[.nestMembers #[627, 629, 369]] #[{ accessFlags := 0, nameIndex := 9, descriptorIndex := 10, attributes := #[] }, { accessFlags := 8, nameIndex := 261, descriptorIndex := 262, attributes := #[] }, { accessFlags := 9, nameIndex := 117, descriptorIndex := 122, attributes := #[] }, { accessFlags := 9, nameIndex := 117, descriptorIndex := 118, attributes := #[] }] 48 6 #[] #[{ accessFlags := 26, nameIndex := 61, descriptorIndex := 62, attributes := #[] }, { accessFlags := 26, nameIndex := 65, descriptorIndex := 62, attributes := #[] }, { accessFlags := 24, nameIndex := 430, descriptorIndex := 62, attributes := #[] }, { accessFlags := 4120, nameIndex := 46, descriptorIndex := 47, attributes := #[] }])
  fields := #[{ name := "HI_BYTE_SHIFT", type := .int, accessFlags := 26, slot := 0, constantValue := 0 }, { name := "LO_BYTE_SHIFT", type := .int, accessFlags := 26, slot := 1, constantValue := 0 }, { name := "MAX_LENGTH", type := .int, accessFlags := 24, slot := 2, constantValue := 0 }, { name := "$assertionsDisabled", type := .boolean, accessFlags := 4120, slot := 3, constantValue := 0 }]
  methods := #[k11m0, k11m1, k11m2, k11m3]
  instanceTypes := #[]
  staticTypes := #[.int, .int, .int, .boolean]
  resolved := Array.replicate 635 none
  statics := none }

def pool12 : Array CpInfo := pool [(2, .class_ 4), (1, u "java/lang/Object"), (0, u "<init>"), (0, u "()V"), (17, .class_ 26), (1, u "jdk/internal/util/Preconditions"), (28, .class_ 56), (0, u "jdk/internal/util/Preconditions$4"), (57, .class_ 115), (0, u "jdk/internal/util/Preconditions$1"), (7, u "SIOOBE_FORMATTER"), (0, u "Ljava/util/function/BiFunction;"), (0, .class_ 126), (0, u "jdk/internal/util/Preconditions$2"), (3, u "AIOOBE_FORMATTER"), (0, .class_ 132), (0, u "jdk/internal/util/Preconditions$3"), (3, u "IOOBE_FORMATTER")] 57

def k12m0 : Method := { name := "<init>", desc := "()V", sig := { parameters := [], returnType := none }, accessFlags := 1, code := none }
/-- jdk/internal/util/Preconditions -/
def k12 : Class := { plain "jdk/internal/util/Preconditions" (some 0) with
  accessFlags := 33
  interfaces := #[]
  cf := some (fileOf pool12 24 #[.nestMembers #[55, 131, 125, 114]] #[{ accessFlags := 1, nameIndex := 5, descriptorIndex := 6, attributes := #[] }] 33 2 #[] #[{ accessFlags := 25, nameIndex := 123, descriptorIndex := 124, attributes := #[] }, { accessFlags := 25, nameIndex := 130, descriptorIndex := 124, attributes := #[] }, { accessFlags := 25, nameIndex := 136, descriptorIndex := 124, attributes := #[] }])
  fields := #[{ name := "SIOOBE_FORMATTER", type := (.object "java/util/function/BiFunction"), accessFlags := 25, slot := 0, constantValue := 0 }, { name := "AIOOBE_FORMATTER", type := (.object "java/util/function/BiFunction"), accessFlags := 25, slot := 1, constantValue := 0 }, { name := "IOOBE_FORMATTER", type := (.object "java/util/function/BiFunction"), accessFlags := 25, slot := 2, constantValue := 0 }]
  methods := #[k12m0]
  instanceTypes := #[]
  staticTypes := #[(.object "java/util/function/BiFunction"), (.object "java/util/function/BiFunction"), (.object "java/util/function/BiFunction")]
  resolved := Array.replicate 194 none
  statics := some 1 }

def pool13 : Array CpInfo := pool [(9, u "<init>"), (6, .class_ 18), (1, u "java/lang/Object"), (0, u "()V"), (1, .class_ 23), (1, u "jdk/internal/util/ArraysSupport"), (0, u "LOG2_ARRAY_LONG_INDEX_SCALE"), (0, u "I"), (2, u "U"), (0, u "Ljdk/internal/misc/Unsafe;"), (8, u "BIG_ENDIAN"), (0, u "Z"), (8, u "LOG2_BYTE_BIT_SIZE"), (4, u "LOG2_ARRAY_INT_INDEX_SCALE"), (54, u "JLA"), (0, u "Ljdk/internal/access/JavaLangAccess;"), (11, u "LOG2_ARRAY_BOOLEAN_INDEX_SCALE"), (9, u "LOG2_ARRAY_BYTE_INDEX_SCALE"), (5, u "LOG2_ARRAY_CHAR_INDEX_SCALE"), (5, u "LOG2_ARRAY_SHORT_INDEX_SCALE"), (18, u "LOG2_ARRAY_FLOAT_INDEX_SCALE"), (24, u "LOG2_ARRAY_DOUBLE_INDEX_SCALE"), (89, u "T_BOOLEAN"), (2, u "T_CHAR"), (1, u "T_FLOAT"), (1, u "T_DOUBLE"), (1, u "T_BYTE"), (1, u "T_SHORT"), (1, u "T_INT"), (1, u "T_LONG"), (1, u "SOFT_MAX_ARRAY_LENGTH")] 83

def k13m0 : Method := { name := "<init>", desc := "()V", sig := { parameters := [], returnType := none }, accessFlags := 2, code := none }
/-- jdk/internal/util/ArraysSupport -/
def k13 : Class := { plain "jdk/internal/util/ArraysSupport" (some 0) with
  accessFlags := 33
  interfaces := #[]
  cf := some (fileOf pool13 21 #[] #[{ accessFlags := 2, nameIndex := 9, descriptorIndex := 19, attributes := #[] }] 33 16 #[] #[{ accessFlags := 24, nameIndex := 28, descriptorIndex := 29, attributes := #[] }, { accessFlags := 26, nameIndex := 38, descriptorIndex := 39, attributes := #[] }, { accessFlags := 25, nameIndex := 121, descriptorIndex := 25, attributes := #[] }, { accessFlags := 25, nameIndex := 131, descriptorIndex := 25, attributes := #[] }, { accessFlags := 25, nameIndex := 137, descriptorIndex := 25, attributes := #[] }, { accessFlags := 25, nameIndex := 143, descriptorIndex := 25, attributes := #[] }, { accessFlags := 25, nameIndex := 53, descriptorIndex := 25, attributes := #[] }, { accessFlags := 25, nameIndex := 24, descriptorIndex := 25, attributes := #[] }, { accessFlags := 25, nameIndex := 162, descriptorIndex := 25, attributes := #[] }, { accessFlags := 25, nameIndex := 187, descriptorIndex := 25, attributes := #[] }, { accessFlags := 26, nameIndex := 48, descriptorIndex := 25, attributes := #[] }, { accessFlags := 25, nameIndex := 277, descriptorIndex := 25, attributes := #[] }, { accessFlags := 25, nameIndex := 280, descriptorIndex := 25, attributes := #[] }, { accessFlags := 25, nameIndex := 282, descriptorIndex := 25, attributes := #[] }, { accessFlags := 25, nameIndex := 284, descriptorIndex := 25, attributes := #[] }, { accessFlags := 25, nameIndex := 286, descriptorIndex := 25, attributes := #[] }, { accessFlags := 25, nameIndex := 288, descriptorIndex := 25, attributes := #[] }, { accessFlags := 25, nameIndex := 290, descriptorIndex := 25, attributes := #[] }, { accessFlags := 25, nameIndex := 292, descriptorIndex := 25, attributes := #[] }, { accessFlags := 26, nameIndex := 108, descriptorIndex := 109, attributes := #[] }, { accessFlags := 25, nameIndex := 294, descriptorIndex := 25, attributes := #[] }])
  fields := #[{ name := "U", type := (.object "jdk/internal/misc/Unsafe"), accessFlags := 24, slot := 0, constantValue := 0 }, { name := "BIG_ENDIAN", type := .boolean, accessFlags := 26, slot := 1, constantValue := 0 }, { name := "LOG2_ARRAY_BOOLEAN_INDEX_SCALE", type := .int, accessFlags := 25, slot := 2, constantValue := 0 }, { name := "LOG2_ARRAY_BYTE_INDEX_SCALE", type := .int, accessFlags := 25, slot := 3, constantValue := 0 }, { name := "LOG2_ARRAY_CHAR_INDEX_SCALE", type := .int, accessFlags := 25, slot := 4, constantValue := 0 }, { name := "LOG2_ARRAY_SHORT_INDEX_SCALE", type := .int, accessFlags := 25, slot := 5, constantValue := 0 }, { name := "LOG2_ARRAY_INT_INDEX_SCALE", type := .int, accessFlags := 25, slot := 6, constantValue := 0 }, { name := "LOG2_ARRAY_LONG_INDEX_SCALE", type := .int, accessFlags := 25, slot := 7, constantValue := 0 }, { name := "LOG2_ARRAY_FLOAT_INDEX_SCALE", type := .int, accessFlags := 25, slot := 8, constantValue := 0 }, { name := "LOG2_ARRAY_DOUBLE_INDEX_SCALE", type := .int, accessFlags := 25, slot := 9, constantValue := 0 }, { name := "LOG2_BYTE_BIT_SIZE", type := .int, accessFlags := 26, slot := 10, constantValue := 0 }, { name := "T_BOOLEAN", type := .int, accessFlags := 25, slot := 11, constantValue := 0 }, { name := "T_CHAR", type := .int, accessFlags := 25, slot := 12, constantValue := 0 }, { name := "T_FLOAT", type := .int, accessFlags := 25, slot := 13, constantValue := 0 }, { name := "T_DOUBLE", type := .int, accessFlags := 25, slot := 14, constantValue := 0 }, { name := "T_BYTE", type := .int, accessFlags := 25, slot := 15, constantValue := 0 }, { name := "T_SHORT", type := .int, accessFlags := 25, slot := 16, constantValue := 0 }, { name := "T_INT", type := .int, accessFlags := 25, slot := 17, constantValue := 0 }, { name := "T_LONG", type := .int, accessFlags := 25, slot := 18, constantValue := 0 }, { name := "JLA", type := (.object "jdk/internal/access/JavaLangAccess"), accessFlags := 26, slot := 19, constantValue := 0 }, { name := "SOFT_MAX_ARRAY_LENGTH", type := .int, accessFlags := 25, slot := 20, constantValue := 0 }]
  methods := #[k13m0]
  instanceTypes := #[]
  staticTypes := #[(.object "jdk/internal/misc/Unsafe"), .boolean, .int, .int, .int, .int, .int, .int, .int, .int, .int, .int, .int, .int, .int, .int, .int, .int, .int, (.object "jdk/internal/access/JavaLangAccess"), .int]
  resolved := Array.replicate 378 none
  statics := none }

def pool14 : Array CpInfo := pool [(1, u "java/lang/Cloneable"), (0, .class_ 1), (0, u "java/lang/Object"), (0, .class_ 3)] 3

/-- java/lang/Cloneable -/
def k14 : Class := { plain "java/lang/Cloneable" (some 0) with
  accessFlags := 1537
  interfaces := #[]
  cf := some (fileOf pool14 2 #[] #[] 1537 4 #[] #[])
  fields := #[]
  methods := #[]
  instanceTypes := #[]
  staticTypes := #[]
  resolved := Array.replicate 8 none
  statics := none }

/-- the primitive byte -/
def k15 : Class := { plain "byte" none with kind := .primitive 'B', accessFlags := 0x411 }
/-- [B -/
def k16 : Class := { plain "[B" (some 0) with kind := .array 15 .byte, interfaces := #[14, 2], accessFlags := 1041 }

/-- the primitive char -/
def k17 : Class := { plain "char" none with kind := .primitive 'C', accessFlags := 0x411 }
/-- [C -/
def k18 : Class := { plain "[C" (some 0) with kind := .array 17 .char, interfaces := #[14, 2], accessFlags := 1041 }

/-- the primitive int -/
def k19 : Class := { plain "int" none with kind := .primitive 'I', accessFlags := 0x411 }
/-- [I -/
def k20 : Class := { plain "[I" (some 0) with kind := .array 19 .int, interfaces := #[14, 2], accessFlags := 1041 }

def heap : Heap := #[{ cls := 7, slots := #[.long 0, .int 1, .null, .int 0, .null, .int 0, .int 0], vm := .statics 7 },
  { cls := 12, slots := #[.null, .null, .null], vm := .statics 12 }]
def classes : Array Class := #[k0, k1, k2, k3, k4, k5, k6, k7, k8, k9, k10, k11, k12, k13, k14, k15, k16, k17, k18, k19, k20]
def interned : List (Array UInt16 × Addr) := []
def slotsUsed : Nat := 10
def theMethod : MethodId := ⟨1, 2⟩
def args0 : Array Value := #[.int 5, .int 5, .long 5, .long 5, .int 5]
def aboutOver (below : List Frame) : State where
  vm := { classes := classes, interned := interned.toArray }
  heap := heap
  slotsUsed := slotsUsed
  threads := #[{ frames := .invoking theMethod args0 :: below }]
def below0 : List Frame := [.native { method := ⟨0, 0⟩, args := #[] }]
def about1 : State := aboutOver below0
def p0 : Program := .bare "" "" ""
def e0 : Env := launch0.env 0 0 0
theorem w_frames : about1.frames = Frame.invoking theMethod args0 :: below0 := rfl
set_option maxRecDepth 65536 in
theorem w_args : argsFit about1.vm theMethod args0 = true := by decide +kernel
set_option maxRecDepth 65536 in
theorem w_heap : heapFits about1 = true := by decide +kernel
set_option maxRecDepth 65536 in
theorem w_runnable : about1.curStatus? = some .runnable := by decide +kernel
set_option maxRecDepth 65536 in
theorem w_alone : about1.alone = true := by decide +kernel
set_option maxRecDepth 65536 in
theorem w_named : about1.methodNamed? x = some theMethod := by decide +kernel
set_option maxRecDepth 65536 in
theorem w_hears : about1.hears theMethod below0 = true := by decide +kernel
set_option maxRecDepth 65536 in
theorem w_ripe : about1.ripe theMethod args0 below0 = true := by decide +kernel
theorem w_running : about1.status = .running := rfl
set_option maxRecDepth 65536 in
theorem w_room : about1.hasRoom e0.platform room_1 = true :=
  launch0.hasRoom_least _ room_1 (by decide +kernel) (by decide +kernel) (by decide +kernel) (by decide +kernel) (by decide +kernel) (by decide +kernel)
theorem allAtoms_all (ts : List Jvm.Cond) (a : Array Jvm.Value) (st : Jvm.State) : (allAtoms ts).before a st = ts.all (fun c => c.before a st) := by
  induction ts with
  | nil => rfl
  | cons c t ih =>
    show (Jvm.Cond.and c (allAtoms t)).before a st = _
    rw [Jvm.Cond.before_and, ih, List.all_cons]
def words1 : List Jvm.Cond := Jvm.Cond.code x code maxLocals ret :: tables_1
/-- a 'code' word, met by the world's own term for the bytes: nothing is compared byte by byte -/
theorem code_word {y : MethodName} {bytes : ByteArray} {mx : Nat} {rt : Option FieldType} {a : Array Value} {s : State} {m : MethodId} {meth : Method} {c : Code} (h1 : s.methodNamed? y = some m) (h2 : s.vm.method? m = some meth) (h3 : meth.code = some c) (h4 : c.code = bytes)
    (h5 : (c.maxLocals == mx && c.exceptionTable.isEmpty && decide (c.maxStack ≤ mostOperands) && decide (meth.sig.returnType = rt) && !meth.locks && decide (parseMethodDescriptor y.desc = some meth.sig)) = true) : (Jvm.Cond.code y bytes mx rt).before a s = true := by
  simp only [Bool.and_eq_true, beq_iff_eq, Bool.not_eq_true', decide_eq_true_eq] at h5
  obtain ⟨⟨⟨⟨⟨g1, g2⟩, g3⟩, g4⟩, g5⟩, g6⟩ := h5
  simp [Cond.before, Cond.holds, Cond.value, h1, h2, h3, h4, g1, g2, g3, g4, g5, g6]
def isCode : Jvm.Cond → Bool
  | .code _ _ _ _ => true
  | _ => false
theorem all_split {L : List Jvm.Cond} {P : Jvm.Cond → Bool} (h1 : L.all (fun c => isCode c || P c) = true) (h2 : ∀ c ∈ L.filter isCode, P c = true) : L.all P = true := by
  refine List.all_eq_true.mpr fun c hc => ?_
  have h := List.all_eq_true.mp h1 c hc
  rcases Bool.eq_false_or_eq_true (isCode c) with hi | hi
  · exact h2 c (List.mem_filter.mpr ⟨hc, hi⟩)
  · simpa [hi] using h
set_option maxRecDepth 65536 in
theorem w_c0 : (Jvm.Cond.code x code maxLocals ret).before args0 about1 = true := code_word (m := ⟨1, 2⟩) (meth := k1m2) (c := k1c2) (by decide +kernel) rfl rfl rfl (by decide +kernel)
set_option maxRecDepth 65536 in
theorem w_c1 : (Jvm.Cond.code ({ cls := "com/example/coyote_hill/coyotehill/LeaseRequestEqualsPinLaw", name := "mk", desc := "(ICCC)Ljava/lang/String;" } : Jvm.MethodName) method_2_code (4 : Nat) (Option.some (Jvm.ClassFile.FieldType.object "java/lang/String"))).before args0 about1 = true := code_word (m := ⟨1, 1⟩) (meth := k1m1) (c := k1c1) (by decide +kernel) rfl rfl rfl (by decide +kernel)
set_option maxRecDepth 65536 in
theorem w_c2 : (Jvm.Cond.code ({ cls := "java/lang/String", name := "<init>", desc := "([C)V" } : Jvm.MethodName) jdk_42_method_3_code (2 : Nat) (Option.none : Option Jvm.ClassFile.FieldType)).before args0 about1 = true := code_word (m := ⟨7, 1⟩) (meth := k7m1) (c := k7c1) (by decide +kernel) rfl rfl rfl (by decide +kernel)
set_option maxRecDepth 65536 in
theorem w_c3 : (Jvm.Cond.code ({ cls := "java/lang/String", name := "<init>", desc := "([CIILjava/lang/Void;)V" } : Jvm.MethodName) jdk_42_method_149_code (6 : Nat) (Option.none : Option Jvm.ClassFile.FieldType)).before args0 about1 = true := code_word (m := ⟨7, 3⟩) (meth := k7m3) (c := k7c3) (by decide +kernel) rfl rfl rfl (by decide +kernel)
set_option maxRecDepth 65536 in
theorem w_c4 : (Jvm.Cond.code ({ cls := "java/lang/Object", name := "<init>", desc := "()V" } : Jvm.MethodName) object_method_1_code (1 : Nat) (Option.none : Option Jvm.ClassFile.FieldType)).before args0 about1 = true := code_word (m := ⟨0, 0⟩) (meth := k0m0) (c := k0c0) (by decide +kernel) rfl rfl rfl (by decide +kernel)
set_option maxRecDepth 65536 in
theorem w_c5 : (Jvm.Cond.code ({ cls := "com/example/coyote_hill/coyotehill/LeaseRequest", name := "<init>", desc := "(Ljava/lang/String;II)V" } : Jvm.MethodName) prog_9_method_1_code (4 : Nat) (Option.none : Option Jvm.ClassFile.FieldType)).before args0 about1 = true := code_word (m := ⟨8, 0⟩) (meth := k8m0) (c := k8c0) (by decide +kernel) rfl rfl rfl (by decide +kernel)
set_option maxRecDepth 65536 in
theorem w_c6 : (Jvm.Cond.code ({ cls := "java/util/Objects", name := "requireNonNull", desc := "(Ljava/lang/Object;Ljava/lang/String;)Ljava/lang/Object;" } : Jvm.MethodName) jdk_31_method_11_code (2 : Nat) (Option.some (Jvm.ClassFile.FieldType.object "java/lang/Object"))).before args0 about1 = true := code_word (m := ⟨9, 1⟩) (meth := k9m1) (c := k9c1) (by decide +kernel) rfl rfl rfl (by decide +kernel)
set_option maxRecDepth 65536 in
theorem w_c7 : (Jvm.Cond.code ({ cls := "com/example/coyote_hill/coyotehill/LeaseRequest", name := "equals", desc := "(Ljava/lang/Object;)Z" } : Jvm.MethodName) prog_9_method_5_code (3 : Nat) (Option.some Jvm.ClassFile.FieldType.boolean)).before args0 about1 = true := code_word (m := ⟨8, 1⟩) (meth := k8m1) (c := k8c1) (by decide +kernel) rfl rfl rfl (by decide +kernel)
set_option maxRecDepth 65536 in
theorem w_c8 : (Jvm.Cond.code ({ cls := "java/lang/String", name := "equals", desc := "(Ljava/lang/Object;)Z" } : Jvm.MethodName) jdk_42_method_66_code (3 : Nat) (Option.some Jvm.ClassFile.FieldType.boolean)).before args0 about1 = true := code_word (m := ⟨7, 2⟩) (meth := k7m2) (c := k7c2) (by decide +kernel) rfl rfl rfl (by decide +kernel)
set_option maxRecDepth 65536 in
theorem w_c9 : (Jvm.Cond.code ({ cls := "java/lang/StringLatin1", name := "equals", desc := "([B[B)Z" } : Jvm.MethodName) jdk_43_method_13_code (3 : Nat) (Option.some Jvm.ClassFile.FieldType.boolean)).before args0 about1 = true := code_word (m := ⟨10, 1⟩) (meth := k10m1) (c := k10c1) (by decide +kernel) rfl rfl rfl (by decide +kernel)
set_option maxRecDepth 65536 in
theorem w_c10 : (Jvm.Cond.code ({ cls := "java/lang/StringUTF16", name := "compress", desc := "([CII)[B" } : Jvm.MethodName) jdk_52_method_16_code (6 : Nat) (Option.some (Jvm.ClassFile.FieldType.array Jvm.ClassFile.FieldType.byte))).before args0 about1 = true := code_word (m := ⟨11, 2⟩) (meth := k11m2) (c := k11c2) (by decide +kernel) rfl rfl rfl (by decide +kernel)
set_option maxRecDepth 65536 in
theorem w_c11 : (Jvm.Cond.code ({ cls := "java/lang/StringUTF16", name := "compress", desc := "([CI[BII)I" } : Jvm.MethodName) jdk_52_method_21_code (7 : Nat) (Option.some Jvm.ClassFile.FieldType.int)).before args0 about1 = true := code_word (m := ⟨11, 3⟩) (meth := k11m3) (c := k11c3) (by decide +kernel) rfl rfl rfl (by decide +kernel)
set_option maxRecDepth 65536 in
theorem w_c12 : (Jvm.Cond.code ({ cls := "java/lang/StringUTF16", name := "coderFromArrayLen", desc := "([BI)B" } : Jvm.MethodName) jdk_52_method_15_code (2 : Nat) (Option.some Jvm.ClassFile.FieldType.byte)).before args0 about1 = true := code_word (m := ⟨11, 1⟩) (meth := k11m1) (c := k11c1) (by decide +kernel) rfl rfl rfl (by decide +kernel)
def codes1 : List Jvm.Cond := [Jvm.Cond.code x code maxLocals ret, Jvm.Cond.code ({ cls := "com/example/coyote_hill/coyotehill/LeaseRequestEqualsPinLaw", name := "mk", desc := "(ICCC)Ljava/lang/String;" } : Jvm.MethodName) method_2_code (4 : Nat) (Option.some (Jvm.ClassFile.FieldType.object "java/lang/String")), Jvm.Cond.code ({ cls := "java/lang/String", name := "<init>", desc := "([C)V" } : Jvm.MethodName) jdk_42_method_3_code (2 : Nat) (Option.none : Option Jvm.ClassFile.FieldType), Jvm.Cond.code ({ cls := "java/lang/String", name := "<init>", desc := "([CIILjava/lang/Void;)V" } : Jvm.MethodName) jdk_42_method_149_code (6 : Nat) (Option.none : Option Jvm.ClassFile.FieldType), Jvm.Cond.code ({ cls := "java/lang/Object", name := "<init>", desc := "()V" } : Jvm.MethodName) object_method_1_code (1 : Nat) (Option.none : Option Jvm.ClassFile.FieldType), Jvm.Cond.code ({ cls := "com/example/coyote_hill/coyotehill/LeaseRequest", name := "<init>", desc := "(Ljava/lang/String;II)V" } : Jvm.MethodName) prog_9_method_1_code (4 : Nat) (Option.none : Option Jvm.ClassFile.FieldType), Jvm.Cond.code ({ cls := "java/util/Objects", name := "requireNonNull", desc := "(Ljava/lang/Object;Ljava/lang/String;)Ljava/lang/Object;" } : Jvm.MethodName) jdk_31_method_11_code (2 : Nat) (Option.some (Jvm.ClassFile.FieldType.object "java/lang/Object")), Jvm.Cond.code ({ cls := "com/example/coyote_hill/coyotehill/LeaseRequest", name := "equals", desc := "(Ljava/lang/Object;)Z" } : Jvm.MethodName) prog_9_method_5_code (3 : Nat) (Option.some Jvm.ClassFile.FieldType.boolean), Jvm.Cond.code ({ cls := "java/lang/String", name := "equals", desc := "(Ljava/lang/Object;)Z" } : Jvm.MethodName) jdk_42_method_66_code (3 : Nat) (Option.some Jvm.ClassFile.FieldType.boolean), Jvm.Cond.code ({ cls := "java/lang/StringLatin1", name := "equals", desc := "([B[B)Z" } : Jvm.MethodName) jdk_43_method_13_code (3 : Nat) (Option.some Jvm.ClassFile.FieldType.boolean), Jvm.Cond.code ({ cls := "java/lang/StringUTF16", name := "compress", desc := "([CII)[B" } : Jvm.MethodName) jdk_52_method_16_code (6 : Nat) (Option.some (Jvm.ClassFile.FieldType.array Jvm.ClassFile.FieldType.byte)), Jvm.Cond.code ({ cls := "java/lang/StringUTF16", name := "compress", desc := "([CI[BII)I" } : Jvm.MethodName) jdk_52_method_21_code (7 : Nat) (Option.some Jvm.ClassFile.FieldType.int), Jvm.Cond.code ({ cls := "java/lang/StringUTF16", name := "coderFromArrayLen", desc := "([BI)B" } : Jvm.MethodName) jdk_52_method_15_code (2 : Nat) (Option.some Jvm.ClassFile.FieldType.byte)]
set_option maxRecDepth 65536 in
theorem codes_eq : words1.filter isCode = codes1 := rfl
theorem w_codes : ∀ c ∈ words1.filter isCode, c.before args0 about1 = true := by
  rw [codes_eq]
  intro c hc
  simp only [codes1, List.mem_cons, List.not_mem_nil, or_false] at hc
  rcases hc with rfl | rfl | rfl | rfl | rfl | rfl | rfl | rfl | rfl | rfl | rfl | rfl | rfl
  · exact w_c0
  · exact w_c1
  · exact w_c2
  · exact w_c3
  · exact w_c4
  · exact w_c5
  · exact w_c6
  · exact w_c7
  · exact w_c8
  · exact w_c9
  · exact w_c10
  · exact w_c11
  · exact w_c12
set_option maxRecDepth 65536 in
theorem w_t1 : (words1.take 24).all (fun c => isCode c || c.before args0 about1) = true := by decide +kernel
set_option maxRecDepth 65536 in
theorem w_t2 : ((words1.drop 24).take 24).all (fun c => isCode c || c.before args0 about1) = true := by decide +kernel
set_option maxRecDepth 65536 in
theorem w_t3 : (((words1.drop 24).drop 24).take 24).all (fun c => isCode c || c.before args0 about1) = true := by decide +kernel
set_option maxRecDepth 65536 in
theorem w_t4 : (((words1.drop 24).drop 24).drop 24).all (fun c => isCode c || c.before args0 about1) = true := by decide +kernel
theorem w_tables : (allAtoms (Jvm.Cond.code x code maxLocals ret :: tables_1)).before args0 about1 = true := by
  rw [allAtoms_all]
  show words1.all (fun c => c.before args0 about1) = true
  refine all_split ?_ w_codes
  rw [← List.take_append_drop 24 words1, List.all_append, w_t1, ← List.take_append_drop 24 (words1.drop 24), List.all_append, w_t2, ← List.take_append_drop 24 ((words1.drop 24).drop 24), List.all_append, w_t3, w_t4]
  rfl
set_option maxRecDepth 65536 in
theorem w_rest : rest_1_c.before args0 about1 = true := by decide +kernel
set_option maxRecDepth 65536 in
theorem w_case : (Jvm.Cond.and given_1 narrow_1).before args0 about1 = true := by decide +kernel
set_option maxRecDepth 65536 in
theorem w_consts : constsHeld consts_1 about1 := Jvm.Lit.constsHeldB_iff.mp (by decide +kernel)
theorem w_applies : (headSpec (Jvm.Cond.code x code maxLocals ret :: tables_1) room_1).applies x e0.platform about1 = true :=
  (Spec.applies_iff w_frames).mpr ⟨w_running, w_runnable, w_alone, w_named, w_hears, w_ripe, w_room, w_tables⟩
theorem atStart : AtStart classFile x code maxLocals ret World_1 tables_1 room_1 Calls_1 rest_1 Pre_1 launch0 p0 e0 about1 theMethod args0 below0 :=
  ⟨lists_1, trivial, launch0.admits_env _ _ _, launch0.least_env, fairChoices_fair.cas, fairChoices_fair.clock, w_frames, w_args, w_heap, w_applies, ⟨w_consts, trivial⟩, w_rest, w_case⟩
end start1
theorem witness_1 : WitnessClaimed_1 := ⟨start1.p0, start1.e0, start1.about1, start1.theMethod, start1.args0, start1.below0, start1.atStart⟩
end Jvm.Pilot.@@N@@
