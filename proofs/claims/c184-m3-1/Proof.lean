import JvmDerived
import JvmDerived.Pilot.@@N@@Statement
import JvmDerived.Pilot.@@N@@Code
set_option linter.unusedVariables false
set_option linter.unusedSimpArgs false
namespace Jvm.RoadKit
open Sem ClassFile Op Lib Jvm.Stand Jvm.Free Jvm.LawKit
section New
variable {p : Program} {l : Launch} {e : Env} {R : Room} {s : State} {m : MethodId} {args : Array Value} {below : List Frame} {meth : Method} {c : Code} {T : State} {locs : List Loc} {cells slots : Nat}
theorem retI (X : Stand p l e R s m args below meth c T locs cells slots) (hx : p.tables.exec = Jvm.exec) {pc : Nat} {Ls : Array Slot} {z : Int32} {rest : List Value} (hret : meth.sig.returnType = some .int) (hd : decode c.code pc = .ok (.ireturn, 1)) {fs : List Frame}
    (hl : ∀ (f : JFrame) (acts : List Action), f.method = m → f.locked = none → f.entered = [] → (doReturn e (T.setTop f) acts (some (.int z))).1 = T.setFrames fs) : Steps p.tables e below (T.setTop (mkF m pc Ls (.int z :: rest))) (T.setFrames fs) := by
  have hm' : T.vm.method? m = some meth := X.method'
  have hn : narrow .int (.int z) = .int z := rfl
  show Steps p.tables e below (T.setTop { method := m, pc := pc, locals := Ls, stack := _ :: rest, locked := none }) _
  jvm_step X.here [X.here.top, hx, hd, hm', hret, hn]
  first | (intro acts; rw [hl _ acts rfl rfl rfl]) | rw [hl _ _ rfl rfl rfl]
  exact Steps.refl _
theorem seg (X : Stand p l e R s m args below meth c T locs cells slots) (P : State → Prop) (h : ∃ T', Stand p l e R s m args below meth c T' locs cells slots ∧ P T') : ∃ T', Stand p l e R s m args below meth c T' locs cells slots ∧ P T' := h
/-- int to char -/
def i2c (x : Int32) : Int32 := x.toUInt32.toUInt16.toUInt32.toInt32
/-- int to byte -/
def own_lo (x : Int32) : Int32 := x.toInt8.toInt32
/-- the unsigned shift of an int -/
def ushr (x y : Int32) : Int32 := (x.toUInt32 >>> (y &&& 31).toUInt32).toInt32
/-- the unsigned shift of a long -/
def ushrJ (x : Int64) (y : Int32) : Int64 := (x.toUInt64 >>> (y &&& 0x3f).toInt64.toUInt64).toInt64
end New
end Jvm.RoadKit
namespace Jvm.Pilot.@@N@@
open Jvm Jvm.ClassFile Sem Op Lib Jvm.Free Jvm.Stand Jvm.LawKit Jvm.RoadKit Bundle Jvm.Pilot.@@N@@.Jvm.D
theorem own_neN {a b : Addr} (h : @Ne Nat a b) : ¬ (a = b) := h
theorem own_arvne {Z : State} {h : Heap} {a b : Addr} {k k' : ClassId} {ty ty' : FieldType} {z z' : Int32} {vs vs' : List Value} {d d' : Value} (F : Arv Z h a k ty z vs d) (G : Arv Z h b k' ty' z' vs' d') (hn : ty ≠ ty') : a ≠ b := fun q => by
  subst q
  obtain ⟨c1, ⟨e1, ⟨-, k1, hk1, comp1, h1⟩, -⟩, -⟩ := F
  obtain ⟨c2, ⟨e2, ⟨-, k2, hk2, comp2, h2⟩, -⟩, -⟩ := G
  cases e1.symm.trans e2
  cases hk1.symm.trans hk2
  have := h1.symm.trans h2
  injection this with _ e
  exact hn e
theorem own_narb {q : Prop} [Decidable q] : nar .boolean (if q then (1 : Int32) else (0 : Int32)) = (if q then (1 : Int32) else (0 : Int32)) := by split <;> rfl
theorem own_declares {Z : State} {a0 : Array Value} {y : MethodName} {bytes : ByteArray} {mx : Nat} {r : Option FieldType} (w1 : (Jvm.Cond.instanceMethod y).before a0 Z = true) (w2 : (Jvm.Cond.code y bytes mx r).before a0 Z = true) : (Jvm.Cond.declares y).before a0 Z = true := by
  obtain ⟨mk, meth, h1, h2, h3, -⟩ := Cond.instanceMethod_spec w1
  obtain ⟨meth', c, q1, -, -, -, -, -, -, q2⟩ := Cond.code_spec h1 w2
  cases h2.symm.trans q1
  simp [Cond.before, Cond.holds, Cond.value, h1, h2, h3, q2]
/-- the class of a method that an object selects is no interface -/
theorem own_nf {Z : State} {a0 : Array Value} {y z : MethodName} {C : String} (hz : z.cls = y.cls) (w : (Jvm.Cond.selects C z z).before a0 Z = true) : ∀ r, Z.methodNamed? y = some r → ∃ k, Z.vm.classes[r.cls]? = some k ∧ k.isInterface = false := fun r hr => by
  obtain ⟨c, r2, m2, -, -, q3, -, kP, hkP, hkPi⟩ := Cond.selects_spec w
  have h1 := findClass_of_methodNamed q3
  have h2 := findClass_of_methodNamed hr
  rw [hz, h2] at h1
  rw [Option.some.inj h1]
  exact ⟨kP, hkP, hkPi⟩
/-- a method that its class declares itself is the one that the look-up finds -/
theorem own_same {Z : State} {a0 : Array Value} {y : MethodName} (w1 : (Jvm.Cond.instanceMethod y).before a0 Z = true) (w2 : ∀ r, Z.methodNamed? y = some r → ∃ k, Z.vm.classes[r.cls]? = some k ∧ k.isInterface = false) (hy : y.cls ≠ "java/lang/invoke/MethodHandle" ∧ y.cls ≠ "java/lang/invoke/VarHandle") : (Jvm.Cond.sameMethod y.cls y.cls y.name y.desc).before a0 Z = true := by
  obtain ⟨mk, meth, h1, -⟩ := Cond.instanceMethod_spec w1
  have hc := findClass_of_methodNamed h1
  obtain ⟨k, hk, hi⟩ := w2 mk h1
  have hf := State.methodFound?_of_named h1 hy
  have hk' : Z.vm.classes[mk.cls]? = some k := hk
  simp [Cond.before, Cond.holds, Cond.value, hc, hf, h1, hk', hi]
theorem own_ti {n : Nat} (h : n ≤ 8000) : (Int32.ofNat n).toInt = n := Int32.toInt_ofNat_of_lt (by omega)
theorem own_tn {n : Nat} (h : n ≤ 8000) : (Int32.ofNat n).toNatClampNeg = n := by
  rw [Int32.toNatClampNeg, own_ti h]; omega
theorem own_lt {i n : Nat} (h : i < n) (hn : n ≤ 8000) : (Int32.ofNat i) < (Int32.ofNat n) := by
  rw [Int32.lt_iff_toInt_lt, own_ti (by omega), own_ti hn]; omega
theorem own_nlt {i n : Nat} (h : n ≤ i) (hn : i ≤ 8000) : ¬ ((Int32.ofNat i) < (Int32.ofNat n)) := by
  rw [Int32.lt_iff_toInt_lt, own_ti hn, own_ti (by omega : n ≤ 8000)]; omega
theorem own_nn {n : Nat} (h : n ≤ 8000) : ¬ ((Int32.ofNat n) < (0 : Int32)) := by
  rw [Int32.lt_iff_toInt_lt, own_ti h]
  show ¬ ((n : Int) < 0)
  omega
theorem own_inj {i n : Nat} (h : i ≤ 8000) (hn : n ≤ 8000) (e : Int32.ofNat i = Int32.ofNat n) : i = n := by
  have := congrArg Int32.toInt e
  rw [own_ti h, own_ti hn] at this; omega
theorem own_up (k : Nat) : Int32.ofNat (k + 1) = Int32.ofNat k + (1 : Int32) := Int32.ofNat_add k 1
theorem own_in {i n : Nat} (h : i < n) (hn : n ≤ 8000) : ¬ (Int32.ofNat i) < 0 ∧ (Int32.ofNat i) < (Int32.ofNat n) := ⟨own_nn (by omega), own_lt h hn⟩
theorem own_eqI {z w : Int32} (h : z.toInt = w.toInt) : z = w := Int32.toInt_inj.mp h
theorem own_shl1 {n : Nat} (h : n ≤ 4000) : (Int32.ofNat n) <<< ((1 : Int32) &&& 31) = Int32.ofNat (2 * n) := by
  apply own_eqI
  have h1 := c_ishl (Int32.ofNat n) 1 1 (by decide)
  rw [own_ti (by omega)] at h1
  rw [own_ti (by omega : 2 * n ≤ 8000)]
  have := rng32 ((Int32.ofNat n) <<< ((1 : Int32) &&& 31))
  omega
theorem own_shr1 {n : Nat} (h : n ≤ 4000) : (Int32.ofNat (2 * n)) >>> ((1 : Int32) &&& 31) = Int32.ofNat n := by
  apply own_eqI
  rw [c_ishr (Int32.ofNat (2 * n)) 1 1 (by decide), own_ti (by omega : 2 * n ≤ 8000), own_ti (by omega)]
  omega
theorem own_shr0 (z : Int32) : z >>> ((0 : Int32) &&& 31) = z := by
  apply own_eqI
  rw [c_ishr z 0 0 (by decide)]; simp
def own_mix {α : Type} (ys vs : List α) (j : Nat) : List α := ys.take j ++ vs.drop j
theorem own_mix0 {α : Type} (ys vs : List α) : own_mix ys vs 0 = vs := by simp [own_mix]
theorem own_mixn {α : Type} (ys vs : List α) (n : Nat) (h : ys.length = n) (h2 : vs.length = n) : own_mix ys vs n = ys := by
  simp [own_mix, ← h, ← h2]
  omega
theorem own_mixl {α : Type} (ys vs : List α) (j : Nat) (h : ys.length = vs.length) : (own_mix ys vs j).length = vs.length := by simp [own_mix]; omega
theorem own_mixs {α : Type} (ys vs : List α) (d : α) (j : Nat) (h : ys.length = vs.length) (hj : j < vs.length) : (own_mix ys vs j).set j (ys.getD j d) = own_mix ys vs (j + 1) := by
  have hj' : j < ys.length := by omega
  apply List.ext_getElem?
  intro i
  simp only [own_mix, List.getElem?_set, List.length_append, List.length_take, List.length_drop, List.getElem?_append, List.getElem?_take, List.getElem?_drop, List.getD_eq_getElem?_getD, List.getElem?_eq_getElem hj', Option.getD_some]
  by_cases h1 : j = i
  · subst h1
    rw [if_pos rfl, if_pos (by omega), if_pos (by omega), if_pos (by omega), List.getElem?_eq_getElem hj']
  · rw [if_neg h1]
    by_cases h2 : i < j
    · rw [if_pos (by omega), if_pos (by omega), if_pos (by omega), if_pos (by omega)]
    · rw [if_neg (by omega), if_neg (by omega)]
      congr 1
      omega
/-- every char lies below 256 -/
abbrev own_lat (cs : List Int32) : Prop := ∀ c ∈ cs, ¬ ((255 : Int32) < c)
/-- every one is a char -/
abbrev own_chs (cs : List Int32) : Prop := ∀ c ∈ cs, ¬ (c < (0 : Int32)) ∧ ¬ ((65535 : Int32) < c)
def own_low (cs : List Int32) : List Value := cs.map fun c => .int (own_lo c)
def own_wide : List Int32 → List Value
  | [] => []
  | c :: r => .int (own_lo (c >>> ((0 : Int32) &&& 31))) :: .int (own_lo (c >>> ((8 : Int32) &&& 31))) :: own_wide r
def own_cod (cs : List Int32) : Int32 := if own_lat cs then 0 else 1
def own_enc (cs : List Int32) : List Value := if own_lat cs then own_low cs else own_wide cs
def own_enl (cs : List Int32) : Nat := if own_lat cs then cs.length else 2 * cs.length
theorem own_lowl (cs : List Int32) : (own_low cs).length = cs.length := by simp [own_low]
theorem own_widel : ∀ cs : List Int32, (own_wide cs).length = 2 * cs.length
  | [] => rfl
  | c :: r => by simp only [own_wide, List.length_cons, own_widel r]; omega
theorem own_getc (cs : List Int32) (j : Nat) (d : Value) (hj : j < cs.length) (hb : cs.length ≤ 8000) : (cs.map Value.int).getD (Int32.ofNat j).toNatClampNeg d = .int (cs.getD j 0) := by
  rw [own_tn (by omega)]
  simp [List.getD_eq_getElem?_getD, List.getElem?_map, List.getElem?_eq_getElem hj]
theorem own_getl (cs : List Int32) (j : Nat) (d : Value) (hj : j < cs.length) (hb : cs.length ≤ 8000) : (own_low cs).getD (Int32.ofNat j).toNatClampNeg d = .int (own_lo (cs.getD j 0)) := by
  rw [own_tn (by omega)]
  simp [own_low, List.getD_eq_getElem?_getD, List.getElem?_map, List.getElem?_eq_getElem hj]
theorem own_mem (cs : List Int32) (j : Nat) (hj : j < cs.length) : cs.getD j 0 ∈ cs := by
  simp [List.getD_eq_getElem?_getD, List.getElem?_eq_getElem hj]
theorem own_lolo (c : Int32) : nar .byte (own_lo c) = own_lo c := by
  show (own_lo c).toInt8.toInt32 = own_lo c
  simp [own_lo]
theorem own_mixc (cs : List Int32) (vs : List Value) (j : Nat) (h : cs.length = vs.length) (hj : j < vs.length) : (own_mix (own_low cs) vs j).set j (.int (nar .byte (own_lo (cs.getD j 0)))) = own_mix (own_low cs) vs (j + 1) := by
  have e : Value.int (own_lo (cs.getD j 0)) = (own_low cs).getD j (.int 0) := by
    simp [own_low, List.getD_eq_getElem?_getD, List.getElem?_map, List.getElem?_eq_getElem (by omega : j < cs.length)]
  rw [own_lolo, e]
  exact own_mixs _ _ _ _ (by rw [own_lowl]; exact h) hj
theorem own_wide0 (d : Value) : ∀ (cs : List Int32) (j : Nat), j < cs.length → (own_wide cs).getD (2 * j) d = .int (own_lo ((cs.getD j 0) >>> ((0 : Int32) &&& 31)))
  | [], _, h => nomatch h
  | c :: r, 0, _ => rfl
  | c :: r, j + 1, h => by
    have := own_wide0 d r j (by simpa using h)
    show (own_wide (c :: r)).getD (2 * j + 2) d = _
    simpa [own_wide] using this
theorem own_wide1 (d : Value) : ∀ (cs : List Int32) (j : Nat), j < cs.length → (own_wide cs).getD (2 * j + 1) d = .int (own_lo ((cs.getD j 0) >>> ((8 : Int32) &&& 31)))
  | [], _, h => nomatch h
  | c :: r, 0, _ => rfl
  | c :: r, j + 1, h => by
    have := own_wide1 d r j (by simpa using h)
    show (own_wide (c :: r)).getD (2 * j + 1 + 2) d = _
    simpa [own_wide] using this
theorem own_mixw (cs : List Int32) (vs : List Value) (j : Nat) (h : 2 * cs.length = vs.length) (hj : j < cs.length) :
    ((own_mix (own_wide cs) vs (2 * j)).set (2 * j) (.int (own_lo ((cs.getD j 0) >>> ((0 : Int32) &&& 31))))).set (2 * j + 1) (.int (own_lo ((cs.getD j 0) >>> ((8 : Int32) &&& 31)))) = own_mix (own_wide cs) vs (2 * (j + 1)) := by
  have hl : (own_wide cs).length = vs.length := by rw [own_widel]; exact h
  rw [← own_wide0 (.int 0) cs j hj, own_mixs _ _ _ _ hl (by omega), ← own_wide1 (.int 0) cs j hj, own_mixs _ _ _ _ hl (by omega)]
  rfl
/-- two bytes make the char again -/
theorem own_pair {c : Int32} (h0 : ¬ (c < (0 : Int32))) (h1 : ¬ ((65535 : Int32) < c)) :
    i2c (((own_lo (c >>> ((0 : Int32) &&& 31)) &&& (255 : Int32)) <<< ((0 : Int32) &&& 31)) ||| ((own_lo (c >>> ((8 : Int32) &&& 31)) &&& (255 : Int32)) <<< ((8 : Int32) &&& 31))) = c := by
  have b0 : 0 ≤ c.toInt ∧ c.toInt ≤ 65535 := by
    rw [Int32.lt_iff_toInt_lt] at h0 h1
    have : (0 : Int32).toInt = 0 := rfl
    have : (65535 : Int32).toInt = 65535 := rfl
    omega
  rw [own_shr0]
  have e8 : (c >>> ((8 : Int32) &&& 31)).toInt = c.toInt / 256 := c_ishr c 8 8 (by decide)
  have a1 := c_i2b c
  have a2 := c_i2b (c >>> ((8 : Int32) &&& 31))
  have m1 : (own_lo c &&& (255 : Int32)).toInt = (own_lo c).toInt % 256 := c_mask (own_lo c) 255 8 (by decide) (by decide)
  have m2 : (own_lo (c >>> ((8 : Int32) &&& 31)) &&& (255 : Int32)).toInt = (own_lo (c >>> ((8 : Int32) &&& 31))).toInt % 256 := c_mask (own_lo (c >>> ((8 : Int32) &&& 31))) 255 8 (by decide) (by decide)
  change ((own_lo c).toInt - c.toInt) % 256 = 0 ∧ _ at a1
  change ((own_lo (c >>> ((8 : Int32) &&& 31))).toInt - (c >>> ((8 : Int32) &&& 31)).toInt) % 256 = 0 ∧ _ at a2
  generalize own_lo c = u at *
  generalize own_lo (c >>> ((8 : Int32) &&& 31)) = w at *
  have s1 : ((u &&& (255 : Int32)) <<< ((0 : Int32) &&& 31)) = (u &&& (255 : Int32)) := by
    apply own_eqI
    have := c_ishl (u &&& (255 : Int32)) 0 0 (by decide)
    have := rng32 ((u &&& (255 : Int32)) <<< ((0 : Int32) &&& 31))
    omega
  have s2 := c_ishl (w &&& (255 : Int32)) 8 8 (by decide)
  have r2 := rng32 ((w &&& (255 : Int32)) <<< ((8 : Int32) &&& 31))
  rw [s1]
  generalize (w &&& (255 : Int32)) <<< ((8 : Int32) &&& 31) = y at *
  generalize u &&& (255 : Int32) = z at *
  have o := c_or' z y 8 (by decide) 256 rfl (by omega) (by omega) (by omega)
  have i := c_i2c (z ||| y)
  have r3 := rng32 (z ||| y)
  apply own_eqI
  show ((z ||| y).toUInt32.toUInt16.toUInt32.toInt32).toInt = _
  omega
theorem own_lo_inj {c d : Int32} (h0 : ¬ (c < (0 : Int32))) (h1 : ¬ ((255 : Int32) < c)) (g0 : ¬ (d < (0 : Int32))) (g1 : ¬ ((255 : Int32) < d)) (e : own_lo c = own_lo d) : c = d := by
  apply own_eqI
  have a1 := c_i2b c
  have a2 := c_i2b d
  have e' : c.toInt8.toInt32.toInt = d.toInt8.toInt32.toInt := congrArg Int32.toInt e
  rw [Int32.lt_iff_toInt_lt] at h0 h1 g0 g1
  have : (0 : Int32).toInt = 0 := rfl
  have : (255 : Int32).toInt = 255 := rfl
  omega
theorem own_ltbig {n : Nat} (h : n ≤ 8000) : (Int32.ofNat n) < (1073741823 : Int32) := by
  rw [Int32.lt_iff_toInt_lt, own_ti h]
  show (n : Int) < 1073741823
  omega
theorem own_narc {c : Int32} (h0 : ¬ (c < (0 : Int32))) (h1 : ¬ ((65535 : Int32) < c)) : nar .char c = c := by
  apply own_eqI
  have i := c_i2c c
  show (c.toUInt32.toUInt16.toUInt32.toInt32).toInt = _
  rw [Int32.lt_iff_toInt_lt] at h0 h1
  have : (0 : Int32).toInt = 0 := rfl
  have : (65535 : Int32).toInt = 65535 := rfl
  omega
theorem own_first {cs : List Int32} (h : ¬ own_lat cs) : ∃ i, i < cs.length ∧ (255 : Int32) < (cs.getD i 0) ∧ ∀ j, j < i → ¬ ((255 : Int32) < cs.getD j 0) := by
  induction cs with
  | nil => exact absurd (fun c hc => nomatch hc) h
  | cons c r ih =>
    by_cases hc : (255 : Int32) < c
    · exact ⟨0, by simp, hc, fun j hj => absurd hj (Nat.not_lt_zero j)⟩
    · have : ¬ own_lat r := fun hr => h fun d hd => by
        rcases List.mem_cons.mp hd with rfl | hd
        · exact hc
        · exact hr d hd
      obtain ⟨i, h1, h2, h3⟩ := ih this
      refine ⟨i + 1, by simpa using h1, by simpa using h2, fun j hj => ?_⟩
      cases j with
      | zero => simpa using hc
      | succ j => simpa using h3 j (by omega)
theorem own_fixL {Z : State} {hh : Heap} {b : Addr} {kb : ClassId} {cs : List Int32} {n : Nat} {vs : List Value} {d : Value} (h : own_lat cs) (F : Arv Z hh b kb .byte (Int32.ofNat n) (own_mix (own_low cs) vs n) d) (hn : cs.length = n) (hv : vs.length = n) : Arv Z hh b kb .byte (Int32.ofNat (own_enl cs)) (own_enc cs) d := by
  rw [own_mixn _ _ n (by rw [own_lowl]; exact hn) hv] at F
  rw [own_enl, own_enc, if_pos h, if_pos h, hn]; exact F
theorem own_fixW {Z : State} {hh : Heap} {b : Addr} {kb : ClassId} {cs : List Int32} {n : Nat} {d : Value} (h : ¬ own_lat cs) (F : Arv Z hh b kb .byte (Int32.ofNat (2 * n)) (own_wide cs) d) (hn : cs.length = n) : Arv Z hh b kb .byte (Int32.ofNat (own_enl cs)) (own_enc cs) d := by
  rw [own_enl, own_enc, if_neg h, if_neg h, hn]; exact F
theorem own_ne0 {n : Nat} (h : 0 < n) (hb : n ≤ 8000) : ¬ ((Int32.ofNat n) = (0 : Int32)) := fun e => by
  have := own_inj (n := 0) hb (by omega) e
  omega
theorem own_codl {cs : List Int32} {n : Nat} (hn : cs.length = n) (hp : 0 < n) (hb : n ≤ 4000) : nar .byte (own_lo (ushr ((Int32.ofNat n) - (Int32.ofNat (own_enl cs))) (31 : Int32))) = own_cod cs := by
  rw [own_lolo, own_enl, own_cod]
  by_cases h : own_lat cs
  · rw [if_pos h, if_pos h, hn, Int32.sub_self]; rfl
  · rw [if_neg h, if_neg h, hn]
    have e : ushr ((Int32.ofNat n) - (Int32.ofNat (2 * n))) (31 : Int32) = 1 := by
      apply own_eqI
      have a := c_isub (Int32.ofNat n) (Int32.ofNat (2 * n))
      rw [own_ti (by omega), own_ti (by omega : 2 * n ≤ 8000)] at a
      have r := rng32 ((Int32.ofNat n) - (Int32.ofNat (2 * n)))
      have s := c_iushr ((Int32.ofNat n) - (Int32.ofNat (2 * n))) 31 31 (by decide) (by decide)
      show (((Int32.ofNat n) - (Int32.ofNat (2 * n))).toUInt32 >>> ((31 : Int32) &&& 31).toUInt32).toInt32.toInt = 1
      rw [s]
      omega
    rw [e]; rfl
theorem own_c01 (cs : List Int32) : own_cod cs = 0 ∨ own_cod cs = 1 := by
  unfold own_cod; split
  · exact Or.inl rfl
  · exact Or.inr rfl
theorem own_cnar (cs : List Int32) : narrow .byte (.int (own_cod cs)) = .int (own_cod cs) := by rcases own_c01 cs with h | h <;> rw [h] <;> rfl
theorem own_cnarb (cs : List Int32) : nar .byte (own_cod cs) = own_cod cs := by rcases own_c01 cs with h | h <;> rw [h] <;> rfl
theorem own_cfit (cs : List Int32) : fits .byte (.int (own_cod cs)) = true := by rcases own_c01 cs with h | h <;> rw [h] <;> rfl
theorem own_lenq (cs : List Int32) (hb : cs.length ≤ 4000) : (Int32.ofNat (own_enl cs)) >>> ((own_cod cs) &&& 31) = Int32.ofNat cs.length := by
  rw [own_enl, own_cod]
  by_cases h : own_lat cs
  · rw [if_pos h, if_pos h]; exact own_shr0 _
  · rw [if_neg h, if_neg h]; exact own_shr1 hb
/-- one more than the place of the first ch among k chars from j on; 0: none -/
def own_ix (cs : List Int32) (ch : Int32) : Nat → Nat → Nat
  | _, 0 => 0
  | j, k + 1 => if cs.getD j 0 = ch then j + 1 else own_ix cs ch (j + 1) k
theorem own_ixle (cs : List Int32) (ch : Int32) : ∀ (k j : Nat), own_ix cs ch j k ≤ j + k
  | 0, j => by simp [own_ix]
  | k + 1, j => by
    unfold own_ix; split
    · omega
    · have := own_ixle cs ch k (j + 1); omega
theorem own_ix0 (cs : List Int32) (ch : Int32) (h : ∀ c ∈ cs, c ≠ ch) : ∀ (k j : Nat), j + k ≤ cs.length → own_ix cs ch j k = 0
  | 0, j, _ => rfl
  | k + 1, j, hj => by
    unfold own_ix
    rw [if_neg (h _ (own_mem cs j (by omega)))]
    exact own_ix0 cs ch h k (j + 1) (by omega)
theorem own_minT {i j : Nat} (hi : i ≤ 8000) (hj : j ≤ 8000) (h : ¬ ((Int32.ofNat j) < (Int32.ofNat i))) : Int32.ofNat i = Int32.ofNat (min i j) := by
  by_cases q : i ≤ j
  · rw [Nat.min_eq_left q]
  · exact absurd (own_lt (by omega) hi) h
theorem own_minF {i j : Nat} (hi : i ≤ 8000) (hj : j ≤ 8000) (h : (Int32.ofNat j) < (Int32.ofNat i)) : Int32.ofNat j = Int32.ofNat (min i j) := by
  by_cases q : i ≤ j
  · exact absurd h (own_nlt q hj)
  · rw [Nat.min_eq_right (by omega)]
theorem own_maxT {i j : Nat} (hi : i ≤ 8000) (hj : j ≤ 8000) (h : (Int32.ofNat i) < (Int32.ofNat j)) : Int32.ofNat j = Int32.ofNat (max i j) := by
  by_cases q : j ≤ i
  · exact absurd h (own_nlt q hi)
  · rw [Nat.max_eq_right (by omega)]
theorem own_maxF {i j : Nat} (hi : i ≤ 8000) (hj : j ≤ 8000) (h : ¬ ((Int32.ofNat i) < (Int32.ofNat j))) : Int32.ofNat i = Int32.ofNat (max i j) := by
  by_cases q : j ≤ i
  · rw [Nat.max_eq_left q]
  · exact absurd (own_lt (by omega) hj) h
theorem own_found (j : Nat) : Int32.ofNat j = Int32.ofNat (j + 1) - (1 : Int32) := by rw [own_up, Int32.add_sub_cancel]
theorem own_geth (cs : List Int32) (j : Nat) (d : Value) (hl : own_lat cs) (hj : j < cs.length) (hb : cs.length ≤ 8000) : (own_enc cs).getD (Int32.ofNat j).toNatClampNeg d = .int (own_lo (cs.getD j 0)) := by
  rw [own_enc, if_pos hl]; exact own_getl cs j d hj hb
theorem own_nari2c (z : Int32) : nar .char (i2c z) = i2c z := by
  have i := c_i2c z
  have k := c_i2c (z.toUInt32.toUInt16.toUInt32.toInt32)
  apply own_eqI
  show (z.toUInt32.toUInt16.toUInt32.toInt32).toUInt32.toUInt16.toUInt32.toInt32.toInt = z.toUInt32.toUInt16.toUInt32.toInt32.toInt
  omega
theorem own_rng {q z : Int32} (h : q = i2c z) : ¬ (q < (0 : Int32)) ∧ ¬ ((65535 : Int32) < q) := by
  have i := c_i2c z
  have e : q.toInt = z.toUInt32.toUInt16.toUInt32.toInt32.toInt := congrArg Int32.toInt h
  rw [Int32.lt_iff_toInt_lt, Int32.lt_iff_toInt_lt]
  have : (0 : Int32).toInt = 0 := rfl
  have : (65535 : Int32).toInt = 65535 := rfl
  omega
theorem own_chs0 : own_chs [] := fun _ h => nomatch h
theorem own_chsS {c : Int32} {r : List Int32} (h : ¬ (c < (0 : Int32)) ∧ ¬ ((65535 : Int32) < c)) (g : own_chs r) : own_chs (c :: r) := fun d hd => by
  rcases List.mem_cons.mp hd with rfl | hd
  · exact h
  · exact g d hd
theorem own_lat0 : own_lat [] := fun _ h => nomatch h
theorem own_latS {c : Int32} {r : List Int32} (h : ¬ ((255 : Int32) < c)) (g : own_lat r) : own_lat (c :: r) := fun d hd => by
  rcases List.mem_cons.mp hd with rfl | hd
  · exact h
  · exact g d hd
theorem own_int (z : Int32) (n : Nat) (h : z.toInt = n) : z = Int32.ofNat n := by
  apply Int32.toInt_inj.mp
  rw [h]
  have := z.toInt_lt
  have := z.le_toInt
  rw [Int32.toInt_ofNat_of_lt]
  omega
theorem own_and3 (z : Int32) : ∃ n : Nat, (z &&& (3 : Int32)) = Int32.ofNat n ∧ n < 4 := by
  have h := c_mask z 3 2 (by decide) (by decide)
  refine ⟨(z.toInt % 4).toNat, own_int _ _ ?_, by omega⟩
  rw [h]; omega
theorem own_modn (z : Int32) (d : Int32) (k : Nat) (hd : d.toInt = k) (hk : 0 < k) (hk2 : k ≤ 100) : ∃ n : Nat, ((z &&& (2147483647 : Int32)) % d) = Int32.ofNat n ∧ n < k := by
  have h := c_mask z 2147483647 31 (by decide) (by decide)
  have h2 := (c_irem (z &&& (2147483647 : Int32)) d k hd).1 (by rw [h]; omega)
  have h3 : 0 ≤ (z &&& (2147483647 : Int32)).toInt := by rw [h]; omega
  have h4 := Int.emod_nonneg (z &&& (2147483647 : Int32)).toInt (show (k : Int) ≠ 0 by omega)
  have h5 := Int.emod_lt_of_pos (z &&& (2147483647 : Int32)).toInt (show (0 : Int) < k by omega)
  refine ⟨((z &&& (2147483647 : Int32)).toInt % k).toNat, own_int _ _ ?_, by omega⟩
  rw [h2]; omega
theorem own_lt16 {c : Int32} (h : ¬ ((65535 : Int32) < c)) : c < (65536 : Int32) := by
  rw [Int32.lt_iff_toInt_lt] at *
  have : (65535 : Int32).toInt = 65535 := rfl
  have : (65536 : Int32).toInt = 65536 := rfl
  omega
theorem own_sub0 {i n : Nat} (h : ¬ ((Int32.ofNat i) < (Int32.ofNat n))) (hn : n ≤ 8000) : n - i = 0 := by
  by_cases q : i < n
  · exact absurd (own_lt q hn) h
  · omega
theorem own_cod0 {cs : List Int32} (h : own_lat cs) : own_cod cs = (0 : Int32) := if_pos h
theorem own_cod1 {cs : List Int32} (h : ¬ own_lat cs) : ¬ (own_cod cs = (0 : Int32)) := by rw [own_cod, if_neg h]; decide
/-- a String's bytes as ints -/
def own_wb : List Int32 → List Int32
  | [] => []
  | c :: r => own_lo (c >>> ((0 : Int32) &&& 31)) :: own_lo (c >>> ((8 : Int32) &&& 31)) :: own_wb r
def own_eb (cs : List Int32) : List Int32 := if own_lat cs then cs.map own_lo else own_wb cs
theorem own_wideb : ∀ cs : List Int32, own_wide cs = (own_wb cs).map Value.int
  | [] => rfl
  | c :: r => by simp only [own_wide, own_wb, List.map_cons, own_wideb r]
theorem own_encb (cs : List Int32) : own_enc cs = (own_eb cs).map Value.int := by
  rw [own_enc, own_eb]; split
  · simp [own_low]
  · exact own_wideb cs
theorem own_wbl : ∀ cs : List Int32, (own_wb cs).length = 2 * cs.length
  | [] => rfl
  | c :: r => by simp only [own_wb, List.length_cons, own_wbl r]; omega
theorem own_ebl (cs : List Int32) : (own_eb cs).length = own_enl cs := by
  rw [own_eb, own_enl]; split
  · simp
  · exact own_wbl cs
theorem own_mapinj : ∀ (cs ds : List Int32), own_chs cs → own_chs ds → own_lat cs → own_lat ds → cs.map own_lo = ds.map own_lo → cs = ds
  | [], [], _, _, _, _, _ => rfl
  | [], _ :: _, _, _, _, _, h => nomatch h
  | _ :: _, [], _, _, _, _, h => nomatch h
  | c :: r, d :: q, hc, hd, lc, ld, h => by
    simp only [List.map_cons, List.cons.injEq] at h
    have e : c = d := own_lo_inj (hc c (by simp)).1 (lc c (by simp)) (hd d (by simp)).1 (ld d (by simp)) h.1
    rw [e, own_mapinj r q (fun x hx => hc x (by simp [hx])) (fun x hx => hd x (by simp [hx])) (fun x hx => lc x (by simp [hx])) (fun x hx => ld x (by simp [hx])) h.2]
theorem own_wbinj : ∀ (cs ds : List Int32), own_chs cs → own_chs ds → own_wb cs = own_wb ds → cs = ds
  | [], [], _, _, _ => rfl
  | [], _ :: _, _, _, h => nomatch h
  | _ :: _, [], _, _, h => nomatch h
  | c :: r, d :: q, hc, hd, h => by
    simp only [own_wb, List.cons.injEq] at h
    have e : c = d := by
      rw [← own_pair (hc c (by simp)).1 (hc c (by simp)).2, ← own_pair (hd d (by simp)).1 (hd d (by simp)).2, h.1, h.2.1]
    rw [e, own_wbinj r q (fun x hx => hc x (by simp [hx])) (fun x hx => hd x (by simp [hx])) h.2.2]
theorem own_encinj {cs ds : List Int32} (hc : own_chs cs) (hd : own_chs ds) (h : own_cod cs = own_cod ds) (e : own_eb cs = own_eb ds) : cs = ds := by
  by_cases l1 : own_lat cs <;> by_cases l2 : own_lat ds
  · rw [own_eb, own_eb, if_pos l1, if_pos l2] at e; exact own_mapinj _ _ hc hd l1 l2 e
  · rw [own_cod, own_cod, if_pos l1, if_neg l2] at h; exact absurd h (by decide)
  · rw [own_cod, own_cod, if_neg l1, if_pos l2] at h; exact absurd h (by decide)
  · rw [own_eb, own_eb, if_neg l1, if_neg l2] at e; exact own_wbinj _ _ hc hd e
theorem own_ext {xs ys : List Int32} (hl : xs.length = ys.length) (h : ∀ i, i < xs.length → xs.getD i 0 = ys.getD i 0) : xs = ys := by
  apply List.ext_getElem hl
  intro i h1 h2
  have := h i h1
  simpa [List.getD_eq_getElem?_getD, List.getElem?_eq_getElem h1, List.getElem?_eq_getElem h2] using this
theorem own_enll (cs : List Int32) : own_enl cs ≤ 2 * cs.length := by rw [own_enl]; split <;> omega
def own_mk : Nat → Int32 → Int32 → Int32 → List Int32
  | 0, _, _, _ => []
  | 1, x, _, _ => [x]
  | 2, x, y, _ => [x, y]
  | _ + 3, x, y, z => [x, y, z]
theorem own_mkl (n : Nat) (x y z : Int32) : (own_mk n x y z).length ≤ 3 := by
  unfold own_mk; split <;> simp
theorem own_mkchs {n : Nat} {x y z : Int32} (h : n < 4) (hx : ¬ (x < (0 : Int32)) ∧ ¬ ((65535 : Int32) < x)) (hy : ¬ (y < (0 : Int32)) ∧ ¬ ((65535 : Int32) < y)) (hz : ¬ (z < (0 : Int32)) ∧ ¬ ((65535 : Int32) < z)) : own_chs (own_mk n x y z) := by
  unfold own_mk; split
  · exact own_chs0
  · exact own_chsS hx own_chs0
  · exact own_chsS hx (own_chsS hy own_chs0)
  · exact own_chsS hx (own_chsS hy (own_chsS hz own_chs0))
theorem own_le64k {c : Int32} (h : ¬ ((255 : Int32) < c)) : ¬ ((65535 : Int32) < c) := by
  rw [Int32.lt_iff_toInt_lt] at *
  have : (65535 : Int32).toInt = 65535 := rfl
  have : (255 : Int32).toInt = 255 := rfl
  omega
theorem own_small {z : Int32} (h : 0 ≤ z.toInt ∧ z.toInt ≤ 255) : ¬ (i2c z < (0 : Int32)) ∧ ¬ ((255 : Int32) < i2c z) := by
  have i := c_i2c z
  rw [Int32.lt_iff_toInt_lt, Int32.lt_iff_toInt_lt]
  have : (0 : Int32).toInt = 0 := rfl
  have : (255 : Int32).toInt = 255 := rfl
  show ¬ ((z.toUInt32.toUInt16.toUInt32.toInt32).toInt < (0 : Int32).toInt) ∧ ¬ ((255 : Int32).toInt < (z.toUInt32.toUInt16.toUInt32.toInt32).toInt)
  omega
theorem own_m255 (z : Int32) : 0 ≤ (z &&& (255 : Int32)).toInt ∧ (z &&& (255 : Int32)).toInt ≤ 255 := by
  have := c_mask z 255 8 (by decide) (by decide)
  omega
theorem own_b255 (z : Int32) : ¬ (i2c (z &&& (255 : Int32)) < (0 : Int32)) ∧ ¬ ((255 : Int32) < i2c (z &&& (255 : Int32))) := own_small (own_m255 z)
theorem own_k255 (z : Int32) : ¬ ((z &&& (255 : Int32)) < (0 : Int32)) ∧ ¬ ((255 : Int32) < (z &&& (255 : Int32))) := by
  have := own_m255 z
  rw [Int32.lt_iff_toInt_lt, Int32.lt_iff_toInt_lt]
  have : (0 : Int32).toInt = 0 := rfl
  have : (255 : Int32).toInt = 255 := rfl
  omega
theorem own_xb (z w : Int32) (h : 0 ≤ z.toInt ∧ z.toInt ≤ 255) (g : 0 ≤ w.toInt ∧ w.toInt ≤ 255) : 0 ≤ (z ^^^ w).toInt ∧ (z ^^^ w).toInt ≤ 255 := by
  have t (v : Int32) (h : 0 ≤ v.toInt ∧ v.toInt ≤ 255) : v.toBitVec.toNat < 256 := by
    have := v.toBitVec.isLt
    have e : v.toInt = v.toBitVec.toInt := rfl
    rw [BitVec.toInt_eq_toNat_cond] at e
    split at e <;> omega
  have h1 := t z h
  have h2 := t w g
  have h3 : (z ^^^ w).toBitVec.toNat < 256 := by
    rw [Int32.toBitVec_xor, BitVec.toNat_xor]
    exact Nat.xor_lt_two_pow (n := 8) h1 h2
  have e : (z ^^^ w).toInt = (z ^^^ w).toBitVec.toInt := rfl
  rw [BitVec.toInt_eq_toNat_cond] at e
  split at e <;> omega
theorem own_x255 {z w : Int32} (h : ¬ (z < (0 : Int32)) ∧ ¬ ((255 : Int32) < z)) (g : ¬ (w < (0 : Int32)) ∧ ¬ ((255 : Int32) < w)) : ¬ (i2c (z ^^^ w) < (0 : Int32)) ∧ ¬ ((255 : Int32) < i2c (z ^^^ w)) := by
  rw [Int32.lt_iff_toInt_lt, Int32.lt_iff_toInt_lt] at h g
  have : (0 : Int32).toInt = 0 := rfl
  have : (255 : Int32).toInt = 255 := rfl
  exact own_small (own_xb z w (by omega) (by omega))
theorem own_chr {c : Int32} (h0 : ¬ (c < (0 : Int32))) (h1 : ¬ ((255 : Int32) < c)) : nar .char (i2c (own_lo c &&& (255 : Int32))) = c := by
  rw [own_nari2c]
  apply own_eqI
  have a := c_i2b c
  have m := c_mask (own_lo c) 255 8 (by decide) (by decide)
  change ((own_lo c).toInt - c.toInt) % 256 = 0 ∧ _ at a
  have i := c_i2c (own_lo c &&& (255 : Int32))
  show ((own_lo c &&& (255 : Int32)).toUInt32.toUInt16.toUInt32.toInt32).toInt = c.toInt
  rw [Int32.lt_iff_toInt_lt] at h0 h1
  have : (0 : Int32).toInt = 0 := rfl
  have : (255 : Int32).toInt = 255 := rfl
  omega
theorem own_enl0 {cs : List Int32} (hb : cs.length ≤ 4000) : (Int32.ofNat (own_enl cs)) = (0 : Int32) ↔ cs = [] := by
  constructor
  · intro e
    have h : own_enl cs = 0 := own_inj (n := 0) (by have := own_enll cs; omega) (by decide) e
    have : cs.length = 0 := by rw [own_enl] at h; split at h <;> omega
    exact List.eq_nil_of_length_eq_zero this
  · rintro rfl; rw [own_enl, if_pos own_lat0]; rfl
theorem own_fldeq {Z : State} {h : Heap} {a : Addr} {C n d : String} {v w : Value} (F : Fld Z h a C n d v) (G : Fld Z h a C n d w) : v = w := by
  obtain ⟨c1, cf1, k1, i1, f1, e1, e2, -, -, -, -, e7⟩ := F
  obtain ⟨c2, cf2, k2, i2, f2, g1, g2, -, -, -, -, g7⟩ := G
  cases e1.symm.trans g1
  cases e2.symm.trans g2
  exact Option.some.inj (e7.symm.trans g7)
theorem own_gm (xs : List Int32) (i : Nat) (d : Value) (h : i < xs.length) : (xs.map Value.int).getD i d = .int (xs.getD i 0) := by
  simp [List.getD_eq_getElem?_getD, List.getElem?_map, List.getElem?_eq_getElem h]
/-- two stories of one String are one text -/
theorem own_sameS {Z : State} {h : Heap} {a bx by_ : Addr} {kx ky : ClassId} {cs ds : List Int32} (F1 : Fld Z h a "java/lang/String" "value" "[B" (.ref bx)) (F2 : Fld Z h a "java/lang/String" "value" "[B" (.ref by_)) (C1 : Fld Z h a "java/lang/String" "coder" "B" (.int (own_cod cs))) (C2 : Fld Z h a "java/lang/String" "coder" "B" (.int (own_cod ds)))
    (A1 : Arv Z h bx kx .byte (Int32.ofNat (own_enl cs)) (own_enc cs) (.int (0 : Int32))) (A2 : Arv Z h by_ ky .byte (Int32.ofNat (own_enl ds)) (own_enc ds) (.int (0 : Int32))) (hc : own_chs cs) (hd : own_chs ds) (b1 : cs.length ≤ 4000) (b2 : ds.length ≤ 4000) : cs = ds := by
  cases own_fldeq F1 F2
  have hcod : own_cod cs = own_cod ds := Value.int.inj (own_fldeq C1 C2)
  obtain ⟨c1, Ar1, -, S1, -, H1, -⟩ := A1
  obtain ⟨c2, Ar2, -, S2, -, H2, -⟩ := A2
  cases Ar1.1.symm.trans Ar2.1
  have l1 := own_enll cs
  have l2 := own_enll ds
  rw [own_tn (by omega)] at S1 S2
  have hl : (own_eb cs).length = (own_eb ds).length := by rw [own_ebl, own_ebl]; omega
  refine own_encinj hc hd hcod (own_ext hl fun i hi => ?_)
  have p1 := H1 i (by rw [S1, ← own_ebl]; exact hi)
  have p2 := H2 i (by rw [S1, ← own_ebl]; exact hi)
  rw [own_encb, own_gm _ _ _ hi] at p1
  rw [own_encb, own_gm _ _ _ (hl ▸ hi)] at p2
  exact Value.int.inj (Option.some.inj (p1.symm.trans p2))
def own_mk7 : Nat → Int32 → Int32 → Int32 → Int32 → Int32 → Int32 → Int32 → List Int32
  | 0, _, _, _, _, _, _, _ => []
  | 1, x0, _, _, _, _, _, _ => [x0]
  | 2, x0, x1, _, _, _, _, _ => [x0, x1]
  | 3, x0, x1, x2, _, _, _, _ => [x0, x1, x2]
  | 4, x0, x1, x2, x3, _, _, _ => [x0, x1, x2, x3]
  | 5, x0, x1, x2, x3, x4, _, _ => [x0, x1, x2, x3, x4]
  | 6, x0, x1, x2, x3, x4, x5, _ => [x0, x1, x2, x3, x4, x5]
  | _ + 7, x0, x1, x2, x3, x4, x5, x6 => [x0, x1, x2, x3, x4, x5, x6]
theorem own_mkl7 (n : Nat) (x0 x1 x2 x3 x4 x5 x6 : Int32) : (own_mk7 n x0 x1 x2 x3 x4 x5 x6).length ≤ 7 := by
  unfold own_mk7; split <;> simp
theorem own_mkchs7 {n : Nat} {x0 x1 x2 x3 x4 x5 x6 : Int32} (h0 : ¬ (x0 < (0 : Int32)) ∧ ¬ ((65535 : Int32) < x0)) (h1 : ¬ (x1 < (0 : Int32)) ∧ ¬ ((65535 : Int32) < x1)) (h2 : ¬ (x2 < (0 : Int32)) ∧ ¬ ((65535 : Int32) < x2)) (h3 : ¬ (x3 < (0 : Int32)) ∧ ¬ ((65535 : Int32) < x3)) (h4 : ¬ (x4 < (0 : Int32)) ∧ ¬ ((65535 : Int32) < x4)) (h5 : ¬ (x5 < (0 : Int32)) ∧ ¬ ((65535 : Int32) < x5)) (h6 : ¬ (x6 < (0 : Int32)) ∧ ¬ ((65535 : Int32) < x6)) : own_chs (own_mk7 n x0 x1 x2 x3 x4 x5 x6) := by
  unfold own_mk7; split
  · exact own_chs0
  · exact (own_chsS h0 own_chs0)
  · exact (own_chsS h0 (own_chsS h1 own_chs0))
  · exact (own_chsS h0 (own_chsS h1 (own_chsS h2 own_chs0)))
  · exact (own_chsS h0 (own_chsS h1 (own_chsS h2 (own_chsS h3 own_chs0))))
  · exact (own_chsS h0 (own_chsS h1 (own_chsS h2 (own_chsS h3 (own_chsS h4 own_chs0)))))
  · exact (own_chsS h0 (own_chsS h1 (own_chsS h2 (own_chsS h3 (own_chsS h4 (own_chsS h5 own_chs0))))))
  · exact (own_chsS h0 (own_chsS h1 (own_chsS h2 (own_chsS h3 (own_chsS h4 (own_chsS h5 (own_chsS h6 own_chs0)))))))
abbrev ELs : List (String × Nat) := consts_1
theorem own_EW {Z : State} {a0 : Array Value} (hw : ∀ d ∈ tables_1, d.before a0 Z = true) : EW Z a0 ELs := (EW.cons (hw _ (List.mem_of_getElem? (i := 0) rfl)) (by decide) (EW.cons (hw _ (List.mem_of_getElem? (i := 57) rfl)) (by decide) (EW.cons (hw _ (List.mem_of_getElem? (i := 58) rfl)) (by decide) (EW.cons (hw _ (List.mem_of_getElem? (i := 59) rfl)) (by decide) (EW.cons (hw _ (List.mem_of_getElem? (i := 92) rfl)) (by decide) EW.nil)))))
theorem own_wS {Z : State} {a0 : Array Value} (hw : ∀ d ∈ tables_1, d.before a0 Z = true) : ∀ a ∈ Bundle.stringAtoms, a.before a0 Z = true := by
  intro a ha
  simp only [Bundle.stringAtoms, List.mem_cons, List.not_mem_nil, or_false] at ha
  rcases ha with rfl | rfl | rfl | rfl | rfl | rfl | rfl
  · exact (hw _ (List.mem_of_getElem? (i := 1) rfl))
  · exact (hw _ (List.mem_of_getElem? (i := 2) rfl))
  · exact (hw _ (List.mem_of_getElem? (i := 3) rfl))
  · exact (hw _ (List.mem_of_getElem? (i := 4) rfl))
  · exact (hw _ (List.mem_of_getElem? (i := 5) rfl))
  · exact (hw _ (List.mem_of_getElem? (i := 6) rfl))
  · exact (hw _ (List.mem_of_getElem? (i := 7) rfl))
theorem own_NSroot {Z : State} {a0 : Array Value} {O K : String} {n : Nat} (w : (Jvm.Cond.noSuperclass O).before a0 Z = true) (wk : (Jvm.Cond.instantiable K n).before a0 Z = true) (hn : O ≠ K) : NS Z O K := by
  obtain ⟨c, k, h1, h2, h3, -, -⟩ := Cond.noSuperclass_spec w
  obtain ⟨t, kt, g1, -⟩ := Cond.instantiable_spec wk
  have ne := ids_ne h1 g1 hn
  refine ⟨c, t, h1, g1, fun fuel => ?_⟩
  cases fuel with
  | zero => rfl
  | succ f => simp [Vm.isSubclassAux, ne, h2, h3]
theorem own_NSno {Z : State} {a0 : Array Value} {C S K : String} {m : Nat} (w : (Jvm.Cond.superclass C S).before a0 Z = true) (wk : (Jvm.Cond.instantiable K m).before a0 Z = true) (n : NS Z C K) (hn : C ≠ K) : ∃ c t, Z.vm.findClass C = some c ∧ Z.vm.findClass K = some t ∧ Z.vm.assignable c t = false := by
  obtain ⟨c, t, h0, g0, n3⟩ := n
  obtain ⟨p, k, kp, h1, h2, h3, h4, h5, -, h7⟩ := Cond.superclass_spec h0 w
  obtain ⟨t', k', q1, q2, q3, q4, -⟩ := Cond.instantiable_spec wk
  cases g0.symm.trans q1
  have q5 : k'.isInterface = false := (Bool.or_eq_false_iff.mp q4).1
  have ne := ids_ne h0 g0 hn
  refine ⟨c, t, h0, g0, ?_⟩
  show Z.vm.assignableAux (255 + 1) c t = false
  simp [Vm.assignableAux, ne, h2, q2, h5, q3, q5, Vm.isSubclass, n3]
/-- a String whose value is still null is no constant's -/
theorem own_safeN {Z : State} {EL : List (String × Nat)} {vm : Vm} {h : Heap} {a : Addr} (hal : Z.vm.Alike vm) (E : Exa Z h a "java/lang/String") (F : Fld Z h a "java/lang/String" "value" "[B" .null) : Safe Z EL vm h a := fun B => by
  obtain ⟨p, -, u, a', -, q, -, S, rfl | rfl⟩ := B
  · obtain ⟨cS, ⟨⟨s1, -, -, ⟨c1, k1, i1, f1, -⟩, -, -, -, v1, -⟩, -⟩, -⟩ := S
    obtain ⟨cell, cf, k', i', f, e1, e2, -, -, -, -, e7⟩ := F
    cases (show h[q.sa]? = some q.sC from s1).symm.trans e1
    obtain ⟨k3, e3, -⟩ := State.fieldFound?_setVm (s := Z) hal e2
    have e4 := (show (Wst Z vm h).fieldFound? _ _ _ = _ from e3).symm.trans f1
    simp only [Option.some.injEq, Prod.mk.injEq] at e4
    rw [← e4.2.2.2, e7] at v1
    cases v1
  · obtain ⟨cell, k, e1, e2, e3, -, -⟩ := E
    cases (show h[q.sd]? = some q.SA from S.hd).symm.trans e1
    obtain ⟨cS, -, -, f, -⟩ := S
    have f' : vm.findClass "[B" = some q.SA.cls := f
    rw [hal.findClass] at f'
    obtain ⟨k1, q1, q2⟩ := Vm.findClass_spec f'
    obtain ⟨k2, q3, q4⟩ := Vm.findClass_spec e2
    cases q1.symm.trans q3
    exact absurd (q2.symm.trans q4) (by decide)
theorem own_fix0 {Z : State} {hh : Heap} {b : Addr} {kb : ClassId} {cs : List Int32} {d : Value} (h : cs = []) (F : Arv Z hh b kb .byte (0 : Int32) [] d) : Arv Z hh b kb .byte (Int32.ofNat (own_enl cs)) (own_enc cs) d := by
  subst h
  rw [own_enl, own_enc, if_pos own_lat0, if_pos own_lat0]; exact F
theorem own_pos {n : Nat} (h : ¬ ((Int32.ofNat n) = (0 : Int32))) : 0 < n := by
  cases n with
  | zero => exact absurd rfl h
  | succ n => omega
def own_nm : Nat → List Int32
  | 0 => [(114 : Int32), (101 : Int32), (97 : Int32), (100 : Int32), (121 : Int32)]
  | 1 => [(108 : Int32), (101 : Int32), (97 : Int32), (115 : Int32), (101 : Int32), (100 : Int32)]
  | 2 => [(100 : Int32), (111 : Int32), (110 : Int32), (101 : Int32)]
  | _ + 3 => [(102 : Int32), (97 : Int32), (105 : Int32), (108 : Int32), (101 : Int32), (100 : Int32)]
theorem own_nml (n : Nat) : (own_nm n).length ≤ 7 := by
  unfold own_nm; split <;> simp
theorem own_nmlat (n : Nat) : own_lat (own_nm n) := by
  unfold own_nm; split <;> decide
theorem own_nmchs (n : Nat) : own_chs (own_nm n) := by
  unfold own_nm; split <;> decide
theorem own_lit0 {Z : State} {h : Heap} {b : Addr} {k : ClassId} (F : Arv Z h b k .byte (5 : Int32) [(.int (114 : Int32)), (.int (101 : Int32)), (.int (97 : Int32)), (.int (100 : Int32)), (.int (121 : Int32))] (.int (0 : Int32))) : Arv Z h b k .byte (Int32.ofNat (own_enl (own_nm 0))) (own_enc (own_nm 0)) (.int (0 : Int32)) := by
  rw [own_enl, own_enc, if_pos (own_nmlat _), if_pos (own_nmlat _)]; exact F
theorem own_lit1 {Z : State} {h : Heap} {b : Addr} {k : ClassId} (F : Arv Z h b k .byte (6 : Int32) [(.int (108 : Int32)), (.int (101 : Int32)), (.int (97 : Int32)), (.int (115 : Int32)), (.int (101 : Int32)), (.int (100 : Int32))] (.int (0 : Int32))) : Arv Z h b k .byte (Int32.ofNat (own_enl (own_nm 1))) (own_enc (own_nm 1)) (.int (0 : Int32)) := by
  rw [own_enl, own_enc, if_pos (own_nmlat _), if_pos (own_nmlat _)]; exact F
theorem own_lit2 {Z : State} {h : Heap} {b : Addr} {k : ClassId} (F : Arv Z h b k .byte (4 : Int32) [(.int (100 : Int32)), (.int (111 : Int32)), (.int (110 : Int32)), (.int (101 : Int32))] (.int (0 : Int32))) : Arv Z h b k .byte (Int32.ofNat (own_enl (own_nm 2))) (own_enc (own_nm 2)) (.int (0 : Int32)) := by
  rw [own_enl, own_enc, if_pos (own_nmlat _), if_pos (own_nmlat _)]; exact F
theorem own_lit3 {Z : State} {h : Heap} {b : Addr} {k : ClassId} (F : Arv Z h b k .byte (6 : Int32) [(.int (102 : Int32)), (.int (97 : Int32)), (.int (105 : Int32)), (.int (108 : Int32)), (.int (101 : Int32)), (.int (100 : Int32))] (.int (0 : Int32))) : Arv Z h b k .byte (Int32.ofNat (own_enl (own_nm 3))) (own_enc (own_nm 3)) (.int (0 : Int32)) := by
  rw [own_enl, own_enc, if_pos (own_nmlat _), if_pos (own_nmlat _)]; exact F
def own_from (cs : List Int32) (ra rb rc rd : Addr) : Value := if cs = (own_nm 0) then .ref ra else if cs = (own_nm 1) then .ref rb else if cs = (own_nm 2) then .ref rc else if cs = (own_nm 3) then .ref rd else .null
theorem own_fromE (cs : List Int32) (ra rb rc rd : Addr) : own_from cs ra rb rc rd = if (own_nm 0) = cs then .ref ra else if (own_nm 1) = cs then .ref rb else if (own_nm 2) = cs then .ref rc else if (own_nm 3) = cs then .ref rd else .null := by
  simp only [own_from, eq_comm]
theorem own_fromR (cs : List Int32) (ra rb rc rd : Addr) : (own_from cs ra rb rc rd).isRef = true := by
  unfold own_from; repeat' split
  all_goals rfl
def own_st4 : Nat → Addr → Addr → Addr → Addr → Addr
  | 0, r, _, _, _ => r
  | 1, _, r, _, _ => r
  | 2, _, _, r, _ => r
  | _ + 3, _, _, _, r => r
theorem own_fromnm (n : Nat) (h : n < 4) (ra rb rc rd : Addr) : own_from (own_nm n) ra rb rc rd = .ref (own_st4 n ra rb rc rd) := by
  rcases (by omega : n = 0 ∨ n = 1 ∨ n = 2 ∨ n = 3) with rfl | rfl | rfl | rfl <;> rfl
theorem own_ltof {i n : Nat} (hi : i ≤ 8000) (hn : n ≤ 8000) (h : (Int32.ofNat i) < (Int32.ofNat n)) : i < n := by
  by_cases q : i < n
  · exact q
  · exact absurd h (own_nlt (by omega) hi)
theorem own_and7 (z : Int32) : ∃ n : Nat, (z &&& (7 : Int32)) = Int32.ofNat n ∧ n < 8 := by
  have h := c_mask z 7 3 (by decide) (by decide)
  refine ⟨(z.toInt % 8).toNat, own_int _ _ ?_, by omega⟩
  rw [h]; omega
theorem own_is3 {n : Nat} (h : n < 4) (h0 : ¬ ((Int32.ofNat n) = (0 : Int32))) (h1 : ¬ ((Int32.ofNat n) = (1 : Int32))) (h2 : ¬ ((Int32.ofNat n) = (2 : Int32))) : n = 3 := by
  rcases (by omega : n = 0 ∨ n = 1 ∨ n = 2 ∨ n = 3) with rfl | rfl | rfl | rfl
  · exact absurd rfl h0
  · exact absurd rfl h1
  · exact absurd rfl h2
  · rfl
theorem own_d255 (z : Int64) : ¬ (i2c ((z &&& (255 : Int64)).toInt32) < (0 : Int32)) ∧ ¬ ((255 : Int32) < i2c ((z &&& (255 : Int64)).toInt32)) := by
  have m := c_maskL z 255 8 (by decide) (by decide)
  have l := c_l2i (z &&& (255 : Int64))
  have i := c_i2c ((z &&& (255 : Int64)).toInt32)
  have r := rng32 ((z &&& (255 : Int64)).toInt32)
  rw [Int32.lt_iff_toInt_lt, Int32.lt_iff_toInt_lt]
  have : (0 : Int32).toInt = 0 := rfl
  have : (255 : Int32).toInt = 255 := rfl
  show ¬ ((((z &&& (255 : Int64)).toInt32).toUInt32.toUInt16.toUInt32.toInt32).toInt < (0 : Int32).toInt) ∧ ¬ ((255 : Int32).toInt < (((z &&& (255 : Int64)).toInt32).toUInt32.toUInt16.toUInt32.toInt32).toInt)
  omega
theorem own_eqR {Z : State} {args : Array Value} {X F : Term} {a : Addr} (hF : F.eval args Z none [] Z = some (.ref a)) (h : (Jvm.Cond.eq X F).value args Z none Z [] = some true) : X.eval args Z none [] Z = some (.ref a) := by
  obtain ⟨x, y, e1, e2, k1, k2⟩ := cmp_v (Or.inl h)
  cases hF.symm.trans e2
  have hx : x.isRef = true := k2.2
  have := gotT (eq_R e1 hF hx rfl) h
  rw [e1, this]
theorem own_len {Z : State} {args : Array Value} {t : Term} {a : Addr} {cl : Cell} {ty : FieldType} {z : Int32} (A : Arr Z Z.heap a cl ty) (et : t.eval args Z none [] Z = some (.ref a)) (hl : (Jvm.Cond.eq (.length t) (.int z)).value args Z none Z [] = some true) : cl.slots.size < 2 ^ 31 ∧ cl.slots.size.toInt32 = z := by
  have l1 := eqv_i (Term.int_eval z) hl
  obtain ⟨a', cell, ha', hat, hv⟩ := Term.length_spec l1
  cases et.symm.trans ha'
  obtain ⟨hc, -⟩ := State.arrayAt?_spec hat
  cases hc.symm.trans A.1
  refine ⟨?_, (Value.int.inj hv).symm⟩
  simp only [Term.eval, et, hat, Option.bind_eq_bind, Option.bind_some] at l1
  by_cases hn : cl.slots.size < 2147483648
  · exact hn
  · rw [if_neg hn] at l1; cases l1
theorem own_el {Z : State} {args : Array Value} {t : Term} {a : Addr} {cl : Cell} {ty : FieldType} {i v : Int32} (A : Arr Z Z.heap a cl ty) (et : t.eval args Z none [] Z = some (.ref a)) (h : (Jvm.Cond.eq (.elem t (.int i)) (.int v)).value args Z none Z [] = some true) : cl.slots[i.toNatClampNeg]? = some (.int v) := (elem_in (eqv_i (Term.int_eval v) h) et (Term.int_eval i) A.1).2
theorem own_elR {Z : State} {args : Array Value} {t u : Term} {a b : Addr} {cl : Cell} {ty : FieldType} {i : Int32} (A : Arr Z Z.heap a cl ty) (et : t.eval args Z none [] Z = some (.ref a)) (eu : u.eval args Z none [] Z = some (.ref b)) (h : (Jvm.Cond.eq (.elem t (.int i)) u).value args Z none Z [] = some true) : cl.slots[i.toNatClampNeg]? = some (.ref b) := (elem_in (own_eqR eu h) et (Term.int_eval i) A.1).2
theorem own_arrv {Z : State} {args : Array Value} {t : Term} {ty : FieldType} (h : (Jvm.Cond.arrayOf t ty).value args Z none Z [] = some true) : ∃ (a : Addr) (cl : Cell), t.eval args Z none [] Z = some (.ref a) ∧ Arr Z Z.heap a cl ty := by
  obtain ⟨a, e⟩ := arr_v h
  obtain ⟨cl, A⟩ := Arr.start e h
  exact ⟨a, cl, e, A⟩
theorem pn_java_lang_StringUTF16 : plainName "java/lang/StringUTF16" = true := by first | (simp [plainName, overriddenIn]; done) | decide +kernel
theorem d_jdk_52_method_21_0 : decode jdk_52_method_21_code 0 = .ok (.iconst 0, 1) := by decide +kernel
theorem d_jdk_52_method_21_1 : decode jdk_52_method_21_code 1 = .ok (.istore 5, 2) := by decide +kernel
theorem d_jdk_52_method_21_3 : decode jdk_52_method_21_code 3 = .ok (.iload 5, 2) := by decide +kernel
theorem d_jdk_52_method_21_5 : decode jdk_52_method_21_code 5 = .ok (.iload 4, 2) := by decide +kernel
theorem d_jdk_52_method_21_7 : decode jdk_52_method_21_code 7 = .ok (.if_icmp .ge 37, 3) := by decide +kernel
theorem d_jdk_52_method_21_10 : decode jdk_52_method_21_code 10 = .ok (.aload_n 0, 1) := by decide +kernel
theorem d_jdk_52_method_21_11 : decode jdk_52_method_21_code 11 = .ok (.iload_n 1, 1) := by decide +kernel
theorem d_jdk_52_method_21_12 : decode jdk_52_method_21_code 12 = .ok (.caload, 1) := by decide +kernel
theorem os_rmCmpL_13 {z0 : Value} {z1 : Value} {z2 : Value} {z3 : Value} {z4 : Value} {z5 : Value} {s6 : Slot} {v : Int32} (h : One s6) : storeLocals #[.val z0, .val z1, .val z2, .val z3, .val z4, .val z5, s6] 6 (.int v) = some #[.val z0, .val z1, .val z2, .val z3, .val z4, .val z5, .val (.int v)] := by
  rcases h with rfl | ⟨w, rfl, hw⟩
  · rfl
  · cases w <;> first | rfl | (simp [Value.category] at hw)
theorem d_jdk_52_method_21_13 : decode jdk_52_method_21_code 13 = .ok (.istore 6, 2) := by decide +kernel
theorem d_jdk_52_method_21_15 : decode jdk_52_method_21_code 15 = .ok (.iload 6, 2) := by decide +kernel
theorem d_jdk_52_method_21_17 : decode jdk_52_method_21_code 17 = .ok (.sipush 255, 3) := by decide +kernel
theorem d_jdk_52_method_21_20 : decode jdk_52_method_21_code 20 = .ok (.if_icmp .le 6, 3) := by decide +kernel
theorem d_jdk_52_method_21_26 : decode jdk_52_method_21_code 26 = .ok (.aload_n 2, 1) := by decide +kernel
theorem d_jdk_52_method_21_27 : decode jdk_52_method_21_code 27 = .ok (.iload_n 3, 1) := by decide +kernel
theorem d_jdk_52_method_21_28 : decode jdk_52_method_21_code 28 = .ok (.iload 6, 2) := by decide +kernel
theorem d_jdk_52_method_21_30 : decode jdk_52_method_21_code 30 = .ok (.i2b, 1) := by decide +kernel
theorem d_jdk_52_method_21_31 : decode jdk_52_method_21_code 31 = .ok (.bastore, 1) := by decide +kernel
theorem d_jdk_52_method_21_32 : decode jdk_52_method_21_code 32 = .ok (.iinc 1 1, 3) := by decide +kernel
theorem d_jdk_52_method_21_35 : decode jdk_52_method_21_code 35 = .ok (.iinc 3 1, 3) := by decide +kernel
theorem d_jdk_52_method_21_38 : decode jdk_52_method_21_code 38 = .ok (.iinc 5 1, 3) := by decide +kernel
theorem d_jdk_52_method_21_41 : decode jdk_52_method_21_code 41 = .ok (.goto (-38), 3) := by decide +kernel
theorem d_jdk_52_method_21_44 : decode jdk_52_method_21_code 44 = .ok (.iload 4, 2) := by decide +kernel
theorem d_jdk_52_method_21_46 : decode jdk_52_method_21_code 46 = .ok (.ireturn, 1) := by decide +kernel
theorem ef_rmCmpL (m : MethodId) (x0 : Addr) (x1 : Int32) (x2 : Addr) (x3 : Int32) (x4 : Int32) : entryFrame m #[(.ref x0), (.int x1), (.ref x2), (.int x3), (.int x4)] 7 = mkF m 0 #[.val (.ref x0), .val (.int x1), .val (.ref x2), .val (.int x3), .val (.int x4), .unset, .unset] [] := by first | (simp [entryFrame, mkF, argsToLocals, Value.category]; done) | rfl
def Q_rmCmpL (Z : State) (ca : Addr) (ba : Addr) (cs : List Int32) (kc : ClassId) (n : Nat) (kb : ClassId) (vs : List Value) (h0 : Heap) (n0 : Nat) (v : Option Value) (h : Heap) (L : List Loc) : Prop := (v = some (.int (Int32.ofNat n))) ∧ (Fr n0 L) ∧ (Keep h0 h [ba]) ∧ (Arv Z h ba kb .byte (Int32.ofNat n) (own_mix (own_low cs) vs n) (.int (0 : Int32)))
set_option maxRecDepth 65536 in
set_option maxHeartbeats 40000000 in
theorem rmCmpL (l : Launch) (Z : State) (a0 : Array Value) (hw : ∀ d ∈ tables_1, d.before a0 Z = true) (ws : List Jvm.Cond) (ca : Addr) (ba : Addr) (cs : List Int32) (kc : ClassId) (n : Nat) (kb : ClassId) (vs : List Value) (h0 : Heap) (n0 : Nat) (Z0 : n0 ≤ h0.size) (I1 : Arv Z h0 ca kc .char (Int32.ofNat n) (cs.map Value.int) (.int (0 : Int32))) (I2 : Arv Z h0 ba kb .byte (Int32.ofNat n) vs (.int (0 : Int32))) (hn : cs.length = n) (hb : n ≤ 7) (hvs : vs.length = n) (gb : n0 ≤ ba) (hne : @Ne Nat ca ba) (hlat : own_lat cs) :
    MetFree l (⟨"java/lang/StringUTF16", "compress", "([CI[BII)I"⟩ : MethodName) (head1 (Jvm.Cond.code (⟨"java/lang/StringUTF16", "compress", "([CI[BII)I"⟩ : MethodName) jdk_52_method_21_code 7 (some .int) :: ws) ({ frames := 0, cells := 0, slots := 0, locals := 0 } : Room)) (fun ar_ U => ar_ = #[(.ref ca), (.int (0 : Int32)), (.ref ba), (.int (0 : Int32)), (.int (Int32.ofNat n))] ∧ Z.Warmed39 U.vm ∧ U.heap = h0) (fun _ _ _ _ _ => True) (fun _ U oc_ U' => ∃ v L, oc_ = .returned v ∧ Q_rmCmpL Z ca ba cs kc n kb vs h0 n0 v U'.heap L ∧ FrameEnd U oc_ U' L ({ frames := 0, cells := 0, slots := 0, locals := 0 } : Room).cells ({ frames := 0, cells := 0, slots := 0, locals := 0 } : Room).slots) := by
  refine MetFree.of_bodySF (plainFor_of_name pn_java_lang_StringUTF16) hisR ?_
  intro p e s m args below meth c s₁ Bd hml0 hP hK
  obtain ⟨rfl, hZ, hh⟩ := hP
  have hx := Bd.exec
  have hby := Bd.bytes
  have hml : c.maxLocals = 7 := hml0
  have hown : s.vm.findClass "java/lang/StringUTF16" = some m.cls := findClass_of_methodNamed Bd.named
  have hnm := (name_of_methodNamed Bd.named Bd.method).1
  have X0 : Stand p l e ({ frames := 0, cells := 0, slots := 0, locals := 0 } : Room) s m #[(.ref ca), (.int (0 : Int32)), (.ref ba), (.int (0 : Int32)), (.int (Int32.ofNat n))] below meth c s₁ [] 0 0 := Stand.of_body Bd
  have e0 : s₁.heap = h0 := by rw [← hh, Bd.state]; rfl
  have N0 := Fr.nil n0
  have pre0 : ∀ t_, Steps p.tables e below (s₁.setTop (mkF m 0 #[.val (.ref ca), .val (.int (0 : Int32)), .val (.ref ba), .val (.int (0 : Int32)), .val (.int (Int32.ofNat n)), .unset, .unset] [])) t_ → Steps p.tables e below (s₁.setTop (entryFrame m #[(.ref ca), (.int (0 : Int32)), (.ref ba), (.int (0 : Int32)), (.int (Int32.ofNat n))] 7)) t_ := fun t_ k_ => castTop (ef_rmCmpL m ca (0 : Int32) ba (0 : Int32) (Int32.ofNat n)) k_
  have lt_I1 : @LT.lt Nat _ ca h0.size := I1.lt
  have lt_I2 : @LT.lt Nat _ ba h0.size := I2.lt
  have s1 : ∀ t_, Steps p.tables e below (s₁.setTop (mkF m 3 #[.val (.ref ca), .val (.int (0 : Int32)), .val (.ref ba), .val (.int (0 : Int32)), .val (.int (Int32.ofNat n)), .val (.int (0 : Int32)), .unset] [])) t_ → Steps p.tables e below (s₁.setTop (entryFrame m #[(.ref ca), (.int (0 : Int32)), (.ref ba), (.int (0 : Int32)), (.int (Int32.ofNat n))] 7)) t_ := fun t_ k_ => pre0 t_ (by
    show Steps p.tables e below (s₁.setTop (mkF m 0 #[.val (.ref ca), .val (.int (0 : Int32)), .val (.ref ba), .val (.int (0 : Int32)), .val (.int (Int32.ofNat n)), .unset, .unset] [])) t_
    refine XS.iconst X0.here hx rfl (Jvm.hb hby d_jdk_52_method_21_0) ?_
    refine XS.istore X0.here hx rfl (Jvm.hb hby d_jdk_52_method_21_1) rfl (l' := #[.val (.ref ca), .val (.int (0 : Int32)), .val (.ref ba), .val (.int (0 : Int32)), .val (.int (Int32.ofNat n)), .val (.int (0 : Int32)), .unset]) rfl ?_
    show Steps p.tables e below (s₁.setTop (mkF m 3 #[.val (.ref ca), .val (.int (0 : Int32)), .val (.ref ba), .val (.int (0 : Int32)), .val (.int (Int32.ofNat n)), .val (.int (0 : Int32)), .unset] [])) t_
    exact k_)
  have lp2 : ∀ (k_ : Nat) (j : Nat) (s6 : Slot) (T_ : State) (lo_ : List Loc) (hh2 : Heap), j + k_ = n → Stand p l e ({ frames := 0, cells := 0, slots := 0, locals := 0 } : Room) s m #[(.ref ca), (.int (0 : Int32)), (.ref ba), (.int (0 : Int32)), (.int (Int32.ofNat n))] below meth c T_ lo_ 0 0 → T_.heap = hh2 → Fr n0 lo_ → Keep h0 hh2 [ba] → Arv Z hh2 ba kb .byte (Int32.ofNat n) (own_mix (own_low cs) vs j) (.int (0 : Int32)) → (One s6) → ∃ (T' : State) (lo' : List Loc) (hx_ : Heap) (fe_ : JFrame), Stand p l e ({ frames := 0, cells := 0, slots := 0, locals := 0 } : Room) s m #[(.ref ca), (.int (0 : Int32)), (.ref ba), (.int (0 : Int32)), (.int (Int32.ofNat n))] below meth c T' lo' 0 0 ∧ T'.heap = hx_ ∧ Fr n0 lo' ∧ Keep h0 hx_ [ba] ∧ ((∃ (s6 : Slot), fe_ = (mkF m 44 #[.val (.ref ca), .val (.int (Int32.ofNat n)), .val (.ref ba), .val (.int (Int32.ofNat n)), .val (.int (Int32.ofNat n)), .val (.int (Int32.ofNat n)), s6] []) ∧ Arv Z hx_ ba kb .byte (Int32.ofNat n) (own_mix (own_low cs) vs n) (.int (0 : Int32)))) ∧ ∀ t_, Steps p.tables e below (T'.setTop fe_) t_ → Steps p.tables e below (T_.setTop (mkF m 3 #[.val (.ref ca), .val (.int (Int32.ofNat j)), .val (.ref ba), .val (.int (Int32.ofNat j)), .val (.int (Int32.ofNat n)), .val (.int (Int32.ofNat j)), s6] [])) t_ := by
    intro k_
    induction k_ with
    | zero => 
      intro j s6 T_ lo_ hh2 hm_ X_ e_ N_ K_ F_0 hs6
      have zk_ : h0.size ≤ hh2.size := K_.1
      have s3 : ∀ t_, Steps p.tables e below (T_.setTop (mkF m 44 #[.val (.ref ca), .val (.int (Int32.ofNat j)), .val (.ref ba), .val (.int (Int32.ofNat j)), .val (.int (Int32.ofNat n)), .val (.int (Int32.ofNat j)), s6] [])) t_ → Steps p.tables e below (T_.setTop (mkF m 3 #[.val (.ref ca), .val (.int (Int32.ofNat j)), .val (.ref ba), .val (.int (Int32.ofNat j)), .val (.int (Int32.ofNat n)), .val (.int (Int32.ofNat j)), s6] [])) t_ := fun t_ k_ => (fun _ k_ => k_) t_ (by
        show Steps p.tables e below (T_.setTop (mkF m 3 #[.val (.ref ca), .val (.int (Int32.ofNat j)), .val (.ref ba), .val (.int (Int32.ofNat j)), .val (.int (Int32.ofNat n)), .val (.int (Int32.ofNat j)), s6] [])) t_
        refine XS.iload X_.here hx rfl (Jvm.hb hby d_jdk_52_method_21_3) rfl ?_
        refine XS.iload X_.here hx rfl (Jvm.hb hby d_jdk_52_method_21_5) rfl ?_
        refine XS.icmpYes X_.here hx rfl (pc0 := 7) (pc' := 44) rfl (Jvm.hb hby d_jdk_52_method_21_7) rfl (flt (own_nlt (by omega) (by omega))).2.1 (by decide) (by decide) ?_
        show Steps p.tables e below (T_.setTop (mkF m 44 #[.val (.ref ca), .val (.int (Int32.ofNat j)), .val (.ref ba), .val (.int (Int32.ofNat j)), .val (.int (Int32.ofNat n)), .val (.int (Int32.ofNat j)), s6] [])) _
        show Steps p.tables e below (T_.setTop (mkF m 44 #[.val (.ref ca), .val (.int (Int32.ofNat j)), .val (.ref ba), .val (.int (Int32.ofNat j)), .val (.int (Int32.ofNat n)), .val (.int (Int32.ofNat j)), s6] [])) t_
        exact k_)
      exact ⟨T_, _, _, _, X_, e_, N_, ((Keep.refl h0 [ba]).trans K_ (allS (Or.inl (by simp)) all0)), ⟨s6, (by rw [show j = n by omega]), (by obtain rfl : j = n := (by omega); exact F_0)⟩, s3⟩
    | succ k_ ih => 
      intro j s6 T_ lo_ hh2 hm_ X_ e_ N_ K_ F_0 hs6
      have zk_ : h0.size ≤ hh2.size := K_.1
      have f4 : Arv Z hh2 ca kc .char (Int32.ofNat n) (cs.map Value.int) (.int (0 : Int32)) := (I1.keep K_ (ninS (show @Ne Nat ca ba by omega) nin0))
      obtain ⟨cl5, Ar5, -, S5, M5, H5, -⟩ := id f4
      have hin5 : ¬ ((Int32.ofNat j) < 0 ∨ cl5.slots.size ≤ ((Int32.ofNat j)).toNatClampNeg) := inb_of S5 (own_in (by omega) (by omega))
      have hat5 : cl5.slots[((Int32.ofNat j)).toNatClampNeg]? = some (.int (cs.getD j 0)) := H5.at hin5 (own_getc cs j _ (by omega) (by omega))
      obtain ⟨cl6, Ar6, q6, S6, M6, H6, G6⟩ := id F_0
      have hin6 : ¬ ((Int32.ofNat j) < 0 ∨ cl6.slots.size ≤ ((Int32.ofNat j)).toNatClampNeg) := inb_of S6 (own_in (by omega) (by omega))
      obtain ⟨T7, h7, X7, e7, W7, st7⟩ := stB X_ hx hZ e_ Ar6 (j := (Int32.ofNat j)) hin6 (g := (mkF m 31 #[.val (.ref ca), .val (.int (Int32.ofNat j)), .val (.ref ba), .val (.int (Int32.ofNat j)), .val (.int (Int32.ofNat n)), .val (.int (Int32.ofNat j)), .val (.int (cs.getD j 0))] [(.int (own_lo (cs.getD j 0))), (.int (Int32.ofNat j)), (.ref ba)])) rfl rfl (Jvm.hb hby d_jdk_52_method_21_31)
      have z8 : hh2.size ≤ h7.size := Nat.le_of_eq W7.size.symm
      have V7 : Arv Z h7 ba kb .byte (Int32.ofNat n) (own_mix (own_low cs) vs (j + 1)) (.int (0 : Int32)) := by
        have q : Arv Z h7 ba kb .byte (Int32.ofNat n) ((own_mix (own_low cs) vs j).set j (.int (nar .byte (own_lo (cs.getD j 0))))) (.int (0 : Int32)) := Arv.set Ar6 q6 S6 M6 H6 G6 (fits_nar_byte _) W7 j (own_tn (by omega)) (by rw [own_mixl _ _ _ (by rw [own_lowl]; omega)]; omega)
        rw [own_mixc cs vs j (by omega) (by omega)] at q
        exact q
      have N7 := Fr.snoc X7 N_ (show n0 ≤ ba by omega)
      have s9 : ∀ t_, Steps p.tables e below (T7.setTop (mkF m 3 #[.val (.ref ca), .val (.int ((Int32.ofNat j) + (1 : Int32))), .val (.ref ba), .val (.int ((Int32.ofNat j) + (1 : Int32))), .val (.int (Int32.ofNat n)), .val (.int ((Int32.ofNat j) + (1 : Int32))), .val (.int (cs.getD j 0))] [])) t_ → Steps p.tables e below (T_.setTop (mkF m 3 #[.val (.ref ca), .val (.int (Int32.ofNat j)), .val (.ref ba), .val (.int (Int32.ofNat j)), .val (.int (Int32.ofNat n)), .val (.int (Int32.ofNat j)), s6] [])) t_ := fun t_ k_ => (fun _ k_ => k_) t_ (by
        show Steps p.tables e below (T_.setTop (mkF m 3 #[.val (.ref ca), .val (.int (Int32.ofNat j)), .val (.ref ba), .val (.int (Int32.ofNat j)), .val (.int (Int32.ofNat n)), .val (.int (Int32.ofNat j)), s6] [])) t_
        refine XS.iload X_.here hx rfl (Jvm.hb hby d_jdk_52_method_21_3) rfl ?_
        refine XS.iload X_.here hx rfl (Jvm.hb hby d_jdk_52_method_21_5) rfl ?_
        refine XS.icmpNo X_.here hx rfl (Jvm.hb hby d_jdk_52_method_21_7) rfl (tlt (own_lt (by omega) (by omega))).2.1 ?_
        show Steps p.tables e below (T_.setTop (mkF m 10 #[.val (.ref ca), .val (.int (Int32.ofNat j)), .val (.ref ba), .val (.int (Int32.ofNat j)), .val (.int (Int32.ofNat n)), .val (.int (Int32.ofNat j)), s6] [])) _
        refine XS.aloadN X_.here hx rfl (Jvm.hb hby d_jdk_52_method_21_10) rfl rfl ?_
        refine XS.iloadN X_.here hx rfl (Jvm.hb hby d_jdk_52_method_21_11) rfl ?_
        refine X_.caload hx (j := (Int32.ofNat j)) (v := (.int (cs.getD j 0))) (by rw [e_]; exact Ar5.1) (State.isArrayOf_alike hZ.alike Ar5.2.1) Ar5.2.2 hin5 hat5 (g := (mkF m 12 #[.val (.ref ca), .val (.int (Int32.ofNat j)), .val (.ref ba), .val (.int (Int32.ofNat j)), .val (.int (Int32.ofNat n)), .val (.int (Int32.ofNat j)), s6] [(.int (Int32.ofNat j)), (.ref ca)])) rfl rfl (Jvm.hb hby d_jdk_52_method_21_12) _ ?_
        show Steps p.tables e below (T_.setTop (mkF m 13 #[.val (.ref ca), .val (.int (Int32.ofNat j)), .val (.ref ba), .val (.int (Int32.ofNat j)), .val (.int (Int32.ofNat n)), .val (.int (Int32.ofNat j)), s6] [(.int (cs.getD j 0))])) _
        refine XS.istore X_.here hx rfl (Jvm.hb hby d_jdk_52_method_21_13) rfl (l' := #[.val (.ref ca), .val (.int (Int32.ofNat j)), .val (.ref ba), .val (.int (Int32.ofNat j)), .val (.int (Int32.ofNat n)), .val (.int (Int32.ofNat j)), .val (.int (cs.getD j 0))]) (os_rmCmpL_13 hs6) ?_
        refine XS.iload X_.here hx rfl (Jvm.hb hby d_jdk_52_method_21_15) rfl ?_
        refine XS.sipush X_.here hx rfl (Jvm.hb hby d_jdk_52_method_21_17) ?_
        refine XS.icmpYes X_.here hx rfl (pc0 := 20) (pc' := 26) rfl (Jvm.hb hby d_jdk_52_method_21_20) rfl (flt (hlat _ (own_mem cs j (by omega)))).2.2.2 (by decide) (by decide) ?_
        show Steps p.tables e below (T_.setTop (mkF m 26 #[.val (.ref ca), .val (.int (Int32.ofNat j)), .val (.ref ba), .val (.int (Int32.ofNat j)), .val (.int (Int32.ofNat n)), .val (.int (Int32.ofNat j)), .val (.int (cs.getD j 0))] [])) _
        refine XS.aloadN X_.here hx rfl (Jvm.hb hby d_jdk_52_method_21_26) rfl rfl ?_
        refine XS.iloadN X_.here hx rfl (Jvm.hb hby d_jdk_52_method_21_27) rfl ?_
        refine XS.iload X_.here hx rfl (Jvm.hb hby d_jdk_52_method_21_28) rfl ?_
        refine XS.i2b X_.here hx rfl (Jvm.hb hby d_jdk_52_method_21_30) rfl ?_
        refine st7 _ ?_
        show Steps p.tables e below (T7.setTop (mkF m 32 #[.val (.ref ca), .val (.int (Int32.ofNat j)), .val (.ref ba), .val (.int (Int32.ofNat j)), .val (.int (Int32.ofNat n)), .val (.int (Int32.ofNat j)), .val (.int (cs.getD j 0))] [])) _
        refine XS.iinc X7.here hx rfl (Jvm.hb hby d_jdk_52_method_21_32) rfl (l' := #[.val (.ref ca), .val (.int ((Int32.ofNat j) + (1 : Int32))), .val (.ref ba), .val (.int (Int32.ofNat j)), .val (.int (Int32.ofNat n)), .val (.int (Int32.ofNat j)), .val (.int (cs.getD j 0))]) rfl ?_
        refine XS.iinc X7.here hx rfl (Jvm.hb hby d_jdk_52_method_21_35) rfl (l' := #[.val (.ref ca), .val (.int ((Int32.ofNat j) + (1 : Int32))), .val (.ref ba), .val (.int ((Int32.ofNat j) + (1 : Int32))), .val (.int (Int32.ofNat n)), .val (.int (Int32.ofNat j)), .val (.int (cs.getD j 0))]) rfl ?_
        refine XS.iinc X7.here hx rfl (Jvm.hb hby d_jdk_52_method_21_38) rfl (l' := #[.val (.ref ca), .val (.int ((Int32.ofNat j) + (1 : Int32))), .val (.ref ba), .val (.int ((Int32.ofNat j) + (1 : Int32))), .val (.int (Int32.ofNat n)), .val (.int ((Int32.ofNat j) + (1 : Int32))), .val (.int (cs.getD j 0))]) rfl ?_
        refine XS.goto X7.here hx rfl (pc0 := 41) (pc' := 3) rfl (Jvm.hb hby d_jdk_52_method_21_41) (by decide) (by decide) ?_
        show Steps p.tables e below (T7.setTop (mkF m 3 #[.val (.ref ca), .val (.int ((Int32.ofNat j) + (1 : Int32))), .val (.ref ba), .val (.int ((Int32.ofNat j) + (1 : Int32))), .val (.int (Int32.ofNat n)), .val (.int ((Int32.ofNat j) + (1 : Int32))), .val (.int (cs.getD j 0))] [])) t_
        exact k_)
      obtain ⟨T10, lo10, h10, fe10, X10, e10, N10, K10, A10, st10⟩ := ih (j + 1) (.val (.int (cs.getD j 0))) T7 _ h7 (by omega) X7 e7 N7 (((Keep.refl h0 [ba]).trans K_ (allS (Or.inl (by simp)) all0)).wr W7 (Or.inl (by simp))) V7 (One.val rfl)
      exact ⟨T10, lo10, h10, fe10, X10, e10, N10, K10, A10, fun t_ k_ => s9 t_ (castTop (by rw [own_up]) (st10 t_ k_))⟩
  obtain ⟨T11, lo11, h11, fe11, X11, e11, N11, K11, A11, st11⟩ := lp2 n 0 .unset s₁ _ h0 (by omega) X0 e0 N0 (Keep.refl _ _) (by rw [own_mix0]; exact I2) One.u
  have z12 : h0.size ≤ h11.size := K11.1
  obtain ⟨s6_11, rfl, G11_0⟩ := A11
  have s13 : ∀ t_, Steps p.tables e below (T11.setTop (mkF m 44 #[.val (.ref ca), .val (.int (Int32.ofNat n)), .val (.ref ba), .val (.int (Int32.ofNat n)), .val (.int (Int32.ofNat n)), .val (.int (Int32.ofNat n)), s6_11] [])) t_ → Steps p.tables e below (s₁.setTop (entryFrame m #[(.ref ca), (.int (0 : Int32)), (.ref ba), (.int (0 : Int32)), (.int (Int32.ofNat n))] 7)) t_ := fun t_ k_ => s1 t_ (st11 t_ k_)
  have s14 : ∀ t_, Steps p.tables e below (T11.setTop (mkF m 46 #[.val (.ref ca), .val (.int (Int32.ofNat n)), .val (.ref ba), .val (.int (Int32.ofNat n)), .val (.int (Int32.ofNat n)), .val (.int (Int32.ofNat n)), s6_11] [(.int (Int32.ofNat n))])) t_ → Steps p.tables e below (s₁.setTop (entryFrame m #[(.ref ca), (.int (0 : Int32)), (.ref ba), (.int (0 : Int32)), (.int (Int32.ofNat n))] 7)) t_ := fun t_ k_ => s13 t_ (by
    show Steps p.tables e below (T11.setTop (mkF m 44 #[.val (.ref ca), .val (.int (Int32.ofNat n)), .val (.ref ba), .val (.int (Int32.ofNat n)), .val (.int (Int32.ofNat n)), .val (.int (Int32.ofNat n)), s6_11] [])) t_
    refine XS.iload X11.here hx rfl (Jvm.hb hby d_jdk_52_method_21_44) rfl ?_
    show Steps p.tables e below (T11.setTop (mkF m 46 #[.val (.ref ca), .val (.int (Int32.ofNat n)), .val (.ref ba), .val (.int (Int32.ofNat n)), .val (.int (Int32.ofNat n)), .val (.int (Int32.ofNat n)), s6_11] [(.int (Int32.ofNat n))])) t_
    exact k_)
  obtain ⟨fs, hr, hrun, hended, hW, hsame⟩ := X11.leave (v := some (.int (Int32.ofNat n))) (fun h => by rw [Bd.returns] at h; cases h)
  refine ⟨_, _, s14 _ ?_, hrun, hended, _, _, rfl, ?_, ⟨_, rfl⟩, hW, hsame.mono (by decide) (by decide)⟩
  · show Steps p.tables e below (T11.setTop (mkF m 46 #[.val (.ref ca), .val (.int (Int32.ofNat n)), .val (.ref ba), .val (.int (Int32.ofNat n)), .val (.int (Int32.ofNat n)), .val (.int (Int32.ofNat n)), s6_11] [(.int (Int32.ofNat n))])) _
    exact retI X11 hx Bd.returns (Jvm.hb hby d_jdk_52_method_21_46) hr
  · show Q_rmCmpL Z _ _ _ _ _ _ _ h0 n0 _ T11.heap _
    rw [e11]
    exact ⟨rfl, N11, ((Keep.refl h0 [ba]).trans K11 (allS (Or.inl (by simp)) all0)), G11_0⟩
theorem d_jdk_52_method_15_0 : decode jdk_52_method_15_code 0 = .ok (.iload_n 1, 1) := by decide +kernel
theorem d_jdk_52_method_15_1 : decode jdk_52_method_15_code 1 = .ok (.aload_n 0, 1) := by decide +kernel
theorem d_jdk_52_method_15_2 : decode jdk_52_method_15_code 2 = .ok (.arraylength, 1) := by decide +kernel
theorem d_jdk_52_method_15_3 : decode jdk_52_method_15_code 3 = .ok (.isub, 1) := by decide +kernel
theorem d_jdk_52_method_15_4 : decode jdk_52_method_15_code 4 = .ok (.bipush 31, 2) := by decide +kernel
theorem d_jdk_52_method_15_6 : decode jdk_52_method_15_code 6 = .ok (.iushr, 1) := by decide +kernel
theorem d_jdk_52_method_15_7 : decode jdk_52_method_15_code 7 = .ok (.i2b, 1) := by decide +kernel
theorem d_jdk_52_method_15_8 : decode jdk_52_method_15_code 8 = .ok (.ireturn, 1) := by decide +kernel
theorem ef_rmCod (m : MethodId) (x0 : Addr) (x1 : Int32) : entryFrame m #[(.ref x0), (.int x1)] 2 = mkF m 0 #[.val (.ref x0), .val (.int x1)] [] := by first | (simp [entryFrame, mkF, argsToLocals, Value.category]; done) | rfl
def Q_rmCod (Z : State) (ba : Addr) (nn : Int32) (kb : ClassId) (zz : Int32) (vs : List Value) (h0 : Heap) (n0 : Nat) (v : Option Value) (h : Heap) (L : List Loc) : Prop := (v = some (.int (nar .byte (own_lo (ushr (nn - zz) (31 : Int32)))))) ∧ (Fr n0 L) ∧ (h = h0)
set_option maxRecDepth 65536 in
set_option maxHeartbeats 40000000 in
theorem rmCod (l : Launch) (Z : State) (a0 : Array Value) (hw : ∀ d ∈ tables_1, d.before a0 Z = true) (ws : List Jvm.Cond) (ba : Addr) (nn : Int32) (kb : ClassId) (zz : Int32) (vs : List Value) (h0 : Heap) (n0 : Nat) (Z0 : n0 ≤ h0.size) (I1 : Arv Z h0 ba kb .byte zz vs (.int (0 : Int32))) :
    MetFree l (⟨"java/lang/StringUTF16", "coderFromArrayLen", "([BI)B"⟩ : MethodName) (head1 (Jvm.Cond.code (⟨"java/lang/StringUTF16", "coderFromArrayLen", "([BI)B"⟩ : MethodName) jdk_52_method_15_code 2 (some .byte) :: ws) ({ frames := 0, cells := 0, slots := 0, locals := 0 } : Room)) (fun ar_ U => ar_ = #[(.ref ba), (.int nn)] ∧ Z.Warmed39 U.vm ∧ U.heap = h0) (fun _ _ _ _ _ => True) (fun _ U oc_ U' => ∃ v L, oc_ = .returned v ∧ Q_rmCod Z ba nn kb zz vs h0 n0 v U'.heap L ∧ FrameEnd U oc_ U' L ({ frames := 0, cells := 0, slots := 0, locals := 0 } : Room).cells ({ frames := 0, cells := 0, slots := 0, locals := 0 } : Room).slots) := by
  refine MetFree.of_bodySF (plainFor_of_name pn_java_lang_StringUTF16) hisR ?_
  intro p e s m args below meth c s₁ Bd hml0 hP hK
  obtain ⟨rfl, hZ, hh⟩ := hP
  have hx := Bd.exec
  have hby := Bd.bytes
  have hml : c.maxLocals = 2 := hml0
  have hown : s.vm.findClass "java/lang/StringUTF16" = some m.cls := findClass_of_methodNamed Bd.named
  have hnm := (name_of_methodNamed Bd.named Bd.method).1
  have X0 : Stand p l e ({ frames := 0, cells := 0, slots := 0, locals := 0 } : Room) s m #[(.ref ba), (.int nn)] below meth c s₁ [] 0 0 := Stand.of_body Bd
  have e0 : s₁.heap = h0 := by rw [← hh, Bd.state]; rfl
  have N0 := Fr.nil n0
  have pre0 : ∀ t_, Steps p.tables e below (s₁.setTop (mkF m 0 #[.val (.ref ba), .val (.int nn)] [])) t_ → Steps p.tables e below (s₁.setTop (entryFrame m #[(.ref ba), (.int nn)] 2)) t_ := fun t_ k_ => castTop (ef_rmCod m ba nn) k_
  have lt_I1 : @LT.lt Nat _ ba h0.size := I1.lt
  obtain ⟨cl1, Ar1, -, S1, M1, -, -⟩ := id I1
  have s2 : ∀ t_, Steps p.tables e below (s₁.setTop (mkF m 8 #[.val (.ref ba), .val (.int nn)] [(.int (own_lo (ushr (nn - zz) (31 : Int32))))])) t_ → Steps p.tables e below (s₁.setTop (entryFrame m #[(.ref ba), (.int nn)] 2)) t_ := fun t_ k_ => pre0 t_ (by
    show Steps p.tables e below (s₁.setTop (mkF m 0 #[.val (.ref ba), .val (.int nn)] [])) t_
    refine XS.iloadN X0.here hx rfl (Jvm.hb hby d_jdk_52_method_15_0) rfl ?_
    refine XS.aloadN X0.here hx rfl (Jvm.hb hby d_jdk_52_method_15_1) rfl rfl ?_
    refine X0.arraylength hx (by rw [e0]; exact Ar1.1) (State.isArrayOf_alike hZ.alike Ar1.2.1) (g := (mkF m 2 #[.val (.ref ba), .val (.int nn)] [(.ref ba), (.int nn)])) rfl rfl (Jvm.hb hby d_jdk_52_method_15_2) _ ?_
    rw [len_of S1 M1]
    show Steps p.tables e below (s₁.setTop (mkF m 3 #[.val (.ref ba), .val (.int nn)] [(.int zz), (.int nn)])) _
    refine XS.isub X0.here hx rfl (Jvm.hb hby d_jdk_52_method_15_3) rfl ?_
    refine XS.bipush X0.here hx rfl (Jvm.hb hby d_jdk_52_method_15_4) ?_
    refine XS.iushr X0.here hx rfl (Jvm.hb hby d_jdk_52_method_15_6) rfl ?_
    refine XS.i2b X0.here hx rfl (Jvm.hb hby d_jdk_52_method_15_7) rfl ?_
    show Steps p.tables e below (s₁.setTop (mkF m 8 #[.val (.ref ba), .val (.int nn)] [(.int (own_lo (ushr (nn - zz) (31 : Int32))))])) t_
    exact k_)
  obtain ⟨fs, hr, hrun, hended, hW, hsame⟩ := X0.leave (v := some (.int (nar .byte (own_lo (ushr (nn - zz) (31 : Int32)))))) (fun h => by rw [Bd.returns] at h; cases h)
  refine ⟨_, _, s2 _ ?_, hrun, hended, _, _, rfl, ?_, ⟨_, rfl⟩, hW, hsame.mono (by decide) (by decide)⟩
  · show Steps p.tables e below (s₁.setTop (mkF m 8 #[.val (.ref ba), .val (.int nn)] [(.int (own_lo (ushr (nn - zz) (31 : Int32))))])) _
    exact retN X0 hx (t := .byte) Bd.returns (by simp) (Jvm.hb hby d_jdk_52_method_15_8) hr
  · show Q_rmCod Z _ _ _ _ _ h0 n0 _ s₁.heap _
    rw [e0]
    exact ⟨rfl, N0, rfl⟩
theorem d_jdk_52_method_16_0 : decode jdk_52_method_16_code 0 = .ok (.iload_n 2, 1) := by decide +kernel
theorem d_jdk_52_method_16_1 : decode jdk_52_method_16_code 1 = .ok (.newarray .byte, 2) := by decide +kernel
theorem d_jdk_52_method_16_3 : decode jdk_52_method_16_code 3 = .ok (.astore_n 3, 1) := by decide +kernel
theorem d_jdk_52_method_16_4 : decode jdk_52_method_16_code 4 = .ok (.aload_n 0, 1) := by decide +kernel
theorem d_jdk_52_method_16_5 : decode jdk_52_method_16_code 5 = .ok (.iload_n 1, 1) := by decide +kernel
theorem d_jdk_52_method_16_6 : decode jdk_52_method_16_code 6 = .ok (.aload_n 3, 1) := by decide +kernel
theorem d_jdk_52_method_16_7 : decode jdk_52_method_16_code 7 = .ok (.iconst 0, 1) := by decide +kernel
theorem d_jdk_52_method_16_8 : decode jdk_52_method_16_code 8 = .ok (.iload_n 2, 1) := by decide +kernel
theorem pd___CI_BII_I : parseMethodDescriptor "([CI[BII)I" = some ⟨[(.array .char), .int, (.array .byte), .int, .int], some .int⟩ := by decide +kernel
theorem d_jdk_52_method_16_9 : decode jdk_52_method_16_code 9 = .ok (.invokestatic 115, 3) := by decide +kernel
theorem d_jdk_52_method_16_12 : decode jdk_52_method_16_code 12 = .ok (.istore 4, 2) := by decide +kernel
theorem d_jdk_52_method_16_14 : decode jdk_52_method_16_code 14 = .ok (.iload 4, 2) := by decide +kernel
theorem d_jdk_52_method_16_16 : decode jdk_52_method_16_code 16 = .ok (.iload_n 2, 1) := by decide +kernel
theorem d_jdk_52_method_16_17 : decode jdk_52_method_16_code 17 = .ok (.if_icmp .eq 40, 3) := by decide +kernel
theorem d_jdk_52_method_16_57 : decode jdk_52_method_16_code 57 = .ok (.aload_n 3, 1) := by decide +kernel
theorem d_jdk_52_method_16_58 : decode jdk_52_method_16_code 58 = .ok (.areturn, 1) := by decide +kernel
theorem ef_rmComp (m : MethodId) (x0 : Addr) (x1 : Int32) (x2 : Int32) : entryFrame m #[(.ref x0), (.int x1), (.int x2)] 6 = mkF m 0 #[.val (.ref x0), .val (.int x1), .val (.int x2), .unset, .unset, .unset] [] := by first | (simp [entryFrame, mkF, argsToLocals, Value.category]; done) | rfl
def Q_rmComp (Z : State) (ca : Addr) (cs : List Int32) (kc : ClassId) (n : Nat) (h0 : Heap) (n0 : Nat) (v : Option Value) (h : Heap) (L : List Loc) : Prop := ∃ (b : Addr), ∃ (kb : ClassId), (v = some (.ref b)) ∧ (Fr n0 L) ∧ (Keep h0 h []) ∧ (Arv Z h b kb .byte (Int32.ofNat (own_enl cs)) (own_enc cs) (.int (0 : Int32))) ∧ (h0.size ≤ b)
set_option maxRecDepth 65536 in
set_option maxHeartbeats 40000000 in
theorem rmComp (l : Launch) (Z : State) (a0 : Array Value) (hw : ∀ d ∈ tables_1, d.before a0 Z = true) (ws : List Jvm.Cond) (ca : Addr) (cs : List Int32) (kc : ClassId) (n : Nat) (h0 : Heap) (n0 : Nat) (Z0 : n0 ≤ h0.size) (I1 : Arv Z h0 ca kc .char (Int32.ofNat n) (cs.map Value.int) (.int (0 : Int32))) (hn : cs.length = n) (hb : n ≤ 7) (hlat : own_lat cs) :
    MetFree l (⟨"java/lang/StringUTF16", "compress", "([CII)[B"⟩ : MethodName) (head1 (Jvm.Cond.code (⟨"java/lang/StringUTF16", "compress", "([CII)[B"⟩ : MethodName) jdk_52_method_16_code 6 (some (.array .byte)) :: ws) ({ frames := 1, cells := 1, slots := 7, locals := 18 } : Room)) (fun ar_ U => ar_ = #[(.ref ca), (.int (0 : Int32)), (.int (Int32.ofNat n))] ∧ Z.Warmed39 U.vm ∧ U.heap = h0) (fun _ _ _ _ _ => True) (fun _ U oc_ U' => ∃ v L, oc_ = .returned v ∧ Q_rmComp Z ca cs kc n h0 n0 v U'.heap L ∧ FrameEnd U oc_ U' L ({ frames := 1, cells := 1, slots := 7, locals := 18 } : Room).cells ({ frames := 1, cells := 1, slots := 7, locals := 18 } : Room).slots) := by
  refine MetFree.of_bodySF (plainFor_of_name pn_java_lang_StringUTF16) hisR ?_
  intro p e s m args below meth c s₁ Bd hml0 hP hK
  obtain ⟨rfl, hZ, hh⟩ := hP
  have hx := Bd.exec
  have hby := Bd.bytes
  have hml : c.maxLocals = 6 := hml0
  have hown : s.vm.findClass "java/lang/StringUTF16" = some m.cls := findClass_of_methodNamed Bd.named
  have hnm := (name_of_methodNamed Bd.named Bd.method).1
  have X0 : Stand p l e ({ frames := 1, cells := 1, slots := 7, locals := 18 } : Room) s m #[(.ref ca), (.int (0 : Int32)), (.int (Int32.ofNat n))] below meth c s₁ [] 0 0 := Stand.of_body Bd
  have e0 : s₁.heap = h0 := by rw [← hh, Bd.state]; rfl
  have N0 := Fr.nil n0
  have pre0 : ∀ t_, Steps p.tables e below (s₁.setTop (mkF m 0 #[.val (.ref ca), .val (.int (0 : Int32)), .val (.int (Int32.ofNat n)), .unset, .unset, .unset] [])) t_ → Steps p.tables e below (s₁.setTop (entryFrame m #[(.ref ca), (.int (0 : Int32)), (.int (Int32.ofNat n))] 6)) t_ := fun t_ k_ => castTop (ef_rmComp m ca (0 : Int32) (Int32.ofNat n)) k_
  have lt_I1 : @LT.lt Nat _ ca h0.size := I1.lt
  obtain ⟨T1, h1, k1, X1, e1, E1, A1, st1⟩ := newP X0 hx hZ (hw _ (List.mem_of_getElem? (i := 3) rfl)) e0 (g := (mkF m 1 #[.val (.ref ca), .val (.int (0 : Int32)), .val (.int (Int32.ofNat n)), .unset, .unset, .unset] [(.int (Int32.ofNat n))])) rfl (Jvm.hb hby d_jdk_52_method_16_1) rfl (own_nn (by omega)) (cap := 7) (by rw [own_tn (by omega)]; omega) (by decide) (by decide) (by decide)
  obtain ⟨b1, g1⟩ : ∃ z, z = h0.size := ⟨_, rfl⟩
  rw [← g1] at A1 st1
  have z2 : h0.size ≤ h1.size := E1.1
  have l1 : b1 < h1.size := A1.lt
  have V1 : Arv Z h1 b1 k1 .byte (Int32.ofNat n) (List.replicate n (.int (0 : Int32))) (.int (0 : Int32)) := (Arv.new A1 (own_nn (by omega))).pad (pad_rep [] _ n)
  have f3 : Arv Z h1 ca kc .char (Int32.ofNat n) (cs.map Value.int) (.int (0 : Int32)) := (I1.ext E1)
  have Zc4 : n0 ≤ h1.size := by omega
  obtain ⟨_, _, ⟨T5, L5, k5, n5⟩, -, X5, ⟨Lc5, hQ5, l5, y5, z5⟩, st5⟩ := Jvm.LawKit.callS X1 hx (y := (⟨"java/lang/StringUTF16", "compress", "([CI[BII)I"⟩ : MethodName)) hown (mvT hZ (hw _ (List.mem_of_getElem? (i := 36) rfl))) (mvT hZ (hw _ (List.mem_of_getElem? (i := 37) rfl))) (mvT hZ (hw _ (List.mem_of_getElem? (i := 34) rfl))) (mvT hZ (hw _ (List.mem_of_getElem? (i := 38) rfl))) (by decide) (backOf (W := 0) (rmCmpL l Z a0 hw [] ca b1 cs kc n k1 (List.replicate n (.int (0 : Int32))) h1 n0 Zc4 f3 V1 (hn : cs.length = n) (hb : n ≤ 7) (by simp) (by first | assumption | omega | rfl | decide : n0 ≤ b1) (by first | assumption | omega | rfl | decide : @Ne Nat ca b1) (hlat : own_lat cs)) hZ (hw _ (List.mem_of_getElem? (i := 38) rfl)) (hw _ (List.mem_of_getElem? (i := 34) rfl)) (by decide) (by decide)) (g := (mkF m 9 #[.val (.ref ca), .val (.int (0 : Int32)), .val (.int (Int32.ofNat n)), .val (.ref b1), .unset, .unset] [(.int (Int32.ofNat n)), (.int (0 : Int32)), (.ref b1), (.int (0 : Int32)), (.ref ca)])) rfl (by rw [hml]; rfl) (argsL := [(.ref ca), (.int (0 : Int32)), (.ref b1), (.int (0 : Int32)), (.int (Int32.ofNat n))]) (rest := []) (lenOf pd___CI_BII_I rfl) rfl (by show 2 * 0 + _ ≤ _; exact Nat.le_of_eq rfl) (Jvm.hb hby d_jdk_52_method_16_9) (fun _ _ => ⟨rfl, e1, (by decide : 1 + 0 ≤ _), (by decide : 7 + 0 ≤ _)⟩)
  dsimp only [Pt.U, Pt.locs, Pt.cells, Pt.slots] at X5 l5 y5 z5 st5 hQ5
  subst l5 y5 z5
  obtain ⟨rfl, N5q, K5, Fq5_0⟩ := hQ5
  have N5 := Fr.app N0 N5q
  obtain ⟨h5, e5⟩ : ∃ z, T5.heap = z := ⟨_, rfl⟩
  rw [e5] at K5 Fq5_0
  have z6 : h1.size ≤ h5.size := K5.1
  have lt5_0 : @LT.lt Nat _ b1 h5.size := Fq5_0.lt
  have s7 : ∀ t_, Steps p.tables e below (T5.setTop (mkF m 58 #[.val (.ref ca), .val (.int (0 : Int32)), .val (.int (Int32.ofNat n)), .val (.ref b1), .val (.int (Int32.ofNat n)), .unset] [(.ref b1)])) t_ → Steps p.tables e below (s₁.setTop (entryFrame m #[(.ref ca), (.int (0 : Int32)), (.int (Int32.ofNat n))] 6)) t_ := fun t_ k_ => pre0 t_ (by
    show Steps p.tables e below (s₁.setTop (mkF m 0 #[.val (.ref ca), .val (.int (0 : Int32)), .val (.int (Int32.ofNat n)), .unset, .unset, .unset] [])) t_
    refine XS.iloadN X0.here hx rfl (Jvm.hb hby d_jdk_52_method_16_0) rfl ?_
    refine st1 _ ?_
    show Steps p.tables e below (T1.setTop (mkF m 3 #[.val (.ref ca), .val (.int (0 : Int32)), .val (.int (Int32.ofNat n)), .unset, .unset, .unset] [(.ref b1)])) _
    refine XS.astoreN X1.here hx rfl (Jvm.hb hby d_jdk_52_method_16_3) rfl rfl (l' := #[.val (.ref ca), .val (.int (0 : Int32)), .val (.int (Int32.ofNat n)), .val (.ref b1), .unset, .unset]) rfl ?_
    refine XS.aloadN X1.here hx rfl (Jvm.hb hby d_jdk_52_method_16_4) rfl rfl ?_
    refine XS.iloadN X1.here hx rfl (Jvm.hb hby d_jdk_52_method_16_5) rfl ?_
    refine XS.aloadN X1.here hx rfl (Jvm.hb hby d_jdk_52_method_16_6) rfl rfl ?_
    refine XS.iconst X1.here hx rfl (Jvm.hb hby d_jdk_52_method_16_7) ?_
    refine XS.iloadN X1.here hx rfl (Jvm.hb hby d_jdk_52_method_16_8) rfl ?_
    show Steps p.tables e below (T1.setTop (mkF m 9 #[.val (.ref ca), .val (.int (0 : Int32)), .val (.int (Int32.ofNat n)), .val (.ref b1), .unset, .unset] [(.int (Int32.ofNat n)), (.int (0 : Int32)), (.ref b1), (.int (0 : Int32)), (.ref ca)])) _
    refine st5 _ ?_
    show Steps p.tables e below (T5.setTop (mkF m 12 #[.val (.ref ca), .val (.int (0 : Int32)), .val (.int (Int32.ofNat n)), .val (.ref b1), .unset, .unset] [(.int (Int32.ofNat n))])) _
    refine XS.istore X5.here hx rfl (Jvm.hb hby d_jdk_52_method_16_12) rfl (l' := #[.val (.ref ca), .val (.int (0 : Int32)), .val (.int (Int32.ofNat n)), .val (.ref b1), .val (.int (Int32.ofNat n)), .unset]) rfl ?_
    refine XS.iload X5.here hx rfl (Jvm.hb hby d_jdk_52_method_16_14) rfl ?_
    refine XS.iloadN X5.here hx rfl (Jvm.hb hby d_jdk_52_method_16_16) rfl ?_
    refine XS.icmpYes X5.here hx rfl (pc0 := 17) (pc' := 57) rfl (Jvm.hb hby d_jdk_52_method_16_17) rfl (teq rfl).1 (by decide) (by decide) ?_
    show Steps p.tables e below (T5.setTop (mkF m 57 #[.val (.ref ca), .val (.int (0 : Int32)), .val (.int (Int32.ofNat n)), .val (.ref b1), .val (.int (Int32.ofNat n)), .unset] [])) _
    refine XS.aloadN X5.here hx rfl (Jvm.hb hby d_jdk_52_method_16_57) rfl rfl ?_
    show Steps p.tables e below (T5.setTop (mkF m 58 #[.val (.ref ca), .val (.int (0 : Int32)), .val (.int (Int32.ofNat n)), .val (.ref b1), .val (.int (Int32.ofNat n)), .unset] [(.ref b1)])) t_
    exact k_)
  obtain ⟨fs, hr, hrun, hended, hW, hsame⟩ := X5.leave (v := some (.ref b1)) (fun h => by rw [Bd.returns] at h; cases h)
  refine ⟨_, _, s7 _ ?_, hrun, hended, _, _, rfl, ?_, ⟨_, rfl⟩, hW, hsame.mono (by decide) (by decide)⟩
  · show Steps p.tables e below (T5.setTop (mkF m 58 #[.val (.ref ca), .val (.int (0 : Int32)), .val (.int (Int32.ofNat n)), .val (.ref b1), .val (.int (Int32.ofNat n)), .unset] [(.ref b1)])) _
    jvm_step X5.here [X5.here.top, hx, (Jvm.hb hby d_jdk_52_method_16_58), X5.method', Bd.returns, Value.isRef, FieldType.isReference]
    first | (intro acts; rw [hr _ acts rfl rfl rfl]) | rw [hr _ _ rfl rfl rfl]
    exact Steps.refl _
  · show Q_rmComp Z _ _ _ _ h0 n0 _ T5.heap _
    rw [e5]
    exact ⟨b1, k1, rfl, N5, (((Keep.refl h0 []).ext E1).trans K5 (allS (Or.inr (show h0.size ≤ b1 by omega)) all0)), (own_fixL hlat Fq5_0 hn (by simp)), by omega⟩
theorem pn_java_lang_String : plainName "java/lang/String" = true := by first | (simp [plainName, overriddenIn]; done) | decide +kernel
theorem d_jdk_42_method_149_0 : decode jdk_42_method_149_code 0 = .ok (.aload_n 0, 1) := by decide +kernel
theorem d_jdk_42_method_149_1 : decode jdk_42_method_149_code 1 = .ok (.invokespecial 1, 3) := by decide +kernel
theorem d_jdk_42_method_149_4 : decode jdk_42_method_149_code 4 = .ok (.iload_n 3, 1) := by decide +kernel
theorem d_jdk_42_method_149_5 : decode jdk_42_method_149_code 5 = .ok (.ifCond .ne 22, 3) := by decide +kernel
theorem d_jdk_42_method_149_8 : decode jdk_42_method_149_code 8 = .ok (.aload_n 0, 1) := by decide +kernel
theorem d_jdk_42_method_149_9 : decode jdk_42_method_149_code 9 = .ok (.ldc 7, 2) := by decide +kernel
theorem d_jdk_42_method_149_11 : decode jdk_42_method_149_code 11 = .ok (.getfield 9, 3) := by decide +kernel
theorem d_jdk_42_method_149_14 : decode jdk_42_method_149_code 14 = .ok (.putfield 9, 3) := by decide +kernel
theorem d_jdk_42_method_149_17 : decode jdk_42_method_149_code 17 = .ok (.aload_n 0, 1) := by decide +kernel
theorem d_jdk_42_method_149_18 : decode jdk_42_method_149_code 18 = .ok (.ldc 7, 2) := by decide +kernel
theorem d_jdk_42_method_149_20 : decode jdk_42_method_149_code 20 = .ok (.getfield 15, 3) := by decide +kernel
theorem d_jdk_42_method_149_23 : decode jdk_42_method_149_code 23 = .ok (.putfield 15, 3) := by decide +kernel
theorem d_jdk_42_method_149_26 : decode jdk_42_method_149_code 26 = .ok (.return_, 1) := by decide +kernel
theorem d_jdk_42_method_149_27 : decode jdk_42_method_149_code 27 = .ok (.getstatic 38, 3) := by decide +kernel
theorem d_jdk_42_method_149_30 : decode jdk_42_method_149_code 30 = .ok (.ifCond .eq 28, 3) := by decide +kernel
theorem d_jdk_42_method_149_33 : decode jdk_42_method_149_code 33 = .ok (.aload_n 1, 1) := by decide +kernel
theorem d_jdk_42_method_149_34 : decode jdk_42_method_149_code 34 = .ok (.iload_n 2, 1) := by decide +kernel
theorem d_jdk_42_method_149_35 : decode jdk_42_method_149_code 35 = .ok (.iload_n 3, 1) := by decide +kernel
theorem pd___CII__B : parseMethodDescriptor "([CII)[B" = some ⟨[(.array .char), .int, .int], some (.array .byte)⟩ := by decide +kernel
theorem d_jdk_42_method_149_36 : decode jdk_42_method_149_code 36 = .ok (.invokestatic 177, 3) := by decide +kernel
theorem d_jdk_42_method_149_39 : decode jdk_42_method_149_code 39 = .ok (.astore 5, 2) := by decide +kernel
theorem d_jdk_42_method_149_41 : decode jdk_42_method_149_code 41 = .ok (.aload_n 0, 1) := by decide +kernel
theorem d_jdk_42_method_149_42 : decode jdk_42_method_149_code 42 = .ok (.aload 5, 2) := by decide +kernel
theorem d_jdk_42_method_149_44 : decode jdk_42_method_149_code 44 = .ok (.iload_n 3, 1) := by decide +kernel
theorem pd___BI_B : parseMethodDescriptor "([BI)B" = some ⟨[(.array .byte), .int], some .byte⟩ := by decide +kernel
theorem d_jdk_42_method_149_45 : decode jdk_42_method_149_code 45 = .ok (.invokestatic 47, 3) := by decide +kernel
theorem d_jdk_42_method_149_48 : decode jdk_42_method_149_code 48 = .ok (.putfield 15, 3) := by decide +kernel
theorem d_jdk_42_method_149_51 : decode jdk_42_method_149_code 51 = .ok (.aload_n 0, 1) := by decide +kernel
theorem d_jdk_42_method_149_52 : decode jdk_42_method_149_code 52 = .ok (.aload 5, 2) := by decide +kernel
theorem d_jdk_42_method_149_54 : decode jdk_42_method_149_code 54 = .ok (.putfield 9, 3) := by decide +kernel
theorem d_jdk_42_method_149_57 : decode jdk_42_method_149_code 57 = .ok (.return_, 1) := by decide +kernel
theorem ef_rmIni4 (m : MethodId) (x0 : Addr) (x1 : Addr) (x2 : Int32) (x3 : Int32) : entryFrame m #[(.ref x0), (.ref x1), (.int x2), (.int x3), .null] 6 = mkF m 0 #[.val (.ref x0), .val (.ref x1), .val (.int x2), .val (.int x3), .val .null, .unset] [] := by first | (simp [entryFrame, mkF, argsToLocals, Value.category]; done) | rfl
def Q_rmIni4 (Z : State) (a : Addr) (ca : Addr) (cst : Int32) (cs : List Int32) (kc : ClassId) (n : Nat) (h0 : Heap) (n0 : Nat) (v : Option Value) (h : Heap) (L : List Loc) : Prop := ∃ (b : Addr), ∃ (kb : ClassId), (v = none) ∧ (Fr n0 L) ∧ (Keep h0 h [a]) ∧ (Exa Z h a "java/lang/String") ∧ (Fld Z h a "java/lang/String" "value" "[B" (.ref b)) ∧ (Fld Z h a "java/lang/String" "coder" "B" (.int (own_cod cs))) ∧ (Arv Z h b kb .byte (Int32.ofNat (own_enl cs)) (own_enc cs) (.int (0 : Int32)))
set_option maxRecDepth 65536 in
set_option maxHeartbeats 40000000 in
theorem rmIni4 (l : Launch) (Z : State) (a0 : Array Value) (hw : ∀ d ∈ tables_1, d.before a0 Z = true) (ws : List Jvm.Cond) (a : Addr) (ca : Addr) (cst : Int32) (cs : List Int32) (kc : ClassId) (n : Nat) (h0 : Heap) (n0 : Nat) (Z0 : n0 ≤ h0.size) (I1 : Sta Z Z.heap "java/lang/String" "COMPACT_STRINGS" "Z" (.int cst)) (OX : Old Z n0 h0) (hcst : ¬ (cst = (0 : Int32))) (I2 : Exa Z h0 a "java/lang/String") (I3 : Fld Z h0 a "java/lang/String" "value" "[B" .null) (I4 : Fld Z h0 a "java/lang/String" "coder" "B" (.int (0 : Int32))) (I5 : Arv Z h0 ca kc .char (Int32.ofNat n) (cs.map Value.int) (.int (0 : Int32))) (hn : cs.length = n) (hb : n ≤ 7) (hlat : own_lat cs) (ga : n0 ≤ a) (hac : @Ne Nat a ca) :
    MetFree l (⟨"java/lang/String", "<init>", "([CIILjava/lang/Void;)V"⟩ : MethodName) (head1 (Jvm.Cond.code (⟨"java/lang/String", "<init>", "([CIILjava/lang/Void;)V"⟩ : MethodName) jdk_42_method_149_code 6 none :: ws) ({ frames := 2, cells := 4, slots := 8, locals := 35 } : Room)) (fun ar_ U => ar_ = #[(.ref a), (.ref ca), (.int (0 : Int32)), (.int (Int32.ofNat n)), .null] ∧ Z.Warmed39 U.vm ∧ U.heap = h0 ∧ CHv Z ELs U.vm h0) (fun _ _ _ _ _ => True) (fun _ U oc_ U' => ∃ v L, oc_ = .returned v ∧ Q_rmIni4 Z a ca cst cs kc n h0 n0 v U'.heap L ∧ CHr Z ELs U.vm U.heap U'.vm U'.heap ∧ ReturnedEndW U oc_ U' L ({ frames := 2, cells := 4, slots := 8, locals := 35 } : Room).cells ({ frames := 2, cells := 4, slots := 8, locals := 35 } : Room).slots) := by
  refine MetFree.of_bodySF (plainFor_of_name pn_java_lang_String) hisR ?_
  intro p e s m args below meth c s₁ Bd hml0 hP hK
  obtain ⟨rfl, hZ, hh, hCH⟩ := hP
  have hx := Bd.exec
  have hby := Bd.bytes
  have hml : c.maxLocals = 6 := hml0
  have hown : s.vm.findClass "java/lang/String" = some m.cls := findClass_of_methodNamed Bd.named
  have hnm := (name_of_methodNamed Bd.named Bd.method).1
  have X0 : Stand p l e ({ frames := 2, cells := 4, slots := 8, locals := 35 } : Room) (s.setVm s.vm) m #[(.ref a), (.ref ca), (.int (0 : Int32)), (.int (Int32.ofNat n)), .null] below meth c s₁ [] 0 0 := Stand.of_body Bd
  have e0 : s₁.heap = h0 := by rw [← hh, Bd.state]; rfl
  have N0 := Fr.nil n0
  have pre0 : ∀ t_, Steps p.tables e below (s₁.setTop (mkF m 0 #[.val (.ref a), .val (.ref ca), .val (.int (0 : Int32)), .val (.int (Int32.ofNat n)), .val .null, .unset] [])) t_ → Steps p.tables e below (s₁.setTop (entryFrame m #[(.ref a), (.ref ca), (.int (0 : Int32)), (.int (Int32.ofNat n)), .null] 6)) t_ := fun t_ k_ => castTop (ef_rmIni4 m a ca (0 : Int32) (Int32.ofNat n)) k_
  have hEL : EW Z a0 ELs := own_EW hw
  have wS : ∀ a ∈ Bundle.stringAtoms, a.before a0 Z = true := own_wS hw
  have hS : s.Since s.vm s.heap.size := (State.WarmedH.refl s).since _
  have hk : s.heap.size ≤ h0.size := by rw [hh]; exact Nat.le_refl _
  have CR : CHr Z ELs s.vm h0 s.vm h0 := CHr.refl hCH
  have lt_I2 : @LT.lt Nat _ a h0.size := I2.lt
  have lt_I3 : @LT.lt Nat _ a h0.size := I3.lt
  have lt_I4 : @LT.lt Nat _ a h0.size := I4.lt
  have lt_I5 : @LT.lt Nat _ ca h0.size := I5.lt
  obtain ⟨T1, X1, e1, st1⟩ := initO X0 hx hZ hown (hw _ (List.mem_of_getElem? (i := 28) rfl)) (hw _ (List.mem_of_getElem? (i := 29) rfl)) (hw _ (List.mem_of_getElem? (i := 30) rfl)) e0 (g := (mkF m 1 #[.val (.ref a), .val (.ref ca), .val (.int (0 : Int32)), .val (.int (Int32.ofNat n)), .val .null, .unset] [(.ref a)])) rfl (by rw [hml]; rfl) rfl (Jvm.hb hby d_jdk_42_method_149_1) (by decide) (W := 0) (by show 2 * 0 + _ ≤ _; exact Nat.le_of_eq rfl) (by decide)
  have s2 : ∀ t_, Steps p.tables e below (T1.setTop (mkF m 5 #[.val (.ref a), .val (.ref ca), .val (.int (0 : Int32)), .val (.int (Int32.ofNat n)), .val .null, .unset] [(.int (Int32.ofNat n))])) t_ → Steps p.tables e below (s₁.setTop (entryFrame m #[(.ref a), (.ref ca), (.int (0 : Int32)), (.int (Int32.ofNat n)), .null] 6)) t_ := fun t_ k_ => pre0 t_ (by
    show Steps p.tables e below (s₁.setTop (mkF m 0 #[.val (.ref a), .val (.ref ca), .val (.int (0 : Int32)), .val (.int (Int32.ofNat n)), .val .null, .unset] [])) t_
    refine XS.aloadN X0.here hx rfl (Jvm.hb hby d_jdk_42_method_149_0) rfl rfl ?_
    refine st1 _ ?_
    show Steps p.tables e below (T1.setTop (mkF m 4 #[.val (.ref a), .val (.ref ca), .val (.int (0 : Int32)), .val (.int (Int32.ofNat n)), .val .null, .unset] [])) _
    refine XS.iloadN X1.here hx rfl (Jvm.hb hby d_jdk_42_method_149_4) rfl ?_
    show Steps p.tables e below (T1.setTop (mkF m 5 #[.val (.ref a), .val (.ref ca), .val (.int (0 : Int32)), .val (.int (Int32.ofNat n)), .val .null, .unset] [(.int (Int32.ofNat n))])) t_
    exact k_)
  by_cases h3 : (Int32.ofNat n) = (0 : Int32)
  · have s5 : ∀ t_, Steps p.tables e below (T1.setTop (mkF m 9 #[.val (.ref a), .val (.ref ca), .val (.int (0 : Int32)), .val (.int (Int32.ofNat n)), .val .null, .unset] [(.ref a)])) t_ → Steps p.tables e below (s₁.setTop (entryFrame m #[(.ref a), (.ref ca), (.int (0 : Int32)), (.int (Int32.ofNat n)), .null] 6)) t_ := fun t_ k_ => s2 t_ (by
      show Steps p.tables e below (T1.setTop (mkF m 5 #[.val (.ref a), .val (.ref ca), .val (.int (0 : Int32)), .val (.int (Int32.ofNat n)), .val .null, .unset] [(.int (Int32.ofNat n))])) t_
      refine XS.ifNo X1.here hx rfl (Jvm.hb hby d_jdk_42_method_149_5) rfl ((if0 _ _).trans (teq h3).2) ?_
      show Steps p.tables e below (T1.setTop (mkF m 8 #[.val (.ref a), .val (.ref ca), .val (.int (0 : Int32)), .val (.int (Int32.ofNat n)), .val .null, .unset] [])) _
      refine XS.aloadN X1.here hx rfl (Jvm.hb hby d_jdk_42_method_149_8) rfl rfl ?_
      show Steps p.tables e below (T1.setTop (mkF m 9 #[.val (.ref a), .val (.ref ca), .val (.int (0 : Int32)), .val (.int (Int32.ofNat n)), .val .null, .unset] [(.ref a)])) t_
      exact k_)
    obtain ⟨a4, T4, h4, k4, b4, kk4, X4, e4, E4, hS, hk, hZ, hown, Ex4, Fc4, Fv4, Av4, la4, lb4, Cp4, Li4, Sa4, st4⟩ := ldcCH X1 hx hZ hown (hw _ (List.mem_of_getElem? (i := 92) rfl)) wS e1 hS hk hEL (List.mem_of_getElem? (i := 4) rfl) CR.1 (vs := []) (z := (0 : Int32)) ⟨by decide, by decide⟩ (by decide) rfl (g := (mkF m 9 #[.val (.ref a), .val (.ref ca), .val (.int (0 : Int32)), .val (.int (Int32.ofNat n)), .val .null, .unset] [(.ref a)])) rfl (Jvm.hb hby d_jdk_42_method_149_9) (n := 0) (by decide) (by decide) (by decide) (by decide)
    have z6 : h0.size ≤ h4.size := E4.1
    have CR := CR.trans Cp4
    have la4 : @LT.lt Nat _ a4 h4.size := la4
    have lb4 : @LT.lt Nat _ b4 h4.size := lb4
    obtain ⟨T7, X7, e7, st7⟩ := getF X4 hx hZ hown (host := "") (Or.inl (hw _ (List.mem_of_getElem? (i := 43) rfl))) Via.refl e4 Fv4 (g := (mkF m 11 #[.val (.ref a), .val (.ref ca), .val (.int (0 : Int32)), .val (.int (Int32.ofNat n)), .val .null, .unset] [(.ref a4), (.ref a)])) rfl rfl (Jvm.hb hby d_jdk_42_method_149_11)
    have f8 : Exa Z h4 a "java/lang/String" := (I2.ext E4)
    have f9 : Fld Z h4 a "java/lang/String" "value" "[B" .null := (I3.ext E4)
    obtain ⟨T10, h10, X10, e10, W10, st10⟩ := putF X7 hx hZ hown (host := "") (Or.inl (hw _ (List.mem_of_getElem? (i := 43) rfl))) Via.refl e7 f9 f8 (Or.inr ⟨(hw _ (List.mem_of_getElem? (i := 4) rfl)), rfl, hnm⟩) (hw _ (List.mem_of_getElem? (i := 2) rfl)) (ty := (.array .byte)) (by decide) rfl rfl (g := (mkF m 14 #[.val (.ref a), .val (.ref ca), .val (.int (0 : Int32)), .val (.int (Int32.ofNat n)), .val .null, .unset] [(.ref b4), (.ref a)])) rfl rfl (Jvm.hb hby d_jdk_42_method_149_14)
    have Sf12 : Safe Z ELs T4.vm h4 a := own_safeN hZ.alike f8 f9
    have z11 : h4.size ≤ h10.size := Nat.le_of_eq W10.size.symm
    have Cp11 : CHr Z ELs T4.vm h4 T4.vm h10 := CHr.wr W10 Sf12 CR.1
    have hk := Nat.le_trans hk z11
    have CR := CR.trans Cp11
    have F10 : Fld Z h10 a "java/lang/String" "value" "[B" (.ref b4) := f9.same W10
    have N10 := Fr.snoc X10 N0 (show n0 ≤ a by omega)
    have s14 : ∀ t_, Steps p.tables e below (T10.setTop (mkF m 18 #[.val (.ref a), .val (.ref ca), .val (.int (0 : Int32)), .val (.int (Int32.ofNat n)), .val .null, .unset] [(.ref a)])) t_ → Steps p.tables e below (s₁.setTop (entryFrame m #[(.ref a), (.ref ca), (.int (0 : Int32)), (.int (Int32.ofNat n)), .null] 6)) t_ := fun t_ k_ => s5 t_ (by
      show Steps p.tables e below (T1.setTop (mkF m 9 #[.val (.ref a), .val (.ref ca), .val (.int (0 : Int32)), .val (.int (Int32.ofNat n)), .val .null, .unset] [(.ref a)])) t_
      refine st4 _ ?_
      show Steps p.tables e below (T4.setTop (mkF m 11 #[.val (.ref a), .val (.ref ca), .val (.int (0 : Int32)), .val (.int (Int32.ofNat n)), .val .null, .unset] [(.ref a4), (.ref a)])) _
      refine st7 _ ?_
      show Steps p.tables e below (T7.setTop (mkF m 14 #[.val (.ref a), .val (.ref ca), .val (.int (0 : Int32)), .val (.int (Int32.ofNat n)), .val .null, .unset] [(.ref b4), (.ref a)])) _
      refine st10 _ ?_
      show Steps p.tables e below (T10.setTop (mkF m 17 #[.val (.ref a), .val (.ref ca), .val (.int (0 : Int32)), .val (.int (Int32.ofNat n)), .val .null, .unset] [])) _
      refine XS.aloadN X10.here hx rfl (Jvm.hb hby d_jdk_42_method_149_17) rfl rfl ?_
      show Steps p.tables e below (T10.setTop (mkF m 18 #[.val (.ref a), .val (.ref ca), .val (.int (0 : Int32)), .val (.int (Int32.ofNat n)), .val .null, .unset] [(.ref a)])) t_
      exact k_)
    obtain ⟨a13, T13, h13, k13, b13, kk13, X13, e13, E13, hS, hk, hZ, hown, Ex13, Fc13, Fv13, Av13, la13, lb13, Cp13, Li13, Sa13, st13⟩ := ldcCH X10 hx hZ hown (hw _ (List.mem_of_getElem? (i := 92) rfl)) wS e10 hS hk hEL (List.mem_of_getElem? (i := 4) rfl) CR.1 (vs := []) (z := (0 : Int32)) ⟨by decide, by decide⟩ (by decide) rfl (g := (mkF m 18 #[.val (.ref a), .val (.ref ca), .val (.int (0 : Int32)), .val (.int (Int32.ofNat n)), .val .null, .unset] [(.ref a)])) rfl (Jvm.hb hby d_jdk_42_method_149_18) (n := 0) (by decide) (by decide) (by decide) (by decide)
    have z15 : h10.size ≤ h13.size := E13.1
    have CR := CR.trans Cp13
    have la13 : @LT.lt Nat _ a13 h13.size := la13
    have lb13 : @LT.lt Nat _ b13 h13.size := lb13
    obtain ⟨T16, X16, e16, st16⟩ := getF X13 hx hZ hown (host := "") (Or.inl (hw _ (List.mem_of_getElem? (i := 42) rfl))) Via.refl e13 Fc13 (g := (mkF m 20 #[.val (.ref a), .val (.ref ca), .val (.int (0 : Int32)), .val (.int (Int32.ofNat n)), .val .null, .unset] [(.ref a13), (.ref a)])) rfl rfl (Jvm.hb hby d_jdk_42_method_149_20)
    have f17 : Exa Z h13 a "java/lang/String" := ((f8.wr W10).ext E13)
    have f18 : Fld Z h13 a "java/lang/String" "coder" "B" (.int (0 : Int32)) := (((I4.ext E4).other W10 (Or.inr (slot_ne (Or.inr (hw _ (List.mem_of_getElem? (i := 5) rfl))) (Or.inr (hw _ (List.mem_of_getElem? (i := 4) rfl))) (by decide) (t := .byte) (t' := (.array .byte)) (by decide) (by decide)))).ext E13)
    obtain ⟨T19, h19, X19, e19, W19, st19⟩ := putFN X16 hx hZ hown (hw _ (List.mem_of_getElem? (i := 42) rfl)) Via.refl e16 f18 f17 (Or.inr ⟨(hw _ (List.mem_of_getElem? (i := 5) rfl)), rfl, hnm⟩) (hw _ (List.mem_of_getElem? (i := 2) rfl)) (ty := .byte) (v' := (.int (0 : Int32))) (by decide) rfl rfl (g := (mkF m 23 #[.val (.ref a), .val (.ref ca), .val (.int (0 : Int32)), .val (.int (Int32.ofNat n)), .val .null, .unset] [(.int (0 : Int32)), (.ref a)])) rfl rfl (Jvm.hb hby d_jdk_42_method_149_23)
    have Sf21 : Safe Z ELs T13.vm h13 a := (Cp13.safe (show @LT.lt Nat _ a h10.size by omega) (Cp11.safe (show @LT.lt Nat _ a h4.size by omega) Sf12))
    have z20 : h13.size ≤ h19.size := Nat.le_of_eq W19.size.symm
    have Cp20 : CHr Z ELs T13.vm h13 T13.vm h19 := CHr.wr W19 Sf21 CR.1
    have hk := Nat.le_trans hk z20
    have CR := CR.trans Cp20
    have F19 : Fld Z h19 a "java/lang/String" "coder" "B" (.int (0 : Int32)) := f18.same W19
    have N19 := Fr.snoc X19 N10 (show n0 ≤ a by omega)
    have s22 : ∀ t_, Steps p.tables e below (T19.setTop (mkF m 26 #[.val (.ref a), .val (.ref ca), .val (.int (0 : Int32)), .val (.int (Int32.ofNat n)), .val .null, .unset] [])) t_ → Steps p.tables e below (s₁.setTop (entryFrame m #[(.ref a), (.ref ca), (.int (0 : Int32)), (.int (Int32.ofNat n)), .null] 6)) t_ := fun t_ k_ => s14 t_ (by
      show Steps p.tables e below (T10.setTop (mkF m 18 #[.val (.ref a), .val (.ref ca), .val (.int (0 : Int32)), .val (.int (Int32.ofNat n)), .val .null, .unset] [(.ref a)])) t_
      refine st13 _ ?_
      show Steps p.tables e below (T13.setTop (mkF m 20 #[.val (.ref a), .val (.ref ca), .val (.int (0 : Int32)), .val (.int (Int32.ofNat n)), .val .null, .unset] [(.ref a13), (.ref a)])) _
      refine st16 _ ?_
      show Steps p.tables e below (T16.setTop (mkF m 23 #[.val (.ref a), .val (.ref ca), .val (.int (0 : Int32)), .val (.int (Int32.ofNat n)), .val .null, .unset] [(.int (0 : Int32)), (.ref a)])) _
      refine st19 _ ?_
      show Steps p.tables e below (T19.setTop (mkF m 26 #[.val (.ref a), .val (.ref ca), .val (.int (0 : Int32)), .val (.int (Int32.ofNat n)), .val .null, .unset] [])) _
      show Steps p.tables e below (T19.setTop (mkF m 26 #[.val (.ref a), .val (.ref ca), .val (.int (0 : Int32)), .val (.int (Int32.ofNat n)), .val .null, .unset] [])) t_
      exact k_)
    obtain ⟨fs, hr, hrun, hended, hREW⟩ := X19.leaveW hS (by first | exact Nat.le_refl _ | (rw [e19]; exact hk)) (v := none) (fun _ => rfl)
    have hnil : cs = [] := List.eq_nil_of_length_eq_zero (hn.trans (own_inj (n := 0) (by omega) (by decide) h3))
    have F23 : Fld Z h19 a "java/lang/String" "coder" "B" (.int (own_cod cs)) := by have q := F19; rw [← own_cod0 (cs := cs) (by rw [hnil]; exact own_lat0)] at q; exact q
    have f24 : Arv Z h19 b4 kk4 .byte (0 : Int32) [] (.int (0 : Int32)) := (((Av4.other W10 (Ne.symm (Exa.neArv f8 Av4 (hw _ (List.mem_of_getElem? (i := 2) rfl))))).ext E13).other W19 (Ne.symm (Exa.neArv f17 ((Av4.other W10 (Ne.symm (Exa.neArv f8 Av4 (hw _ (List.mem_of_getElem? (i := 2) rfl))))).ext E13) (hw _ (List.mem_of_getElem? (i := 2) rfl)))))
    have f25 : Exa Z h19 a "java/lang/String" := (f17.wr W19)
    have f26 : Fld Z h19 a "java/lang/String" "value" "[B" (.ref b4) := ((F10.ext E13).other W19 (Or.inr (slot_ne (Or.inr (hw _ (List.mem_of_getElem? (i := 4) rfl))) (Or.inr (hw _ (List.mem_of_getElem? (i := 5) rfl))) (by decide) (t := (.array .byte)) (t' := .byte) (by decide) (by decide))))
    refine ⟨_, _, s22 _ ?_, hrun, hended, _, _, rfl, ?_, (by show CHr Z ELs s.vm s.heap T19.vm T19.heap; rw [hh, e19]; exact CR.trans (CHv.at X19 hZ hEL CR.1)), hREW.1, hREW.2.1, hREW.2.2.1, hREW.2.2.2.mono (by decide) (by decide)⟩
    · show Steps p.tables e below (T19.setTop (mkF m 26 #[.val (.ref a), .val (.ref ca), .val (.int (0 : Int32)), .val (.int (Int32.ofNat n)), .val .null, .unset] [])) _
      exact X19.returnOut hx Bd.returns (Jvm.hb hby d_jdk_42_method_149_26) hr
    · show Q_rmIni4 Z _ _ _ _ _ _ h0 n0 _ T19.heap _
      rw [e19]
      exact ⟨b4, kk4, rfl, N19, (((((Keep.refl h0 [a]).ext E4).wr W10 (Or.inl (by simp))).ext E13).wr W19 (Or.inl (by simp))), f25, f26, F23, (own_fix0 hnil f24)⟩
  · obtain ⟨T27, X27, e27, st27⟩ := getS2 X1 hx hZ hown (host := "") (Or.inl (hw _ (List.mem_of_getElem? (i := 31) rfl))) Via.refl e1 (I1.ext OX.2) (g := (mkF m 27 #[.val (.ref a), .val (.ref ca), .val (.int (0 : Int32)), .val (.int (Int32.ofNat n)), .val .null, .unset] [])) rfl (Jvm.hb hby d_jdk_42_method_149_27)
    have Zc28 : n0 ≤ h0.size := by omega
    obtain ⟨_, _, ⟨T29, L29, k29, n29⟩, -, X29, ⟨Lc29, hQ29, l29, y29, z29⟩, st29⟩ := Jvm.LawKit.callS X27 hx (y := (⟨"java/lang/StringUTF16", "compress", "([CII)[B"⟩ : MethodName)) hown (mvT hZ (hw _ (List.mem_of_getElem? (i := 32) rfl))) (mvT hZ (hw _ (List.mem_of_getElem? (i := 33) rfl))) (mvT hZ (hw _ (List.mem_of_getElem? (i := 34) rfl))) (mvT hZ (hw _ (List.mem_of_getElem? (i := 35) rfl))) (by decide) (backOf (W := 0) (rmComp l Z a0 hw [] ca cs kc n h0 n0 Zc28 I5 (hn : cs.length = n) (hb : n ≤ 7) (hlat : own_lat cs)) hZ (hw _ (List.mem_of_getElem? (i := 35) rfl)) (hw _ (List.mem_of_getElem? (i := 34) rfl)) (by decide) (by decide)) (g := (mkF m 36 #[.val (.ref a), .val (.ref ca), .val (.int (0 : Int32)), .val (.int (Int32.ofNat n)), .val .null, .unset] [(.int (Int32.ofNat n)), (.int (0 : Int32)), (.ref ca)])) rfl (by rw [hml]; rfl) (argsL := [(.ref ca), (.int (0 : Int32)), (.int (Int32.ofNat n))]) (rest := []) (lenOf pd___CII__B rfl) rfl (by show 2 * 0 + _ ≤ _; exact Nat.le_of_eq rfl) (Jvm.hb hby d_jdk_42_method_149_36) (fun _ _ => ⟨rfl, e27, (by decide : 0 + 1 ≤ _), (by decide : 0 + 7 ≤ _)⟩)
    dsimp only [Pt.U, Pt.locs, Pt.cells, Pt.slots] at X29 l29 y29 z29 st29 hQ29
    subst l29 y29 z29
    obtain ⟨b_29, kb_29, rfl, N29q, K29, Fq29_0, P29_0⟩ := hQ29
    have N29 := Fr.app N0 N29q
    obtain ⟨h29, e29⟩ : ∃ z, T29.heap = z := ⟨_, rfl⟩
    rw [e29] at K29 Fq29_0
    have z30 : h0.size ≤ h29.size := K29.1
    have Cp30 : CHr Z ELs s.vm h0 s.vm h29 := CHr.keep K29 sf0 CR.1
    have hk := Nat.le_trans hk z30
    have CR := CR.trans Cp30
    have lt29_0 : @LT.lt Nat _ b_29 h29.size := Fq29_0.lt
    have Zc31 : n0 ≤ h29.size := by omega
    obtain ⟨_, _, ⟨T32, L32, k32, n32⟩, -, X32, ⟨Lc32, hQ32, l32, y32, z32⟩, st32⟩ := Jvm.LawKit.callS X29 hx (y := (⟨"java/lang/StringUTF16", "coderFromArrayLen", "([BI)B"⟩ : MethodName)) hown (mvT hZ (hw _ (List.mem_of_getElem? (i := 39) rfl))) (mvT hZ (hw _ (List.mem_of_getElem? (i := 40) rfl))) (mvT hZ (hw _ (List.mem_of_getElem? (i := 34) rfl))) (mvT hZ (hw _ (List.mem_of_getElem? (i := 41) rfl))) (by decide) (backOf (W := 1) (rmCod l Z a0 hw [] b_29 (Int32.ofNat n) kb_29 (Int32.ofNat (own_enl cs)) (own_enc cs) h29 n0 Zc31 Fq29_0) hZ (hw _ (List.mem_of_getElem? (i := 41) rfl)) (hw _ (List.mem_of_getElem? (i := 34) rfl)) (by decide) (by decide)) (g := (mkF m 45 #[.val (.ref a), .val (.ref ca), .val (.int (0 : Int32)), .val (.int (Int32.ofNat n)), .val .null, .val (.ref b_29)] [(.int (Int32.ofNat n)), (.ref b_29), (.ref a)])) rfl (by rw [hml]; rfl) (argsL := [(.ref b_29), (.int (Int32.ofNat n))]) (rest := [(.ref a)]) (lenOf pd___BI_B rfl) rfl (by show 2 * 0 + _ ≤ _; exact Nat.le_of_eq rfl) (Jvm.hb hby d_jdk_42_method_149_45) (fun _ _ => ⟨rfl, e29, (by decide : 1 + 0 ≤ _), (by decide : 7 + 0 ≤ _)⟩)
    dsimp only [Pt.U, Pt.locs, Pt.cells, Pt.slots] at X32 l32 y32 z32 st32 hQ32
    subst l32 y32 z32
    obtain ⟨rfl, N32q, e32⟩ := hQ32
    have N32 := Fr.app N29 N32q
    have f33 : Exa Z h29 a "java/lang/String" := (I2.keep K29)
    have f34 : Fld Z h29 a "java/lang/String" "coder" "B" (.int (0 : Int32)) := (I4.keep K29 nin0)
    obtain ⟨T35, h35, X35, e35, W35, st35⟩ := putFN X32 hx hZ hown (hw _ (List.mem_of_getElem? (i := 42) rfl)) Via.refl e32 f34 f33 (Or.inr ⟨(hw _ (List.mem_of_getElem? (i := 5) rfl)), rfl, hnm⟩) (hw _ (List.mem_of_getElem? (i := 2) rfl)) (ty := .byte) (v' := (.int (own_cod cs))) (by decide) (own_cnar cs) (own_cfit cs) (g := (mkF m 48 #[.val (.ref a), .val (.ref ca), .val (.int (0 : Int32)), .val (.int (Int32.ofNat n)), .val .null, .val (.ref b_29)] [(.int (own_cod cs)), (.ref a)])) rfl rfl (Jvm.hb hby d_jdk_42_method_149_48)
    have f38 : Fld Z h29 a "java/lang/String" "value" "[B" .null := (I3.keep K29 nin0)
    have Sf37 : Safe Z ELs s.vm h29 a := own_safeN hZ.alike f33 f38
    have z36 : h29.size ≤ h35.size := Nat.le_of_eq W35.size.symm
    have Cp36 : CHr Z ELs s.vm h29 s.vm h35 := CHr.wr W35 Sf37 CR.1
    have hk := Nat.le_trans hk z36
    have CR := CR.trans Cp36
    have F35 : Fld Z h35 a "java/lang/String" "coder" "B" (.int (own_cod cs)) := f34.same W35
    have N35 := Fr.snoc X35 N32 (show n0 ≤ a by omega)
    have f39 : Exa Z h35 a "java/lang/String" := (f33.wr W35)
    have f40 : Fld Z h35 a "java/lang/String" "value" "[B" .null := (f38.other W35 (Or.inr (slot_ne (Or.inr (hw _ (List.mem_of_getElem? (i := 4) rfl))) (Or.inr (hw _ (List.mem_of_getElem? (i := 5) rfl))) (by decide) (t := (.array .byte)) (t' := .byte) (by decide) (by decide))))
    obtain ⟨T41, h41, X41, e41, W41, st41⟩ := putF X35 hx hZ hown (host := "") (Or.inl (hw _ (List.mem_of_getElem? (i := 43) rfl))) Via.refl e35 f40 f39 (Or.inr ⟨(hw _ (List.mem_of_getElem? (i := 4) rfl)), rfl, hnm⟩) (hw _ (List.mem_of_getElem? (i := 2) rfl)) (ty := (.array .byte)) (by decide) rfl rfl (g := (mkF m 54 #[.val (.ref a), .val (.ref ca), .val (.int (0 : Int32)), .val (.int (Int32.ofNat n)), .val .null, .val (.ref b_29)] [(.ref b_29), (.ref a)])) rfl rfl (Jvm.hb hby d_jdk_42_method_149_54)
    have Sf43 : Safe Z ELs s.vm h35 a := (Cp36.safe (show @LT.lt Nat _ a h29.size by omega) Sf37)
    have z42 : h35.size ≤ h41.size := Nat.le_of_eq W41.size.symm
    have Cp42 : CHr Z ELs s.vm h35 s.vm h41 := CHr.wr W41 Sf43 CR.1
    have hk := Nat.le_trans hk z42
    have CR := CR.trans Cp42
    have F41 : Fld Z h41 a "java/lang/String" "value" "[B" (.ref b_29) := f40.same W41
    have N41 := Fr.snoc X41 N35 (show n0 ≤ a by omega)
    have s44 : ∀ t_, Steps p.tables e below (T41.setTop (mkF m 57 #[.val (.ref a), .val (.ref ca), .val (.int (0 : Int32)), .val (.int (Int32.ofNat n)), .val .null, .val (.ref b_29)] [])) t_ → Steps p.tables e below (s₁.setTop (entryFrame m #[(.ref a), (.ref ca), (.int (0 : Int32)), (.int (Int32.ofNat n)), .null] 6)) t_ := fun t_ k_ => s2 t_ (by
      show Steps p.tables e below (T1.setTop (mkF m 5 #[.val (.ref a), .val (.ref ca), .val (.int (0 : Int32)), .val (.int (Int32.ofNat n)), .val .null, .unset] [(.int (Int32.ofNat n))])) t_
      refine XS.ifYes X1.here hx rfl (pc0 := 5) (pc' := 27) rfl (Jvm.hb hby d_jdk_42_method_149_5) rfl ((if0 _ _).trans (feq h3).2) (by decide) (by decide) ?_
      show Steps p.tables e below (T1.setTop (mkF m 27 #[.val (.ref a), .val (.ref ca), .val (.int (0 : Int32)), .val (.int (Int32.ofNat n)), .val .null, .unset] [])) _
      refine st27 _ ?_
      show Steps p.tables e below (T27.setTop (mkF m 30 #[.val (.ref a), .val (.ref ca), .val (.int (0 : Int32)), .val (.int (Int32.ofNat n)), .val .null, .unset] [(.int cst)])) _
      refine XS.ifNo X27.here hx rfl (Jvm.hb hby d_jdk_42_method_149_30) rfl ((if0 _ _).trans (feq hcst).1) ?_
      show Steps p.tables e below (T27.setTop (mkF m 33 #[.val (.ref a), .val (.ref ca), .val (.int (0 : Int32)), .val (.int (Int32.ofNat n)), .val .null, .unset] [])) _
      refine XS.aloadN X27.here hx rfl (Jvm.hb hby d_jdk_42_method_149_33) rfl rfl ?_
      refine XS.iloadN X27.here hx rfl (Jvm.hb hby d_jdk_42_method_149_34) rfl ?_
      refine XS.iloadN X27.here hx rfl (Jvm.hb hby d_jdk_42_method_149_35) rfl ?_
      refine st29 _ ?_
      show Steps p.tables e below (T29.setTop (mkF m 39 #[.val (.ref a), .val (.ref ca), .val (.int (0 : Int32)), .val (.int (Int32.ofNat n)), .val .null, .unset] [(.ref b_29)])) _
      refine XS.astore X29.here hx rfl (Jvm.hb hby d_jdk_42_method_149_39) rfl rfl (l' := #[.val (.ref a), .val (.ref ca), .val (.int (0 : Int32)), .val (.int (Int32.ofNat n)), .val .null, .val (.ref b_29)]) rfl ?_
      refine XS.aloadN X29.here hx rfl (Jvm.hb hby d_jdk_42_method_149_41) rfl rfl ?_
      refine XS.aload X29.here hx rfl (Jvm.hb hby d_jdk_42_method_149_42) rfl rfl ?_
      refine XS.iloadN X29.here hx rfl (Jvm.hb hby d_jdk_42_method_149_44) rfl ?_
      refine st32 _ ?_
      show Steps p.tables e below (T32.setTop (mkF m 48 #[.val (.ref a), .val (.ref ca), .val (.int (0 : Int32)), .val (.int (Int32.ofNat n)), .val .null, .val (.ref b_29)] [(.int (nar .byte (own_lo (ushr ((Int32.ofNat n) - (Int32.ofNat (own_enl cs))) (31 : Int32))))), (.ref a)])) _
      refine castTop (g' := (mkF m 48 #[.val (.ref a), .val (.ref ca), .val (.int (0 : Int32)), .val (.int (Int32.ofNat n)), .val .null, .val (.ref b_29)] [(.int (own_cod cs)), (.ref a)])) (by rw [own_codl hn (own_pos h3) (by omega)]) ?_
      show Steps p.tables e below (T32.setTop (mkF m 48 #[.val (.ref a), .val (.ref ca), .val (.int (0 : Int32)), .val (.int (Int32.ofNat n)), .val .null, .val (.ref b_29)] [(.int (own_cod cs)), (.ref a)])) _
      refine st35 _ ?_
      show Steps p.tables e below (T35.setTop (mkF m 51 #[.val (.ref a), .val (.ref ca), .val (.int (0 : Int32)), .val (.int (Int32.ofNat n)), .val .null, .val (.ref b_29)] [])) _
      refine XS.aloadN X35.here hx rfl (Jvm.hb hby d_jdk_42_method_149_51) rfl rfl ?_
      refine XS.aload X35.here hx rfl (Jvm.hb hby d_jdk_42_method_149_52) rfl rfl ?_
      refine st41 _ ?_
      show Steps p.tables e below (T41.setTop (mkF m 57 #[.val (.ref a), .val (.ref ca), .val (.int (0 : Int32)), .val (.int (Int32.ofNat n)), .val .null, .val (.ref b_29)] [])) _
      show Steps p.tables e below (T41.setTop (mkF m 57 #[.val (.ref a), .val (.ref ca), .val (.int (0 : Int32)), .val (.int (Int32.ofNat n)), .val .null, .val (.ref b_29)] [])) t_
      exact k_)
    obtain ⟨fs, hr, hrun, hended, hREW⟩ := X41.leaveW hS (by first | exact Nat.le_refl _ | (rw [e41]; exact hk)) (v := none) (fun _ => rfl)
    have f45 : Arv Z h41 b_29 kb_29 .byte (Int32.ofNat (own_enl cs)) (own_enc cs) (.int (0 : Int32)) := ((Fq29_0.other W35 (show @Ne Nat b_29 a by omega)).other W41 (show @Ne Nat b_29 a by omega))
    have f46 : Exa Z h41 a "java/lang/String" := (f39.wr W41)
    have f47 : Fld Z h41 a "java/lang/String" "coder" "B" (.int (own_cod cs)) := (F35.other W41 (Or.inr (slot_ne (Or.inr (hw _ (List.mem_of_getElem? (i := 5) rfl))) (Or.inr (hw _ (List.mem_of_getElem? (i := 4) rfl))) (by decide) (t := .byte) (t' := (.array .byte)) (by decide) (by decide))))
    refine ⟨_, _, s44 _ ?_, hrun, hended, _, _, rfl, ?_, (by show CHr Z ELs s.vm s.heap T41.vm T41.heap; rw [hh, e41]; exact CR.trans (CHv.at X41 hZ hEL CR.1)), hREW.1, hREW.2.1, hREW.2.2.1, hREW.2.2.2.mono (by decide) (by decide)⟩
    · show Steps p.tables e below (T41.setTop (mkF m 57 #[.val (.ref a), .val (.ref ca), .val (.int (0 : Int32)), .val (.int (Int32.ofNat n)), .val .null, .val (.ref b_29)] [])) _
      exact X41.returnOut hx Bd.returns (Jvm.hb hby d_jdk_42_method_149_57) hr
    · show Q_rmIni4 Z _ _ _ _ _ _ h0 n0 _ T41.heap _
      rw [e41]
      exact ⟨b_29, kb_29, rfl, N41, ((((Keep.refl h0 [a]).trans K29 all0).wr W35 (Or.inl (by simp))).wr W41 (Or.inl (by simp))), f46, F41, f47, f45⟩
theorem d_jdk_42_method_3_0 : decode jdk_42_method_3_code 0 = .ok (.aload_n 0, 1) := by decide +kernel
theorem d_jdk_42_method_3_1 : decode jdk_42_method_3_code 1 = .ok (.aload_n 1, 1) := by decide +kernel
theorem d_jdk_42_method_3_2 : decode jdk_42_method_3_code 2 = .ok (.iconst 0, 1) := by decide +kernel
theorem d_jdk_42_method_3_3 : decode jdk_42_method_3_code 3 = .ok (.aload_n 1, 1) := by decide +kernel
theorem d_jdk_42_method_3_4 : decode jdk_42_method_3_code 4 = .ok (.arraylength, 1) := by decide +kernel
theorem d_jdk_42_method_3_5 : decode jdk_42_method_3_code 5 = .ok (.aconst_null, 1) := by decide +kernel
theorem pd___CIILjava_lang_Void__V : parseMethodDescriptor "([CIILjava/lang/Void;)V" = some ⟨[(.array .char), .int, .int, (.object "java/lang/Void")], none⟩ := by decide +kernel
theorem d_jdk_42_method_3_6 : decode jdk_42_method_3_code 6 = .ok (.invokespecial 27, 3) := by decide +kernel
theorem d_jdk_42_method_3_9 : decode jdk_42_method_3_code 9 = .ok (.return_, 1) := by decide +kernel
theorem ef_rmIni1 (m : MethodId) (x0 : Addr) (x1 : Addr) : entryFrame m #[(.ref x0), (.ref x1)] 2 = mkF m 0 #[.val (.ref x0), .val (.ref x1)] [] := by first | (simp [entryFrame, mkF, argsToLocals, Value.category]; done) | rfl
def Q_rmIni1 (Z : State) (a : Addr) (ca : Addr) (cst : Int32) (cs : List Int32) (kc : ClassId) (n : Nat) (h0 : Heap) (n0 : Nat) (v : Option Value) (h : Heap) (L : List Loc) : Prop := ∃ (b : Addr), ∃ (kb : ClassId), (v = none) ∧ (Fr n0 L) ∧ (Keep h0 h [a]) ∧ (Exa Z h a "java/lang/String") ∧ (Fld Z h a "java/lang/String" "value" "[B" (.ref b)) ∧ (Fld Z h a "java/lang/String" "coder" "B" (.int (own_cod cs))) ∧ (Arv Z h b kb .byte (Int32.ofNat (own_enl cs)) (own_enc cs) (.int (0 : Int32)))
set_option maxRecDepth 65536 in
set_option maxHeartbeats 40000000 in
theorem rmIni1 (l : Launch) (Z : State) (a0 : Array Value) (hw : ∀ d ∈ tables_1, d.before a0 Z = true) (ws : List Jvm.Cond) (a : Addr) (ca : Addr) (cst : Int32) (cs : List Int32) (kc : ClassId) (n : Nat) (h0 : Heap) (n0 : Nat) (Z0 : n0 ≤ h0.size) (I1 : Sta Z Z.heap "java/lang/String" "COMPACT_STRINGS" "Z" (.int cst)) (OX : Old Z n0 h0) (hcst : ¬ (cst = (0 : Int32))) (I2 : Exa Z h0 a "java/lang/String") (I3 : Fld Z h0 a "java/lang/String" "value" "[B" .null) (I4 : Fld Z h0 a "java/lang/String" "coder" "B" (.int (0 : Int32))) (I5 : Arv Z h0 ca kc .char (Int32.ofNat n) (cs.map Value.int) (.int (0 : Int32))) (hn : cs.length = n) (hb : n ≤ 7) (hlat : own_lat cs) (ga : n0 ≤ a) (hac : @Ne Nat a ca) :
    MetFree l (⟨"java/lang/String", "<init>", "([C)V"⟩ : MethodName) (head1 (Jvm.Cond.code (⟨"java/lang/String", "<init>", "([C)V"⟩ : MethodName) jdk_42_method_3_code 2 none :: ws) ({ frames := 3, cells := 4, slots := 8, locals := 52 } : Room)) (fun ar_ U => ar_ = #[(.ref a), (.ref ca)] ∧ Z.Warmed39 U.vm ∧ U.heap = h0 ∧ CHv Z ELs U.vm h0) (fun _ _ _ _ _ => True) (fun _ U oc_ U' => ∃ v L, oc_ = .returned v ∧ Q_rmIni1 Z a ca cst cs kc n h0 n0 v U'.heap L ∧ CHr Z ELs U.vm U.heap U'.vm U'.heap ∧ ReturnedEndW U oc_ U' L ({ frames := 3, cells := 4, slots := 8, locals := 52 } : Room).cells ({ frames := 3, cells := 4, slots := 8, locals := 52 } : Room).slots) := by
  refine MetFree.of_bodySF (plainFor_of_name pn_java_lang_String) hisR ?_
  intro p e s m args below meth c s₁ Bd hml0 hP hK
  obtain ⟨rfl, hZ, hh, hCH⟩ := hP
  have hx := Bd.exec
  have hby := Bd.bytes
  have hml : c.maxLocals = 2 := hml0
  have hown : s.vm.findClass "java/lang/String" = some m.cls := findClass_of_methodNamed Bd.named
  have hnm := (name_of_methodNamed Bd.named Bd.method).1
  have X0 : Stand p l e ({ frames := 3, cells := 4, slots := 8, locals := 52 } : Room) (s.setVm s.vm) m #[(.ref a), (.ref ca)] below meth c s₁ [] 0 0 := Stand.of_body Bd
  have e0 : s₁.heap = h0 := by rw [← hh, Bd.state]; rfl
  have N0 := Fr.nil n0
  have pre0 : ∀ t_, Steps p.tables e below (s₁.setTop (mkF m 0 #[.val (.ref a), .val (.ref ca)] [])) t_ → Steps p.tables e below (s₁.setTop (entryFrame m #[(.ref a), (.ref ca)] 2)) t_ := fun t_ k_ => castTop (ef_rmIni1 m a ca) k_
  have hEL : EW Z a0 ELs := own_EW hw
  have wS : ∀ a ∈ Bundle.stringAtoms, a.before a0 Z = true := own_wS hw
  have hS : s.Since s.vm s.heap.size := (State.WarmedH.refl s).since _
  have hk : s.heap.size ≤ h0.size := by rw [hh]; exact Nat.le_refl _
  have CR : CHr Z ELs s.vm h0 s.vm h0 := CHr.refl hCH
  have lt_I2 : @LT.lt Nat _ a h0.size := I2.lt
  have lt_I3 : @LT.lt Nat _ a h0.size := I3.lt
  have lt_I4 : @LT.lt Nat _ a h0.size := I4.lt
  have lt_I5 : @LT.lt Nat _ ca h0.size := I5.lt
  obtain ⟨cl1, Ar1, -, S1, M1, -, -⟩ := id I5
  have Zc2 : n0 ≤ h0.size := by omega
  have s4 : ∀ t_, Steps p.tables e below (s₁.setTop (mkF m 6 #[.val (.ref a), .val (.ref ca)] [.null, (.int (Int32.ofNat n)), (.int (0 : Int32)), (.ref ca), (.ref a)])) t_ → Steps p.tables e below (s₁.setTop (entryFrame m #[(.ref a), (.ref ca)] 2)) t_ := fun t_ k_ => pre0 t_ (by
    show Steps p.tables e below (s₁.setTop (mkF m 0 #[.val (.ref a), .val (.ref ca)] [])) t_
    refine XS.aloadN X0.here hx rfl (Jvm.hb hby d_jdk_42_method_3_0) rfl rfl ?_
    refine XS.aloadN X0.here hx rfl (Jvm.hb hby d_jdk_42_method_3_1) rfl rfl ?_
    refine XS.iconst X0.here hx rfl (Jvm.hb hby d_jdk_42_method_3_2) ?_
    refine XS.aloadN X0.here hx rfl (Jvm.hb hby d_jdk_42_method_3_3) rfl rfl ?_
    refine X0.arraylength hx (by rw [e0]; exact Ar1.1) (State.isArrayOf_alike hZ.alike Ar1.2.1) (g := (mkF m 4 #[.val (.ref a), .val (.ref ca)] [(.ref ca), (.int (0 : Int32)), (.ref ca), (.ref a)])) rfl rfl (Jvm.hb hby d_jdk_42_method_3_4) _ ?_
    rw [len_of S1 M1]
    show Steps p.tables e below (s₁.setTop (mkF m 5 #[.val (.ref a), .val (.ref ca)] [(.int (Int32.ofNat n)), (.int (0 : Int32)), (.ref ca), (.ref a)])) _
    refine XS.aconstNull X0.here hx rfl (Jvm.hb hby d_jdk_42_method_3_5) ?_
    show Steps p.tables e below (s₁.setTop (mkF m 6 #[.val (.ref a), .val (.ref ca)] [.null, (.int (Int32.ofNat n)), (.int (0 : Int32)), (.ref ca), (.ref a)])) t_
    exact k_)
  obtain ⟨_, _, ⟨T3, L3, k3, n3⟩, -, Xr3, hSr3, hg3, ⟨Lc3, hQ3, l3, y3, z3, Cp3⟩, st3⟩ := X0.specialBackS hx (y := (⟨"java/lang/String", "<init>", "([CIILjava/lang/Void;)V"⟩ : MethodName)) rfl hown (mvT hZ (hw _ (List.mem_of_getElem? (i := 24) rfl))) (mvT hZ (hw _ (List.mem_of_getElem? (i := 25) rfl))) (mvT hZ (hw _ (List.mem_of_getElem? (i := 27) rfl))) (by decide) (backOfSH (s := s) (vm0 := s.vm) (W := 0) (rmIni4 l Z a0 hw [] a ca cst cs kc n h0 n0 Zc2 I1 OX (hcst : ¬ (cst = (0 : Int32))) I2 I3 I4 I5 (hn : cs.length = n) (hb : n ≤ 7) (hlat : own_lat cs) (ga : n0 ≤ a) (hac : @Ne Nat a ca)) hZ (hw _ (List.mem_of_getElem? (i := 27) rfl)) (hw _ (List.mem_of_getElem? (i := 1) rfl)) (by decide) (by decide) hEL CR.1) (g := (mkF m 6 #[.val (.ref a), .val (.ref ca)] [.null, (.int (Int32.ofNat n)), (.int (0 : Int32)), (.ref ca), (.ref a)])) rfl (by rw [hml]; rfl) (Steps.refl _) (a := a) (argsL := [(.ref ca), (.int (0 : Int32)), (.int (Int32.ofNat n)), .null]) (rest := []) (lenOf pd___CIILjava_lang_Void__V rfl) rfl (by show 2 * 0 + _ ≤ _; exact Nat.le_of_eq rfl) (Jvm.hb hby d_jdk_42_method_3_6) (fun _ _ => ⟨rfl, e0, (by decide : 0 + 4 ≤ _), (by decide : 0 + 8 ≤ _)⟩)
  dsimp only [Pt.U, Pt.locs, Pt.cells, Pt.slots] at Xr3 hSr3 hg3 l3 y3 z3 st3 hQ3 Cp3
  subst l3 y3 z3
  obtain ⟨X3, hS, hZ, hown⟩ := rebS (own := "java/lang/String") hS (by first | exact Nat.le_refl _ | (rw [e0]; exact hk)) Xr3 hSr3 hg3 hZ hown
  obtain ⟨b_3, kb_3, rfl, N3q, K3, Fq3_0, Fq3_1, Fq3_2, Fq3_3⟩ := hQ3
  have N3 := Fr.app N0 N3q
  obtain ⟨h3, e3⟩ : ∃ z, T3.heap = z := ⟨_, rfl⟩
  rw [e3] at K3 Fq3_0 Fq3_1 Fq3_2 Fq3_3 Cp3
  have hk : T3.heap.size ≤ h3.size := Nat.le_of_eq (congrArg Array.size e3)
  have z5 : h0.size ≤ h3.size := K3.1
  have CR := CR.trans Cp3
  have lt3_0 : @LT.lt Nat _ a h3.size := Fq3_0.lt
  have lt3_3 : @LT.lt Nat _ b_3 h3.size := Fq3_3.lt
  have s6 : ∀ t_, Steps p.tables e below (T3.setTop (mkF m 9 #[.val (.ref a), .val (.ref ca)] [])) t_ → Steps p.tables e below (s₁.setTop (entryFrame m #[(.ref a), (.ref ca)] 2)) t_ := fun t_ k_ => s4 t_ (by
    show Steps p.tables e below (s₁.setTop (mkF m 6 #[.val (.ref a), .val (.ref ca)] [.null, (.int (Int32.ofNat n)), (.int (0 : Int32)), (.ref ca), (.ref a)])) t_
    refine st3.trans ?_
    show Steps p.tables e below (T3.setTop (mkF m 9 #[.val (.ref a), .val (.ref ca)] [])) _
    show Steps p.tables e below (T3.setTop (mkF m 9 #[.val (.ref a), .val (.ref ca)] [])) t_
    exact k_)
  obtain ⟨fs, hr, hrun, hended, hREW⟩ := X3.leaveW hS (by first | exact Nat.le_refl _ | (rw [e3]; exact hk)) (v := none) (fun _ => rfl)
  refine ⟨_, _, s6 _ ?_, hrun, hended, _, _, rfl, ?_, (by show CHr Z ELs s.vm s.heap T3.vm T3.heap; rw [hh, e3]; exact CR.trans (CHv.at X3 hZ hEL CR.1)), hREW.1, hREW.2.1, hREW.2.2.1, hREW.2.2.2.mono (by decide) (by decide)⟩
  · show Steps p.tables e below (T3.setTop (mkF m 9 #[.val (.ref a), .val (.ref ca)] [])) _
    exact X3.returnOut hx Bd.returns (Jvm.hb hby d_jdk_42_method_3_9) hr
  · show Q_rmIni1 Z _ _ _ _ _ _ h0 n0 _ T3.heap _
    rw [e3]
    exact ⟨b_3, kb_3, rfl, N3, ((Keep.refl h0 [a]).trans K3 (allS (Or.inl (by simp)) all0)), Fq3_0, Fq3_1, Fq3_2, Fq3_3⟩
theorem d_jdk_42_method_152_0 : decode jdk_42_method_152_code 0 = .ok (.getstatic 38, 3) := by decide +kernel
theorem d_jdk_42_method_152_3 : decode jdk_42_method_152_code 3 = .ok (.ifCond .eq 10, 3) := by decide +kernel
theorem d_jdk_42_method_152_6 : decode jdk_42_method_152_code 6 = .ok (.aload_n 0, 1) := by decide +kernel
theorem d_jdk_42_method_152_7 : decode jdk_42_method_152_code 7 = .ok (.getfield 15, 3) := by decide +kernel
theorem d_jdk_42_method_152_10 : decode jdk_42_method_152_code 10 = .ok (.goto 4, 3) := by decide +kernel
theorem d_jdk_42_method_152_14 : decode jdk_42_method_152_code 14 = .ok (.ireturn, 1) := by decide +kernel
theorem ef_rmCdr (m : MethodId) (x0 : Addr) : entryFrame m #[(.ref x0)] 1 = mkF m 0 #[.val (.ref x0)] [] := by first | (simp [entryFrame, mkF, argsToLocals, Value.category]; done) | rfl
def Q_rmCdr (Z : State) (a : Addr) (cst : Int32) (cs : List Int32) (h0 : Heap) (n0 : Nat) (v : Option Value) (h : Heap) (L : List Loc) : Prop := (v = some (.int (own_cod cs))) ∧ (Fr n0 L) ∧ (h = h0)
set_option maxRecDepth 65536 in
set_option maxHeartbeats 40000000 in
theorem rmCdr (l : Launch) (Z : State) (a0 : Array Value) (hw : ∀ d ∈ tables_1, d.before a0 Z = true) (ws : List Jvm.Cond) (a : Addr) (cst : Int32) (cs : List Int32) (h0 : Heap) (n0 : Nat) (Z0 : n0 ≤ h0.size) (I1 : Sta Z Z.heap "java/lang/String" "COMPACT_STRINGS" "Z" (.int cst)) (OX : Old Z n0 h0) (hcst : ¬ (cst = (0 : Int32))) (I2 : Fld Z h0 a "java/lang/String" "coder" "B" (.int (own_cod cs))) :
    MetFree l (⟨"java/lang/String", "coder", "()B"⟩ : MethodName) (head1 (Jvm.Cond.code (⟨"java/lang/String", "coder", "()B"⟩ : MethodName) jdk_42_method_152_code 1 (some .byte) :: ws) ({ frames := 0, cells := 0, slots := 0, locals := 0 } : Room)) (fun ar_ U => ar_ = #[(.ref a)] ∧ Z.Warmed39 U.vm ∧ U.heap = h0) (fun _ _ _ _ _ => True) (fun _ U oc_ U' => ∃ v L, oc_ = .returned v ∧ Q_rmCdr Z a cst cs h0 n0 v U'.heap L ∧ FrameEnd U oc_ U' L ({ frames := 0, cells := 0, slots := 0, locals := 0 } : Room).cells ({ frames := 0, cells := 0, slots := 0, locals := 0 } : Room).slots) := by
  refine MetFree.of_bodySF (plainFor_of_name pn_java_lang_String) hisR ?_
  intro p e s m args below meth c s₁ Bd hml0 hP hK
  obtain ⟨rfl, hZ, hh⟩ := hP
  have hx := Bd.exec
  have hby := Bd.bytes
  have hml : c.maxLocals = 1 := hml0
  have hown : s.vm.findClass "java/lang/String" = some m.cls := findClass_of_methodNamed Bd.named
  have hnm := (name_of_methodNamed Bd.named Bd.method).1
  have X0 : Stand p l e ({ frames := 0, cells := 0, slots := 0, locals := 0 } : Room) s m #[(.ref a)] below meth c s₁ [] 0 0 := Stand.of_body Bd
  have e0 : s₁.heap = h0 := by rw [← hh, Bd.state]; rfl
  have N0 := Fr.nil n0
  have pre0 : ∀ t_, Steps p.tables e below (s₁.setTop (mkF m 0 #[.val (.ref a)] [])) t_ → Steps p.tables e below (s₁.setTop (entryFrame m #[(.ref a)] 1)) t_ := fun t_ k_ => castTop (ef_rmCdr m a) k_
  have lt_I2 : @LT.lt Nat _ a h0.size := I2.lt
  obtain ⟨T1, X1, e1, st1⟩ := getS2 X0 hx hZ hown (host := "") (Or.inl (hw _ (List.mem_of_getElem? (i := 31) rfl))) Via.refl e0 (I1.ext OX.2) (g := (mkF m 0 #[.val (.ref a)] [])) rfl (Jvm.hb hby d_jdk_42_method_152_0)
  obtain ⟨T2, X2, e2, st2⟩ := getF X1 hx hZ hown (host := "") (Or.inl (hw _ (List.mem_of_getElem? (i := 42) rfl))) Via.refl e1 I2 (g := (mkF m 7 #[.val (.ref a)] [(.ref a)])) rfl rfl (Jvm.hb hby d_jdk_42_method_152_7)
  have s3 : ∀ t_, Steps p.tables e below (T2.setTop (mkF m 14 #[.val (.ref a)] [(.int (own_cod cs))])) t_ → Steps p.tables e below (s₁.setTop (entryFrame m #[(.ref a)] 1)) t_ := fun t_ k_ => pre0 t_ (by
    show Steps p.tables e below (s₁.setTop (mkF m 0 #[.val (.ref a)] [])) t_
    refine st1 _ ?_
    show Steps p.tables e below (T1.setTop (mkF m 3 #[.val (.ref a)] [(.int cst)])) _
    refine XS.ifNo X1.here hx rfl (Jvm.hb hby d_jdk_42_method_152_3) rfl ((if0 _ _).trans (feq hcst).1) ?_
    show Steps p.tables e below (T1.setTop (mkF m 6 #[.val (.ref a)] [])) _
    refine XS.aloadN X1.here hx rfl (Jvm.hb hby d_jdk_42_method_152_6) rfl rfl ?_
    refine st2 _ ?_
    show Steps p.tables e below (T2.setTop (mkF m 10 #[.val (.ref a)] [(.int (own_cod cs))])) _
    refine XS.goto X2.here hx rfl (pc0 := 10) (pc' := 14) rfl (Jvm.hb hby d_jdk_42_method_152_10) (by decide) (by decide) ?_
    show Steps p.tables e below (T2.setTop (mkF m 14 #[.val (.ref a)] [(.int (own_cod cs))])) t_
    exact k_)
  obtain ⟨fs, hr, hrun, hended, hW, hsame⟩ := X2.leave (v := some (.int (nar .byte (own_cod cs)))) (fun h => by rw [Bd.returns] at h; cases h)
  refine ⟨_, _, s3 _ ?_, hrun, hended, _, _, rfl, ?_, ⟨_, rfl⟩, hW, hsame.mono (by decide) (by decide)⟩
  · show Steps p.tables e below (T2.setTop (mkF m 14 #[.val (.ref a)] [(.int (own_cod cs))])) _
    exact retN X2 hx (t := .byte) Bd.returns (by simp) (Jvm.hb hby d_jdk_42_method_152_14) hr
  · show Q_rmCdr Z _ _ _ h0 n0 _ T2.heap _
    rw [e2]
    exact ⟨(by rw [own_cnarb]), N0, rfl⟩
theorem d_jdk_42_method_54_0 : decode jdk_42_method_54_code 0 = .ok (.aload_n 0, 1) := by decide +kernel
theorem d_jdk_42_method_54_1 : decode jdk_42_method_54_code 1 = .ok (.getfield 9, 3) := by decide +kernel
theorem d_jdk_42_method_54_4 : decode jdk_42_method_54_code 4 = .ok (.arraylength, 1) := by decide +kernel
theorem d_jdk_42_method_54_5 : decode jdk_42_method_54_code 5 = .ok (.aload_n 0, 1) := by decide +kernel
theorem pd___B : parseMethodDescriptor "()B" = some ⟨[], some .byte⟩ := by decide +kernel
theorem d_jdk_42_method_54_6 : decode jdk_42_method_54_code 6 = .ok (.invokevirtual 335, 3) := by decide +kernel
theorem d_jdk_42_method_54_9 : decode jdk_42_method_54_code 9 = .ok (.ishr, 1) := by decide +kernel
theorem d_jdk_42_method_54_10 : decode jdk_42_method_54_code 10 = .ok (.ireturn, 1) := by decide +kernel
theorem ef_rmLen (m : MethodId) (x0 : Addr) : entryFrame m #[(.ref x0)] 1 = mkF m 0 #[.val (.ref x0)] [] := by first | (simp [entryFrame, mkF, argsToLocals, Value.category]; done) | rfl
def Q_rmLen (Z : State) (a : Addr) (cst : Int32) (b : Addr) (kb : ClassId) (cs : List Int32) (h0 : Heap) (n0 : Nat) (v : Option Value) (h : Heap) (L : List Loc) : Prop := (v = some (.int (Int32.ofNat cs.length))) ∧ (Fr n0 L) ∧ (h = h0)
set_option maxRecDepth 65536 in
set_option maxHeartbeats 40000000 in
theorem rmLen (l : Launch) (Z : State) (a0 : Array Value) (hw : ∀ d ∈ tables_1, d.before a0 Z = true) (ws : List Jvm.Cond) (a : Addr) (cst : Int32) (b : Addr) (kb : ClassId) (cs : List Int32) (h0 : Heap) (n0 : Nat) (Z0 : n0 ≤ h0.size) (I1 : Sta Z Z.heap "java/lang/String" "COMPACT_STRINGS" "Z" (.int cst)) (OX : Old Z n0 h0) (hcst : ¬ (cst = (0 : Int32))) (I2 : Exa Z h0 a "java/lang/String") (I3 : Fld Z h0 a "java/lang/String" "value" "[B" (.ref b)) (I4 : Fld Z h0 a "java/lang/String" "coder" "B" (.int (own_cod cs))) (I5 : Arv Z h0 b kb .byte (Int32.ofNat (own_enl cs)) (own_enc cs) (.int (0 : Int32))) (hb : cs.length ≤ 7) :
    MetFree l (⟨"java/lang/String", "length", "()I"⟩ : MethodName) (head1 (Jvm.Cond.code (⟨"java/lang/String", "length", "()I"⟩ : MethodName) jdk_42_method_54_code 1 (some .int) :: ws) ({ frames := 1, cells := 0, slots := 0, locals := 13 } : Room)) (fun ar_ U => ar_ = #[(.ref a)] ∧ Z.Warmed39 U.vm ∧ U.heap = h0) (fun _ _ _ _ _ => True) (fun _ U oc_ U' => ∃ v L, oc_ = .returned v ∧ Q_rmLen Z a cst b kb cs h0 n0 v U'.heap L ∧ FrameEnd U oc_ U' L ({ frames := 1, cells := 0, slots := 0, locals := 13 } : Room).cells ({ frames := 1, cells := 0, slots := 0, locals := 13 } : Room).slots) := by
  refine MetFree.of_bodySF (plainFor_of_name pn_java_lang_String) hisR ?_
  intro p e s m args below meth c s₁ Bd hml0 hP hK
  obtain ⟨rfl, hZ, hh⟩ := hP
  have hx := Bd.exec
  have hby := Bd.bytes
  have hml : c.maxLocals = 1 := hml0
  have hown : s.vm.findClass "java/lang/String" = some m.cls := findClass_of_methodNamed Bd.named
  have hnm := (name_of_methodNamed Bd.named Bd.method).1
  have X0 : Stand p l e ({ frames := 1, cells := 0, slots := 0, locals := 13 } : Room) s m #[(.ref a)] below meth c s₁ [] 0 0 := Stand.of_body Bd
  have e0 : s₁.heap = h0 := by rw [← hh, Bd.state]; rfl
  have N0 := Fr.nil n0
  have pre0 : ∀ t_, Steps p.tables e below (s₁.setTop (mkF m 0 #[.val (.ref a)] [])) t_ → Steps p.tables e below (s₁.setTop (entryFrame m #[(.ref a)] 1)) t_ := fun t_ k_ => castTop (ef_rmLen m a) k_
  have lt_I2 : @LT.lt Nat _ a h0.size := I2.lt
  have lt_I3 : @LT.lt Nat _ a h0.size := I3.lt
  have lt_I4 : @LT.lt Nat _ a h0.size := I4.lt
  have lt_I5 : @LT.lt Nat _ b h0.size := I5.lt
  obtain ⟨T1, X1, e1, st1⟩ := getF X0 hx hZ hown (host := "") (Or.inl (hw _ (List.mem_of_getElem? (i := 43) rfl))) Via.refl e0 I3 (g := (mkF m 1 #[.val (.ref a)] [(.ref a)])) rfl rfl (Jvm.hb hby d_jdk_42_method_54_1)
  obtain ⟨cl2, Ar2, -, S2, M2, -, -⟩ := id I5
  have Zc3 : n0 ≤ h0.size := by omega
  obtain ⟨cq4, kq4, q4a, q4b, q4c⟩ := isOf hZ e1 I2
  obtain ⟨_, _, ⟨T4, L4, k4, n4⟩, -, X4, ⟨Lc4, hQ4, l4, y4, z4⟩, st4⟩ := X1.virtualBack hx (y := (⟨"java/lang/String", "coder", "()B"⟩ : MethodName)) (z := (⟨"java/lang/String", "coder", "()B"⟩ : MethodName)) hown (mvT hZ (hw _ (List.mem_of_getElem? (i := 99) rfl))) (mvT hZ (hw _ (List.mem_of_getElem? (i := 100) rfl))) (notFace_of_selects (args := #[]) (mvT hZ (hw _ (List.mem_of_getElem? (i := 102) rfl)))) (mvT hZ (hw _ (List.mem_of_getElem? (i := 102) rfl))) (mvT hZ (hw _ (List.mem_of_getElem? (i := 101) rfl))) (by decide) (backOf (W := 1) (rmCdr l Z a0 hw [] a cst cs h0 n0 Zc3 I1 OX (hcst : ¬ (cst = (0 : Int32))) I4) hZ (hw _ (List.mem_of_getElem? (i := 103) rfl)) (hw _ (List.mem_of_getElem? (i := 1) rfl)) (by decide) (by decide)) q4a q4c (g := (mkF m 6 #[.val (.ref a)] [(.ref a), (.int (Int32.ofNat (own_enl cs)))])) rfl (by rw [hml]; rfl) (Steps.refl _) (argsL := []) (rest := [(.int (Int32.ofNat (own_enl cs)))]) (lenOf pd___B rfl) rfl (by show 2 * 0 + _ ≤ _; exact Nat.le_of_eq rfl) (Jvm.hb hby d_jdk_42_method_54_6) (fun _ _ => ⟨rfl, e1, (by decide : 0 + 0 ≤ _), (by decide : 0 + 0 ≤ _)⟩)
  dsimp only [Pt.U, Pt.locs, Pt.cells, Pt.slots] at X4 l4 y4 z4 st4 hQ4
  subst l4 y4 z4
  obtain ⟨rfl, N4q, e4⟩ := hQ4
  have N4 := Fr.app N0 N4q
  have s5 : ∀ t_, Steps p.tables e below (T4.setTop (mkF m 10 #[.val (.ref a)] [(.int ((Int32.ofNat (own_enl cs)) >>> ((own_cod cs) &&& 31)))])) t_ → Steps p.tables e below (s₁.setTop (entryFrame m #[(.ref a)] 1)) t_ := fun t_ k_ => pre0 t_ (by
    show Steps p.tables e below (s₁.setTop (mkF m 0 #[.val (.ref a)] [])) t_
    refine XS.aloadN X0.here hx rfl (Jvm.hb hby d_jdk_42_method_54_0) rfl rfl ?_
    refine st1 _ ?_
    show Steps p.tables e below (T1.setTop (mkF m 4 #[.val (.ref a)] [(.ref b)])) _
    refine X1.arraylength hx (by rw [e1]; exact Ar2.1) (State.isArrayOf_alike hZ.alike Ar2.2.1) (g := (mkF m 4 #[.val (.ref a)] [(.ref b)])) rfl rfl (Jvm.hb hby d_jdk_42_method_54_4) _ ?_
    rw [len_of S2 M2]
    show Steps p.tables e below (T1.setTop (mkF m 5 #[.val (.ref a)] [(.int (Int32.ofNat (own_enl cs)))])) _
    refine XS.aloadN X1.here hx rfl (Jvm.hb hby d_jdk_42_method_54_5) rfl rfl ?_
    refine st4.trans ?_
    show Steps p.tables e below (T4.setTop (mkF m 9 #[.val (.ref a)] [(.int (own_cod cs)), (.int (Int32.ofNat (own_enl cs)))])) _
    refine XS.ishr X4.here hx rfl (Jvm.hb hby d_jdk_42_method_54_9) rfl ?_
    show Steps p.tables e below (T4.setTop (mkF m 10 #[.val (.ref a)] [(.int ((Int32.ofNat (own_enl cs)) >>> ((own_cod cs) &&& 31)))])) t_
    exact k_)
  obtain ⟨fs, hr, hrun, hended, hW, hsame⟩ := X4.leave (v := some (.int ((Int32.ofNat (own_enl cs)) >>> ((own_cod cs) &&& 31)))) (fun h => by rw [Bd.returns] at h; cases h)
  refine ⟨_, _, s5 _ ?_, hrun, hended, _, _, rfl, ?_, ⟨_, rfl⟩, hW, hsame.mono (by decide) (by decide)⟩
  · show Steps p.tables e below (T4.setTop (mkF m 10 #[.val (.ref a)] [(.int ((Int32.ofNat (own_enl cs)) >>> ((own_cod cs) &&& 31)))])) _
    exact retI X4 hx Bd.returns (Jvm.hb hby d_jdk_42_method_54_10) hr
  · show Q_rmLen Z _ _ _ _ _ h0 n0 _ T4.heap _
    rw [e4]
    exact ⟨(by rw [own_lenq cs (by omega)]), N4, rfl⟩
theorem d_jdk_42_method_154_0 : decode jdk_42_method_154_code 0 = .ok (.getstatic 38, 3) := by decide +kernel
theorem d_jdk_42_method_154_3 : decode jdk_42_method_154_code 3 = .ok (.ifCond .eq 14, 3) := by decide +kernel
theorem d_jdk_42_method_154_6 : decode jdk_42_method_154_code 6 = .ok (.aload_n 0, 1) := by decide +kernel
theorem d_jdk_42_method_154_7 : decode jdk_42_method_154_code 7 = .ok (.getfield 15, 3) := by decide +kernel
theorem d_jdk_42_method_154_10 : decode jdk_42_method_154_code 10 = .ok (.ifCond .ne 7, 3) := by decide +kernel
theorem d_jdk_42_method_154_13 : decode jdk_42_method_154_code 13 = .ok (.iconst 1, 1) := by decide +kernel
theorem d_jdk_42_method_154_14 : decode jdk_42_method_154_code 14 = .ok (.goto 4, 3) := by decide +kernel
theorem d_jdk_42_method_154_18 : decode jdk_42_method_154_code 18 = .ok (.ireturn, 1) := by decide +kernel
theorem d_jdk_42_method_154_17 : decode jdk_42_method_154_code 17 = .ok (.iconst 0, 1) := by decide +kernel
theorem ef_rmIsL (m : MethodId) (x0 : Addr) : entryFrame m #[(.ref x0)] 1 = mkF m 0 #[.val (.ref x0)] [] := by first | (simp [entryFrame, mkF, argsToLocals, Value.category]; done) | rfl
def Q_rmIsL (Z : State) (a : Addr) (cst : Int32) (cs : List Int32) (h0 : Heap) (n0 : Nat) (v : Option Value) (h : Heap) (L : List Loc) : Prop := (v = some (.int (if own_cod cs = (0 : Int32) then (1 : Int32) else (0 : Int32)))) ∧ (Fr n0 L) ∧ (h = h0)
set_option maxRecDepth 65536 in
set_option maxHeartbeats 40000000 in
theorem rmIsL (l : Launch) (Z : State) (a0 : Array Value) (hw : ∀ d ∈ tables_1, d.before a0 Z = true) (ws : List Jvm.Cond) (a : Addr) (cst : Int32) (cs : List Int32) (h0 : Heap) (n0 : Nat) (Z0 : n0 ≤ h0.size) (I1 : Sta Z Z.heap "java/lang/String" "COMPACT_STRINGS" "Z" (.int cst)) (OX : Old Z n0 h0) (hcst : ¬ (cst = (0 : Int32))) (I2 : Fld Z h0 a "java/lang/String" "coder" "B" (.int (own_cod cs))) :
    MetFree l (⟨"java/lang/String", "isLatin1", "()Z"⟩ : MethodName) (head1 (Jvm.Cond.code (⟨"java/lang/String", "isLatin1", "()Z"⟩ : MethodName) jdk_42_method_154_code 1 (some .boolean) :: ws) ({ frames := 0, cells := 0, slots := 0, locals := 0 } : Room)) (fun ar_ U => ar_ = #[(.ref a)] ∧ Z.Warmed39 U.vm ∧ U.heap = h0) (fun _ _ _ _ _ => True) (fun _ U oc_ U' => ∃ v L, oc_ = .returned v ∧ Q_rmIsL Z a cst cs h0 n0 v U'.heap L ∧ FrameEnd U oc_ U' L ({ frames := 0, cells := 0, slots := 0, locals := 0 } : Room).cells ({ frames := 0, cells := 0, slots := 0, locals := 0 } : Room).slots) := by
  refine MetFree.of_bodySF (plainFor_of_name pn_java_lang_String) hisR ?_
  intro p e s m args below meth c s₁ Bd hml0 hP hK
  obtain ⟨rfl, hZ, hh⟩ := hP
  have hx := Bd.exec
  have hby := Bd.bytes
  have hml : c.maxLocals = 1 := hml0
  have hown : s.vm.findClass "java/lang/String" = some m.cls := findClass_of_methodNamed Bd.named
  have hnm := (name_of_methodNamed Bd.named Bd.method).1
  have X0 : Stand p l e ({ frames := 0, cells := 0, slots := 0, locals := 0 } : Room) s m #[(.ref a)] below meth c s₁ [] 0 0 := Stand.of_body Bd
  have e0 : s₁.heap = h0 := by rw [← hh, Bd.state]; rfl
  have N0 := Fr.nil n0
  have pre0 : ∀ t_, Steps p.tables e below (s₁.setTop (mkF m 0 #[.val (.ref a)] [])) t_ → Steps p.tables e below (s₁.setTop (entryFrame m #[(.ref a)] 1)) t_ := fun t_ k_ => castTop (ef_rmIsL m a) k_
  have lt_I2 : @LT.lt Nat _ a h0.size := I2.lt
  obtain ⟨T1, X1, e1, st1⟩ := getS2 X0 hx hZ hown (host := "") (Or.inl (hw _ (List.mem_of_getElem? (i := 31) rfl))) Via.refl e0 (I1.ext OX.2) (g := (mkF m 0 #[.val (.ref a)] [])) rfl (Jvm.hb hby d_jdk_42_method_154_0)
  obtain ⟨T2, X2, e2, st2⟩ := getF X1 hx hZ hown (host := "") (Or.inl (hw _ (List.mem_of_getElem? (i := 42) rfl))) Via.refl e1 I2 (g := (mkF m 7 #[.val (.ref a)] [(.ref a)])) rfl rfl (Jvm.hb hby d_jdk_42_method_154_7)
  have s3 : ∀ t_, Steps p.tables e below (T2.setTop (mkF m 10 #[.val (.ref a)] [(.int (own_cod cs))])) t_ → Steps p.tables e below (s₁.setTop (entryFrame m #[(.ref a)] 1)) t_ := fun t_ k_ => pre0 t_ (by
    show Steps p.tables e below (s₁.setTop (mkF m 0 #[.val (.ref a)] [])) t_
    refine st1 _ ?_
    show Steps p.tables e below (T1.setTop (mkF m 3 #[.val (.ref a)] [(.int cst)])) _
    refine XS.ifNo X1.here hx rfl (Jvm.hb hby d_jdk_42_method_154_3) rfl ((if0 _ _).trans (feq hcst).1) ?_
    show Steps p.tables e below (T1.setTop (mkF m 6 #[.val (.ref a)] [])) _
    refine XS.aloadN X1.here hx rfl (Jvm.hb hby d_jdk_42_method_154_6) rfl rfl ?_
    refine st2 _ ?_
    show Steps p.tables e below (T2.setTop (mkF m 10 #[.val (.ref a)] [(.int (own_cod cs))])) _
    show Steps p.tables e below (T2.setTop (mkF m 10 #[.val (.ref a)] [(.int (own_cod cs))])) t_
    exact k_)
  by_cases h4 : (own_cod cs) = (0 : Int32)
  · have s5 : ∀ t_, Steps p.tables e below (T2.setTop (mkF m 18 #[.val (.ref a)] [(.int (1 : Int32))])) t_ → Steps p.tables e below (s₁.setTop (entryFrame m #[(.ref a)] 1)) t_ := fun t_ k_ => s3 t_ (by
      show Steps p.tables e below (T2.setTop (mkF m 10 #[.val (.ref a)] [(.int (own_cod cs))])) t_
      refine XS.ifNo X2.here hx rfl (Jvm.hb hby d_jdk_42_method_154_10) rfl ((if0 _ _).trans (teq h4).2) ?_
      show Steps p.tables e below (T2.setTop (mkF m 13 #[.val (.ref a)] [])) _
      refine XS.iconst X2.here hx rfl (Jvm.hb hby d_jdk_42_method_154_13) ?_
      refine XS.goto X2.here hx rfl (pc0 := 14) (pc' := 18) rfl (Jvm.hb hby d_jdk_42_method_154_14) (by decide) (by decide) ?_
      show Steps p.tables e below (T2.setTop (mkF m 18 #[.val (.ref a)] [(.int (1 : Int32))])) t_
      exact k_)
    obtain ⟨fs, hr, hrun, hended, hW, hsame⟩ := X2.leave (v := some (.int (1 : Int32))) (fun h => by rw [Bd.returns] at h; cases h)
    refine ⟨_, _, s5 _ ?_, hrun, hended, _, _, rfl, ?_, ⟨_, rfl⟩, hW, hsame.mono (by decide) (by decide)⟩
    · show Steps p.tables e below (T2.setTop (mkF m 18 #[.val (.ref a)] [(.int (1 : Int32))])) _
      exact retN X2 hx (t := .boolean) Bd.returns (by simp) (Jvm.hb hby d_jdk_42_method_154_18) hr
    · show Q_rmIsL Z _ _ _ h0 n0 _ T2.heap _
      rw [e2]
      exact ⟨(by first | rfl | (simp only [if_pos h4]; done) | (simp only [if_pos h4]; rfl) | (simp only [if_pos h4, own_narb]; done)), N0, rfl⟩
  · have s6 : ∀ t_, Steps p.tables e below (T2.setTop (mkF m 18 #[.val (.ref a)] [(.int (0 : Int32))])) t_ → Steps p.tables e below (s₁.setTop (entryFrame m #[(.ref a)] 1)) t_ := fun t_ k_ => s3 t_ (by
      show Steps p.tables e below (T2.setTop (mkF m 10 #[.val (.ref a)] [(.int (own_cod cs))])) t_
      refine XS.ifYes X2.here hx rfl (pc0 := 10) (pc' := 17) rfl (Jvm.hb hby d_jdk_42_method_154_10) rfl ((if0 _ _).trans (feq h4).2) (by decide) (by decide) ?_
      show Steps p.tables e below (T2.setTop (mkF m 17 #[.val (.ref a)] [])) _
      refine XS.iconst X2.here hx rfl (Jvm.hb hby d_jdk_42_method_154_17) ?_
      show Steps p.tables e below (T2.setTop (mkF m 18 #[.val (.ref a)] [(.int (0 : Int32))])) t_
      exact k_)
    obtain ⟨fs, hr, hrun, hended, hW, hsame⟩ := X2.leave (v := some (.int (0 : Int32))) (fun h => by rw [Bd.returns] at h; cases h)
    refine ⟨_, _, s6 _ ?_, hrun, hended, _, _, rfl, ?_, ⟨_, rfl⟩, hW, hsame.mono (by decide) (by decide)⟩
    · show Steps p.tables e below (T2.setTop (mkF m 18 #[.val (.ref a)] [(.int (0 : Int32))])) _
      exact retN X2 hx (t := .boolean) Bd.returns (by simp) (Jvm.hb hby d_jdk_42_method_154_18) hr
    · show Q_rmIsL Z _ _ _ h0 n0 _ T2.heap _
      rw [e2]
      exact ⟨(by first | rfl | (simp only [if_neg h4]; done) | (simp only [if_neg h4]; rfl) | (simp only [if_neg h4, own_narb]; done)), N0, rfl⟩
theorem pn_jdk_internal_util_Preconditions : plainName "jdk/internal/util/Preconditions" = true := by first | (simp [plainName, overriddenIn]; done) | decide +kernel
theorem d_jdk_41_method_11_0 : decode jdk_41_method_11_code 0 = .ok (.iload_n 0, 1) := by decide +kernel
theorem d_jdk_41_method_11_1 : decode jdk_41_method_11_code 1 = .ok (.ifCond .lt 8, 3) := by decide +kernel
theorem d_jdk_41_method_11_4 : decode jdk_41_method_11_code 4 = .ok (.iload_n 0, 1) := by decide +kernel
theorem d_jdk_41_method_11_5 : decode jdk_41_method_11_code 5 = .ok (.iload_n 1, 1) := by decide +kernel
theorem d_jdk_41_method_11_6 : decode jdk_41_method_11_code 6 = .ok (.if_icmp .lt 10, 3) := by decide +kernel
theorem d_jdk_41_method_11_16 : decode jdk_41_method_11_code 16 = .ok (.iload_n 0, 1) := by decide +kernel
theorem d_jdk_41_method_11_17 : decode jdk_41_method_11_code 17 = .ok (.ireturn, 1) := by decide +kernel
theorem ef_rmPCk (m : MethodId) (x0 : Int32) (x1 : Int32) (x2 : Value) (hr_x2 : x2.isRef = true) : entryFrame m #[(.int x0), (.int x1), x2] 3 = mkF m 0 #[.val (.int x0), .val (.int x1), .val x2] [] := by first | (simp [entryFrame, mkF, argsToLocals, Value.category]; done) | rfl | (cases x2 <;> simp [Value.isRef] at hr_x2 <;> rfl)
def Q_rmPCk (Z : State) (fmt : Value) (i : Nat) (n : Nat) (h0 : Heap) (n0 : Nat) (v : Option Value) (h : Heap) (L : List Loc) : Prop := (v = some (.int (Int32.ofNat i))) ∧ (Fr n0 L) ∧ (h = h0)
set_option maxRecDepth 65536 in
set_option maxHeartbeats 40000000 in
theorem rmPCk (l : Launch) (Z : State) (a0 : Array Value) (hw : ∀ d ∈ tables_1, d.before a0 Z = true) (ws : List Jvm.Cond) (fmt : Value) (i : Nat) (n : Nat) (h0 : Heap) (n0 : Nat) (Z0 : n0 ≤ h0.size) (hfmt : fmt.isRef = true) (hin : i < n) (hn8 : n ≤ 8000) :
    MetFree l (⟨"jdk/internal/util/Preconditions", "checkIndex", "(IILjava/util/function/BiFunction;)I"⟩ : MethodName) (head1 (Jvm.Cond.code (⟨"jdk/internal/util/Preconditions", "checkIndex", "(IILjava/util/function/BiFunction;)I"⟩ : MethodName) jdk_41_method_11_code 3 (some .int) :: ws) ({ frames := 0, cells := 0, slots := 0, locals := 0 } : Room)) (fun ar_ U => ar_ = #[(.int (Int32.ofNat i)), (.int (Int32.ofNat n)), fmt] ∧ Z.Warmed39 U.vm ∧ U.heap = h0) (fun _ _ _ _ _ => True) (fun _ U oc_ U' => ∃ v L, oc_ = .returned v ∧ Q_rmPCk Z fmt i n h0 n0 v U'.heap L ∧ FrameEnd U oc_ U' L ({ frames := 0, cells := 0, slots := 0, locals := 0 } : Room).cells ({ frames := 0, cells := 0, slots := 0, locals := 0 } : Room).slots) := by
  refine MetFree.of_bodySF (plainFor_of_name pn_jdk_internal_util_Preconditions) hisR ?_
  intro p e s m args below meth c s₁ Bd hml0 hP hK
  obtain ⟨rfl, hZ, hh⟩ := hP
  have hx := Bd.exec
  have hby := Bd.bytes
  have hml : c.maxLocals = 3 := hml0
  have hown : s.vm.findClass "jdk/internal/util/Preconditions" = some m.cls := findClass_of_methodNamed Bd.named
  have hnm := (name_of_methodNamed Bd.named Bd.method).1
  have X0 : Stand p l e ({ frames := 0, cells := 0, slots := 0, locals := 0 } : Room) s m #[(.int (Int32.ofNat i)), (.int (Int32.ofNat n)), fmt] below meth c s₁ [] 0 0 := Stand.of_body Bd
  have e0 : s₁.heap = h0 := by rw [← hh, Bd.state]; rfl
  have N0 := Fr.nil n0
  have pre0 : ∀ t_, Steps p.tables e below (s₁.setTop (mkF m 0 #[.val (.int (Int32.ofNat i)), .val (.int (Int32.ofNat n)), .val fmt] [])) t_ → Steps p.tables e below (s₁.setTop (entryFrame m #[(.int (Int32.ofNat i)), (.int (Int32.ofNat n)), fmt] 3)) t_ := fun t_ k_ => castTop (ef_rmPCk m (Int32.ofNat i) (Int32.ofNat n) fmt hfmt) k_
  have s1 : ∀ t_, Steps p.tables e below (s₁.setTop (mkF m 17 #[.val (.int (Int32.ofNat i)), .val (.int (Int32.ofNat n)), .val fmt] [(.int (Int32.ofNat i))])) t_ → Steps p.tables e below (s₁.setTop (entryFrame m #[(.int (Int32.ofNat i)), (.int (Int32.ofNat n)), fmt] 3)) t_ := fun t_ k_ => pre0 t_ (by
    show Steps p.tables e below (s₁.setTop (mkF m 0 #[.val (.int (Int32.ofNat i)), .val (.int (Int32.ofNat n)), .val fmt] [])) t_
    refine XS.iloadN X0.here hx rfl (Jvm.hb hby d_jdk_41_method_11_0) rfl ?_
    refine XS.ifNo X0.here hx rfl (Jvm.hb hby d_jdk_41_method_11_1) rfl ((if0 _ _).trans (flt (own_nn (by omega))).1) ?_
    show Steps p.tables e below (s₁.setTop (mkF m 4 #[.val (.int (Int32.ofNat i)), .val (.int (Int32.ofNat n)), .val fmt] [])) _
    refine XS.iloadN X0.here hx rfl (Jvm.hb hby d_jdk_41_method_11_4) rfl ?_
    refine XS.iloadN X0.here hx rfl (Jvm.hb hby d_jdk_41_method_11_5) rfl ?_
    refine XS.icmpYes X0.here hx rfl (pc0 := 6) (pc' := 16) rfl (Jvm.hb hby d_jdk_41_method_11_6) rfl (tlt (own_lt (by omega) (by omega))).1 (by decide) (by decide) ?_
    show Steps p.tables e below (s₁.setTop (mkF m 16 #[.val (.int (Int32.ofNat i)), .val (.int (Int32.ofNat n)), .val fmt] [])) _
    refine XS.iloadN X0.here hx rfl (Jvm.hb hby d_jdk_41_method_11_16) rfl ?_
    show Steps p.tables e below (s₁.setTop (mkF m 17 #[.val (.int (Int32.ofNat i)), .val (.int (Int32.ofNat n)), .val fmt] [(.int (Int32.ofNat i))])) t_
    exact k_)
  obtain ⟨fs, hr, hrun, hended, hW, hsame⟩ := X0.leave (v := some (.int (Int32.ofNat i))) (fun h => by rw [Bd.returns] at h; cases h)
  refine ⟨_, _, s1 _ ?_, hrun, hended, _, _, rfl, ?_, ⟨_, rfl⟩, hW, hsame.mono (by decide) (by decide)⟩
  · show Steps p.tables e below (s₁.setTop (mkF m 17 #[.val (.int (Int32.ofNat i)), .val (.int (Int32.ofNat n)), .val fmt] [(.int (Int32.ofNat i))])) _
    exact retI X0 hx Bd.returns (Jvm.hb hby d_jdk_41_method_11_17) hr
  · show Q_rmPCk Z _ _ _ h0 n0 _ s₁.heap _
    rw [e0]
    exact ⟨rfl, N0, rfl⟩
theorem d_jdk_42_method_155_0 : decode jdk_42_method_155_code 0 = .ok (.iload_n 0, 1) := by decide +kernel
theorem d_jdk_42_method_155_1 : decode jdk_42_method_155_code 1 = .ok (.iload_n 1, 1) := by decide +kernel
theorem d_jdk_42_method_155_2 : decode jdk_42_method_155_code 2 = .ok (.getstatic 1053, 3) := by decide +kernel
theorem pd__IILjava_util_function_BiFunction__I : parseMethodDescriptor "(IILjava/util/function/BiFunction;)I" = some ⟨[.int, .int, (.object "java/util/function/BiFunction")], some .int⟩ := by decide +kernel
theorem d_jdk_42_method_155_5 : decode jdk_42_method_155_code 5 = .ok (.invokestatic 1059, 3) := by decide +kernel
theorem d_jdk_42_method_155_8 : decode jdk_42_method_155_code 8 = .ok (.pop, 1) := by decide +kernel
theorem d_jdk_42_method_155_9 : decode jdk_42_method_155_code 9 = .ok (.return_, 1) := by decide +kernel
theorem ef_rmSCk (m : MethodId) (x0 : Int32) (x1 : Int32) : entryFrame m #[(.int x0), (.int x1)] 2 = mkF m 0 #[.val (.int x0), .val (.int x1)] [] := by first | (simp [entryFrame, mkF, argsToLocals, Value.category]; done) | rfl
def Q_rmSCk (Z : State) (i : Nat) (n : Nat) (fmt : Value) (h0 : Heap) (n0 : Nat) (v : Option Value) (h : Heap) (L : List Loc) : Prop := (v = none) ∧ (Fr n0 L) ∧ (h = h0)
set_option maxRecDepth 65536 in
set_option maxHeartbeats 40000000 in
theorem rmSCk (l : Launch) (Z : State) (a0 : Array Value) (hw : ∀ d ∈ tables_1, d.before a0 Z = true) (ws : List Jvm.Cond) (i : Nat) (n : Nat) (fmt : Value) (h0 : Heap) (n0 : Nat) (Z0 : n0 ≤ h0.size) (hfmt : fmt.isRef = true) (I1 : Sta Z Z.heap "jdk/internal/util/Preconditions" "SIOOBE_FORMATTER" "Ljava/util/function/BiFunction;" fmt) (OX : Old Z n0 h0) (hin : i < n) (hn8 : n ≤ 8000) :
    MetFree l (⟨"java/lang/String", "checkIndex", "(II)V"⟩ : MethodName) (head1 (Jvm.Cond.code (⟨"java/lang/String", "checkIndex", "(II)V"⟩ : MethodName) jdk_42_method_155_code 2 none :: ws) ({ frames := 1, cells := 0, slots := 0, locals := 14 } : Room)) (fun ar_ U => ar_ = #[(.int (Int32.ofNat i)), (.int (Int32.ofNat n))] ∧ Z.Warmed39 U.vm ∧ U.heap = h0) (fun _ _ _ _ _ => True) (fun _ U oc_ U' => ∃ v L, oc_ = .returned v ∧ Q_rmSCk Z i n fmt h0 n0 v U'.heap L ∧ FrameEnd U oc_ U' L ({ frames := 1, cells := 0, slots := 0, locals := 14 } : Room).cells ({ frames := 1, cells := 0, slots := 0, locals := 14 } : Room).slots) := by
  refine MetFree.of_bodySF (plainFor_of_name pn_java_lang_String) hisR ?_
  intro p e s m args below meth c s₁ Bd hml0 hP hK
  obtain ⟨rfl, hZ, hh⟩ := hP
  have hx := Bd.exec
  have hby := Bd.bytes
  have hml : c.maxLocals = 2 := hml0
  have hown : s.vm.findClass "java/lang/String" = some m.cls := findClass_of_methodNamed Bd.named
  have hnm := (name_of_methodNamed Bd.named Bd.method).1
  have X0 : Stand p l e ({ frames := 1, cells := 0, slots := 0, locals := 14 } : Room) s m #[(.int (Int32.ofNat i)), (.int (Int32.ofNat n))] below meth c s₁ [] 0 0 := Stand.of_body Bd
  have e0 : s₁.heap = h0 := by rw [← hh, Bd.state]; rfl
  have N0 := Fr.nil n0
  have pre0 : ∀ t_, Steps p.tables e below (s₁.setTop (mkF m 0 #[.val (.int (Int32.ofNat i)), .val (.int (Int32.ofNat n))] [])) t_ → Steps p.tables e below (s₁.setTop (entryFrame m #[(.int (Int32.ofNat i)), (.int (Int32.ofNat n))] 2)) t_ := fun t_ k_ => castTop (ef_rmSCk m (Int32.ofNat i) (Int32.ofNat n)) k_
  obtain ⟨T1, X1, e1, st1⟩ := getS2 X0 hx hZ hown (host := "") (Or.inl (hw _ (List.mem_of_getElem? (i := 120) rfl))) Via.refl e0 (I1.ext OX.2) (g := (mkF m 2 #[.val (.int (Int32.ofNat i)), .val (.int (Int32.ofNat n))] [(.int (Int32.ofNat n)), (.int (Int32.ofNat i))])) rfl (Jvm.hb hby d_jdk_42_method_155_2)
  have Zc2 : n0 ≤ h0.size := by omega
  obtain ⟨_, _, ⟨T3, L3, k3, n3⟩, -, X3, ⟨Lc3, hQ3, l3, y3, z3⟩, st3⟩ := Jvm.LawKit.callS X1 hx (y := (⟨"jdk/internal/util/Preconditions", "checkIndex", "(IILjava/util/function/BiFunction;)I"⟩ : MethodName)) hown (mvT hZ (hw _ (List.mem_of_getElem? (i := 122) rfl))) (mvT hZ (hw _ (List.mem_of_getElem? (i := 123) rfl))) (mvT hZ (hw _ (List.mem_of_getElem? (i := 121) rfl))) (mvT hZ (hw _ (List.mem_of_getElem? (i := 124) rfl))) (by decide) (backOf (W := 0) (rmPCk l Z a0 hw [] fmt i n h0 n0 Zc2 (hfmt : fmt.isRef = true) (hin : i < n) (hn8 : n ≤ 8000)) hZ (hw _ (List.mem_of_getElem? (i := 124) rfl)) (hw _ (List.mem_of_getElem? (i := 121) rfl)) (by decide) (by decide)) (g := (mkF m 5 #[.val (.int (Int32.ofNat i)), .val (.int (Int32.ofNat n))] [fmt, (.int (Int32.ofNat n)), (.int (Int32.ofNat i))])) rfl (by rw [hml]; rfl) (argsL := [(.int (Int32.ofNat i)), (.int (Int32.ofNat n)), fmt]) (rest := []) (lenOf pd__IILjava_util_function_BiFunction__I rfl) rfl (by show 2 * 0 + _ ≤ _; exact Nat.le_of_eq rfl) (Jvm.hb hby d_jdk_42_method_155_5) (fun _ _ => ⟨rfl, e1, (by decide : 0 + 0 ≤ _), (by decide : 0 + 0 ≤ _)⟩)
  dsimp only [Pt.U, Pt.locs, Pt.cells, Pt.slots] at X3 l3 y3 z3 st3 hQ3
  subst l3 y3 z3
  obtain ⟨rfl, N3q, e3⟩ := hQ3
  have N3 := Fr.app N0 N3q
  have s4 : ∀ t_, Steps p.tables e below (T3.setTop (mkF m 9 #[.val (.int (Int32.ofNat i)), .val (.int (Int32.ofNat n))] [])) t_ → Steps p.tables e below (s₁.setTop (entryFrame m #[(.int (Int32.ofNat i)), (.int (Int32.ofNat n))] 2)) t_ := fun t_ k_ => pre0 t_ (by
    show Steps p.tables e below (s₁.setTop (mkF m 0 #[.val (.int (Int32.ofNat i)), .val (.int (Int32.ofNat n))] [])) t_
    refine XS.iloadN X0.here hx rfl (Jvm.hb hby d_jdk_42_method_155_0) rfl ?_
    refine XS.iloadN X0.here hx rfl (Jvm.hb hby d_jdk_42_method_155_1) rfl ?_
    refine st1 _ ?_
    show Steps p.tables e below (T1.setTop (mkF m 5 #[.val (.int (Int32.ofNat i)), .val (.int (Int32.ofNat n))] [fmt, (.int (Int32.ofNat n)), (.int (Int32.ofNat i))])) _
    refine st3 _ ?_
    show Steps p.tables e below (T3.setTop (mkF m 8 #[.val (.int (Int32.ofNat i)), .val (.int (Int32.ofNat n))] [(.int (Int32.ofNat i))])) _
    refine XS.pop X3.here hx rfl (Jvm.hb hby d_jdk_42_method_155_8) rfl rfl ?_
    show Steps p.tables e below (T3.setTop (mkF m 9 #[.val (.int (Int32.ofNat i)), .val (.int (Int32.ofNat n))] [])) t_
    exact k_)
  obtain ⟨fs, hr, hrun, hended, hW, hsame⟩ := X3.leave (v := none) (fun _ => rfl)
  refine ⟨_, _, s4 _ ?_, hrun, hended, _, _, rfl, ?_, ⟨_, rfl⟩, hW, hsame.mono (by decide) (by decide)⟩
  · show Steps p.tables e below (T3.setTop (mkF m 9 #[.val (.int (Int32.ofNat i)), .val (.int (Int32.ofNat n))] [])) _
    exact X3.returnOut hx Bd.returns (Jvm.hb hby d_jdk_42_method_155_9) hr
  · show Q_rmSCk Z _ _ _ h0 n0 _ T3.heap _
    rw [e3]
    exact ⟨rfl, N3, rfl⟩
theorem pn_java_lang_StringLatin1 : plainName "java/lang/StringLatin1" = true := by first | (simp [plainName, overriddenIn]; done) | decide +kernel
theorem d_jdk_43_method_2_0 : decode jdk_43_method_2_code 0 = .ok (.iload_n 1, 1) := by decide +kernel
theorem d_jdk_43_method_2_1 : decode jdk_43_method_2_code 1 = .ok (.aload_n 0, 1) := by decide +kernel
theorem d_jdk_43_method_2_2 : decode jdk_43_method_2_code 2 = .ok (.arraylength, 1) := by decide +kernel
theorem pd__II_V : parseMethodDescriptor "(II)V" = some ⟨[.int, .int], none⟩ := by decide +kernel
theorem d_jdk_43_method_2_3 : decode jdk_43_method_2_code 3 = .ok (.invokestatic 9, 3) := by decide +kernel
theorem d_jdk_43_method_2_6 : decode jdk_43_method_2_code 6 = .ok (.aload_n 0, 1) := by decide +kernel
theorem d_jdk_43_method_2_7 : decode jdk_43_method_2_code 7 = .ok (.iload_n 1, 1) := by decide +kernel
theorem d_jdk_43_method_2_8 : decode jdk_43_method_2_code 8 = .ok (.baload, 1) := by decide +kernel
theorem d_jdk_43_method_2_9 : decode jdk_43_method_2_code 9 = .ok (.sipush 255, 3) := by decide +kernel
theorem d_jdk_43_method_2_12 : decode jdk_43_method_2_code 12 = .ok (.iand, 1) := by decide +kernel
theorem d_jdk_43_method_2_13 : decode jdk_43_method_2_code 13 = .ok (.i2c, 1) := by decide +kernel
theorem d_jdk_43_method_2_14 : decode jdk_43_method_2_code 14 = .ok (.ireturn, 1) := by decide +kernel
theorem ef_rmLCh (m : MethodId) (x0 : Addr) (x1 : Int32) : entryFrame m #[(.ref x0), (.int x1)] 2 = mkF m 0 #[.val (.ref x0), .val (.int x1)] [] := by first | (simp [entryFrame, mkF, argsToLocals, Value.category]; done) | rfl
def Q_rmLCh (Z : State) (b : Addr) (kb : ClassId) (cs : List Int32) (i : Nat) (fmt : Value) (h0 : Heap) (n0 : Nat) (v : Option Value) (h : Heap) (L : List Loc) : Prop := (v = some (.int (cs.getD i 0))) ∧ (Fr n0 L) ∧ (h = h0)
set_option maxRecDepth 65536 in
set_option maxHeartbeats 40000000 in
theorem rmLCh (l : Launch) (Z : State) (a0 : Array Value) (hw : ∀ d ∈ tables_1, d.before a0 Z = true) (ws : List Jvm.Cond) (b : Addr) (kb : ClassId) (cs : List Int32) (i : Nat) (fmt : Value) (h0 : Heap) (n0 : Nat) (Z0 : n0 ≤ h0.size) (hfmt : fmt.isRef = true) (I1 : Sta Z Z.heap "jdk/internal/util/Preconditions" "SIOOBE_FORMATTER" "Ljava/util/function/BiFunction;" fmt) (OX : Old Z n0 h0) (I2 : Arv Z h0 b kb .byte (Int32.ofNat cs.length) (own_enc cs) (.int (0 : Int32))) (hb : cs.length ≤ 7) (hi : i < cs.length) (hlat : own_lat cs) (hchs : own_chs cs) :
    MetFree l (⟨"java/lang/StringLatin1", "charAt", "([BI)C"⟩ : MethodName) (head1 (Jvm.Cond.code (⟨"java/lang/StringLatin1", "charAt", "([BI)C"⟩ : MethodName) jdk_43_method_2_code 2 (some .char) :: ws) ({ frames := 2, cells := 0, slots := 0, locals := 27 } : Room)) (fun ar_ U => ar_ = #[(.ref b), (.int (Int32.ofNat i))] ∧ Z.Warmed39 U.vm ∧ U.heap = h0) (fun _ _ _ _ _ => True) (fun _ U oc_ U' => ∃ v L, oc_ = .returned v ∧ Q_rmLCh Z b kb cs i fmt h0 n0 v U'.heap L ∧ FrameEnd U oc_ U' L ({ frames := 2, cells := 0, slots := 0, locals := 27 } : Room).cells ({ frames := 2, cells := 0, slots := 0, locals := 27 } : Room).slots) := by
  refine MetFree.of_bodySF (plainFor_of_name pn_java_lang_StringLatin1) hisR ?_
  intro p e s m args below meth c s₁ Bd hml0 hP hK
  obtain ⟨rfl, hZ, hh⟩ := hP
  have hx := Bd.exec
  have hby := Bd.bytes
  have hml : c.maxLocals = 2 := hml0
  have hown : s.vm.findClass "java/lang/StringLatin1" = some m.cls := findClass_of_methodNamed Bd.named
  have hnm := (name_of_methodNamed Bd.named Bd.method).1
  have X0 : Stand p l e ({ frames := 2, cells := 0, slots := 0, locals := 27 } : Room) s m #[(.ref b), (.int (Int32.ofNat i))] below meth c s₁ [] 0 0 := Stand.of_body Bd
  have e0 : s₁.heap = h0 := by rw [← hh, Bd.state]; rfl
  have N0 := Fr.nil n0
  have pre0 : ∀ t_, Steps p.tables e below (s₁.setTop (mkF m 0 #[.val (.ref b), .val (.int (Int32.ofNat i))] [])) t_ → Steps p.tables e below (s₁.setTop (entryFrame m #[(.ref b), (.int (Int32.ofNat i))] 2)) t_ := fun t_ k_ => castTop (ef_rmLCh m b (Int32.ofNat i)) k_
  have lt_I2 : @LT.lt Nat _ b h0.size := I2.lt
  obtain ⟨cl1, Ar1, -, S1, M1, -, -⟩ := id I2
  have Zc2 : n0 ≤ h0.size := by omega
  obtain ⟨_, _, ⟨T3, L3, k3, n3⟩, -, X3, ⟨Lc3, hQ3, l3, y3, z3⟩, st3⟩ := Jvm.LawKit.callS X0 hx (y := (⟨"java/lang/String", "checkIndex", "(II)V"⟩ : MethodName)) hown (mvT hZ (hw _ (List.mem_of_getElem? (i := 117) rfl))) (mvT hZ (hw _ (List.mem_of_getElem? (i := 118) rfl))) (mvT hZ (hw _ (List.mem_of_getElem? (i := 1) rfl))) (mvT hZ (hw _ (List.mem_of_getElem? (i := 119) rfl))) (by decide) (backOf (W := 0) (rmSCk l Z a0 hw [] i cs.length fmt h0 n0 Zc2 (hfmt : fmt.isRef = true) I1 OX hi (by first | assumption | omega | rfl | decide : cs.length ≤ 8000)) hZ (hw _ (List.mem_of_getElem? (i := 119) rfl)) (hw _ (List.mem_of_getElem? (i := 1) rfl)) (by decide) (by decide)) (g := (mkF m 3 #[.val (.ref b), .val (.int (Int32.ofNat i))] [(.int (Int32.ofNat cs.length)), (.int (Int32.ofNat i))])) rfl (by rw [hml]; rfl) (argsL := [(.int (Int32.ofNat i)), (.int (Int32.ofNat cs.length))]) (rest := []) (lenOf pd__II_V rfl) rfl (by show 2 * 0 + _ ≤ _; exact Nat.le_of_eq rfl) (Jvm.hb hby d_jdk_43_method_2_3) (fun _ _ => ⟨rfl, e0, (by decide : 0 + 0 ≤ _), (by decide : 0 + 0 ≤ _)⟩)
  dsimp only [Pt.U, Pt.locs, Pt.cells, Pt.slots] at X3 l3 y3 z3 st3 hQ3
  subst l3 y3 z3
  obtain ⟨rfl, N3q, e3⟩ := hQ3
  have N3 := Fr.app N0 N3q
  obtain ⟨cl4, Ar4, -, S4, M4, H4, -⟩ := id I2
  have hin4 : ¬ ((Int32.ofNat i) < 0 ∨ cl4.slots.size ≤ ((Int32.ofNat i)).toNatClampNeg) := inb_of S4 (own_in hi (by omega))
  have hat4 : cl4.slots[((Int32.ofNat i)).toNatClampNeg]? = some (.int (own_lo (cs.getD i 0))) := H4.at hin4 (own_geth cs i _ hlat hi (by omega))
  have s5 : ∀ t_, Steps p.tables e below (T3.setTop (mkF m 14 #[.val (.ref b), .val (.int (Int32.ofNat i))] [(.int (i2c ((own_lo (cs.getD i 0)) &&& (255 : Int32))))])) t_ → Steps p.tables e below (s₁.setTop (entryFrame m #[(.ref b), (.int (Int32.ofNat i))] 2)) t_ := fun t_ k_ => pre0 t_ (by
    show Steps p.tables e below (s₁.setTop (mkF m 0 #[.val (.ref b), .val (.int (Int32.ofNat i))] [])) t_
    refine XS.iloadN X0.here hx rfl (Jvm.hb hby d_jdk_43_method_2_0) rfl ?_
    refine XS.aloadN X0.here hx rfl (Jvm.hb hby d_jdk_43_method_2_1) rfl rfl ?_
    refine X0.arraylength hx (by rw [e0]; exact Ar1.1) (State.isArrayOf_alike hZ.alike Ar1.2.1) (g := (mkF m 2 #[.val (.ref b), .val (.int (Int32.ofNat i))] [(.ref b), (.int (Int32.ofNat i))])) rfl rfl (Jvm.hb hby d_jdk_43_method_2_2) _ ?_
    rw [len_of S1 M1]
    show Steps p.tables e below (s₁.setTop (mkF m 3 #[.val (.ref b), .val (.int (Int32.ofNat i))] [(.int (Int32.ofNat cs.length)), (.int (Int32.ofNat i))])) _
    refine st3 _ ?_
    show Steps p.tables e below (T3.setTop (mkF m 6 #[.val (.ref b), .val (.int (Int32.ofNat i))] [])) _
    refine XS.aloadN X3.here hx rfl (Jvm.hb hby d_jdk_43_method_2_6) rfl rfl ?_
    refine XS.iloadN X3.here hx rfl (Jvm.hb hby d_jdk_43_method_2_7) rfl ?_
    refine X3.baloadBytes hx (j := (Int32.ofNat i)) (v := (.int (own_lo (cs.getD i 0)))) (by rw [e3]; exact Ar4.1) (State.isArrayOf_alike hZ.alike Ar4.2.1) Ar4.2.2 hin4 hat4 (g := (mkF m 8 #[.val (.ref b), .val (.int (Int32.ofNat i))] [(.int (Int32.ofNat i)), (.ref b)])) rfl rfl (Jvm.hb hby d_jdk_43_method_2_8) _ ?_
    show Steps p.tables e below (T3.setTop (mkF m 9 #[.val (.ref b), .val (.int (Int32.ofNat i))] [(.int (own_lo (cs.getD i 0)))])) _
    refine XS.sipush X3.here hx rfl (Jvm.hb hby d_jdk_43_method_2_9) ?_
    refine XS.iand X3.here hx rfl (Jvm.hb hby d_jdk_43_method_2_12) rfl ?_
    refine XS.i2c X3.here hx rfl (Jvm.hb hby d_jdk_43_method_2_13) rfl ?_
    show Steps p.tables e below (T3.setTop (mkF m 14 #[.val (.ref b), .val (.int (Int32.ofNat i))] [(.int (i2c ((own_lo (cs.getD i 0)) &&& (255 : Int32))))])) t_
    exact k_)
  obtain ⟨fs, hr, hrun, hended, hW, hsame⟩ := X3.leave (v := some (.int (nar .char (i2c ((own_lo (cs.getD i 0)) &&& (255 : Int32)))))) (fun h => by rw [Bd.returns] at h; cases h)
  refine ⟨_, _, s5 _ ?_, hrun, hended, _, _, rfl, ?_, ⟨_, rfl⟩, hW, hsame.mono (by decide) (by decide)⟩
  · show Steps p.tables e below (T3.setTop (mkF m 14 #[.val (.ref b), .val (.int (Int32.ofNat i))] [(.int (i2c ((own_lo (cs.getD i 0)) &&& (255 : Int32))))])) _
    exact retN X3 hx (t := .char) Bd.returns (by simp) (Jvm.hb hby d_jdk_43_method_2_14) hr
  · show Q_rmLCh Z _ _ _ _ _ h0 n0 _ T3.heap _
    rw [e3]
    exact ⟨(by rw [own_chr (hchs _ (own_mem cs i hi)).1 (hlat _ (own_mem cs i hi))]), N3, rfl⟩
theorem d_jdk_42_method_56_0 : decode jdk_42_method_56_code 0 = .ok (.aload_n 0, 1) := by decide +kernel
theorem pd___Z : parseMethodDescriptor "()Z" = some ⟨[], some .boolean⟩ := by decide +kernel
theorem d_jdk_42_method_56_1 : decode jdk_42_method_56_code 1 = .ok (.invokevirtual 492, 3) := by decide +kernel
theorem d_jdk_42_method_56_4 : decode jdk_42_method_56_code 4 = .ok (.ifCond .eq 12, 3) := by decide +kernel
theorem d_jdk_42_method_56_7 : decode jdk_42_method_56_code 7 = .ok (.aload_n 0, 1) := by decide +kernel
theorem d_jdk_42_method_56_8 : decode jdk_42_method_56_code 8 = .ok (.getfield 9, 3) := by decide +kernel
theorem d_jdk_42_method_56_11 : decode jdk_42_method_56_code 11 = .ok (.iload_n 1, 1) := by decide +kernel
theorem pd___BI_C : parseMethodDescriptor "([BI)C" = some ⟨[(.array .byte), .int], some .char⟩ := by decide +kernel
theorem d_jdk_42_method_56_12 : decode jdk_42_method_56_code 12 = .ok (.invokestatic 495, 3) := by decide +kernel
theorem d_jdk_42_method_56_15 : decode jdk_42_method_56_code 15 = .ok (.ireturn, 1) := by decide +kernel
theorem ef_rmChA (m : MethodId) (x0 : Addr) (x1 : Int32) : entryFrame m #[(.ref x0), (.int x1)] 2 = mkF m 0 #[.val (.ref x0), .val (.int x1)] [] := by first | (simp [entryFrame, mkF, argsToLocals, Value.category]; done) | rfl
def Q_rmChA (Z : State) (a : Addr) (cst : Int32) (b : Addr) (kb : ClassId) (cs : List Int32) (i : Nat) (fmt : Value) (h0 : Heap) (n0 : Nat) (v : Option Value) (h : Heap) (L : List Loc) : Prop := (v = some (.int (cs.getD i 0))) ∧ (Fr n0 L) ∧ (h = h0)
set_option maxRecDepth 65536 in
set_option maxHeartbeats 40000000 in
theorem rmChA (l : Launch) (Z : State) (a0 : Array Value) (hw : ∀ d ∈ tables_1, d.before a0 Z = true) (ws : List Jvm.Cond) (a : Addr) (cst : Int32) (b : Addr) (kb : ClassId) (cs : List Int32) (i : Nat) (fmt : Value) (h0 : Heap) (n0 : Nat) (Z0 : n0 ≤ h0.size) (I1 : Sta Z Z.heap "java/lang/String" "COMPACT_STRINGS" "Z" (.int cst)) (hfmt : fmt.isRef = true) (I2 : Sta Z Z.heap "jdk/internal/util/Preconditions" "SIOOBE_FORMATTER" "Ljava/util/function/BiFunction;" fmt) (OX : Old Z n0 h0) (hcst : ¬ (cst = (0 : Int32))) (I3 : Exa Z h0 a "java/lang/String") (I4 : Fld Z h0 a "java/lang/String" "value" "[B" (.ref b)) (I5 : Fld Z h0 a "java/lang/String" "coder" "B" (.int (own_cod cs))) (I6 : Arv Z h0 b kb .byte (Int32.ofNat (own_enl cs)) (own_enc cs) (.int (0 : Int32))) (hb : cs.length ≤ 7) (hi : i < cs.length) (hchs : own_chs cs) (hlat : own_lat cs) :
    MetFree l (⟨"java/lang/String", "charAt", "(I)C"⟩ : MethodName) (head1 (Jvm.Cond.code (⟨"java/lang/String", "charAt", "(I)C"⟩ : MethodName) jdk_42_method_56_code 2 (some .char) :: ws) ({ frames := 3, cells := 0, slots := 0, locals := 40 } : Room)) (fun ar_ U => ar_ = #[(.ref a), (.int (Int32.ofNat i))] ∧ Z.Warmed39 U.vm ∧ U.heap = h0) (fun _ _ _ _ _ => True) (fun _ U oc_ U' => ∃ v L, oc_ = .returned v ∧ Q_rmChA Z a cst b kb cs i fmt h0 n0 v U'.heap L ∧ FrameEnd U oc_ U' L ({ frames := 3, cells := 0, slots := 0, locals := 40 } : Room).cells ({ frames := 3, cells := 0, slots := 0, locals := 40 } : Room).slots) := by
  refine MetFree.of_bodySF (plainFor_of_name pn_java_lang_String) hisR ?_
  intro p e s m args below meth c s₁ Bd hml0 hP hK
  obtain ⟨rfl, hZ, hh⟩ := hP
  have hx := Bd.exec
  have hby := Bd.bytes
  have hml : c.maxLocals = 2 := hml0
  have hown : s.vm.findClass "java/lang/String" = some m.cls := findClass_of_methodNamed Bd.named
  have hnm := (name_of_methodNamed Bd.named Bd.method).1
  have X0 : Stand p l e ({ frames := 3, cells := 0, slots := 0, locals := 40 } : Room) s m #[(.ref a), (.int (Int32.ofNat i))] below meth c s₁ [] 0 0 := Stand.of_body Bd
  have e0 : s₁.heap = h0 := by rw [← hh, Bd.state]; rfl
  have N0 := Fr.nil n0
  have pre0 : ∀ t_, Steps p.tables e below (s₁.setTop (mkF m 0 #[.val (.ref a), .val (.int (Int32.ofNat i))] [])) t_ → Steps p.tables e below (s₁.setTop (entryFrame m #[(.ref a), (.int (Int32.ofNat i))] 2)) t_ := fun t_ k_ => castTop (ef_rmChA m a (Int32.ofNat i)) k_
  have lt_I3 : @LT.lt Nat _ a h0.size := I3.lt
  have lt_I4 : @LT.lt Nat _ a h0.size := I4.lt
  have lt_I5 : @LT.lt Nat _ a h0.size := I5.lt
  have lt_I6 : @LT.lt Nat _ b h0.size := I6.lt
  have Zc1 : n0 ≤ h0.size := by omega
  obtain ⟨cq2, kq2, q2a, q2b, q2c⟩ := isOf hZ e0 I3
  obtain ⟨_, _, ⟨T2, L2, k2, n2⟩, -, X2, ⟨Lc2, hQ2, l2, y2, z2⟩, st2⟩ := X0.virtualBack hx (y := (⟨"java/lang/String", "isLatin1", "()Z"⟩ : MethodName)) (z := (⟨"java/lang/String", "isLatin1", "()Z"⟩ : MethodName)) hown (mvT hZ (hw _ (List.mem_of_getElem? (i := 109) rfl))) (mvT hZ (hw _ (List.mem_of_getElem? (i := 110) rfl))) (notFace_of_selects (args := #[]) (mvT hZ (hw _ (List.mem_of_getElem? (i := 112) rfl)))) (mvT hZ (hw _ (List.mem_of_getElem? (i := 112) rfl))) (mvT hZ (hw _ (List.mem_of_getElem? (i := 111) rfl))) (by decide) (backOf (W := 0) (rmIsL l Z a0 hw [] a cst cs h0 n0 Zc1 I1 OX (hcst : ¬ (cst = (0 : Int32))) I5) hZ (hw _ (List.mem_of_getElem? (i := 113) rfl)) (hw _ (List.mem_of_getElem? (i := 1) rfl)) (by decide) (by decide)) q2a q2c (g := (mkF m 1 #[.val (.ref a), .val (.int (Int32.ofNat i))] [(.ref a)])) rfl (by rw [hml]; rfl) (Steps.refl _) (argsL := []) (rest := []) (lenOf pd___Z rfl) rfl (by show 2 * 0 + _ ≤ _; exact Nat.le_of_eq rfl) (Jvm.hb hby d_jdk_42_method_56_1) (fun _ _ => ⟨rfl, e0, (by decide : 0 + 0 ≤ _), (by decide : 0 + 0 ≤ _)⟩)
  dsimp only [Pt.U, Pt.locs, Pt.cells, Pt.slots] at X2 l2 y2 z2 st2 hQ2
  subst l2 y2 z2
  obtain ⟨rfl, N2q, e2⟩ := hQ2
  have N2 := Fr.app N0 N2q
  obtain ⟨T3, X3, e3, st3⟩ := getF X2 hx hZ hown (host := "") (Or.inl (hw _ (List.mem_of_getElem? (i := 43) rfl))) Via.refl e2 I4 (g := (mkF m 8 #[.val (.ref a), .val (.int (Int32.ofNat i))] [(.ref a)])) rfl rfl (Jvm.hb hby d_jdk_42_method_56_8)
  have V4 : Arv Z h0 b kb .byte (Int32.ofNat cs.length) (own_enc cs) (.int (0 : Int32)) := by have q := I6; rw [own_enl, if_pos hlat] at q; exact q
  have Zc5 : n0 ≤ h0.size := by omega
  obtain ⟨_, _, ⟨T6, L6, k6, n6⟩, -, X6, ⟨Lc6, hQ6, l6, y6, z6⟩, st6⟩ := Jvm.LawKit.callS X3 hx (y := (⟨"java/lang/StringLatin1", "charAt", "([BI)C"⟩ : MethodName)) hown (mvT hZ (hw _ (List.mem_of_getElem? (i := 114) rfl))) (mvT hZ (hw _ (List.mem_of_getElem? (i := 115) rfl))) (mvT hZ (hw _ (List.mem_of_getElem? (i := 55) rfl))) (mvT hZ (hw _ (List.mem_of_getElem? (i := 116) rfl))) (by decide) (backOf (W := 0) (rmLCh l Z a0 hw [] b kb cs i fmt h0 n0 Zc5 (hfmt : fmt.isRef = true) I2 OX V4 (hb : cs.length ≤ 7) (hi : i < cs.length) (hlat : own_lat cs) (hchs : own_chs cs)) hZ (hw _ (List.mem_of_getElem? (i := 116) rfl)) (hw _ (List.mem_of_getElem? (i := 55) rfl)) (by decide) (by decide)) (g := (mkF m 12 #[.val (.ref a), .val (.int (Int32.ofNat i))] [(.int (Int32.ofNat i)), (.ref b)])) rfl (by rw [hml]; rfl) (argsL := [(.ref b), (.int (Int32.ofNat i))]) (rest := []) (lenOf pd___BI_C rfl) rfl (by show 2 * 0 + _ ≤ _; exact Nat.le_of_eq rfl) (Jvm.hb hby d_jdk_42_method_56_12) (fun _ _ => ⟨rfl, e3, (by decide : 0 + 0 ≤ _), (by decide : 0 + 0 ≤ _)⟩)
  dsimp only [Pt.U, Pt.locs, Pt.cells, Pt.slots] at X6 l6 y6 z6 st6 hQ6
  subst l6 y6 z6
  obtain ⟨rfl, N6q, e6⟩ := hQ6
  have N6 := Fr.app N2 N6q
  have s7 : ∀ t_, Steps p.tables e below (T6.setTop (mkF m 15 #[.val (.ref a), .val (.int (Int32.ofNat i))] [(.int (cs.getD i 0))])) t_ → Steps p.tables e below (s₁.setTop (entryFrame m #[(.ref a), (.int (Int32.ofNat i))] 2)) t_ := fun t_ k_ => pre0 t_ (by
    show Steps p.tables e below (s₁.setTop (mkF m 0 #[.val (.ref a), .val (.int (Int32.ofNat i))] [])) t_
    refine XS.aloadN X0.here hx rfl (Jvm.hb hby d_jdk_42_method_56_0) rfl rfl ?_
    refine st2.trans ?_
    show Steps p.tables e below (T2.setTop (mkF m 4 #[.val (.ref a), .val (.int (Int32.ofNat i))] [(.int (if own_cod cs = (0 : Int32) then (1 : Int32) else (0 : Int32)))])) _
    refine castTop (g' := (mkF m 4 #[.val (.ref a), .val (.int (Int32.ofNat i))] [(.int (1 : Int32))])) (by rw [if_pos (own_cod0 hlat)]) ?_
    show Steps p.tables e below (T2.setTop (mkF m 4 #[.val (.ref a), .val (.int (Int32.ofNat i))] [(.int (1 : Int32))])) _
    refine XS.ifNo X2.here hx rfl (Jvm.hb hby d_jdk_42_method_56_4) rfl ((if0 _ _).trans (feq (by decide : ¬ ((1 : Int32) = (0 : Int32)))).1) ?_
    show Steps p.tables e below (T2.setTop (mkF m 7 #[.val (.ref a), .val (.int (Int32.ofNat i))] [])) _
    refine XS.aloadN X2.here hx rfl (Jvm.hb hby d_jdk_42_method_56_7) rfl rfl ?_
    refine st3 _ ?_
    show Steps p.tables e below (T3.setTop (mkF m 11 #[.val (.ref a), .val (.int (Int32.ofNat i))] [(.ref b)])) _
    refine XS.iloadN X3.here hx rfl (Jvm.hb hby d_jdk_42_method_56_11) rfl ?_
    refine st6 _ ?_
    show Steps p.tables e below (T6.setTop (mkF m 15 #[.val (.ref a), .val (.int (Int32.ofNat i))] [(.int (cs.getD i 0))])) _
    show Steps p.tables e below (T6.setTop (mkF m 15 #[.val (.ref a), .val (.int (Int32.ofNat i))] [(.int (cs.getD i 0))])) t_
    exact k_)
  obtain ⟨fs, hr, hrun, hended, hW, hsame⟩ := X6.leave (v := some (.int (nar .char (cs.getD i 0)))) (fun h => by rw [Bd.returns] at h; cases h)
  refine ⟨_, _, s7 _ ?_, hrun, hended, _, _, rfl, ?_, ⟨_, rfl⟩, hW, hsame.mono (by decide) (by decide)⟩
  · show Steps p.tables e below (T6.setTop (mkF m 15 #[.val (.ref a), .val (.int (Int32.ofNat i))] [(.int (cs.getD i 0))])) _
    exact retN X6 hx (t := .char) Bd.returns (by simp) (Jvm.hb hby d_jdk_42_method_56_15) hr
  · show Q_rmChA Z _ _ _ _ _ _ _ h0 n0 _ T6.heap _
    rw [e6]
    exact ⟨(by rw [own_narc (hchs _ (own_mem cs i hi)).1 (hchs _ (own_mem cs i hi)).2]), N6, rfl⟩
theorem d_jdk_43_method_13_0 : decode jdk_43_method_13_code 0 = .ok (.aload_n 0, 1) := by decide +kernel
theorem d_jdk_43_method_13_1 : decode jdk_43_method_13_code 1 = .ok (.arraylength, 1) := by decide +kernel
theorem d_jdk_43_method_13_2 : decode jdk_43_method_13_code 2 = .ok (.aload_n 1, 1) := by decide +kernel
theorem d_jdk_43_method_13_3 : decode jdk_43_method_13_code 3 = .ok (.arraylength, 1) := by decide +kernel
theorem d_jdk_43_method_13_4 : decode jdk_43_method_13_code 4 = .ok (.if_icmp .ne 30, 3) := by decide +kernel
theorem d_jdk_43_method_13_7 : decode jdk_43_method_13_code 7 = .ok (.iconst 0, 1) := by decide +kernel
theorem d_jdk_43_method_13_8 : decode jdk_43_method_13_code 8 = .ok (.istore_n 2, 1) := by decide +kernel
theorem d_jdk_43_method_13_9 : decode jdk_43_method_13_code 9 = .ok (.iload_n 2, 1) := by decide +kernel
theorem d_jdk_43_method_13_10 : decode jdk_43_method_13_code 10 = .ok (.aload_n 0, 1) := by decide +kernel
theorem d_jdk_43_method_13_11 : decode jdk_43_method_13_code 11 = .ok (.arraylength, 1) := by decide +kernel
theorem d_jdk_43_method_13_12 : decode jdk_43_method_13_code 12 = .ok (.if_icmp .ge 20, 3) := by decide +kernel
theorem d_jdk_43_method_13_15 : decode jdk_43_method_13_code 15 = .ok (.aload_n 0, 1) := by decide +kernel
theorem d_jdk_43_method_13_16 : decode jdk_43_method_13_code 16 = .ok (.iload_n 2, 1) := by decide +kernel
theorem d_jdk_43_method_13_17 : decode jdk_43_method_13_code 17 = .ok (.baload, 1) := by decide +kernel
theorem d_jdk_43_method_13_18 : decode jdk_43_method_13_code 18 = .ok (.aload_n 1, 1) := by decide +kernel
theorem d_jdk_43_method_13_19 : decode jdk_43_method_13_code 19 = .ok (.iload_n 2, 1) := by decide +kernel
theorem d_jdk_43_method_13_20 : decode jdk_43_method_13_code 20 = .ok (.baload, 1) := by decide +kernel
theorem d_jdk_43_method_13_21 : decode jdk_43_method_13_code 21 = .ok (.if_icmp .eq 5, 3) := by decide +kernel
theorem d_jdk_43_method_13_26 : decode jdk_43_method_13_code 26 = .ok (.iinc 2 1, 3) := by decide +kernel
theorem d_jdk_43_method_13_29 : decode jdk_43_method_13_code 29 = .ok (.goto (-20), 3) := by decide +kernel
theorem d_jdk_43_method_13_32 : decode jdk_43_method_13_code 32 = .ok (.iconst 1, 1) := by decide +kernel
theorem d_jdk_43_method_13_33 : decode jdk_43_method_13_code 33 = .ok (.ireturn, 1) := by decide +kernel
theorem d_jdk_43_method_13_24 : decode jdk_43_method_13_code 24 = .ok (.iconst 0, 1) := by decide +kernel
theorem d_jdk_43_method_13_25 : decode jdk_43_method_13_code 25 = .ok (.ireturn, 1) := by decide +kernel
theorem d_jdk_43_method_13_34 : decode jdk_43_method_13_code 34 = .ok (.iconst 0, 1) := by decide +kernel
theorem d_jdk_43_method_13_35 : decode jdk_43_method_13_code 35 = .ok (.ireturn, 1) := by decide +kernel
theorem ef_rmLEq (m : MethodId) (x0 : Addr) (x1 : Addr) : entryFrame m #[(.ref x0), (.ref x1)] 3 = mkF m 0 #[.val (.ref x0), .val (.ref x1), .unset] [] := by first | (simp [entryFrame, mkF, argsToLocals, Value.category]; done) | rfl
def Q_rmLEq (Z : State) (bx : Addr) (by_ : Addr) (kx : ClassId) (ky : ClassId) (xs : List Int32) (ys : List Int32) (h0 : Heap) (n0 : Nat) (v : Option Value) (h : Heap) (L : List Loc) : Prop := (v = some (.int (if xs = ys then (1 : Int32) else (0 : Int32)))) ∧ (Fr n0 L) ∧ (h = h0)
set_option maxRecDepth 65536 in
set_option maxHeartbeats 40000000 in
theorem rmLEq (l : Launch) (Z : State) (a0 : Array Value) (hw : ∀ d ∈ tables_1, d.before a0 Z = true) (ws : List Jvm.Cond) (bx : Addr) (by_ : Addr) (kx : ClassId) (ky : ClassId) (xs : List Int32) (ys : List Int32) (h0 : Heap) (n0 : Nat) (Z0 : n0 ≤ h0.size) (I1 : Arv Z h0 bx kx .byte (Int32.ofNat xs.length) (xs.map Value.int) (.int (0 : Int32))) (I2 : Arv Z h0 by_ ky .byte (Int32.ofNat ys.length) (ys.map Value.int) (.int (0 : Int32))) (hb1 : xs.length ≤ 8000) (hb2 : ys.length ≤ 8000) :
    MetFree l (⟨"java/lang/StringLatin1", "equals", "([B[B)Z"⟩ : MethodName) (head1 (Jvm.Cond.code (⟨"java/lang/StringLatin1", "equals", "([B[B)Z"⟩ : MethodName) jdk_43_method_13_code 3 (some .boolean) :: ws) ({ frames := 0, cells := 0, slots := 0, locals := 0 } : Room)) (fun ar_ U => ar_ = #[(.ref bx), (.ref by_)] ∧ Z.Warmed39 U.vm ∧ U.heap = h0) (fun _ _ _ _ _ => True) (fun _ U oc_ U' => ∃ v L, oc_ = .returned v ∧ Q_rmLEq Z bx by_ kx ky xs ys h0 n0 v U'.heap L ∧ FrameEnd U oc_ U' L ({ frames := 0, cells := 0, slots := 0, locals := 0 } : Room).cells ({ frames := 0, cells := 0, slots := 0, locals := 0 } : Room).slots) := by
  refine MetFree.of_bodySF (plainFor_of_name pn_java_lang_StringLatin1) hisR ?_
  intro p e s m args below meth c s₁ Bd hml0 hP hK
  obtain ⟨rfl, hZ, hh⟩ := hP
  have hx := Bd.exec
  have hby := Bd.bytes
  have hml : c.maxLocals = 3 := hml0
  have hown : s.vm.findClass "java/lang/StringLatin1" = some m.cls := findClass_of_methodNamed Bd.named
  have hnm := (name_of_methodNamed Bd.named Bd.method).1
  have X0 : Stand p l e ({ frames := 0, cells := 0, slots := 0, locals := 0 } : Room) s m #[(.ref bx), (.ref by_)] below meth c s₁ [] 0 0 := Stand.of_body Bd
  have e0 : s₁.heap = h0 := by rw [← hh, Bd.state]; rfl
  have N0 := Fr.nil n0
  have pre0 : ∀ t_, Steps p.tables e below (s₁.setTop (mkF m 0 #[.val (.ref bx), .val (.ref by_), .unset] [])) t_ → Steps p.tables e below (s₁.setTop (entryFrame m #[(.ref bx), (.ref by_)] 3)) t_ := fun t_ k_ => castTop (ef_rmLEq m bx by_) k_
  have lt_I1 : @LT.lt Nat _ bx h0.size := I1.lt
  have lt_I2 : @LT.lt Nat _ by_ h0.size := I2.lt
  obtain ⟨cl1, Ar1, -, S1, M1, -, -⟩ := id I1
  obtain ⟨cl2, Ar2, -, S2, M2, -, -⟩ := id I2
  have s3 : ∀ t_, Steps p.tables e below (s₁.setTop (mkF m 4 #[.val (.ref bx), .val (.ref by_), .unset] [(.int (Int32.ofNat ys.length)), (.int (Int32.ofNat xs.length))])) t_ → Steps p.tables e below (s₁.setTop (entryFrame m #[(.ref bx), (.ref by_)] 3)) t_ := fun t_ k_ => pre0 t_ (by
    show Steps p.tables e below (s₁.setTop (mkF m 0 #[.val (.ref bx), .val (.ref by_), .unset] [])) t_
    refine XS.aloadN X0.here hx rfl (Jvm.hb hby d_jdk_43_method_13_0) rfl rfl ?_
    refine X0.arraylength hx (by rw [e0]; exact Ar1.1) (State.isArrayOf_alike hZ.alike Ar1.2.1) (g := (mkF m 1 #[.val (.ref bx), .val (.ref by_), .unset] [(.ref bx)])) rfl rfl (Jvm.hb hby d_jdk_43_method_13_1) _ ?_
    rw [len_of S1 M1]
    show Steps p.tables e below (s₁.setTop (mkF m 2 #[.val (.ref bx), .val (.ref by_), .unset] [(.int (Int32.ofNat xs.length))])) _
    refine XS.aloadN X0.here hx rfl (Jvm.hb hby d_jdk_43_method_13_2) rfl rfl ?_
    refine X0.arraylength hx (by rw [e0]; exact Ar2.1) (State.isArrayOf_alike hZ.alike Ar2.2.1) (g := (mkF m 3 #[.val (.ref bx), .val (.ref by_), .unset] [(.ref by_), (.int (Int32.ofNat xs.length))])) rfl rfl (Jvm.hb hby d_jdk_43_method_13_3) _ ?_
    rw [len_of S2 M2]
    show Steps p.tables e below (s₁.setTop (mkF m 4 #[.val (.ref bx), .val (.ref by_), .unset] [(.int (Int32.ofNat ys.length)), (.int (Int32.ofNat xs.length))])) _
    show Steps p.tables e below (s₁.setTop (mkF m 4 #[.val (.ref bx), .val (.ref by_), .unset] [(.int (Int32.ofNat ys.length)), (.int (Int32.ofNat xs.length))])) t_
    exact k_)
  by_cases h4 : (Int32.ofNat xs.length) = (Int32.ofNat ys.length)
  · have s5 : ∀ t_, Steps p.tables e below (s₁.setTop (mkF m 9 #[.val (.ref bx), .val (.ref by_), .val (.int (0 : Int32))] [])) t_ → Steps p.tables e below (s₁.setTop (entryFrame m #[(.ref bx), (.ref by_)] 3)) t_ := fun t_ k_ => s3 t_ (by
      show Steps p.tables e below (s₁.setTop (mkF m 4 #[.val (.ref bx), .val (.ref by_), .unset] [(.int (Int32.ofNat ys.length)), (.int (Int32.ofNat xs.length))])) t_
      refine XS.icmpNo X0.here hx rfl (Jvm.hb hby d_jdk_43_method_13_4) rfl (teq h4).2 ?_
      show Steps p.tables e below (s₁.setTop (mkF m 7 #[.val (.ref bx), .val (.ref by_), .unset] [])) _
      refine XS.iconst X0.here hx rfl (Jvm.hb hby d_jdk_43_method_13_7) ?_
      refine XS.istoreN X0.here hx rfl (Jvm.hb hby d_jdk_43_method_13_8) rfl (l' := #[.val (.ref bx), .val (.ref by_), .val (.int (0 : Int32))]) rfl ?_
      show Steps p.tables e below (s₁.setTop (mkF m 9 #[.val (.ref bx), .val (.ref by_), .val (.int (0 : Int32))] [])) t_
      exact k_)
    have lp6 : ∀ (k_ : Nat) (j : Nat) (T_ : State) (lo_ : List Loc), j + k_ = xs.length → Stand p l e ({ frames := 0, cells := 0, slots := 0, locals := 0 } : Room) s m #[(.ref bx), (.ref by_)] below meth c T_ lo_ 0 0 → T_.heap = h0 → Fr n0 lo_ → (∀ i, i < j → xs.getD i 0 = ys.getD i 0) → (xs.length = ys.length) → ∃ (T' : State) (lo' : List Loc) (fe_ : JFrame), Stand p l e ({ frames := 0, cells := 0, slots := 0, locals := 0 } : Room) s m #[(.ref bx), (.ref by_)] below meth c T' lo' 0 0 ∧ T'.heap = h0 ∧ Fr n0 lo' ∧ ((fe_ = (mkF m 32 #[.val (.ref bx), .val (.ref by_), .val (.int (Int32.ofNat xs.length))] []) ∧ (xs = ys)) ∨ (∃ (jj : Nat), fe_ = (mkF m 24 #[.val (.ref bx), .val (.ref by_), .val (.int (Int32.ofNat jj))] []) ∧ (¬ (xs = ys)))) ∧ ∀ t_, Steps p.tables e below (T'.setTop fe_) t_ → Steps p.tables e below (T_.setTop (mkF m 9 #[.val (.ref bx), .val (.ref by_), .val (.int (Int32.ofNat j))] [])) t_ := by
      intro k_
      induction k_ with
      | zero => 
        intro j T_ lo_ hm_ X_ e_ N_ hp hlen
        obtain ⟨cl7, Ar7, -, S7, M7, -, -⟩ := id I1
        have s8 : ∀ t_, Steps p.tables e below (T_.setTop (mkF m 32 #[.val (.ref bx), .val (.ref by_), .val (.int (Int32.ofNat j))] [])) t_ → Steps p.tables e below (T_.setTop (mkF m 9 #[.val (.ref bx), .val (.ref by_), .val (.int (Int32.ofNat j))] [])) t_ := fun t_ k_ => (fun _ k_ => k_) t_ (by
          show Steps p.tables e below (T_.setTop (mkF m 9 #[.val (.ref bx), .val (.ref by_), .val (.int (Int32.ofNat j))] [])) t_
          refine XS.iloadN X_.here hx rfl (Jvm.hb hby d_jdk_43_method_13_9) rfl ?_
          refine XS.aloadN X_.here hx rfl (Jvm.hb hby d_jdk_43_method_13_10) rfl rfl ?_
          refine X_.arraylength hx (by rw [e_]; exact Ar7.1) (State.isArrayOf_alike hZ.alike Ar7.2.1) (g := (mkF m 11 #[.val (.ref bx), .val (.ref by_), .val (.int (Int32.ofNat j))] [(.ref bx), (.int (Int32.ofNat j))])) rfl rfl (Jvm.hb hby d_jdk_43_method_13_11) _ ?_
          rw [len_of S7 M7]
          show Steps p.tables e below (T_.setTop (mkF m 12 #[.val (.ref bx), .val (.ref by_), .val (.int (Int32.ofNat j))] [(.int (Int32.ofNat xs.length)), (.int (Int32.ofNat j))])) _
          refine XS.icmpYes X_.here hx rfl (pc0 := 12) (pc' := 32) rfl (Jvm.hb hby d_jdk_43_method_13_12) rfl (flt (own_nlt (by omega) (by omega))).2.1 (by decide) (by decide) ?_
          show Steps p.tables e below (T_.setTop (mkF m 32 #[.val (.ref bx), .val (.ref by_), .val (.int (Int32.ofNat j))] [])) _
          show Steps p.tables e below (T_.setTop (mkF m 32 #[.val (.ref bx), .val (.ref by_), .val (.int (Int32.ofNat j))] [])) t_
          exact k_)
        exact ⟨T_, _, _, X_, e_, N_, (Or.inl ⟨(by rw [show j = xs.length by omega]), (own_ext hlen fun i hi => hp i (by omega))⟩), s8⟩
      | succ k_ ih => 
        intro j T_ lo_ hm_ X_ e_ N_ hp hlen
        obtain ⟨cl9, Ar9, -, S9, M9, -, -⟩ := id I1
        obtain ⟨cl10, Ar10, -, S10, M10, H10, -⟩ := id I1
        have hin10 : ¬ ((Int32.ofNat j) < 0 ∨ cl10.slots.size ≤ ((Int32.ofNat j)).toNatClampNeg) := inb_of S10 (own_in (by omega) (by omega))
        have hat10 : cl10.slots[((Int32.ofNat j)).toNatClampNeg]? = some (.int (xs.getD j 0)) := H10.at hin10 (own_getc xs j _ (by omega) (by omega))
        obtain ⟨cl11, Ar11, -, S11, M11, H11, -⟩ := id I2
        have hin11 : ¬ ((Int32.ofNat j) < 0 ∨ cl11.slots.size ≤ ((Int32.ofNat j)).toNatClampNeg) := inb_of S11 (own_in (by omega) (by omega))
        have hat11 : cl11.slots[((Int32.ofNat j)).toNatClampNeg]? = some (.int (ys.getD j 0)) := H11.at hin11 (own_getc ys j _ (by omega) (by omega))
        have s12 : ∀ t_, Steps p.tables e below (T_.setTop (mkF m 21 #[.val (.ref bx), .val (.ref by_), .val (.int (Int32.ofNat j))] [(.int (ys.getD j 0)), (.int (xs.getD j 0))])) t_ → Steps p.tables e below (T_.setTop (mkF m 9 #[.val (.ref bx), .val (.ref by_), .val (.int (Int32.ofNat j))] [])) t_ := fun t_ k_ => (fun _ k_ => k_) t_ (by
          show Steps p.tables e below (T_.setTop (mkF m 9 #[.val (.ref bx), .val (.ref by_), .val (.int (Int32.ofNat j))] [])) t_
          refine XS.iloadN X_.here hx rfl (Jvm.hb hby d_jdk_43_method_13_9) rfl ?_
          refine XS.aloadN X_.here hx rfl (Jvm.hb hby d_jdk_43_method_13_10) rfl rfl ?_
          refine X_.arraylength hx (by rw [e_]; exact Ar9.1) (State.isArrayOf_alike hZ.alike Ar9.2.1) (g := (mkF m 11 #[.val (.ref bx), .val (.ref by_), .val (.int (Int32.ofNat j))] [(.ref bx), (.int (Int32.ofNat j))])) rfl rfl (Jvm.hb hby d_jdk_43_method_13_11) _ ?_
          rw [len_of S9 M9]
          show Steps p.tables e below (T_.setTop (mkF m 12 #[.val (.ref bx), .val (.ref by_), .val (.int (Int32.ofNat j))] [(.int (Int32.ofNat xs.length)), (.int (Int32.ofNat j))])) _
          refine XS.icmpNo X_.here hx rfl (Jvm.hb hby d_jdk_43_method_13_12) rfl (tlt (own_lt (by omega) (by omega))).2.1 ?_
          show Steps p.tables e below (T_.setTop (mkF m 15 #[.val (.ref bx), .val (.ref by_), .val (.int (Int32.ofNat j))] [])) _
          refine XS.aloadN X_.here hx rfl (Jvm.hb hby d_jdk_43_method_13_15) rfl rfl ?_
          refine XS.iloadN X_.here hx rfl (Jvm.hb hby d_jdk_43_method_13_16) rfl ?_
          refine X_.baloadBytes hx (j := (Int32.ofNat j)) (v := (.int (xs.getD j 0))) (by rw [e_]; exact Ar10.1) (State.isArrayOf_alike hZ.alike Ar10.2.1) Ar10.2.2 hin10 hat10 (g := (mkF m 17 #[.val (.ref bx), .val (.ref by_), .val (.int (Int32.ofNat j))] [(.int (Int32.ofNat j)), (.ref bx)])) rfl rfl (Jvm.hb hby d_jdk_43_method_13_17) _ ?_
          show Steps p.tables e below (T_.setTop (mkF m 18 #[.val (.ref bx), .val (.ref by_), .val (.int (Int32.ofNat j))] [(.int (xs.getD j 0))])) _
          refine XS.aloadN X_.here hx rfl (Jvm.hb hby d_jdk_43_method_13_18) rfl rfl ?_
          refine XS.iloadN X_.here hx rfl (Jvm.hb hby d_jdk_43_method_13_19) rfl ?_
          refine X_.baloadBytes hx (j := (Int32.ofNat j)) (v := (.int (ys.getD j 0))) (by rw [e_]; exact Ar11.1) (State.isArrayOf_alike hZ.alike Ar11.2.1) Ar11.2.2 hin11 hat11 (g := (mkF m 20 #[.val (.ref bx), .val (.ref by_), .val (.int (Int32.ofNat j))] [(.int (Int32.ofNat j)), (.ref by_), (.int (xs.getD j 0))])) rfl rfl (Jvm.hb hby d_jdk_43_method_13_20) _ ?_
          show Steps p.tables e below (T_.setTop (mkF m 21 #[.val (.ref bx), .val (.ref by_), .val (.int (Int32.ofNat j))] [(.int (ys.getD j 0)), (.int (xs.getD j 0))])) _
          show Steps p.tables e below (T_.setTop (mkF m 21 #[.val (.ref bx), .val (.ref by_), .val (.int (Int32.ofNat j))] [(.int (ys.getD j 0)), (.int (xs.getD j 0))])) t_
          exact k_)
        by_cases h13 : (xs.getD j 0) = (ys.getD j 0)
        · have s14 : ∀ t_, Steps p.tables e below (T_.setTop (mkF m 9 #[.val (.ref bx), .val (.ref by_), .val (.int ((Int32.ofNat j) + (1 : Int32)))] [])) t_ → Steps p.tables e below (T_.setTop (mkF m 9 #[.val (.ref bx), .val (.ref by_), .val (.int (Int32.ofNat j))] [])) t_ := fun t_ k_ => s12 t_ (by
            show Steps p.tables e below (T_.setTop (mkF m 21 #[.val (.ref bx), .val (.ref by_), .val (.int (Int32.ofNat j))] [(.int (ys.getD j 0)), (.int (xs.getD j 0))])) t_
            refine XS.icmpYes X_.here hx rfl (pc0 := 21) (pc' := 26) rfl (Jvm.hb hby d_jdk_43_method_13_21) rfl (teq h13).1 (by decide) (by decide) ?_
            show Steps p.tables e below (T_.setTop (mkF m 26 #[.val (.ref bx), .val (.ref by_), .val (.int (Int32.ofNat j))] [])) _
            refine XS.iinc X_.here hx rfl (Jvm.hb hby d_jdk_43_method_13_26) rfl (l' := #[.val (.ref bx), .val (.ref by_), .val (.int ((Int32.ofNat j) + (1 : Int32)))]) rfl ?_
            refine XS.goto X_.here hx rfl (pc0 := 29) (pc' := 9) rfl (Jvm.hb hby d_jdk_43_method_13_29) (by decide) (by decide) ?_
            show Steps p.tables e below (T_.setTop (mkF m 9 #[.val (.ref bx), .val (.ref by_), .val (.int ((Int32.ofNat j) + (1 : Int32)))] [])) t_
            exact k_)
          obtain ⟨T15, lo15, fe15, X15, e15, N15, A15, st15⟩ := ih (j + 1) T_ _  (by omega) X_ e_ N_   (fun i hi => by rcases Nat.lt_succ_iff_lt_or_eq.mp hi with q | q; exact hp i q; rw [q]; exact h13) hlen
          exact ⟨T15, lo15, fe15, X15, e15, N15, A15, fun t_ k_ => s14 t_ (castTop (by rw [own_up]) (st15 t_ k_))⟩
        · have s16 : ∀ t_, Steps p.tables e below (T_.setTop (mkF m 24 #[.val (.ref bx), .val (.ref by_), .val (.int (Int32.ofNat j))] [])) t_ → Steps p.tables e below (T_.setTop (mkF m 9 #[.val (.ref bx), .val (.ref by_), .val (.int (Int32.ofNat j))] [])) t_ := fun t_ k_ => s12 t_ (by
            show Steps p.tables e below (T_.setTop (mkF m 21 #[.val (.ref bx), .val (.ref by_), .val (.int (Int32.ofNat j))] [(.int (ys.getD j 0)), (.int (xs.getD j 0))])) t_
            refine XS.icmpNo X_.here hx rfl (Jvm.hb hby d_jdk_43_method_13_21) rfl (feq h13).1 ?_
            show Steps p.tables e below (T_.setTop (mkF m 24 #[.val (.ref bx), .val (.ref by_), .val (.int (Int32.ofNat j))] [])) _
            show Steps p.tables e below (T_.setTop (mkF m 24 #[.val (.ref bx), .val (.ref by_), .val (.int (Int32.ofNat j))] [])) t_
            exact k_)
          exact ⟨T_, _, _, X_, e_, N_, (Or.inr ⟨j, rfl, (fun e => h13 (by rw [e]))⟩), s16⟩
    obtain ⟨T17, lo17, fe17, X17, e17, N17, A17, st17⟩ := lp6 xs.length 0 s₁ _  (by omega) X0 e0 N0   (fun i hi => absurd hi (Nat.not_lt_zero i)) (own_inj (by omega) (by omega) h4)
    rcases A17 with ⟨rfl, J17_0⟩ | ⟨jj_17, rfl, J17_0⟩
    · have s18 : ∀ t_, Steps p.tables e below (T17.setTop (mkF m 32 #[.val (.ref bx), .val (.ref by_), .val (.int (Int32.ofNat xs.length))] [])) t_ → Steps p.tables e below (s₁.setTop (entryFrame m #[(.ref bx), (.ref by_)] 3)) t_ := fun t_ k_ => s5 t_ (st17 t_ k_)
      have s19 : ∀ t_, Steps p.tables e below (T17.setTop (mkF m 33 #[.val (.ref bx), .val (.ref by_), .val (.int (Int32.ofNat xs.length))] [(.int (1 : Int32))])) t_ → Steps p.tables e below (s₁.setTop (entryFrame m #[(.ref bx), (.ref by_)] 3)) t_ := fun t_ k_ => s18 t_ (by
        show Steps p.tables e below (T17.setTop (mkF m 32 #[.val (.ref bx), .val (.ref by_), .val (.int (Int32.ofNat xs.length))] [])) t_
        refine XS.iconst X17.here hx rfl (Jvm.hb hby d_jdk_43_method_13_32) ?_
        show Steps p.tables e below (T17.setTop (mkF m 33 #[.val (.ref bx), .val (.ref by_), .val (.int (Int32.ofNat xs.length))] [(.int (1 : Int32))])) t_
        exact k_)
      obtain ⟨fs, hr, hrun, hended, hW, hsame⟩ := X17.leave (v := some (.int (1 : Int32))) (fun h => by rw [Bd.returns] at h; cases h)
      refine ⟨_, _, s19 _ ?_, hrun, hended, _, _, rfl, ?_, ⟨_, rfl⟩, hW, hsame.mono (by decide) (by decide)⟩
      · show Steps p.tables e below (T17.setTop (mkF m 33 #[.val (.ref bx), .val (.ref by_), .val (.int (Int32.ofNat xs.length))] [(.int (1 : Int32))])) _
        exact retN X17 hx (t := .boolean) Bd.returns (by simp) (Jvm.hb hby d_jdk_43_method_13_33) hr
      · show Q_rmLEq Z _ _ _ _ _ _ h0 n0 _ T17.heap _
        rw [e17]
        exact ⟨(by rw [if_pos J17_0]), N17, rfl⟩
    · have s20 : ∀ t_, Steps p.tables e below (T17.setTop (mkF m 24 #[.val (.ref bx), .val (.ref by_), .val (.int (Int32.ofNat jj_17))] [])) t_ → Steps p.tables e below (s₁.setTop (entryFrame m #[(.ref bx), (.ref by_)] 3)) t_ := fun t_ k_ => s5 t_ (st17 t_ k_)
      have s21 : ∀ t_, Steps p.tables e below (T17.setTop (mkF m 25 #[.val (.ref bx), .val (.ref by_), .val (.int (Int32.ofNat jj_17))] [(.int (0 : Int32))])) t_ → Steps p.tables e below (s₁.setTop (entryFrame m #[(.ref bx), (.ref by_)] 3)) t_ := fun t_ k_ => s20 t_ (by
        show Steps p.tables e below (T17.setTop (mkF m 24 #[.val (.ref bx), .val (.ref by_), .val (.int (Int32.ofNat jj_17))] [])) t_
        refine XS.iconst X17.here hx rfl (Jvm.hb hby d_jdk_43_method_13_24) ?_
        show Steps p.tables e below (T17.setTop (mkF m 25 #[.val (.ref bx), .val (.ref by_), .val (.int (Int32.ofNat jj_17))] [(.int (0 : Int32))])) t_
        exact k_)
      obtain ⟨fs, hr, hrun, hended, hW, hsame⟩ := X17.leave (v := some (.int (0 : Int32))) (fun h => by rw [Bd.returns] at h; cases h)
      refine ⟨_, _, s21 _ ?_, hrun, hended, _, _, rfl, ?_, ⟨_, rfl⟩, hW, hsame.mono (by decide) (by decide)⟩
      · show Steps p.tables e below (T17.setTop (mkF m 25 #[.val (.ref bx), .val (.ref by_), .val (.int (Int32.ofNat jj_17))] [(.int (0 : Int32))])) _
        exact retN X17 hx (t := .boolean) Bd.returns (by simp) (Jvm.hb hby d_jdk_43_method_13_25) hr
      · show Q_rmLEq Z _ _ _ _ _ _ h0 n0 _ T17.heap _
        rw [e17]
        exact ⟨(by rw [if_neg J17_0]), N17, rfl⟩
  · have s22 : ∀ t_, Steps p.tables e below (s₁.setTop (mkF m 35 #[.val (.ref bx), .val (.ref by_), .unset] [(.int (0 : Int32))])) t_ → Steps p.tables e below (s₁.setTop (entryFrame m #[(.ref bx), (.ref by_)] 3)) t_ := fun t_ k_ => s3 t_ (by
      show Steps p.tables e below (s₁.setTop (mkF m 4 #[.val (.ref bx), .val (.ref by_), .unset] [(.int (Int32.ofNat ys.length)), (.int (Int32.ofNat xs.length))])) t_
      refine XS.icmpYes X0.here hx rfl (pc0 := 4) (pc' := 34) rfl (Jvm.hb hby d_jdk_43_method_13_4) rfl (feq h4).2 (by decide) (by decide) ?_
      show Steps p.tables e below (s₁.setTop (mkF m 34 #[.val (.ref bx), .val (.ref by_), .unset] [])) _
      refine XS.iconst X0.here hx rfl (Jvm.hb hby d_jdk_43_method_13_34) ?_
      show Steps p.tables e below (s₁.setTop (mkF m 35 #[.val (.ref bx), .val (.ref by_), .unset] [(.int (0 : Int32))])) t_
      exact k_)
    obtain ⟨fs, hr, hrun, hended, hW, hsame⟩ := X0.leave (v := some (.int (0 : Int32))) (fun h => by rw [Bd.returns] at h; cases h)
    refine ⟨_, _, s22 _ ?_, hrun, hended, _, _, rfl, ?_, ⟨_, rfl⟩, hW, hsame.mono (by decide) (by decide)⟩
    · show Steps p.tables e below (s₁.setTop (mkF m 35 #[.val (.ref bx), .val (.ref by_), .unset] [(.int (0 : Int32))])) _
      exact retN X0 hx (t := .boolean) Bd.returns (by simp) (Jvm.hb hby d_jdk_43_method_13_35) hr
    · show Q_rmLEq Z _ _ _ _ _ _ h0 n0 _ s₁.heap _
      rw [e0]
      exact ⟨(by rw [if_neg (fun e => h4 (by rw [e]))]), N0, rfl⟩
theorem d_jdk_42_method_66_0 : decode jdk_42_method_66_code 0 = .ok (.aload_n 0, 1) := by decide +kernel
theorem d_jdk_42_method_66_1 : decode jdk_42_method_66_code 1 = .ok (.aload_n 1, 1) := by decide +kernel
theorem d_jdk_42_method_66_2 : decode jdk_42_method_66_code 2 = .ok (.if_acmp .ne 5, 3) := by decide +kernel
theorem d_jdk_42_method_66_7 : decode jdk_42_method_66_code 7 = .ok (.aload_n 1, 1) := by decide +kernel
theorem d_jdk_42_method_66_8 : decode jdk_42_method_66_code 8 = .ok (.instanceof 10, 3) := by decide +kernel
theorem d_jdk_42_method_66_11 : decode jdk_42_method_66_code 11 = .ok (.ifCond .eq 43, 3) := by decide +kernel
theorem d_jdk_42_method_66_14 : decode jdk_42_method_66_code 14 = .ok (.aload_n 1, 1) := by decide +kernel
theorem d_jdk_42_method_66_15 : decode jdk_42_method_66_code 15 = .ok (.checkcast 10, 3) := by decide +kernel
theorem d_jdk_42_method_66_18 : decode jdk_42_method_66_code 18 = .ok (.astore_n 2, 1) := by decide +kernel
theorem d_jdk_42_method_66_19 : decode jdk_42_method_66_code 19 = .ok (.getstatic 38, 3) := by decide +kernel
theorem d_jdk_42_method_66_22 : decode jdk_42_method_66_code 22 = .ok (.ifCond .eq 14, 3) := by decide +kernel
theorem d_jdk_42_method_66_25 : decode jdk_42_method_66_code 25 = .ok (.aload_n 0, 1) := by decide +kernel
theorem d_jdk_42_method_66_26 : decode jdk_42_method_66_code 26 = .ok (.getfield 15, 3) := by decide +kernel
theorem d_jdk_42_method_66_29 : decode jdk_42_method_66_code 29 = .ok (.aload_n 2, 1) := by decide +kernel
theorem d_jdk_42_method_66_30 : decode jdk_42_method_66_code 30 = .ok (.getfield 15, 3) := by decide +kernel
theorem d_jdk_42_method_66_33 : decode jdk_42_method_66_code 33 = .ok (.if_icmp .ne 21, 3) := by decide +kernel
theorem d_jdk_42_method_66_36 : decode jdk_42_method_66_code 36 = .ok (.aload_n 0, 1) := by decide +kernel
theorem d_jdk_42_method_66_37 : decode jdk_42_method_66_code 37 = .ok (.getfield 9, 3) := by decide +kernel
theorem d_jdk_42_method_66_40 : decode jdk_42_method_66_code 40 = .ok (.aload_n 2, 1) := by decide +kernel
theorem d_jdk_42_method_66_41 : decode jdk_42_method_66_code 41 = .ok (.getfield 9, 3) := by decide +kernel
theorem pd___B_B_Z : parseMethodDescriptor "([B[B)Z" = some ⟨[(.array .byte), (.array .byte)], some .boolean⟩ := by decide +kernel
theorem d_jdk_42_method_66_44 : decode jdk_42_method_66_code 44 = .ok (.invokestatic 541, 3) := by decide +kernel
theorem d_jdk_42_method_66_47 : decode jdk_42_method_66_code 47 = .ok (.ifCond .eq 7, 3) := by decide +kernel
theorem d_jdk_42_method_66_50 : decode jdk_42_method_66_code 50 = .ok (.iconst 1, 1) := by decide +kernel
theorem d_jdk_42_method_66_51 : decode jdk_42_method_66_code 51 = .ok (.goto 4, 3) := by decide +kernel
theorem d_jdk_42_method_66_55 : decode jdk_42_method_66_code 55 = .ok (.ireturn, 1) := by decide +kernel
theorem d_jdk_42_method_66_54 : decode jdk_42_method_66_code 54 = .ok (.iconst 0, 1) := by decide +kernel
theorem ef_rmSEq (m : MethodId) (x0 : Addr) (x1 : Addr) : entryFrame m #[(.ref x0), (.ref x1)] 3 = mkF m 0 #[.val (.ref x0), .val (.ref x1), .unset] [] := by first | (simp [entryFrame, mkF, argsToLocals, Value.category]; done) | rfl
def Q_rmSEq (Z : State) (ax : Addr) (ay : Addr) (cst : Int32) (bx : Addr) (kx : ClassId) (cs : List Int32) (by_ : Addr) (ky : ClassId) (ds : List Int32) (h0 : Heap) (n0 : Nat) (v : Option Value) (h : Heap) (L : List Loc) : Prop := (v = some (.int (if cs = ds then (1 : Int32) else (0 : Int32)))) ∧ (Fr n0 L) ∧ (h = h0)
set_option maxRecDepth 65536 in
set_option maxHeartbeats 40000000 in
theorem rmSEq (l : Launch) (Z : State) (a0 : Array Value) (hw : ∀ d ∈ tables_1, d.before a0 Z = true) (ws : List Jvm.Cond) (ax : Addr) (ay : Addr) (cst : Int32) (bx : Addr) (kx : ClassId) (cs : List Int32) (by_ : Addr) (ky : ClassId) (ds : List Int32) (h0 : Heap) (n0 : Nat) (Z0 : n0 ≤ h0.size) (I1 : Sta Z Z.heap "java/lang/String" "COMPACT_STRINGS" "Z" (.int cst)) (OX : Old Z n0 h0) (hcst : ¬ (cst = (0 : Int32))) (I2 : Exa Z h0 ax "java/lang/String") (I3 : Fld Z h0 ax "java/lang/String" "value" "[B" (.ref bx)) (I4 : Fld Z h0 ax "java/lang/String" "coder" "B" (.int (own_cod cs))) (I5 : Arv Z h0 bx kx .byte (Int32.ofNat (own_enl cs)) (own_enc cs) (.int (0 : Int32))) (I6 : Exa Z h0 ay "java/lang/String") (I7 : Fld Z h0 ay "java/lang/String" "value" "[B" (.ref by_)) (I8 : Fld Z h0 ay "java/lang/String" "coder" "B" (.int (own_cod ds))) (I9 : Arv Z h0 by_ ky .byte (Int32.ofNat (own_enl ds)) (own_enc ds) (.int (0 : Int32))) (hne : ¬ (ax = ay)) (hchc : own_chs cs) (hchd : own_chs ds) (hbc : cs.length ≤ 7) (hbd : ds.length ≤ 7) :
    MetFree l (⟨"java/lang/String", "equals", "(Ljava/lang/Object;)Z"⟩ : MethodName) (head1 (Jvm.Cond.code (⟨"java/lang/String", "equals", "(Ljava/lang/Object;)Z"⟩ : MethodName) jdk_42_method_66_code 3 (some .boolean) :: ws) ({ frames := 1, cells := 0, slots := 0, locals := 14 } : Room)) (fun ar_ U => ar_ = #[(.ref ax), (.ref ay)] ∧ Z.Warmed39 U.vm ∧ U.heap = h0) (fun _ _ _ _ _ => True) (fun _ U oc_ U' => ∃ v L, oc_ = .returned v ∧ Q_rmSEq Z ax ay cst bx kx cs by_ ky ds h0 n0 v U'.heap L ∧ FrameEnd U oc_ U' L ({ frames := 1, cells := 0, slots := 0, locals := 14 } : Room).cells ({ frames := 1, cells := 0, slots := 0, locals := 14 } : Room).slots) := by
  refine MetFree.of_bodySF (plainFor_of_name pn_java_lang_String) hisR ?_
  intro p e s m args below meth c s₁ Bd hml0 hP hK
  obtain ⟨rfl, hZ, hh⟩ := hP
  have hx := Bd.exec
  have hby := Bd.bytes
  have hml : c.maxLocals = 3 := hml0
  have hown : s.vm.findClass "java/lang/String" = some m.cls := findClass_of_methodNamed Bd.named
  have hnm := (name_of_methodNamed Bd.named Bd.method).1
  have X0 : Stand p l e ({ frames := 1, cells := 0, slots := 0, locals := 14 } : Room) s m #[(.ref ax), (.ref ay)] below meth c s₁ [] 0 0 := Stand.of_body Bd
  have e0 : s₁.heap = h0 := by rw [← hh, Bd.state]; rfl
  have N0 := Fr.nil n0
  have pre0 : ∀ t_, Steps p.tables e below (s₁.setTop (mkF m 0 #[.val (.ref ax), .val (.ref ay), .unset] [])) t_ → Steps p.tables e below (s₁.setTop (entryFrame m #[(.ref ax), (.ref ay)] 3)) t_ := fun t_ k_ => castTop (ef_rmSEq m ax ay) k_
  have lt_I2 : @LT.lt Nat _ ax h0.size := I2.lt
  have lt_I3 : @LT.lt Nat _ ax h0.size := I3.lt
  have lt_I4 : @LT.lt Nat _ ax h0.size := I4.lt
  have lt_I5 : @LT.lt Nat _ bx h0.size := I5.lt
  have lt_I6 : @LT.lt Nat _ ay h0.size := I6.lt
  have lt_I7 : @LT.lt Nat _ ay h0.size := I7.lt
  have lt_I8 : @LT.lt Nat _ ay h0.size := I8.lt
  have lt_I9 : @LT.lt Nat _ by_ h0.size := I9.lt
  obtain ⟨T1, X1, e1, st1⟩ := instY X0 hx hZ hown (hw _ (List.mem_of_getElem? (i := 52) rfl)) e0 (Ins.self I6) (g := (mkF m 8 #[.val (.ref ax), .val (.ref ay), .unset] [(.ref ay)])) rfl rfl (Jvm.hb hby d_jdk_42_method_66_8)
  obtain ⟨T2, X2, e2, st2⟩ := castY X1 hx hZ hown (hw _ (List.mem_of_getElem? (i := 52) rfl)) e1 (Ins.self I6) (g := (mkF m 15 #[.val (.ref ax), .val (.ref ay), .unset] [(.ref ay)])) rfl rfl (Jvm.hb hby d_jdk_42_method_66_15)
  obtain ⟨T3, X3, e3, st3⟩ := getS2 X2 hx hZ hown (host := "") (Or.inl (hw _ (List.mem_of_getElem? (i := 31) rfl))) Via.refl e2 (I1.ext OX.2) (g := (mkF m 19 #[.val (.ref ax), .val (.ref ay), .val (.ref ay)] [])) rfl (Jvm.hb hby d_jdk_42_method_66_19)
  obtain ⟨T4, X4, e4, st4⟩ := getF X3 hx hZ hown (host := "") (Or.inl (hw _ (List.mem_of_getElem? (i := 42) rfl))) Via.refl e3 I4 (g := (mkF m 26 #[.val (.ref ax), .val (.ref ay), .val (.ref ay)] [(.ref ax)])) rfl rfl (Jvm.hb hby d_jdk_42_method_66_26)
  obtain ⟨T5, X5, e5, st5⟩ := getF X4 hx hZ hown (host := "") (Or.inl (hw _ (List.mem_of_getElem? (i := 42) rfl))) Via.refl e4 I8 (g := (mkF m 30 #[.val (.ref ax), .val (.ref ay), .val (.ref ay)] [(.ref ay), (.int (own_cod cs))])) rfl rfl (Jvm.hb hby d_jdk_42_method_66_30)
  have s6 : ∀ t_, Steps p.tables e below (T5.setTop (mkF m 33 #[.val (.ref ax), .val (.ref ay), .val (.ref ay)] [(.int (own_cod ds)), (.int (own_cod cs))])) t_ → Steps p.tables e below (s₁.setTop (entryFrame m #[(.ref ax), (.ref ay)] 3)) t_ := fun t_ k_ => pre0 t_ (by
    show Steps p.tables e below (s₁.setTop (mkF m 0 #[.val (.ref ax), .val (.ref ay), .unset] [])) t_
    refine XS.aloadN X0.here hx rfl (Jvm.hb hby d_jdk_42_method_66_0) rfl rfl ?_
    refine XS.aloadN X0.here hx rfl (Jvm.hb hby d_jdk_42_method_66_1) rfl rfl ?_
    refine Jvm.RoadKit.acmp (g := (mkF m 2 #[.val (.ref ax), .val (.ref ay), .unset] [(.ref ay), (.ref ax)])) X0 hx rfl rfl rfl (pc0 := 2) (pc' := 7) (same := false) rfl (Jvm.hb hby d_jdk_42_method_66_2) rfl (decide_eq_false fun q => hne (Value.ref.inj q)) (by decide) (by decide) ?_
    show Steps p.tables e below (s₁.setTop (mkF m 7 #[.val (.ref ax), .val (.ref ay), .unset] [])) _
    refine XS.aloadN X0.here hx rfl (Jvm.hb hby d_jdk_42_method_66_7) rfl rfl ?_
    refine st1 _ ?_
    show Steps p.tables e below (T1.setTop (mkF m 11 #[.val (.ref ax), .val (.ref ay), .unset] [(.int (1 : Int32))])) _
    refine XS.ifNo X1.here hx rfl (Jvm.hb hby d_jdk_42_method_66_11) rfl ((if0 _ _).trans (feq (by decide : ¬ ((1 : Int32) = (0 : Int32)))).1) ?_
    show Steps p.tables e below (T1.setTop (mkF m 14 #[.val (.ref ax), .val (.ref ay), .unset] [])) _
    refine XS.aloadN X1.here hx rfl (Jvm.hb hby d_jdk_42_method_66_14) rfl rfl ?_
    refine st2 _ ?_
    show Steps p.tables e below (T2.setTop (mkF m 18 #[.val (.ref ax), .val (.ref ay), .unset] [(.ref ay)])) _
    refine XS.astoreN X2.here hx rfl (Jvm.hb hby d_jdk_42_method_66_18) rfl rfl (l' := #[.val (.ref ax), .val (.ref ay), .val (.ref ay)]) rfl ?_
    refine st3 _ ?_
    show Steps p.tables e below (T3.setTop (mkF m 22 #[.val (.ref ax), .val (.ref ay), .val (.ref ay)] [(.int cst)])) _
    refine XS.ifNo X3.here hx rfl (Jvm.hb hby d_jdk_42_method_66_22) rfl ((if0 _ _).trans (feq hcst).1) ?_
    show Steps p.tables e below (T3.setTop (mkF m 25 #[.val (.ref ax), .val (.ref ay), .val (.ref ay)] [])) _
    refine XS.aloadN X3.here hx rfl (Jvm.hb hby d_jdk_42_method_66_25) rfl rfl ?_
    refine st4 _ ?_
    show Steps p.tables e below (T4.setTop (mkF m 29 #[.val (.ref ax), .val (.ref ay), .val (.ref ay)] [(.int (own_cod cs))])) _
    refine XS.aloadN X4.here hx rfl (Jvm.hb hby d_jdk_42_method_66_29) rfl rfl ?_
    refine st5 _ ?_
    show Steps p.tables e below (T5.setTop (mkF m 33 #[.val (.ref ax), .val (.ref ay), .val (.ref ay)] [(.int (own_cod ds)), (.int (own_cod cs))])) _
    show Steps p.tables e below (T5.setTop (mkF m 33 #[.val (.ref ax), .val (.ref ay), .val (.ref ay)] [(.int (own_cod ds)), (.int (own_cod cs))])) t_
    exact k_)
  by_cases h7 : (own_cod cs) = (own_cod ds)
  · obtain ⟨T8, X8, e8, st8⟩ := getF X5 hx hZ hown (host := "") (Or.inl (hw _ (List.mem_of_getElem? (i := 43) rfl))) Via.refl e5 I3 (g := (mkF m 37 #[.val (.ref ax), .val (.ref ay), .val (.ref ay)] [(.ref ax)])) rfl rfl (Jvm.hb hby d_jdk_42_method_66_37)
    obtain ⟨T9, X9, e9, st9⟩ := getF X8 hx hZ hown (host := "") (Or.inl (hw _ (List.mem_of_getElem? (i := 43) rfl))) Via.refl e8 I7 (g := (mkF m 41 #[.val (.ref ax), .val (.ref ay), .val (.ref ay)] [(.ref ay), (.ref bx)])) rfl rfl (Jvm.hb hby d_jdk_42_method_66_41)
    have V10 : Arv Z h0 bx kx .byte (Int32.ofNat (own_eb cs).length) ((own_eb cs).map Value.int) (.int (0 : Int32)) := by rw [own_ebl, ← own_encb]; exact I5
    have V11 : Arv Z h0 by_ ky .byte (Int32.ofNat (own_eb ds).length) ((own_eb ds).map Value.int) (.int (0 : Int32)) := by rw [own_ebl, ← own_encb]; exact I9
    have Zc12 : n0 ≤ h0.size := by omega
    obtain ⟨_, _, ⟨T13, L13, k13, n13⟩, -, X13, ⟨Lc13, hQ13, l13, y13, z13⟩, st13⟩ := Jvm.LawKit.callS X9 hx (y := (⟨"java/lang/StringLatin1", "equals", "([B[B)Z"⟩ : MethodName)) hown (mvT hZ (hw _ (List.mem_of_getElem? (i := 53) rfl))) (mvT hZ (hw _ (List.mem_of_getElem? (i := 54) rfl))) (mvT hZ (hw _ (List.mem_of_getElem? (i := 55) rfl))) (mvT hZ (hw _ (List.mem_of_getElem? (i := 56) rfl))) (by decide) (backOf (W := 0) (rmLEq l Z a0 hw [] bx by_ kx ky (own_eb cs) (own_eb ds) h0 n0 Zc12 V10 V11 (by rw [own_ebl]; have := own_enll cs; omega) (by rw [own_ebl]; have := own_enll ds; omega)) hZ (hw _ (List.mem_of_getElem? (i := 56) rfl)) (hw _ (List.mem_of_getElem? (i := 55) rfl)) (by decide) (by decide)) (g := (mkF m 44 #[.val (.ref ax), .val (.ref ay), .val (.ref ay)] [(.ref by_), (.ref bx)])) rfl (by rw [hml]; rfl) (argsL := [(.ref bx), (.ref by_)]) (rest := []) (lenOf pd___B_B_Z rfl) rfl (by show 2 * 0 + _ ≤ _; exact Nat.le_of_eq rfl) (Jvm.hb hby d_jdk_42_method_66_44) (fun _ _ => ⟨rfl, e9, (by decide : 0 + 0 ≤ _), (by decide : 0 + 0 ≤ _)⟩)
    dsimp only [Pt.U, Pt.locs, Pt.cells, Pt.slots] at X13 l13 y13 z13 st13 hQ13
    subst l13 y13 z13
    obtain ⟨rfl, N13q, e13⟩ := hQ13
    have N13 := Fr.app N0 N13q
    have s14 : ∀ t_, Steps p.tables e below (T13.setTop (mkF m 47 #[.val (.ref ax), .val (.ref ay), .val (.ref ay)] [(.int (if (own_eb cs) = (own_eb ds) then (1 : Int32) else (0 : Int32)))])) t_ → Steps p.tables e below (s₁.setTop (entryFrame m #[(.ref ax), (.ref ay)] 3)) t_ := fun t_ k_ => s6 t_ (by
      show Steps p.tables e below (T5.setTop (mkF m 33 #[.val (.ref ax), .val (.ref ay), .val (.ref ay)] [(.int (own_cod ds)), (.int (own_cod cs))])) t_
      refine XS.icmpNo X5.here hx rfl (Jvm.hb hby d_jdk_42_method_66_33) rfl (teq h7).2 ?_
      show Steps p.tables e below (T5.setTop (mkF m 36 #[.val (.ref ax), .val (.ref ay), .val (.ref ay)] [])) _
      refine XS.aloadN X5.here hx rfl (Jvm.hb hby d_jdk_42_method_66_36) rfl rfl ?_
      refine st8 _ ?_
      show Steps p.tables e below (T8.setTop (mkF m 40 #[.val (.ref ax), .val (.ref ay), .val (.ref ay)] [(.ref bx)])) _
      refine XS.aloadN X8.here hx rfl (Jvm.hb hby d_jdk_42_method_66_40) rfl rfl ?_
      refine st9 _ ?_
      show Steps p.tables e below (T9.setTop (mkF m 44 #[.val (.ref ax), .val (.ref ay), .val (.ref ay)] [(.ref by_), (.ref bx)])) _
      refine st13 _ ?_
      show Steps p.tables e below (T13.setTop (mkF m 47 #[.val (.ref ax), .val (.ref ay), .val (.ref ay)] [(.int (if (own_eb cs) = (own_eb ds) then (1 : Int32) else (0 : Int32)))])) _
      show Steps p.tables e below (T13.setTop (mkF m 47 #[.val (.ref ax), .val (.ref ay), .val (.ref ay)] [(.int (if (own_eb cs) = (own_eb ds) then (1 : Int32) else (0 : Int32)))])) t_
      exact k_)
    by_cases h15 : own_eb cs = own_eb ds
    · have s16 : ∀ t_, Steps p.tables e below (T13.setTop (mkF m 47 #[.val (.ref ax), .val (.ref ay), .val (.ref ay)] [(.int (1 : Int32))])) t_ → Steps p.tables e below (s₁.setTop (entryFrame m #[(.ref ax), (.ref ay)] 3)) t_ := fun t_ k_ => s14 t_ (castTop (by simp only [if_pos h15]) k_)
      have s17 : ∀ t_, Steps p.tables e below (T13.setTop (mkF m 55 #[.val (.ref ax), .val (.ref ay), .val (.ref ay)] [(.int (1 : Int32))])) t_ → Steps p.tables e below (s₁.setTop (entryFrame m #[(.ref ax), (.ref ay)] 3)) t_ := fun t_ k_ => s16 t_ (by
        show Steps p.tables e below (T13.setTop (mkF m 47 #[.val (.ref ax), .val (.ref ay), .val (.ref ay)] [(.int (1 : Int32))])) t_
        refine XS.ifNo X13.here hx rfl (Jvm.hb hby d_jdk_42_method_66_47) rfl ((if0 _ _).trans (feq (by decide : ¬ ((1 : Int32) = (0 : Int32)))).1) ?_
        show Steps p.tables e below (T13.setTop (mkF m 50 #[.val (.ref ax), .val (.ref ay), .val (.ref ay)] [])) _
        refine XS.iconst X13.here hx rfl (Jvm.hb hby d_jdk_42_method_66_50) ?_
        refine XS.goto X13.here hx rfl (pc0 := 51) (pc' := 55) rfl (Jvm.hb hby d_jdk_42_method_66_51) (by decide) (by decide) ?_
        show Steps p.tables e below (T13.setTop (mkF m 55 #[.val (.ref ax), .val (.ref ay), .val (.ref ay)] [(.int (1 : Int32))])) t_
        exact k_)
      obtain ⟨fs, hr, hrun, hended, hW, hsame⟩ := X13.leave (v := some (.int (1 : Int32))) (fun h => by rw [Bd.returns] at h; cases h)
      refine ⟨_, _, s17 _ ?_, hrun, hended, _, _, rfl, ?_, ⟨_, rfl⟩, hW, hsame.mono (by decide) (by decide)⟩
      · show Steps p.tables e below (T13.setTop (mkF m 55 #[.val (.ref ax), .val (.ref ay), .val (.ref ay)] [(.int (1 : Int32))])) _
        exact retN X13 hx (t := .boolean) Bd.returns (by simp) (Jvm.hb hby d_jdk_42_method_66_55) hr
      · show Q_rmSEq Z _ _ _ _ _ _ _ _ _ h0 n0 _ T13.heap _
        rw [e13]
        exact ⟨(by rw [if_pos (own_encinj hchc hchd h7 h15)]), N13, rfl⟩
    · have s18 : ∀ t_, Steps p.tables e below (T13.setTop (mkF m 47 #[.val (.ref ax), .val (.ref ay), .val (.ref ay)] [(.int (0 : Int32))])) t_ → Steps p.tables e below (s₁.setTop (entryFrame m #[(.ref ax), (.ref ay)] 3)) t_ := fun t_ k_ => s14 t_ (castTop (by simp only [if_neg h15]) k_)
      have s19 : ∀ t_, Steps p.tables e below (T13.setTop (mkF m 55 #[.val (.ref ax), .val (.ref ay), .val (.ref ay)] [(.int (0 : Int32))])) t_ → Steps p.tables e below (s₁.setTop (entryFrame m #[(.ref ax), (.ref ay)] 3)) t_ := fun t_ k_ => s18 t_ (by
        show Steps p.tables e below (T13.setTop (mkF m 47 #[.val (.ref ax), .val (.ref ay), .val (.ref ay)] [(.int (0 : Int32))])) t_
        refine XS.ifYes X13.here hx rfl (pc0 := 47) (pc' := 54) rfl (Jvm.hb hby d_jdk_42_method_66_47) rfl ((if0 _ _).trans (teq (rfl : (0 : Int32) = (0 : Int32))).1) (by decide) (by decide) ?_
        show Steps p.tables e below (T13.setTop (mkF m 54 #[.val (.ref ax), .val (.ref ay), .val (.ref ay)] [])) _
        refine XS.iconst X13.here hx rfl (Jvm.hb hby d_jdk_42_method_66_54) ?_
        show Steps p.tables e below (T13.setTop (mkF m 55 #[.val (.ref ax), .val (.ref ay), .val (.ref ay)] [(.int (0 : Int32))])) t_
        exact k_)
      obtain ⟨fs, hr, hrun, hended, hW, hsame⟩ := X13.leave (v := some (.int (0 : Int32))) (fun h => by rw [Bd.returns] at h; cases h)
      refine ⟨_, _, s19 _ ?_, hrun, hended, _, _, rfl, ?_, ⟨_, rfl⟩, hW, hsame.mono (by decide) (by decide)⟩
      · show Steps p.tables e below (T13.setTop (mkF m 55 #[.val (.ref ax), .val (.ref ay), .val (.ref ay)] [(.int (0 : Int32))])) _
        exact retN X13 hx (t := .boolean) Bd.returns (by simp) (Jvm.hb hby d_jdk_42_method_66_55) hr
      · show Q_rmSEq Z _ _ _ _ _ _ _ _ _ h0 n0 _ T13.heap _
        rw [e13]
        exact ⟨(by rw [if_neg (fun e => h15 (by rw [e]))]), N13, rfl⟩
  · have s20 : ∀ t_, Steps p.tables e below (T5.setTop (mkF m 55 #[.val (.ref ax), .val (.ref ay), .val (.ref ay)] [(.int (0 : Int32))])) t_ → Steps p.tables e below (s₁.setTop (entryFrame m #[(.ref ax), (.ref ay)] 3)) t_ := fun t_ k_ => s6 t_ (by
      show Steps p.tables e below (T5.setTop (mkF m 33 #[.val (.ref ax), .val (.ref ay), .val (.ref ay)] [(.int (own_cod ds)), (.int (own_cod cs))])) t_
      refine XS.icmpYes X5.here hx rfl (pc0 := 33) (pc' := 54) rfl (Jvm.hb hby d_jdk_42_method_66_33) rfl (feq h7).2 (by decide) (by decide) ?_
      show Steps p.tables e below (T5.setTop (mkF m 54 #[.val (.ref ax), .val (.ref ay), .val (.ref ay)] [])) _
      refine XS.iconst X5.here hx rfl (Jvm.hb hby d_jdk_42_method_66_54) ?_
      show Steps p.tables e below (T5.setTop (mkF m 55 #[.val (.ref ax), .val (.ref ay), .val (.ref ay)] [(.int (0 : Int32))])) t_
      exact k_)
    obtain ⟨fs, hr, hrun, hended, hW, hsame⟩ := X5.leave (v := some (.int (0 : Int32))) (fun h => by rw [Bd.returns] at h; cases h)
    refine ⟨_, _, s20 _ ?_, hrun, hended, _, _, rfl, ?_, ⟨_, rfl⟩, hW, hsame.mono (by decide) (by decide)⟩
    · show Steps p.tables e below (T5.setTop (mkF m 55 #[.val (.ref ax), .val (.ref ay), .val (.ref ay)] [(.int (0 : Int32))])) _
      exact retN X5 hx (t := .boolean) Bd.returns (by simp) (Jvm.hb hby d_jdk_42_method_66_55) hr
    · show Q_rmSEq Z _ _ _ _ _ _ _ _ _ h0 n0 _ T5.heap _
      rw [e5]
      exact ⟨(by rw [if_neg (fun e => h7 (by rw [e]))]), N0, rfl⟩
theorem d_jdk_42_method_66_5 : decode jdk_42_method_66_code 5 = .ok (.iconst 1, 1) := by decide +kernel
theorem d_jdk_42_method_66_6 : decode jdk_42_method_66_code 6 = .ok (.ireturn, 1) := by decide +kernel
theorem ef_rmSEqS (m : MethodId) (x0 : Addr) (x1 : Addr) : entryFrame m #[(.ref x0), (.ref x1)] 3 = mkF m 0 #[.val (.ref x0), .val (.ref x1), .unset] [] := by first | (simp [entryFrame, mkF, argsToLocals, Value.category]; done) | rfl
def Q_rmSEqS (Z : State) (ax : Addr) (h0 : Heap) (n0 : Nat) (v : Option Value) (h : Heap) (L : List Loc) : Prop := (v = some (.int (1 : Int32))) ∧ (Fr n0 L) ∧ (h = h0)
set_option maxRecDepth 65536 in
set_option maxHeartbeats 40000000 in
theorem rmSEqS (l : Launch) (Z : State) (a0 : Array Value) (hw : ∀ d ∈ tables_1, d.before a0 Z = true) (ws : List Jvm.Cond) (ax : Addr) (h0 : Heap) (n0 : Nat) (Z0 : n0 ≤ h0.size)  :
    MetFree l (⟨"java/lang/String", "equals", "(Ljava/lang/Object;)Z"⟩ : MethodName) (head1 (Jvm.Cond.code (⟨"java/lang/String", "equals", "(Ljava/lang/Object;)Z"⟩ : MethodName) jdk_42_method_66_code 3 (some .boolean) :: ws) ({ frames := 0, cells := 0, slots := 0, locals := 0 } : Room)) (fun ar_ U => ar_ = #[(.ref ax), (.ref ax)] ∧ Z.Warmed39 U.vm ∧ U.heap = h0) (fun _ _ _ _ _ => True) (fun _ U oc_ U' => ∃ v L, oc_ = .returned v ∧ Q_rmSEqS Z ax h0 n0 v U'.heap L ∧ FrameEnd U oc_ U' L ({ frames := 0, cells := 0, slots := 0, locals := 0 } : Room).cells ({ frames := 0, cells := 0, slots := 0, locals := 0 } : Room).slots) := by
  refine MetFree.of_bodySF (plainFor_of_name pn_java_lang_String) hisR ?_
  intro p e s m args below meth c s₁ Bd hml0 hP hK
  obtain ⟨rfl, hZ, hh⟩ := hP
  have hx := Bd.exec
  have hby := Bd.bytes
  have hml : c.maxLocals = 3 := hml0
  have hown : s.vm.findClass "java/lang/String" = some m.cls := findClass_of_methodNamed Bd.named
  have hnm := (name_of_methodNamed Bd.named Bd.method).1
  have X0 : Stand p l e ({ frames := 0, cells := 0, slots := 0, locals := 0 } : Room) s m #[(.ref ax), (.ref ax)] below meth c s₁ [] 0 0 := Stand.of_body Bd
  have e0 : s₁.heap = h0 := by rw [← hh, Bd.state]; rfl
  have N0 := Fr.nil n0
  have pre0 : ∀ t_, Steps p.tables e below (s₁.setTop (mkF m 0 #[.val (.ref ax), .val (.ref ax), .unset] [])) t_ → Steps p.tables e below (s₁.setTop (entryFrame m #[(.ref ax), (.ref ax)] 3)) t_ := fun t_ k_ => castTop (ef_rmSEqS m ax ax) k_
  have s1 : ∀ t_, Steps p.tables e below (s₁.setTop (mkF m 6 #[.val (.ref ax), .val (.ref ax), .unset] [(.int (1 : Int32))])) t_ → Steps p.tables e below (s₁.setTop (entryFrame m #[(.ref ax), (.ref ax)] 3)) t_ := fun t_ k_ => pre0 t_ (by
    show Steps p.tables e below (s₁.setTop (mkF m 0 #[.val (.ref ax), .val (.ref ax), .unset] [])) t_
    refine XS.aloadN X0.here hx rfl (Jvm.hb hby d_jdk_42_method_66_0) rfl rfl ?_
    refine XS.aloadN X0.here hx rfl (Jvm.hb hby d_jdk_42_method_66_1) rfl rfl ?_
    refine Jvm.RoadKit.acmp (g := (mkF m 2 #[.val (.ref ax), .val (.ref ax), .unset] [(.ref ax), (.ref ax)])) X0 hx rfl rfl rfl (pc0 := 2) (pc' := 5) (same := true) rfl (Jvm.hb hby d_jdk_42_method_66_2) rfl (decide_eq_true rfl) (by decide) (by decide) ?_
    show Steps p.tables e below (s₁.setTop (mkF m 5 #[.val (.ref ax), .val (.ref ax), .unset] [])) _
    refine XS.iconst X0.here hx rfl (Jvm.hb hby d_jdk_42_method_66_5) ?_
    show Steps p.tables e below (s₁.setTop (mkF m 6 #[.val (.ref ax), .val (.ref ax), .unset] [(.int (1 : Int32))])) t_
    exact k_)
  obtain ⟨fs, hr, hrun, hended, hW, hsame⟩ := X0.leave (v := some (.int (1 : Int32))) (fun h => by rw [Bd.returns] at h; cases h)
  refine ⟨_, _, s1 _ ?_, hrun, hended, _, _, rfl, ?_, ⟨_, rfl⟩, hW, hsame.mono (by decide) (by decide)⟩
  · show Steps p.tables e below (s₁.setTop (mkF m 6 #[.val (.ref ax), .val (.ref ax), .unset] [(.int (1 : Int32))])) _
    exact retN X0 hx (t := .boolean) Bd.returns (by simp) (Jvm.hb hby d_jdk_42_method_66_6) hr
  · show Q_rmSEqS Z _ h0 n0 _ s₁.heap _
    rw [e0]
    exact ⟨rfl, N0, rfl⟩
theorem ef_rmSEqG (m : MethodId) (x0 : Addr) (x1 : Addr) : entryFrame m #[(.ref x0), (.ref x1)] 3 = mkF m 0 #[.val (.ref x0), .val (.ref x1), .unset] [] := by first | (simp [entryFrame, mkF, argsToLocals, Value.category]; done) | rfl
def Q_rmSEqG (Z : State) (ax : Addr) (ay : Addr) (cst : Int32) (bx : Addr) (kx : ClassId) (cs : List Int32) (by_ : Addr) (ky : ClassId) (ds : List Int32) (h0 : Heap) (n0 : Nat) (v : Option Value) (h : Heap) (L : List Loc) : Prop := (v = some (.int (if cs = ds then (1 : Int32) else (0 : Int32)))) ∧ (Fr n0 L) ∧ (h = h0)
set_option maxRecDepth 65536 in
set_option maxHeartbeats 40000000 in
theorem rmSEqG (l : Launch) (Z : State) (a0 : Array Value) (hw : ∀ d ∈ tables_1, d.before a0 Z = true) (ws : List Jvm.Cond) (ax : Addr) (ay : Addr) (cst : Int32) (bx : Addr) (kx : ClassId) (cs : List Int32) (by_ : Addr) (ky : ClassId) (ds : List Int32) (h0 : Heap) (n0 : Nat) (Z0 : n0 ≤ h0.size) (I1 : Sta Z Z.heap "java/lang/String" "COMPACT_STRINGS" "Z" (.int cst)) (OX : Old Z n0 h0) (hcst : ¬ (cst = (0 : Int32))) (I2 : Exa Z h0 ax "java/lang/String") (I3 : Fld Z h0 ax "java/lang/String" "value" "[B" (.ref bx)) (I4 : Fld Z h0 ax "java/lang/String" "coder" "B" (.int (own_cod cs))) (I5 : Arv Z h0 bx kx .byte (Int32.ofNat (own_enl cs)) (own_enc cs) (.int (0 : Int32))) (I6 : Exa Z h0 ay "java/lang/String") (I7 : Fld Z h0 ay "java/lang/String" "value" "[B" (.ref by_)) (I8 : Fld Z h0 ay "java/lang/String" "coder" "B" (.int (own_cod ds))) (I9 : Arv Z h0 by_ ky .byte (Int32.ofNat (own_enl ds)) (own_enc ds) (.int (0 : Int32))) (hchc : own_chs cs) (hchd : own_chs ds) (hbc : cs.length ≤ 7) (hbd : ds.length ≤ 7) :
    MetFree l (⟨"java/lang/String", "equals", "(Ljava/lang/Object;)Z"⟩ : MethodName) (head1 (Jvm.Cond.code (⟨"java/lang/String", "equals", "(Ljava/lang/Object;)Z"⟩ : MethodName) jdk_42_method_66_code 3 (some .boolean) :: ws) ({ frames := 1, cells := 0, slots := 0, locals := 14 } : Room)) (fun ar_ U => ar_ = #[(.ref ax), (.ref ay)] ∧ Z.Warmed39 U.vm ∧ U.heap = h0) (fun _ _ _ _ _ => True) (fun _ U oc_ U' => ∃ v L, oc_ = .returned v ∧ Q_rmSEqG Z ax ay cst bx kx cs by_ ky ds h0 n0 v U'.heap L ∧ FrameEnd U oc_ U' L ({ frames := 1, cells := 0, slots := 0, locals := 14 } : Room).cells ({ frames := 1, cells := 0, slots := 0, locals := 14 } : Room).slots) := by
  refine MetFree.of_bodySF (plainFor_of_name pn_java_lang_String) hisR ?_
  intro p e s m args below meth c s₁ Bd hml0 hP hK
  obtain ⟨rfl, hZ, hh⟩ := hP
  have hx := Bd.exec
  have hby := Bd.bytes
  have hml : c.maxLocals = 3 := hml0
  have hown : s.vm.findClass "java/lang/String" = some m.cls := findClass_of_methodNamed Bd.named
  have hnm := (name_of_methodNamed Bd.named Bd.method).1
  have X0 : Stand p l e ({ frames := 1, cells := 0, slots := 0, locals := 14 } : Room) s m #[(.ref ax), (.ref ay)] below meth c s₁ [] 0 0 := Stand.of_body Bd
  have e0 : s₁.heap = h0 := by rw [← hh, Bd.state]; rfl
  have N0 := Fr.nil n0
  have pre0 : ∀ t_, Steps p.tables e below (s₁.setTop (mkF m 0 #[.val (.ref ax), .val (.ref ay), .unset] [])) t_ → Steps p.tables e below (s₁.setTop (entryFrame m #[(.ref ax), (.ref ay)] 3)) t_ := fun t_ k_ => castTop (ef_rmSEqG m ax ay) k_
  have lt_I2 : @LT.lt Nat _ ax h0.size := I2.lt
  have lt_I3 : @LT.lt Nat _ ax h0.size := I3.lt
  have lt_I4 : @LT.lt Nat _ ax h0.size := I4.lt
  have lt_I5 : @LT.lt Nat _ bx h0.size := I5.lt
  have lt_I6 : @LT.lt Nat _ ay h0.size := I6.lt
  have lt_I7 : @LT.lt Nat _ ay h0.size := I7.lt
  have lt_I8 : @LT.lt Nat _ ay h0.size := I8.lt
  have lt_I9 : @LT.lt Nat _ by_ h0.size := I9.lt
  have s1 : ∀ t_, Steps p.tables e below (s₁.setTop (mkF m 2 #[.val (.ref ax), .val (.ref ay), .unset] [(.ref ay), (.ref ax)])) t_ → Steps p.tables e below (s₁.setTop (entryFrame m #[(.ref ax), (.ref ay)] 3)) t_ := fun t_ k_ => pre0 t_ (by
    show Steps p.tables e below (s₁.setTop (mkF m 0 #[.val (.ref ax), .val (.ref ay), .unset] [])) t_
    refine XS.aloadN X0.here hx rfl (Jvm.hb hby d_jdk_42_method_66_0) rfl rfl ?_
    refine XS.aloadN X0.here hx rfl (Jvm.hb hby d_jdk_42_method_66_1) rfl rfl ?_
    show Steps p.tables e below (s₁.setTop (mkF m 2 #[.val (.ref ax), .val (.ref ay), .unset] [(.ref ay), (.ref ax)])) t_
    exact k_)
  by_cases h2 : ax = ay
  · have s3 : ∀ t_, Steps p.tables e below (s₁.setTop (mkF m 6 #[.val (.ref ax), .val (.ref ay), .unset] [(.int (1 : Int32))])) t_ → Steps p.tables e below (s₁.setTop (entryFrame m #[(.ref ax), (.ref ay)] 3)) t_ := fun t_ k_ => s1 t_ (by
      show Steps p.tables e below (s₁.setTop (mkF m 2 #[.val (.ref ax), .val (.ref ay), .unset] [(.ref ay), (.ref ax)])) t_
      refine Jvm.RoadKit.acmp (g := (mkF m 2 #[.val (.ref ax), .val (.ref ay), .unset] [(.ref ay), (.ref ax)])) X0 hx rfl rfl rfl (pc0 := 2) (pc' := 5) (same := true) rfl (Jvm.hb hby d_jdk_42_method_66_2) rfl (decide_eq_true (congrArg Value.ref h2)) (by decide) (by decide) ?_
      show Steps p.tables e below (s₁.setTop (mkF m 5 #[.val (.ref ax), .val (.ref ay), .unset] [])) _
      refine XS.iconst X0.here hx rfl (Jvm.hb hby d_jdk_42_method_66_5) ?_
      show Steps p.tables e below (s₁.setTop (mkF m 6 #[.val (.ref ax), .val (.ref ay), .unset] [(.int (1 : Int32))])) t_
      exact k_)
    obtain ⟨fs, hr, hrun, hended, hW, hsame⟩ := X0.leave (v := some (.int (1 : Int32))) (fun h => by rw [Bd.returns] at h; cases h)
    refine ⟨_, _, s3 _ ?_, hrun, hended, _, _, rfl, ?_, ⟨_, rfl⟩, hW, hsame.mono (by decide) (by decide)⟩
    · show Steps p.tables e below (s₁.setTop (mkF m 6 #[.val (.ref ax), .val (.ref ay), .unset] [(.int (1 : Int32))])) _
      exact retN X0 hx (t := .boolean) Bd.returns (by simp) (Jvm.hb hby d_jdk_42_method_66_6) hr
    · show Q_rmSEqG Z _ _ _ _ _ _ _ _ _ h0 n0 _ s₁.heap _
      rw [e0]
      exact ⟨(by rw [if_pos (own_sameS (a := ay) (by have q := I3; rw [h2] at q; exact q) I7 (by have q := I4; rw [h2] at q; exact q) I8 I5 I9 hchc hchd (by omega) (by omega))]), N0, rfl⟩
  · obtain ⟨T4, X4, e4, st4⟩ := instY X0 hx hZ hown (hw _ (List.mem_of_getElem? (i := 52) rfl)) e0 (Ins.self I6) (g := (mkF m 8 #[.val (.ref ax), .val (.ref ay), .unset] [(.ref ay)])) rfl rfl (Jvm.hb hby d_jdk_42_method_66_8)
    obtain ⟨T5, X5, e5, st5⟩ := castY X4 hx hZ hown (hw _ (List.mem_of_getElem? (i := 52) rfl)) e4 (Ins.self I6) (g := (mkF m 15 #[.val (.ref ax), .val (.ref ay), .unset] [(.ref ay)])) rfl rfl (Jvm.hb hby d_jdk_42_method_66_15)
    obtain ⟨T6, X6, e6, st6⟩ := getS2 X5 hx hZ hown (host := "") (Or.inl (hw _ (List.mem_of_getElem? (i := 31) rfl))) Via.refl e5 (I1.ext OX.2) (g := (mkF m 19 #[.val (.ref ax), .val (.ref ay), .val (.ref ay)] [])) rfl (Jvm.hb hby d_jdk_42_method_66_19)
    obtain ⟨T7, X7, e7, st7⟩ := getF X6 hx hZ hown (host := "") (Or.inl (hw _ (List.mem_of_getElem? (i := 42) rfl))) Via.refl e6 I4 (g := (mkF m 26 #[.val (.ref ax), .val (.ref ay), .val (.ref ay)] [(.ref ax)])) rfl rfl (Jvm.hb hby d_jdk_42_method_66_26)
    obtain ⟨T8, X8, e8, st8⟩ := getF X7 hx hZ hown (host := "") (Or.inl (hw _ (List.mem_of_getElem? (i := 42) rfl))) Via.refl e7 I8 (g := (mkF m 30 #[.val (.ref ax), .val (.ref ay), .val (.ref ay)] [(.ref ay), (.int (own_cod cs))])) rfl rfl (Jvm.hb hby d_jdk_42_method_66_30)
    have s9 : ∀ t_, Steps p.tables e below (T8.setTop (mkF m 33 #[.val (.ref ax), .val (.ref ay), .val (.ref ay)] [(.int (own_cod ds)), (.int (own_cod cs))])) t_ → Steps p.tables e below (s₁.setTop (entryFrame m #[(.ref ax), (.ref ay)] 3)) t_ := fun t_ k_ => s1 t_ (by
      show Steps p.tables e below (s₁.setTop (mkF m 2 #[.val (.ref ax), .val (.ref ay), .unset] [(.ref ay), (.ref ax)])) t_
      refine Jvm.RoadKit.acmp (g := (mkF m 2 #[.val (.ref ax), .val (.ref ay), .unset] [(.ref ay), (.ref ax)])) X0 hx rfl rfl rfl (pc0 := 2) (pc' := 7) (same := false) rfl (Jvm.hb hby d_jdk_42_method_66_2) rfl (decide_eq_false fun q => h2 (Value.ref.inj q)) (by decide) (by decide) ?_
      show Steps p.tables e below (s₁.setTop (mkF m 7 #[.val (.ref ax), .val (.ref ay), .unset] [])) _
      refine XS.aloadN X0.here hx rfl (Jvm.hb hby d_jdk_42_method_66_7) rfl rfl ?_
      refine st4 _ ?_
      show Steps p.tables e below (T4.setTop (mkF m 11 #[.val (.ref ax), .val (.ref ay), .unset] [(.int (1 : Int32))])) _
      refine XS.ifNo X4.here hx rfl (Jvm.hb hby d_jdk_42_method_66_11) rfl ((if0 _ _).trans (feq (by decide : ¬ ((1 : Int32) = (0 : Int32)))).1) ?_
      show Steps p.tables e below (T4.setTop (mkF m 14 #[.val (.ref ax), .val (.ref ay), .unset] [])) _
      refine XS.aloadN X4.here hx rfl (Jvm.hb hby d_jdk_42_method_66_14) rfl rfl ?_
      refine st5 _ ?_
      show Steps p.tables e below (T5.setTop (mkF m 18 #[.val (.ref ax), .val (.ref ay), .unset] [(.ref ay)])) _
      refine XS.astoreN X5.here hx rfl (Jvm.hb hby d_jdk_42_method_66_18) rfl rfl (l' := #[.val (.ref ax), .val (.ref ay), .val (.ref ay)]) rfl ?_
      refine st6 _ ?_
      show Steps p.tables e below (T6.setTop (mkF m 22 #[.val (.ref ax), .val (.ref ay), .val (.ref ay)] [(.int cst)])) _
      refine XS.ifNo X6.here hx rfl (Jvm.hb hby d_jdk_42_method_66_22) rfl ((if0 _ _).trans (feq hcst).1) ?_
      show Steps p.tables e below (T6.setTop (mkF m 25 #[.val (.ref ax), .val (.ref ay), .val (.ref ay)] [])) _
      refine XS.aloadN X6.here hx rfl (Jvm.hb hby d_jdk_42_method_66_25) rfl rfl ?_
      refine st7 _ ?_
      show Steps p.tables e below (T7.setTop (mkF m 29 #[.val (.ref ax), .val (.ref ay), .val (.ref ay)] [(.int (own_cod cs))])) _
      refine XS.aloadN X7.here hx rfl (Jvm.hb hby d_jdk_42_method_66_29) rfl rfl ?_
      refine st8 _ ?_
      show Steps p.tables e below (T8.setTop (mkF m 33 #[.val (.ref ax), .val (.ref ay), .val (.ref ay)] [(.int (own_cod ds)), (.int (own_cod cs))])) _
      show Steps p.tables e below (T8.setTop (mkF m 33 #[.val (.ref ax), .val (.ref ay), .val (.ref ay)] [(.int (own_cod ds)), (.int (own_cod cs))])) t_
      exact k_)
    by_cases h10 : (own_cod cs) = (own_cod ds)
    · obtain ⟨T11, X11, e11, st11⟩ := getF X8 hx hZ hown (host := "") (Or.inl (hw _ (List.mem_of_getElem? (i := 43) rfl))) Via.refl e8 I3 (g := (mkF m 37 #[.val (.ref ax), .val (.ref ay), .val (.ref ay)] [(.ref ax)])) rfl rfl (Jvm.hb hby d_jdk_42_method_66_37)
      obtain ⟨T12, X12, e12, st12⟩ := getF X11 hx hZ hown (host := "") (Or.inl (hw _ (List.mem_of_getElem? (i := 43) rfl))) Via.refl e11 I7 (g := (mkF m 41 #[.val (.ref ax), .val (.ref ay), .val (.ref ay)] [(.ref ay), (.ref bx)])) rfl rfl (Jvm.hb hby d_jdk_42_method_66_41)
      have V13 : Arv Z h0 bx kx .byte (Int32.ofNat (own_eb cs).length) ((own_eb cs).map Value.int) (.int (0 : Int32)) := by rw [own_ebl, ← own_encb]; exact I5
      have V14 : Arv Z h0 by_ ky .byte (Int32.ofNat (own_eb ds).length) ((own_eb ds).map Value.int) (.int (0 : Int32)) := by rw [own_ebl, ← own_encb]; exact I9
      have Zc15 : n0 ≤ h0.size := by omega
      obtain ⟨_, _, ⟨T16, L16, k16, n16⟩, -, X16, ⟨Lc16, hQ16, l16, y16, z16⟩, st16⟩ := Jvm.LawKit.callS X12 hx (y := (⟨"java/lang/StringLatin1", "equals", "([B[B)Z"⟩ : MethodName)) hown (mvT hZ (hw _ (List.mem_of_getElem? (i := 53) rfl))) (mvT hZ (hw _ (List.mem_of_getElem? (i := 54) rfl))) (mvT hZ (hw _ (List.mem_of_getElem? (i := 55) rfl))) (mvT hZ (hw _ (List.mem_of_getElem? (i := 56) rfl))) (by decide) (backOf (W := 0) (rmLEq l Z a0 hw [] bx by_ kx ky (own_eb cs) (own_eb ds) h0 n0 Zc15 V13 V14 (by rw [own_ebl]; have := own_enll cs; omega) (by rw [own_ebl]; have := own_enll ds; omega)) hZ (hw _ (List.mem_of_getElem? (i := 56) rfl)) (hw _ (List.mem_of_getElem? (i := 55) rfl)) (by decide) (by decide)) (g := (mkF m 44 #[.val (.ref ax), .val (.ref ay), .val (.ref ay)] [(.ref by_), (.ref bx)])) rfl (by rw [hml]; rfl) (argsL := [(.ref bx), (.ref by_)]) (rest := []) (lenOf pd___B_B_Z rfl) rfl (by show 2 * 0 + _ ≤ _; exact Nat.le_of_eq rfl) (Jvm.hb hby d_jdk_42_method_66_44) (fun _ _ => ⟨rfl, e12, (by decide : 0 + 0 ≤ _), (by decide : 0 + 0 ≤ _)⟩)
      dsimp only [Pt.U, Pt.locs, Pt.cells, Pt.slots] at X16 l16 y16 z16 st16 hQ16
      subst l16 y16 z16
      obtain ⟨rfl, N16q, e16⟩ := hQ16
      have N16 := Fr.app N0 N16q
      have s17 : ∀ t_, Steps p.tables e below (T16.setTop (mkF m 47 #[.val (.ref ax), .val (.ref ay), .val (.ref ay)] [(.int (if (own_eb cs) = (own_eb ds) then (1 : Int32) else (0 : Int32)))])) t_ → Steps p.tables e below (s₁.setTop (entryFrame m #[(.ref ax), (.ref ay)] 3)) t_ := fun t_ k_ => s9 t_ (by
        show Steps p.tables e below (T8.setTop (mkF m 33 #[.val (.ref ax), .val (.ref ay), .val (.ref ay)] [(.int (own_cod ds)), (.int (own_cod cs))])) t_
        refine XS.icmpNo X8.here hx rfl (Jvm.hb hby d_jdk_42_method_66_33) rfl (teq h10).2 ?_
        show Steps p.tables e below (T8.setTop (mkF m 36 #[.val (.ref ax), .val (.ref ay), .val (.ref ay)] [])) _
        refine XS.aloadN X8.here hx rfl (Jvm.hb hby d_jdk_42_method_66_36) rfl rfl ?_
        refine st11 _ ?_
        show Steps p.tables e below (T11.setTop (mkF m 40 #[.val (.ref ax), .val (.ref ay), .val (.ref ay)] [(.ref bx)])) _
        refine XS.aloadN X11.here hx rfl (Jvm.hb hby d_jdk_42_method_66_40) rfl rfl ?_
        refine st12 _ ?_
        show Steps p.tables e below (T12.setTop (mkF m 44 #[.val (.ref ax), .val (.ref ay), .val (.ref ay)] [(.ref by_), (.ref bx)])) _
        refine st16 _ ?_
        show Steps p.tables e below (T16.setTop (mkF m 47 #[.val (.ref ax), .val (.ref ay), .val (.ref ay)] [(.int (if (own_eb cs) = (own_eb ds) then (1 : Int32) else (0 : Int32)))])) _
        show Steps p.tables e below (T16.setTop (mkF m 47 #[.val (.ref ax), .val (.ref ay), .val (.ref ay)] [(.int (if (own_eb cs) = (own_eb ds) then (1 : Int32) else (0 : Int32)))])) t_
        exact k_)
      by_cases h18 : own_eb cs = own_eb ds
      · have s19 : ∀ t_, Steps p.tables e below (T16.setTop (mkF m 47 #[.val (.ref ax), .val (.ref ay), .val (.ref ay)] [(.int (1 : Int32))])) t_ → Steps p.tables e below (s₁.setTop (entryFrame m #[(.ref ax), (.ref ay)] 3)) t_ := fun t_ k_ => s17 t_ (castTop (by simp only [if_pos h18]) k_)
        have s20 : ∀ t_, Steps p.tables e below (T16.setTop (mkF m 55 #[.val (.ref ax), .val (.ref ay), .val (.ref ay)] [(.int (1 : Int32))])) t_ → Steps p.tables e below (s₁.setTop (entryFrame m #[(.ref ax), (.ref ay)] 3)) t_ := fun t_ k_ => s19 t_ (by
          show Steps p.tables e below (T16.setTop (mkF m 47 #[.val (.ref ax), .val (.ref ay), .val (.ref ay)] [(.int (1 : Int32))])) t_
          refine XS.ifNo X16.here hx rfl (Jvm.hb hby d_jdk_42_method_66_47) rfl ((if0 _ _).trans (feq (by decide : ¬ ((1 : Int32) = (0 : Int32)))).1) ?_
          show Steps p.tables e below (T16.setTop (mkF m 50 #[.val (.ref ax), .val (.ref ay), .val (.ref ay)] [])) _
          refine XS.iconst X16.here hx rfl (Jvm.hb hby d_jdk_42_method_66_50) ?_
          refine XS.goto X16.here hx rfl (pc0 := 51) (pc' := 55) rfl (Jvm.hb hby d_jdk_42_method_66_51) (by decide) (by decide) ?_
          show Steps p.tables e below (T16.setTop (mkF m 55 #[.val (.ref ax), .val (.ref ay), .val (.ref ay)] [(.int (1 : Int32))])) t_
          exact k_)
        obtain ⟨fs, hr, hrun, hended, hW, hsame⟩ := X16.leave (v := some (.int (1 : Int32))) (fun h => by rw [Bd.returns] at h; cases h)
        refine ⟨_, _, s20 _ ?_, hrun, hended, _, _, rfl, ?_, ⟨_, rfl⟩, hW, hsame.mono (by decide) (by decide)⟩
        · show Steps p.tables e below (T16.setTop (mkF m 55 #[.val (.ref ax), .val (.ref ay), .val (.ref ay)] [(.int (1 : Int32))])) _
          exact retN X16 hx (t := .boolean) Bd.returns (by simp) (Jvm.hb hby d_jdk_42_method_66_55) hr
        · show Q_rmSEqG Z _ _ _ _ _ _ _ _ _ h0 n0 _ T16.heap _
          rw [e16]
          exact ⟨(by rw [if_pos (own_encinj hchc hchd h10 h18)]), N16, rfl⟩
      · have s21 : ∀ t_, Steps p.tables e below (T16.setTop (mkF m 47 #[.val (.ref ax), .val (.ref ay), .val (.ref ay)] [(.int (0 : Int32))])) t_ → Steps p.tables e below (s₁.setTop (entryFrame m #[(.ref ax), (.ref ay)] 3)) t_ := fun t_ k_ => s17 t_ (castTop (by simp only [if_neg h18]) k_)
        have s22 : ∀ t_, Steps p.tables e below (T16.setTop (mkF m 55 #[.val (.ref ax), .val (.ref ay), .val (.ref ay)] [(.int (0 : Int32))])) t_ → Steps p.tables e below (s₁.setTop (entryFrame m #[(.ref ax), (.ref ay)] 3)) t_ := fun t_ k_ => s21 t_ (by
          show Steps p.tables e below (T16.setTop (mkF m 47 #[.val (.ref ax), .val (.ref ay), .val (.ref ay)] [(.int (0 : Int32))])) t_
          refine XS.ifYes X16.here hx rfl (pc0 := 47) (pc' := 54) rfl (Jvm.hb hby d_jdk_42_method_66_47) rfl ((if0 _ _).trans (teq (rfl : (0 : Int32) = (0 : Int32))).1) (by decide) (by decide) ?_
          show Steps p.tables e below (T16.setTop (mkF m 54 #[.val (.ref ax), .val (.ref ay), .val (.ref ay)] [])) _
          refine XS.iconst X16.here hx rfl (Jvm.hb hby d_jdk_42_method_66_54) ?_
          show Steps p.tables e below (T16.setTop (mkF m 55 #[.val (.ref ax), .val (.ref ay), .val (.ref ay)] [(.int (0 : Int32))])) t_
          exact k_)
        obtain ⟨fs, hr, hrun, hended, hW, hsame⟩ := X16.leave (v := some (.int (0 : Int32))) (fun h => by rw [Bd.returns] at h; cases h)
        refine ⟨_, _, s22 _ ?_, hrun, hended, _, _, rfl, ?_, ⟨_, rfl⟩, hW, hsame.mono (by decide) (by decide)⟩
        · show Steps p.tables e below (T16.setTop (mkF m 55 #[.val (.ref ax), .val (.ref ay), .val (.ref ay)] [(.int (0 : Int32))])) _
          exact retN X16 hx (t := .boolean) Bd.returns (by simp) (Jvm.hb hby d_jdk_42_method_66_55) hr
        · show Q_rmSEqG Z _ _ _ _ _ _ _ _ _ h0 n0 _ T16.heap _
          rw [e16]
          exact ⟨(by rw [if_neg (fun e => h18 (by rw [e]))]), N16, rfl⟩
    · have s23 : ∀ t_, Steps p.tables e below (T8.setTop (mkF m 55 #[.val (.ref ax), .val (.ref ay), .val (.ref ay)] [(.int (0 : Int32))])) t_ → Steps p.tables e below (s₁.setTop (entryFrame m #[(.ref ax), (.ref ay)] 3)) t_ := fun t_ k_ => s9 t_ (by
        show Steps p.tables e below (T8.setTop (mkF m 33 #[.val (.ref ax), .val (.ref ay), .val (.ref ay)] [(.int (own_cod ds)), (.int (own_cod cs))])) t_
        refine XS.icmpYes X8.here hx rfl (pc0 := 33) (pc' := 54) rfl (Jvm.hb hby d_jdk_42_method_66_33) rfl (feq h10).2 (by decide) (by decide) ?_
        show Steps p.tables e below (T8.setTop (mkF m 54 #[.val (.ref ax), .val (.ref ay), .val (.ref ay)] [])) _
        refine XS.iconst X8.here hx rfl (Jvm.hb hby d_jdk_42_method_66_54) ?_
        show Steps p.tables e below (T8.setTop (mkF m 55 #[.val (.ref ax), .val (.ref ay), .val (.ref ay)] [(.int (0 : Int32))])) t_
        exact k_)
      obtain ⟨fs, hr, hrun, hended, hW, hsame⟩ := X8.leave (v := some (.int (0 : Int32))) (fun h => by rw [Bd.returns] at h; cases h)
      refine ⟨_, _, s23 _ ?_, hrun, hended, _, _, rfl, ?_, ⟨_, rfl⟩, hW, hsame.mono (by decide) (by decide)⟩
      · show Steps p.tables e below (T8.setTop (mkF m 55 #[.val (.ref ax), .val (.ref ay), .val (.ref ay)] [(.int (0 : Int32))])) _
        exact retN X8 hx (t := .boolean) Bd.returns (by simp) (Jvm.hb hby d_jdk_42_method_66_55) hr
      · show Q_rmSEqG Z _ _ _ _ _ _ _ _ _ h0 n0 _ T8.heap _
        rw [e8]
        exact ⟨(by rw [if_neg (fun e => h10 (by rw [e]))]), N0, rfl⟩
theorem ef_rmSEqN (m : MethodId) (x0 : Addr) : entryFrame m #[(.ref x0), .null] 3 = mkF m 0 #[.val (.ref x0), .val .null, .unset] [] := by first | (simp [entryFrame, mkF, argsToLocals, Value.category]; done) | rfl
def Q_rmSEqN (Z : State) (ax : Addr) (h0 : Heap) (n0 : Nat) (v : Option Value) (h : Heap) (L : List Loc) : Prop := (v = some (.int (0 : Int32))) ∧ (Fr n0 L) ∧ (h = h0)
set_option maxRecDepth 65536 in
set_option maxHeartbeats 40000000 in
theorem rmSEqN (l : Launch) (Z : State) (a0 : Array Value) (hw : ∀ d ∈ tables_1, d.before a0 Z = true) (ws : List Jvm.Cond) (ax : Addr) (h0 : Heap) (n0 : Nat) (Z0 : n0 ≤ h0.size)  :
    MetFree l (⟨"java/lang/String", "equals", "(Ljava/lang/Object;)Z"⟩ : MethodName) (head1 (Jvm.Cond.code (⟨"java/lang/String", "equals", "(Ljava/lang/Object;)Z"⟩ : MethodName) jdk_42_method_66_code 3 (some .boolean) :: ws) ({ frames := 0, cells := 0, slots := 0, locals := 0 } : Room)) (fun ar_ U => ar_ = #[(.ref ax), .null] ∧ Z.Warmed39 U.vm ∧ U.heap = h0) (fun _ _ _ _ _ => True) (fun _ U oc_ U' => ∃ v L, oc_ = .returned v ∧ Q_rmSEqN Z ax h0 n0 v U'.heap L ∧ FrameEnd U oc_ U' L ({ frames := 0, cells := 0, slots := 0, locals := 0 } : Room).cells ({ frames := 0, cells := 0, slots := 0, locals := 0 } : Room).slots) := by
  refine MetFree.of_bodySF (plainFor_of_name pn_java_lang_String) hisR ?_
  intro p e s m args below meth c s₁ Bd hml0 hP hK
  obtain ⟨rfl, hZ, hh⟩ := hP
  have hx := Bd.exec
  have hby := Bd.bytes
  have hml : c.maxLocals = 3 := hml0
  have hown : s.vm.findClass "java/lang/String" = some m.cls := findClass_of_methodNamed Bd.named
  have hnm := (name_of_methodNamed Bd.named Bd.method).1
  have X0 : Stand p l e ({ frames := 0, cells := 0, slots := 0, locals := 0 } : Room) s m #[(.ref ax), .null] below meth c s₁ [] 0 0 := Stand.of_body Bd
  have e0 : s₁.heap = h0 := by rw [← hh, Bd.state]; rfl
  have N0 := Fr.nil n0
  have pre0 : ∀ t_, Steps p.tables e below (s₁.setTop (mkF m 0 #[.val (.ref ax), .val .null, .unset] [])) t_ → Steps p.tables e below (s₁.setTop (entryFrame m #[(.ref ax), .null] 3)) t_ := fun t_ k_ => castTop (ef_rmSEqN m ax) k_
  have s1 : ∀ t_, Steps p.tables e below (s₁.setTop (mkF m 55 #[.val (.ref ax), .val .null, .unset] [(.int (0 : Int32))])) t_ → Steps p.tables e below (s₁.setTop (entryFrame m #[(.ref ax), .null] 3)) t_ := fun t_ k_ => pre0 t_ (by
    show Steps p.tables e below (s₁.setTop (mkF m 0 #[.val (.ref ax), .val .null, .unset] [])) t_
    refine XS.aloadN X0.here hx rfl (Jvm.hb hby d_jdk_42_method_66_0) rfl rfl ?_
    refine XS.aloadN X0.here hx rfl (Jvm.hb hby d_jdk_42_method_66_1) rfl rfl ?_
    refine Jvm.RoadKit.acmp (g := (mkF m 2 #[.val (.ref ax), .val .null, .unset] [.null, (.ref ax)])) X0 hx rfl rfl rfl (pc0 := 2) (pc' := 7) (same := false) rfl (Jvm.hb hby d_jdk_42_method_66_2) rfl (decide_eq_false nofun) (by decide) (by decide) ?_
    show Steps p.tables e below (s₁.setTop (mkF m 7 #[.val (.ref ax), .val .null, .unset] [])) _
    refine XS.aloadN X0.here hx rfl (Jvm.hb hby d_jdk_42_method_66_7) rfl rfl ?_
    refine X0.instanceofNull hx (g := (mkF m 8 #[.val (.ref ax), .val .null, .unset] [.null])) rfl rfl (Jvm.hb hby d_jdk_42_method_66_8) _ ?_
    show Steps p.tables e below (s₁.setTop (mkF m 11 #[.val (.ref ax), .val .null, .unset] [(.int (0 : Int32))])) _
    refine XS.ifYes X0.here hx rfl (pc0 := 11) (pc' := 54) rfl (Jvm.hb hby d_jdk_42_method_66_11) rfl ((if0 _ _).trans (teq (rfl : (0 : Int32) = (0 : Int32))).1) (by decide) (by decide) ?_
    show Steps p.tables e below (s₁.setTop (mkF m 54 #[.val (.ref ax), .val .null, .unset] [])) _
    refine XS.iconst X0.here hx rfl (Jvm.hb hby d_jdk_42_method_66_54) ?_
    show Steps p.tables e below (s₁.setTop (mkF m 55 #[.val (.ref ax), .val .null, .unset] [(.int (0 : Int32))])) t_
    exact k_)
  obtain ⟨fs, hr, hrun, hended, hW, hsame⟩ := X0.leave (v := some (.int (0 : Int32))) (fun h => by rw [Bd.returns] at h; cases h)
  refine ⟨_, _, s1 _ ?_, hrun, hended, _, _, rfl, ?_, ⟨_, rfl⟩, hW, hsame.mono (by decide) (by decide)⟩
  · show Steps p.tables e below (s₁.setTop (mkF m 55 #[.val (.ref ax), .val .null, .unset] [(.int (0 : Int32))])) _
    exact retN X0 hx (t := .boolean) Bd.returns (by simp) (Jvm.hb hby d_jdk_42_method_66_55) hr
  · show Q_rmSEqN Z _ h0 n0 _ s₁.heap _
    rw [e0]
    exact ⟨rfl, N0, rfl⟩
theorem pn_com_example_coyote_hill_coyotehill_ItemState : plainName "com/example/coyote_hill/coyotehill/ItemState" = true := by first | (simp [plainName, overriddenIn]; done) | decide +kernel
theorem d_prog_6_method_1_0 : decode prog_6_method_1_code 0 = .ok (.getstatic 16, 3) := by decide +kernel
theorem d_prog_6_method_1_3 : decode prog_6_method_1_code 3 = .ok (.invokevirtual 20, 3) := by decide +kernel
theorem d_prog_6_method_1_6 : decode prog_6_method_1_code 6 = .ok (.checkcast 21, 3) := by decide +kernel
theorem d_prog_6_method_1_9 : decode prog_6_method_1_code 9 = .ok (.areturn, 1) := by decide +kernel
theorem ef_rmVals (m : MethodId)  : entryFrame m #[] 0 = mkF m 0 #[] [] := by first | (simp [entryFrame, mkF, argsToLocals, Value.category]; done) | rfl
def Q_rmVals (Z : State) (vl : Addr) (kv : ClassId) (ra : Addr) (rb : Addr) (rc : Addr) (rd : Addr) (h0 : Heap) (n0 : Nat) (v : Option Value) (h : Heap) (L : List Loc) : Prop := ∃ (nw : Addr), (v = some (.ref nw)) ∧ (Fr n0 L) ∧ (Keep h0 h []) ∧ (Arv Z h nw kv (.object "com/example/coyote_hill/coyotehill/ItemState") (4 : Int32) [.ref ra, .ref rb, .ref rc, .ref rd] .null)
set_option maxRecDepth 65536 in
set_option maxHeartbeats 40000000 in
theorem rmVals (l : Launch) (Z : State) (a0 : Array Value) (hw : ∀ d ∈ tables_1, d.before a0 Z = true) (ws : List Jvm.Cond) (vl : Addr) (kv : ClassId) (ra : Addr) (rb : Addr) (rc : Addr) (rd : Addr) (h0 : Heap) (n0 : Nat) (Z0 : n0 ≤ h0.size) (I1 : Sta Z Z.heap "com/example/coyote_hill/coyotehill/ItemState" "$VALUES" "[Lcom/example/coyote_hill/coyotehill/ItemState;" (.ref vl)) (I2 : Exa Z Z.heap vl "[Lcom/example/coyote_hill/coyotehill/ItemState;") (I3 : Arv Z Z.heap vl kv (.object "com/example/coyote_hill/coyotehill/ItemState") (4 : Int32) [.ref ra, .ref rb, .ref rc, .ref rd] .null) (OX : Old Z n0 h0) :
    MetFree l (⟨"com/example/coyote_hill/coyotehill/ItemState", "values", "()[Lcom/example/coyote_hill/coyotehill/ItemState;"⟩ : MethodName) (head1 (Jvm.Cond.code (⟨"com/example/coyote_hill/coyotehill/ItemState", "values", "()[Lcom/example/coyote_hill/coyotehill/ItemState;"⟩ : MethodName) prog_6_method_1_code 0 (some (.array (.object "com/example/coyote_hill/coyotehill/ItemState"))) :: ws) ({ frames := 1, cells := 1, slots := 4, locals := 14 } : Room)) (fun ar_ U => ar_ = #[] ∧ Z.Warmed39 U.vm ∧ U.heap = h0) (fun _ _ _ _ _ => True) (fun _ U oc_ U' => ∃ v L, oc_ = .returned v ∧ Q_rmVals Z vl kv ra rb rc rd h0 n0 v U'.heap L ∧ FrameEnd U oc_ U' L ({ frames := 1, cells := 1, slots := 4, locals := 14 } : Room).cells ({ frames := 1, cells := 1, slots := 4, locals := 14 } : Room).slots) := by
  refine MetFree.of_bodySF (plainFor_of_name pn_com_example_coyote_hill_coyotehill_ItemState) hisR ?_
  intro p e s m args below meth c s₁ Bd hml0 hP hK
  obtain ⟨rfl, hZ, hh⟩ := hP
  have hx := Bd.exec
  have hby := Bd.bytes
  have hml : c.maxLocals = 0 := hml0
  have hown : s.vm.findClass "com/example/coyote_hill/coyotehill/ItemState" = some m.cls := findClass_of_methodNamed Bd.named
  have hnm := (name_of_methodNamed Bd.named Bd.method).1
  have X0 : Stand p l e ({ frames := 1, cells := 1, slots := 4, locals := 14 } : Room) s m #[] below meth c s₁ [] 0 0 := Stand.of_body Bd
  have e0 : s₁.heap = h0 := by rw [← hh, Bd.state]; rfl
  have N0 := Fr.nil n0
  have pre0 : ∀ t_, Steps p.tables e below (s₁.setTop (mkF m 0 #[] [])) t_ → Steps p.tables e below (s₁.setTop (entryFrame m #[] 0)) t_ := fun t_ k_ => castTop (ef_rmVals m ) k_
  obtain ⟨T1, X1, e1, st1⟩ := getS2 X0 hx hZ hown (host := "") (Or.inl (hw _ (List.mem_of_getElem? (i := 66) rfl))) Via.refl e0 (I1.ext OX.2) (g := (mkF m 0 #[] [])) rfl (Jvm.hb hby d_prog_6_method_1_0)
  obtain ⟨T2, h2, X2, e2, E2, A2, G2, st2⟩ := cloneH X1 hx hZ hown (hw _ (List.mem_of_getElem? (i := 68) rfl)) (hw _ (List.mem_of_getElem? (i := 69) rfl)) (hw _ (List.mem_of_getElem? (i := 73) rfl)) (hw _ (List.mem_of_getElem? (i := 71) rfl)) (hw _ (List.mem_of_getElem? (i := 72) rfl)) (hw _ (List.mem_of_getElem? (i := 74) rfl)) e1 (Arv.arh (I3.ext OX.2)) (I2.ext OX.2) (g := (mkF m 3 #[] [(.ref vl)])) rfl (by rw [hml]; rfl) rfl (Jvm.hb hby d_prog_6_method_1_3) (by decide) (W := 0) (cap := 4) (by show 2 * 0 + _ ≤ _; exact Nat.le_of_eq rfl) (by decide) (by decide) (by decide) (by decide)
  obtain ⟨b2, g2⟩ : ∃ z, z = h0.size := ⟨_, rfl⟩
  rw [← g2] at A2 G2 st2
  have z3 : h0.size ≤ h2.size := E2.1
  have l2 : b2 < h2.size := G2.lt
  have V2 : Arv Z h2 b2 kv (.object "com/example/coyote_hill/coyotehill/ItemState") (4 : Int32) [.ref ra, .ref rb, .ref rc, .ref rd] .null := A2
  obtain ⟨T4, X4, e4, st4⟩ := castY X2 hx hZ hown (hw _ (List.mem_of_getElem? (i := 79) rfl)) e2 (Ins.self G2) (g := (mkF m 6 #[] [(.ref b2)])) rfl rfl (Jvm.hb hby d_prog_6_method_1_6)
  have s5 : ∀ t_, Steps p.tables e below (T4.setTop (mkF m 9 #[] [(.ref b2)])) t_ → Steps p.tables e below (s₁.setTop (entryFrame m #[] 0)) t_ := fun t_ k_ => pre0 t_ (by
    show Steps p.tables e below (s₁.setTop (mkF m 0 #[] [])) t_
    refine st1 _ ?_
    show Steps p.tables e below (T1.setTop (mkF m 3 #[] [(.ref vl)])) _
    refine st2 _ ?_
    show Steps p.tables e below (T2.setTop (mkF m 6 #[] [(.ref b2)])) _
    refine st4 _ ?_
    show Steps p.tables e below (T4.setTop (mkF m 9 #[] [(.ref b2)])) _
    show Steps p.tables e below (T4.setTop (mkF m 9 #[] [(.ref b2)])) t_
    exact k_)
  obtain ⟨fs, hr, hrun, hended, hW, hsame⟩ := X4.leave (v := some (.ref b2)) (fun h => by rw [Bd.returns] at h; cases h)
  refine ⟨_, _, s5 _ ?_, hrun, hended, _, _, rfl, ?_, ⟨_, rfl⟩, hW, hsame.mono (by decide) (by decide)⟩
  · show Steps p.tables e below (T4.setTop (mkF m 9 #[] [(.ref b2)])) _
    jvm_step X4.here [X4.here.top, hx, (Jvm.hb hby d_prog_6_method_1_9), X4.method', Bd.returns, Value.isRef, FieldType.isReference]
    first | (intro acts; rw [hr _ acts rfl rfl rfl]) | rw [hr _ _ rfl rfl rfl]
    exact Steps.refl _
  · show Q_rmVals Z _ _ _ _ _ _ h0 n0 _ T4.heap _
    rw [e4]
    exact ⟨b2, rfl, N0, ((Keep.refl h0 []).ext E2), V2⟩
theorem d_prog_6_method_4_0 : decode prog_6_method_4_code 0 = .ok (.aload_n 0, 1) := by decide +kernel
theorem d_prog_6_method_4_1 : decode prog_6_method_4_code 1 = .ok (.getfield 35, 3) := by decide +kernel
theorem d_prog_6_method_4_4 : decode prog_6_method_4_code 4 = .ok (.areturn, 1) := by decide +kernel
theorem ef_rmGN (m : MethodId) (x0 : Addr) : entryFrame m #[(.ref x0)] 1 = mkF m 0 #[.val (.ref x0)] [] := by first | (simp [entryFrame, mkF, argsToLocals, Value.category]; done) | rfl
def Q_rmGN (Z : State) (sa : Addr) (ga : Addr) (h0 : Heap) (n0 : Nat) (v : Option Value) (h : Heap) (L : List Loc) : Prop := (v = some (.ref ga)) ∧ (Fr n0 L) ∧ (h = h0)
set_option maxRecDepth 65536 in
set_option maxHeartbeats 40000000 in
theorem rmGN (l : Launch) (Z : State) (a0 : Array Value) (hw : ∀ d ∈ tables_1, d.before a0 Z = true) (ws : List Jvm.Cond) (sa : Addr) (ga : Addr) (h0 : Heap) (n0 : Nat) (Z0 : n0 ≤ h0.size) (I1 : Fld Z h0 sa "com/example/coyote_hill/coyotehill/ItemState" "_name" "Ljava/lang/String;" (.ref ga)) :
    MetFree l (⟨"com/example/coyote_hill/coyotehill/ItemState", "getName", "()Ljava/lang/String;"⟩ : MethodName) (head1 (Jvm.Cond.code (⟨"com/example/coyote_hill/coyotehill/ItemState", "getName", "()Ljava/lang/String;"⟩ : MethodName) prog_6_method_4_code 1 (some (.object "java/lang/String")) :: ws) ({ frames := 0, cells := 0, slots := 0, locals := 0 } : Room)) (fun ar_ U => ar_ = #[(.ref sa)] ∧ Z.Warmed39 U.vm ∧ U.heap = h0) (fun _ _ _ _ _ => True) (fun _ U oc_ U' => ∃ v L, oc_ = .returned v ∧ Q_rmGN Z sa ga h0 n0 v U'.heap L ∧ FrameEnd U oc_ U' L ({ frames := 0, cells := 0, slots := 0, locals := 0 } : Room).cells ({ frames := 0, cells := 0, slots := 0, locals := 0 } : Room).slots) := by
  refine MetFree.of_bodySF (plainFor_of_name pn_com_example_coyote_hill_coyotehill_ItemState) hisR ?_
  intro p e s m args below meth c s₁ Bd hml0 hP hK
  obtain ⟨rfl, hZ, hh⟩ := hP
  have hx := Bd.exec
  have hby := Bd.bytes
  have hml : c.maxLocals = 1 := hml0
  have hown : s.vm.findClass "com/example/coyote_hill/coyotehill/ItemState" = some m.cls := findClass_of_methodNamed Bd.named
  have hnm := (name_of_methodNamed Bd.named Bd.method).1
  have X0 : Stand p l e ({ frames := 0, cells := 0, slots := 0, locals := 0 } : Room) s m #[(.ref sa)] below meth c s₁ [] 0 0 := Stand.of_body Bd
  have e0 : s₁.heap = h0 := by rw [← hh, Bd.state]; rfl
  have N0 := Fr.nil n0
  have pre0 : ∀ t_, Steps p.tables e below (s₁.setTop (mkF m 0 #[.val (.ref sa)] [])) t_ → Steps p.tables e below (s₁.setTop (entryFrame m #[(.ref sa)] 1)) t_ := fun t_ k_ => castTop (ef_rmGN m sa) k_
  have lt_I1 : @LT.lt Nat _ sa h0.size := I1.lt
  obtain ⟨T1, X1, e1, st1⟩ := getF X0 hx hZ hown (host := "") (Or.inl (hw _ (List.mem_of_getElem? (i := 81) rfl))) Via.refl e0 I1 (g := (mkF m 1 #[.val (.ref sa)] [(.ref sa)])) rfl rfl (Jvm.hb hby d_prog_6_method_4_1)
  have s2 : ∀ t_, Steps p.tables e below (T1.setTop (mkF m 4 #[.val (.ref sa)] [(.ref ga)])) t_ → Steps p.tables e below (s₁.setTop (entryFrame m #[(.ref sa)] 1)) t_ := fun t_ k_ => pre0 t_ (by
    show Steps p.tables e below (s₁.setTop (mkF m 0 #[.val (.ref sa)] [])) t_
    refine XS.aloadN X0.here hx rfl (Jvm.hb hby d_prog_6_method_4_0) rfl rfl ?_
    refine st1 _ ?_
    show Steps p.tables e below (T1.setTop (mkF m 4 #[.val (.ref sa)] [(.ref ga)])) _
    show Steps p.tables e below (T1.setTop (mkF m 4 #[.val (.ref sa)] [(.ref ga)])) t_
    exact k_)
  obtain ⟨fs, hr, hrun, hended, hW, hsame⟩ := X1.leave (v := some (.ref ga)) (fun h => by rw [Bd.returns] at h; cases h)
  refine ⟨_, _, s2 _ ?_, hrun, hended, _, _, rfl, ?_, ⟨_, rfl⟩, hW, hsame.mono (by decide) (by decide)⟩
  · show Steps p.tables e below (T1.setTop (mkF m 4 #[.val (.ref sa)] [(.ref ga)])) _
    jvm_step X1.here [X1.here.top, hx, (Jvm.hb hby d_prog_6_method_4_4), X1.method', Bd.returns, Value.isRef, FieldType.isReference]
    first | (intro acts; rw [hr _ acts rfl rfl rfl]) | rw [hr _ _ rfl rfl rfl]
    exact Steps.refl _
  · show Q_rmGN Z _ _ h0 n0 _ T1.heap _
    rw [e1]
    exact ⟨rfl, N0, rfl⟩
theorem d_prog_6_method_5_0 : decode prog_6_method_5_code 0 = .ok (.aconst_null, 1) := by decide +kernel
theorem d_prog_6_method_5_1 : decode prog_6_method_5_code 1 = .ok (.astore_n 1, 1) := by decide +kernel
theorem pd____Lcom_example_coyote_hill_coyotehill_ItemState_ : parseMethodDescriptor "()[Lcom/example/coyote_hill/coyotehill/ItemState;" = some ⟨[], some (.array (.object "com/example/coyote_hill/coyotehill/ItemState"))⟩ := by decide +kernel
theorem d_prog_6_method_5_2 : decode prog_6_method_5_code 2 = .ok (.invokestatic 39, 3) := by decide +kernel
theorem d_prog_6_method_5_5 : decode prog_6_method_5_code 5 = .ok (.astore_n 2, 1) := by decide +kernel
theorem d_prog_6_method_5_6 : decode prog_6_method_5_code 6 = .ok (.aload_n 2, 1) := by decide +kernel
theorem d_prog_6_method_5_7 : decode prog_6_method_5_code 7 = .ok (.arraylength, 1) := by decide +kernel
theorem d_prog_6_method_5_8 : decode prog_6_method_5_code 8 = .ok (.istore_n 3, 1) := by decide +kernel
theorem d_prog_6_method_5_9 : decode prog_6_method_5_code 9 = .ok (.iconst 0, 1) := by decide +kernel
theorem d_prog_6_method_5_10 : decode prog_6_method_5_code 10 = .ok (.istore 4, 2) := by decide +kernel
theorem d_prog_6_method_5_12 : decode prog_6_method_5_code 12 = .ok (.iload 4, 2) := by decide +kernel
theorem d_prog_6_method_5_14 : decode prog_6_method_5_code 14 = .ok (.iload_n 3, 1) := by decide +kernel
theorem d_prog_6_method_5_15 : decode prog_6_method_5_code 15 = .ok (.if_icmp .ge 33, 3) := by decide +kernel
theorem d_prog_6_method_5_18 : decode prog_6_method_5_code 18 = .ok (.aload_n 2, 1) := by decide +kernel
theorem d_prog_6_method_5_19 : decode prog_6_method_5_code 19 = .ok (.iload 4, 2) := by decide +kernel
theorem d_prog_6_method_5_21 : decode prog_6_method_5_code 21 = .ok (.aaload, 1) := by decide +kernel
theorem d_prog_6_method_5_22 : decode prog_6_method_5_code 22 = .ok (.astore 5, 2) := by decide +kernel
theorem d_prog_6_method_5_24 : decode prog_6_method_5_code 24 = .ok (.aload 5, 2) := by decide +kernel
theorem d_prog_6_method_5_26 : decode prog_6_method_5_code 26 = .ok (.getfield 35, 3) := by decide +kernel
theorem d_prog_6_method_5_29 : decode prog_6_method_5_code 29 = .ok (.aload_n 0, 1) := by decide +kernel
theorem pd__Ljava_lang_Object__Z : parseMethodDescriptor "(Ljava/lang/Object;)Z" = some ⟨[(.object "java/lang/Object")], some .boolean⟩ := by decide +kernel
theorem d_prog_6_method_5_30 : decode prog_6_method_5_code 30 = .ok (.invokevirtual 43, 3) := by decide +kernel
theorem d_prog_6_method_5_33 : decode prog_6_method_5_code 33 = .ok (.ifCond .eq 9, 3) := by decide +kernel
theorem d_prog_6_method_5_36 : decode prog_6_method_5_code 36 = .ok (.aload 5, 2) := by decide +kernel
theorem d_prog_6_method_5_38 : decode prog_6_method_5_code 38 = .ok (.astore_n 1, 1) := by decide +kernel
theorem d_prog_6_method_5_39 : decode prog_6_method_5_code 39 = .ok (.goto 9, 3) := by decide +kernel
theorem d_prog_6_method_5_48 : decode prog_6_method_5_code 48 = .ok (.aload_n 1, 1) := by decide +kernel
theorem d_prog_6_method_5_49 : decode prog_6_method_5_code 49 = .ok (.areturn, 1) := by decide +kernel
theorem d_prog_6_method_5_42 : decode prog_6_method_5_code 42 = .ok (.iinc 4 1, 3) := by decide +kernel
theorem d_prog_6_method_5_45 : decode prog_6_method_5_code 45 = .ok (.goto (-33), 3) := by decide +kernel
theorem ef_rmFrom (m : MethodId) (x0 : Addr) : entryFrame m #[(.ref x0)] 6 = mkF m 0 #[.val (.ref x0), .unset, .unset, .unset, .unset, .unset] [] := by first | (simp [entryFrame, mkF, argsToLocals, Value.category]; done) | rfl
def Q_rmFrom (Z : State) (sx : Addr) (cst : Int32) (bs : Addr) (ks : ClassId) (cs : List Int32) (vl : Addr) (kv : ClassId) (ra : Addr) (rb : Addr) (rc : Addr) (rd : Addr) (na : Addr) (nb : Addr) (nc : Addr) (nx : Addr) (va : Addr) (vb : Addr) (vc : Addr) (vd : Addr) (ka : ClassId) (kb_ : ClassId) (kc_ : ClassId) (kd : ClassId) (h0 : Heap) (n0 : Nat) (v : Option Value) (h : Heap) (L : List Loc) : Prop := (v = some (own_from cs ra rb rc rd)) ∧ (Fr n0 L) ∧ (Keep h0 h [])
set_option maxRecDepth 65536 in
set_option maxHeartbeats 40000000 in
theorem rmFrom (l : Launch) (Z : State) (a0 : Array Value) (hw : ∀ d ∈ tables_1, d.before a0 Z = true) (ws : List Jvm.Cond) (sx : Addr) (cst : Int32) (bs : Addr) (ks : ClassId) (cs : List Int32) (vl : Addr) (kv : ClassId) (ra : Addr) (rb : Addr) (rc : Addr) (rd : Addr) (na : Addr) (nb : Addr) (nc : Addr) (nx : Addr) (va : Addr) (vb : Addr) (vc : Addr) (vd : Addr) (ka : ClassId) (kb_ : ClassId) (kc_ : ClassId) (kd : ClassId) (h0 : Heap) (n0 : Nat) (Z0 : n0 ≤ h0.size) (I1 : Sta Z Z.heap "java/lang/String" "COMPACT_STRINGS" "Z" (.int cst)) (OX : Old Z n0 h0) (hcst : ¬ (cst = (0 : Int32))) (I2 : Sta Z Z.heap "com/example/coyote_hill/coyotehill/ItemState" "$VALUES" "[Lcom/example/coyote_hill/coyotehill/ItemState;" (.ref vl)) (I3 : Exa Z Z.heap vl "[Lcom/example/coyote_hill/coyotehill/ItemState;") (I4 : Arv Z Z.heap vl kv (.object "com/example/coyote_hill/coyotehill/ItemState") (4 : Int32) [.ref ra, .ref rb, .ref rc, .ref rd] .null) (I5 : Exa Z Z.heap ra "com/example/coyote_hill/coyotehill/ItemState") (I6 : Fld Z Z.heap ra "com/example/coyote_hill/coyotehill/ItemState" "_name" "Ljava/lang/String;" (.ref na)) (I7 : Exa Z Z.heap na "java/lang/String") (I8 : Fld Z Z.heap na "java/lang/String" "value" "[B" (.ref va)) (I9 : Fld Z Z.heap na "java/lang/String" "coder" "B" (.int (own_cod (own_nm 0)))) (I10 : Arv Z Z.heap va ka .byte (Int32.ofNat (own_enl (own_nm 0))) (own_enc (own_nm 0)) (.int (0 : Int32))) (I11 : Exa Z Z.heap rb "com/example/coyote_hill/coyotehill/ItemState") (I12 : Fld Z Z.heap rb "com/example/coyote_hill/coyotehill/ItemState" "_name" "Ljava/lang/String;" (.ref nb)) (I13 : Exa Z Z.heap nb "java/lang/String") (I14 : Fld Z Z.heap nb "java/lang/String" "value" "[B" (.ref vb)) (I15 : Fld Z Z.heap nb "java/lang/String" "coder" "B" (.int (own_cod (own_nm 1)))) (I16 : Arv Z Z.heap vb kb_ .byte (Int32.ofNat (own_enl (own_nm 1))) (own_enc (own_nm 1)) (.int (0 : Int32))) (I17 : Exa Z Z.heap rc "com/example/coyote_hill/coyotehill/ItemState") (I18 : Fld Z Z.heap rc "com/example/coyote_hill/coyotehill/ItemState" "_name" "Ljava/lang/String;" (.ref nc)) (I19 : Exa Z Z.heap nc "java/lang/String") (I20 : Fld Z Z.heap nc "java/lang/String" "value" "[B" (.ref vc)) (I21 : Fld Z Z.heap nc "java/lang/String" "coder" "B" (.int (own_cod (own_nm 2)))) (I22 : Arv Z Z.heap vc kc_ .byte (Int32.ofNat (own_enl (own_nm 2))) (own_enc (own_nm 2)) (.int (0 : Int32))) (I23 : Exa Z Z.heap rd "com/example/coyote_hill/coyotehill/ItemState") (I24 : Fld Z Z.heap rd "com/example/coyote_hill/coyotehill/ItemState" "_name" "Ljava/lang/String;" (.ref nx)) (I25 : Exa Z Z.heap nx "java/lang/String") (I26 : Fld Z Z.heap nx "java/lang/String" "value" "[B" (.ref vd)) (I27 : Fld Z Z.heap nx "java/lang/String" "coder" "B" (.int (own_cod (own_nm 3)))) (I28 : Arv Z Z.heap vd kd .byte (Int32.ofNat (own_enl (own_nm 3))) (own_enc (own_nm 3)) (.int (0 : Int32))) (I29 : Exa Z h0 sx "java/lang/String") (I30 : Fld Z h0 sx "java/lang/String" "value" "[B" (.ref bs)) (I31 : Fld Z h0 sx "java/lang/String" "coder" "B" (.int (own_cod cs))) (I32 : Arv Z h0 bs ks .byte (Int32.ofNat (own_enl cs)) (own_enc cs) (.int (0 : Int32))) (hch : own_chs cs) (hbl : cs.length ≤ 7) :
    MetFree l (⟨"com/example/coyote_hill/coyotehill/ItemState", "fromName", "(Ljava/lang/String;)Lcom/example/coyote_hill/coyotehill/ItemState;"⟩ : MethodName) (head1 (Jvm.Cond.code (⟨"com/example/coyote_hill/coyotehill/ItemState", "fromName", "(Ljava/lang/String;)Lcom/example/coyote_hill/coyotehill/ItemState;"⟩ : MethodName) prog_6_method_5_code 6 (some (.object "com/example/coyote_hill/coyotehill/ItemState")) :: ws) ({ frames := 2, cells := 1, slots := 4, locals := 28 } : Room)) (fun ar_ U => ar_ = #[(.ref sx)] ∧ Z.Warmed39 U.vm ∧ U.heap = h0) (fun _ _ _ _ _ => True) (fun _ U oc_ U' => ∃ v L, oc_ = .returned v ∧ Q_rmFrom Z sx cst bs ks cs vl kv ra rb rc rd na nb nc nx va vb vc vd ka kb_ kc_ kd h0 n0 v U'.heap L ∧ FrameEnd U oc_ U' L ({ frames := 2, cells := 1, slots := 4, locals := 28 } : Room).cells ({ frames := 2, cells := 1, slots := 4, locals := 28 } : Room).slots) := by
  refine MetFree.of_bodySF (plainFor_of_name pn_com_example_coyote_hill_coyotehill_ItemState) hisR ?_
  intro p e s m args below meth c s₁ Bd hml0 hP hK
  obtain ⟨rfl, hZ, hh⟩ := hP
  have hx := Bd.exec
  have hby := Bd.bytes
  have hml : c.maxLocals = 6 := hml0
  have hown : s.vm.findClass "com/example/coyote_hill/coyotehill/ItemState" = some m.cls := findClass_of_methodNamed Bd.named
  have hnm := (name_of_methodNamed Bd.named Bd.method).1
  have X0 : Stand p l e ({ frames := 2, cells := 1, slots := 4, locals := 28 } : Room) s m #[(.ref sx)] below meth c s₁ [] 0 0 := Stand.of_body Bd
  have e0 : s₁.heap = h0 := by rw [← hh, Bd.state]; rfl
  have N0 := Fr.nil n0
  have pre0 : ∀ t_, Steps p.tables e below (s₁.setTop (mkF m 0 #[.val (.ref sx), .unset, .unset, .unset, .unset, .unset] [])) t_ → Steps p.tables e below (s₁.setTop (entryFrame m #[(.ref sx)] 6)) t_ := fun t_ k_ => castTop (ef_rmFrom m sx) k_
  have lt_I29 : @LT.lt Nat _ sx h0.size := I29.lt
  have lt_I30 : @LT.lt Nat _ sx h0.size := I30.lt
  have lt_I31 : @LT.lt Nat _ sx h0.size := I31.lt
  have lt_I32 : @LT.lt Nat _ bs h0.size := I32.lt
  have Zc1 : n0 ≤ h0.size := by omega
  obtain ⟨_, _, ⟨T2, L2, k2, n2⟩, -, X2, ⟨Lc2, hQ2, l2, y2, z2⟩, st2⟩ := Jvm.LawKit.callS X0 hx (y := (⟨"com/example/coyote_hill/coyotehill/ItemState", "values", "()[Lcom/example/coyote_hill/coyotehill/ItemState;"⟩ : MethodName)) hown (mvT hZ (hw _ (List.mem_of_getElem? (i := 63) rfl))) (mvT hZ (hw _ (List.mem_of_getElem? (i := 64) rfl))) (mvT hZ (hw _ (List.mem_of_getElem? (i := 9) rfl))) (mvT hZ (hw _ (List.mem_of_getElem? (i := 65) rfl))) (by decide) (backOf (W := 0) (rmVals l Z a0 hw [] vl kv ra rb rc rd h0 n0 Zc1 I2 I3 I4 OX) hZ (hw _ (List.mem_of_getElem? (i := 65) rfl)) (hw _ (List.mem_of_getElem? (i := 9) rfl)) (by decide) (by decide)) (g := (mkF m 2 #[.val (.ref sx), .val .null, .unset, .unset, .unset, .unset] [])) rfl (by rw [hml]; rfl) (argsL := []) (rest := []) (lenOf pd____Lcom_example_coyote_hill_coyotehill_ItemState_ rfl) rfl (by show 2 * 0 + _ ≤ _; exact Nat.le_of_eq rfl) (Jvm.hb hby d_prog_6_method_5_2) (fun _ _ => ⟨rfl, e0, (by decide : 0 + 1 ≤ _), (by decide : 0 + 4 ≤ _)⟩)
  dsimp only [Pt.U, Pt.locs, Pt.cells, Pt.slots] at X2 l2 y2 z2 st2 hQ2
  subst l2 y2 z2
  obtain ⟨nw_2, rfl, N2q, K2, Fq2_0⟩ := hQ2
  have N2 := Fr.app N0 N2q
  obtain ⟨h2, e2⟩ : ∃ z, T2.heap = z := ⟨_, rfl⟩
  rw [e2] at K2 Fq2_0
  have z3 : h0.size ≤ h2.size := K2.1
  have lt2_0 : @LT.lt Nat _ nw_2 h2.size := Fq2_0.lt
  obtain ⟨cl4, Ar4, -, S4, M4, -, -⟩ := id Fq2_0
  obtain ⟨cl5, Ar5, -, S5, M5, H5, -⟩ := id Fq2_0
  have hin5 : ¬ ((0 : Int32) < 0 ∨ cl5.slots.size ≤ ((0 : Int32)).toNatClampNeg) := inb_of S5 ⟨by decide, by decide⟩
  have hat5 : cl5.slots[((0 : Int32)).toNatClampNeg]? = some (.ref ra) := H5.at hin5 (rfl)
  have O6 : Old Z n0 h2 := (OX.keep K2 all0)
  obtain ⟨T7, X7, e7, st7⟩ := getF X2 hx hZ hown (host := "") (Or.inl (hw _ (List.mem_of_getElem? (i := 81) rfl))) Via.refl e2 (I6.ext O6.2) (g := (mkF m 26 #[.val (.ref sx), .val .null, .val (.ref nw_2), .val (.int (4 : Int32)), .val (.int (0 : Int32)), .val (.ref ra)] [(.ref ra)])) rfl rfl (Jvm.hb hby d_prog_6_method_5_26)
  have f8 : Exa Z h2 sx "java/lang/String" := (I29.keep K2)
  have f9 : Fld Z h2 sx "java/lang/String" "value" "[B" (.ref bs) := (I30.keep K2 nin0)
  have f10 : Fld Z h2 sx "java/lang/String" "coder" "B" (.int (own_cod cs)) := (I31.keep K2 nin0)
  have f11 : Arv Z h2 bs ks .byte (Int32.ofNat (own_enl cs)) (own_enc cs) (.int (0 : Int32)) := (I32.keep K2 nin0)
  have Zc12 : n0 ≤ h2.size := by omega
  obtain ⟨cq13, kq13, q13a, q13b, q13c⟩ := isOf hZ e7 (I7.ext O6.2)
  obtain ⟨_, _, ⟨T13, L13, k13, n13⟩, -, X13, ⟨Lc13, hQ13, l13, y13, z13⟩, st13⟩ := X7.virtualBack hx (y := (⟨"java/lang/String", "equals", "(Ljava/lang/Object;)Z"⟩ : MethodName)) (z := (⟨"java/lang/String", "equals", "(Ljava/lang/Object;)Z"⟩ : MethodName)) hown (mvT hZ (hw _ (List.mem_of_getElem? (i := 83) rfl))) (mvT hZ (hw _ (List.mem_of_getElem? (i := 48) rfl))) (notFace_of_selects (args := #[]) (mvT hZ (hw _ (List.mem_of_getElem? (i := 50) rfl)))) (mvT hZ (hw _ (List.mem_of_getElem? (i := 50) rfl))) (mvT hZ (hw _ (List.mem_of_getElem? (i := 49) rfl))) (by decide) (backOf (W := 0) (rmSEqG l Z a0 hw [] na sx cst va ka (own_nm 0) bs ks cs h2 n0 Zc12 I1 O6 (hcst : ¬ (cst = (0 : Int32))) (I7.ext O6.2) (I8.ext O6.2) (I9.ext O6.2) (I10.ext O6.2) f8 f9 f10 f11 (own_nmchs _) hch (own_nml _) hbl) hZ (hw _ (List.mem_of_getElem? (i := 51) rfl)) (hw _ (List.mem_of_getElem? (i := 1) rfl)) (by decide) (by decide)) q13a q13c (g := (mkF m 30 #[.val (.ref sx), .val .null, .val (.ref nw_2), .val (.int (4 : Int32)), .val (.int (0 : Int32)), .val (.ref ra)] [(.ref sx), (.ref na)])) rfl (by rw [hml]; rfl) (Steps.refl _) (argsL := [(.ref sx)]) (rest := []) (lenOf pd__Ljava_lang_Object__Z rfl) rfl (by show 2 * 0 + _ ≤ _; exact Nat.le_of_eq rfl) (Jvm.hb hby d_prog_6_method_5_30) (fun _ _ => ⟨rfl, e7, (by decide : 1 + 0 ≤ _), (by decide : 4 + 0 ≤ _)⟩)
  dsimp only [Pt.U, Pt.locs, Pt.cells, Pt.slots] at X13 l13 y13 z13 st13 hQ13
  subst l13 y13 z13
  obtain ⟨rfl, N13q, e13⟩ := hQ13
  have N13 := Fr.app N2 N13q
  have s14 : ∀ t_, Steps p.tables e below (T13.setTop (mkF m 33 #[.val (.ref sx), .val .null, .val (.ref nw_2), .val (.int (4 : Int32)), .val (.int (0 : Int32)), .val (.ref ra)] [(.int (if (own_nm 0) = cs then (1 : Int32) else (0 : Int32)))])) t_ → Steps p.tables e below (s₁.setTop (entryFrame m #[(.ref sx)] 6)) t_ := fun t_ k_ => pre0 t_ (by
    show Steps p.tables e below (s₁.setTop (mkF m 0 #[.val (.ref sx), .unset, .unset, .unset, .unset, .unset] [])) t_
    refine XS.aconstNull X0.here hx rfl (Jvm.hb hby d_prog_6_method_5_0) ?_
    refine XS.astoreN X0.here hx rfl (Jvm.hb hby d_prog_6_method_5_1) rfl rfl (l' := #[.val (.ref sx), .val .null, .unset, .unset, .unset, .unset]) rfl ?_
    refine st2 _ ?_
    show Steps p.tables e below (T2.setTop (mkF m 5 #[.val (.ref sx), .val .null, .unset, .unset, .unset, .unset] [(.ref nw_2)])) _
    refine XS.astoreN X2.here hx rfl (Jvm.hb hby d_prog_6_method_5_5) rfl rfl (l' := #[.val (.ref sx), .val .null, .val (.ref nw_2), .unset, .unset, .unset]) rfl ?_
    refine XS.aloadN X2.here hx rfl (Jvm.hb hby d_prog_6_method_5_6) rfl rfl ?_
    refine X2.arraylength hx (by rw [e2]; exact Ar4.1) (State.isArrayOf_alike hZ.alike Ar4.2.1) (g := (mkF m 7 #[.val (.ref sx), .val .null, .val (.ref nw_2), .unset, .unset, .unset] [(.ref nw_2)])) rfl rfl (Jvm.hb hby d_prog_6_method_5_7) _ ?_
    rw [len_of S4 M4]
    show Steps p.tables e below (T2.setTop (mkF m 8 #[.val (.ref sx), .val .null, .val (.ref nw_2), .unset, .unset, .unset] [(.int (4 : Int32))])) _
    refine XS.istoreN X2.here hx rfl (Jvm.hb hby d_prog_6_method_5_8) rfl (l' := #[.val (.ref sx), .val .null, .val (.ref nw_2), .val (.int (4 : Int32)), .unset, .unset]) rfl ?_
    refine XS.iconst X2.here hx rfl (Jvm.hb hby d_prog_6_method_5_9) ?_
    refine XS.istore X2.here hx rfl (Jvm.hb hby d_prog_6_method_5_10) rfl (l' := #[.val (.ref sx), .val .null, .val (.ref nw_2), .val (.int (4 : Int32)), .val (.int (0 : Int32)), .unset]) rfl ?_
    refine XS.iload X2.here hx rfl (Jvm.hb hby d_prog_6_method_5_12) rfl ?_
    refine XS.iloadN X2.here hx rfl (Jvm.hb hby d_prog_6_method_5_14) rfl ?_
    refine XS.icmpNo X2.here hx rfl (Jvm.hb hby d_prog_6_method_5_15) rfl (tlt (by decide : ((0 : Int32) < (4 : Int32)))).2.1 ?_
    show Steps p.tables e below (T2.setTop (mkF m 18 #[.val (.ref sx), .val .null, .val (.ref nw_2), .val (.int (4 : Int32)), .val (.int (0 : Int32)), .unset] [])) _
    refine XS.aloadN X2.here hx rfl (Jvm.hb hby d_prog_6_method_5_18) rfl rfl ?_
    refine XS.iload X2.here hx rfl (Jvm.hb hby d_prog_6_method_5_19) rfl ?_
    refine X2.aaload hx (j := (0 : Int32)) (v := (.ref ra)) (by rw [e2]; exact Ar5.1) (State.isArrayOf_alike hZ.alike Ar5.2.1) rfl Ar5.2.2 hin5 hat5 (g := (mkF m 21 #[.val (.ref sx), .val .null, .val (.ref nw_2), .val (.int (4 : Int32)), .val (.int (0 : Int32)), .unset] [(.int (0 : Int32)), (.ref nw_2)])) rfl rfl (Jvm.hb hby d_prog_6_method_5_21) _ ?_
    show Steps p.tables e below (T2.setTop (mkF m 22 #[.val (.ref sx), .val .null, .val (.ref nw_2), .val (.int (4 : Int32)), .val (.int (0 : Int32)), .unset] [(.ref ra)])) _
    refine XS.astore X2.here hx rfl (Jvm.hb hby d_prog_6_method_5_22) rfl rfl (l' := #[.val (.ref sx), .val .null, .val (.ref nw_2), .val (.int (4 : Int32)), .val (.int (0 : Int32)), .val (.ref ra)]) rfl ?_
    refine XS.aload X2.here hx rfl (Jvm.hb hby d_prog_6_method_5_24) rfl rfl ?_
    refine st7 _ ?_
    show Steps p.tables e below (T7.setTop (mkF m 29 #[.val (.ref sx), .val .null, .val (.ref nw_2), .val (.int (4 : Int32)), .val (.int (0 : Int32)), .val (.ref ra)] [(.ref na)])) _
    refine XS.aloadN X7.here hx rfl (Jvm.hb hby d_prog_6_method_5_29) rfl rfl ?_
    refine st13.trans ?_
    show Steps p.tables e below (T13.setTop (mkF m 33 #[.val (.ref sx), .val .null, .val (.ref nw_2), .val (.int (4 : Int32)), .val (.int (0 : Int32)), .val (.ref ra)] [(.int (if (own_nm 0) = cs then (1 : Int32) else (0 : Int32)))])) _
    show Steps p.tables e below (T13.setTop (mkF m 33 #[.val (.ref sx), .val .null, .val (.ref nw_2), .val (.int (4 : Int32)), .val (.int (0 : Int32)), .val (.ref ra)] [(.int (if (own_nm 0) = cs then (1 : Int32) else (0 : Int32)))])) t_
    exact k_)
  by_cases h15 : (own_nm 0) = cs
  · have s16 : ∀ t_, Steps p.tables e below (T13.setTop (mkF m 33 #[.val (.ref sx), .val .null, .val (.ref nw_2), .val (.int (4 : Int32)), .val (.int (0 : Int32)), .val (.ref ra)] [(.int (1 : Int32))])) t_ → Steps p.tables e below (s₁.setTop (entryFrame m #[(.ref sx)] 6)) t_ := fun t_ k_ => s14 t_ (castTop (by simp only [if_pos h15]) k_)
    have s17 : ∀ t_, Steps p.tables e below (T13.setTop (mkF m 49 #[.val (.ref sx), .val (.ref ra), .val (.ref nw_2), .val (.int (4 : Int32)), .val (.int (0 : Int32)), .val (.ref ra)] [(.ref ra)])) t_ → Steps p.tables e below (s₁.setTop (entryFrame m #[(.ref sx)] 6)) t_ := fun t_ k_ => s16 t_ (by
      show Steps p.tables e below (T13.setTop (mkF m 33 #[.val (.ref sx), .val .null, .val (.ref nw_2), .val (.int (4 : Int32)), .val (.int (0 : Int32)), .val (.ref ra)] [(.int (1 : Int32))])) t_
      refine XS.ifNo X13.here hx rfl (Jvm.hb hby d_prog_6_method_5_33) rfl ((if0 _ _).trans (feq (by decide : ¬ ((1 : Int32) = (0 : Int32)))).1) ?_
      show Steps p.tables e below (T13.setTop (mkF m 36 #[.val (.ref sx), .val .null, .val (.ref nw_2), .val (.int (4 : Int32)), .val (.int (0 : Int32)), .val (.ref ra)] [])) _
      refine XS.aload X13.here hx rfl (Jvm.hb hby d_prog_6_method_5_36) rfl rfl ?_
      refine XS.astoreN X13.here hx rfl (Jvm.hb hby d_prog_6_method_5_38) rfl rfl (l' := #[.val (.ref sx), .val (.ref ra), .val (.ref nw_2), .val (.int (4 : Int32)), .val (.int (0 : Int32)), .val (.ref ra)]) rfl ?_
      refine XS.goto X13.here hx rfl (pc0 := 39) (pc' := 48) rfl (Jvm.hb hby d_prog_6_method_5_39) (by decide) (by decide) ?_
      refine XS.aloadN X13.here hx rfl (Jvm.hb hby d_prog_6_method_5_48) rfl rfl ?_
      show Steps p.tables e below (T13.setTop (mkF m 49 #[.val (.ref sx), .val (.ref ra), .val (.ref nw_2), .val (.int (4 : Int32)), .val (.int (0 : Int32)), .val (.ref ra)] [(.ref ra)])) t_
      exact k_)
    obtain ⟨fs, hr, hrun, hended, hW, hsame⟩ := X13.leave (v := some (.ref ra)) (fun h => by rw [Bd.returns] at h; cases h)
    refine ⟨_, _, s17 _ ?_, hrun, hended, _, _, rfl, ?_, ⟨_, rfl⟩, hW, hsame.mono (by decide) (by decide)⟩
    · show Steps p.tables e below (T13.setTop (mkF m 49 #[.val (.ref sx), .val (.ref ra), .val (.ref nw_2), .val (.int (4 : Int32)), .val (.int (0 : Int32)), .val (.ref ra)] [(.ref ra)])) _
      jvm_step X13.here [X13.here.top, hx, (Jvm.hb hby d_prog_6_method_5_49), X13.method', Bd.returns, Value.isRef, FieldType.isReference]
      first | (intro acts; rw [hr _ acts rfl rfl rfl]) | rw [hr _ _ rfl rfl rfl]
      exact Steps.refl _
    · show Q_rmFrom Z _ _ _ _ _ _ _ _ _ _ _ _ _ _ _ _ _ _ _ _ _ _ _ h0 n0 _ T13.heap _
      rw [e13]
      exact ⟨(by rw [own_fromE, if_pos h15]), N13, ((Keep.refl h0 []).trans K2 all0)⟩
  · have s18 : ∀ t_, Steps p.tables e below (T13.setTop (mkF m 33 #[.val (.ref sx), .val .null, .val (.ref nw_2), .val (.int (4 : Int32)), .val (.int (0 : Int32)), .val (.ref ra)] [(.int (0 : Int32))])) t_ → Steps p.tables e below (s₁.setTop (entryFrame m #[(.ref sx)] 6)) t_ := fun t_ k_ => s14 t_ (castTop (by simp only [if_neg h15]) k_)
    obtain ⟨cl19, Ar19, -, S19, M19, H19, -⟩ := id Fq2_0
    have hin19 : ¬ ((1 : Int32) < 0 ∨ cl19.slots.size ≤ ((1 : Int32)).toNatClampNeg) := inb_of S19 ⟨by decide, by decide⟩
    have hat19 : cl19.slots[((1 : Int32)).toNatClampNeg]? = some (.ref rb) := H19.at hin19 (rfl)
    obtain ⟨T20, X20, e20, st20⟩ := getF X13 hx hZ hown (host := "") (Or.inl (hw _ (List.mem_of_getElem? (i := 81) rfl))) Via.refl e13 (I12.ext O6.2) (g := (mkF m 26 #[.val (.ref sx), .val .null, .val (.ref nw_2), .val (.int (4 : Int32)), .val (.int (1 : Int32)), .val (.ref rb)] [(.ref rb)])) rfl rfl (Jvm.hb hby d_prog_6_method_5_26)
    have Zc21 : n0 ≤ h2.size := by omega
    obtain ⟨cq22, kq22, q22a, q22b, q22c⟩ := isOf hZ e20 (I13.ext O6.2)
    obtain ⟨_, _, ⟨T22, L22, k22, n22⟩, -, X22, ⟨Lc22, hQ22, l22, y22, z22⟩, st22⟩ := X20.virtualBack hx (y := (⟨"java/lang/String", "equals", "(Ljava/lang/Object;)Z"⟩ : MethodName)) (z := (⟨"java/lang/String", "equals", "(Ljava/lang/Object;)Z"⟩ : MethodName)) hown (mvT hZ (hw _ (List.mem_of_getElem? (i := 83) rfl))) (mvT hZ (hw _ (List.mem_of_getElem? (i := 48) rfl))) (notFace_of_selects (args := #[]) (mvT hZ (hw _ (List.mem_of_getElem? (i := 50) rfl)))) (mvT hZ (hw _ (List.mem_of_getElem? (i := 50) rfl))) (mvT hZ (hw _ (List.mem_of_getElem? (i := 49) rfl))) (by decide) (backOf (W := 0) (rmSEqG l Z a0 hw [] nb sx cst vb kb_ (own_nm 1) bs ks cs h2 n0 Zc21 I1 O6 (hcst : ¬ (cst = (0 : Int32))) (I13.ext O6.2) (I14.ext O6.2) (I15.ext O6.2) (I16.ext O6.2) f8 f9 f10 f11 (own_nmchs _) hch (own_nml _) hbl) hZ (hw _ (List.mem_of_getElem? (i := 51) rfl)) (hw _ (List.mem_of_getElem? (i := 1) rfl)) (by decide) (by decide)) q22a q22c (g := (mkF m 30 #[.val (.ref sx), .val .null, .val (.ref nw_2), .val (.int (4 : Int32)), .val (.int (1 : Int32)), .val (.ref rb)] [(.ref sx), (.ref nb)])) rfl (by rw [hml]; rfl) (Steps.refl _) (argsL := [(.ref sx)]) (rest := []) (lenOf pd__Ljava_lang_Object__Z rfl) rfl (by show 2 * 0 + _ ≤ _; exact Nat.le_of_eq rfl) (Jvm.hb hby d_prog_6_method_5_30) (fun _ _ => ⟨rfl, e20, (by decide : 1 + 0 ≤ _), (by decide : 4 + 0 ≤ _)⟩)
    dsimp only [Pt.U, Pt.locs, Pt.cells, Pt.slots] at X22 l22 y22 z22 st22 hQ22
    subst l22 y22 z22
    obtain ⟨rfl, N22q, e22⟩ := hQ22
    have N22 := Fr.app N13 N22q
    have s23 : ∀ t_, Steps p.tables e below (T22.setTop (mkF m 33 #[.val (.ref sx), .val .null, .val (.ref nw_2), .val (.int (4 : Int32)), .val (.int (1 : Int32)), .val (.ref rb)] [(.int (if (own_nm 1) = cs then (1 : Int32) else (0 : Int32)))])) t_ → Steps p.tables e below (s₁.setTop (entryFrame m #[(.ref sx)] 6)) t_ := fun t_ k_ => s18 t_ (by
      show Steps p.tables e below (T13.setTop (mkF m 33 #[.val (.ref sx), .val .null, .val (.ref nw_2), .val (.int (4 : Int32)), .val (.int (0 : Int32)), .val (.ref ra)] [(.int (0 : Int32))])) t_
      refine XS.ifYes X13.here hx rfl (pc0 := 33) (pc' := 42) rfl (Jvm.hb hby d_prog_6_method_5_33) rfl ((if0 _ _).trans (teq (rfl : (0 : Int32) = (0 : Int32))).1) (by decide) (by decide) ?_
      show Steps p.tables e below (T13.setTop (mkF m 42 #[.val (.ref sx), .val .null, .val (.ref nw_2), .val (.int (4 : Int32)), .val (.int (0 : Int32)), .val (.ref ra)] [])) _
      refine XS.iinc X13.here hx rfl (Jvm.hb hby d_prog_6_method_5_42) rfl (l' := #[.val (.ref sx), .val .null, .val (.ref nw_2), .val (.int (4 : Int32)), .val (.int (1 : Int32)), .val (.ref ra)]) rfl ?_
      refine XS.goto X13.here hx rfl (pc0 := 45) (pc' := 12) rfl (Jvm.hb hby d_prog_6_method_5_45) (by decide) (by decide) ?_
      refine XS.iload X13.here hx rfl (Jvm.hb hby d_prog_6_method_5_12) rfl ?_
      refine XS.iloadN X13.here hx rfl (Jvm.hb hby d_prog_6_method_5_14) rfl ?_
      refine XS.icmpNo X13.here hx rfl (Jvm.hb hby d_prog_6_method_5_15) rfl (tlt (by decide : ((1 : Int32) < (4 : Int32)))).2.1 ?_
      show Steps p.tables e below (T13.setTop (mkF m 18 #[.val (.ref sx), .val .null, .val (.ref nw_2), .val (.int (4 : Int32)), .val (.int (1 : Int32)), .val (.ref ra)] [])) _
      refine XS.aloadN X13.here hx rfl (Jvm.hb hby d_prog_6_method_5_18) rfl rfl ?_
      refine XS.iload X13.here hx rfl (Jvm.hb hby d_prog_6_method_5_19) rfl ?_
      refine X13.aaload hx (j := (1 : Int32)) (v := (.ref rb)) (by rw [e13]; exact Ar19.1) (State.isArrayOf_alike hZ.alike Ar19.2.1) rfl Ar19.2.2 hin19 hat19 (g := (mkF m 21 #[.val (.ref sx), .val .null, .val (.ref nw_2), .val (.int (4 : Int32)), .val (.int (1 : Int32)), .val (.ref ra)] [(.int (1 : Int32)), (.ref nw_2)])) rfl rfl (Jvm.hb hby d_prog_6_method_5_21) _ ?_
      show Steps p.tables e below (T13.setTop (mkF m 22 #[.val (.ref sx), .val .null, .val (.ref nw_2), .val (.int (4 : Int32)), .val (.int (1 : Int32)), .val (.ref ra)] [(.ref rb)])) _
      refine XS.astore X13.here hx rfl (Jvm.hb hby d_prog_6_method_5_22) rfl rfl (l' := #[.val (.ref sx), .val .null, .val (.ref nw_2), .val (.int (4 : Int32)), .val (.int (1 : Int32)), .val (.ref rb)]) rfl ?_
      refine XS.aload X13.here hx rfl (Jvm.hb hby d_prog_6_method_5_24) rfl rfl ?_
      refine st20 _ ?_
      show Steps p.tables e below (T20.setTop (mkF m 29 #[.val (.ref sx), .val .null, .val (.ref nw_2), .val (.int (4 : Int32)), .val (.int (1 : Int32)), .val (.ref rb)] [(.ref nb)])) _
      refine XS.aloadN X20.here hx rfl (Jvm.hb hby d_prog_6_method_5_29) rfl rfl ?_
      refine st22.trans ?_
      show Steps p.tables e below (T22.setTop (mkF m 33 #[.val (.ref sx), .val .null, .val (.ref nw_2), .val (.int (4 : Int32)), .val (.int (1 : Int32)), .val (.ref rb)] [(.int (if (own_nm 1) = cs then (1 : Int32) else (0 : Int32)))])) _
      show Steps p.tables e below (T22.setTop (mkF m 33 #[.val (.ref sx), .val .null, .val (.ref nw_2), .val (.int (4 : Int32)), .val (.int (1 : Int32)), .val (.ref rb)] [(.int (if (own_nm 1) = cs then (1 : Int32) else (0 : Int32)))])) t_
      exact k_)
    by_cases h24 : (own_nm 1) = cs
    · have s25 : ∀ t_, Steps p.tables e below (T22.setTop (mkF m 33 #[.val (.ref sx), .val .null, .val (.ref nw_2), .val (.int (4 : Int32)), .val (.int (1 : Int32)), .val (.ref rb)] [(.int (1 : Int32))])) t_ → Steps p.tables e below (s₁.setTop (entryFrame m #[(.ref sx)] 6)) t_ := fun t_ k_ => s23 t_ (castTop (by simp only [if_pos h24]) k_)
      have s26 : ∀ t_, Steps p.tables e below (T22.setTop (mkF m 49 #[.val (.ref sx), .val (.ref rb), .val (.ref nw_2), .val (.int (4 : Int32)), .val (.int (1 : Int32)), .val (.ref rb)] [(.ref rb)])) t_ → Steps p.tables e below (s₁.setTop (entryFrame m #[(.ref sx)] 6)) t_ := fun t_ k_ => s25 t_ (by
        show Steps p.tables e below (T22.setTop (mkF m 33 #[.val (.ref sx), .val .null, .val (.ref nw_2), .val (.int (4 : Int32)), .val (.int (1 : Int32)), .val (.ref rb)] [(.int (1 : Int32))])) t_
        refine XS.ifNo X22.here hx rfl (Jvm.hb hby d_prog_6_method_5_33) rfl ((if0 _ _).trans (feq (by decide : ¬ ((1 : Int32) = (0 : Int32)))).1) ?_
        show Steps p.tables e below (T22.setTop (mkF m 36 #[.val (.ref sx), .val .null, .val (.ref nw_2), .val (.int (4 : Int32)), .val (.int (1 : Int32)), .val (.ref rb)] [])) _
        refine XS.aload X22.here hx rfl (Jvm.hb hby d_prog_6_method_5_36) rfl rfl ?_
        refine XS.astoreN X22.here hx rfl (Jvm.hb hby d_prog_6_method_5_38) rfl rfl (l' := #[.val (.ref sx), .val (.ref rb), .val (.ref nw_2), .val (.int (4 : Int32)), .val (.int (1 : Int32)), .val (.ref rb)]) rfl ?_
        refine XS.goto X22.here hx rfl (pc0 := 39) (pc' := 48) rfl (Jvm.hb hby d_prog_6_method_5_39) (by decide) (by decide) ?_
        refine XS.aloadN X22.here hx rfl (Jvm.hb hby d_prog_6_method_5_48) rfl rfl ?_
        show Steps p.tables e below (T22.setTop (mkF m 49 #[.val (.ref sx), .val (.ref rb), .val (.ref nw_2), .val (.int (4 : Int32)), .val (.int (1 : Int32)), .val (.ref rb)] [(.ref rb)])) t_
        exact k_)
      obtain ⟨fs, hr, hrun, hended, hW, hsame⟩ := X22.leave (v := some (.ref rb)) (fun h => by rw [Bd.returns] at h; cases h)
      refine ⟨_, _, s26 _ ?_, hrun, hended, _, _, rfl, ?_, ⟨_, rfl⟩, hW, hsame.mono (by decide) (by decide)⟩
      · show Steps p.tables e below (T22.setTop (mkF m 49 #[.val (.ref sx), .val (.ref rb), .val (.ref nw_2), .val (.int (4 : Int32)), .val (.int (1 : Int32)), .val (.ref rb)] [(.ref rb)])) _
        jvm_step X22.here [X22.here.top, hx, (Jvm.hb hby d_prog_6_method_5_49), X22.method', Bd.returns, Value.isRef, FieldType.isReference]
        first | (intro acts; rw [hr _ acts rfl rfl rfl]) | rw [hr _ _ rfl rfl rfl]
        exact Steps.refl _
      · show Q_rmFrom Z _ _ _ _ _ _ _ _ _ _ _ _ _ _ _ _ _ _ _ _ _ _ _ h0 n0 _ T22.heap _
        rw [e22]
        exact ⟨(by rw [own_fromE, if_neg h15, if_pos h24]), N22, ((Keep.refl h0 []).trans K2 all0)⟩
    · have s27 : ∀ t_, Steps p.tables e below (T22.setTop (mkF m 33 #[.val (.ref sx), .val .null, .val (.ref nw_2), .val (.int (4 : Int32)), .val (.int (1 : Int32)), .val (.ref rb)] [(.int (0 : Int32))])) t_ → Steps p.tables e below (s₁.setTop (entryFrame m #[(.ref sx)] 6)) t_ := fun t_ k_ => s23 t_ (castTop (by simp only [if_neg h24]) k_)
      obtain ⟨cl28, Ar28, -, S28, M28, H28, -⟩ := id Fq2_0
      have hin28 : ¬ ((2 : Int32) < 0 ∨ cl28.slots.size ≤ ((2 : Int32)).toNatClampNeg) := inb_of S28 ⟨by decide, by decide⟩
      have hat28 : cl28.slots[((2 : Int32)).toNatClampNeg]? = some (.ref rc) := H28.at hin28 (rfl)
      obtain ⟨T29, X29, e29, st29⟩ := getF X22 hx hZ hown (host := "") (Or.inl (hw _ (List.mem_of_getElem? (i := 81) rfl))) Via.refl e22 (I18.ext O6.2) (g := (mkF m 26 #[.val (.ref sx), .val .null, .val (.ref nw_2), .val (.int (4 : Int32)), .val (.int (2 : Int32)), .val (.ref rc)] [(.ref rc)])) rfl rfl (Jvm.hb hby d_prog_6_method_5_26)
      have Zc30 : n0 ≤ h2.size := by omega
      obtain ⟨cq31, kq31, q31a, q31b, q31c⟩ := isOf hZ e29 (I19.ext O6.2)
      obtain ⟨_, _, ⟨T31, L31, k31, n31⟩, -, X31, ⟨Lc31, hQ31, l31, y31, z31⟩, st31⟩ := X29.virtualBack hx (y := (⟨"java/lang/String", "equals", "(Ljava/lang/Object;)Z"⟩ : MethodName)) (z := (⟨"java/lang/String", "equals", "(Ljava/lang/Object;)Z"⟩ : MethodName)) hown (mvT hZ (hw _ (List.mem_of_getElem? (i := 83) rfl))) (mvT hZ (hw _ (List.mem_of_getElem? (i := 48) rfl))) (notFace_of_selects (args := #[]) (mvT hZ (hw _ (List.mem_of_getElem? (i := 50) rfl)))) (mvT hZ (hw _ (List.mem_of_getElem? (i := 50) rfl))) (mvT hZ (hw _ (List.mem_of_getElem? (i := 49) rfl))) (by decide) (backOf (W := 0) (rmSEqG l Z a0 hw [] nc sx cst vc kc_ (own_nm 2) bs ks cs h2 n0 Zc30 I1 O6 (hcst : ¬ (cst = (0 : Int32))) (I19.ext O6.2) (I20.ext O6.2) (I21.ext O6.2) (I22.ext O6.2) f8 f9 f10 f11 (own_nmchs _) hch (own_nml _) hbl) hZ (hw _ (List.mem_of_getElem? (i := 51) rfl)) (hw _ (List.mem_of_getElem? (i := 1) rfl)) (by decide) (by decide)) q31a q31c (g := (mkF m 30 #[.val (.ref sx), .val .null, .val (.ref nw_2), .val (.int (4 : Int32)), .val (.int (2 : Int32)), .val (.ref rc)] [(.ref sx), (.ref nc)])) rfl (by rw [hml]; rfl) (Steps.refl _) (argsL := [(.ref sx)]) (rest := []) (lenOf pd__Ljava_lang_Object__Z rfl) rfl (by show 2 * 0 + _ ≤ _; exact Nat.le_of_eq rfl) (Jvm.hb hby d_prog_6_method_5_30) (fun _ _ => ⟨rfl, e29, (by decide : 1 + 0 ≤ _), (by decide : 4 + 0 ≤ _)⟩)
      dsimp only [Pt.U, Pt.locs, Pt.cells, Pt.slots] at X31 l31 y31 z31 st31 hQ31
      subst l31 y31 z31
      obtain ⟨rfl, N31q, e31⟩ := hQ31
      have N31 := Fr.app N22 N31q
      have s32 : ∀ t_, Steps p.tables e below (T31.setTop (mkF m 33 #[.val (.ref sx), .val .null, .val (.ref nw_2), .val (.int (4 : Int32)), .val (.int (2 : Int32)), .val (.ref rc)] [(.int (if (own_nm 2) = cs then (1 : Int32) else (0 : Int32)))])) t_ → Steps p.tables e below (s₁.setTop (entryFrame m #[(.ref sx)] 6)) t_ := fun t_ k_ => s27 t_ (by
        show Steps p.tables e below (T22.setTop (mkF m 33 #[.val (.ref sx), .val .null, .val (.ref nw_2), .val (.int (4 : Int32)), .val (.int (1 : Int32)), .val (.ref rb)] [(.int (0 : Int32))])) t_
        refine XS.ifYes X22.here hx rfl (pc0 := 33) (pc' := 42) rfl (Jvm.hb hby d_prog_6_method_5_33) rfl ((if0 _ _).trans (teq (rfl : (0 : Int32) = (0 : Int32))).1) (by decide) (by decide) ?_
        show Steps p.tables e below (T22.setTop (mkF m 42 #[.val (.ref sx), .val .null, .val (.ref nw_2), .val (.int (4 : Int32)), .val (.int (1 : Int32)), .val (.ref rb)] [])) _
        refine XS.iinc X22.here hx rfl (Jvm.hb hby d_prog_6_method_5_42) rfl (l' := #[.val (.ref sx), .val .null, .val (.ref nw_2), .val (.int (4 : Int32)), .val (.int (2 : Int32)), .val (.ref rb)]) rfl ?_
        refine XS.goto X22.here hx rfl (pc0 := 45) (pc' := 12) rfl (Jvm.hb hby d_prog_6_method_5_45) (by decide) (by decide) ?_
        refine XS.iload X22.here hx rfl (Jvm.hb hby d_prog_6_method_5_12) rfl ?_
        refine XS.iloadN X22.here hx rfl (Jvm.hb hby d_prog_6_method_5_14) rfl ?_
        refine XS.icmpNo X22.here hx rfl (Jvm.hb hby d_prog_6_method_5_15) rfl (tlt (by decide : ((2 : Int32) < (4 : Int32)))).2.1 ?_
        show Steps p.tables e below (T22.setTop (mkF m 18 #[.val (.ref sx), .val .null, .val (.ref nw_2), .val (.int (4 : Int32)), .val (.int (2 : Int32)), .val (.ref rb)] [])) _
        refine XS.aloadN X22.here hx rfl (Jvm.hb hby d_prog_6_method_5_18) rfl rfl ?_
        refine XS.iload X22.here hx rfl (Jvm.hb hby d_prog_6_method_5_19) rfl ?_
        refine X22.aaload hx (j := (2 : Int32)) (v := (.ref rc)) (by rw [e22]; exact Ar28.1) (State.isArrayOf_alike hZ.alike Ar28.2.1) rfl Ar28.2.2 hin28 hat28 (g := (mkF m 21 #[.val (.ref sx), .val .null, .val (.ref nw_2), .val (.int (4 : Int32)), .val (.int (2 : Int32)), .val (.ref rb)] [(.int (2 : Int32)), (.ref nw_2)])) rfl rfl (Jvm.hb hby d_prog_6_method_5_21) _ ?_
        show Steps p.tables e below (T22.setTop (mkF m 22 #[.val (.ref sx), .val .null, .val (.ref nw_2), .val (.int (4 : Int32)), .val (.int (2 : Int32)), .val (.ref rb)] [(.ref rc)])) _
        refine XS.astore X22.here hx rfl (Jvm.hb hby d_prog_6_method_5_22) rfl rfl (l' := #[.val (.ref sx), .val .null, .val (.ref nw_2), .val (.int (4 : Int32)), .val (.int (2 : Int32)), .val (.ref rc)]) rfl ?_
        refine XS.aload X22.here hx rfl (Jvm.hb hby d_prog_6_method_5_24) rfl rfl ?_
        refine st29 _ ?_
        show Steps p.tables e below (T29.setTop (mkF m 29 #[.val (.ref sx), .val .null, .val (.ref nw_2), .val (.int (4 : Int32)), .val (.int (2 : Int32)), .val (.ref rc)] [(.ref nc)])) _
        refine XS.aloadN X29.here hx rfl (Jvm.hb hby d_prog_6_method_5_29) rfl rfl ?_
        refine st31.trans ?_
        show Steps p.tables e below (T31.setTop (mkF m 33 #[.val (.ref sx), .val .null, .val (.ref nw_2), .val (.int (4 : Int32)), .val (.int (2 : Int32)), .val (.ref rc)] [(.int (if (own_nm 2) = cs then (1 : Int32) else (0 : Int32)))])) _
        show Steps p.tables e below (T31.setTop (mkF m 33 #[.val (.ref sx), .val .null, .val (.ref nw_2), .val (.int (4 : Int32)), .val (.int (2 : Int32)), .val (.ref rc)] [(.int (if (own_nm 2) = cs then (1 : Int32) else (0 : Int32)))])) t_
        exact k_)
      by_cases h33 : (own_nm 2) = cs
      · have s34 : ∀ t_, Steps p.tables e below (T31.setTop (mkF m 33 #[.val (.ref sx), .val .null, .val (.ref nw_2), .val (.int (4 : Int32)), .val (.int (2 : Int32)), .val (.ref rc)] [(.int (1 : Int32))])) t_ → Steps p.tables e below (s₁.setTop (entryFrame m #[(.ref sx)] 6)) t_ := fun t_ k_ => s32 t_ (castTop (by simp only [if_pos h33]) k_)
        have s35 : ∀ t_, Steps p.tables e below (T31.setTop (mkF m 49 #[.val (.ref sx), .val (.ref rc), .val (.ref nw_2), .val (.int (4 : Int32)), .val (.int (2 : Int32)), .val (.ref rc)] [(.ref rc)])) t_ → Steps p.tables e below (s₁.setTop (entryFrame m #[(.ref sx)] 6)) t_ := fun t_ k_ => s34 t_ (by
          show Steps p.tables e below (T31.setTop (mkF m 33 #[.val (.ref sx), .val .null, .val (.ref nw_2), .val (.int (4 : Int32)), .val (.int (2 : Int32)), .val (.ref rc)] [(.int (1 : Int32))])) t_
          refine XS.ifNo X31.here hx rfl (Jvm.hb hby d_prog_6_method_5_33) rfl ((if0 _ _).trans (feq (by decide : ¬ ((1 : Int32) = (0 : Int32)))).1) ?_
          show Steps p.tables e below (T31.setTop (mkF m 36 #[.val (.ref sx), .val .null, .val (.ref nw_2), .val (.int (4 : Int32)), .val (.int (2 : Int32)), .val (.ref rc)] [])) _
          refine XS.aload X31.here hx rfl (Jvm.hb hby d_prog_6_method_5_36) rfl rfl ?_
          refine XS.astoreN X31.here hx rfl (Jvm.hb hby d_prog_6_method_5_38) rfl rfl (l' := #[.val (.ref sx), .val (.ref rc), .val (.ref nw_2), .val (.int (4 : Int32)), .val (.int (2 : Int32)), .val (.ref rc)]) rfl ?_
          refine XS.goto X31.here hx rfl (pc0 := 39) (pc' := 48) rfl (Jvm.hb hby d_prog_6_method_5_39) (by decide) (by decide) ?_
          refine XS.aloadN X31.here hx rfl (Jvm.hb hby d_prog_6_method_5_48) rfl rfl ?_
          show Steps p.tables e below (T31.setTop (mkF m 49 #[.val (.ref sx), .val (.ref rc), .val (.ref nw_2), .val (.int (4 : Int32)), .val (.int (2 : Int32)), .val (.ref rc)] [(.ref rc)])) t_
          exact k_)
        obtain ⟨fs, hr, hrun, hended, hW, hsame⟩ := X31.leave (v := some (.ref rc)) (fun h => by rw [Bd.returns] at h; cases h)
        refine ⟨_, _, s35 _ ?_, hrun, hended, _, _, rfl, ?_, ⟨_, rfl⟩, hW, hsame.mono (by decide) (by decide)⟩
        · show Steps p.tables e below (T31.setTop (mkF m 49 #[.val (.ref sx), .val (.ref rc), .val (.ref nw_2), .val (.int (4 : Int32)), .val (.int (2 : Int32)), .val (.ref rc)] [(.ref rc)])) _
          jvm_step X31.here [X31.here.top, hx, (Jvm.hb hby d_prog_6_method_5_49), X31.method', Bd.returns, Value.isRef, FieldType.isReference]
          first | (intro acts; rw [hr _ acts rfl rfl rfl]) | rw [hr _ _ rfl rfl rfl]
          exact Steps.refl _
        · show Q_rmFrom Z _ _ _ _ _ _ _ _ _ _ _ _ _ _ _ _ _ _ _ _ _ _ _ h0 n0 _ T31.heap _
          rw [e31]
          exact ⟨(by rw [own_fromE, if_neg h15, if_neg h24, if_pos h33]), N31, ((Keep.refl h0 []).trans K2 all0)⟩
      · have s36 : ∀ t_, Steps p.tables e below (T31.setTop (mkF m 33 #[.val (.ref sx), .val .null, .val (.ref nw_2), .val (.int (4 : Int32)), .val (.int (2 : Int32)), .val (.ref rc)] [(.int (0 : Int32))])) t_ → Steps p.tables e below (s₁.setTop (entryFrame m #[(.ref sx)] 6)) t_ := fun t_ k_ => s32 t_ (castTop (by simp only [if_neg h33]) k_)
        obtain ⟨cl37, Ar37, -, S37, M37, H37, -⟩ := id Fq2_0
        have hin37 : ¬ ((3 : Int32) < 0 ∨ cl37.slots.size ≤ ((3 : Int32)).toNatClampNeg) := inb_of S37 ⟨by decide, by decide⟩
        have hat37 : cl37.slots[((3 : Int32)).toNatClampNeg]? = some (.ref rd) := H37.at hin37 (rfl)
        obtain ⟨T38, X38, e38, st38⟩ := getF X31 hx hZ hown (host := "") (Or.inl (hw _ (List.mem_of_getElem? (i := 81) rfl))) Via.refl e31 (I24.ext O6.2) (g := (mkF m 26 #[.val (.ref sx), .val .null, .val (.ref nw_2), .val (.int (4 : Int32)), .val (.int (3 : Int32)), .val (.ref rd)] [(.ref rd)])) rfl rfl (Jvm.hb hby d_prog_6_method_5_26)
        have Zc39 : n0 ≤ h2.size := by omega
        obtain ⟨cq40, kq40, q40a, q40b, q40c⟩ := isOf hZ e38 (I25.ext O6.2)
        obtain ⟨_, _, ⟨T40, L40, k40, n40⟩, -, X40, ⟨Lc40, hQ40, l40, y40, z40⟩, st40⟩ := X38.virtualBack hx (y := (⟨"java/lang/String", "equals", "(Ljava/lang/Object;)Z"⟩ : MethodName)) (z := (⟨"java/lang/String", "equals", "(Ljava/lang/Object;)Z"⟩ : MethodName)) hown (mvT hZ (hw _ (List.mem_of_getElem? (i := 83) rfl))) (mvT hZ (hw _ (List.mem_of_getElem? (i := 48) rfl))) (notFace_of_selects (args := #[]) (mvT hZ (hw _ (List.mem_of_getElem? (i := 50) rfl)))) (mvT hZ (hw _ (List.mem_of_getElem? (i := 50) rfl))) (mvT hZ (hw _ (List.mem_of_getElem? (i := 49) rfl))) (by decide) (backOf (W := 0) (rmSEqG l Z a0 hw [] nx sx cst vd kd (own_nm 3) bs ks cs h2 n0 Zc39 I1 O6 (hcst : ¬ (cst = (0 : Int32))) (I25.ext O6.2) (I26.ext O6.2) (I27.ext O6.2) (I28.ext O6.2) f8 f9 f10 f11 (own_nmchs _) hch (own_nml _) hbl) hZ (hw _ (List.mem_of_getElem? (i := 51) rfl)) (hw _ (List.mem_of_getElem? (i := 1) rfl)) (by decide) (by decide)) q40a q40c (g := (mkF m 30 #[.val (.ref sx), .val .null, .val (.ref nw_2), .val (.int (4 : Int32)), .val (.int (3 : Int32)), .val (.ref rd)] [(.ref sx), (.ref nx)])) rfl (by rw [hml]; rfl) (Steps.refl _) (argsL := [(.ref sx)]) (rest := []) (lenOf pd__Ljava_lang_Object__Z rfl) rfl (by show 2 * 0 + _ ≤ _; exact Nat.le_of_eq rfl) (Jvm.hb hby d_prog_6_method_5_30) (fun _ _ => ⟨rfl, e38, (by decide : 1 + 0 ≤ _), (by decide : 4 + 0 ≤ _)⟩)
        dsimp only [Pt.U, Pt.locs, Pt.cells, Pt.slots] at X40 l40 y40 z40 st40 hQ40
        subst l40 y40 z40
        obtain ⟨rfl, N40q, e40⟩ := hQ40
        have N40 := Fr.app N31 N40q
        have s41 : ∀ t_, Steps p.tables e below (T40.setTop (mkF m 33 #[.val (.ref sx), .val .null, .val (.ref nw_2), .val (.int (4 : Int32)), .val (.int (3 : Int32)), .val (.ref rd)] [(.int (if (own_nm 3) = cs then (1 : Int32) else (0 : Int32)))])) t_ → Steps p.tables e below (s₁.setTop (entryFrame m #[(.ref sx)] 6)) t_ := fun t_ k_ => s36 t_ (by
          show Steps p.tables e below (T31.setTop (mkF m 33 #[.val (.ref sx), .val .null, .val (.ref nw_2), .val (.int (4 : Int32)), .val (.int (2 : Int32)), .val (.ref rc)] [(.int (0 : Int32))])) t_
          refine XS.ifYes X31.here hx rfl (pc0 := 33) (pc' := 42) rfl (Jvm.hb hby d_prog_6_method_5_33) rfl ((if0 _ _).trans (teq (rfl : (0 : Int32) = (0 : Int32))).1) (by decide) (by decide) ?_
          show Steps p.tables e below (T31.setTop (mkF m 42 #[.val (.ref sx), .val .null, .val (.ref nw_2), .val (.int (4 : Int32)), .val (.int (2 : Int32)), .val (.ref rc)] [])) _
          refine XS.iinc X31.here hx rfl (Jvm.hb hby d_prog_6_method_5_42) rfl (l' := #[.val (.ref sx), .val .null, .val (.ref nw_2), .val (.int (4 : Int32)), .val (.int (3 : Int32)), .val (.ref rc)]) rfl ?_
          refine XS.goto X31.here hx rfl (pc0 := 45) (pc' := 12) rfl (Jvm.hb hby d_prog_6_method_5_45) (by decide) (by decide) ?_
          refine XS.iload X31.here hx rfl (Jvm.hb hby d_prog_6_method_5_12) rfl ?_
          refine XS.iloadN X31.here hx rfl (Jvm.hb hby d_prog_6_method_5_14) rfl ?_
          refine XS.icmpNo X31.here hx rfl (Jvm.hb hby d_prog_6_method_5_15) rfl (tlt (by decide : ((3 : Int32) < (4 : Int32)))).2.1 ?_
          show Steps p.tables e below (T31.setTop (mkF m 18 #[.val (.ref sx), .val .null, .val (.ref nw_2), .val (.int (4 : Int32)), .val (.int (3 : Int32)), .val (.ref rc)] [])) _
          refine XS.aloadN X31.here hx rfl (Jvm.hb hby d_prog_6_method_5_18) rfl rfl ?_
          refine XS.iload X31.here hx rfl (Jvm.hb hby d_prog_6_method_5_19) rfl ?_
          refine X31.aaload hx (j := (3 : Int32)) (v := (.ref rd)) (by rw [e31]; exact Ar37.1) (State.isArrayOf_alike hZ.alike Ar37.2.1) rfl Ar37.2.2 hin37 hat37 (g := (mkF m 21 #[.val (.ref sx), .val .null, .val (.ref nw_2), .val (.int (4 : Int32)), .val (.int (3 : Int32)), .val (.ref rc)] [(.int (3 : Int32)), (.ref nw_2)])) rfl rfl (Jvm.hb hby d_prog_6_method_5_21) _ ?_
          show Steps p.tables e below (T31.setTop (mkF m 22 #[.val (.ref sx), .val .null, .val (.ref nw_2), .val (.int (4 : Int32)), .val (.int (3 : Int32)), .val (.ref rc)] [(.ref rd)])) _
          refine XS.astore X31.here hx rfl (Jvm.hb hby d_prog_6_method_5_22) rfl rfl (l' := #[.val (.ref sx), .val .null, .val (.ref nw_2), .val (.int (4 : Int32)), .val (.int (3 : Int32)), .val (.ref rd)]) rfl ?_
          refine XS.aload X31.here hx rfl (Jvm.hb hby d_prog_6_method_5_24) rfl rfl ?_
          refine st38 _ ?_
          show Steps p.tables e below (T38.setTop (mkF m 29 #[.val (.ref sx), .val .null, .val (.ref nw_2), .val (.int (4 : Int32)), .val (.int (3 : Int32)), .val (.ref rd)] [(.ref nx)])) _
          refine XS.aloadN X38.here hx rfl (Jvm.hb hby d_prog_6_method_5_29) rfl rfl ?_
          refine st40.trans ?_
          show Steps p.tables e below (T40.setTop (mkF m 33 #[.val (.ref sx), .val .null, .val (.ref nw_2), .val (.int (4 : Int32)), .val (.int (3 : Int32)), .val (.ref rd)] [(.int (if (own_nm 3) = cs then (1 : Int32) else (0 : Int32)))])) _
          show Steps p.tables e below (T40.setTop (mkF m 33 #[.val (.ref sx), .val .null, .val (.ref nw_2), .val (.int (4 : Int32)), .val (.int (3 : Int32)), .val (.ref rd)] [(.int (if (own_nm 3) = cs then (1 : Int32) else (0 : Int32)))])) t_
          exact k_)
        by_cases h42 : (own_nm 3) = cs
        · have s43 : ∀ t_, Steps p.tables e below (T40.setTop (mkF m 33 #[.val (.ref sx), .val .null, .val (.ref nw_2), .val (.int (4 : Int32)), .val (.int (3 : Int32)), .val (.ref rd)] [(.int (1 : Int32))])) t_ → Steps p.tables e below (s₁.setTop (entryFrame m #[(.ref sx)] 6)) t_ := fun t_ k_ => s41 t_ (castTop (by simp only [if_pos h42]) k_)
          have s44 : ∀ t_, Steps p.tables e below (T40.setTop (mkF m 49 #[.val (.ref sx), .val (.ref rd), .val (.ref nw_2), .val (.int (4 : Int32)), .val (.int (3 : Int32)), .val (.ref rd)] [(.ref rd)])) t_ → Steps p.tables e below (s₁.setTop (entryFrame m #[(.ref sx)] 6)) t_ := fun t_ k_ => s43 t_ (by
            show Steps p.tables e below (T40.setTop (mkF m 33 #[.val (.ref sx), .val .null, .val (.ref nw_2), .val (.int (4 : Int32)), .val (.int (3 : Int32)), .val (.ref rd)] [(.int (1 : Int32))])) t_
            refine XS.ifNo X40.here hx rfl (Jvm.hb hby d_prog_6_method_5_33) rfl ((if0 _ _).trans (feq (by decide : ¬ ((1 : Int32) = (0 : Int32)))).1) ?_
            show Steps p.tables e below (T40.setTop (mkF m 36 #[.val (.ref sx), .val .null, .val (.ref nw_2), .val (.int (4 : Int32)), .val (.int (3 : Int32)), .val (.ref rd)] [])) _
            refine XS.aload X40.here hx rfl (Jvm.hb hby d_prog_6_method_5_36) rfl rfl ?_
            refine XS.astoreN X40.here hx rfl (Jvm.hb hby d_prog_6_method_5_38) rfl rfl (l' := #[.val (.ref sx), .val (.ref rd), .val (.ref nw_2), .val (.int (4 : Int32)), .val (.int (3 : Int32)), .val (.ref rd)]) rfl ?_
            refine XS.goto X40.here hx rfl (pc0 := 39) (pc' := 48) rfl (Jvm.hb hby d_prog_6_method_5_39) (by decide) (by decide) ?_
            refine XS.aloadN X40.here hx rfl (Jvm.hb hby d_prog_6_method_5_48) rfl rfl ?_
            show Steps p.tables e below (T40.setTop (mkF m 49 #[.val (.ref sx), .val (.ref rd), .val (.ref nw_2), .val (.int (4 : Int32)), .val (.int (3 : Int32)), .val (.ref rd)] [(.ref rd)])) t_
            exact k_)
          obtain ⟨fs, hr, hrun, hended, hW, hsame⟩ := X40.leave (v := some (.ref rd)) (fun h => by rw [Bd.returns] at h; cases h)
          refine ⟨_, _, s44 _ ?_, hrun, hended, _, _, rfl, ?_, ⟨_, rfl⟩, hW, hsame.mono (by decide) (by decide)⟩
          · show Steps p.tables e below (T40.setTop (mkF m 49 #[.val (.ref sx), .val (.ref rd), .val (.ref nw_2), .val (.int (4 : Int32)), .val (.int (3 : Int32)), .val (.ref rd)] [(.ref rd)])) _
            jvm_step X40.here [X40.here.top, hx, (Jvm.hb hby d_prog_6_method_5_49), X40.method', Bd.returns, Value.isRef, FieldType.isReference]
            first | (intro acts; rw [hr _ acts rfl rfl rfl]) | rw [hr _ _ rfl rfl rfl]
            exact Steps.refl _
          · show Q_rmFrom Z _ _ _ _ _ _ _ _ _ _ _ _ _ _ _ _ _ _ _ _ _ _ _ h0 n0 _ T40.heap _
            rw [e40]
            exact ⟨(by rw [own_fromE, if_neg h15, if_neg h24, if_neg h33, if_pos h42]), N40, ((Keep.refl h0 []).trans K2 all0)⟩
        · have s45 : ∀ t_, Steps p.tables e below (T40.setTop (mkF m 33 #[.val (.ref sx), .val .null, .val (.ref nw_2), .val (.int (4 : Int32)), .val (.int (3 : Int32)), .val (.ref rd)] [(.int (0 : Int32))])) t_ → Steps p.tables e below (s₁.setTop (entryFrame m #[(.ref sx)] 6)) t_ := fun t_ k_ => s41 t_ (castTop (by simp only [if_neg h42]) k_)
          have s46 : ∀ t_, Steps p.tables e below (T40.setTop (mkF m 49 #[.val (.ref sx), .val .null, .val (.ref nw_2), .val (.int (4 : Int32)), .val (.int (4 : Int32)), .val (.ref rd)] [.null])) t_ → Steps p.tables e below (s₁.setTop (entryFrame m #[(.ref sx)] 6)) t_ := fun t_ k_ => s45 t_ (by
            show Steps p.tables e below (T40.setTop (mkF m 33 #[.val (.ref sx), .val .null, .val (.ref nw_2), .val (.int (4 : Int32)), .val (.int (3 : Int32)), .val (.ref rd)] [(.int (0 : Int32))])) t_
            refine XS.ifYes X40.here hx rfl (pc0 := 33) (pc' := 42) rfl (Jvm.hb hby d_prog_6_method_5_33) rfl ((if0 _ _).trans (teq (rfl : (0 : Int32) = (0 : Int32))).1) (by decide) (by decide) ?_
            show Steps p.tables e below (T40.setTop (mkF m 42 #[.val (.ref sx), .val .null, .val (.ref nw_2), .val (.int (4 : Int32)), .val (.int (3 : Int32)), .val (.ref rd)] [])) _
            refine XS.iinc X40.here hx rfl (Jvm.hb hby d_prog_6_method_5_42) rfl (l' := #[.val (.ref sx), .val .null, .val (.ref nw_2), .val (.int (4 : Int32)), .val (.int (4 : Int32)), .val (.ref rd)]) rfl ?_
            refine XS.goto X40.here hx rfl (pc0 := 45) (pc' := 12) rfl (Jvm.hb hby d_prog_6_method_5_45) (by decide) (by decide) ?_
            refine XS.iload X40.here hx rfl (Jvm.hb hby d_prog_6_method_5_12) rfl ?_
            refine XS.iloadN X40.here hx rfl (Jvm.hb hby d_prog_6_method_5_14) rfl ?_
            refine XS.icmpYes X40.here hx rfl (pc0 := 15) (pc' := 48) rfl (Jvm.hb hby d_prog_6_method_5_15) rfl (flt (by decide : ¬ ((4 : Int32) < (4 : Int32)))).2.1 (by decide) (by decide) ?_
            show Steps p.tables e below (T40.setTop (mkF m 48 #[.val (.ref sx), .val .null, .val (.ref nw_2), .val (.int (4 : Int32)), .val (.int (4 : Int32)), .val (.ref rd)] [])) _
            refine XS.aloadN X40.here hx rfl (Jvm.hb hby d_prog_6_method_5_48) rfl rfl ?_
            show Steps p.tables e below (T40.setTop (mkF m 49 #[.val (.ref sx), .val .null, .val (.ref nw_2), .val (.int (4 : Int32)), .val (.int (4 : Int32)), .val (.ref rd)] [.null])) t_
            exact k_)
          obtain ⟨fs, hr, hrun, hended, hW, hsame⟩ := X40.leave (v := some .null) (fun h => by rw [Bd.returns] at h; cases h)
          refine ⟨_, _, s46 _ ?_, hrun, hended, _, _, rfl, ?_, ⟨_, rfl⟩, hW, hsame.mono (by decide) (by decide)⟩
          · show Steps p.tables e below (T40.setTop (mkF m 49 #[.val (.ref sx), .val .null, .val (.ref nw_2), .val (.int (4 : Int32)), .val (.int (4 : Int32)), .val (.ref rd)] [.null])) _
            jvm_step X40.here [X40.here.top, hx, (Jvm.hb hby d_prog_6_method_5_49), X40.method', Bd.returns, Value.isRef, FieldType.isReference]
            first | (intro acts; rw [hr _ acts rfl rfl rfl]) | rw [hr _ _ rfl rfl rfl]
            exact Steps.refl _
          · show Q_rmFrom Z _ _ _ _ _ _ _ _ _ _ _ _ _ _ _ _ _ _ _ _ _ _ _ h0 n0 _ T40.heap _
            rw [e40]
            exact ⟨(by rw [own_fromE, if_neg h15, if_neg h24, if_neg h33, if_neg h42]), N40, ((Keep.refl h0 []).trans K2 all0)⟩
theorem ef_rmFromN (m : MethodId)  : entryFrame m #[.null] 6 = mkF m 0 #[.val .null, .unset, .unset, .unset, .unset, .unset] [] := by first | (simp [entryFrame, mkF, argsToLocals, Value.category]; done) | rfl
def Q_rmFromN (Z : State) (cst : Int32) (vl : Addr) (kv : ClassId) (ra : Addr) (rb : Addr) (rc : Addr) (rd : Addr) (na : Addr) (nb : Addr) (nc : Addr) (nx : Addr) (va : Addr) (vb : Addr) (vc : Addr) (vd : Addr) (ka : ClassId) (kb_ : ClassId) (kc_ : ClassId) (kd : ClassId) (h0 : Heap) (n0 : Nat) (v : Option Value) (h : Heap) (L : List Loc) : Prop := (v = some .null) ∧ (Fr n0 L) ∧ (Keep h0 h [])
set_option maxRecDepth 65536 in
set_option maxHeartbeats 40000000 in
theorem rmFromN (l : Launch) (Z : State) (a0 : Array Value) (hw : ∀ d ∈ tables_1, d.before a0 Z = true) (ws : List Jvm.Cond) (cst : Int32) (vl : Addr) (kv : ClassId) (ra : Addr) (rb : Addr) (rc : Addr) (rd : Addr) (na : Addr) (nb : Addr) (nc : Addr) (nx : Addr) (va : Addr) (vb : Addr) (vc : Addr) (vd : Addr) (ka : ClassId) (kb_ : ClassId) (kc_ : ClassId) (kd : ClassId) (h0 : Heap) (n0 : Nat) (Z0 : n0 ≤ h0.size) (I1 : Sta Z Z.heap "java/lang/String" "COMPACT_STRINGS" "Z" (.int cst)) (OX : Old Z n0 h0) (hcst : ¬ (cst = (0 : Int32))) (I2 : Sta Z Z.heap "com/example/coyote_hill/coyotehill/ItemState" "$VALUES" "[Lcom/example/coyote_hill/coyotehill/ItemState;" (.ref vl)) (I3 : Exa Z Z.heap vl "[Lcom/example/coyote_hill/coyotehill/ItemState;") (I4 : Arv Z Z.heap vl kv (.object "com/example/coyote_hill/coyotehill/ItemState") (4 : Int32) [.ref ra, .ref rb, .ref rc, .ref rd] .null) (I5 : Exa Z Z.heap ra "com/example/coyote_hill/coyotehill/ItemState") (I6 : Fld Z Z.heap ra "com/example/coyote_hill/coyotehill/ItemState" "_name" "Ljava/lang/String;" (.ref na)) (I7 : Exa Z Z.heap na "java/lang/String") (I8 : Fld Z Z.heap na "java/lang/String" "value" "[B" (.ref va)) (I9 : Fld Z Z.heap na "java/lang/String" "coder" "B" (.int (own_cod (own_nm 0)))) (I10 : Arv Z Z.heap va ka .byte (Int32.ofNat (own_enl (own_nm 0))) (own_enc (own_nm 0)) (.int (0 : Int32))) (I11 : Exa Z Z.heap rb "com/example/coyote_hill/coyotehill/ItemState") (I12 : Fld Z Z.heap rb "com/example/coyote_hill/coyotehill/ItemState" "_name" "Ljava/lang/String;" (.ref nb)) (I13 : Exa Z Z.heap nb "java/lang/String") (I14 : Fld Z Z.heap nb "java/lang/String" "value" "[B" (.ref vb)) (I15 : Fld Z Z.heap nb "java/lang/String" "coder" "B" (.int (own_cod (own_nm 1)))) (I16 : Arv Z Z.heap vb kb_ .byte (Int32.ofNat (own_enl (own_nm 1))) (own_enc (own_nm 1)) (.int (0 : Int32))) (I17 : Exa Z Z.heap rc "com/example/coyote_hill/coyotehill/ItemState") (I18 : Fld Z Z.heap rc "com/example/coyote_hill/coyotehill/ItemState" "_name" "Ljava/lang/String;" (.ref nc)) (I19 : Exa Z Z.heap nc "java/lang/String") (I20 : Fld Z Z.heap nc "java/lang/String" "value" "[B" (.ref vc)) (I21 : Fld Z Z.heap nc "java/lang/String" "coder" "B" (.int (own_cod (own_nm 2)))) (I22 : Arv Z Z.heap vc kc_ .byte (Int32.ofNat (own_enl (own_nm 2))) (own_enc (own_nm 2)) (.int (0 : Int32))) (I23 : Exa Z Z.heap rd "com/example/coyote_hill/coyotehill/ItemState") (I24 : Fld Z Z.heap rd "com/example/coyote_hill/coyotehill/ItemState" "_name" "Ljava/lang/String;" (.ref nx)) (I25 : Exa Z Z.heap nx "java/lang/String") (I26 : Fld Z Z.heap nx "java/lang/String" "value" "[B" (.ref vd)) (I27 : Fld Z Z.heap nx "java/lang/String" "coder" "B" (.int (own_cod (own_nm 3)))) (I28 : Arv Z Z.heap vd kd .byte (Int32.ofNat (own_enl (own_nm 3))) (own_enc (own_nm 3)) (.int (0 : Int32))) :
    MetFree l (⟨"com/example/coyote_hill/coyotehill/ItemState", "fromName", "(Ljava/lang/String;)Lcom/example/coyote_hill/coyotehill/ItemState;"⟩ : MethodName) (head1 (Jvm.Cond.code (⟨"com/example/coyote_hill/coyotehill/ItemState", "fromName", "(Ljava/lang/String;)Lcom/example/coyote_hill/coyotehill/ItemState;"⟩ : MethodName) prog_6_method_5_code 6 (some (.object "com/example/coyote_hill/coyotehill/ItemState")) :: ws) ({ frames := 2, cells := 1, slots := 4, locals := 25 } : Room)) (fun ar_ U => ar_ = #[.null] ∧ Z.Warmed39 U.vm ∧ U.heap = h0) (fun _ _ _ _ _ => True) (fun _ U oc_ U' => ∃ v L, oc_ = .returned v ∧ Q_rmFromN Z cst vl kv ra rb rc rd na nb nc nx va vb vc vd ka kb_ kc_ kd h0 n0 v U'.heap L ∧ FrameEnd U oc_ U' L ({ frames := 2, cells := 1, slots := 4, locals := 25 } : Room).cells ({ frames := 2, cells := 1, slots := 4, locals := 25 } : Room).slots) := by
  refine MetFree.of_bodySF (plainFor_of_name pn_com_example_coyote_hill_coyotehill_ItemState) hisR ?_
  intro p e s m args below meth c s₁ Bd hml0 hP hK
  obtain ⟨rfl, hZ, hh⟩ := hP
  have hx := Bd.exec
  have hby := Bd.bytes
  have hml : c.maxLocals = 6 := hml0
  have hown : s.vm.findClass "com/example/coyote_hill/coyotehill/ItemState" = some m.cls := findClass_of_methodNamed Bd.named
  have hnm := (name_of_methodNamed Bd.named Bd.method).1
  have X0 : Stand p l e ({ frames := 2, cells := 1, slots := 4, locals := 25 } : Room) s m #[.null] below meth c s₁ [] 0 0 := Stand.of_body Bd
  have e0 : s₁.heap = h0 := by rw [← hh, Bd.state]; rfl
  have N0 := Fr.nil n0
  have pre0 : ∀ t_, Steps p.tables e below (s₁.setTop (mkF m 0 #[.val .null, .unset, .unset, .unset, .unset, .unset] [])) t_ → Steps p.tables e below (s₁.setTop (entryFrame m #[.null] 6)) t_ := fun t_ k_ => castTop (ef_rmFromN m ) k_
  have Zc1 : n0 ≤ h0.size := by omega
  obtain ⟨_, _, ⟨T2, L2, k2, n2⟩, -, X2, ⟨Lc2, hQ2, l2, y2, z2⟩, st2⟩ := Jvm.LawKit.callS X0 hx (y := (⟨"com/example/coyote_hill/coyotehill/ItemState", "values", "()[Lcom/example/coyote_hill/coyotehill/ItemState;"⟩ : MethodName)) hown (mvT hZ (hw _ (List.mem_of_getElem? (i := 63) rfl))) (mvT hZ (hw _ (List.mem_of_getElem? (i := 64) rfl))) (mvT hZ (hw _ (List.mem_of_getElem? (i := 9) rfl))) (mvT hZ (hw _ (List.mem_of_getElem? (i := 65) rfl))) (by decide) (backOf (W := 0) (rmVals l Z a0 hw [] vl kv ra rb rc rd h0 n0 Zc1 I2 I3 I4 OX) hZ (hw _ (List.mem_of_getElem? (i := 65) rfl)) (hw _ (List.mem_of_getElem? (i := 9) rfl)) (by decide) (by decide)) (g := (mkF m 2 #[.val .null, .val .null, .unset, .unset, .unset, .unset] [])) rfl (by rw [hml]; rfl) (argsL := []) (rest := []) (lenOf pd____Lcom_example_coyote_hill_coyotehill_ItemState_ rfl) rfl (by show 2 * 0 + _ ≤ _; exact Nat.le_of_eq rfl) (Jvm.hb hby d_prog_6_method_5_2) (fun _ _ => ⟨rfl, e0, (by decide : 0 + 1 ≤ _), (by decide : 0 + 4 ≤ _)⟩)
  dsimp only [Pt.U, Pt.locs, Pt.cells, Pt.slots] at X2 l2 y2 z2 st2 hQ2
  subst l2 y2 z2
  obtain ⟨nw_2, rfl, N2q, K2, Fq2_0⟩ := hQ2
  have N2 := Fr.app N0 N2q
  obtain ⟨h2, e2⟩ : ∃ z, T2.heap = z := ⟨_, rfl⟩
  rw [e2] at K2 Fq2_0
  have z3 : h0.size ≤ h2.size := K2.1
  have lt2_0 : @LT.lt Nat _ nw_2 h2.size := Fq2_0.lt
  obtain ⟨cl4, Ar4, -, S4, M4, -, -⟩ := id Fq2_0
  obtain ⟨cl5, Ar5, -, S5, M5, H5, -⟩ := id Fq2_0
  have hin5 : ¬ ((0 : Int32) < 0 ∨ cl5.slots.size ≤ ((0 : Int32)).toNatClampNeg) := inb_of S5 ⟨by decide, by decide⟩
  have hat5 : cl5.slots[((0 : Int32)).toNatClampNeg]? = some (.ref ra) := H5.at hin5 (rfl)
  have O6 : Old Z n0 h2 := (OX.keep K2 all0)
  obtain ⟨T7, X7, e7, st7⟩ := getF X2 hx hZ hown (host := "") (Or.inl (hw _ (List.mem_of_getElem? (i := 81) rfl))) Via.refl e2 (I6.ext O6.2) (g := (mkF m 26 #[.val .null, .val .null, .val (.ref nw_2), .val (.int (4 : Int32)), .val (.int (0 : Int32)), .val (.ref ra)] [(.ref ra)])) rfl rfl (Jvm.hb hby d_prog_6_method_5_26)
  have Zc8 : n0 ≤ h2.size := by omega
  obtain ⟨cq9, kq9, q9a, q9b, q9c⟩ := isOf hZ e7 (I7.ext O6.2)
  obtain ⟨_, _, ⟨T9, L9, k9, n9⟩, -, X9, ⟨Lc9, hQ9, l9, y9, z9⟩, st9⟩ := X7.virtualBack hx (y := (⟨"java/lang/String", "equals", "(Ljava/lang/Object;)Z"⟩ : MethodName)) (z := (⟨"java/lang/String", "equals", "(Ljava/lang/Object;)Z"⟩ : MethodName)) hown (mvT hZ (hw _ (List.mem_of_getElem? (i := 83) rfl))) (mvT hZ (hw _ (List.mem_of_getElem? (i := 48) rfl))) (notFace_of_selects (args := #[]) (mvT hZ (hw _ (List.mem_of_getElem? (i := 50) rfl)))) (mvT hZ (hw _ (List.mem_of_getElem? (i := 50) rfl))) (mvT hZ (hw _ (List.mem_of_getElem? (i := 49) rfl))) (by decide) (backOf (W := 0) (rmSEqN l Z a0 hw [] na h2 n0 Zc8) hZ (hw _ (List.mem_of_getElem? (i := 51) rfl)) (hw _ (List.mem_of_getElem? (i := 1) rfl)) (by decide) (by decide)) q9a q9c (g := (mkF m 30 #[.val .null, .val .null, .val (.ref nw_2), .val (.int (4 : Int32)), .val (.int (0 : Int32)), .val (.ref ra)] [.null, (.ref na)])) rfl (by rw [hml]; rfl) (Steps.refl _) (argsL := [.null]) (rest := []) (lenOf pd__Ljava_lang_Object__Z rfl) rfl (by show 2 * 0 + _ ≤ _; exact Nat.le_of_eq rfl) (Jvm.hb hby d_prog_6_method_5_30) (fun _ _ => ⟨rfl, e7, (by decide : 1 + 0 ≤ _), (by decide : 4 + 0 ≤ _)⟩)
  dsimp only [Pt.U, Pt.locs, Pt.cells, Pt.slots] at X9 l9 y9 z9 st9 hQ9
  subst l9 y9 z9
  obtain ⟨rfl, N9q, e9⟩ := hQ9
  have N9 := Fr.app N2 N9q
  obtain ⟨cl10, Ar10, -, S10, M10, H10, -⟩ := id Fq2_0
  have hin10 : ¬ ((1 : Int32) < 0 ∨ cl10.slots.size ≤ ((1 : Int32)).toNatClampNeg) := inb_of S10 ⟨by decide, by decide⟩
  have hat10 : cl10.slots[((1 : Int32)).toNatClampNeg]? = some (.ref rb) := H10.at hin10 (rfl)
  obtain ⟨T11, X11, e11, st11⟩ := getF X9 hx hZ hown (host := "") (Or.inl (hw _ (List.mem_of_getElem? (i := 81) rfl))) Via.refl e9 (I12.ext O6.2) (g := (mkF m 26 #[.val .null, .val .null, .val (.ref nw_2), .val (.int (4 : Int32)), .val (.int (1 : Int32)), .val (.ref rb)] [(.ref rb)])) rfl rfl (Jvm.hb hby d_prog_6_method_5_26)
  have Zc12 : n0 ≤ h2.size := by omega
  obtain ⟨cq13, kq13, q13a, q13b, q13c⟩ := isOf hZ e11 (I13.ext O6.2)
  obtain ⟨_, _, ⟨T13, L13, k13, n13⟩, -, X13, ⟨Lc13, hQ13, l13, y13, z13⟩, st13⟩ := X11.virtualBack hx (y := (⟨"java/lang/String", "equals", "(Ljava/lang/Object;)Z"⟩ : MethodName)) (z := (⟨"java/lang/String", "equals", "(Ljava/lang/Object;)Z"⟩ : MethodName)) hown (mvT hZ (hw _ (List.mem_of_getElem? (i := 83) rfl))) (mvT hZ (hw _ (List.mem_of_getElem? (i := 48) rfl))) (notFace_of_selects (args := #[]) (mvT hZ (hw _ (List.mem_of_getElem? (i := 50) rfl)))) (mvT hZ (hw _ (List.mem_of_getElem? (i := 50) rfl))) (mvT hZ (hw _ (List.mem_of_getElem? (i := 49) rfl))) (by decide) (backOf (W := 0) (rmSEqN l Z a0 hw [] nb h2 n0 Zc12) hZ (hw _ (List.mem_of_getElem? (i := 51) rfl)) (hw _ (List.mem_of_getElem? (i := 1) rfl)) (by decide) (by decide)) q13a q13c (g := (mkF m 30 #[.val .null, .val .null, .val (.ref nw_2), .val (.int (4 : Int32)), .val (.int (1 : Int32)), .val (.ref rb)] [.null, (.ref nb)])) rfl (by rw [hml]; rfl) (Steps.refl _) (argsL := [.null]) (rest := []) (lenOf pd__Ljava_lang_Object__Z rfl) rfl (by show 2 * 0 + _ ≤ _; exact Nat.le_of_eq rfl) (Jvm.hb hby d_prog_6_method_5_30) (fun _ _ => ⟨rfl, e11, (by decide : 1 + 0 ≤ _), (by decide : 4 + 0 ≤ _)⟩)
  dsimp only [Pt.U, Pt.locs, Pt.cells, Pt.slots] at X13 l13 y13 z13 st13 hQ13
  subst l13 y13 z13
  obtain ⟨rfl, N13q, e13⟩ := hQ13
  have N13 := Fr.app N9 N13q
  obtain ⟨cl14, Ar14, -, S14, M14, H14, -⟩ := id Fq2_0
  have hin14 : ¬ ((2 : Int32) < 0 ∨ cl14.slots.size ≤ ((2 : Int32)).toNatClampNeg) := inb_of S14 ⟨by decide, by decide⟩
  have hat14 : cl14.slots[((2 : Int32)).toNatClampNeg]? = some (.ref rc) := H14.at hin14 (rfl)
  obtain ⟨T15, X15, e15, st15⟩ := getF X13 hx hZ hown (host := "") (Or.inl (hw _ (List.mem_of_getElem? (i := 81) rfl))) Via.refl e13 (I18.ext O6.2) (g := (mkF m 26 #[.val .null, .val .null, .val (.ref nw_2), .val (.int (4 : Int32)), .val (.int (2 : Int32)), .val (.ref rc)] [(.ref rc)])) rfl rfl (Jvm.hb hby d_prog_6_method_5_26)
  have Zc16 : n0 ≤ h2.size := by omega
  obtain ⟨cq17, kq17, q17a, q17b, q17c⟩ := isOf hZ e15 (I19.ext O6.2)
  obtain ⟨_, _, ⟨T17, L17, k17, n17⟩, -, X17, ⟨Lc17, hQ17, l17, y17, z17⟩, st17⟩ := X15.virtualBack hx (y := (⟨"java/lang/String", "equals", "(Ljava/lang/Object;)Z"⟩ : MethodName)) (z := (⟨"java/lang/String", "equals", "(Ljava/lang/Object;)Z"⟩ : MethodName)) hown (mvT hZ (hw _ (List.mem_of_getElem? (i := 83) rfl))) (mvT hZ (hw _ (List.mem_of_getElem? (i := 48) rfl))) (notFace_of_selects (args := #[]) (mvT hZ (hw _ (List.mem_of_getElem? (i := 50) rfl)))) (mvT hZ (hw _ (List.mem_of_getElem? (i := 50) rfl))) (mvT hZ (hw _ (List.mem_of_getElem? (i := 49) rfl))) (by decide) (backOf (W := 0) (rmSEqN l Z a0 hw [] nc h2 n0 Zc16) hZ (hw _ (List.mem_of_getElem? (i := 51) rfl)) (hw _ (List.mem_of_getElem? (i := 1) rfl)) (by decide) (by decide)) q17a q17c (g := (mkF m 30 #[.val .null, .val .null, .val (.ref nw_2), .val (.int (4 : Int32)), .val (.int (2 : Int32)), .val (.ref rc)] [.null, (.ref nc)])) rfl (by rw [hml]; rfl) (Steps.refl _) (argsL := [.null]) (rest := []) (lenOf pd__Ljava_lang_Object__Z rfl) rfl (by show 2 * 0 + _ ≤ _; exact Nat.le_of_eq rfl) (Jvm.hb hby d_prog_6_method_5_30) (fun _ _ => ⟨rfl, e15, (by decide : 1 + 0 ≤ _), (by decide : 4 + 0 ≤ _)⟩)
  dsimp only [Pt.U, Pt.locs, Pt.cells, Pt.slots] at X17 l17 y17 z17 st17 hQ17
  subst l17 y17 z17
  obtain ⟨rfl, N17q, e17⟩ := hQ17
  have N17 := Fr.app N13 N17q
  obtain ⟨cl18, Ar18, -, S18, M18, H18, -⟩ := id Fq2_0
  have hin18 : ¬ ((3 : Int32) < 0 ∨ cl18.slots.size ≤ ((3 : Int32)).toNatClampNeg) := inb_of S18 ⟨by decide, by decide⟩
  have hat18 : cl18.slots[((3 : Int32)).toNatClampNeg]? = some (.ref rd) := H18.at hin18 (rfl)
  obtain ⟨T19, X19, e19, st19⟩ := getF X17 hx hZ hown (host := "") (Or.inl (hw _ (List.mem_of_getElem? (i := 81) rfl))) Via.refl e17 (I24.ext O6.2) (g := (mkF m 26 #[.val .null, .val .null, .val (.ref nw_2), .val (.int (4 : Int32)), .val (.int (3 : Int32)), .val (.ref rd)] [(.ref rd)])) rfl rfl (Jvm.hb hby d_prog_6_method_5_26)
  have Zc20 : n0 ≤ h2.size := by omega
  obtain ⟨cq21, kq21, q21a, q21b, q21c⟩ := isOf hZ e19 (I25.ext O6.2)
  obtain ⟨_, _, ⟨T21, L21, k21, n21⟩, -, X21, ⟨Lc21, hQ21, l21, y21, z21⟩, st21⟩ := X19.virtualBack hx (y := (⟨"java/lang/String", "equals", "(Ljava/lang/Object;)Z"⟩ : MethodName)) (z := (⟨"java/lang/String", "equals", "(Ljava/lang/Object;)Z"⟩ : MethodName)) hown (mvT hZ (hw _ (List.mem_of_getElem? (i := 83) rfl))) (mvT hZ (hw _ (List.mem_of_getElem? (i := 48) rfl))) (notFace_of_selects (args := #[]) (mvT hZ (hw _ (List.mem_of_getElem? (i := 50) rfl)))) (mvT hZ (hw _ (List.mem_of_getElem? (i := 50) rfl))) (mvT hZ (hw _ (List.mem_of_getElem? (i := 49) rfl))) (by decide) (backOf (W := 0) (rmSEqN l Z a0 hw [] nx h2 n0 Zc20) hZ (hw _ (List.mem_of_getElem? (i := 51) rfl)) (hw _ (List.mem_of_getElem? (i := 1) rfl)) (by decide) (by decide)) q21a q21c (g := (mkF m 30 #[.val .null, .val .null, .val (.ref nw_2), .val (.int (4 : Int32)), .val (.int (3 : Int32)), .val (.ref rd)] [.null, (.ref nx)])) rfl (by rw [hml]; rfl) (Steps.refl _) (argsL := [.null]) (rest := []) (lenOf pd__Ljava_lang_Object__Z rfl) rfl (by show 2 * 0 + _ ≤ _; exact Nat.le_of_eq rfl) (Jvm.hb hby d_prog_6_method_5_30) (fun _ _ => ⟨rfl, e19, (by decide : 1 + 0 ≤ _), (by decide : 4 + 0 ≤ _)⟩)
  dsimp only [Pt.U, Pt.locs, Pt.cells, Pt.slots] at X21 l21 y21 z21 st21 hQ21
  subst l21 y21 z21
  obtain ⟨rfl, N21q, e21⟩ := hQ21
  have N21 := Fr.app N17 N21q
  have s22 : ∀ t_, Steps p.tables e below (T21.setTop (mkF m 49 #[.val .null, .val .null, .val (.ref nw_2), .val (.int (4 : Int32)), .val (.int (4 : Int32)), .val (.ref rd)] [.null])) t_ → Steps p.tables e below (s₁.setTop (entryFrame m #[.null] 6)) t_ := fun t_ k_ => pre0 t_ (by
    show Steps p.tables e below (s₁.setTop (mkF m 0 #[.val .null, .unset, .unset, .unset, .unset, .unset] [])) t_
    refine XS.aconstNull X0.here hx rfl (Jvm.hb hby d_prog_6_method_5_0) ?_
    refine XS.astoreN X0.here hx rfl (Jvm.hb hby d_prog_6_method_5_1) rfl rfl (l' := #[.val .null, .val .null, .unset, .unset, .unset, .unset]) rfl ?_
    refine st2 _ ?_
    show Steps p.tables e below (T2.setTop (mkF m 5 #[.val .null, .val .null, .unset, .unset, .unset, .unset] [(.ref nw_2)])) _
    refine XS.astoreN X2.here hx rfl (Jvm.hb hby d_prog_6_method_5_5) rfl rfl (l' := #[.val .null, .val .null, .val (.ref nw_2), .unset, .unset, .unset]) rfl ?_
    refine XS.aloadN X2.here hx rfl (Jvm.hb hby d_prog_6_method_5_6) rfl rfl ?_
    refine X2.arraylength hx (by rw [e2]; exact Ar4.1) (State.isArrayOf_alike hZ.alike Ar4.2.1) (g := (mkF m 7 #[.val .null, .val .null, .val (.ref nw_2), .unset, .unset, .unset] [(.ref nw_2)])) rfl rfl (Jvm.hb hby d_prog_6_method_5_7) _ ?_
    rw [len_of S4 M4]
    show Steps p.tables e below (T2.setTop (mkF m 8 #[.val .null, .val .null, .val (.ref nw_2), .unset, .unset, .unset] [(.int (4 : Int32))])) _
    refine XS.istoreN X2.here hx rfl (Jvm.hb hby d_prog_6_method_5_8) rfl (l' := #[.val .null, .val .null, .val (.ref nw_2), .val (.int (4 : Int32)), .unset, .unset]) rfl ?_
    refine XS.iconst X2.here hx rfl (Jvm.hb hby d_prog_6_method_5_9) ?_
    refine XS.istore X2.here hx rfl (Jvm.hb hby d_prog_6_method_5_10) rfl (l' := #[.val .null, .val .null, .val (.ref nw_2), .val (.int (4 : Int32)), .val (.int (0 : Int32)), .unset]) rfl ?_
    refine XS.iload X2.here hx rfl (Jvm.hb hby d_prog_6_method_5_12) rfl ?_
    refine XS.iloadN X2.here hx rfl (Jvm.hb hby d_prog_6_method_5_14) rfl ?_
    refine XS.icmpNo X2.here hx rfl (Jvm.hb hby d_prog_6_method_5_15) rfl (tlt (by decide : ((0 : Int32) < (4 : Int32)))).2.1 ?_
    show Steps p.tables e below (T2.setTop (mkF m 18 #[.val .null, .val .null, .val (.ref nw_2), .val (.int (4 : Int32)), .val (.int (0 : Int32)), .unset] [])) _
    refine XS.aloadN X2.here hx rfl (Jvm.hb hby d_prog_6_method_5_18) rfl rfl ?_
    refine XS.iload X2.here hx rfl (Jvm.hb hby d_prog_6_method_5_19) rfl ?_
    refine X2.aaload hx (j := (0 : Int32)) (v := (.ref ra)) (by rw [e2]; exact Ar5.1) (State.isArrayOf_alike hZ.alike Ar5.2.1) rfl Ar5.2.2 hin5 hat5 (g := (mkF m 21 #[.val .null, .val .null, .val (.ref nw_2), .val (.int (4 : Int32)), .val (.int (0 : Int32)), .unset] [(.int (0 : Int32)), (.ref nw_2)])) rfl rfl (Jvm.hb hby d_prog_6_method_5_21) _ ?_
    show Steps p.tables e below (T2.setTop (mkF m 22 #[.val .null, .val .null, .val (.ref nw_2), .val (.int (4 : Int32)), .val (.int (0 : Int32)), .unset] [(.ref ra)])) _
    refine XS.astore X2.here hx rfl (Jvm.hb hby d_prog_6_method_5_22) rfl rfl (l' := #[.val .null, .val .null, .val (.ref nw_2), .val (.int (4 : Int32)), .val (.int (0 : Int32)), .val (.ref ra)]) rfl ?_
    refine XS.aload X2.here hx rfl (Jvm.hb hby d_prog_6_method_5_24) rfl rfl ?_
    refine st7 _ ?_
    show Steps p.tables e below (T7.setTop (mkF m 29 #[.val .null, .val .null, .val (.ref nw_2), .val (.int (4 : Int32)), .val (.int (0 : Int32)), .val (.ref ra)] [(.ref na)])) _
    refine XS.aloadN X7.here hx rfl (Jvm.hb hby d_prog_6_method_5_29) rfl rfl ?_
    refine st9.trans ?_
    show Steps p.tables e below (T9.setTop (mkF m 33 #[.val .null, .val .null, .val (.ref nw_2), .val (.int (4 : Int32)), .val (.int (0 : Int32)), .val (.ref ra)] [(.int (0 : Int32))])) _
    refine XS.ifYes X9.here hx rfl (pc0 := 33) (pc' := 42) rfl (Jvm.hb hby d_prog_6_method_5_33) rfl ((if0 _ _).trans (teq (rfl : (0 : Int32) = (0 : Int32))).1) (by decide) (by decide) ?_
    show Steps p.tables e below (T9.setTop (mkF m 42 #[.val .null, .val .null, .val (.ref nw_2), .val (.int (4 : Int32)), .val (.int (0 : Int32)), .val (.ref ra)] [])) _
    refine XS.iinc X9.here hx rfl (Jvm.hb hby d_prog_6_method_5_42) rfl (l' := #[.val .null, .val .null, .val (.ref nw_2), .val (.int (4 : Int32)), .val (.int (1 : Int32)), .val (.ref ra)]) rfl ?_
    refine XS.goto X9.here hx rfl (pc0 := 45) (pc' := 12) rfl (Jvm.hb hby d_prog_6_method_5_45) (by decide) (by decide) ?_
    refine XS.iload X9.here hx rfl (Jvm.hb hby d_prog_6_method_5_12) rfl ?_
    refine XS.iloadN X9.here hx rfl (Jvm.hb hby d_prog_6_method_5_14) rfl ?_
    refine XS.icmpNo X9.here hx rfl (Jvm.hb hby d_prog_6_method_5_15) rfl (tlt (by decide : ((1 : Int32) < (4 : Int32)))).2.1 ?_
    show Steps p.tables e below (T9.setTop (mkF m 18 #[.val .null, .val .null, .val (.ref nw_2), .val (.int (4 : Int32)), .val (.int (1 : Int32)), .val (.ref ra)] [])) _
    refine XS.aloadN X9.here hx rfl (Jvm.hb hby d_prog_6_method_5_18) rfl rfl ?_
    refine XS.iload X9.here hx rfl (Jvm.hb hby d_prog_6_method_5_19) rfl ?_
    refine X9.aaload hx (j := (1 : Int32)) (v := (.ref rb)) (by rw [e9]; exact Ar10.1) (State.isArrayOf_alike hZ.alike Ar10.2.1) rfl Ar10.2.2 hin10 hat10 (g := (mkF m 21 #[.val .null, .val .null, .val (.ref nw_2), .val (.int (4 : Int32)), .val (.int (1 : Int32)), .val (.ref ra)] [(.int (1 : Int32)), (.ref nw_2)])) rfl rfl (Jvm.hb hby d_prog_6_method_5_21) _ ?_
    show Steps p.tables e below (T9.setTop (mkF m 22 #[.val .null, .val .null, .val (.ref nw_2), .val (.int (4 : Int32)), .val (.int (1 : Int32)), .val (.ref ra)] [(.ref rb)])) _
    refine XS.astore X9.here hx rfl (Jvm.hb hby d_prog_6_method_5_22) rfl rfl (l' := #[.val .null, .val .null, .val (.ref nw_2), .val (.int (4 : Int32)), .val (.int (1 : Int32)), .val (.ref rb)]) rfl ?_
    refine XS.aload X9.here hx rfl (Jvm.hb hby d_prog_6_method_5_24) rfl rfl ?_
    refine st11 _ ?_
    show Steps p.tables e below (T11.setTop (mkF m 29 #[.val .null, .val .null, .val (.ref nw_2), .val (.int (4 : Int32)), .val (.int (1 : Int32)), .val (.ref rb)] [(.ref nb)])) _
    refine XS.aloadN X11.here hx rfl (Jvm.hb hby d_prog_6_method_5_29) rfl rfl ?_
    refine st13.trans ?_
    show Steps p.tables e below (T13.setTop (mkF m 33 #[.val .null, .val .null, .val (.ref nw_2), .val (.int (4 : Int32)), .val (.int (1 : Int32)), .val (.ref rb)] [(.int (0 : Int32))])) _
    refine XS.ifYes X13.here hx rfl (pc0 := 33) (pc' := 42) rfl (Jvm.hb hby d_prog_6_method_5_33) rfl ((if0 _ _).trans (teq (rfl : (0 : Int32) = (0 : Int32))).1) (by decide) (by decide) ?_
    show Steps p.tables e below (T13.setTop (mkF m 42 #[.val .null, .val .null, .val (.ref nw_2), .val (.int (4 : Int32)), .val (.int (1 : Int32)), .val (.ref rb)] [])) _
    refine XS.iinc X13.here hx rfl (Jvm.hb hby d_prog_6_method_5_42) rfl (l' := #[.val .null, .val .null, .val (.ref nw_2), .val (.int (4 : Int32)), .val (.int (2 : Int32)), .val (.ref rb)]) rfl ?_
    refine XS.goto X13.here hx rfl (pc0 := 45) (pc' := 12) rfl (Jvm.hb hby d_prog_6_method_5_45) (by decide) (by decide) ?_
    refine XS.iload X13.here hx rfl (Jvm.hb hby d_prog_6_method_5_12) rfl ?_
    refine XS.iloadN X13.here hx rfl (Jvm.hb hby d_prog_6_method_5_14) rfl ?_
    refine XS.icmpNo X13.here hx rfl (Jvm.hb hby d_prog_6_method_5_15) rfl (tlt (by decide : ((2 : Int32) < (4 : Int32)))).2.1 ?_
    show Steps p.tables e below (T13.setTop (mkF m 18 #[.val .null, .val .null, .val (.ref nw_2), .val (.int (4 : Int32)), .val (.int (2 : Int32)), .val (.ref rb)] [])) _
    refine XS.aloadN X13.here hx rfl (Jvm.hb hby d_prog_6_method_5_18) rfl rfl ?_
    refine XS.iload X13.here hx rfl (Jvm.hb hby d_prog_6_method_5_19) rfl ?_
    refine X13.aaload hx (j := (2 : Int32)) (v := (.ref rc)) (by rw [e13]; exact Ar14.1) (State.isArrayOf_alike hZ.alike Ar14.2.1) rfl Ar14.2.2 hin14 hat14 (g := (mkF m 21 #[.val .null, .val .null, .val (.ref nw_2), .val (.int (4 : Int32)), .val (.int (2 : Int32)), .val (.ref rb)] [(.int (2 : Int32)), (.ref nw_2)])) rfl rfl (Jvm.hb hby d_prog_6_method_5_21) _ ?_
    show Steps p.tables e below (T13.setTop (mkF m 22 #[.val .null, .val .null, .val (.ref nw_2), .val (.int (4 : Int32)), .val (.int (2 : Int32)), .val (.ref rb)] [(.ref rc)])) _
    refine XS.astore X13.here hx rfl (Jvm.hb hby d_prog_6_method_5_22) rfl rfl (l' := #[.val .null, .val .null, .val (.ref nw_2), .val (.int (4 : Int32)), .val (.int (2 : Int32)), .val (.ref rc)]) rfl ?_
    refine XS.aload X13.here hx rfl (Jvm.hb hby d_prog_6_method_5_24) rfl rfl ?_
    refine st15 _ ?_
    show Steps p.tables e below (T15.setTop (mkF m 29 #[.val .null, .val .null, .val (.ref nw_2), .val (.int (4 : Int32)), .val (.int (2 : Int32)), .val (.ref rc)] [(.ref nc)])) _
    refine XS.aloadN X15.here hx rfl (Jvm.hb hby d_prog_6_method_5_29) rfl rfl ?_
    refine st17.trans ?_
    show Steps p.tables e below (T17.setTop (mkF m 33 #[.val .null, .val .null, .val (.ref nw_2), .val (.int (4 : Int32)), .val (.int (2 : Int32)), .val (.ref rc)] [(.int (0 : Int32))])) _
    refine XS.ifYes X17.here hx rfl (pc0 := 33) (pc' := 42) rfl (Jvm.hb hby d_prog_6_method_5_33) rfl ((if0 _ _).trans (teq (rfl : (0 : Int32) = (0 : Int32))).1) (by decide) (by decide) ?_
    show Steps p.tables e below (T17.setTop (mkF m 42 #[.val .null, .val .null, .val (.ref nw_2), .val (.int (4 : Int32)), .val (.int (2 : Int32)), .val (.ref rc)] [])) _
    refine XS.iinc X17.here hx rfl (Jvm.hb hby d_prog_6_method_5_42) rfl (l' := #[.val .null, .val .null, .val (.ref nw_2), .val (.int (4 : Int32)), .val (.int (3 : Int32)), .val (.ref rc)]) rfl ?_
    refine XS.goto X17.here hx rfl (pc0 := 45) (pc' := 12) rfl (Jvm.hb hby d_prog_6_method_5_45) (by decide) (by decide) ?_
    refine XS.iload X17.here hx rfl (Jvm.hb hby d_prog_6_method_5_12) rfl ?_
    refine XS.iloadN X17.here hx rfl (Jvm.hb hby d_prog_6_method_5_14) rfl ?_
    refine XS.icmpNo X17.here hx rfl (Jvm.hb hby d_prog_6_method_5_15) rfl (tlt (by decide : ((3 : Int32) < (4 : Int32)))).2.1 ?_
    show Steps p.tables e below (T17.setTop (mkF m 18 #[.val .null, .val .null, .val (.ref nw_2), .val (.int (4 : Int32)), .val (.int (3 : Int32)), .val (.ref rc)] [])) _
    refine XS.aloadN X17.here hx rfl (Jvm.hb hby d_prog_6_method_5_18) rfl rfl ?_
    refine XS.iload X17.here hx rfl (Jvm.hb hby d_prog_6_method_5_19) rfl ?_
    refine X17.aaload hx (j := (3 : Int32)) (v := (.ref rd)) (by rw [e17]; exact Ar18.1) (State.isArrayOf_alike hZ.alike Ar18.2.1) rfl Ar18.2.2 hin18 hat18 (g := (mkF m 21 #[.val .null, .val .null, .val (.ref nw_2), .val (.int (4 : Int32)), .val (.int (3 : Int32)), .val (.ref rc)] [(.int (3 : Int32)), (.ref nw_2)])) rfl rfl (Jvm.hb hby d_prog_6_method_5_21) _ ?_
    show Steps p.tables e below (T17.setTop (mkF m 22 #[.val .null, .val .null, .val (.ref nw_2), .val (.int (4 : Int32)), .val (.int (3 : Int32)), .val (.ref rc)] [(.ref rd)])) _
    refine XS.astore X17.here hx rfl (Jvm.hb hby d_prog_6_method_5_22) rfl rfl (l' := #[.val .null, .val .null, .val (.ref nw_2), .val (.int (4 : Int32)), .val (.int (3 : Int32)), .val (.ref rd)]) rfl ?_
    refine XS.aload X17.here hx rfl (Jvm.hb hby d_prog_6_method_5_24) rfl rfl ?_
    refine st19 _ ?_
    show Steps p.tables e below (T19.setTop (mkF m 29 #[.val .null, .val .null, .val (.ref nw_2), .val (.int (4 : Int32)), .val (.int (3 : Int32)), .val (.ref rd)] [(.ref nx)])) _
    refine XS.aloadN X19.here hx rfl (Jvm.hb hby d_prog_6_method_5_29) rfl rfl ?_
    refine st21.trans ?_
    show Steps p.tables e below (T21.setTop (mkF m 33 #[.val .null, .val .null, .val (.ref nw_2), .val (.int (4 : Int32)), .val (.int (3 : Int32)), .val (.ref rd)] [(.int (0 : Int32))])) _
    refine XS.ifYes X21.here hx rfl (pc0 := 33) (pc' := 42) rfl (Jvm.hb hby d_prog_6_method_5_33) rfl ((if0 _ _).trans (teq (rfl : (0 : Int32) = (0 : Int32))).1) (by decide) (by decide) ?_
    show Steps p.tables e below (T21.setTop (mkF m 42 #[.val .null, .val .null, .val (.ref nw_2), .val (.int (4 : Int32)), .val (.int (3 : Int32)), .val (.ref rd)] [])) _
    refine XS.iinc X21.here hx rfl (Jvm.hb hby d_prog_6_method_5_42) rfl (l' := #[.val .null, .val .null, .val (.ref nw_2), .val (.int (4 : Int32)), .val (.int (4 : Int32)), .val (.ref rd)]) rfl ?_
    refine XS.goto X21.here hx rfl (pc0 := 45) (pc' := 12) rfl (Jvm.hb hby d_prog_6_method_5_45) (by decide) (by decide) ?_
    refine XS.iload X21.here hx rfl (Jvm.hb hby d_prog_6_method_5_12) rfl ?_
    refine XS.iloadN X21.here hx rfl (Jvm.hb hby d_prog_6_method_5_14) rfl ?_
    refine XS.icmpYes X21.here hx rfl (pc0 := 15) (pc' := 48) rfl (Jvm.hb hby d_prog_6_method_5_15) rfl (flt (by decide : ¬ ((4 : Int32) < (4 : Int32)))).2.1 (by decide) (by decide) ?_
    show Steps p.tables e below (T21.setTop (mkF m 48 #[.val .null, .val .null, .val (.ref nw_2), .val (.int (4 : Int32)), .val (.int (4 : Int32)), .val (.ref rd)] [])) _
    refine XS.aloadN X21.here hx rfl (Jvm.hb hby d_prog_6_method_5_48) rfl rfl ?_
    show Steps p.tables e below (T21.setTop (mkF m 49 #[.val .null, .val .null, .val (.ref nw_2), .val (.int (4 : Int32)), .val (.int (4 : Int32)), .val (.ref rd)] [.null])) t_
    exact k_)
  obtain ⟨fs, hr, hrun, hended, hW, hsame⟩ := X21.leave (v := some .null) (fun h => by rw [Bd.returns] at h; cases h)
  refine ⟨_, _, s22 _ ?_, hrun, hended, _, _, rfl, ?_, ⟨_, rfl⟩, hW, hsame.mono (by decide) (by decide)⟩
  · show Steps p.tables e below (T21.setTop (mkF m 49 #[.val .null, .val .null, .val (.ref nw_2), .val (.int (4 : Int32)), .val (.int (4 : Int32)), .val (.ref rd)] [.null])) _
    jvm_step X21.here [X21.here.top, hx, (Jvm.hb hby d_prog_6_method_5_49), X21.method', Bd.returns, Value.isRef, FieldType.isReference]
    first | (intro acts; rw [hr _ acts rfl rfl rfl]) | rw [hr _ _ rfl rfl rfl]
    exact Steps.refl _
  · show Q_rmFromN Z _ _ _ _ _ _ _ _ _ _ _ _ _ _ _ _ _ _ _ h0 n0 _ T21.heap _
    rw [e21]
    exact ⟨rfl, N21, ((Keep.refl h0 []).trans K2 all0)⟩
theorem pn_com_example_coyote_hill_coyotehill_ItemStateFromNamePinLaw : plainName "com/example/coyote_hill/coyotehill/ItemStateFromNamePinLaw" = true := by first | (simp [plainName, overriddenIn]; done) | decide +kernel
theorem d_method_5_0 : decode method_5_code 0 = .ok (.aload_n 0, 1) := by decide +kernel
theorem d_method_5_1 : decode method_5_code 1 = .ok (.ifnonnull 5, 3) := by decide +kernel
theorem d_method_5_6 : decode method_5_code 6 = .ok (.aload_n 0, 1) := by decide +kernel
theorem d_method_5_7 : decode method_5_code 7 = .ok (.ldc 7, 2) := by decide +kernel
theorem d_method_5_9 : decode method_5_code 9 = .ok (.invokevirtual 67, 3) := by decide +kernel
theorem d_method_5_12 : decode method_5_code 12 = .ok (.ifCond .eq 7, 3) := by decide +kernel
theorem d_method_5_15 : decode method_5_code 15 = .ok (.getstatic 9, 3) := by decide +kernel
theorem d_method_5_18 : decode method_5_code 18 = .ok (.areturn, 1) := by decide +kernel
theorem d_method_5_19 : decode method_5_code 19 = .ok (.aload_n 0, 1) := by decide +kernel
theorem d_method_5_20 : decode method_5_code 20 = .ok (.ldc 15, 2) := by decide +kernel
theorem d_method_5_22 : decode method_5_code 22 = .ok (.invokevirtual 67, 3) := by decide +kernel
theorem d_method_5_25 : decode method_5_code 25 = .ok (.ifCond .eq 7, 3) := by decide +kernel
theorem d_method_5_28 : decode method_5_code 28 = .ok (.getstatic 17, 3) := by decide +kernel
theorem d_method_5_31 : decode method_5_code 31 = .ok (.areturn, 1) := by decide +kernel
theorem d_method_5_32 : decode method_5_code 32 = .ok (.aload_n 0, 1) := by decide +kernel
theorem d_method_5_33 : decode method_5_code 33 = .ok (.ldc 20, 2) := by decide +kernel
theorem d_method_5_35 : decode method_5_code 35 = .ok (.invokevirtual 67, 3) := by decide +kernel
theorem d_method_5_38 : decode method_5_code 38 = .ok (.ifCond .eq 7, 3) := by decide +kernel
theorem d_method_5_41 : decode method_5_code 41 = .ok (.getstatic 22, 3) := by decide +kernel
theorem d_method_5_44 : decode method_5_code 44 = .ok (.areturn, 1) := by decide +kernel
theorem d_method_5_45 : decode method_5_code 45 = .ok (.aload_n 0, 1) := by decide +kernel
theorem d_method_5_46 : decode method_5_code 46 = .ok (.ldc 25, 2) := by decide +kernel
theorem d_method_5_48 : decode method_5_code 48 = .ok (.invokevirtual 67, 3) := by decide +kernel
theorem d_method_5_51 : decode method_5_code 51 = .ok (.ifCond .eq 7, 3) := by decide +kernel
theorem d_method_5_54 : decode method_5_code 54 = .ok (.getstatic 27, 3) := by decide +kernel
theorem d_method_5_57 : decode method_5_code 57 = .ok (.areturn, 1) := by decide +kernel
theorem d_method_5_58 : decode method_5_code 58 = .ok (.aconst_null, 1) := by decide +kernel
theorem d_method_5_59 : decode method_5_code 59 = .ok (.areturn, 1) := by decide +kernel
theorem ef_rmExp (m : MethodId) (x0 : Addr) : entryFrame m #[(.ref x0)] 1 = mkF m 0 #[.val (.ref x0)] [] := by first | (simp [entryFrame, mkF, argsToLocals, Value.category]; done) | rfl
def Q_rmExp (Z : State) (sx : Addr) (cst : Int32) (bs : Addr) (ks : ClassId) (cs : List Int32) (ra : Addr) (rb : Addr) (rc : Addr) (rd : Addr) (h0 : Heap) (n0 : Nat) (v : Option Value) (h : Heap) (L : List Loc) : Prop := (v = some (own_from cs ra rb rc rd)) ∧ (Fr n0 L) ∧ (Keep h0 h [])
set_option maxRecDepth 65536 in
set_option maxHeartbeats 40000000 in
theorem rmExp (l : Launch) (Z : State) (a0 : Array Value) (hw : ∀ d ∈ tables_1, d.before a0 Z = true) (ws : List Jvm.Cond) (sx : Addr) (cst : Int32) (bs : Addr) (ks : ClassId) (cs : List Int32) (ra : Addr) (rb : Addr) (rc : Addr) (rd : Addr) (h0 : Heap) (n0 : Nat) (Z0 : n0 ≤ h0.size) (I1 : Sta Z Z.heap "java/lang/String" "COMPACT_STRINGS" "Z" (.int cst)) (OX : Old Z n0 h0) (hcst : ¬ (cst = (0 : Int32))) (I2 : Sta Z Z.heap "com/example/coyote_hill/coyotehill/ItemState" "READY" "Lcom/example/coyote_hill/coyotehill/ItemState;" (.ref ra)) (I3 : Sta Z Z.heap "com/example/coyote_hill/coyotehill/ItemState" "LEASED" "Lcom/example/coyote_hill/coyotehill/ItemState;" (.ref rb)) (I4 : Sta Z Z.heap "com/example/coyote_hill/coyotehill/ItemState" "DONE" "Lcom/example/coyote_hill/coyotehill/ItemState;" (.ref rc)) (I5 : Sta Z Z.heap "com/example/coyote_hill/coyotehill/ItemState" "FAILED" "Lcom/example/coyote_hill/coyotehill/ItemState;" (.ref rd)) (I6 : Exa Z h0 sx "java/lang/String") (I7 : Fld Z h0 sx "java/lang/String" "value" "[B" (.ref bs)) (I8 : Fld Z h0 sx "java/lang/String" "coder" "B" (.int (own_cod cs))) (I9 : Arv Z h0 bs ks .byte (Int32.ofNat (own_enl cs)) (own_enc cs) (.int (0 : Int32))) (hch : own_chs cs) (hbl : cs.length ≤ 7) :
    MetFree l (⟨"com/example/coyote_hill/coyotehill/ItemStateFromNamePinLaw", "expected", "(Ljava/lang/String;)Lcom/example/coyote_hill/coyotehill/ItemState;"⟩ : MethodName) (head1 (Jvm.Cond.code (⟨"com/example/coyote_hill/coyotehill/ItemStateFromNamePinLaw", "expected", "(Ljava/lang/String;)Lcom/example/coyote_hill/coyotehill/ItemState;"⟩ : MethodName) method_5_code 1 (some (.object "com/example/coyote_hill/coyotehill/ItemState")) :: ws) ({ frames := 2, cells := 8, slots := 100, locals := 28 } : Room)) (fun ar_ U => ar_ = #[(.ref sx)] ∧ Z.Warmed39 U.vm ∧ U.heap = h0 ∧ CHv Z ELs U.vm h0) (fun _ _ _ _ _ => True) (fun _ U oc_ U' => ∃ v L, oc_ = .returned v ∧ Q_rmExp Z sx cst bs ks cs ra rb rc rd h0 n0 v U'.heap L ∧ CHr Z ELs U.vm U.heap U'.vm U'.heap ∧ ReturnedEndW U oc_ U' L ({ frames := 2, cells := 8, slots := 100, locals := 28 } : Room).cells ({ frames := 2, cells := 8, slots := 100, locals := 28 } : Room).slots) := by
  refine MetFree.of_bodySF (plainFor_of_name pn_com_example_coyote_hill_coyotehill_ItemStateFromNamePinLaw) hisR ?_
  intro p e s m args below meth c s₁ Bd hml0 hP hK
  obtain ⟨rfl, hZ, hh, hCH⟩ := hP
  have hx := Bd.exec
  have hby := Bd.bytes
  have hml : c.maxLocals = 1 := hml0
  have hown : s.vm.findClass "com/example/coyote_hill/coyotehill/ItemStateFromNamePinLaw" = some m.cls := findClass_of_methodNamed Bd.named
  have hnm := (name_of_methodNamed Bd.named Bd.method).1
  have X0 : Stand p l e ({ frames := 2, cells := 8, slots := 100, locals := 28 } : Room) (s.setVm s.vm) m #[(.ref sx)] below meth c s₁ [] 0 0 := Stand.of_body Bd
  have e0 : s₁.heap = h0 := by rw [← hh, Bd.state]; rfl
  have N0 := Fr.nil n0
  have pre0 : ∀ t_, Steps p.tables e below (s₁.setTop (mkF m 0 #[.val (.ref sx)] [])) t_ → Steps p.tables e below (s₁.setTop (entryFrame m #[(.ref sx)] 1)) t_ := fun t_ k_ => castTop (ef_rmExp m sx) k_
  have hEL : EW Z a0 ELs := own_EW hw
  have wS : ∀ a ∈ Bundle.stringAtoms, a.before a0 Z = true := own_wS hw
  have hS : s.Since s.vm s.heap.size := (State.WarmedH.refl s).since _
  have hk : s.heap.size ≤ h0.size := by rw [hh]; exact Nat.le_refl _
  have CR : CHr Z ELs s.vm h0 s.vm h0 := CHr.refl hCH
  have lt_I6 : @LT.lt Nat _ sx h0.size := I6.lt
  have lt_I7 : @LT.lt Nat _ sx h0.size := I7.lt
  have lt_I8 : @LT.lt Nat _ sx h0.size := I8.lt
  have lt_I9 : @LT.lt Nat _ bs h0.size := I9.lt
  have s2 : ∀ t_, Steps p.tables e below (s₁.setTop (mkF m 7 #[.val (.ref sx)] [(.ref sx)])) t_ → Steps p.tables e below (s₁.setTop (entryFrame m #[(.ref sx)] 1)) t_ := fun t_ k_ => pre0 t_ (by
    show Steps p.tables e below (s₁.setTop (mkF m 0 #[.val (.ref sx)] [])) t_
    refine XS.aloadN X0.here hx rfl (Jvm.hb hby d_method_5_0) rfl rfl ?_
    refine XS.ifnonnullYes X0.here hx rfl (pc0 := 1) (pc' := 6) rfl (Jvm.hb hby d_method_5_1) rfl (by decide) (by decide) ?_
    show Steps p.tables e below (s₁.setTop (mkF m 6 #[.val (.ref sx)] [])) _
    refine XS.aloadN X0.here hx rfl (Jvm.hb hby d_method_5_6) rfl rfl ?_
    show Steps p.tables e below (s₁.setTop (mkF m 7 #[.val (.ref sx)] [(.ref sx)])) t_
    exact k_)
  obtain ⟨a1, T1, h1, k1, b1, kk1, X1, e1, E1, hS, hk, hZ, hown, Ex1, Fc1, Fv1, Av1, la1, lb1, Cp1, Li1, Sa1, st1⟩ := ldcCH X0 hx hZ hown (hw _ (List.mem_of_getElem? (i := 0) rfl)) wS e0 hS hk hEL (List.mem_of_getElem? (i := 0) rfl) CR.1 (vs := [(.int (114 : Int32)), (.int (101 : Int32)), (.int (97 : Int32)), (.int (100 : Int32)), (.int (121 : Int32))]) (z := (5 : Int32)) ⟨by decide, by decide⟩ (by decide) rfl (g := (mkF m 7 #[.val (.ref sx)] [(.ref sx)])) rfl (Jvm.hb hby d_method_5_7) (n := 20) (by decide) (by decide) (by decide) (by decide)
  have z3 : h0.size ≤ h1.size := E1.1
  have CR := CR.trans Cp1
  have la1 : @LT.lt Nat _ a1 h1.size := la1
  have lb1 : @LT.lt Nat _ b1 h1.size := lb1
  have Fc4 : Fld Z h1 a1 "java/lang/String" "coder" "B" (.int (own_cod (own_nm 0))) := Fc1
  have Av4 : Arv Z h1 b1 kk1 .byte (Int32.ofNat (own_enl (own_nm 0))) (own_enc (own_nm 0)) (.int (0 : Int32)) := own_lit0 Av1
  have O5 : Old Z n0 h1 := (OX.ext E1)
  have f6 : Exa Z h1 sx "java/lang/String" := (I6.ext E1)
  have f7 : Fld Z h1 sx "java/lang/String" "value" "[B" (.ref bs) := (I7.ext E1)
  have f8 : Fld Z h1 sx "java/lang/String" "coder" "B" (.int (own_cod cs)) := (I8.ext E1)
  have f9 : Arv Z h1 bs ks .byte (Int32.ofNat (own_enl cs)) (own_enc cs) (.int (0 : Int32)) := (I9.ext E1)
  have Zc10 : n0 ≤ h1.size := by omega
  obtain ⟨cq11, kq11, q11a, q11b, q11c⟩ := isOf hZ e1 f6
  obtain ⟨_, _, ⟨T11, L11, k11, n11⟩, -, X11, ⟨Lc11, hQ11, l11, y11, z11⟩, st11⟩ := X1.virtualBack hx (y := (⟨"java/lang/String", "equals", "(Ljava/lang/Object;)Z"⟩ : MethodName)) (z := (⟨"java/lang/String", "equals", "(Ljava/lang/Object;)Z"⟩ : MethodName)) hown (mvT hZ (hw _ (List.mem_of_getElem? (i := 47) rfl))) (mvT hZ (hw _ (List.mem_of_getElem? (i := 48) rfl))) (notFace_of_selects (args := #[]) (mvT hZ (hw _ (List.mem_of_getElem? (i := 50) rfl)))) (mvT hZ (hw _ (List.mem_of_getElem? (i := 50) rfl))) (mvT hZ (hw _ (List.mem_of_getElem? (i := 49) rfl))) (by decide) (backOf (W := 0) (rmSEqG l Z a0 hw [] sx a1 cst bs ks cs b1 kk1 (own_nm 0) h1 n0 Zc10 I1 O5 (hcst : ¬ (cst = (0 : Int32))) f6 f7 f8 f9 Ex1 Fv1 Fc4 Av4 hch (own_nmchs _) hbl (own_nml _)) hZ (hw _ (List.mem_of_getElem? (i := 51) rfl)) (hw _ (List.mem_of_getElem? (i := 1) rfl)) (by decide) (by decide)) q11a q11c (g := (mkF m 9 #[.val (.ref sx)] [(.ref a1), (.ref sx)])) rfl (by rw [hml]; rfl) (Steps.refl _) (argsL := [(.ref a1)]) (rest := []) (lenOf pd__Ljava_lang_Object__Z rfl) rfl (by show 2 * 0 + _ ≤ _; exact Nat.le_of_eq rfl) (Jvm.hb hby d_method_5_9) (fun _ _ => ⟨rfl, e1, (by decide : 2 + 0 ≤ _), (by decide : 24 + 0 ≤ _)⟩)
  dsimp only [Pt.U, Pt.locs, Pt.cells, Pt.slots] at X11 l11 y11 z11 st11 hQ11
  subst l11 y11 z11
  obtain ⟨rfl, N11q, e11⟩ := hQ11
  have N11 := Fr.app N0 N11q
  have s12 : ∀ t_, Steps p.tables e below (T11.setTop (mkF m 12 #[.val (.ref sx)] [(.int (if cs = (own_nm 0) then (1 : Int32) else (0 : Int32)))])) t_ → Steps p.tables e below (s₁.setTop (entryFrame m #[(.ref sx)] 1)) t_ := fun t_ k_ => s2 t_ (by
    show Steps p.tables e below (s₁.setTop (mkF m 7 #[.val (.ref sx)] [(.ref sx)])) t_
    refine st1 _ ?_
    show Steps p.tables e below (T1.setTop (mkF m 9 #[.val (.ref sx)] [(.ref a1), (.ref sx)])) _
    refine st11.trans ?_
    show Steps p.tables e below (T11.setTop (mkF m 12 #[.val (.ref sx)] [(.int (if cs = (own_nm 0) then (1 : Int32) else (0 : Int32)))])) _
    show Steps p.tables e below (T11.setTop (mkF m 12 #[.val (.ref sx)] [(.int (if cs = (own_nm 0) then (1 : Int32) else (0 : Int32)))])) t_
    exact k_)
  by_cases h13 : cs = (own_nm 0)
  · have s14 : ∀ t_, Steps p.tables e below (T11.setTop (mkF m 12 #[.val (.ref sx)] [(.int (1 : Int32))])) t_ → Steps p.tables e below (s₁.setTop (entryFrame m #[(.ref sx)] 1)) t_ := fun t_ k_ => s12 t_ (castTop (by simp only [if_pos h13]) k_)
    obtain ⟨T15, X15, e15, st15⟩ := getS2 X11 hx hZ hown (host := "") (Or.inl (hw _ (List.mem_of_getElem? (i := 8) rfl))) Via.refl e11 (I2.ext O5.2) (g := (mkF m 15 #[.val (.ref sx)] [])) rfl (Jvm.hb hby d_method_5_15)
    have s16 : ∀ t_, Steps p.tables e below (T15.setTop (mkF m 18 #[.val (.ref sx)] [(.ref ra)])) t_ → Steps p.tables e below (s₁.setTop (entryFrame m #[(.ref sx)] 1)) t_ := fun t_ k_ => s14 t_ (by
      show Steps p.tables e below (T11.setTop (mkF m 12 #[.val (.ref sx)] [(.int (1 : Int32))])) t_
      refine XS.ifNo X11.here hx rfl (Jvm.hb hby d_method_5_12) rfl ((if0 _ _).trans (feq (by decide : ¬ ((1 : Int32) = (0 : Int32)))).1) ?_
      show Steps p.tables e below (T11.setTop (mkF m 15 #[.val (.ref sx)] [])) _
      refine st15 _ ?_
      show Steps p.tables e below (T15.setTop (mkF m 18 #[.val (.ref sx)] [(.ref ra)])) _
      show Steps p.tables e below (T15.setTop (mkF m 18 #[.val (.ref sx)] [(.ref ra)])) t_
      exact k_)
    obtain ⟨fs, hr, hrun, hended, hREW⟩ := X15.leaveW hS (by first | exact Nat.le_refl _ | (rw [e15]; exact hk)) (v := some (.ref ra)) (fun h => by rw [Bd.returns] at h; cases h)
    refine ⟨_, _, s16 _ ?_, hrun, hended, _, _, rfl, ?_, (by show CHr Z ELs s.vm s.heap T15.vm T15.heap; rw [hh, e15]; exact CR.trans (CHv.at X15 hZ hEL CR.1)), hREW.1, hREW.2.1, hREW.2.2.1, hREW.2.2.2.mono (by decide) (by decide)⟩
    · show Steps p.tables e below (T15.setTop (mkF m 18 #[.val (.ref sx)] [(.ref ra)])) _
      jvm_step X15.here [X15.here.top, hx, (Jvm.hb hby d_method_5_18), X15.method', Bd.returns, Value.isRef, FieldType.isReference]
      first | (intro acts; rw [hr _ acts rfl rfl rfl]) | rw [hr _ _ rfl rfl rfl]
      exact Steps.refl _
    · show Q_rmExp Z _ _ _ _ _ _ _ _ _ h0 n0 _ T15.heap _
      rw [e15]
      exact ⟨(by rw [own_from, if_pos h13]), N11, ((Keep.refl h0 []).ext E1)⟩
  · have s17 : ∀ t_, Steps p.tables e below (T11.setTop (mkF m 12 #[.val (.ref sx)] [(.int (0 : Int32))])) t_ → Steps p.tables e below (s₁.setTop (entryFrame m #[(.ref sx)] 1)) t_ := fun t_ k_ => s12 t_ (castTop (by simp only [if_neg h13]) k_)
    have s19 : ∀ t_, Steps p.tables e below (T11.setTop (mkF m 20 #[.val (.ref sx)] [(.ref sx)])) t_ → Steps p.tables e below (s₁.setTop (entryFrame m #[(.ref sx)] 1)) t_ := fun t_ k_ => s17 t_ (by
      show Steps p.tables e below (T11.setTop (mkF m 12 #[.val (.ref sx)] [(.int (0 : Int32))])) t_
      refine XS.ifYes X11.here hx rfl (pc0 := 12) (pc' := 19) rfl (Jvm.hb hby d_method_5_12) rfl ((if0 _ _).trans (teq (rfl : (0 : Int32) = (0 : Int32))).1) (by decide) (by decide) ?_
      show Steps p.tables e below (T11.setTop (mkF m 19 #[.val (.ref sx)] [])) _
      refine XS.aloadN X11.here hx rfl (Jvm.hb hby d_method_5_19) rfl rfl ?_
      show Steps p.tables e below (T11.setTop (mkF m 20 #[.val (.ref sx)] [(.ref sx)])) t_
      exact k_)
    obtain ⟨a18, T18, h18, k18, b18, kk18, X18, e18, E18, hS, hk, hZ, hown, Ex18, Fc18, Fv18, Av18, la18, lb18, Cp18, Li18, Sa18, st18⟩ := ldcCH X11 hx hZ hown (hw _ (List.mem_of_getElem? (i := 57) rfl)) wS e11 hS hk hEL (List.mem_of_getElem? (i := 1) rfl) CR.1 (vs := [(.int (108 : Int32)), (.int (101 : Int32)), (.int (97 : Int32)), (.int (115 : Int32)), (.int (101 : Int32)), (.int (100 : Int32))]) (z := (6 : Int32)) ⟨by decide, by decide⟩ (by decide) rfl (g := (mkF m 20 #[.val (.ref sx)] [(.ref sx)])) rfl (Jvm.hb hby d_method_5_20) (n := 24) (by decide) (by decide) (by decide) (by decide)
    have z20 : h1.size ≤ h18.size := E18.1
    have CR := CR.trans Cp18
    have la18 : @LT.lt Nat _ a18 h18.size := la18
    have lb18 : @LT.lt Nat _ b18 h18.size := lb18
    have Fc21 : Fld Z h18 a18 "java/lang/String" "coder" "B" (.int (own_cod (own_nm 1))) := Fc18
    have Av21 : Arv Z h18 b18 kk18 .byte (Int32.ofNat (own_enl (own_nm 1))) (own_enc (own_nm 1)) (.int (0 : Int32)) := own_lit1 Av18
    have O22 : Old Z n0 h18 := (O5.ext E18)
    have f23 : Exa Z h18 sx "java/lang/String" := (f6.ext E18)
    have f24 : Fld Z h18 sx "java/lang/String" "value" "[B" (.ref bs) := (f7.ext E18)
    have f25 : Fld Z h18 sx "java/lang/String" "coder" "B" (.int (own_cod cs)) := (f8.ext E18)
    have f26 : Arv Z h18 bs ks .byte (Int32.ofNat (own_enl cs)) (own_enc cs) (.int (0 : Int32)) := (f9.ext E18)
    have Zc27 : n0 ≤ h18.size := by omega
    obtain ⟨cq28, kq28, q28a, q28b, q28c⟩ := isOf hZ e18 f23
    obtain ⟨_, _, ⟨T28, L28, k28, n28⟩, -, X28, ⟨Lc28, hQ28, l28, y28, z28⟩, st28⟩ := X18.virtualBack hx (y := (⟨"java/lang/String", "equals", "(Ljava/lang/Object;)Z"⟩ : MethodName)) (z := (⟨"java/lang/String", "equals", "(Ljava/lang/Object;)Z"⟩ : MethodName)) hown (mvT hZ (hw _ (List.mem_of_getElem? (i := 47) rfl))) (mvT hZ (hw _ (List.mem_of_getElem? (i := 48) rfl))) (notFace_of_selects (args := #[]) (mvT hZ (hw _ (List.mem_of_getElem? (i := 50) rfl)))) (mvT hZ (hw _ (List.mem_of_getElem? (i := 50) rfl))) (mvT hZ (hw _ (List.mem_of_getElem? (i := 49) rfl))) (by decide) (backOf (W := 0) (rmSEqG l Z a0 hw [] sx a18 cst bs ks cs b18 kk18 (own_nm 1) h18 n0 Zc27 I1 O22 (hcst : ¬ (cst = (0 : Int32))) f23 f24 f25 f26 Ex18 Fv18 Fc21 Av21 hch (own_nmchs _) hbl (own_nml _)) hZ (hw _ (List.mem_of_getElem? (i := 51) rfl)) (hw _ (List.mem_of_getElem? (i := 1) rfl)) (by decide) (by decide)) q28a q28c (g := (mkF m 22 #[.val (.ref sx)] [(.ref a18), (.ref sx)])) rfl (by rw [hml]; rfl) (Steps.refl _) (argsL := [(.ref a18)]) (rest := []) (lenOf pd__Ljava_lang_Object__Z rfl) rfl (by show 2 * 0 + _ ≤ _; exact Nat.le_of_eq rfl) (Jvm.hb hby d_method_5_22) (fun _ _ => ⟨rfl, e18, (by decide : 4 + 0 ≤ _), (by decide : 52 + 0 ≤ _)⟩)
    dsimp only [Pt.U, Pt.locs, Pt.cells, Pt.slots] at X28 l28 y28 z28 st28 hQ28
    subst l28 y28 z28
    obtain ⟨rfl, N28q, e28⟩ := hQ28
    have N28 := Fr.app N11 N28q
    have s29 : ∀ t_, Steps p.tables e below (T28.setTop (mkF m 25 #[.val (.ref sx)] [(.int (if cs = (own_nm 1) then (1 : Int32) else (0 : Int32)))])) t_ → Steps p.tables e below (s₁.setTop (entryFrame m #[(.ref sx)] 1)) t_ := fun t_ k_ => s19 t_ (by
      show Steps p.tables e below (T11.setTop (mkF m 20 #[.val (.ref sx)] [(.ref sx)])) t_
      refine st18 _ ?_
      show Steps p.tables e below (T18.setTop (mkF m 22 #[.val (.ref sx)] [(.ref a18), (.ref sx)])) _
      refine st28.trans ?_
      show Steps p.tables e below (T28.setTop (mkF m 25 #[.val (.ref sx)] [(.int (if cs = (own_nm 1) then (1 : Int32) else (0 : Int32)))])) _
      show Steps p.tables e below (T28.setTop (mkF m 25 #[.val (.ref sx)] [(.int (if cs = (own_nm 1) then (1 : Int32) else (0 : Int32)))])) t_
      exact k_)
    by_cases h30 : cs = (own_nm 1)
    · have s31 : ∀ t_, Steps p.tables e below (T28.setTop (mkF m 25 #[.val (.ref sx)] [(.int (1 : Int32))])) t_ → Steps p.tables e below (s₁.setTop (entryFrame m #[(.ref sx)] 1)) t_ := fun t_ k_ => s29 t_ (castTop (by simp only [if_pos h30]) k_)
      obtain ⟨T32, X32, e32, st32⟩ := getS2 X28 hx hZ hown (host := "") (Or.inl (hw _ (List.mem_of_getElem? (i := 91) rfl))) Via.refl e28 (I3.ext O22.2) (g := (mkF m 28 #[.val (.ref sx)] [])) rfl (Jvm.hb hby d_method_5_28)
      have s33 : ∀ t_, Steps p.tables e below (T32.setTop (mkF m 31 #[.val (.ref sx)] [(.ref rb)])) t_ → Steps p.tables e below (s₁.setTop (entryFrame m #[(.ref sx)] 1)) t_ := fun t_ k_ => s31 t_ (by
        show Steps p.tables e below (T28.setTop (mkF m 25 #[.val (.ref sx)] [(.int (1 : Int32))])) t_
        refine XS.ifNo X28.here hx rfl (Jvm.hb hby d_method_5_25) rfl ((if0 _ _).trans (feq (by decide : ¬ ((1 : Int32) = (0 : Int32)))).1) ?_
        show Steps p.tables e below (T28.setTop (mkF m 28 #[.val (.ref sx)] [])) _
        refine st32 _ ?_
        show Steps p.tables e below (T32.setTop (mkF m 31 #[.val (.ref sx)] [(.ref rb)])) _
        show Steps p.tables e below (T32.setTop (mkF m 31 #[.val (.ref sx)] [(.ref rb)])) t_
        exact k_)
      obtain ⟨fs, hr, hrun, hended, hREW⟩ := X32.leaveW hS (by first | exact Nat.le_refl _ | (rw [e32]; exact hk)) (v := some (.ref rb)) (fun h => by rw [Bd.returns] at h; cases h)
      refine ⟨_, _, s33 _ ?_, hrun, hended, _, _, rfl, ?_, (by show CHr Z ELs s.vm s.heap T32.vm T32.heap; rw [hh, e32]; exact CR.trans (CHv.at X32 hZ hEL CR.1)), hREW.1, hREW.2.1, hREW.2.2.1, hREW.2.2.2.mono (by decide) (by decide)⟩
      · show Steps p.tables e below (T32.setTop (mkF m 31 #[.val (.ref sx)] [(.ref rb)])) _
        jvm_step X32.here [X32.here.top, hx, (Jvm.hb hby d_method_5_31), X32.method', Bd.returns, Value.isRef, FieldType.isReference]
        first | (intro acts; rw [hr _ acts rfl rfl rfl]) | rw [hr _ _ rfl rfl rfl]
        exact Steps.refl _
      · show Q_rmExp Z _ _ _ _ _ _ _ _ _ h0 n0 _ T32.heap _
        rw [e32]
        exact ⟨(by rw [own_from, if_neg h13, if_pos h30]), N28, (((Keep.refl h0 []).ext E1).ext E18)⟩
    · have s34 : ∀ t_, Steps p.tables e below (T28.setTop (mkF m 25 #[.val (.ref sx)] [(.int (0 : Int32))])) t_ → Steps p.tables e below (s₁.setTop (entryFrame m #[(.ref sx)] 1)) t_ := fun t_ k_ => s29 t_ (castTop (by simp only [if_neg h30]) k_)
      have s36 : ∀ t_, Steps p.tables e below (T28.setTop (mkF m 33 #[.val (.ref sx)] [(.ref sx)])) t_ → Steps p.tables e below (s₁.setTop (entryFrame m #[(.ref sx)] 1)) t_ := fun t_ k_ => s34 t_ (by
        show Steps p.tables e below (T28.setTop (mkF m 25 #[.val (.ref sx)] [(.int (0 : Int32))])) t_
        refine XS.ifYes X28.here hx rfl (pc0 := 25) (pc' := 32) rfl (Jvm.hb hby d_method_5_25) rfl ((if0 _ _).trans (teq (rfl : (0 : Int32) = (0 : Int32))).1) (by decide) (by decide) ?_
        show Steps p.tables e below (T28.setTop (mkF m 32 #[.val (.ref sx)] [])) _
        refine XS.aloadN X28.here hx rfl (Jvm.hb hby d_method_5_32) rfl rfl ?_
        show Steps p.tables e below (T28.setTop (mkF m 33 #[.val (.ref sx)] [(.ref sx)])) t_
        exact k_)
      obtain ⟨a35, T35, h35, k35, b35, kk35, X35, e35, E35, hS, hk, hZ, hown, Ex35, Fc35, Fv35, Av35, la35, lb35, Cp35, Li35, Sa35, st35⟩ := ldcCH X28 hx hZ hown (hw _ (List.mem_of_getElem? (i := 58) rfl)) wS e28 hS hk hEL (List.mem_of_getElem? (i := 2) rfl) CR.1 (vs := [(.int (100 : Int32)), (.int (111 : Int32)), (.int (110 : Int32)), (.int (101 : Int32))]) (z := (4 : Int32)) ⟨by decide, by decide⟩ (by decide) rfl (g := (mkF m 33 #[.val (.ref sx)] [(.ref sx)])) rfl (Jvm.hb hby d_method_5_33) (n := 16) (by decide) (by decide) (by decide) (by decide)
      have z37 : h18.size ≤ h35.size := E35.1
      have CR := CR.trans Cp35
      have la35 : @LT.lt Nat _ a35 h35.size := la35
      have lb35 : @LT.lt Nat _ b35 h35.size := lb35
      have Fc38 : Fld Z h35 a35 "java/lang/String" "coder" "B" (.int (own_cod (own_nm 2))) := Fc35
      have Av38 : Arv Z h35 b35 kk35 .byte (Int32.ofNat (own_enl (own_nm 2))) (own_enc (own_nm 2)) (.int (0 : Int32)) := own_lit2 Av35
      have O39 : Old Z n0 h35 := (O22.ext E35)
      have f40 : Exa Z h35 sx "java/lang/String" := (f23.ext E35)
      have f41 : Fld Z h35 sx "java/lang/String" "value" "[B" (.ref bs) := (f24.ext E35)
      have f42 : Fld Z h35 sx "java/lang/String" "coder" "B" (.int (own_cod cs)) := (f25.ext E35)
      have f43 : Arv Z h35 bs ks .byte (Int32.ofNat (own_enl cs)) (own_enc cs) (.int (0 : Int32)) := (f26.ext E35)
      have Zc44 : n0 ≤ h35.size := by omega
      obtain ⟨cq45, kq45, q45a, q45b, q45c⟩ := isOf hZ e35 f40
      obtain ⟨_, _, ⟨T45, L45, k45, n45⟩, -, X45, ⟨Lc45, hQ45, l45, y45, z45⟩, st45⟩ := X35.virtualBack hx (y := (⟨"java/lang/String", "equals", "(Ljava/lang/Object;)Z"⟩ : MethodName)) (z := (⟨"java/lang/String", "equals", "(Ljava/lang/Object;)Z"⟩ : MethodName)) hown (mvT hZ (hw _ (List.mem_of_getElem? (i := 47) rfl))) (mvT hZ (hw _ (List.mem_of_getElem? (i := 48) rfl))) (notFace_of_selects (args := #[]) (mvT hZ (hw _ (List.mem_of_getElem? (i := 50) rfl)))) (mvT hZ (hw _ (List.mem_of_getElem? (i := 50) rfl))) (mvT hZ (hw _ (List.mem_of_getElem? (i := 49) rfl))) (by decide) (backOf (W := 0) (rmSEqG l Z a0 hw [] sx a35 cst bs ks cs b35 kk35 (own_nm 2) h35 n0 Zc44 I1 O39 (hcst : ¬ (cst = (0 : Int32))) f40 f41 f42 f43 Ex35 Fv35 Fc38 Av38 hch (own_nmchs _) hbl (own_nml _)) hZ (hw _ (List.mem_of_getElem? (i := 51) rfl)) (hw _ (List.mem_of_getElem? (i := 1) rfl)) (by decide) (by decide)) q45a q45c (g := (mkF m 35 #[.val (.ref sx)] [(.ref a35), (.ref sx)])) rfl (by rw [hml]; rfl) (Steps.refl _) (argsL := [(.ref a35)]) (rest := []) (lenOf pd__Ljava_lang_Object__Z rfl) rfl (by show 2 * 0 + _ ≤ _; exact Nat.le_of_eq rfl) (Jvm.hb hby d_method_5_35) (fun _ _ => ⟨rfl, e35, (by decide : 6 + 0 ≤ _), (by decide : 72 + 0 ≤ _)⟩)
      dsimp only [Pt.U, Pt.locs, Pt.cells, Pt.slots] at X45 l45 y45 z45 st45 hQ45
      subst l45 y45 z45
      obtain ⟨rfl, N45q, e45⟩ := hQ45
      have N45 := Fr.app N28 N45q
      have s46 : ∀ t_, Steps p.tables e below (T45.setTop (mkF m 38 #[.val (.ref sx)] [(.int (if cs = (own_nm 2) then (1 : Int32) else (0 : Int32)))])) t_ → Steps p.tables e below (s₁.setTop (entryFrame m #[(.ref sx)] 1)) t_ := fun t_ k_ => s36 t_ (by
        show Steps p.tables e below (T28.setTop (mkF m 33 #[.val (.ref sx)] [(.ref sx)])) t_
        refine st35 _ ?_
        show Steps p.tables e below (T35.setTop (mkF m 35 #[.val (.ref sx)] [(.ref a35), (.ref sx)])) _
        refine st45.trans ?_
        show Steps p.tables e below (T45.setTop (mkF m 38 #[.val (.ref sx)] [(.int (if cs = (own_nm 2) then (1 : Int32) else (0 : Int32)))])) _
        show Steps p.tables e below (T45.setTop (mkF m 38 #[.val (.ref sx)] [(.int (if cs = (own_nm 2) then (1 : Int32) else (0 : Int32)))])) t_
        exact k_)
      by_cases h47 : cs = (own_nm 2)
      · have s48 : ∀ t_, Steps p.tables e below (T45.setTop (mkF m 38 #[.val (.ref sx)] [(.int (1 : Int32))])) t_ → Steps p.tables e below (s₁.setTop (entryFrame m #[(.ref sx)] 1)) t_ := fun t_ k_ => s46 t_ (castTop (by simp only [if_pos h47]) k_)
        obtain ⟨T49, X49, e49, st49⟩ := getS2 X45 hx hZ hown (host := "") (Or.inl (hw _ (List.mem_of_getElem? (i := 89) rfl))) Via.refl e45 (I4.ext O39.2) (g := (mkF m 41 #[.val (.ref sx)] [])) rfl (Jvm.hb hby d_method_5_41)
        have s50 : ∀ t_, Steps p.tables e below (T49.setTop (mkF m 44 #[.val (.ref sx)] [(.ref rc)])) t_ → Steps p.tables e below (s₁.setTop (entryFrame m #[(.ref sx)] 1)) t_ := fun t_ k_ => s48 t_ (by
          show Steps p.tables e below (T45.setTop (mkF m 38 #[.val (.ref sx)] [(.int (1 : Int32))])) t_
          refine XS.ifNo X45.here hx rfl (Jvm.hb hby d_method_5_38) rfl ((if0 _ _).trans (feq (by decide : ¬ ((1 : Int32) = (0 : Int32)))).1) ?_
          show Steps p.tables e below (T45.setTop (mkF m 41 #[.val (.ref sx)] [])) _
          refine st49 _ ?_
          show Steps p.tables e below (T49.setTop (mkF m 44 #[.val (.ref sx)] [(.ref rc)])) _
          show Steps p.tables e below (T49.setTop (mkF m 44 #[.val (.ref sx)] [(.ref rc)])) t_
          exact k_)
        obtain ⟨fs, hr, hrun, hended, hREW⟩ := X49.leaveW hS (by first | exact Nat.le_refl _ | (rw [e49]; exact hk)) (v := some (.ref rc)) (fun h => by rw [Bd.returns] at h; cases h)
        refine ⟨_, _, s50 _ ?_, hrun, hended, _, _, rfl, ?_, (by show CHr Z ELs s.vm s.heap T49.vm T49.heap; rw [hh, e49]; exact CR.trans (CHv.at X49 hZ hEL CR.1)), hREW.1, hREW.2.1, hREW.2.2.1, hREW.2.2.2.mono (by decide) (by decide)⟩
        · show Steps p.tables e below (T49.setTop (mkF m 44 #[.val (.ref sx)] [(.ref rc)])) _
          jvm_step X49.here [X49.here.top, hx, (Jvm.hb hby d_method_5_44), X49.method', Bd.returns, Value.isRef, FieldType.isReference]
          first | (intro acts; rw [hr _ acts rfl rfl rfl]) | rw [hr _ _ rfl rfl rfl]
          exact Steps.refl _
        · show Q_rmExp Z _ _ _ _ _ _ _ _ _ h0 n0 _ T49.heap _
          rw [e49]
          exact ⟨(by rw [own_from, if_neg h13, if_neg h30, if_pos h47]), N45, ((((Keep.refl h0 []).ext E1).ext E18).ext E35)⟩
      · have s51 : ∀ t_, Steps p.tables e below (T45.setTop (mkF m 38 #[.val (.ref sx)] [(.int (0 : Int32))])) t_ → Steps p.tables e below (s₁.setTop (entryFrame m #[(.ref sx)] 1)) t_ := fun t_ k_ => s46 t_ (castTop (by simp only [if_neg h47]) k_)
        have s53 : ∀ t_, Steps p.tables e below (T45.setTop (mkF m 46 #[.val (.ref sx)] [(.ref sx)])) t_ → Steps p.tables e below (s₁.setTop (entryFrame m #[(.ref sx)] 1)) t_ := fun t_ k_ => s51 t_ (by
          show Steps p.tables e below (T45.setTop (mkF m 38 #[.val (.ref sx)] [(.int (0 : Int32))])) t_
          refine XS.ifYes X45.here hx rfl (pc0 := 38) (pc' := 45) rfl (Jvm.hb hby d_method_5_38) rfl ((if0 _ _).trans (teq (rfl : (0 : Int32) = (0 : Int32))).1) (by decide) (by decide) ?_
          show Steps p.tables e below (T45.setTop (mkF m 45 #[.val (.ref sx)] [])) _
          refine XS.aloadN X45.here hx rfl (Jvm.hb hby d_method_5_45) rfl rfl ?_
          show Steps p.tables e below (T45.setTop (mkF m 46 #[.val (.ref sx)] [(.ref sx)])) t_
          exact k_)
        obtain ⟨a52, T52, h52, k52, b52, kk52, X52, e52, E52, hS, hk, hZ, hown, Ex52, Fc52, Fv52, Av52, la52, lb52, Cp52, Li52, Sa52, st52⟩ := ldcCH X45 hx hZ hown (hw _ (List.mem_of_getElem? (i := 59) rfl)) wS e45 hS hk hEL (List.mem_of_getElem? (i := 3) rfl) CR.1 (vs := [(.int (102 : Int32)), (.int (97 : Int32)), (.int (105 : Int32)), (.int (108 : Int32)), (.int (101 : Int32)), (.int (100 : Int32))]) (z := (6 : Int32)) ⟨by decide, by decide⟩ (by decide) rfl (g := (mkF m 46 #[.val (.ref sx)] [(.ref sx)])) rfl (Jvm.hb hby d_method_5_46) (n := 24) (by decide) (by decide) (by decide) (by decide)
        have z54 : h35.size ≤ h52.size := E52.1
        have CR := CR.trans Cp52
        have la52 : @LT.lt Nat _ a52 h52.size := la52
        have lb52 : @LT.lt Nat _ b52 h52.size := lb52
        have Fc55 : Fld Z h52 a52 "java/lang/String" "coder" "B" (.int (own_cod (own_nm 3))) := Fc52
        have Av55 : Arv Z h52 b52 kk52 .byte (Int32.ofNat (own_enl (own_nm 3))) (own_enc (own_nm 3)) (.int (0 : Int32)) := own_lit3 Av52
        have O56 : Old Z n0 h52 := (O39.ext E52)
        have f57 : Exa Z h52 sx "java/lang/String" := (f40.ext E52)
        have f58 : Fld Z h52 sx "java/lang/String" "value" "[B" (.ref bs) := (f41.ext E52)
        have f59 : Fld Z h52 sx "java/lang/String" "coder" "B" (.int (own_cod cs)) := (f42.ext E52)
        have f60 : Arv Z h52 bs ks .byte (Int32.ofNat (own_enl cs)) (own_enc cs) (.int (0 : Int32)) := (f43.ext E52)
        have Zc61 : n0 ≤ h52.size := by omega
        obtain ⟨cq62, kq62, q62a, q62b, q62c⟩ := isOf hZ e52 f57
        obtain ⟨_, _, ⟨T62, L62, k62, n62⟩, -, X62, ⟨Lc62, hQ62, l62, y62, z62⟩, st62⟩ := X52.virtualBack hx (y := (⟨"java/lang/String", "equals", "(Ljava/lang/Object;)Z"⟩ : MethodName)) (z := (⟨"java/lang/String", "equals", "(Ljava/lang/Object;)Z"⟩ : MethodName)) hown (mvT hZ (hw _ (List.mem_of_getElem? (i := 47) rfl))) (mvT hZ (hw _ (List.mem_of_getElem? (i := 48) rfl))) (notFace_of_selects (args := #[]) (mvT hZ (hw _ (List.mem_of_getElem? (i := 50) rfl)))) (mvT hZ (hw _ (List.mem_of_getElem? (i := 50) rfl))) (mvT hZ (hw _ (List.mem_of_getElem? (i := 49) rfl))) (by decide) (backOf (W := 0) (rmSEqG l Z a0 hw [] sx a52 cst bs ks cs b52 kk52 (own_nm 3) h52 n0 Zc61 I1 O56 (hcst : ¬ (cst = (0 : Int32))) f57 f58 f59 f60 Ex52 Fv52 Fc55 Av55 hch (own_nmchs _) hbl (own_nml _)) hZ (hw _ (List.mem_of_getElem? (i := 51) rfl)) (hw _ (List.mem_of_getElem? (i := 1) rfl)) (by decide) (by decide)) q62a q62c (g := (mkF m 48 #[.val (.ref sx)] [(.ref a52), (.ref sx)])) rfl (by rw [hml]; rfl) (Steps.refl _) (argsL := [(.ref a52)]) (rest := []) (lenOf pd__Ljava_lang_Object__Z rfl) rfl (by show 2 * 0 + _ ≤ _; exact Nat.le_of_eq rfl) (Jvm.hb hby d_method_5_48) (fun _ _ => ⟨rfl, e52, (by decide : 8 + 0 ≤ _), (by decide : 100 + 0 ≤ _)⟩)
        dsimp only [Pt.U, Pt.locs, Pt.cells, Pt.slots] at X62 l62 y62 z62 st62 hQ62
        subst l62 y62 z62
        obtain ⟨rfl, N62q, e62⟩ := hQ62
        have N62 := Fr.app N45 N62q
        have s63 : ∀ t_, Steps p.tables e below (T62.setTop (mkF m 51 #[.val (.ref sx)] [(.int (if cs = (own_nm 3) then (1 : Int32) else (0 : Int32)))])) t_ → Steps p.tables e below (s₁.setTop (entryFrame m #[(.ref sx)] 1)) t_ := fun t_ k_ => s53 t_ (by
          show Steps p.tables e below (T45.setTop (mkF m 46 #[.val (.ref sx)] [(.ref sx)])) t_
          refine st52 _ ?_
          show Steps p.tables e below (T52.setTop (mkF m 48 #[.val (.ref sx)] [(.ref a52), (.ref sx)])) _
          refine st62.trans ?_
          show Steps p.tables e below (T62.setTop (mkF m 51 #[.val (.ref sx)] [(.int (if cs = (own_nm 3) then (1 : Int32) else (0 : Int32)))])) _
          show Steps p.tables e below (T62.setTop (mkF m 51 #[.val (.ref sx)] [(.int (if cs = (own_nm 3) then (1 : Int32) else (0 : Int32)))])) t_
          exact k_)
        by_cases h64 : cs = (own_nm 3)
        · have s65 : ∀ t_, Steps p.tables e below (T62.setTop (mkF m 51 #[.val (.ref sx)] [(.int (1 : Int32))])) t_ → Steps p.tables e below (s₁.setTop (entryFrame m #[(.ref sx)] 1)) t_ := fun t_ k_ => s63 t_ (castTop (by simp only [if_pos h64]) k_)
          obtain ⟨T66, X66, e66, st66⟩ := getS2 X62 hx hZ hown (host := "") (Or.inl (hw _ (List.mem_of_getElem? (i := 93) rfl))) Via.refl e62 (I5.ext O56.2) (g := (mkF m 54 #[.val (.ref sx)] [])) rfl (Jvm.hb hby d_method_5_54)
          have s67 : ∀ t_, Steps p.tables e below (T66.setTop (mkF m 57 #[.val (.ref sx)] [(.ref rd)])) t_ → Steps p.tables e below (s₁.setTop (entryFrame m #[(.ref sx)] 1)) t_ := fun t_ k_ => s65 t_ (by
            show Steps p.tables e below (T62.setTop (mkF m 51 #[.val (.ref sx)] [(.int (1 : Int32))])) t_
            refine XS.ifNo X62.here hx rfl (Jvm.hb hby d_method_5_51) rfl ((if0 _ _).trans (feq (by decide : ¬ ((1 : Int32) = (0 : Int32)))).1) ?_
            show Steps p.tables e below (T62.setTop (mkF m 54 #[.val (.ref sx)] [])) _
            refine st66 _ ?_
            show Steps p.tables e below (T66.setTop (mkF m 57 #[.val (.ref sx)] [(.ref rd)])) _
            show Steps p.tables e below (T66.setTop (mkF m 57 #[.val (.ref sx)] [(.ref rd)])) t_
            exact k_)
          obtain ⟨fs, hr, hrun, hended, hREW⟩ := X66.leaveW hS (by first | exact Nat.le_refl _ | (rw [e66]; exact hk)) (v := some (.ref rd)) (fun h => by rw [Bd.returns] at h; cases h)
          refine ⟨_, _, s67 _ ?_, hrun, hended, _, _, rfl, ?_, (by show CHr Z ELs s.vm s.heap T66.vm T66.heap; rw [hh, e66]; exact CR.trans (CHv.at X66 hZ hEL CR.1)), hREW.1, hREW.2.1, hREW.2.2.1, hREW.2.2.2.mono (by decide) (by decide)⟩
          · show Steps p.tables e below (T66.setTop (mkF m 57 #[.val (.ref sx)] [(.ref rd)])) _
            jvm_step X66.here [X66.here.top, hx, (Jvm.hb hby d_method_5_57), X66.method', Bd.returns, Value.isRef, FieldType.isReference]
            first | (intro acts; rw [hr _ acts rfl rfl rfl]) | rw [hr _ _ rfl rfl rfl]
            exact Steps.refl _
          · show Q_rmExp Z _ _ _ _ _ _ _ _ _ h0 n0 _ T66.heap _
            rw [e66]
            exact ⟨(by rw [own_from, if_neg h13, if_neg h30, if_neg h47, if_pos h64]), N62, (((((Keep.refl h0 []).ext E1).ext E18).ext E35).ext E52)⟩
        · have s68 : ∀ t_, Steps p.tables e below (T62.setTop (mkF m 51 #[.val (.ref sx)] [(.int (0 : Int32))])) t_ → Steps p.tables e below (s₁.setTop (entryFrame m #[(.ref sx)] 1)) t_ := fun t_ k_ => s63 t_ (castTop (by simp only [if_neg h64]) k_)
          have s69 : ∀ t_, Steps p.tables e below (T62.setTop (mkF m 59 #[.val (.ref sx)] [.null])) t_ → Steps p.tables e below (s₁.setTop (entryFrame m #[(.ref sx)] 1)) t_ := fun t_ k_ => s68 t_ (by
            show Steps p.tables e below (T62.setTop (mkF m 51 #[.val (.ref sx)] [(.int (0 : Int32))])) t_
            refine XS.ifYes X62.here hx rfl (pc0 := 51) (pc' := 58) rfl (Jvm.hb hby d_method_5_51) rfl ((if0 _ _).trans (teq (rfl : (0 : Int32) = (0 : Int32))).1) (by decide) (by decide) ?_
            show Steps p.tables e below (T62.setTop (mkF m 58 #[.val (.ref sx)] [])) _
            refine XS.aconstNull X62.here hx rfl (Jvm.hb hby d_method_5_58) ?_
            show Steps p.tables e below (T62.setTop (mkF m 59 #[.val (.ref sx)] [.null])) t_
            exact k_)
          obtain ⟨fs, hr, hrun, hended, hREW⟩ := X62.leaveW hS (by first | exact Nat.le_refl _ | (rw [e62]; exact hk)) (v := some .null) (fun h => by rw [Bd.returns] at h; cases h)
          refine ⟨_, _, s69 _ ?_, hrun, hended, _, _, rfl, ?_, (by show CHr Z ELs s.vm s.heap T62.vm T62.heap; rw [hh, e62]; exact CR.trans (CHv.at X62 hZ hEL CR.1)), hREW.1, hREW.2.1, hREW.2.2.1, hREW.2.2.2.mono (by decide) (by decide)⟩
          · show Steps p.tables e below (T62.setTop (mkF m 59 #[.val (.ref sx)] [.null])) _
            jvm_step X62.here [X62.here.top, hx, (Jvm.hb hby d_method_5_59), X62.method', Bd.returns, Value.isRef, FieldType.isReference]
            first | (intro acts; rw [hr _ acts rfl rfl rfl]) | rw [hr _ _ rfl rfl rfl]
            exact Steps.refl _
          · show Q_rmExp Z _ _ _ _ _ _ _ _ _ h0 n0 _ T62.heap _
            rw [e62]
            exact ⟨(by rw [own_from, if_neg h13, if_neg h30, if_neg h47, if_neg h64]), N62, (((((Keep.refl h0 []).ext E1).ext E18).ext E35).ext E52)⟩
theorem d_method_5_4 : decode method_5_code 4 = .ok (.aconst_null, 1) := by decide +kernel
theorem d_method_5_5 : decode method_5_code 5 = .ok (.areturn, 1) := by decide +kernel
theorem ef_rmExpN (m : MethodId)  : entryFrame m #[.null] 1 = mkF m 0 #[.val .null] [] := by first | (simp [entryFrame, mkF, argsToLocals, Value.category]; done) | rfl
def Q_rmExpN (Z : State)  (h0 : Heap) (n0 : Nat) (v : Option Value) (h : Heap) (L : List Loc) : Prop := (v = some .null) ∧ (Fr n0 L) ∧ (h = h0)
set_option maxRecDepth 65536 in
set_option maxHeartbeats 40000000 in
theorem rmExpN (l : Launch) (Z : State) (a0 : Array Value) (hw : ∀ d ∈ tables_1, d.before a0 Z = true) (ws : List Jvm.Cond)  (h0 : Heap) (n0 : Nat) (Z0 : n0 ≤ h0.size)  :
    MetFree l (⟨"com/example/coyote_hill/coyotehill/ItemStateFromNamePinLaw", "expected", "(Ljava/lang/String;)Lcom/example/coyote_hill/coyotehill/ItemState;"⟩ : MethodName) (head1 (Jvm.Cond.code (⟨"com/example/coyote_hill/coyotehill/ItemStateFromNamePinLaw", "expected", "(Ljava/lang/String;)Lcom/example/coyote_hill/coyotehill/ItemState;"⟩ : MethodName) method_5_code 1 (some (.object "com/example/coyote_hill/coyotehill/ItemState")) :: ws) ({ frames := 0, cells := 0, slots := 0, locals := 0 } : Room)) (fun ar_ U => ar_ = #[.null] ∧ Z.Warmed39 U.vm ∧ U.heap = h0) (fun _ _ _ _ _ => True) (fun _ U oc_ U' => ∃ v L, oc_ = .returned v ∧ Q_rmExpN Z h0 n0 v U'.heap L ∧ FrameEnd U oc_ U' L ({ frames := 0, cells := 0, slots := 0, locals := 0 } : Room).cells ({ frames := 0, cells := 0, slots := 0, locals := 0 } : Room).slots) := by
  refine MetFree.of_bodySF (plainFor_of_name pn_com_example_coyote_hill_coyotehill_ItemStateFromNamePinLaw) hisR ?_
  intro p e s m args below meth c s₁ Bd hml0 hP hK
  obtain ⟨rfl, hZ, hh⟩ := hP
  have hx := Bd.exec
  have hby := Bd.bytes
  have hml : c.maxLocals = 1 := hml0
  have hown : s.vm.findClass "com/example/coyote_hill/coyotehill/ItemStateFromNamePinLaw" = some m.cls := findClass_of_methodNamed Bd.named
  have hnm := (name_of_methodNamed Bd.named Bd.method).1
  have X0 : Stand p l e ({ frames := 0, cells := 0, slots := 0, locals := 0 } : Room) s m #[.null] below meth c s₁ [] 0 0 := Stand.of_body Bd
  have e0 : s₁.heap = h0 := by rw [← hh, Bd.state]; rfl
  have N0 := Fr.nil n0
  have pre0 : ∀ t_, Steps p.tables e below (s₁.setTop (mkF m 0 #[.val .null] [])) t_ → Steps p.tables e below (s₁.setTop (entryFrame m #[.null] 1)) t_ := fun t_ k_ => castTop (ef_rmExpN m ) k_
  have s1 : ∀ t_, Steps p.tables e below (s₁.setTop (mkF m 5 #[.val .null] [.null])) t_ → Steps p.tables e below (s₁.setTop (entryFrame m #[.null] 1)) t_ := fun t_ k_ => pre0 t_ (by
    show Steps p.tables e below (s₁.setTop (mkF m 0 #[.val .null] [])) t_
    refine XS.aloadN X0.here hx rfl (Jvm.hb hby d_method_5_0) rfl rfl ?_
    refine XS.ifnonnullNo X0.here hx rfl (Jvm.hb hby d_method_5_1) rfl ?_
    show Steps p.tables e below (s₁.setTop (mkF m 4 #[.val .null] [])) _
    refine XS.aconstNull X0.here hx rfl (Jvm.hb hby d_method_5_4) ?_
    show Steps p.tables e below (s₁.setTop (mkF m 5 #[.val .null] [.null])) t_
    exact k_)
  obtain ⟨fs, hr, hrun, hended, hW, hsame⟩ := X0.leave (v := some .null) (fun h => by rw [Bd.returns] at h; cases h)
  refine ⟨_, _, s1 _ ?_, hrun, hended, _, _, rfl, ?_, ⟨_, rfl⟩, hW, hsame.mono (by decide) (by decide)⟩
  · show Steps p.tables e below (s₁.setTop (mkF m 5 #[.val .null] [.null])) _
    jvm_step X0.here [X0.here.top, hx, (Jvm.hb hby d_method_5_5), X0.method', Bd.returns, Value.isRef, FieldType.isReference]
    first | (intro acts; rw [hr _ acts rfl rfl rfl]) | rw [hr _ _ rfl rfl rfl]
    exact Steps.refl _
  · show Q_rmExpN Z h0 n0 _ s₁.heap _
    rw [e0]
    exact ⟨rfl, N0, rfl⟩
theorem d_method_3_0 : decode method_3_code 0 = .ok (.iload_n 1, 1) := by decide +kernel
theorem d_method_3_1 : decode method_3_code 1 = .ok (.ifCond .eq 17, 3) := by decide +kernel
theorem d_method_3_18 : decode method_3_code 18 = .ok (.lload_n 3, 1) := by decide +kernel
theorem d_method_3_19 : decode method_3_code 19 = .ok (.bipush 8, 2) := by decide +kernel
theorem d_method_3_21 : decode method_3_code 21 = .ok (.iload_n 0, 1) := by decide +kernel
theorem d_method_3_22 : decode method_3_code 22 = .ok (.imul, 1) := by decide +kernel
theorem d_method_3_23 : decode method_3_code 23 = .ok (.lushr, 1) := by decide +kernel
theorem d_method_3_24 : decode method_3_code 24 = .ok (.ldc2_w 62, 3) := by decide +kernel
theorem d_method_3_27 : decode method_3_code 27 = .ok (.land, 1) := by decide +kernel
theorem d_method_3_28 : decode method_3_code 28 = .ok (.l2i, 1) := by decide +kernel
theorem d_method_3_29 : decode method_3_code 29 = .ok (.i2c, 1) := by decide +kernel
theorem d_method_3_30 : decode method_3_code 30 = .ok (.ireturn, 1) := by decide +kernel
theorem d_method_3_4 : decode method_3_code 4 = .ok (.iload_n 0, 1) := by decide +kernel
theorem d_method_3_5 : decode method_3_code 5 = .ok (.aload_n 2, 1) := by decide +kernel
theorem pd___I : parseMethodDescriptor "()I" = some ⟨[], some .int⟩ := by decide +kernel
theorem d_method_3_6 : decode method_3_code 6 = .ok (.invokevirtual 30, 3) := by decide +kernel
theorem d_method_3_9 : decode method_3_code 9 = .ok (.if_icmp .ge 9, 3) := by decide +kernel
theorem d_method_3_12 : decode method_3_code 12 = .ok (.aload_n 2, 1) := by decide +kernel
theorem d_method_3_13 : decode method_3_code 13 = .ok (.iload_n 0, 1) := by decide +kernel
theorem pd__I_C : parseMethodDescriptor "(I)C" = some ⟨[.int], some .char⟩ := by decide +kernel
theorem d_method_3_14 : decode method_3_code 14 = .ok (.invokevirtual 58, 3) := by decide +kernel
theorem d_method_3_17 : decode method_3_code 17 = .ok (.ireturn, 1) := by decide +kernel
theorem ef_rmPick (m : MethodId) (x0 : Int32) (x1 : Int32) (x2 : Addr) (x3 : Int64) : entryFrame m #[(.int x0), (.int x1), (.ref x2), (.long x3)] 5 = mkF m 0 #[.val (.int x0), .val (.int x1), .val (.ref x2), .val (.long x3), .second] [] := by first | (simp [entryFrame, mkF, argsToLocals, Value.category]; done) | rfl
def Q_rmPick (Z : State) (cp : Int32) (sx : Addr) (lc : Int64) (i : Nat) (cst : Int32) (bs : Addr) (ks : ClassId) (cs : List Int32) (fmt : Value) (h0 : Heap) (n0 : Nat) (v : Option Value) (h : Heap) (L : List Loc) : Prop := ∃ (rr : Int32), (v = some (.int rr)) ∧ (Fr n0 L) ∧ (h = h0) ∧ (¬ (rr < (0 : Int32))) ∧ (¬ ((255 : Int32) < rr))
set_option maxRecDepth 65536 in
set_option maxHeartbeats 40000000 in
theorem rmPick (l : Launch) (Z : State) (a0 : Array Value) (hw : ∀ d ∈ tables_1, d.before a0 Z = true) (ws : List Jvm.Cond) (cp : Int32) (sx : Addr) (lc : Int64) (i : Nat) (cst : Int32) (bs : Addr) (ks : ClassId) (cs : List Int32) (fmt : Value) (h0 : Heap) (n0 : Nat) (Z0 : n0 ≤ h0.size) (I1 : Sta Z Z.heap "java/lang/String" "COMPACT_STRINGS" "Z" (.int cst)) (hfmt : fmt.isRef = true) (I2 : Sta Z Z.heap "jdk/internal/util/Preconditions" "SIOOBE_FORMATTER" "Ljava/util/function/BiFunction;" fmt) (OX : Old Z n0 h0) (hcst : ¬ (cst = (0 : Int32))) (I3 : Exa Z h0 sx "java/lang/String") (I4 : Fld Z h0 sx "java/lang/String" "value" "[B" (.ref bs)) (I5 : Fld Z h0 sx "java/lang/String" "coder" "B" (.int (own_cod cs))) (I6 : Arv Z h0 bs ks .byte (Int32.ofNat (own_enl cs)) (own_enc cs) (.int (0 : Int32))) (hch : own_chs cs) (hlt : own_lat cs) (hbl : cs.length ≤ 7) (hi8 : i < 8) :
    MetFree l (⟨"com/example/coyote_hill/coyotehill/ItemStateFromNamePinLaw", "pick", "(IZLjava/lang/String;J)C"⟩ : MethodName) (head1 (Jvm.Cond.code (⟨"com/example/coyote_hill/coyotehill/ItemStateFromNamePinLaw", "pick", "(IZLjava/lang/String;J)C"⟩ : MethodName) method_3_code 5 (some .char) :: ws) ({ frames := 4, cells := 0, slots := 0, locals := 53 } : Room)) (fun ar_ U => ar_ = #[(.int (Int32.ofNat i)), (.int cp), (.ref sx), (.long lc)] ∧ Z.Warmed39 U.vm ∧ U.heap = h0) (fun _ _ _ _ _ => True) (fun _ U oc_ U' => ∃ v L, oc_ = .returned v ∧ Q_rmPick Z cp sx lc i cst bs ks cs fmt h0 n0 v U'.heap L ∧ FrameEnd U oc_ U' L ({ frames := 4, cells := 0, slots := 0, locals := 53 } : Room).cells ({ frames := 4, cells := 0, slots := 0, locals := 53 } : Room).slots) := by
  refine MetFree.of_bodySF (plainFor_of_name pn_com_example_coyote_hill_coyotehill_ItemStateFromNamePinLaw) hisR ?_
  intro p e s m args below meth c s₁ Bd hml0 hP hK
  obtain ⟨rfl, hZ, hh⟩ := hP
  have hx := Bd.exec
  have hby := Bd.bytes
  have hml : c.maxLocals = 5 := hml0
  have hown : s.vm.findClass "com/example/coyote_hill/coyotehill/ItemStateFromNamePinLaw" = some m.cls := findClass_of_methodNamed Bd.named
  have hnm := (name_of_methodNamed Bd.named Bd.method).1
  have X0 : Stand p l e ({ frames := 4, cells := 0, slots := 0, locals := 53 } : Room) s m #[(.int (Int32.ofNat i)), (.int cp), (.ref sx), (.long lc)] below meth c s₁ [] 0 0 := Stand.of_body Bd
  have e0 : s₁.heap = h0 := by rw [← hh, Bd.state]; rfl
  have N0 := Fr.nil n0
  have pre0 : ∀ t_, Steps p.tables e below (s₁.setTop (mkF m 0 #[.val (.int (Int32.ofNat i)), .val (.int cp), .val (.ref sx), .val (.long lc), .second] [])) t_ → Steps p.tables e below (s₁.setTop (entryFrame m #[(.int (Int32.ofNat i)), (.int cp), (.ref sx), (.long lc)] 5)) t_ := fun t_ k_ => castTop (ef_rmPick m (Int32.ofNat i) cp sx lc) k_
  have lt_I3 : @LT.lt Nat _ sx h0.size := I3.lt
  have lt_I4 : @LT.lt Nat _ sx h0.size := I4.lt
  have lt_I5 : @LT.lt Nat _ sx h0.size := I5.lt
  have lt_I6 : @LT.lt Nat _ bs h0.size := I6.lt
  have s1 : ∀ t_, Steps p.tables e below (s₁.setTop (mkF m 1 #[.val (.int (Int32.ofNat i)), .val (.int cp), .val (.ref sx), .val (.long lc), .second] [(.int cp)])) t_ → Steps p.tables e below (s₁.setTop (entryFrame m #[(.int (Int32.ofNat i)), (.int cp), (.ref sx), (.long lc)] 5)) t_ := fun t_ k_ => pre0 t_ (by
    show Steps p.tables e below (s₁.setTop (mkF m 0 #[.val (.int (Int32.ofNat i)), .val (.int cp), .val (.ref sx), .val (.long lc), .second] [])) t_
    refine XS.iloadN X0.here hx rfl (Jvm.hb hby d_method_3_0) rfl ?_
    show Steps p.tables e below (s₁.setTop (mkF m 1 #[.val (.int (Int32.ofNat i)), .val (.int cp), .val (.ref sx), .val (.long lc), .second] [(.int cp)])) t_
    exact k_)
  by_cases h2 : cp = (0 : Int32)
  · have s3 : ∀ t_, Steps p.tables e below (s₁.setTop (mkF m 30 #[.val (.int (Int32.ofNat i)), .val (.int cp), .val (.ref sx), .val (.long lc), .second] [(.int (i2c (((ushrJ lc ((8 : Int32) * (Int32.ofNat i))) &&& (255 : Int64)).toInt32)))])) t_ → Steps p.tables e below (s₁.setTop (entryFrame m #[(.int (Int32.ofNat i)), (.int cp), (.ref sx), (.long lc)] 5)) t_ := fun t_ k_ => s1 t_ (by
      show Steps p.tables e below (s₁.setTop (mkF m 1 #[.val (.int (Int32.ofNat i)), .val (.int cp), .val (.ref sx), .val (.long lc), .second] [(.int cp)])) t_
      refine XS.ifYes X0.here hx rfl (pc0 := 1) (pc' := 18) rfl (Jvm.hb hby d_method_3_1) rfl ((if0 _ _).trans (teq h2).1) (by decide) (by decide) ?_
      show Steps p.tables e below (s₁.setTop (mkF m 18 #[.val (.int (Int32.ofNat i)), .val (.int cp), .val (.ref sx), .val (.long lc), .second] [])) _
      refine XS.lloadN X0.here hx rfl (Jvm.hb hby d_method_3_18) rfl ?_
      refine XS.bipush X0.here hx rfl (Jvm.hb hby d_method_3_19) ?_
      refine XS.iloadN X0.here hx rfl (Jvm.hb hby d_method_3_21) rfl ?_
      refine XS.imul X0.here hx rfl (Jvm.hb hby d_method_3_22) rfl ?_
      refine XS.lushr X0.here hx rfl (Jvm.hb hby d_method_3_23) rfl ?_
      refine X0.ldc2Long hx hown (mvT hZ (hw _ (List.mem_of_getElem? (i := 16) rfl))) (g := (mkF m 24 #[.val (.int (Int32.ofNat i)), .val (.int cp), .val (.ref sx), .val (.long lc), .second] [(.long (ushrJ lc ((8 : Int32) * (Int32.ofNat i))))])) rfl (Jvm.hb hby d_method_3_24) _ ?_
      show Steps p.tables e below (s₁.setTop (mkF m 27 #[.val (.int (Int32.ofNat i)), .val (.int cp), .val (.ref sx), .val (.long lc), .second] [(.long (255 : Int64)), (.long (ushrJ lc ((8 : Int32) * (Int32.ofNat i))))])) _
      refine XS.land X0.here hx rfl (Jvm.hb hby d_method_3_27) rfl ?_
      refine XS.l2i X0.here hx rfl (Jvm.hb hby d_method_3_28) rfl ?_
      refine XS.i2c X0.here hx rfl (Jvm.hb hby d_method_3_29) rfl ?_
      show Steps p.tables e below (s₁.setTop (mkF m 30 #[.val (.int (Int32.ofNat i)), .val (.int cp), .val (.ref sx), .val (.long lc), .second] [(.int (i2c (((ushrJ lc ((8 : Int32) * (Int32.ofNat i))) &&& (255 : Int64)).toInt32)))])) t_
      exact k_)
    obtain ⟨fs, hr, hrun, hended, hW, hsame⟩ := X0.leave (v := some (.int (nar .char (i2c (((ushrJ lc ((8 : Int32) * (Int32.ofNat i))) &&& (255 : Int64)).toInt32))))) (fun h => by rw [Bd.returns] at h; cases h)
    refine ⟨_, _, s3 _ ?_, hrun, hended, _, _, rfl, ?_, ⟨_, rfl⟩, hW, hsame.mono (by decide) (by decide)⟩
    · show Steps p.tables e below (s₁.setTop (mkF m 30 #[.val (.int (Int32.ofNat i)), .val (.int cp), .val (.ref sx), .val (.long lc), .second] [(.int (i2c (((ushrJ lc ((8 : Int32) * (Int32.ofNat i))) &&& (255 : Int64)).toInt32)))])) _
      exact retN X0 hx (t := .char) Bd.returns (by simp) (Jvm.hb hby d_method_3_30) hr
    · show Q_rmPick Z _ _ _ _ _ _ _ _ _ h0 n0 _ s₁.heap _
      rw [e0]
      exact ⟨(i2c (((ushrJ lc ((8 : Int32) * (Int32.ofNat i))) &&& (255 : Int64)).toInt32)), (by rw [own_nari2c]), N0, rfl, (own_d255 _).1, (own_d255 _).2⟩
  · have Zc4 : n0 ≤ h0.size := by omega
    obtain ⟨cq5, kq5, q5a, q5b, q5c⟩ := isOf hZ e0 I3
    obtain ⟨_, _, ⟨T5, L5, k5, n5⟩, -, X5, ⟨Lc5, hQ5, l5, y5, z5⟩, st5⟩ := X0.virtualBack hx (y := (⟨"java/lang/String", "length", "()I"⟩ : MethodName)) (z := (⟨"java/lang/String", "length", "()I"⟩ : MethodName)) hown (mvT hZ (hw _ (List.mem_of_getElem? (i := 94) rfl))) (mvT hZ (hw _ (List.mem_of_getElem? (i := 95) rfl))) (notFace_of_selects (args := #[]) (mvT hZ (hw _ (List.mem_of_getElem? (i := 97) rfl)))) (mvT hZ (hw _ (List.mem_of_getElem? (i := 97) rfl))) (mvT hZ (hw _ (List.mem_of_getElem? (i := 96) rfl))) (by decide) (backOf (W := 1) (rmLen l Z a0 hw [] sx cst bs ks cs h0 n0 Zc4 I1 OX (hcst : ¬ (cst = (0 : Int32))) I3 I4 I5 I6 hbl) hZ (hw _ (List.mem_of_getElem? (i := 98) rfl)) (hw _ (List.mem_of_getElem? (i := 1) rfl)) (by decide) (by decide)) q5a q5c (g := (mkF m 6 #[.val (.int (Int32.ofNat i)), .val (.int cp), .val (.ref sx), .val (.long lc), .second] [(.ref sx), (.int (Int32.ofNat i))])) rfl (by rw [hml]; rfl) (Steps.refl _) (argsL := []) (rest := [(.int (Int32.ofNat i))]) (lenOf pd___I rfl) rfl (by show 2 * 0 + _ ≤ _; exact Nat.le_of_eq rfl) (Jvm.hb hby d_method_3_6) (fun _ _ => ⟨rfl, e0, (by decide : 0 + 0 ≤ _), (by decide : 0 + 0 ≤ _)⟩)
    dsimp only [Pt.U, Pt.locs, Pt.cells, Pt.slots] at X5 l5 y5 z5 st5 hQ5
    subst l5 y5 z5
    obtain ⟨rfl, N5q, e5⟩ := hQ5
    have N5 := Fr.app N0 N5q
    have s6 : ∀ t_, Steps p.tables e below (T5.setTop (mkF m 9 #[.val (.int (Int32.ofNat i)), .val (.int cp), .val (.ref sx), .val (.long lc), .second] [(.int (Int32.ofNat cs.length)), (.int (Int32.ofNat i))])) t_ → Steps p.tables e below (s₁.setTop (entryFrame m #[(.int (Int32.ofNat i)), (.int cp), (.ref sx), (.long lc)] 5)) t_ := fun t_ k_ => s1 t_ (by
      show Steps p.tables e below (s₁.setTop (mkF m 1 #[.val (.int (Int32.ofNat i)), .val (.int cp), .val (.ref sx), .val (.long lc), .second] [(.int cp)])) t_
      refine XS.ifNo X0.here hx rfl (Jvm.hb hby d_method_3_1) rfl ((if0 _ _).trans (feq h2).1) ?_
      show Steps p.tables e below (s₁.setTop (mkF m 4 #[.val (.int (Int32.ofNat i)), .val (.int cp), .val (.ref sx), .val (.long lc), .second] [])) _
      refine XS.iloadN X0.here hx rfl (Jvm.hb hby d_method_3_4) rfl ?_
      refine XS.aloadN X0.here hx rfl (Jvm.hb hby d_method_3_5) rfl rfl ?_
      refine st5.trans ?_
      show Steps p.tables e below (T5.setTop (mkF m 9 #[.val (.int (Int32.ofNat i)), .val (.int cp), .val (.ref sx), .val (.long lc), .second] [(.int (Int32.ofNat cs.length)), (.int (Int32.ofNat i))])) _
      show Steps p.tables e below (T5.setTop (mkF m 9 #[.val (.int (Int32.ofNat i)), .val (.int cp), .val (.ref sx), .val (.long lc), .second] [(.int (Int32.ofNat cs.length)), (.int (Int32.ofNat i))])) t_
      exact k_)
    by_cases h7 : (Int32.ofNat i) < (Int32.ofNat cs.length)
    · have hicl : i < cs.length := (own_ltof (by omega) (by omega) h7)
      have Zc8 : n0 ≤ h0.size := by omega
      obtain ⟨cq9, kq9, q9a, q9b, q9c⟩ := isOf hZ e5 I3
      obtain ⟨_, _, ⟨T9, L9, k9, n9⟩, -, X9, ⟨Lc9, hQ9, l9, y9, z9⟩, st9⟩ := X5.virtualBack hx (y := (⟨"java/lang/String", "charAt", "(I)C"⟩ : MethodName)) (z := (⟨"java/lang/String", "charAt", "(I)C"⟩ : MethodName)) hown (mvT hZ (hw _ (List.mem_of_getElem? (i := 104) rfl))) (mvT hZ (hw _ (List.mem_of_getElem? (i := 105) rfl))) (notFace_of_selects (args := #[]) (mvT hZ (hw _ (List.mem_of_getElem? (i := 107) rfl)))) (mvT hZ (hw _ (List.mem_of_getElem? (i := 107) rfl))) (mvT hZ (hw _ (List.mem_of_getElem? (i := 106) rfl))) (by decide) (backOf (W := 0) (rmChA l Z a0 hw [] sx cst bs ks cs i fmt h0 n0 Zc8 I1 (hfmt : fmt.isRef = true) I2 OX (hcst : ¬ (cst = (0 : Int32))) I3 I4 I5 I6 hbl hicl hch hlt) hZ (hw _ (List.mem_of_getElem? (i := 108) rfl)) (hw _ (List.mem_of_getElem? (i := 1) rfl)) (by decide) (by decide)) q9a q9c (g := (mkF m 14 #[.val (.int (Int32.ofNat i)), .val (.int cp), .val (.ref sx), .val (.long lc), .second] [(.int (Int32.ofNat i)), (.ref sx)])) rfl (by rw [hml]; rfl) (Steps.refl _) (argsL := [(.int (Int32.ofNat i))]) (rest := []) (lenOf pd__I_C rfl) rfl (by show 2 * 0 + _ ≤ _; exact Nat.le_of_eq rfl) (Jvm.hb hby d_method_3_14) (fun _ _ => ⟨rfl, e5, (by decide : 0 + 0 ≤ _), (by decide : 0 + 0 ≤ _)⟩)
      dsimp only [Pt.U, Pt.locs, Pt.cells, Pt.slots] at X9 l9 y9 z9 st9 hQ9
      subst l9 y9 z9
      obtain ⟨rfl, N9q, e9⟩ := hQ9
      have N9 := Fr.app N5 N9q
      have s10 : ∀ t_, Steps p.tables e below (T9.setTop (mkF m 17 #[.val (.int (Int32.ofNat i)), .val (.int cp), .val (.ref sx), .val (.long lc), .second] [(.int (cs.getD i 0))])) t_ → Steps p.tables e below (s₁.setTop (entryFrame m #[(.int (Int32.ofNat i)), (.int cp), (.ref sx), (.long lc)] 5)) t_ := fun t_ k_ => s6 t_ (by
        show Steps p.tables e below (T5.setTop (mkF m 9 #[.val (.int (Int32.ofNat i)), .val (.int cp), .val (.ref sx), .val (.long lc), .second] [(.int (Int32.ofNat cs.length)), (.int (Int32.ofNat i))])) t_
        refine XS.icmpNo X5.here hx rfl (Jvm.hb hby d_method_3_9) rfl (tlt h7).2.1 ?_
        show Steps p.tables e below (T5.setTop (mkF m 12 #[.val (.int (Int32.ofNat i)), .val (.int cp), .val (.ref sx), .val (.long lc), .second] [])) _
        refine XS.aloadN X5.here hx rfl (Jvm.hb hby d_method_3_12) rfl rfl ?_
        refine XS.iloadN X5.here hx rfl (Jvm.hb hby d_method_3_13) rfl ?_
        refine st9.trans ?_
        show Steps p.tables e below (T9.setTop (mkF m 17 #[.val (.int (Int32.ofNat i)), .val (.int cp), .val (.ref sx), .val (.long lc), .second] [(.int (cs.getD i 0))])) _
        show Steps p.tables e below (T9.setTop (mkF m 17 #[.val (.int (Int32.ofNat i)), .val (.int cp), .val (.ref sx), .val (.long lc), .second] [(.int (cs.getD i 0))])) t_
        exact k_)
      obtain ⟨fs, hr, hrun, hended, hW, hsame⟩ := X9.leave (v := some (.int (nar .char (cs.getD i 0)))) (fun h => by rw [Bd.returns] at h; cases h)
      refine ⟨_, _, s10 _ ?_, hrun, hended, _, _, rfl, ?_, ⟨_, rfl⟩, hW, hsame.mono (by decide) (by decide)⟩
      · show Steps p.tables e below (T9.setTop (mkF m 17 #[.val (.int (Int32.ofNat i)), .val (.int cp), .val (.ref sx), .val (.long lc), .second] [(.int (cs.getD i 0))])) _
        exact retN X9 hx (t := .char) Bd.returns (by simp) (Jvm.hb hby d_method_3_17) hr
      · show Q_rmPick Z _ _ _ _ _ _ _ _ _ h0 n0 _ T9.heap _
        rw [e9]
        exact ⟨(cs.getD i 0), (by rw [own_narc (hch _ (own_mem cs i hicl)).1 (hch _ (own_mem cs i hicl)).2]), N9, rfl, (hch _ (own_mem cs i hicl)).1, hlt _ (own_mem cs i hicl)⟩
    · have s11 : ∀ t_, Steps p.tables e below (T5.setTop (mkF m 30 #[.val (.int (Int32.ofNat i)), .val (.int cp), .val (.ref sx), .val (.long lc), .second] [(.int (i2c (((ushrJ lc ((8 : Int32) * (Int32.ofNat i))) &&& (255 : Int64)).toInt32)))])) t_ → Steps p.tables e below (s₁.setTop (entryFrame m #[(.int (Int32.ofNat i)), (.int cp), (.ref sx), (.long lc)] 5)) t_ := fun t_ k_ => s6 t_ (by
        show Steps p.tables e below (T5.setTop (mkF m 9 #[.val (.int (Int32.ofNat i)), .val (.int cp), .val (.ref sx), .val (.long lc), .second] [(.int (Int32.ofNat cs.length)), (.int (Int32.ofNat i))])) t_
        refine XS.icmpYes X5.here hx rfl (pc0 := 9) (pc' := 18) rfl (Jvm.hb hby d_method_3_9) rfl (flt h7).2.1 (by decide) (by decide) ?_
        show Steps p.tables e below (T5.setTop (mkF m 18 #[.val (.int (Int32.ofNat i)), .val (.int cp), .val (.ref sx), .val (.long lc), .second] [])) _
        refine XS.lloadN X5.here hx rfl (Jvm.hb hby d_method_3_18) rfl ?_
        refine XS.bipush X5.here hx rfl (Jvm.hb hby d_method_3_19) ?_
        refine XS.iloadN X5.here hx rfl (Jvm.hb hby d_method_3_21) rfl ?_
        refine XS.imul X5.here hx rfl (Jvm.hb hby d_method_3_22) rfl ?_
        refine XS.lushr X5.here hx rfl (Jvm.hb hby d_method_3_23) rfl ?_
        refine X5.ldc2Long hx hown (mvT hZ (hw _ (List.mem_of_getElem? (i := 16) rfl))) (g := (mkF m 24 #[.val (.int (Int32.ofNat i)), .val (.int cp), .val (.ref sx), .val (.long lc), .second] [(.long (ushrJ lc ((8 : Int32) * (Int32.ofNat i))))])) rfl (Jvm.hb hby d_method_3_24) _ ?_
        show Steps p.tables e below (T5.setTop (mkF m 27 #[.val (.int (Int32.ofNat i)), .val (.int cp), .val (.ref sx), .val (.long lc), .second] [(.long (255 : Int64)), (.long (ushrJ lc ((8 : Int32) * (Int32.ofNat i))))])) _
        refine XS.land X5.here hx rfl (Jvm.hb hby d_method_3_27) rfl ?_
        refine XS.l2i X5.here hx rfl (Jvm.hb hby d_method_3_28) rfl ?_
        refine XS.i2c X5.here hx rfl (Jvm.hb hby d_method_3_29) rfl ?_
        show Steps p.tables e below (T5.setTop (mkF m 30 #[.val (.int (Int32.ofNat i)), .val (.int cp), .val (.ref sx), .val (.long lc), .second] [(.int (i2c (((ushrJ lc ((8 : Int32) * (Int32.ofNat i))) &&& (255 : Int64)).toInt32)))])) t_
        exact k_)
      obtain ⟨fs, hr, hrun, hended, hW, hsame⟩ := X5.leave (v := some (.int (nar .char (i2c (((ushrJ lc ((8 : Int32) * (Int32.ofNat i))) &&& (255 : Int64)).toInt32))))) (fun h => by rw [Bd.returns] at h; cases h)
      refine ⟨_, _, s11 _ ?_, hrun, hended, _, _, rfl, ?_, ⟨_, rfl⟩, hW, hsame.mono (by decide) (by decide)⟩
      · show Steps p.tables e below (T5.setTop (mkF m 30 #[.val (.int (Int32.ofNat i)), .val (.int cp), .val (.ref sx), .val (.long lc), .second] [(.int (i2c (((ushrJ lc ((8 : Int32) * (Int32.ofNat i))) &&& (255 : Int64)).toInt32)))])) _
        exact retN X5 hx (t := .char) Bd.returns (by simp) (Jvm.hb hby d_method_3_30) hr
      · show Q_rmPick Z _ _ _ _ _ _ _ _ _ h0 n0 _ T5.heap _
        rw [e5]
        exact ⟨(i2c (((ushrJ lc ((8 : Int32) * (Int32.ofNat i))) &&& (255 : Int64)).toInt32)), (by rw [own_nari2c]), N5, rfl, (own_d255 _).1, (own_d255 _).2⟩
theorem d_method_4_0 : decode method_4_code 0 = .ok (.iload_n 0, 1) := by decide +kernel
theorem d_method_4_1 : decode method_4_code 1 = .ok (.ifCond .ne 14, 3) := by decide +kernel
theorem d_method_4_4 : decode method_4_code 4 = .ok (.new 31, 3) := by decide +kernel
theorem d_method_4_7 : decode method_4_code 7 = .ok (.dup, 1) := by decide +kernel
theorem d_method_4_8 : decode method_4_code 8 = .ok (.iconst 0, 1) := by decide +kernel
theorem d_method_4_9 : decode method_4_code 9 = .ok (.newarray .char, 2) := by decide +kernel
theorem pd___C_V : parseMethodDescriptor "([C)V" = some ⟨[(.array .char)], none⟩ := by decide +kernel
theorem d_method_4_11 : decode method_4_code 11 = .ok (.invokespecial 64, 3) := by decide +kernel
theorem d_method_4_14 : decode method_4_code 14 = .ok (.areturn, 1) := by decide +kernel
theorem d_method_4_15 : decode method_4_code 15 = .ok (.iload_n 0, 1) := by decide +kernel
theorem d_method_4_16 : decode method_4_code 16 = .ok (.iconst 1, 1) := by decide +kernel
theorem d_method_4_17 : decode method_4_code 17 = .ok (.if_icmp .ne 20, 3) := by decide +kernel
theorem d_method_4_20 : decode method_4_code 20 = .ok (.new 31, 3) := by decide +kernel
theorem d_method_4_23 : decode method_4_code 23 = .ok (.dup, 1) := by decide +kernel
theorem d_method_4_24 : decode method_4_code 24 = .ok (.iconst 1, 1) := by decide +kernel
theorem d_method_4_25 : decode method_4_code 25 = .ok (.newarray .char, 2) := by decide +kernel
theorem d_method_4_27 : decode method_4_code 27 = .ok (.dup, 1) := by decide +kernel
theorem d_method_4_28 : decode method_4_code 28 = .ok (.iconst 0, 1) := by decide +kernel
theorem d_method_4_29 : decode method_4_code 29 = .ok (.aload_n 1, 1) := by decide +kernel
theorem d_method_4_30 : decode method_4_code 30 = .ok (.iconst 0, 1) := by decide +kernel
theorem d_method_4_31 : decode method_4_code 31 = .ok (.caload, 1) := by decide +kernel
theorem d_method_4_32 : decode method_4_code 32 = .ok (.castore, 1) := by decide +kernel
theorem d_method_4_33 : decode method_4_code 33 = .ok (.invokespecial 64, 3) := by decide +kernel
theorem d_method_4_36 : decode method_4_code 36 = .ok (.areturn, 1) := by decide +kernel
theorem d_method_4_37 : decode method_4_code 37 = .ok (.iload_n 0, 1) := by decide +kernel
theorem d_method_4_38 : decode method_4_code 38 = .ok (.iconst 2, 1) := by decide +kernel
theorem d_method_4_39 : decode method_4_code 39 = .ok (.if_icmp .ne 26, 3) := by decide +kernel
theorem d_method_4_42 : decode method_4_code 42 = .ok (.new 31, 3) := by decide +kernel
theorem d_method_4_45 : decode method_4_code 45 = .ok (.dup, 1) := by decide +kernel
theorem d_method_4_46 : decode method_4_code 46 = .ok (.iconst 2, 1) := by decide +kernel
theorem d_method_4_47 : decode method_4_code 47 = .ok (.newarray .char, 2) := by decide +kernel
theorem d_method_4_49 : decode method_4_code 49 = .ok (.dup, 1) := by decide +kernel
theorem d_method_4_50 : decode method_4_code 50 = .ok (.iconst 0, 1) := by decide +kernel
theorem d_method_4_51 : decode method_4_code 51 = .ok (.aload_n 1, 1) := by decide +kernel
theorem d_method_4_52 : decode method_4_code 52 = .ok (.iconst 0, 1) := by decide +kernel
theorem d_method_4_53 : decode method_4_code 53 = .ok (.caload, 1) := by decide +kernel
theorem d_method_4_54 : decode method_4_code 54 = .ok (.castore, 1) := by decide +kernel
theorem d_method_4_55 : decode method_4_code 55 = .ok (.dup, 1) := by decide +kernel
theorem d_method_4_56 : decode method_4_code 56 = .ok (.iconst 1, 1) := by decide +kernel
theorem d_method_4_57 : decode method_4_code 57 = .ok (.aload_n 1, 1) := by decide +kernel
theorem d_method_4_58 : decode method_4_code 58 = .ok (.iconst 1, 1) := by decide +kernel
theorem d_method_4_59 : decode method_4_code 59 = .ok (.caload, 1) := by decide +kernel
theorem d_method_4_60 : decode method_4_code 60 = .ok (.castore, 1) := by decide +kernel
theorem d_method_4_61 : decode method_4_code 61 = .ok (.invokespecial 64, 3) := by decide +kernel
theorem d_method_4_64 : decode method_4_code 64 = .ok (.areturn, 1) := by decide +kernel
theorem d_method_4_65 : decode method_4_code 65 = .ok (.iload_n 0, 1) := by decide +kernel
theorem d_method_4_66 : decode method_4_code 66 = .ok (.iconst 3, 1) := by decide +kernel
theorem d_method_4_67 : decode method_4_code 67 = .ok (.if_icmp .ne 32, 3) := by decide +kernel
theorem d_method_4_70 : decode method_4_code 70 = .ok (.new 31, 3) := by decide +kernel
theorem d_method_4_73 : decode method_4_code 73 = .ok (.dup, 1) := by decide +kernel
theorem d_method_4_74 : decode method_4_code 74 = .ok (.iconst 3, 1) := by decide +kernel
theorem d_method_4_75 : decode method_4_code 75 = .ok (.newarray .char, 2) := by decide +kernel
theorem d_method_4_77 : decode method_4_code 77 = .ok (.dup, 1) := by decide +kernel
theorem d_method_4_78 : decode method_4_code 78 = .ok (.iconst 0, 1) := by decide +kernel
theorem d_method_4_79 : decode method_4_code 79 = .ok (.aload_n 1, 1) := by decide +kernel
theorem d_method_4_80 : decode method_4_code 80 = .ok (.iconst 0, 1) := by decide +kernel
theorem d_method_4_81 : decode method_4_code 81 = .ok (.caload, 1) := by decide +kernel
theorem d_method_4_82 : decode method_4_code 82 = .ok (.castore, 1) := by decide +kernel
theorem d_method_4_83 : decode method_4_code 83 = .ok (.dup, 1) := by decide +kernel
theorem d_method_4_84 : decode method_4_code 84 = .ok (.iconst 1, 1) := by decide +kernel
theorem d_method_4_85 : decode method_4_code 85 = .ok (.aload_n 1, 1) := by decide +kernel
theorem d_method_4_86 : decode method_4_code 86 = .ok (.iconst 1, 1) := by decide +kernel
theorem d_method_4_87 : decode method_4_code 87 = .ok (.caload, 1) := by decide +kernel
theorem d_method_4_88 : decode method_4_code 88 = .ok (.castore, 1) := by decide +kernel
theorem d_method_4_89 : decode method_4_code 89 = .ok (.dup, 1) := by decide +kernel
theorem d_method_4_90 : decode method_4_code 90 = .ok (.iconst 2, 1) := by decide +kernel
theorem d_method_4_91 : decode method_4_code 91 = .ok (.aload_n 1, 1) := by decide +kernel
theorem d_method_4_92 : decode method_4_code 92 = .ok (.iconst 2, 1) := by decide +kernel
theorem d_method_4_93 : decode method_4_code 93 = .ok (.caload, 1) := by decide +kernel
theorem d_method_4_94 : decode method_4_code 94 = .ok (.castore, 1) := by decide +kernel
theorem d_method_4_95 : decode method_4_code 95 = .ok (.invokespecial 64, 3) := by decide +kernel
theorem d_method_4_98 : decode method_4_code 98 = .ok (.areturn, 1) := by decide +kernel
theorem d_method_4_99 : decode method_4_code 99 = .ok (.iload_n 0, 1) := by decide +kernel
theorem d_method_4_100 : decode method_4_code 100 = .ok (.iconst 4, 1) := by decide +kernel
theorem d_method_4_101 : decode method_4_code 101 = .ok (.if_icmp .ne 38, 3) := by decide +kernel
theorem d_method_4_104 : decode method_4_code 104 = .ok (.new 31, 3) := by decide +kernel
theorem d_method_4_107 : decode method_4_code 107 = .ok (.dup, 1) := by decide +kernel
theorem d_method_4_108 : decode method_4_code 108 = .ok (.iconst 4, 1) := by decide +kernel
theorem d_method_4_109 : decode method_4_code 109 = .ok (.newarray .char, 2) := by decide +kernel
theorem d_method_4_111 : decode method_4_code 111 = .ok (.dup, 1) := by decide +kernel
theorem d_method_4_112 : decode method_4_code 112 = .ok (.iconst 0, 1) := by decide +kernel
theorem d_method_4_113 : decode method_4_code 113 = .ok (.aload_n 1, 1) := by decide +kernel
theorem d_method_4_114 : decode method_4_code 114 = .ok (.iconst 0, 1) := by decide +kernel
theorem d_method_4_115 : decode method_4_code 115 = .ok (.caload, 1) := by decide +kernel
theorem d_method_4_116 : decode method_4_code 116 = .ok (.castore, 1) := by decide +kernel
theorem d_method_4_117 : decode method_4_code 117 = .ok (.dup, 1) := by decide +kernel
theorem d_method_4_118 : decode method_4_code 118 = .ok (.iconst 1, 1) := by decide +kernel
theorem d_method_4_119 : decode method_4_code 119 = .ok (.aload_n 1, 1) := by decide +kernel
theorem d_method_4_120 : decode method_4_code 120 = .ok (.iconst 1, 1) := by decide +kernel
theorem d_method_4_121 : decode method_4_code 121 = .ok (.caload, 1) := by decide +kernel
theorem d_method_4_122 : decode method_4_code 122 = .ok (.castore, 1) := by decide +kernel
theorem d_method_4_123 : decode method_4_code 123 = .ok (.dup, 1) := by decide +kernel
theorem d_method_4_124 : decode method_4_code 124 = .ok (.iconst 2, 1) := by decide +kernel
theorem d_method_4_125 : decode method_4_code 125 = .ok (.aload_n 1, 1) := by decide +kernel
theorem d_method_4_126 : decode method_4_code 126 = .ok (.iconst 2, 1) := by decide +kernel
theorem d_method_4_127 : decode method_4_code 127 = .ok (.caload, 1) := by decide +kernel
theorem d_method_4_128 : decode method_4_code 128 = .ok (.castore, 1) := by decide +kernel
theorem d_method_4_129 : decode method_4_code 129 = .ok (.dup, 1) := by decide +kernel
theorem d_method_4_130 : decode method_4_code 130 = .ok (.iconst 3, 1) := by decide +kernel
theorem d_method_4_131 : decode method_4_code 131 = .ok (.aload_n 1, 1) := by decide +kernel
theorem d_method_4_132 : decode method_4_code 132 = .ok (.iconst 3, 1) := by decide +kernel
theorem d_method_4_133 : decode method_4_code 133 = .ok (.caload, 1) := by decide +kernel
theorem d_method_4_134 : decode method_4_code 134 = .ok (.castore, 1) := by decide +kernel
theorem d_method_4_135 : decode method_4_code 135 = .ok (.invokespecial 64, 3) := by decide +kernel
theorem d_method_4_138 : decode method_4_code 138 = .ok (.areturn, 1) := by decide +kernel
theorem d_method_4_139 : decode method_4_code 139 = .ok (.iload_n 0, 1) := by decide +kernel
theorem d_method_4_140 : decode method_4_code 140 = .ok (.iconst 5, 1) := by decide +kernel
theorem d_method_4_141 : decode method_4_code 141 = .ok (.if_icmp .ne 44, 3) := by decide +kernel
theorem d_method_4_144 : decode method_4_code 144 = .ok (.new 31, 3) := by decide +kernel
theorem d_method_4_147 : decode method_4_code 147 = .ok (.dup, 1) := by decide +kernel
theorem d_method_4_148 : decode method_4_code 148 = .ok (.iconst 5, 1) := by decide +kernel
theorem d_method_4_149 : decode method_4_code 149 = .ok (.newarray .char, 2) := by decide +kernel
theorem d_method_4_151 : decode method_4_code 151 = .ok (.dup, 1) := by decide +kernel
theorem d_method_4_152 : decode method_4_code 152 = .ok (.iconst 0, 1) := by decide +kernel
theorem d_method_4_153 : decode method_4_code 153 = .ok (.aload_n 1, 1) := by decide +kernel
theorem d_method_4_154 : decode method_4_code 154 = .ok (.iconst 0, 1) := by decide +kernel
theorem d_method_4_155 : decode method_4_code 155 = .ok (.caload, 1) := by decide +kernel
theorem d_method_4_156 : decode method_4_code 156 = .ok (.castore, 1) := by decide +kernel
theorem d_method_4_157 : decode method_4_code 157 = .ok (.dup, 1) := by decide +kernel
theorem d_method_4_158 : decode method_4_code 158 = .ok (.iconst 1, 1) := by decide +kernel
theorem d_method_4_159 : decode method_4_code 159 = .ok (.aload_n 1, 1) := by decide +kernel
theorem d_method_4_160 : decode method_4_code 160 = .ok (.iconst 1, 1) := by decide +kernel
theorem d_method_4_161 : decode method_4_code 161 = .ok (.caload, 1) := by decide +kernel
theorem d_method_4_162 : decode method_4_code 162 = .ok (.castore, 1) := by decide +kernel
theorem d_method_4_163 : decode method_4_code 163 = .ok (.dup, 1) := by decide +kernel
theorem d_method_4_164 : decode method_4_code 164 = .ok (.iconst 2, 1) := by decide +kernel
theorem d_method_4_165 : decode method_4_code 165 = .ok (.aload_n 1, 1) := by decide +kernel
theorem d_method_4_166 : decode method_4_code 166 = .ok (.iconst 2, 1) := by decide +kernel
theorem d_method_4_167 : decode method_4_code 167 = .ok (.caload, 1) := by decide +kernel
theorem d_method_4_168 : decode method_4_code 168 = .ok (.castore, 1) := by decide +kernel
theorem d_method_4_169 : decode method_4_code 169 = .ok (.dup, 1) := by decide +kernel
theorem d_method_4_170 : decode method_4_code 170 = .ok (.iconst 3, 1) := by decide +kernel
theorem d_method_4_171 : decode method_4_code 171 = .ok (.aload_n 1, 1) := by decide +kernel
theorem d_method_4_172 : decode method_4_code 172 = .ok (.iconst 3, 1) := by decide +kernel
theorem d_method_4_173 : decode method_4_code 173 = .ok (.caload, 1) := by decide +kernel
theorem d_method_4_174 : decode method_4_code 174 = .ok (.castore, 1) := by decide +kernel
theorem d_method_4_175 : decode method_4_code 175 = .ok (.dup, 1) := by decide +kernel
theorem d_method_4_176 : decode method_4_code 176 = .ok (.iconst 4, 1) := by decide +kernel
theorem d_method_4_177 : decode method_4_code 177 = .ok (.aload_n 1, 1) := by decide +kernel
theorem d_method_4_178 : decode method_4_code 178 = .ok (.iconst 4, 1) := by decide +kernel
theorem d_method_4_179 : decode method_4_code 179 = .ok (.caload, 1) := by decide +kernel
theorem d_method_4_180 : decode method_4_code 180 = .ok (.castore, 1) := by decide +kernel
theorem d_method_4_181 : decode method_4_code 181 = .ok (.invokespecial 64, 3) := by decide +kernel
theorem d_method_4_184 : decode method_4_code 184 = .ok (.areturn, 1) := by decide +kernel
theorem d_method_4_185 : decode method_4_code 185 = .ok (.iload_n 0, 1) := by decide +kernel
theorem d_method_4_186 : decode method_4_code 186 = .ok (.bipush 6, 2) := by decide +kernel
theorem d_method_4_188 : decode method_4_code 188 = .ok (.if_icmp .ne 51, 3) := by decide +kernel
theorem d_method_4_191 : decode method_4_code 191 = .ok (.new 31, 3) := by decide +kernel
theorem d_method_4_194 : decode method_4_code 194 = .ok (.dup, 1) := by decide +kernel
theorem d_method_4_195 : decode method_4_code 195 = .ok (.bipush 6, 2) := by decide +kernel
theorem d_method_4_197 : decode method_4_code 197 = .ok (.newarray .char, 2) := by decide +kernel
theorem d_method_4_199 : decode method_4_code 199 = .ok (.dup, 1) := by decide +kernel
theorem d_method_4_200 : decode method_4_code 200 = .ok (.iconst 0, 1) := by decide +kernel
theorem d_method_4_201 : decode method_4_code 201 = .ok (.aload_n 1, 1) := by decide +kernel
theorem d_method_4_202 : decode method_4_code 202 = .ok (.iconst 0, 1) := by decide +kernel
theorem d_method_4_203 : decode method_4_code 203 = .ok (.caload, 1) := by decide +kernel
theorem d_method_4_204 : decode method_4_code 204 = .ok (.castore, 1) := by decide +kernel
theorem d_method_4_205 : decode method_4_code 205 = .ok (.dup, 1) := by decide +kernel
theorem d_method_4_206 : decode method_4_code 206 = .ok (.iconst 1, 1) := by decide +kernel
theorem d_method_4_207 : decode method_4_code 207 = .ok (.aload_n 1, 1) := by decide +kernel
theorem d_method_4_208 : decode method_4_code 208 = .ok (.iconst 1, 1) := by decide +kernel
theorem d_method_4_209 : decode method_4_code 209 = .ok (.caload, 1) := by decide +kernel
theorem d_method_4_210 : decode method_4_code 210 = .ok (.castore, 1) := by decide +kernel
theorem d_method_4_211 : decode method_4_code 211 = .ok (.dup, 1) := by decide +kernel
theorem d_method_4_212 : decode method_4_code 212 = .ok (.iconst 2, 1) := by decide +kernel
theorem d_method_4_213 : decode method_4_code 213 = .ok (.aload_n 1, 1) := by decide +kernel
theorem d_method_4_214 : decode method_4_code 214 = .ok (.iconst 2, 1) := by decide +kernel
theorem d_method_4_215 : decode method_4_code 215 = .ok (.caload, 1) := by decide +kernel
theorem d_method_4_216 : decode method_4_code 216 = .ok (.castore, 1) := by decide +kernel
theorem d_method_4_217 : decode method_4_code 217 = .ok (.dup, 1) := by decide +kernel
theorem d_method_4_218 : decode method_4_code 218 = .ok (.iconst 3, 1) := by decide +kernel
theorem d_method_4_219 : decode method_4_code 219 = .ok (.aload_n 1, 1) := by decide +kernel
theorem d_method_4_220 : decode method_4_code 220 = .ok (.iconst 3, 1) := by decide +kernel
theorem d_method_4_221 : decode method_4_code 221 = .ok (.caload, 1) := by decide +kernel
theorem d_method_4_222 : decode method_4_code 222 = .ok (.castore, 1) := by decide +kernel
theorem d_method_4_223 : decode method_4_code 223 = .ok (.dup, 1) := by decide +kernel
theorem d_method_4_224 : decode method_4_code 224 = .ok (.iconst 4, 1) := by decide +kernel
theorem d_method_4_225 : decode method_4_code 225 = .ok (.aload_n 1, 1) := by decide +kernel
theorem d_method_4_226 : decode method_4_code 226 = .ok (.iconst 4, 1) := by decide +kernel
theorem d_method_4_227 : decode method_4_code 227 = .ok (.caload, 1) := by decide +kernel
theorem d_method_4_228 : decode method_4_code 228 = .ok (.castore, 1) := by decide +kernel
theorem d_method_4_229 : decode method_4_code 229 = .ok (.dup, 1) := by decide +kernel
theorem d_method_4_230 : decode method_4_code 230 = .ok (.iconst 5, 1) := by decide +kernel
theorem d_method_4_231 : decode method_4_code 231 = .ok (.aload_n 1, 1) := by decide +kernel
theorem d_method_4_232 : decode method_4_code 232 = .ok (.iconst 5, 1) := by decide +kernel
theorem d_method_4_233 : decode method_4_code 233 = .ok (.caload, 1) := by decide +kernel
theorem d_method_4_234 : decode method_4_code 234 = .ok (.castore, 1) := by decide +kernel
theorem d_method_4_235 : decode method_4_code 235 = .ok (.invokespecial 64, 3) := by decide +kernel
theorem d_method_4_238 : decode method_4_code 238 = .ok (.areturn, 1) := by decide +kernel
theorem d_method_4_239 : decode method_4_code 239 = .ok (.new 31, 3) := by decide +kernel
theorem d_method_4_242 : decode method_4_code 242 = .ok (.dup, 1) := by decide +kernel
theorem d_method_4_243 : decode method_4_code 243 = .ok (.bipush 7, 2) := by decide +kernel
theorem d_method_4_245 : decode method_4_code 245 = .ok (.newarray .char, 2) := by decide +kernel
theorem d_method_4_247 : decode method_4_code 247 = .ok (.dup, 1) := by decide +kernel
theorem d_method_4_248 : decode method_4_code 248 = .ok (.iconst 0, 1) := by decide +kernel
theorem d_method_4_249 : decode method_4_code 249 = .ok (.aload_n 1, 1) := by decide +kernel
theorem d_method_4_250 : decode method_4_code 250 = .ok (.iconst 0, 1) := by decide +kernel
theorem d_method_4_251 : decode method_4_code 251 = .ok (.caload, 1) := by decide +kernel
theorem d_method_4_252 : decode method_4_code 252 = .ok (.castore, 1) := by decide +kernel
theorem d_method_4_253 : decode method_4_code 253 = .ok (.dup, 1) := by decide +kernel
theorem d_method_4_254 : decode method_4_code 254 = .ok (.iconst 1, 1) := by decide +kernel
theorem d_method_4_255 : decode method_4_code 255 = .ok (.aload_n 1, 1) := by decide +kernel
theorem d_method_4_256 : decode method_4_code 256 = .ok (.iconst 1, 1) := by decide +kernel
theorem d_method_4_257 : decode method_4_code 257 = .ok (.caload, 1) := by decide +kernel
theorem d_method_4_258 : decode method_4_code 258 = .ok (.castore, 1) := by decide +kernel
theorem d_method_4_259 : decode method_4_code 259 = .ok (.dup, 1) := by decide +kernel
theorem d_method_4_260 : decode method_4_code 260 = .ok (.iconst 2, 1) := by decide +kernel
theorem d_method_4_261 : decode method_4_code 261 = .ok (.aload_n 1, 1) := by decide +kernel
theorem d_method_4_262 : decode method_4_code 262 = .ok (.iconst 2, 1) := by decide +kernel
theorem d_method_4_263 : decode method_4_code 263 = .ok (.caload, 1) := by decide +kernel
theorem d_method_4_264 : decode method_4_code 264 = .ok (.castore, 1) := by decide +kernel
theorem d_method_4_265 : decode method_4_code 265 = .ok (.dup, 1) := by decide +kernel
theorem d_method_4_266 : decode method_4_code 266 = .ok (.iconst 3, 1) := by decide +kernel
theorem d_method_4_267 : decode method_4_code 267 = .ok (.aload_n 1, 1) := by decide +kernel
theorem d_method_4_268 : decode method_4_code 268 = .ok (.iconst 3, 1) := by decide +kernel
theorem d_method_4_269 : decode method_4_code 269 = .ok (.caload, 1) := by decide +kernel
theorem d_method_4_270 : decode method_4_code 270 = .ok (.castore, 1) := by decide +kernel
theorem d_method_4_271 : decode method_4_code 271 = .ok (.dup, 1) := by decide +kernel
theorem d_method_4_272 : decode method_4_code 272 = .ok (.iconst 4, 1) := by decide +kernel
theorem d_method_4_273 : decode method_4_code 273 = .ok (.aload_n 1, 1) := by decide +kernel
theorem d_method_4_274 : decode method_4_code 274 = .ok (.iconst 4, 1) := by decide +kernel
theorem d_method_4_275 : decode method_4_code 275 = .ok (.caload, 1) := by decide +kernel
theorem d_method_4_276 : decode method_4_code 276 = .ok (.castore, 1) := by decide +kernel
theorem d_method_4_277 : decode method_4_code 277 = .ok (.dup, 1) := by decide +kernel
theorem d_method_4_278 : decode method_4_code 278 = .ok (.iconst 5, 1) := by decide +kernel
theorem d_method_4_279 : decode method_4_code 279 = .ok (.aload_n 1, 1) := by decide +kernel
theorem d_method_4_280 : decode method_4_code 280 = .ok (.iconst 5, 1) := by decide +kernel
theorem d_method_4_281 : decode method_4_code 281 = .ok (.caload, 1) := by decide +kernel
theorem d_method_4_282 : decode method_4_code 282 = .ok (.castore, 1) := by decide +kernel
theorem d_method_4_283 : decode method_4_code 283 = .ok (.dup, 1) := by decide +kernel
theorem d_method_4_284 : decode method_4_code 284 = .ok (.bipush 6, 2) := by decide +kernel
theorem d_method_4_286 : decode method_4_code 286 = .ok (.aload_n 1, 1) := by decide +kernel
theorem d_method_4_287 : decode method_4_code 287 = .ok (.bipush 6, 2) := by decide +kernel
theorem d_method_4_289 : decode method_4_code 289 = .ok (.caload, 1) := by decide +kernel
theorem d_method_4_290 : decode method_4_code 290 = .ok (.castore, 1) := by decide +kernel
theorem d_method_4_291 : decode method_4_code 291 = .ok (.invokespecial 64, 3) := by decide +kernel
theorem d_method_4_294 : decode method_4_code 294 = .ok (.areturn, 1) := by decide +kernel
theorem ef_rmMk (m : MethodId) (x0 : Int32) (x1 : Addr) : entryFrame m #[(.int x0), (.ref x1)] 2 = mkF m 0 #[.val (.int x0), .val (.ref x1)] [] := by first | (simp [entryFrame, mkF, argsToLocals, Value.category]; done) | rfl
def Q_rmMk (Z : State) (bu : Addr) (cst : Int32) (n : Nat) (k7 : ClassId) (c0_ : Int32) (c1_ : Int32) (c2_ : Int32) (c3_ : Int32) (c4_ : Int32) (c5_ : Int32) (c6_ : Int32) (h0 : Heap) (n0 : Nat) (v : Option Value) (h : Heap) (L : List Loc) : Prop := ∃ (a : Addr), ∃ (b : Addr), ∃ (kb : ClassId), (v = some (.ref a)) ∧ (Fr n0 L) ∧ (Keep h0 h []) ∧ (Exa Z h a "java/lang/String") ∧ (Fld Z h a "java/lang/String" "value" "[B" (.ref b)) ∧ (Fld Z h a "java/lang/String" "coder" "B" (.int (own_cod (own_mk7 n c0_ c1_ c2_ c3_ c4_ c5_ c6_)))) ∧ (Arv Z h b kb .byte (Int32.ofNat (own_enl (own_mk7 n c0_ c1_ c2_ c3_ c4_ c5_ c6_))) (own_enc (own_mk7 n c0_ c1_ c2_ c3_ c4_ c5_ c6_)) (.int (0 : Int32))) ∧ (h0.size ≤ a)
set_option maxRecDepth 65536 in
set_option maxHeartbeats 40000000 in
theorem rmMk (l : Launch) (Z : State) (a0 : Array Value) (hw : ∀ d ∈ tables_1, d.before a0 Z = true) (ws : List Jvm.Cond) (bu : Addr) (cst : Int32) (n : Nat) (k7 : ClassId) (c0_ : Int32) (c1_ : Int32) (c2_ : Int32) (c3_ : Int32) (c4_ : Int32) (c5_ : Int32) (c6_ : Int32) (h0 : Heap) (n0 : Nat) (Z0 : n0 ≤ h0.size) (I1 : Sta Z Z.heap "java/lang/String" "COMPACT_STRINGS" "Z" (.int cst)) (OX : Old Z n0 h0) (hcst : ¬ (cst = (0 : Int32))) (I2 : Arv Z h0 bu k7 .char (7 : Int32) [(.int c0_), (.int c1_), (.int c2_), (.int c3_), (.int c4_), (.int c5_), (.int c6_)] (.int (0 : Int32))) (hn8 : n < 8) (r0a : ¬ (c0_ < (0 : Int32))) (r1a : ¬ (c1_ < (0 : Int32))) (r2a : ¬ (c2_ < (0 : Int32))) (r3a : ¬ (c3_ < (0 : Int32))) (r4a : ¬ (c4_ < (0 : Int32))) (r5a : ¬ (c5_ < (0 : Int32))) (r6a : ¬ (c6_ < (0 : Int32))) (r0b : ¬ ((255 : Int32) < c0_)) (r1b : ¬ ((255 : Int32) < c1_)) (r2b : ¬ ((255 : Int32) < c2_)) (r3b : ¬ ((255 : Int32) < c3_)) (r4b : ¬ ((255 : Int32) < c4_)) (r5b : ¬ ((255 : Int32) < c5_)) (r6b : ¬ ((255 : Int32) < c6_)) :
    MetFree l (⟨"com/example/coyote_hill/coyotehill/ItemStateFromNamePinLaw", "mk", "(I[C)Ljava/lang/String;"⟩ : MethodName) (head1 (Jvm.Cond.code (⟨"com/example/coyote_hill/coyotehill/ItemStateFromNamePinLaw", "mk", "(I[C)Ljava/lang/String;"⟩ : MethodName) method_4_code 2 (some (.object "java/lang/String")) :: ws) ({ frames := 4, cells := 6, slots := 19, locals := 66 } : Room)) (fun ar_ U => ar_ = #[(.int (Int32.ofNat n)), (.ref bu)] ∧ Z.Warmed39 U.vm ∧ U.heap = h0 ∧ CHv Z ELs U.vm h0) (fun _ _ _ _ _ => True) (fun _ U oc_ U' => ∃ v L, oc_ = .returned v ∧ Q_rmMk Z bu cst n k7 c0_ c1_ c2_ c3_ c4_ c5_ c6_ h0 n0 v U'.heap L ∧ CHr Z ELs U.vm U.heap U'.vm U'.heap ∧ ReturnedEndW U oc_ U' L ({ frames := 4, cells := 6, slots := 19, locals := 66 } : Room).cells ({ frames := 4, cells := 6, slots := 19, locals := 66 } : Room).slots) := by
  refine MetFree.of_bodySF (plainFor_of_name pn_com_example_coyote_hill_coyotehill_ItemStateFromNamePinLaw) hisR ?_
  intro p e s m args below meth c s₁ Bd hml0 hP hK
  obtain ⟨rfl, hZ, hh, hCH⟩ := hP
  have hx := Bd.exec
  have hby := Bd.bytes
  have hml : c.maxLocals = 2 := hml0
  have hown : s.vm.findClass "com/example/coyote_hill/coyotehill/ItemStateFromNamePinLaw" = some m.cls := findClass_of_methodNamed Bd.named
  have hnm := (name_of_methodNamed Bd.named Bd.method).1
  have X0 : Stand p l e ({ frames := 4, cells := 6, slots := 19, locals := 66 } : Room) (s.setVm s.vm) m #[(.int (Int32.ofNat n)), (.ref bu)] below meth c s₁ [] 0 0 := Stand.of_body Bd
  have e0 : s₁.heap = h0 := by rw [← hh, Bd.state]; rfl
  have N0 := Fr.nil n0
  have pre0 : ∀ t_, Steps p.tables e below (s₁.setTop (mkF m 0 #[.val (.int (Int32.ofNat n)), .val (.ref bu)] [])) t_ → Steps p.tables e below (s₁.setTop (entryFrame m #[(.int (Int32.ofNat n)), (.ref bu)] 2)) t_ := fun t_ k_ => castTop (ef_rmMk m (Int32.ofNat n) bu) k_
  have hEL : EW Z a0 ELs := own_EW hw
  have wS : ∀ a ∈ Bundle.stringAtoms, a.before a0 Z = true := own_wS hw
  have hS : s.Since s.vm s.heap.size := (State.WarmedH.refl s).since _
  have hk : s.heap.size ≤ h0.size := by rw [hh]; exact Nat.le_refl _
  have CR : CHr Z ELs s.vm h0 s.vm h0 := CHr.refl hCH
  have lt_I2 : @LT.lt Nat _ bu h0.size := I2.lt
  obtain rfl | rfl | rfl | rfl | rfl | rfl | rfl | rfl : n = 0 ∨ n = 1 ∨ n = 2 ∨ n = 3 ∨ n = 4 ∨ n = 5 ∨ n = 6 ∨ n = 7 := by omega
  · have hcase := trivial
    obtain ⟨T1, h1, X1, e1, E1, A1, D1, -, st1⟩ := newO X0 hx hZ hown (hw _ (List.mem_of_getElem? (i := 20) rfl)) (hw _ (List.mem_of_getElem? (i := 2) rfl)) (hw _ (List.mem_of_getElem? (i := 1) rfl)) e0 (g := (mkF m 4 #[.val (.int (0 : Int32)), .val (.ref bu)] [])) rfl (Jvm.hb hby d_method_4_4) (by decide) (by decide)
    obtain ⟨b1, g1⟩ : ∃ z, z = h0.size := ⟨_, rfl⟩
    rw [← g1] at A1 D1 st1
    have z2 : h0.size ≤ h1.size := E1.1
    have Sf3 : Safe Z ELs s.vm h1 b1 := Safe.ext E1 CR.1 (Safe.new (by omega))
    have Cp2 : CHr Z ELs s.vm h0 s.vm h1 := CHr.ext E1 CR.1
    have hk := Nat.le_trans hk z2
    have CR := CR.trans Cp2
    have l1 : b1 < h1.size := A1.lt
    have F4 : Fld Z h1 b1 "java/lang/String" "value" "[B" .null := D1 (Or.inr (hw _ (List.mem_of_getElem? (i := 4) rfl))) (ty := (.array .byte)) (by decide)
    have F5 : Fld Z h1 b1 "java/lang/String" "coder" "B" (.int (0 : Int32)) := D1 (Or.inr (hw _ (List.mem_of_getElem? (i := 5) rfl))) (ty := .byte) (by decide)
    obtain ⟨T6, h6, k6, X6, e6, E6, A6, st6⟩ := newP X1 hx hZ (hw _ (List.mem_of_getElem? (i := 11) rfl)) e1 (g := (mkF m 9 #[.val (.int (0 : Int32)), .val (.ref bu)] [(.int (0 : Int32)), (.ref b1), (.ref b1)])) rfl (Jvm.hb hby d_method_4_9) rfl (by decide) (cap := 0) (by decide) (by decide) (by decide) (by decide)
    obtain ⟨b6, g6⟩ : ∃ z, z = h1.size := ⟨_, rfl⟩
    rw [← g6] at A6 st6
    have z7 : h1.size ≤ h6.size := E6.1
    have Cp7 : CHr Z ELs s.vm h1 s.vm h6 := CHr.ext E6 CR.1
    have hk := Nat.le_trans hk z7
    have CR := CR.trans Cp7
    have l6 : b6 < h6.size := A6.lt
    have V6 : Arv Z h6 b6 k6 .char (0 : Int32) [] (.int (0 : Int32)) := (Arv.new A6 (by decide)).pad (pad_rep [] (.int (0 : Int32)) 0)
    have O8 : Old Z n0 h6 := ((OX.ext E1).ext E6)
    have f9 : Exa Z h6 b1 "java/lang/String" := (A1.ext E6)
    have f10 : Fld Z h6 b1 "java/lang/String" "value" "[B" .null := (F4.ext E6)
    have f11 : Fld Z h6 b1 "java/lang/String" "coder" "B" (.int (0 : Int32)) := (F5.ext E6)
    have Zc12 : n0 ≤ h6.size := by omega
    have s14 : ∀ t_, Steps p.tables e below (T6.setTop (mkF m 11 #[.val (.int (0 : Int32)), .val (.ref bu)] [(.ref b6), (.ref b1), (.ref b1)])) t_ → Steps p.tables e below (s₁.setTop (entryFrame m #[(.int (0 : Int32)), (.ref bu)] 2)) t_ := fun t_ k_ => pre0 t_ (by
      show Steps p.tables e below (s₁.setTop (mkF m 0 #[.val (.int (0 : Int32)), .val (.ref bu)] [])) t_
      refine XS.iloadN X0.here hx rfl (Jvm.hb hby d_method_4_0) rfl ?_
      refine XS.ifNo X0.here hx rfl (Jvm.hb hby d_method_4_1) rfl ((if0 _ _).trans (teq (rfl : (0 : Int32) = (0 : Int32))).2) ?_
      show Steps p.tables e below (s₁.setTop (mkF m 4 #[.val (.int (0 : Int32)), .val (.ref bu)] [])) _
      refine st1 _ ?_
      show Steps p.tables e below (T1.setTop (mkF m 7 #[.val (.int (0 : Int32)), .val (.ref bu)] [(.ref b1)])) _
      refine XS.dup X1.here hx rfl (Jvm.hb hby d_method_4_7) rfl rfl ?_
      refine XS.iconst X1.here hx rfl (Jvm.hb hby d_method_4_8) ?_
      refine st6 _ ?_
      show Steps p.tables e below (T6.setTop (mkF m 11 #[.val (.int (0 : Int32)), .val (.ref bu)] [(.ref b6), (.ref b1), (.ref b1)])) _
      show Steps p.tables e below (T6.setTop (mkF m 11 #[.val (.int (0 : Int32)), .val (.ref bu)] [(.ref b6), (.ref b1), (.ref b1)])) t_
      exact k_)
    obtain ⟨_, _, ⟨T13, L13, k13, n13⟩, -, Xr13, hSr13, hg13, ⟨Lc13, hQ13, l13, y13, z13, Cp13⟩, st13⟩ := X6.specialBackS hx (y := (⟨"java/lang/String", "<init>", "([C)V"⟩ : MethodName)) rfl hown (mvT hZ (hw _ (List.mem_of_getElem? (i := 21) rfl))) (mvT hZ (hw _ (List.mem_of_getElem? (i := 22) rfl))) (mvT hZ (hw _ (List.mem_of_getElem? (i := 23) rfl))) (by decide) (backOfSH (s := s) (vm0 := s.vm) (W := 1) (rmIni1 l Z a0 hw [] b1 b6 cst ([] : List Int32) k6 0 h6 n0 Zc12 I1 O8 (hcst : ¬ (cst = (0 : Int32))) f9 f10 f11 V6 rfl (by first | assumption | omega | rfl | decide : 0 ≤ 7) own_lat0 (by first | assumption | omega | rfl | decide : n0 ≤ b1) (by first | assumption | omega | rfl | decide : @Ne Nat b1 b6)) hZ (hw _ (List.mem_of_getElem? (i := 23) rfl)) (hw _ (List.mem_of_getElem? (i := 1) rfl)) (by decide) (by decide) hEL CR.1) (g := (mkF m 11 #[.val (.int (0 : Int32)), .val (.ref bu)] [(.ref b6), (.ref b1), (.ref b1)])) rfl (by rw [hml]; rfl) (Steps.refl _) (a := b1) (argsL := [(.ref b6)]) (rest := [(.ref b1)]) (lenOf pd___C_V rfl) rfl (by show 2 * 0 + _ ≤ _; exact Nat.le_of_eq rfl) (Jvm.hb hby d_method_4_11) (fun _ _ => ⟨rfl, e6, (by decide : 2 + 4 ≤ _), (by decide : 4 + 8 ≤ _)⟩)
    dsimp only [Pt.U, Pt.locs, Pt.cells, Pt.slots] at Xr13 hSr13 hg13 l13 y13 z13 st13 hQ13 Cp13
    subst l13 y13 z13
    obtain ⟨X13, hS, hZ, hown⟩ := rebS (own := "com/example/coyote_hill/coyotehill/ItemStateFromNamePinLaw") hS (by first | exact Nat.le_refl _ | (rw [e6]; exact hk)) Xr13 hSr13 hg13 hZ hown
    obtain ⟨b_13, kb_13, rfl, N13q, K13, Fq13_0, Fq13_1, Fq13_2, Fq13_3⟩ := hQ13
    have N13 := Fr.app N0 N13q
    obtain ⟨h13, e13⟩ : ∃ z, T13.heap = z := ⟨_, rfl⟩
    rw [e13] at K13 Fq13_0 Fq13_1 Fq13_2 Fq13_3 Cp13
    have hk : T13.heap.size ≤ h13.size := Nat.le_of_eq (congrArg Array.size e13)
    have z15 : h6.size ≤ h13.size := K13.1
    have CR := CR.trans Cp13
    have lt13_0 : @LT.lt Nat _ b1 h13.size := Fq13_0.lt
    have lt13_3 : @LT.lt Nat _ b_13 h13.size := Fq13_3.lt
    have s16 : ∀ t_, Steps p.tables e below (T13.setTop (mkF m 14 #[.val (.int (0 : Int32)), .val (.ref bu)] [(.ref b1)])) t_ → Steps p.tables e below (s₁.setTop (entryFrame m #[(.int (0 : Int32)), (.ref bu)] 2)) t_ := fun t_ k_ => s14 t_ (by
      show Steps p.tables e below (T6.setTop (mkF m 11 #[.val (.int (0 : Int32)), .val (.ref bu)] [(.ref b6), (.ref b1), (.ref b1)])) t_
      refine st13.trans ?_
      show Steps p.tables e below (T13.setTop (mkF m 14 #[.val (.int (0 : Int32)), .val (.ref bu)] [(.ref b1)])) _
      show Steps p.tables e below (T13.setTop (mkF m 14 #[.val (.int (0 : Int32)), .val (.ref bu)] [(.ref b1)])) t_
      exact k_)
    obtain ⟨fs, hr, hrun, hended, hREW⟩ := X13.leaveW hS (by first | exact Nat.le_refl _ | (rw [e13]; exact hk)) (v := some (.ref b1)) (fun h => by rw [Bd.returns] at h; cases h)
    refine ⟨_, _, s16 _ ?_, hrun, hended, _, _, rfl, ?_, (by show CHr Z ELs s.vm s.heap T13.vm T13.heap; rw [hh, e13]; exact CR.trans (CHv.at X13 hZ hEL CR.1)), hREW.1, hREW.2.1, hREW.2.2.1, hREW.2.2.2.mono (by decide) (by decide)⟩
    · show Steps p.tables e below (T13.setTop (mkF m 14 #[.val (.int (0 : Int32)), .val (.ref bu)] [(.ref b1)])) _
      jvm_step X13.here [X13.here.top, hx, (Jvm.hb hby d_method_4_14), X13.method', Bd.returns, Value.isRef, FieldType.isReference]
      first | (intro acts; rw [hr _ acts rfl rfl rfl]) | rw [hr _ _ rfl rfl rfl]
      exact Steps.refl _
    · show Q_rmMk Z _ _ _ _ _ _ _ _ _ _ _ h0 n0 _ T13.heap _
      rw [e13]
      exact ⟨b1, b_13, kb_13, rfl, N13, ((((Keep.refl h0 []).ext E1).ext E6).trans K13 (allS (Or.inr (show h0.size ≤ b1 by omega)) all0)), Fq13_0, Fq13_1, Fq13_2, Fq13_3, by omega⟩
  · have hcase := trivial
    obtain ⟨T17, h17, X17, e17, E17, A17, D17, -, st17⟩ := newO X0 hx hZ hown (hw _ (List.mem_of_getElem? (i := 20) rfl)) (hw _ (List.mem_of_getElem? (i := 2) rfl)) (hw _ (List.mem_of_getElem? (i := 1) rfl)) e0 (g := (mkF m 20 #[.val (.int (1 : Int32)), .val (.ref bu)] [])) rfl (Jvm.hb hby d_method_4_20) (by decide) (by decide)
    obtain ⟨b17, g17⟩ : ∃ z, z = h0.size := ⟨_, rfl⟩
    rw [← g17] at A17 D17 st17
    have z18 : h0.size ≤ h17.size := E17.1
    have Sf19 : Safe Z ELs s.vm h17 b17 := Safe.ext E17 CR.1 (Safe.new (by omega))
    have Cp18 : CHr Z ELs s.vm h0 s.vm h17 := CHr.ext E17 CR.1
    have hk := Nat.le_trans hk z18
    have CR := CR.trans Cp18
    have l17 : b17 < h17.size := A17.lt
    have F20 : Fld Z h17 b17 "java/lang/String" "value" "[B" .null := D17 (Or.inr (hw _ (List.mem_of_getElem? (i := 4) rfl))) (ty := (.array .byte)) (by decide)
    have F21 : Fld Z h17 b17 "java/lang/String" "coder" "B" (.int (0 : Int32)) := D17 (Or.inr (hw _ (List.mem_of_getElem? (i := 5) rfl))) (ty := .byte) (by decide)
    obtain ⟨T22, h22, k22, X22, e22, E22, A22, st22⟩ := newP X17 hx hZ (hw _ (List.mem_of_getElem? (i := 11) rfl)) e17 (g := (mkF m 25 #[.val (.int (1 : Int32)), .val (.ref bu)] [(.int (1 : Int32)), (.ref b17), (.ref b17)])) rfl (Jvm.hb hby d_method_4_25) rfl (by decide) (cap := 1) (by decide) (by decide) (by decide) (by decide)
    obtain ⟨b22, g22⟩ : ∃ z, z = h17.size := ⟨_, rfl⟩
    rw [← g22] at A22 st22
    have z23 : h17.size ≤ h22.size := E22.1
    have Cp23 : CHr Z ELs s.vm h17 s.vm h22 := CHr.ext E22 CR.1
    have hk := Nat.le_trans hk z23
    have CR := CR.trans Cp23
    have l22 : b22 < h22.size := A22.lt
    have V22 : Arv Z h22 b22 k22 .char (1 : Int32) [(.int (0 : Int32))] (.int (0 : Int32)) := (Arv.new A22 (by decide)).pad (pad_rep [] (.int (0 : Int32)) 1)
    have f24 : Arv Z h22 bu k7 .char (7 : Int32) [(.int c0_), (.int c1_), (.int c2_), (.int c3_), (.int c4_), (.int c5_), (.int c6_)] (.int (0 : Int32)) := ((I2.ext E17).ext E22)
    obtain ⟨cl25, Ar25, -, S25, M25, H25, -⟩ := id f24
    have hin25 : ¬ ((0 : Int32) < 0 ∨ cl25.slots.size ≤ ((0 : Int32)).toNatClampNeg) := inb_of S25 ⟨by decide, by decide⟩
    have hat25 : cl25.slots[((0 : Int32)).toNatClampNeg]? = some (.int c0_) := H25.at hin25 (rfl)
    obtain ⟨cl26, Ar26, q26, S26, M26, H26, G26⟩ := id V22
    have hin26 : ¬ ((0 : Int32) < 0 ∨ cl26.slots.size ≤ ((0 : Int32)).toNatClampNeg) := inb_of S26 ⟨by decide, by decide⟩
    obtain ⟨T27, h27, X27, e27, W27, st27⟩ := stC X22 hx hZ e22 Ar26 (j := (0 : Int32)) hin26 (g := (mkF m 32 #[.val (.int (1 : Int32)), .val (.ref bu)] [(.int c0_), (.int (0 : Int32)), (.ref b22), (.ref b22), (.ref b17), (.ref b17)])) rfl rfl (Jvm.hb hby d_method_4_32)
    have z28 : h22.size ≤ h27.size := Nat.le_of_eq W27.size.symm
    have Cp28 : CHr Z ELs s.vm h22 s.vm h27 := CHr.wr W27 (Safe.arv hZ.alike V22 (by decide)) CR.1
    have hk := Nat.le_trans hk z28
    have CR := CR.trans Cp28
    have V27 : Arv Z h27 b22 k22 .char (1 : Int32) [(.int c0_)] (.int (0 : Int32)) := by have q : Arv Z h27 b22 k22 .char (1 : Int32) [(.int (nar .char c0_))] (.int (0 : Int32)) := Arv.set Ar26 q26 S26 M26 H26 G26 (fits_nar_char _) W27 0 rfl (Nat.le_of_ble_eq_true rfl); rw [show nar .char c0_ = c0_ from own_narc r0a (own_le64k r0b)] at q; exact q
    have N27 := Fr.snoc X27 N0 (show n0 ≤ b22 by omega)
    have O29 : Old Z n0 h27 := (((OX.ext E17).ext E22).wr W27 (show n0 ≤ b22 by omega))
    have f30 : Exa Z h27 b17 "java/lang/String" := ((A17.ext E22).wr W27)
    have f31 : Fld Z h27 b17 "java/lang/String" "value" "[B" .null := ((F20.ext E22).other W27 (Or.inl (show @Ne Nat b17 b22 by omega)))
    have f32 : Fld Z h27 b17 "java/lang/String" "coder" "B" (.int (0 : Int32)) := ((F21.ext E22).other W27 (Or.inl (show @Ne Nat b17 b22 by omega)))
    have Zc33 : n0 ≤ h27.size := by omega
    have s35 : ∀ t_, Steps p.tables e below (T27.setTop (mkF m 33 #[.val (.int (1 : Int32)), .val (.ref bu)] [(.ref b22), (.ref b17), (.ref b17)])) t_ → Steps p.tables e below (s₁.setTop (entryFrame m #[(.int (1 : Int32)), (.ref bu)] 2)) t_ := fun t_ k_ => pre0 t_ (by
      show Steps p.tables e below (s₁.setTop (mkF m 0 #[.val (.int (1 : Int32)), .val (.ref bu)] [])) t_
      refine XS.iloadN X0.here hx rfl (Jvm.hb hby d_method_4_0) rfl ?_
      refine XS.ifYes X0.here hx rfl (pc0 := 1) (pc' := 15) rfl (Jvm.hb hby d_method_4_1) rfl ((if0 _ _).trans (feq (by decide : ¬ ((1 : Int32) = (0 : Int32)))).2) (by decide) (by decide) ?_
      show Steps p.tables e below (s₁.setTop (mkF m 15 #[.val (.int (1 : Int32)), .val (.ref bu)] [])) _
      refine XS.iloadN X0.here hx rfl (Jvm.hb hby d_method_4_15) rfl ?_
      refine XS.iconst X0.here hx rfl (Jvm.hb hby d_method_4_16) ?_
      refine XS.icmpNo X0.here hx rfl (Jvm.hb hby d_method_4_17) rfl (teq (rfl : (1 : Int32) = (1 : Int32))).2 ?_
      show Steps p.tables e below (s₁.setTop (mkF m 20 #[.val (.int (1 : Int32)), .val (.ref bu)] [])) _
      refine st17 _ ?_
      show Steps p.tables e below (T17.setTop (mkF m 23 #[.val (.int (1 : Int32)), .val (.ref bu)] [(.ref b17)])) _
      refine XS.dup X17.here hx rfl (Jvm.hb hby d_method_4_23) rfl rfl ?_
      refine XS.iconst X17.here hx rfl (Jvm.hb hby d_method_4_24) ?_
      refine st22 _ ?_
      show Steps p.tables e below (T22.setTop (mkF m 27 #[.val (.int (1 : Int32)), .val (.ref bu)] [(.ref b22), (.ref b17), (.ref b17)])) _
      refine XS.dup X22.here hx rfl (Jvm.hb hby d_method_4_27) rfl rfl ?_
      refine XS.iconst X22.here hx rfl (Jvm.hb hby d_method_4_28) ?_
      refine XS.aloadN X22.here hx rfl (Jvm.hb hby d_method_4_29) rfl rfl ?_
      refine XS.iconst X22.here hx rfl (Jvm.hb hby d_method_4_30) ?_
      refine X22.caload hx (j := (0 : Int32)) (v := (.int c0_)) (by rw [e22]; exact Ar25.1) (State.isArrayOf_alike hZ.alike Ar25.2.1) Ar25.2.2 hin25 hat25 (g := (mkF m 31 #[.val (.int (1 : Int32)), .val (.ref bu)] [(.int (0 : Int32)), (.ref bu), (.int (0 : Int32)), (.ref b22), (.ref b22), (.ref b17), (.ref b17)])) rfl rfl (Jvm.hb hby d_method_4_31) _ ?_
      show Steps p.tables e below (T22.setTop (mkF m 32 #[.val (.int (1 : Int32)), .val (.ref bu)] [(.int c0_), (.int (0 : Int32)), (.ref b22), (.ref b22), (.ref b17), (.ref b17)])) _
      refine st27 _ ?_
      show Steps p.tables e below (T27.setTop (mkF m 33 #[.val (.int (1 : Int32)), .val (.ref bu)] [(.ref b22), (.ref b17), (.ref b17)])) _
      show Steps p.tables e below (T27.setTop (mkF m 33 #[.val (.int (1 : Int32)), .val (.ref bu)] [(.ref b22), (.ref b17), (.ref b17)])) t_
      exact k_)
    obtain ⟨_, _, ⟨T34, L34, k34, n34⟩, -, Xr34, hSr34, hg34, ⟨Lc34, hQ34, l34, y34, z34, Cp34⟩, st34⟩ := X27.specialBackS hx (y := (⟨"java/lang/String", "<init>", "([C)V"⟩ : MethodName)) rfl hown (mvT hZ (hw _ (List.mem_of_getElem? (i := 21) rfl))) (mvT hZ (hw _ (List.mem_of_getElem? (i := 22) rfl))) (mvT hZ (hw _ (List.mem_of_getElem? (i := 23) rfl))) (by decide) (backOfSH (s := s) (vm0 := s.vm) (W := 1) (rmIni1 l Z a0 hw [] b17 b22 cst [c0_] k22 1 h27 n0 Zc33 I1 O29 (hcst : ¬ (cst = (0 : Int32))) f30 f31 f32 V27 rfl (by first | assumption | omega | rfl | decide : 1 ≤ 7) (own_latS r0b own_lat0) (by first | assumption | omega | rfl | decide : n0 ≤ b17) (by first | assumption | omega | rfl | decide : @Ne Nat b17 b22)) hZ (hw _ (List.mem_of_getElem? (i := 23) rfl)) (hw _ (List.mem_of_getElem? (i := 1) rfl)) (by decide) (by decide) hEL CR.1) (g := (mkF m 33 #[.val (.int (1 : Int32)), .val (.ref bu)] [(.ref b22), (.ref b17), (.ref b17)])) rfl (by rw [hml]; rfl) (Steps.refl _) (a := b17) (argsL := [(.ref b22)]) (rest := [(.ref b17)]) (lenOf pd___C_V rfl) rfl (by show 2 * 0 + _ ≤ _; exact Nat.le_of_eq rfl) (Jvm.hb hby d_method_4_33) (fun _ _ => ⟨rfl, e27, (by decide : 2 + 4 ≤ _), (by decide : 5 + 8 ≤ _)⟩)
    dsimp only [Pt.U, Pt.locs, Pt.cells, Pt.slots] at Xr34 hSr34 hg34 l34 y34 z34 st34 hQ34 Cp34
    subst l34 y34 z34
    obtain ⟨X34, hS, hZ, hown⟩ := rebS (own := "com/example/coyote_hill/coyotehill/ItemStateFromNamePinLaw") hS (by first | exact Nat.le_refl _ | (rw [e27]; exact hk)) Xr34 hSr34 hg34 hZ hown
    obtain ⟨b_34, kb_34, rfl, N34q, K34, Fq34_0, Fq34_1, Fq34_2, Fq34_3⟩ := hQ34
    have N34 := Fr.app N27 N34q
    obtain ⟨h34, e34⟩ : ∃ z, T34.heap = z := ⟨_, rfl⟩
    rw [e34] at K34 Fq34_0 Fq34_1 Fq34_2 Fq34_3 Cp34
    have hk : T34.heap.size ≤ h34.size := Nat.le_of_eq (congrArg Array.size e34)
    have z36 : h27.size ≤ h34.size := K34.1
    have CR := CR.trans Cp34
    have lt34_0 : @LT.lt Nat _ b17 h34.size := Fq34_0.lt
    have lt34_3 : @LT.lt Nat _ b_34 h34.size := Fq34_3.lt
    have s37 : ∀ t_, Steps p.tables e below (T34.setTop (mkF m 36 #[.val (.int (1 : Int32)), .val (.ref bu)] [(.ref b17)])) t_ → Steps p.tables e below (s₁.setTop (entryFrame m #[(.int (1 : Int32)), (.ref bu)] 2)) t_ := fun t_ k_ => s35 t_ (by
      show Steps p.tables e below (T27.setTop (mkF m 33 #[.val (.int (1 : Int32)), .val (.ref bu)] [(.ref b22), (.ref b17), (.ref b17)])) t_
      refine st34.trans ?_
      show Steps p.tables e below (T34.setTop (mkF m 36 #[.val (.int (1 : Int32)), .val (.ref bu)] [(.ref b17)])) _
      show Steps p.tables e below (T34.setTop (mkF m 36 #[.val (.int (1 : Int32)), .val (.ref bu)] [(.ref b17)])) t_
      exact k_)
    obtain ⟨fs, hr, hrun, hended, hREW⟩ := X34.leaveW hS (by first | exact Nat.le_refl _ | (rw [e34]; exact hk)) (v := some (.ref b17)) (fun h => by rw [Bd.returns] at h; cases h)
    refine ⟨_, _, s37 _ ?_, hrun, hended, _, _, rfl, ?_, (by show CHr Z ELs s.vm s.heap T34.vm T34.heap; rw [hh, e34]; exact CR.trans (CHv.at X34 hZ hEL CR.1)), hREW.1, hREW.2.1, hREW.2.2.1, hREW.2.2.2.mono (by decide) (by decide)⟩
    · show Steps p.tables e below (T34.setTop (mkF m 36 #[.val (.int (1 : Int32)), .val (.ref bu)] [(.ref b17)])) _
      jvm_step X34.here [X34.here.top, hx, (Jvm.hb hby d_method_4_36), X34.method', Bd.returns, Value.isRef, FieldType.isReference]
      first | (intro acts; rw [hr _ acts rfl rfl rfl]) | rw [hr _ _ rfl rfl rfl]
      exact Steps.refl _
    · show Q_rmMk Z _ _ _ _ _ _ _ _ _ _ _ h0 n0 _ T34.heap _
      rw [e34]
      exact ⟨b17, b_34, kb_34, rfl, N34, (((((Keep.refl h0 []).ext E17).ext E22).wr W27 (Or.inr (show h0.size ≤ b22 by omega))).trans K34 (allS (Or.inr (show h0.size ≤ b17 by omega)) all0)), Fq34_0, Fq34_1, Fq34_2, Fq34_3, by omega⟩
  · have hcase := trivial
    obtain ⟨T38, h38, X38, e38, E38, A38, D38, -, st38⟩ := newO X0 hx hZ hown (hw _ (List.mem_of_getElem? (i := 20) rfl)) (hw _ (List.mem_of_getElem? (i := 2) rfl)) (hw _ (List.mem_of_getElem? (i := 1) rfl)) e0 (g := (mkF m 42 #[.val (.int (2 : Int32)), .val (.ref bu)] [])) rfl (Jvm.hb hby d_method_4_42) (by decide) (by decide)
    obtain ⟨b38, g38⟩ : ∃ z, z = h0.size := ⟨_, rfl⟩
    rw [← g38] at A38 D38 st38
    have z39 : h0.size ≤ h38.size := E38.1
    have Sf40 : Safe Z ELs s.vm h38 b38 := Safe.ext E38 CR.1 (Safe.new (by omega))
    have Cp39 : CHr Z ELs s.vm h0 s.vm h38 := CHr.ext E38 CR.1
    have hk := Nat.le_trans hk z39
    have CR := CR.trans Cp39
    have l38 : b38 < h38.size := A38.lt
    have F41 : Fld Z h38 b38 "java/lang/String" "value" "[B" .null := D38 (Or.inr (hw _ (List.mem_of_getElem? (i := 4) rfl))) (ty := (.array .byte)) (by decide)
    have F42 : Fld Z h38 b38 "java/lang/String" "coder" "B" (.int (0 : Int32)) := D38 (Or.inr (hw _ (List.mem_of_getElem? (i := 5) rfl))) (ty := .byte) (by decide)
    obtain ⟨T43, h43, k43, X43, e43, E43, A43, st43⟩ := newP X38 hx hZ (hw _ (List.mem_of_getElem? (i := 11) rfl)) e38 (g := (mkF m 47 #[.val (.int (2 : Int32)), .val (.ref bu)] [(.int (2 : Int32)), (.ref b38), (.ref b38)])) rfl (Jvm.hb hby d_method_4_47) rfl (by decide) (cap := 2) (by decide) (by decide) (by decide) (by decide)
    obtain ⟨b43, g43⟩ : ∃ z, z = h38.size := ⟨_, rfl⟩
    rw [← g43] at A43 st43
    have z44 : h38.size ≤ h43.size := E43.1
    have Cp44 : CHr Z ELs s.vm h38 s.vm h43 := CHr.ext E43 CR.1
    have hk := Nat.le_trans hk z44
    have CR := CR.trans Cp44
    have l43 : b43 < h43.size := A43.lt
    have V43 : Arv Z h43 b43 k43 .char (2 : Int32) [(.int (0 : Int32)), (.int (0 : Int32))] (.int (0 : Int32)) := (Arv.new A43 (by decide)).pad (pad_rep [] (.int (0 : Int32)) 2)
    have f45 : Arv Z h43 bu k7 .char (7 : Int32) [(.int c0_), (.int c1_), (.int c2_), (.int c3_), (.int c4_), (.int c5_), (.int c6_)] (.int (0 : Int32)) := ((I2.ext E38).ext E43)
    obtain ⟨cl46, Ar46, -, S46, M46, H46, -⟩ := id f45
    have hin46 : ¬ ((0 : Int32) < 0 ∨ cl46.slots.size ≤ ((0 : Int32)).toNatClampNeg) := inb_of S46 ⟨by decide, by decide⟩
    have hat46 : cl46.slots[((0 : Int32)).toNatClampNeg]? = some (.int c0_) := H46.at hin46 (rfl)
    obtain ⟨cl47, Ar47, q47, S47, M47, H47, G47⟩ := id V43
    have hin47 : ¬ ((0 : Int32) < 0 ∨ cl47.slots.size ≤ ((0 : Int32)).toNatClampNeg) := inb_of S47 ⟨by decide, by decide⟩
    obtain ⟨T48, h48, X48, e48, W48, st48⟩ := stC X43 hx hZ e43 Ar47 (j := (0 : Int32)) hin47 (g := (mkF m 54 #[.val (.int (2 : Int32)), .val (.ref bu)] [(.int c0_), (.int (0 : Int32)), (.ref b43), (.ref b43), (.ref b38), (.ref b38)])) rfl rfl (Jvm.hb hby d_method_4_54)
    have z49 : h43.size ≤ h48.size := Nat.le_of_eq W48.size.symm
    have Cp49 : CHr Z ELs s.vm h43 s.vm h48 := CHr.wr W48 (Safe.arv hZ.alike V43 (by decide)) CR.1
    have hk := Nat.le_trans hk z49
    have CR := CR.trans Cp49
    have V48 : Arv Z h48 b43 k43 .char (2 : Int32) [(.int c0_), (.int (0 : Int32))] (.int (0 : Int32)) := by have q : Arv Z h48 b43 k43 .char (2 : Int32) [(.int (nar .char c0_)), (.int (0 : Int32))] (.int (0 : Int32)) := Arv.set Ar47 q47 S47 M47 H47 G47 (fits_nar_char _) W48 0 rfl (Nat.le_of_ble_eq_true rfl); rw [show nar .char c0_ = c0_ from own_narc r0a (own_le64k r0b)] at q; exact q
    have N48 := Fr.snoc X48 N0 (show n0 ≤ b43 by omega)
    have f50 : Arv Z h48 bu k7 .char (7 : Int32) [(.int c0_), (.int c1_), (.int c2_), (.int c3_), (.int c4_), (.int c5_), (.int c6_)] (.int (0 : Int32)) := (f45.other W48 (show @Ne Nat bu b43 by omega))
    obtain ⟨cl51, Ar51, -, S51, M51, H51, -⟩ := id f50
    have hin51 : ¬ ((1 : Int32) < 0 ∨ cl51.slots.size ≤ ((1 : Int32)).toNatClampNeg) := inb_of S51 ⟨by decide, by decide⟩
    have hat51 : cl51.slots[((1 : Int32)).toNatClampNeg]? = some (.int c1_) := H51.at hin51 (rfl)
    obtain ⟨cl52, Ar52, q52, S52, M52, H52, G52⟩ := id V48
    have hin52 : ¬ ((1 : Int32) < 0 ∨ cl52.slots.size ≤ ((1 : Int32)).toNatClampNeg) := inb_of S52 ⟨by decide, by decide⟩
    obtain ⟨T53, h53, X53, e53, W53, st53⟩ := stC X48 hx hZ e48 Ar52 (j := (1 : Int32)) hin52 (g := (mkF m 60 #[.val (.int (2 : Int32)), .val (.ref bu)] [(.int c1_), (.int (1 : Int32)), (.ref b43), (.ref b43), (.ref b38), (.ref b38)])) rfl rfl (Jvm.hb hby d_method_4_60)
    have z54 : h48.size ≤ h53.size := Nat.le_of_eq W53.size.symm
    have Cp54 : CHr Z ELs s.vm h48 s.vm h53 := CHr.wr W53 (Safe.arv hZ.alike V48 (by decide)) CR.1
    have hk := Nat.le_trans hk z54
    have CR := CR.trans Cp54
    have V53 : Arv Z h53 b43 k43 .char (2 : Int32) [(.int c0_), (.int c1_)] (.int (0 : Int32)) := by have q : Arv Z h53 b43 k43 .char (2 : Int32) [(.int c0_), (.int (nar .char c1_))] (.int (0 : Int32)) := Arv.set Ar52 q52 S52 M52 H52 G52 (fits_nar_char _) W53 1 rfl (Nat.le_of_ble_eq_true rfl); rw [show nar .char c1_ = c1_ from own_narc r1a (own_le64k r1b)] at q; exact q
    have N53 := Fr.snoc X53 N48 (show n0 ≤ b43 by omega)
    have O55 : Old Z n0 h53 := ((((OX.ext E38).ext E43).wr W48 (show n0 ≤ b43 by omega)).wr W53 (show n0 ≤ b43 by omega))
    have f56 : Exa Z h53 b38 "java/lang/String" := (((A38.ext E43).wr W48).wr W53)
    have f57 : Fld Z h53 b38 "java/lang/String" "value" "[B" .null := (((F41.ext E43).other W48 (Or.inl (show @Ne Nat b38 b43 by omega))).other W53 (Or.inl (show @Ne Nat b38 b43 by omega)))
    have f58 : Fld Z h53 b38 "java/lang/String" "coder" "B" (.int (0 : Int32)) := (((F42.ext E43).other W48 (Or.inl (show @Ne Nat b38 b43 by omega))).other W53 (Or.inl (show @Ne Nat b38 b43 by omega)))
    have Zc59 : n0 ≤ h53.size := by omega
    have s61 : ∀ t_, Steps p.tables e below (T53.setTop (mkF m 61 #[.val (.int (2 : Int32)), .val (.ref bu)] [(.ref b43), (.ref b38), (.ref b38)])) t_ → Steps p.tables e below (s₁.setTop (entryFrame m #[(.int (2 : Int32)), (.ref bu)] 2)) t_ := fun t_ k_ => pre0 t_ (by
      show Steps p.tables e below (s₁.setTop (mkF m 0 #[.val (.int (2 : Int32)), .val (.ref bu)] [])) t_
      refine XS.iloadN X0.here hx rfl (Jvm.hb hby d_method_4_0) rfl ?_
      refine XS.ifYes X0.here hx rfl (pc0 := 1) (pc' := 15) rfl (Jvm.hb hby d_method_4_1) rfl ((if0 _ _).trans (feq (by decide : ¬ ((2 : Int32) = (0 : Int32)))).2) (by decide) (by decide) ?_
      show Steps p.tables e below (s₁.setTop (mkF m 15 #[.val (.int (2 : Int32)), .val (.ref bu)] [])) _
      refine XS.iloadN X0.here hx rfl (Jvm.hb hby d_method_4_15) rfl ?_
      refine XS.iconst X0.here hx rfl (Jvm.hb hby d_method_4_16) ?_
      refine XS.icmpYes X0.here hx rfl (pc0 := 17) (pc' := 37) rfl (Jvm.hb hby d_method_4_17) rfl (feq (by decide : ¬ ((2 : Int32) = (1 : Int32)))).2 (by decide) (by decide) ?_
      show Steps p.tables e below (s₁.setTop (mkF m 37 #[.val (.int (2 : Int32)), .val (.ref bu)] [])) _
      refine XS.iloadN X0.here hx rfl (Jvm.hb hby d_method_4_37) rfl ?_
      refine XS.iconst X0.here hx rfl (Jvm.hb hby d_method_4_38) ?_
      refine XS.icmpNo X0.here hx rfl (Jvm.hb hby d_method_4_39) rfl (teq (rfl : (2 : Int32) = (2 : Int32))).2 ?_
      show Steps p.tables e below (s₁.setTop (mkF m 42 #[.val (.int (2 : Int32)), .val (.ref bu)] [])) _
      refine st38 _ ?_
      show Steps p.tables e below (T38.setTop (mkF m 45 #[.val (.int (2 : Int32)), .val (.ref bu)] [(.ref b38)])) _
      refine XS.dup X38.here hx rfl (Jvm.hb hby d_method_4_45) rfl rfl ?_
      refine XS.iconst X38.here hx rfl (Jvm.hb hby d_method_4_46) ?_
      refine st43 _ ?_
      show Steps p.tables e below (T43.setTop (mkF m 49 #[.val (.int (2 : Int32)), .val (.ref bu)] [(.ref b43), (.ref b38), (.ref b38)])) _
      refine XS.dup X43.here hx rfl (Jvm.hb hby d_method_4_49) rfl rfl ?_
      refine XS.iconst X43.here hx rfl (Jvm.hb hby d_method_4_50) ?_
      refine XS.aloadN X43.here hx rfl (Jvm.hb hby d_method_4_51) rfl rfl ?_
      refine XS.iconst X43.here hx rfl (Jvm.hb hby d_method_4_52) ?_
      refine X43.caload hx (j := (0 : Int32)) (v := (.int c0_)) (by rw [e43]; exact Ar46.1) (State.isArrayOf_alike hZ.alike Ar46.2.1) Ar46.2.2 hin46 hat46 (g := (mkF m 53 #[.val (.int (2 : Int32)), .val (.ref bu)] [(.int (0 : Int32)), (.ref bu), (.int (0 : Int32)), (.ref b43), (.ref b43), (.ref b38), (.ref b38)])) rfl rfl (Jvm.hb hby d_method_4_53) _ ?_
      show Steps p.tables e below (T43.setTop (mkF m 54 #[.val (.int (2 : Int32)), .val (.ref bu)] [(.int c0_), (.int (0 : Int32)), (.ref b43), (.ref b43), (.ref b38), (.ref b38)])) _
      refine st48 _ ?_
      show Steps p.tables e below (T48.setTop (mkF m 55 #[.val (.int (2 : Int32)), .val (.ref bu)] [(.ref b43), (.ref b38), (.ref b38)])) _
      refine XS.dup X48.here hx rfl (Jvm.hb hby d_method_4_55) rfl rfl ?_
      refine XS.iconst X48.here hx rfl (Jvm.hb hby d_method_4_56) ?_
      refine XS.aloadN X48.here hx rfl (Jvm.hb hby d_method_4_57) rfl rfl ?_
      refine XS.iconst X48.here hx rfl (Jvm.hb hby d_method_4_58) ?_
      refine X48.caload hx (j := (1 : Int32)) (v := (.int c1_)) (by rw [e48]; exact Ar51.1) (State.isArrayOf_alike hZ.alike Ar51.2.1) Ar51.2.2 hin51 hat51 (g := (mkF m 59 #[.val (.int (2 : Int32)), .val (.ref bu)] [(.int (1 : Int32)), (.ref bu), (.int (1 : Int32)), (.ref b43), (.ref b43), (.ref b38), (.ref b38)])) rfl rfl (Jvm.hb hby d_method_4_59) _ ?_
      show Steps p.tables e below (T48.setTop (mkF m 60 #[.val (.int (2 : Int32)), .val (.ref bu)] [(.int c1_), (.int (1 : Int32)), (.ref b43), (.ref b43), (.ref b38), (.ref b38)])) _
      refine st53 _ ?_
      show Steps p.tables e below (T53.setTop (mkF m 61 #[.val (.int (2 : Int32)), .val (.ref bu)] [(.ref b43), (.ref b38), (.ref b38)])) _
      show Steps p.tables e below (T53.setTop (mkF m 61 #[.val (.int (2 : Int32)), .val (.ref bu)] [(.ref b43), (.ref b38), (.ref b38)])) t_
      exact k_)
    obtain ⟨_, _, ⟨T60, L60, k60, n60⟩, -, Xr60, hSr60, hg60, ⟨Lc60, hQ60, l60, y60, z60, Cp60⟩, st60⟩ := X53.specialBackS hx (y := (⟨"java/lang/String", "<init>", "([C)V"⟩ : MethodName)) rfl hown (mvT hZ (hw _ (List.mem_of_getElem? (i := 21) rfl))) (mvT hZ (hw _ (List.mem_of_getElem? (i := 22) rfl))) (mvT hZ (hw _ (List.mem_of_getElem? (i := 23) rfl))) (by decide) (backOfSH (s := s) (vm0 := s.vm) (W := 1) (rmIni1 l Z a0 hw [] b38 b43 cst [c0_, c1_] k43 2 h53 n0 Zc59 I1 O55 (hcst : ¬ (cst = (0 : Int32))) f56 f57 f58 V53 rfl (by first | assumption | omega | rfl | decide : 2 ≤ 7) (own_latS r0b (own_latS r1b own_lat0)) (by first | assumption | omega | rfl | decide : n0 ≤ b38) (by first | assumption | omega | rfl | decide : @Ne Nat b38 b43)) hZ (hw _ (List.mem_of_getElem? (i := 23) rfl)) (hw _ (List.mem_of_getElem? (i := 1) rfl)) (by decide) (by decide) hEL CR.1) (g := (mkF m 61 #[.val (.int (2 : Int32)), .val (.ref bu)] [(.ref b43), (.ref b38), (.ref b38)])) rfl (by rw [hml]; rfl) (Steps.refl _) (a := b38) (argsL := [(.ref b43)]) (rest := [(.ref b38)]) (lenOf pd___C_V rfl) rfl (by show 2 * 0 + _ ≤ _; exact Nat.le_of_eq rfl) (Jvm.hb hby d_method_4_61) (fun _ _ => ⟨rfl, e53, (by decide : 2 + 4 ≤ _), (by decide : 6 + 8 ≤ _)⟩)
    dsimp only [Pt.U, Pt.locs, Pt.cells, Pt.slots] at Xr60 hSr60 hg60 l60 y60 z60 st60 hQ60 Cp60
    subst l60 y60 z60
    obtain ⟨X60, hS, hZ, hown⟩ := rebS (own := "com/example/coyote_hill/coyotehill/ItemStateFromNamePinLaw") hS (by first | exact Nat.le_refl _ | (rw [e53]; exact hk)) Xr60 hSr60 hg60 hZ hown
    obtain ⟨b_60, kb_60, rfl, N60q, K60, Fq60_0, Fq60_1, Fq60_2, Fq60_3⟩ := hQ60
    have N60 := Fr.app N53 N60q
    obtain ⟨h60, e60⟩ : ∃ z, T60.heap = z := ⟨_, rfl⟩
    rw [e60] at K60 Fq60_0 Fq60_1 Fq60_2 Fq60_3 Cp60
    have hk : T60.heap.size ≤ h60.size := Nat.le_of_eq (congrArg Array.size e60)
    have z62 : h53.size ≤ h60.size := K60.1
    have CR := CR.trans Cp60
    have lt60_0 : @LT.lt Nat _ b38 h60.size := Fq60_0.lt
    have lt60_3 : @LT.lt Nat _ b_60 h60.size := Fq60_3.lt
    have s63 : ∀ t_, Steps p.tables e below (T60.setTop (mkF m 64 #[.val (.int (2 : Int32)), .val (.ref bu)] [(.ref b38)])) t_ → Steps p.tables e below (s₁.setTop (entryFrame m #[(.int (2 : Int32)), (.ref bu)] 2)) t_ := fun t_ k_ => s61 t_ (by
      show Steps p.tables e below (T53.setTop (mkF m 61 #[.val (.int (2 : Int32)), .val (.ref bu)] [(.ref b43), (.ref b38), (.ref b38)])) t_
      refine st60.trans ?_
      show Steps p.tables e below (T60.setTop (mkF m 64 #[.val (.int (2 : Int32)), .val (.ref bu)] [(.ref b38)])) _
      show Steps p.tables e below (T60.setTop (mkF m 64 #[.val (.int (2 : Int32)), .val (.ref bu)] [(.ref b38)])) t_
      exact k_)
    obtain ⟨fs, hr, hrun, hended, hREW⟩ := X60.leaveW hS (by first | exact Nat.le_refl _ | (rw [e60]; exact hk)) (v := some (.ref b38)) (fun h => by rw [Bd.returns] at h; cases h)
    refine ⟨_, _, s63 _ ?_, hrun, hended, _, _, rfl, ?_, (by show CHr Z ELs s.vm s.heap T60.vm T60.heap; rw [hh, e60]; exact CR.trans (CHv.at X60 hZ hEL CR.1)), hREW.1, hREW.2.1, hREW.2.2.1, hREW.2.2.2.mono (by decide) (by decide)⟩
    · show Steps p.tables e below (T60.setTop (mkF m 64 #[.val (.int (2 : Int32)), .val (.ref bu)] [(.ref b38)])) _
      jvm_step X60.here [X60.here.top, hx, (Jvm.hb hby d_method_4_64), X60.method', Bd.returns, Value.isRef, FieldType.isReference]
      first | (intro acts; rw [hr _ acts rfl rfl rfl]) | rw [hr _ _ rfl rfl rfl]
      exact Steps.refl _
    · show Q_rmMk Z _ _ _ _ _ _ _ _ _ _ _ h0 n0 _ T60.heap _
      rw [e60]
      exact ⟨b38, b_60, kb_60, rfl, N60, ((((((Keep.refl h0 []).ext E38).ext E43).wr W48 (Or.inr (show h0.size ≤ b43 by omega))).wr W53 (Or.inr (show h0.size ≤ b43 by omega))).trans K60 (allS (Or.inr (show h0.size ≤ b38 by omega)) all0)), Fq60_0, Fq60_1, Fq60_2, Fq60_3, by omega⟩
  · have hcase := trivial
    obtain ⟨T64, h64, X64, e64, E64, A64, D64, -, st64⟩ := newO X0 hx hZ hown (hw _ (List.mem_of_getElem? (i := 20) rfl)) (hw _ (List.mem_of_getElem? (i := 2) rfl)) (hw _ (List.mem_of_getElem? (i := 1) rfl)) e0 (g := (mkF m 70 #[.val (.int (3 : Int32)), .val (.ref bu)] [])) rfl (Jvm.hb hby d_method_4_70) (by decide) (by decide)
    obtain ⟨b64, g64⟩ : ∃ z, z = h0.size := ⟨_, rfl⟩
    rw [← g64] at A64 D64 st64
    have z65 : h0.size ≤ h64.size := E64.1
    have Sf66 : Safe Z ELs s.vm h64 b64 := Safe.ext E64 CR.1 (Safe.new (by omega))
    have Cp65 : CHr Z ELs s.vm h0 s.vm h64 := CHr.ext E64 CR.1
    have hk := Nat.le_trans hk z65
    have CR := CR.trans Cp65
    have l64 : b64 < h64.size := A64.lt
    have F67 : Fld Z h64 b64 "java/lang/String" "value" "[B" .null := D64 (Or.inr (hw _ (List.mem_of_getElem? (i := 4) rfl))) (ty := (.array .byte)) (by decide)
    have F68 : Fld Z h64 b64 "java/lang/String" "coder" "B" (.int (0 : Int32)) := D64 (Or.inr (hw _ (List.mem_of_getElem? (i := 5) rfl))) (ty := .byte) (by decide)
    obtain ⟨T69, h69, k69, X69, e69, E69, A69, st69⟩ := newP X64 hx hZ (hw _ (List.mem_of_getElem? (i := 11) rfl)) e64 (g := (mkF m 75 #[.val (.int (3 : Int32)), .val (.ref bu)] [(.int (3 : Int32)), (.ref b64), (.ref b64)])) rfl (Jvm.hb hby d_method_4_75) rfl (by decide) (cap := 3) (by decide) (by decide) (by decide) (by decide)
    obtain ⟨b69, g69⟩ : ∃ z, z = h64.size := ⟨_, rfl⟩
    rw [← g69] at A69 st69
    have z70 : h64.size ≤ h69.size := E69.1
    have Cp70 : CHr Z ELs s.vm h64 s.vm h69 := CHr.ext E69 CR.1
    have hk := Nat.le_trans hk z70
    have CR := CR.trans Cp70
    have l69 : b69 < h69.size := A69.lt
    have V69 : Arv Z h69 b69 k69 .char (3 : Int32) [(.int (0 : Int32)), (.int (0 : Int32)), (.int (0 : Int32))] (.int (0 : Int32)) := (Arv.new A69 (by decide)).pad (pad_rep [] (.int (0 : Int32)) 3)
    have f71 : Arv Z h69 bu k7 .char (7 : Int32) [(.int c0_), (.int c1_), (.int c2_), (.int c3_), (.int c4_), (.int c5_), (.int c6_)] (.int (0 : Int32)) := ((I2.ext E64).ext E69)
    obtain ⟨cl72, Ar72, -, S72, M72, H72, -⟩ := id f71
    have hin72 : ¬ ((0 : Int32) < 0 ∨ cl72.slots.size ≤ ((0 : Int32)).toNatClampNeg) := inb_of S72 ⟨by decide, by decide⟩
    have hat72 : cl72.slots[((0 : Int32)).toNatClampNeg]? = some (.int c0_) := H72.at hin72 (rfl)
    obtain ⟨cl73, Ar73, q73, S73, M73, H73, G73⟩ := id V69
    have hin73 : ¬ ((0 : Int32) < 0 ∨ cl73.slots.size ≤ ((0 : Int32)).toNatClampNeg) := inb_of S73 ⟨by decide, by decide⟩
    obtain ⟨T74, h74, X74, e74, W74, st74⟩ := stC X69 hx hZ e69 Ar73 (j := (0 : Int32)) hin73 (g := (mkF m 82 #[.val (.int (3 : Int32)), .val (.ref bu)] [(.int c0_), (.int (0 : Int32)), (.ref b69), (.ref b69), (.ref b64), (.ref b64)])) rfl rfl (Jvm.hb hby d_method_4_82)
    have z75 : h69.size ≤ h74.size := Nat.le_of_eq W74.size.symm
    have Cp75 : CHr Z ELs s.vm h69 s.vm h74 := CHr.wr W74 (Safe.arv hZ.alike V69 (by decide)) CR.1
    have hk := Nat.le_trans hk z75
    have CR := CR.trans Cp75
    have V74 : Arv Z h74 b69 k69 .char (3 : Int32) [(.int c0_), (.int (0 : Int32)), (.int (0 : Int32))] (.int (0 : Int32)) := by have q : Arv Z h74 b69 k69 .char (3 : Int32) [(.int (nar .char c0_)), (.int (0 : Int32)), (.int (0 : Int32))] (.int (0 : Int32)) := Arv.set Ar73 q73 S73 M73 H73 G73 (fits_nar_char _) W74 0 rfl (Nat.le_of_ble_eq_true rfl); rw [show nar .char c0_ = c0_ from own_narc r0a (own_le64k r0b)] at q; exact q
    have N74 := Fr.snoc X74 N0 (show n0 ≤ b69 by omega)
    have f76 : Arv Z h74 bu k7 .char (7 : Int32) [(.int c0_), (.int c1_), (.int c2_), (.int c3_), (.int c4_), (.int c5_), (.int c6_)] (.int (0 : Int32)) := (f71.other W74 (show @Ne Nat bu b69 by omega))
    obtain ⟨cl77, Ar77, -, S77, M77, H77, -⟩ := id f76
    have hin77 : ¬ ((1 : Int32) < 0 ∨ cl77.slots.size ≤ ((1 : Int32)).toNatClampNeg) := inb_of S77 ⟨by decide, by decide⟩
    have hat77 : cl77.slots[((1 : Int32)).toNatClampNeg]? = some (.int c1_) := H77.at hin77 (rfl)
    obtain ⟨cl78, Ar78, q78, S78, M78, H78, G78⟩ := id V74
    have hin78 : ¬ ((1 : Int32) < 0 ∨ cl78.slots.size ≤ ((1 : Int32)).toNatClampNeg) := inb_of S78 ⟨by decide, by decide⟩
    obtain ⟨T79, h79, X79, e79, W79, st79⟩ := stC X74 hx hZ e74 Ar78 (j := (1 : Int32)) hin78 (g := (mkF m 88 #[.val (.int (3 : Int32)), .val (.ref bu)] [(.int c1_), (.int (1 : Int32)), (.ref b69), (.ref b69), (.ref b64), (.ref b64)])) rfl rfl (Jvm.hb hby d_method_4_88)
    have z80 : h74.size ≤ h79.size := Nat.le_of_eq W79.size.symm
    have Cp80 : CHr Z ELs s.vm h74 s.vm h79 := CHr.wr W79 (Safe.arv hZ.alike V74 (by decide)) CR.1
    have hk := Nat.le_trans hk z80
    have CR := CR.trans Cp80
    have V79 : Arv Z h79 b69 k69 .char (3 : Int32) [(.int c0_), (.int c1_), (.int (0 : Int32))] (.int (0 : Int32)) := by have q : Arv Z h79 b69 k69 .char (3 : Int32) [(.int c0_), (.int (nar .char c1_)), (.int (0 : Int32))] (.int (0 : Int32)) := Arv.set Ar78 q78 S78 M78 H78 G78 (fits_nar_char _) W79 1 rfl (Nat.le_of_ble_eq_true rfl); rw [show nar .char c1_ = c1_ from own_narc r1a (own_le64k r1b)] at q; exact q
    have N79 := Fr.snoc X79 N74 (show n0 ≤ b69 by omega)
    have f81 : Arv Z h79 bu k7 .char (7 : Int32) [(.int c0_), (.int c1_), (.int c2_), (.int c3_), (.int c4_), (.int c5_), (.int c6_)] (.int (0 : Int32)) := (f76.other W79 (show @Ne Nat bu b69 by omega))
    obtain ⟨cl82, Ar82, -, S82, M82, H82, -⟩ := id f81
    have hin82 : ¬ ((2 : Int32) < 0 ∨ cl82.slots.size ≤ ((2 : Int32)).toNatClampNeg) := inb_of S82 ⟨by decide, by decide⟩
    have hat82 : cl82.slots[((2 : Int32)).toNatClampNeg]? = some (.int c2_) := H82.at hin82 (rfl)
    obtain ⟨cl83, Ar83, q83, S83, M83, H83, G83⟩ := id V79
    have hin83 : ¬ ((2 : Int32) < 0 ∨ cl83.slots.size ≤ ((2 : Int32)).toNatClampNeg) := inb_of S83 ⟨by decide, by decide⟩
    obtain ⟨T84, h84, X84, e84, W84, st84⟩ := stC X79 hx hZ e79 Ar83 (j := (2 : Int32)) hin83 (g := (mkF m 94 #[.val (.int (3 : Int32)), .val (.ref bu)] [(.int c2_), (.int (2 : Int32)), (.ref b69), (.ref b69), (.ref b64), (.ref b64)])) rfl rfl (Jvm.hb hby d_method_4_94)
    have z85 : h79.size ≤ h84.size := Nat.le_of_eq W84.size.symm
    have Cp85 : CHr Z ELs s.vm h79 s.vm h84 := CHr.wr W84 (Safe.arv hZ.alike V79 (by decide)) CR.1
    have hk := Nat.le_trans hk z85
    have CR := CR.trans Cp85
    have V84 : Arv Z h84 b69 k69 .char (3 : Int32) [(.int c0_), (.int c1_), (.int c2_)] (.int (0 : Int32)) := by have q : Arv Z h84 b69 k69 .char (3 : Int32) [(.int c0_), (.int c1_), (.int (nar .char c2_))] (.int (0 : Int32)) := Arv.set Ar83 q83 S83 M83 H83 G83 (fits_nar_char _) W84 2 rfl (Nat.le_of_ble_eq_true rfl); rw [show nar .char c2_ = c2_ from own_narc r2a (own_le64k r2b)] at q; exact q
    have N84 := Fr.snoc X84 N79 (show n0 ≤ b69 by omega)
    have O86 : Old Z n0 h84 := (((((OX.ext E64).ext E69).wr W74 (show n0 ≤ b69 by omega)).wr W79 (show n0 ≤ b69 by omega)).wr W84 (show n0 ≤ b69 by omega))
    have f87 : Exa Z h84 b64 "java/lang/String" := ((((A64.ext E69).wr W74).wr W79).wr W84)
    have f88 : Fld Z h84 b64 "java/lang/String" "value" "[B" .null := ((((F67.ext E69).other W74 (Or.inl (show @Ne Nat b64 b69 by omega))).other W79 (Or.inl (show @Ne Nat b64 b69 by omega))).other W84 (Or.inl (show @Ne Nat b64 b69 by omega)))
    have f89 : Fld Z h84 b64 "java/lang/String" "coder" "B" (.int (0 : Int32)) := ((((F68.ext E69).other W74 (Or.inl (show @Ne Nat b64 b69 by omega))).other W79 (Or.inl (show @Ne Nat b64 b69 by omega))).other W84 (Or.inl (show @Ne Nat b64 b69 by omega)))
    have Zc90 : n0 ≤ h84.size := by omega
    have s92 : ∀ t_, Steps p.tables e below (T84.setTop (mkF m 95 #[.val (.int (3 : Int32)), .val (.ref bu)] [(.ref b69), (.ref b64), (.ref b64)])) t_ → Steps p.tables e below (s₁.setTop (entryFrame m #[(.int (3 : Int32)), (.ref bu)] 2)) t_ := fun t_ k_ => pre0 t_ (by
      show Steps p.tables e below (s₁.setTop (mkF m 0 #[.val (.int (3 : Int32)), .val (.ref bu)] [])) t_
      refine XS.iloadN X0.here hx rfl (Jvm.hb hby d_method_4_0) rfl ?_
      refine XS.ifYes X0.here hx rfl (pc0 := 1) (pc' := 15) rfl (Jvm.hb hby d_method_4_1) rfl ((if0 _ _).trans (feq (by decide : ¬ ((3 : Int32) = (0 : Int32)))).2) (by decide) (by decide) ?_
      show Steps p.tables e below (s₁.setTop (mkF m 15 #[.val (.int (3 : Int32)), .val (.ref bu)] [])) _
      refine XS.iloadN X0.here hx rfl (Jvm.hb hby d_method_4_15) rfl ?_
      refine XS.iconst X0.here hx rfl (Jvm.hb hby d_method_4_16) ?_
      refine XS.icmpYes X0.here hx rfl (pc0 := 17) (pc' := 37) rfl (Jvm.hb hby d_method_4_17) rfl (feq (by decide : ¬ ((3 : Int32) = (1 : Int32)))).2 (by decide) (by decide) ?_
      show Steps p.tables e below (s₁.setTop (mkF m 37 #[.val (.int (3 : Int32)), .val (.ref bu)] [])) _
      refine XS.iloadN X0.here hx rfl (Jvm.hb hby d_method_4_37) rfl ?_
      refine XS.iconst X0.here hx rfl (Jvm.hb hby d_method_4_38) ?_
      refine XS.icmpYes X0.here hx rfl (pc0 := 39) (pc' := 65) rfl (Jvm.hb hby d_method_4_39) rfl (feq (by decide : ¬ ((3 : Int32) = (2 : Int32)))).2 (by decide) (by decide) ?_
      show Steps p.tables e below (s₁.setTop (mkF m 65 #[.val (.int (3 : Int32)), .val (.ref bu)] [])) _
      refine XS.iloadN X0.here hx rfl (Jvm.hb hby d_method_4_65) rfl ?_
      refine XS.iconst X0.here hx rfl (Jvm.hb hby d_method_4_66) ?_
      refine XS.icmpNo X0.here hx rfl (Jvm.hb hby d_method_4_67) rfl (teq (rfl : (3 : Int32) = (3 : Int32))).2 ?_
      show Steps p.tables e below (s₁.setTop (mkF m 70 #[.val (.int (3 : Int32)), .val (.ref bu)] [])) _
      refine st64 _ ?_
      show Steps p.tables e below (T64.setTop (mkF m 73 #[.val (.int (3 : Int32)), .val (.ref bu)] [(.ref b64)])) _
      refine XS.dup X64.here hx rfl (Jvm.hb hby d_method_4_73) rfl rfl ?_
      refine XS.iconst X64.here hx rfl (Jvm.hb hby d_method_4_74) ?_
      refine st69 _ ?_
      show Steps p.tables e below (T69.setTop (mkF m 77 #[.val (.int (3 : Int32)), .val (.ref bu)] [(.ref b69), (.ref b64), (.ref b64)])) _
      refine XS.dup X69.here hx rfl (Jvm.hb hby d_method_4_77) rfl rfl ?_
      refine XS.iconst X69.here hx rfl (Jvm.hb hby d_method_4_78) ?_
      refine XS.aloadN X69.here hx rfl (Jvm.hb hby d_method_4_79) rfl rfl ?_
      refine XS.iconst X69.here hx rfl (Jvm.hb hby d_method_4_80) ?_
      refine X69.caload hx (j := (0 : Int32)) (v := (.int c0_)) (by rw [e69]; exact Ar72.1) (State.isArrayOf_alike hZ.alike Ar72.2.1) Ar72.2.2 hin72 hat72 (g := (mkF m 81 #[.val (.int (3 : Int32)), .val (.ref bu)] [(.int (0 : Int32)), (.ref bu), (.int (0 : Int32)), (.ref b69), (.ref b69), (.ref b64), (.ref b64)])) rfl rfl (Jvm.hb hby d_method_4_81) _ ?_
      show Steps p.tables e below (T69.setTop (mkF m 82 #[.val (.int (3 : Int32)), .val (.ref bu)] [(.int c0_), (.int (0 : Int32)), (.ref b69), (.ref b69), (.ref b64), (.ref b64)])) _
      refine st74 _ ?_
      show Steps p.tables e below (T74.setTop (mkF m 83 #[.val (.int (3 : Int32)), .val (.ref bu)] [(.ref b69), (.ref b64), (.ref b64)])) _
      refine XS.dup X74.here hx rfl (Jvm.hb hby d_method_4_83) rfl rfl ?_
      refine XS.iconst X74.here hx rfl (Jvm.hb hby d_method_4_84) ?_
      refine XS.aloadN X74.here hx rfl (Jvm.hb hby d_method_4_85) rfl rfl ?_
      refine XS.iconst X74.here hx rfl (Jvm.hb hby d_method_4_86) ?_
      refine X74.caload hx (j := (1 : Int32)) (v := (.int c1_)) (by rw [e74]; exact Ar77.1) (State.isArrayOf_alike hZ.alike Ar77.2.1) Ar77.2.2 hin77 hat77 (g := (mkF m 87 #[.val (.int (3 : Int32)), .val (.ref bu)] [(.int (1 : Int32)), (.ref bu), (.int (1 : Int32)), (.ref b69), (.ref b69), (.ref b64), (.ref b64)])) rfl rfl (Jvm.hb hby d_method_4_87) _ ?_
      show Steps p.tables e below (T74.setTop (mkF m 88 #[.val (.int (3 : Int32)), .val (.ref bu)] [(.int c1_), (.int (1 : Int32)), (.ref b69), (.ref b69), (.ref b64), (.ref b64)])) _
      refine st79 _ ?_
      show Steps p.tables e below (T79.setTop (mkF m 89 #[.val (.int (3 : Int32)), .val (.ref bu)] [(.ref b69), (.ref b64), (.ref b64)])) _
      refine XS.dup X79.here hx rfl (Jvm.hb hby d_method_4_89) rfl rfl ?_
      refine XS.iconst X79.here hx rfl (Jvm.hb hby d_method_4_90) ?_
      refine XS.aloadN X79.here hx rfl (Jvm.hb hby d_method_4_91) rfl rfl ?_
      refine XS.iconst X79.here hx rfl (Jvm.hb hby d_method_4_92) ?_
      refine X79.caload hx (j := (2 : Int32)) (v := (.int c2_)) (by rw [e79]; exact Ar82.1) (State.isArrayOf_alike hZ.alike Ar82.2.1) Ar82.2.2 hin82 hat82 (g := (mkF m 93 #[.val (.int (3 : Int32)), .val (.ref bu)] [(.int (2 : Int32)), (.ref bu), (.int (2 : Int32)), (.ref b69), (.ref b69), (.ref b64), (.ref b64)])) rfl rfl (Jvm.hb hby d_method_4_93) _ ?_
      show Steps p.tables e below (T79.setTop (mkF m 94 #[.val (.int (3 : Int32)), .val (.ref bu)] [(.int c2_), (.int (2 : Int32)), (.ref b69), (.ref b69), (.ref b64), (.ref b64)])) _
      refine st84 _ ?_
      show Steps p.tables e below (T84.setTop (mkF m 95 #[.val (.int (3 : Int32)), .val (.ref bu)] [(.ref b69), (.ref b64), (.ref b64)])) _
      show Steps p.tables e below (T84.setTop (mkF m 95 #[.val (.int (3 : Int32)), .val (.ref bu)] [(.ref b69), (.ref b64), (.ref b64)])) t_
      exact k_)
    obtain ⟨_, _, ⟨T91, L91, k91, n91⟩, -, Xr91, hSr91, hg91, ⟨Lc91, hQ91, l91, y91, z91, Cp91⟩, st91⟩ := X84.specialBackS hx (y := (⟨"java/lang/String", "<init>", "([C)V"⟩ : MethodName)) rfl hown (mvT hZ (hw _ (List.mem_of_getElem? (i := 21) rfl))) (mvT hZ (hw _ (List.mem_of_getElem? (i := 22) rfl))) (mvT hZ (hw _ (List.mem_of_getElem? (i := 23) rfl))) (by decide) (backOfSH (s := s) (vm0 := s.vm) (W := 1) (rmIni1 l Z a0 hw [] b64 b69 cst [c0_, c1_, c2_] k69 3 h84 n0 Zc90 I1 O86 (hcst : ¬ (cst = (0 : Int32))) f87 f88 f89 V84 rfl (by first | assumption | omega | rfl | decide : 3 ≤ 7) (own_latS r0b (own_latS r1b (own_latS r2b own_lat0))) (by first | assumption | omega | rfl | decide : n0 ≤ b64) (by first | assumption | omega | rfl | decide : @Ne Nat b64 b69)) hZ (hw _ (List.mem_of_getElem? (i := 23) rfl)) (hw _ (List.mem_of_getElem? (i := 1) rfl)) (by decide) (by decide) hEL CR.1) (g := (mkF m 95 #[.val (.int (3 : Int32)), .val (.ref bu)] [(.ref b69), (.ref b64), (.ref b64)])) rfl (by rw [hml]; rfl) (Steps.refl _) (a := b64) (argsL := [(.ref b69)]) (rest := [(.ref b64)]) (lenOf pd___C_V rfl) rfl (by show 2 * 0 + _ ≤ _; exact Nat.le_of_eq rfl) (Jvm.hb hby d_method_4_95) (fun _ _ => ⟨rfl, e84, (by decide : 2 + 4 ≤ _), (by decide : 7 + 8 ≤ _)⟩)
    dsimp only [Pt.U, Pt.locs, Pt.cells, Pt.slots] at Xr91 hSr91 hg91 l91 y91 z91 st91 hQ91 Cp91
    subst l91 y91 z91
    obtain ⟨X91, hS, hZ, hown⟩ := rebS (own := "com/example/coyote_hill/coyotehill/ItemStateFromNamePinLaw") hS (by first | exact Nat.le_refl _ | (rw [e84]; exact hk)) Xr91 hSr91 hg91 hZ hown
    obtain ⟨b_91, kb_91, rfl, N91q, K91, Fq91_0, Fq91_1, Fq91_2, Fq91_3⟩ := hQ91
    have N91 := Fr.app N84 N91q
    obtain ⟨h91, e91⟩ : ∃ z, T91.heap = z := ⟨_, rfl⟩
    rw [e91] at K91 Fq91_0 Fq91_1 Fq91_2 Fq91_3 Cp91
    have hk : T91.heap.size ≤ h91.size := Nat.le_of_eq (congrArg Array.size e91)
    have z93 : h84.size ≤ h91.size := K91.1
    have CR := CR.trans Cp91
    have lt91_0 : @LT.lt Nat _ b64 h91.size := Fq91_0.lt
    have lt91_3 : @LT.lt Nat _ b_91 h91.size := Fq91_3.lt
    have s94 : ∀ t_, Steps p.tables e below (T91.setTop (mkF m 98 #[.val (.int (3 : Int32)), .val (.ref bu)] [(.ref b64)])) t_ → Steps p.tables e below (s₁.setTop (entryFrame m #[(.int (3 : Int32)), (.ref bu)] 2)) t_ := fun t_ k_ => s92 t_ (by
      show Steps p.tables e below (T84.setTop (mkF m 95 #[.val (.int (3 : Int32)), .val (.ref bu)] [(.ref b69), (.ref b64), (.ref b64)])) t_
      refine st91.trans ?_
      show Steps p.tables e below (T91.setTop (mkF m 98 #[.val (.int (3 : Int32)), .val (.ref bu)] [(.ref b64)])) _
      show Steps p.tables e below (T91.setTop (mkF m 98 #[.val (.int (3 : Int32)), .val (.ref bu)] [(.ref b64)])) t_
      exact k_)
    obtain ⟨fs, hr, hrun, hended, hREW⟩ := X91.leaveW hS (by first | exact Nat.le_refl _ | (rw [e91]; exact hk)) (v := some (.ref b64)) (fun h => by rw [Bd.returns] at h; cases h)
    refine ⟨_, _, s94 _ ?_, hrun, hended, _, _, rfl, ?_, (by show CHr Z ELs s.vm s.heap T91.vm T91.heap; rw [hh, e91]; exact CR.trans (CHv.at X91 hZ hEL CR.1)), hREW.1, hREW.2.1, hREW.2.2.1, hREW.2.2.2.mono (by decide) (by decide)⟩
    · show Steps p.tables e below (T91.setTop (mkF m 98 #[.val (.int (3 : Int32)), .val (.ref bu)] [(.ref b64)])) _
      jvm_step X91.here [X91.here.top, hx, (Jvm.hb hby d_method_4_98), X91.method', Bd.returns, Value.isRef, FieldType.isReference]
      first | (intro acts; rw [hr _ acts rfl rfl rfl]) | rw [hr _ _ rfl rfl rfl]
      exact Steps.refl _
    · show Q_rmMk Z _ _ _ _ _ _ _ _ _ _ _ h0 n0 _ T91.heap _
      rw [e91]
      exact ⟨b64, b_91, kb_91, rfl, N91, (((((((Keep.refl h0 []).ext E64).ext E69).wr W74 (Or.inr (show h0.size ≤ b69 by omega))).wr W79 (Or.inr (show h0.size ≤ b69 by omega))).wr W84 (Or.inr (show h0.size ≤ b69 by omega))).trans K91 (allS (Or.inr (show h0.size ≤ b64 by omega)) all0)), Fq91_0, Fq91_1, Fq91_2, Fq91_3, by omega⟩
  · have hcase := trivial
    obtain ⟨T95, h95, X95, e95, E95, A95, D95, -, st95⟩ := newO X0 hx hZ hown (hw _ (List.mem_of_getElem? (i := 20) rfl)) (hw _ (List.mem_of_getElem? (i := 2) rfl)) (hw _ (List.mem_of_getElem? (i := 1) rfl)) e0 (g := (mkF m 104 #[.val (.int (4 : Int32)), .val (.ref bu)] [])) rfl (Jvm.hb hby d_method_4_104) (by decide) (by decide)
    obtain ⟨b95, g95⟩ : ∃ z, z = h0.size := ⟨_, rfl⟩
    rw [← g95] at A95 D95 st95
    have z96 : h0.size ≤ h95.size := E95.1
    have Sf97 : Safe Z ELs s.vm h95 b95 := Safe.ext E95 CR.1 (Safe.new (by omega))
    have Cp96 : CHr Z ELs s.vm h0 s.vm h95 := CHr.ext E95 CR.1
    have hk := Nat.le_trans hk z96
    have CR := CR.trans Cp96
    have l95 : b95 < h95.size := A95.lt
    have F98 : Fld Z h95 b95 "java/lang/String" "value" "[B" .null := D95 (Or.inr (hw _ (List.mem_of_getElem? (i := 4) rfl))) (ty := (.array .byte)) (by decide)
    have F99 : Fld Z h95 b95 "java/lang/String" "coder" "B" (.int (0 : Int32)) := D95 (Or.inr (hw _ (List.mem_of_getElem? (i := 5) rfl))) (ty := .byte) (by decide)
    obtain ⟨T100, h100, k100, X100, e100, E100, A100, st100⟩ := newP X95 hx hZ (hw _ (List.mem_of_getElem? (i := 11) rfl)) e95 (g := (mkF m 109 #[.val (.int (4 : Int32)), .val (.ref bu)] [(.int (4 : Int32)), (.ref b95), (.ref b95)])) rfl (Jvm.hb hby d_method_4_109) rfl (by decide) (cap := 4) (by decide) (by decide) (by decide) (by decide)
    obtain ⟨b100, g100⟩ : ∃ z, z = h95.size := ⟨_, rfl⟩
    rw [← g100] at A100 st100
    have z101 : h95.size ≤ h100.size := E100.1
    have Cp101 : CHr Z ELs s.vm h95 s.vm h100 := CHr.ext E100 CR.1
    have hk := Nat.le_trans hk z101
    have CR := CR.trans Cp101
    have l100 : b100 < h100.size := A100.lt
    have V100 : Arv Z h100 b100 k100 .char (4 : Int32) [(.int (0 : Int32)), (.int (0 : Int32)), (.int (0 : Int32)), (.int (0 : Int32))] (.int (0 : Int32)) := (Arv.new A100 (by decide)).pad (pad_rep [] (.int (0 : Int32)) 4)
    have f102 : Arv Z h100 bu k7 .char (7 : Int32) [(.int c0_), (.int c1_), (.int c2_), (.int c3_), (.int c4_), (.int c5_), (.int c6_)] (.int (0 : Int32)) := ((I2.ext E95).ext E100)
    obtain ⟨cl103, Ar103, -, S103, M103, H103, -⟩ := id f102
    have hin103 : ¬ ((0 : Int32) < 0 ∨ cl103.slots.size ≤ ((0 : Int32)).toNatClampNeg) := inb_of S103 ⟨by decide, by decide⟩
    have hat103 : cl103.slots[((0 : Int32)).toNatClampNeg]? = some (.int c0_) := H103.at hin103 (rfl)
    obtain ⟨cl104, Ar104, q104, S104, M104, H104, G104⟩ := id V100
    have hin104 : ¬ ((0 : Int32) < 0 ∨ cl104.slots.size ≤ ((0 : Int32)).toNatClampNeg) := inb_of S104 ⟨by decide, by decide⟩
    obtain ⟨T105, h105, X105, e105, W105, st105⟩ := stC X100 hx hZ e100 Ar104 (j := (0 : Int32)) hin104 (g := (mkF m 116 #[.val (.int (4 : Int32)), .val (.ref bu)] [(.int c0_), (.int (0 : Int32)), (.ref b100), (.ref b100), (.ref b95), (.ref b95)])) rfl rfl (Jvm.hb hby d_method_4_116)
    have z106 : h100.size ≤ h105.size := Nat.le_of_eq W105.size.symm
    have Cp106 : CHr Z ELs s.vm h100 s.vm h105 := CHr.wr W105 (Safe.arv hZ.alike V100 (by decide)) CR.1
    have hk := Nat.le_trans hk z106
    have CR := CR.trans Cp106
    have V105 : Arv Z h105 b100 k100 .char (4 : Int32) [(.int c0_), (.int (0 : Int32)), (.int (0 : Int32)), (.int (0 : Int32))] (.int (0 : Int32)) := by have q : Arv Z h105 b100 k100 .char (4 : Int32) [(.int (nar .char c0_)), (.int (0 : Int32)), (.int (0 : Int32)), (.int (0 : Int32))] (.int (0 : Int32)) := Arv.set Ar104 q104 S104 M104 H104 G104 (fits_nar_char _) W105 0 rfl (Nat.le_of_ble_eq_true rfl); rw [show nar .char c0_ = c0_ from own_narc r0a (own_le64k r0b)] at q; exact q
    have N105 := Fr.snoc X105 N0 (show n0 ≤ b100 by omega)
    have f107 : Arv Z h105 bu k7 .char (7 : Int32) [(.int c0_), (.int c1_), (.int c2_), (.int c3_), (.int c4_), (.int c5_), (.int c6_)] (.int (0 : Int32)) := (f102.other W105 (show @Ne Nat bu b100 by omega))
    obtain ⟨cl108, Ar108, -, S108, M108, H108, -⟩ := id f107
    have hin108 : ¬ ((1 : Int32) < 0 ∨ cl108.slots.size ≤ ((1 : Int32)).toNatClampNeg) := inb_of S108 ⟨by decide, by decide⟩
    have hat108 : cl108.slots[((1 : Int32)).toNatClampNeg]? = some (.int c1_) := H108.at hin108 (rfl)
    obtain ⟨cl109, Ar109, q109, S109, M109, H109, G109⟩ := id V105
    have hin109 : ¬ ((1 : Int32) < 0 ∨ cl109.slots.size ≤ ((1 : Int32)).toNatClampNeg) := inb_of S109 ⟨by decide, by decide⟩
    obtain ⟨T110, h110, X110, e110, W110, st110⟩ := stC X105 hx hZ e105 Ar109 (j := (1 : Int32)) hin109 (g := (mkF m 122 #[.val (.int (4 : Int32)), .val (.ref bu)] [(.int c1_), (.int (1 : Int32)), (.ref b100), (.ref b100), (.ref b95), (.ref b95)])) rfl rfl (Jvm.hb hby d_method_4_122)
    have z111 : h105.size ≤ h110.size := Nat.le_of_eq W110.size.symm
    have Cp111 : CHr Z ELs s.vm h105 s.vm h110 := CHr.wr W110 (Safe.arv hZ.alike V105 (by decide)) CR.1
    have hk := Nat.le_trans hk z111
    have CR := CR.trans Cp111
    have V110 : Arv Z h110 b100 k100 .char (4 : Int32) [(.int c0_), (.int c1_), (.int (0 : Int32)), (.int (0 : Int32))] (.int (0 : Int32)) := by have q : Arv Z h110 b100 k100 .char (4 : Int32) [(.int c0_), (.int (nar .char c1_)), (.int (0 : Int32)), (.int (0 : Int32))] (.int (0 : Int32)) := Arv.set Ar109 q109 S109 M109 H109 G109 (fits_nar_char _) W110 1 rfl (Nat.le_of_ble_eq_true rfl); rw [show nar .char c1_ = c1_ from own_narc r1a (own_le64k r1b)] at q; exact q
    have N110 := Fr.snoc X110 N105 (show n0 ≤ b100 by omega)
    have f112 : Arv Z h110 bu k7 .char (7 : Int32) [(.int c0_), (.int c1_), (.int c2_), (.int c3_), (.int c4_), (.int c5_), (.int c6_)] (.int (0 : Int32)) := (f107.other W110 (show @Ne Nat bu b100 by omega))
    obtain ⟨cl113, Ar113, -, S113, M113, H113, -⟩ := id f112
    have hin113 : ¬ ((2 : Int32) < 0 ∨ cl113.slots.size ≤ ((2 : Int32)).toNatClampNeg) := inb_of S113 ⟨by decide, by decide⟩
    have hat113 : cl113.slots[((2 : Int32)).toNatClampNeg]? = some (.int c2_) := H113.at hin113 (rfl)
    obtain ⟨cl114, Ar114, q114, S114, M114, H114, G114⟩ := id V110
    have hin114 : ¬ ((2 : Int32) < 0 ∨ cl114.slots.size ≤ ((2 : Int32)).toNatClampNeg) := inb_of S114 ⟨by decide, by decide⟩
    obtain ⟨T115, h115, X115, e115, W115, st115⟩ := stC X110 hx hZ e110 Ar114 (j := (2 : Int32)) hin114 (g := (mkF m 128 #[.val (.int (4 : Int32)), .val (.ref bu)] [(.int c2_), (.int (2 : Int32)), (.ref b100), (.ref b100), (.ref b95), (.ref b95)])) rfl rfl (Jvm.hb hby d_method_4_128)
    have z116 : h110.size ≤ h115.size := Nat.le_of_eq W115.size.symm
    have Cp116 : CHr Z ELs s.vm h110 s.vm h115 := CHr.wr W115 (Safe.arv hZ.alike V110 (by decide)) CR.1
    have hk := Nat.le_trans hk z116
    have CR := CR.trans Cp116
    have V115 : Arv Z h115 b100 k100 .char (4 : Int32) [(.int c0_), (.int c1_), (.int c2_), (.int (0 : Int32))] (.int (0 : Int32)) := by have q : Arv Z h115 b100 k100 .char (4 : Int32) [(.int c0_), (.int c1_), (.int (nar .char c2_)), (.int (0 : Int32))] (.int (0 : Int32)) := Arv.set Ar114 q114 S114 M114 H114 G114 (fits_nar_char _) W115 2 rfl (Nat.le_of_ble_eq_true rfl); rw [show nar .char c2_ = c2_ from own_narc r2a (own_le64k r2b)] at q; exact q
    have N115 := Fr.snoc X115 N110 (show n0 ≤ b100 by omega)
    have f117 : Arv Z h115 bu k7 .char (7 : Int32) [(.int c0_), (.int c1_), (.int c2_), (.int c3_), (.int c4_), (.int c5_), (.int c6_)] (.int (0 : Int32)) := (f112.other W115 (show @Ne Nat bu b100 by omega))
    obtain ⟨cl118, Ar118, -, S118, M118, H118, -⟩ := id f117
    have hin118 : ¬ ((3 : Int32) < 0 ∨ cl118.slots.size ≤ ((3 : Int32)).toNatClampNeg) := inb_of S118 ⟨by decide, by decide⟩
    have hat118 : cl118.slots[((3 : Int32)).toNatClampNeg]? = some (.int c3_) := H118.at hin118 (rfl)
    obtain ⟨cl119, Ar119, q119, S119, M119, H119, G119⟩ := id V115
    have hin119 : ¬ ((3 : Int32) < 0 ∨ cl119.slots.size ≤ ((3 : Int32)).toNatClampNeg) := inb_of S119 ⟨by decide, by decide⟩
    obtain ⟨T120, h120, X120, e120, W120, st120⟩ := stC X115 hx hZ e115 Ar119 (j := (3 : Int32)) hin119 (g := (mkF m 134 #[.val (.int (4 : Int32)), .val (.ref bu)] [(.int c3_), (.int (3 : Int32)), (.ref b100), (.ref b100), (.ref b95), (.ref b95)])) rfl rfl (Jvm.hb hby d_method_4_134)
    have z121 : h115.size ≤ h120.size := Nat.le_of_eq W120.size.symm
    have Cp121 : CHr Z ELs s.vm h115 s.vm h120 := CHr.wr W120 (Safe.arv hZ.alike V115 (by decide)) CR.1
    have hk := Nat.le_trans hk z121
    have CR := CR.trans Cp121
    have V120 : Arv Z h120 b100 k100 .char (4 : Int32) [(.int c0_), (.int c1_), (.int c2_), (.int c3_)] (.int (0 : Int32)) := by have q : Arv Z h120 b100 k100 .char (4 : Int32) [(.int c0_), (.int c1_), (.int c2_), (.int (nar .char c3_))] (.int (0 : Int32)) := Arv.set Ar119 q119 S119 M119 H119 G119 (fits_nar_char _) W120 3 rfl (Nat.le_of_ble_eq_true rfl); rw [show nar .char c3_ = c3_ from own_narc r3a (own_le64k r3b)] at q; exact q
    have N120 := Fr.snoc X120 N115 (show n0 ≤ b100 by omega)
    have O122 : Old Z n0 h120 := ((((((OX.ext E95).ext E100).wr W105 (show n0 ≤ b100 by omega)).wr W110 (show n0 ≤ b100 by omega)).wr W115 (show n0 ≤ b100 by omega)).wr W120 (show n0 ≤ b100 by omega))
    have f123 : Exa Z h120 b95 "java/lang/String" := (((((A95.ext E100).wr W105).wr W110).wr W115).wr W120)
    have f124 : Fld Z h120 b95 "java/lang/String" "value" "[B" .null := (((((F98.ext E100).other W105 (Or.inl (show @Ne Nat b95 b100 by omega))).other W110 (Or.inl (show @Ne Nat b95 b100 by omega))).other W115 (Or.inl (show @Ne Nat b95 b100 by omega))).other W120 (Or.inl (show @Ne Nat b95 b100 by omega)))
    have f125 : Fld Z h120 b95 "java/lang/String" "coder" "B" (.int (0 : Int32)) := (((((F99.ext E100).other W105 (Or.inl (show @Ne Nat b95 b100 by omega))).other W110 (Or.inl (show @Ne Nat b95 b100 by omega))).other W115 (Or.inl (show @Ne Nat b95 b100 by omega))).other W120 (Or.inl (show @Ne Nat b95 b100 by omega)))
    have Zc126 : n0 ≤ h120.size := by omega
    have s128 : ∀ t_, Steps p.tables e below (T120.setTop (mkF m 135 #[.val (.int (4 : Int32)), .val (.ref bu)] [(.ref b100), (.ref b95), (.ref b95)])) t_ → Steps p.tables e below (s₁.setTop (entryFrame m #[(.int (4 : Int32)), (.ref bu)] 2)) t_ := fun t_ k_ => pre0 t_ (by
      show Steps p.tables e below (s₁.setTop (mkF m 0 #[.val (.int (4 : Int32)), .val (.ref bu)] [])) t_
      refine XS.iloadN X0.here hx rfl (Jvm.hb hby d_method_4_0) rfl ?_
      refine XS.ifYes X0.here hx rfl (pc0 := 1) (pc' := 15) rfl (Jvm.hb hby d_method_4_1) rfl ((if0 _ _).trans (feq (by decide : ¬ ((4 : Int32) = (0 : Int32)))).2) (by decide) (by decide) ?_
      show Steps p.tables e below (s₁.setTop (mkF m 15 #[.val (.int (4 : Int32)), .val (.ref bu)] [])) _
      refine XS.iloadN X0.here hx rfl (Jvm.hb hby d_method_4_15) rfl ?_
      refine XS.iconst X0.here hx rfl (Jvm.hb hby d_method_4_16) ?_
      refine XS.icmpYes X0.here hx rfl (pc0 := 17) (pc' := 37) rfl (Jvm.hb hby d_method_4_17) rfl (feq (by decide : ¬ ((4 : Int32) = (1 : Int32)))).2 (by decide) (by decide) ?_
      show Steps p.tables e below (s₁.setTop (mkF m 37 #[.val (.int (4 : Int32)), .val (.ref bu)] [])) _
      refine XS.iloadN X0.here hx rfl (Jvm.hb hby d_method_4_37) rfl ?_
      refine XS.iconst X0.here hx rfl (Jvm.hb hby d_method_4_38) ?_
      refine XS.icmpYes X0.here hx rfl (pc0 := 39) (pc' := 65) rfl (Jvm.hb hby d_method_4_39) rfl (feq (by decide : ¬ ((4 : Int32) = (2 : Int32)))).2 (by decide) (by decide) ?_
      show Steps p.tables e below (s₁.setTop (mkF m 65 #[.val (.int (4 : Int32)), .val (.ref bu)] [])) _
      refine XS.iloadN X0.here hx rfl (Jvm.hb hby d_method_4_65) rfl ?_
      refine XS.iconst X0.here hx rfl (Jvm.hb hby d_method_4_66) ?_
      refine XS.icmpYes X0.here hx rfl (pc0 := 67) (pc' := 99) rfl (Jvm.hb hby d_method_4_67) rfl (feq (by decide : ¬ ((4 : Int32) = (3 : Int32)))).2 (by decide) (by decide) ?_
      show Steps p.tables e below (s₁.setTop (mkF m 99 #[.val (.int (4 : Int32)), .val (.ref bu)] [])) _
      refine XS.iloadN X0.here hx rfl (Jvm.hb hby d_method_4_99) rfl ?_
      refine XS.iconst X0.here hx rfl (Jvm.hb hby d_method_4_100) ?_
      refine XS.icmpNo X0.here hx rfl (Jvm.hb hby d_method_4_101) rfl (teq (rfl : (4 : Int32) = (4 : Int32))).2 ?_
      show Steps p.tables e below (s₁.setTop (mkF m 104 #[.val (.int (4 : Int32)), .val (.ref bu)] [])) _
      refine st95 _ ?_
      show Steps p.tables e below (T95.setTop (mkF m 107 #[.val (.int (4 : Int32)), .val (.ref bu)] [(.ref b95)])) _
      refine XS.dup X95.here hx rfl (Jvm.hb hby d_method_4_107) rfl rfl ?_
      refine XS.iconst X95.here hx rfl (Jvm.hb hby d_method_4_108) ?_
      refine st100 _ ?_
      show Steps p.tables e below (T100.setTop (mkF m 111 #[.val (.int (4 : Int32)), .val (.ref bu)] [(.ref b100), (.ref b95), (.ref b95)])) _
      refine XS.dup X100.here hx rfl (Jvm.hb hby d_method_4_111) rfl rfl ?_
      refine XS.iconst X100.here hx rfl (Jvm.hb hby d_method_4_112) ?_
      refine XS.aloadN X100.here hx rfl (Jvm.hb hby d_method_4_113) rfl rfl ?_
      refine XS.iconst X100.here hx rfl (Jvm.hb hby d_method_4_114) ?_
      refine X100.caload hx (j := (0 : Int32)) (v := (.int c0_)) (by rw [e100]; exact Ar103.1) (State.isArrayOf_alike hZ.alike Ar103.2.1) Ar103.2.2 hin103 hat103 (g := (mkF m 115 #[.val (.int (4 : Int32)), .val (.ref bu)] [(.int (0 : Int32)), (.ref bu), (.int (0 : Int32)), (.ref b100), (.ref b100), (.ref b95), (.ref b95)])) rfl rfl (Jvm.hb hby d_method_4_115) _ ?_
      show Steps p.tables e below (T100.setTop (mkF m 116 #[.val (.int (4 : Int32)), .val (.ref bu)] [(.int c0_), (.int (0 : Int32)), (.ref b100), (.ref b100), (.ref b95), (.ref b95)])) _
      refine st105 _ ?_
      show Steps p.tables e below (T105.setTop (mkF m 117 #[.val (.int (4 : Int32)), .val (.ref bu)] [(.ref b100), (.ref b95), (.ref b95)])) _
      refine XS.dup X105.here hx rfl (Jvm.hb hby d_method_4_117) rfl rfl ?_
      refine XS.iconst X105.here hx rfl (Jvm.hb hby d_method_4_118) ?_
      refine XS.aloadN X105.here hx rfl (Jvm.hb hby d_method_4_119) rfl rfl ?_
      refine XS.iconst X105.here hx rfl (Jvm.hb hby d_method_4_120) ?_
      refine X105.caload hx (j := (1 : Int32)) (v := (.int c1_)) (by rw [e105]; exact Ar108.1) (State.isArrayOf_alike hZ.alike Ar108.2.1) Ar108.2.2 hin108 hat108 (g := (mkF m 121 #[.val (.int (4 : Int32)), .val (.ref bu)] [(.int (1 : Int32)), (.ref bu), (.int (1 : Int32)), (.ref b100), (.ref b100), (.ref b95), (.ref b95)])) rfl rfl (Jvm.hb hby d_method_4_121) _ ?_
      show Steps p.tables e below (T105.setTop (mkF m 122 #[.val (.int (4 : Int32)), .val (.ref bu)] [(.int c1_), (.int (1 : Int32)), (.ref b100), (.ref b100), (.ref b95), (.ref b95)])) _
      refine st110 _ ?_
      show Steps p.tables e below (T110.setTop (mkF m 123 #[.val (.int (4 : Int32)), .val (.ref bu)] [(.ref b100), (.ref b95), (.ref b95)])) _
      refine XS.dup X110.here hx rfl (Jvm.hb hby d_method_4_123) rfl rfl ?_
      refine XS.iconst X110.here hx rfl (Jvm.hb hby d_method_4_124) ?_
      refine XS.aloadN X110.here hx rfl (Jvm.hb hby d_method_4_125) rfl rfl ?_
      refine XS.iconst X110.here hx rfl (Jvm.hb hby d_method_4_126) ?_
      refine X110.caload hx (j := (2 : Int32)) (v := (.int c2_)) (by rw [e110]; exact Ar113.1) (State.isArrayOf_alike hZ.alike Ar113.2.1) Ar113.2.2 hin113 hat113 (g := (mkF m 127 #[.val (.int (4 : Int32)), .val (.ref bu)] [(.int (2 : Int32)), (.ref bu), (.int (2 : Int32)), (.ref b100), (.ref b100), (.ref b95), (.ref b95)])) rfl rfl (Jvm.hb hby d_method_4_127) _ ?_
      show Steps p.tables e below (T110.setTop (mkF m 128 #[.val (.int (4 : Int32)), .val (.ref bu)] [(.int c2_), (.int (2 : Int32)), (.ref b100), (.ref b100), (.ref b95), (.ref b95)])) _
      refine st115 _ ?_
      show Steps p.tables e below (T115.setTop (mkF m 129 #[.val (.int (4 : Int32)), .val (.ref bu)] [(.ref b100), (.ref b95), (.ref b95)])) _
      refine XS.dup X115.here hx rfl (Jvm.hb hby d_method_4_129) rfl rfl ?_
      refine XS.iconst X115.here hx rfl (Jvm.hb hby d_method_4_130) ?_
      refine XS.aloadN X115.here hx rfl (Jvm.hb hby d_method_4_131) rfl rfl ?_
      refine XS.iconst X115.here hx rfl (Jvm.hb hby d_method_4_132) ?_
      refine X115.caload hx (j := (3 : Int32)) (v := (.int c3_)) (by rw [e115]; exact Ar118.1) (State.isArrayOf_alike hZ.alike Ar118.2.1) Ar118.2.2 hin118 hat118 (g := (mkF m 133 #[.val (.int (4 : Int32)), .val (.ref bu)] [(.int (3 : Int32)), (.ref bu), (.int (3 : Int32)), (.ref b100), (.ref b100), (.ref b95), (.ref b95)])) rfl rfl (Jvm.hb hby d_method_4_133) _ ?_
      show Steps p.tables e below (T115.setTop (mkF m 134 #[.val (.int (4 : Int32)), .val (.ref bu)] [(.int c3_), (.int (3 : Int32)), (.ref b100), (.ref b100), (.ref b95), (.ref b95)])) _
      refine st120 _ ?_
      show Steps p.tables e below (T120.setTop (mkF m 135 #[.val (.int (4 : Int32)), .val (.ref bu)] [(.ref b100), (.ref b95), (.ref b95)])) _
      show Steps p.tables e below (T120.setTop (mkF m 135 #[.val (.int (4 : Int32)), .val (.ref bu)] [(.ref b100), (.ref b95), (.ref b95)])) t_
      exact k_)
    obtain ⟨_, _, ⟨T127, L127, k127, n127⟩, -, Xr127, hSr127, hg127, ⟨Lc127, hQ127, l127, y127, z127, Cp127⟩, st127⟩ := X120.specialBackS hx (y := (⟨"java/lang/String", "<init>", "([C)V"⟩ : MethodName)) rfl hown (mvT hZ (hw _ (List.mem_of_getElem? (i := 21) rfl))) (mvT hZ (hw _ (List.mem_of_getElem? (i := 22) rfl))) (mvT hZ (hw _ (List.mem_of_getElem? (i := 23) rfl))) (by decide) (backOfSH (s := s) (vm0 := s.vm) (W := 1) (rmIni1 l Z a0 hw [] b95 b100 cst [c0_, c1_, c2_, c3_] k100 4 h120 n0 Zc126 I1 O122 (hcst : ¬ (cst = (0 : Int32))) f123 f124 f125 V120 rfl (by first | assumption | omega | rfl | decide : 4 ≤ 7) (own_latS r0b (own_latS r1b (own_latS r2b (own_latS r3b own_lat0)))) (by first | assumption | omega | rfl | decide : n0 ≤ b95) (by first | assumption | omega | rfl | decide : @Ne Nat b95 b100)) hZ (hw _ (List.mem_of_getElem? (i := 23) rfl)) (hw _ (List.mem_of_getElem? (i := 1) rfl)) (by decide) (by decide) hEL CR.1) (g := (mkF m 135 #[.val (.int (4 : Int32)), .val (.ref bu)] [(.ref b100), (.ref b95), (.ref b95)])) rfl (by rw [hml]; rfl) (Steps.refl _) (a := b95) (argsL := [(.ref b100)]) (rest := [(.ref b95)]) (lenOf pd___C_V rfl) rfl (by show 2 * 0 + _ ≤ _; exact Nat.le_of_eq rfl) (Jvm.hb hby d_method_4_135) (fun _ _ => ⟨rfl, e120, (by decide : 2 + 4 ≤ _), (by decide : 8 + 8 ≤ _)⟩)
    dsimp only [Pt.U, Pt.locs, Pt.cells, Pt.slots] at Xr127 hSr127 hg127 l127 y127 z127 st127 hQ127 Cp127
    subst l127 y127 z127
    obtain ⟨X127, hS, hZ, hown⟩ := rebS (own := "com/example/coyote_hill/coyotehill/ItemStateFromNamePinLaw") hS (by first | exact Nat.le_refl _ | (rw [e120]; exact hk)) Xr127 hSr127 hg127 hZ hown
    obtain ⟨b_127, kb_127, rfl, N127q, K127, Fq127_0, Fq127_1, Fq127_2, Fq127_3⟩ := hQ127
    have N127 := Fr.app N120 N127q
    obtain ⟨h127, e127⟩ : ∃ z, T127.heap = z := ⟨_, rfl⟩
    rw [e127] at K127 Fq127_0 Fq127_1 Fq127_2 Fq127_3 Cp127
    have hk : T127.heap.size ≤ h127.size := Nat.le_of_eq (congrArg Array.size e127)
    have z129 : h120.size ≤ h127.size := K127.1
    have CR := CR.trans Cp127
    have lt127_0 : @LT.lt Nat _ b95 h127.size := Fq127_0.lt
    have lt127_3 : @LT.lt Nat _ b_127 h127.size := Fq127_3.lt
    have s130 : ∀ t_, Steps p.tables e below (T127.setTop (mkF m 138 #[.val (.int (4 : Int32)), .val (.ref bu)] [(.ref b95)])) t_ → Steps p.tables e below (s₁.setTop (entryFrame m #[(.int (4 : Int32)), (.ref bu)] 2)) t_ := fun t_ k_ => s128 t_ (by
      show Steps p.tables e below (T120.setTop (mkF m 135 #[.val (.int (4 : Int32)), .val (.ref bu)] [(.ref b100), (.ref b95), (.ref b95)])) t_
      refine st127.trans ?_
      show Steps p.tables e below (T127.setTop (mkF m 138 #[.val (.int (4 : Int32)), .val (.ref bu)] [(.ref b95)])) _
      show Steps p.tables e below (T127.setTop (mkF m 138 #[.val (.int (4 : Int32)), .val (.ref bu)] [(.ref b95)])) t_
      exact k_)
    obtain ⟨fs, hr, hrun, hended, hREW⟩ := X127.leaveW hS (by first | exact Nat.le_refl _ | (rw [e127]; exact hk)) (v := some (.ref b95)) (fun h => by rw [Bd.returns] at h; cases h)
    refine ⟨_, _, s130 _ ?_, hrun, hended, _, _, rfl, ?_, (by show CHr Z ELs s.vm s.heap T127.vm T127.heap; rw [hh, e127]; exact CR.trans (CHv.at X127 hZ hEL CR.1)), hREW.1, hREW.2.1, hREW.2.2.1, hREW.2.2.2.mono (by decide) (by decide)⟩
    · show Steps p.tables e below (T127.setTop (mkF m 138 #[.val (.int (4 : Int32)), .val (.ref bu)] [(.ref b95)])) _
      jvm_step X127.here [X127.here.top, hx, (Jvm.hb hby d_method_4_138), X127.method', Bd.returns, Value.isRef, FieldType.isReference]
      first | (intro acts; rw [hr _ acts rfl rfl rfl]) | rw [hr _ _ rfl rfl rfl]
      exact Steps.refl _
    · show Q_rmMk Z _ _ _ _ _ _ _ _ _ _ _ h0 n0 _ T127.heap _
      rw [e127]
      exact ⟨b95, b_127, kb_127, rfl, N127, ((((((((Keep.refl h0 []).ext E95).ext E100).wr W105 (Or.inr (show h0.size ≤ b100 by omega))).wr W110 (Or.inr (show h0.size ≤ b100 by omega))).wr W115 (Or.inr (show h0.size ≤ b100 by omega))).wr W120 (Or.inr (show h0.size ≤ b100 by omega))).trans K127 (allS (Or.inr (show h0.size ≤ b95 by omega)) all0)), Fq127_0, Fq127_1, Fq127_2, Fq127_3, by omega⟩
  · have hcase := trivial
    obtain ⟨T131, h131, X131, e131, E131, A131, D131, -, st131⟩ := newO X0 hx hZ hown (hw _ (List.mem_of_getElem? (i := 20) rfl)) (hw _ (List.mem_of_getElem? (i := 2) rfl)) (hw _ (List.mem_of_getElem? (i := 1) rfl)) e0 (g := (mkF m 144 #[.val (.int (5 : Int32)), .val (.ref bu)] [])) rfl (Jvm.hb hby d_method_4_144) (by decide) (by decide)
    obtain ⟨b131, g131⟩ : ∃ z, z = h0.size := ⟨_, rfl⟩
    rw [← g131] at A131 D131 st131
    have z132 : h0.size ≤ h131.size := E131.1
    have Sf133 : Safe Z ELs s.vm h131 b131 := Safe.ext E131 CR.1 (Safe.new (by omega))
    have Cp132 : CHr Z ELs s.vm h0 s.vm h131 := CHr.ext E131 CR.1
    have hk := Nat.le_trans hk z132
    have CR := CR.trans Cp132
    have l131 : b131 < h131.size := A131.lt
    have F134 : Fld Z h131 b131 "java/lang/String" "value" "[B" .null := D131 (Or.inr (hw _ (List.mem_of_getElem? (i := 4) rfl))) (ty := (.array .byte)) (by decide)
    have F135 : Fld Z h131 b131 "java/lang/String" "coder" "B" (.int (0 : Int32)) := D131 (Or.inr (hw _ (List.mem_of_getElem? (i := 5) rfl))) (ty := .byte) (by decide)
    obtain ⟨T136, h136, k136, X136, e136, E136, A136, st136⟩ := newP X131 hx hZ (hw _ (List.mem_of_getElem? (i := 11) rfl)) e131 (g := (mkF m 149 #[.val (.int (5 : Int32)), .val (.ref bu)] [(.int (5 : Int32)), (.ref b131), (.ref b131)])) rfl (Jvm.hb hby d_method_4_149) rfl (by decide) (cap := 5) (by decide) (by decide) (by decide) (by decide)
    obtain ⟨b136, g136⟩ : ∃ z, z = h131.size := ⟨_, rfl⟩
    rw [← g136] at A136 st136
    have z137 : h131.size ≤ h136.size := E136.1
    have Cp137 : CHr Z ELs s.vm h131 s.vm h136 := CHr.ext E136 CR.1
    have hk := Nat.le_trans hk z137
    have CR := CR.trans Cp137
    have l136 : b136 < h136.size := A136.lt
    have V136 : Arv Z h136 b136 k136 .char (5 : Int32) [(.int (0 : Int32)), (.int (0 : Int32)), (.int (0 : Int32)), (.int (0 : Int32)), (.int (0 : Int32))] (.int (0 : Int32)) := (Arv.new A136 (by decide)).pad (pad_rep [] (.int (0 : Int32)) 5)
    have f138 : Arv Z h136 bu k7 .char (7 : Int32) [(.int c0_), (.int c1_), (.int c2_), (.int c3_), (.int c4_), (.int c5_), (.int c6_)] (.int (0 : Int32)) := ((I2.ext E131).ext E136)
    obtain ⟨cl139, Ar139, -, S139, M139, H139, -⟩ := id f138
    have hin139 : ¬ ((0 : Int32) < 0 ∨ cl139.slots.size ≤ ((0 : Int32)).toNatClampNeg) := inb_of S139 ⟨by decide, by decide⟩
    have hat139 : cl139.slots[((0 : Int32)).toNatClampNeg]? = some (.int c0_) := H139.at hin139 (rfl)
    obtain ⟨cl140, Ar140, q140, S140, M140, H140, G140⟩ := id V136
    have hin140 : ¬ ((0 : Int32) < 0 ∨ cl140.slots.size ≤ ((0 : Int32)).toNatClampNeg) := inb_of S140 ⟨by decide, by decide⟩
    obtain ⟨T141, h141, X141, e141, W141, st141⟩ := stC X136 hx hZ e136 Ar140 (j := (0 : Int32)) hin140 (g := (mkF m 156 #[.val (.int (5 : Int32)), .val (.ref bu)] [(.int c0_), (.int (0 : Int32)), (.ref b136), (.ref b136), (.ref b131), (.ref b131)])) rfl rfl (Jvm.hb hby d_method_4_156)
    have z142 : h136.size ≤ h141.size := Nat.le_of_eq W141.size.symm
    have Cp142 : CHr Z ELs s.vm h136 s.vm h141 := CHr.wr W141 (Safe.arv hZ.alike V136 (by decide)) CR.1
    have hk := Nat.le_trans hk z142
    have CR := CR.trans Cp142
    have V141 : Arv Z h141 b136 k136 .char (5 : Int32) [(.int c0_), (.int (0 : Int32)), (.int (0 : Int32)), (.int (0 : Int32)), (.int (0 : Int32))] (.int (0 : Int32)) := by have q : Arv Z h141 b136 k136 .char (5 : Int32) [(.int (nar .char c0_)), (.int (0 : Int32)), (.int (0 : Int32)), (.int (0 : Int32)), (.int (0 : Int32))] (.int (0 : Int32)) := Arv.set Ar140 q140 S140 M140 H140 G140 (fits_nar_char _) W141 0 rfl (Nat.le_of_ble_eq_true rfl); rw [show nar .char c0_ = c0_ from own_narc r0a (own_le64k r0b)] at q; exact q
    have N141 := Fr.snoc X141 N0 (show n0 ≤ b136 by omega)
    have f143 : Arv Z h141 bu k7 .char (7 : Int32) [(.int c0_), (.int c1_), (.int c2_), (.int c3_), (.int c4_), (.int c5_), (.int c6_)] (.int (0 : Int32)) := (f138.other W141 (show @Ne Nat bu b136 by omega))
    obtain ⟨cl144, Ar144, -, S144, M144, H144, -⟩ := id f143
    have hin144 : ¬ ((1 : Int32) < 0 ∨ cl144.slots.size ≤ ((1 : Int32)).toNatClampNeg) := inb_of S144 ⟨by decide, by decide⟩
    have hat144 : cl144.slots[((1 : Int32)).toNatClampNeg]? = some (.int c1_) := H144.at hin144 (rfl)
    obtain ⟨cl145, Ar145, q145, S145, M145, H145, G145⟩ := id V141
    have hin145 : ¬ ((1 : Int32) < 0 ∨ cl145.slots.size ≤ ((1 : Int32)).toNatClampNeg) := inb_of S145 ⟨by decide, by decide⟩
    obtain ⟨T146, h146, X146, e146, W146, st146⟩ := stC X141 hx hZ e141 Ar145 (j := (1 : Int32)) hin145 (g := (mkF m 162 #[.val (.int (5 : Int32)), .val (.ref bu)] [(.int c1_), (.int (1 : Int32)), (.ref b136), (.ref b136), (.ref b131), (.ref b131)])) rfl rfl (Jvm.hb hby d_method_4_162)
    have z147 : h141.size ≤ h146.size := Nat.le_of_eq W146.size.symm
    have Cp147 : CHr Z ELs s.vm h141 s.vm h146 := CHr.wr W146 (Safe.arv hZ.alike V141 (by decide)) CR.1
    have hk := Nat.le_trans hk z147
    have CR := CR.trans Cp147
    have V146 : Arv Z h146 b136 k136 .char (5 : Int32) [(.int c0_), (.int c1_), (.int (0 : Int32)), (.int (0 : Int32)), (.int (0 : Int32))] (.int (0 : Int32)) := by have q : Arv Z h146 b136 k136 .char (5 : Int32) [(.int c0_), (.int (nar .char c1_)), (.int (0 : Int32)), (.int (0 : Int32)), (.int (0 : Int32))] (.int (0 : Int32)) := Arv.set Ar145 q145 S145 M145 H145 G145 (fits_nar_char _) W146 1 rfl (Nat.le_of_ble_eq_true rfl); rw [show nar .char c1_ = c1_ from own_narc r1a (own_le64k r1b)] at q; exact q
    have N146 := Fr.snoc X146 N141 (show n0 ≤ b136 by omega)
    have f148 : Arv Z h146 bu k7 .char (7 : Int32) [(.int c0_), (.int c1_), (.int c2_), (.int c3_), (.int c4_), (.int c5_), (.int c6_)] (.int (0 : Int32)) := (f143.other W146 (show @Ne Nat bu b136 by omega))
    obtain ⟨cl149, Ar149, -, S149, M149, H149, -⟩ := id f148
    have hin149 : ¬ ((2 : Int32) < 0 ∨ cl149.slots.size ≤ ((2 : Int32)).toNatClampNeg) := inb_of S149 ⟨by decide, by decide⟩
    have hat149 : cl149.slots[((2 : Int32)).toNatClampNeg]? = some (.int c2_) := H149.at hin149 (rfl)
    obtain ⟨cl150, Ar150, q150, S150, M150, H150, G150⟩ := id V146
    have hin150 : ¬ ((2 : Int32) < 0 ∨ cl150.slots.size ≤ ((2 : Int32)).toNatClampNeg) := inb_of S150 ⟨by decide, by decide⟩
    obtain ⟨T151, h151, X151, e151, W151, st151⟩ := stC X146 hx hZ e146 Ar150 (j := (2 : Int32)) hin150 (g := (mkF m 168 #[.val (.int (5 : Int32)), .val (.ref bu)] [(.int c2_), (.int (2 : Int32)), (.ref b136), (.ref b136), (.ref b131), (.ref b131)])) rfl rfl (Jvm.hb hby d_method_4_168)
    have z152 : h146.size ≤ h151.size := Nat.le_of_eq W151.size.symm
    have Cp152 : CHr Z ELs s.vm h146 s.vm h151 := CHr.wr W151 (Safe.arv hZ.alike V146 (by decide)) CR.1
    have hk := Nat.le_trans hk z152
    have CR := CR.trans Cp152
    have V151 : Arv Z h151 b136 k136 .char (5 : Int32) [(.int c0_), (.int c1_), (.int c2_), (.int (0 : Int32)), (.int (0 : Int32))] (.int (0 : Int32)) := by have q : Arv Z h151 b136 k136 .char (5 : Int32) [(.int c0_), (.int c1_), (.int (nar .char c2_)), (.int (0 : Int32)), (.int (0 : Int32))] (.int (0 : Int32)) := Arv.set Ar150 q150 S150 M150 H150 G150 (fits_nar_char _) W151 2 rfl (Nat.le_of_ble_eq_true rfl); rw [show nar .char c2_ = c2_ from own_narc r2a (own_le64k r2b)] at q; exact q
    have N151 := Fr.snoc X151 N146 (show n0 ≤ b136 by omega)
    have f153 : Arv Z h151 bu k7 .char (7 : Int32) [(.int c0_), (.int c1_), (.int c2_), (.int c3_), (.int c4_), (.int c5_), (.int c6_)] (.int (0 : Int32)) := (f148.other W151 (show @Ne Nat bu b136 by omega))
    obtain ⟨cl154, Ar154, -, S154, M154, H154, -⟩ := id f153
    have hin154 : ¬ ((3 : Int32) < 0 ∨ cl154.slots.size ≤ ((3 : Int32)).toNatClampNeg) := inb_of S154 ⟨by decide, by decide⟩
    have hat154 : cl154.slots[((3 : Int32)).toNatClampNeg]? = some (.int c3_) := H154.at hin154 (rfl)
    obtain ⟨cl155, Ar155, q155, S155, M155, H155, G155⟩ := id V151
    have hin155 : ¬ ((3 : Int32) < 0 ∨ cl155.slots.size ≤ ((3 : Int32)).toNatClampNeg) := inb_of S155 ⟨by decide, by decide⟩
    obtain ⟨T156, h156, X156, e156, W156, st156⟩ := stC X151 hx hZ e151 Ar155 (j := (3 : Int32)) hin155 (g := (mkF m 174 #[.val (.int (5 : Int32)), .val (.ref bu)] [(.int c3_), (.int (3 : Int32)), (.ref b136), (.ref b136), (.ref b131), (.ref b131)])) rfl rfl (Jvm.hb hby d_method_4_174)
    have z157 : h151.size ≤ h156.size := Nat.le_of_eq W156.size.symm
    have Cp157 : CHr Z ELs s.vm h151 s.vm h156 := CHr.wr W156 (Safe.arv hZ.alike V151 (by decide)) CR.1
    have hk := Nat.le_trans hk z157
    have CR := CR.trans Cp157
    have V156 : Arv Z h156 b136 k136 .char (5 : Int32) [(.int c0_), (.int c1_), (.int c2_), (.int c3_), (.int (0 : Int32))] (.int (0 : Int32)) := by have q : Arv Z h156 b136 k136 .char (5 : Int32) [(.int c0_), (.int c1_), (.int c2_), (.int (nar .char c3_)), (.int (0 : Int32))] (.int (0 : Int32)) := Arv.set Ar155 q155 S155 M155 H155 G155 (fits_nar_char _) W156 3 rfl (Nat.le_of_ble_eq_true rfl); rw [show nar .char c3_ = c3_ from own_narc r3a (own_le64k r3b)] at q; exact q
    have N156 := Fr.snoc X156 N151 (show n0 ≤ b136 by omega)
    have f158 : Arv Z h156 bu k7 .char (7 : Int32) [(.int c0_), (.int c1_), (.int c2_), (.int c3_), (.int c4_), (.int c5_), (.int c6_)] (.int (0 : Int32)) := (f153.other W156 (show @Ne Nat bu b136 by omega))
    obtain ⟨cl159, Ar159, -, S159, M159, H159, -⟩ := id f158
    have hin159 : ¬ ((4 : Int32) < 0 ∨ cl159.slots.size ≤ ((4 : Int32)).toNatClampNeg) := inb_of S159 ⟨by decide, by decide⟩
    have hat159 : cl159.slots[((4 : Int32)).toNatClampNeg]? = some (.int c4_) := H159.at hin159 (rfl)
    obtain ⟨cl160, Ar160, q160, S160, M160, H160, G160⟩ := id V156
    have hin160 : ¬ ((4 : Int32) < 0 ∨ cl160.slots.size ≤ ((4 : Int32)).toNatClampNeg) := inb_of S160 ⟨by decide, by decide⟩
    obtain ⟨T161, h161, X161, e161, W161, st161⟩ := stC X156 hx hZ e156 Ar160 (j := (4 : Int32)) hin160 (g := (mkF m 180 #[.val (.int (5 : Int32)), .val (.ref bu)] [(.int c4_), (.int (4 : Int32)), (.ref b136), (.ref b136), (.ref b131), (.ref b131)])) rfl rfl (Jvm.hb hby d_method_4_180)
    have z162 : h156.size ≤ h161.size := Nat.le_of_eq W161.size.symm
    have Cp162 : CHr Z ELs s.vm h156 s.vm h161 := CHr.wr W161 (Safe.arv hZ.alike V156 (by decide)) CR.1
    have hk := Nat.le_trans hk z162
    have CR := CR.trans Cp162
    have V161 : Arv Z h161 b136 k136 .char (5 : Int32) [(.int c0_), (.int c1_), (.int c2_), (.int c3_), (.int c4_)] (.int (0 : Int32)) := by have q : Arv Z h161 b136 k136 .char (5 : Int32) [(.int c0_), (.int c1_), (.int c2_), (.int c3_), (.int (nar .char c4_))] (.int (0 : Int32)) := Arv.set Ar160 q160 S160 M160 H160 G160 (fits_nar_char _) W161 4 rfl (Nat.le_of_ble_eq_true rfl); rw [show nar .char c4_ = c4_ from own_narc r4a (own_le64k r4b)] at q; exact q
    have N161 := Fr.snoc X161 N156 (show n0 ≤ b136 by omega)
    have O163 : Old Z n0 h161 := (((((((OX.ext E131).ext E136).wr W141 (show n0 ≤ b136 by omega)).wr W146 (show n0 ≤ b136 by omega)).wr W151 (show n0 ≤ b136 by omega)).wr W156 (show n0 ≤ b136 by omega)).wr W161 (show n0 ≤ b136 by omega))
    have f164 : Exa Z h161 b131 "java/lang/String" := ((((((A131.ext E136).wr W141).wr W146).wr W151).wr W156).wr W161)
    have f165 : Fld Z h161 b131 "java/lang/String" "value" "[B" .null := ((((((F134.ext E136).other W141 (Or.inl (show @Ne Nat b131 b136 by omega))).other W146 (Or.inl (show @Ne Nat b131 b136 by omega))).other W151 (Or.inl (show @Ne Nat b131 b136 by omega))).other W156 (Or.inl (show @Ne Nat b131 b136 by omega))).other W161 (Or.inl (show @Ne Nat b131 b136 by omega)))
    have f166 : Fld Z h161 b131 "java/lang/String" "coder" "B" (.int (0 : Int32)) := ((((((F135.ext E136).other W141 (Or.inl (show @Ne Nat b131 b136 by omega))).other W146 (Or.inl (show @Ne Nat b131 b136 by omega))).other W151 (Or.inl (show @Ne Nat b131 b136 by omega))).other W156 (Or.inl (show @Ne Nat b131 b136 by omega))).other W161 (Or.inl (show @Ne Nat b131 b136 by omega)))
    have Zc167 : n0 ≤ h161.size := by omega
    have s169 : ∀ t_, Steps p.tables e below (T161.setTop (mkF m 181 #[.val (.int (5 : Int32)), .val (.ref bu)] [(.ref b136), (.ref b131), (.ref b131)])) t_ → Steps p.tables e below (s₁.setTop (entryFrame m #[(.int (5 : Int32)), (.ref bu)] 2)) t_ := fun t_ k_ => pre0 t_ (by
      show Steps p.tables e below (s₁.setTop (mkF m 0 #[.val (.int (5 : Int32)), .val (.ref bu)] [])) t_
      refine XS.iloadN X0.here hx rfl (Jvm.hb hby d_method_4_0) rfl ?_
      refine XS.ifYes X0.here hx rfl (pc0 := 1) (pc' := 15) rfl (Jvm.hb hby d_method_4_1) rfl ((if0 _ _).trans (feq (by decide : ¬ ((5 : Int32) = (0 : Int32)))).2) (by decide) (by decide) ?_
      show Steps p.tables e below (s₁.setTop (mkF m 15 #[.val (.int (5 : Int32)), .val (.ref bu)] [])) _
      refine XS.iloadN X0.here hx rfl (Jvm.hb hby d_method_4_15) rfl ?_
      refine XS.iconst X0.here hx rfl (Jvm.hb hby d_method_4_16) ?_
      refine XS.icmpYes X0.here hx rfl (pc0 := 17) (pc' := 37) rfl (Jvm.hb hby d_method_4_17) rfl (feq (by decide : ¬ ((5 : Int32) = (1 : Int32)))).2 (by decide) (by decide) ?_
      show Steps p.tables e below (s₁.setTop (mkF m 37 #[.val (.int (5 : Int32)), .val (.ref bu)] [])) _
      refine XS.iloadN X0.here hx rfl (Jvm.hb hby d_method_4_37) rfl ?_
      refine XS.iconst X0.here hx rfl (Jvm.hb hby d_method_4_38) ?_
      refine XS.icmpYes X0.here hx rfl (pc0 := 39) (pc' := 65) rfl (Jvm.hb hby d_method_4_39) rfl (feq (by decide : ¬ ((5 : Int32) = (2 : Int32)))).2 (by decide) (by decide) ?_
      show Steps p.tables e below (s₁.setTop (mkF m 65 #[.val (.int (5 : Int32)), .val (.ref bu)] [])) _
      refine XS.iloadN X0.here hx rfl (Jvm.hb hby d_method_4_65) rfl ?_
      refine XS.iconst X0.here hx rfl (Jvm.hb hby d_method_4_66) ?_
      refine XS.icmpYes X0.here hx rfl (pc0 := 67) (pc' := 99) rfl (Jvm.hb hby d_method_4_67) rfl (feq (by decide : ¬ ((5 : Int32) = (3 : Int32)))).2 (by decide) (by decide) ?_
      show Steps p.tables e below (s₁.setTop (mkF m 99 #[.val (.int (5 : Int32)), .val (.ref bu)] [])) _
      refine XS.iloadN X0.here hx rfl (Jvm.hb hby d_method_4_99) rfl ?_
      refine XS.iconst X0.here hx rfl (Jvm.hb hby d_method_4_100) ?_
      refine XS.icmpYes X0.here hx rfl (pc0 := 101) (pc' := 139) rfl (Jvm.hb hby d_method_4_101) rfl (feq (by decide : ¬ ((5 : Int32) = (4 : Int32)))).2 (by decide) (by decide) ?_
      show Steps p.tables e below (s₁.setTop (mkF m 139 #[.val (.int (5 : Int32)), .val (.ref bu)] [])) _
      refine XS.iloadN X0.here hx rfl (Jvm.hb hby d_method_4_139) rfl ?_
      refine XS.iconst X0.here hx rfl (Jvm.hb hby d_method_4_140) ?_
      refine XS.icmpNo X0.here hx rfl (Jvm.hb hby d_method_4_141) rfl (teq (rfl : (5 : Int32) = (5 : Int32))).2 ?_
      show Steps p.tables e below (s₁.setTop (mkF m 144 #[.val (.int (5 : Int32)), .val (.ref bu)] [])) _
      refine st131 _ ?_
      show Steps p.tables e below (T131.setTop (mkF m 147 #[.val (.int (5 : Int32)), .val (.ref bu)] [(.ref b131)])) _
      refine XS.dup X131.here hx rfl (Jvm.hb hby d_method_4_147) rfl rfl ?_
      refine XS.iconst X131.here hx rfl (Jvm.hb hby d_method_4_148) ?_
      refine st136 _ ?_
      show Steps p.tables e below (T136.setTop (mkF m 151 #[.val (.int (5 : Int32)), .val (.ref bu)] [(.ref b136), (.ref b131), (.ref b131)])) _
      refine XS.dup X136.here hx rfl (Jvm.hb hby d_method_4_151) rfl rfl ?_
      refine XS.iconst X136.here hx rfl (Jvm.hb hby d_method_4_152) ?_
      refine XS.aloadN X136.here hx rfl (Jvm.hb hby d_method_4_153) rfl rfl ?_
      refine XS.iconst X136.here hx rfl (Jvm.hb hby d_method_4_154) ?_
      refine X136.caload hx (j := (0 : Int32)) (v := (.int c0_)) (by rw [e136]; exact Ar139.1) (State.isArrayOf_alike hZ.alike Ar139.2.1) Ar139.2.2 hin139 hat139 (g := (mkF m 155 #[.val (.int (5 : Int32)), .val (.ref bu)] [(.int (0 : Int32)), (.ref bu), (.int (0 : Int32)), (.ref b136), (.ref b136), (.ref b131), (.ref b131)])) rfl rfl (Jvm.hb hby d_method_4_155) _ ?_
      show Steps p.tables e below (T136.setTop (mkF m 156 #[.val (.int (5 : Int32)), .val (.ref bu)] [(.int c0_), (.int (0 : Int32)), (.ref b136), (.ref b136), (.ref b131), (.ref b131)])) _
      refine st141 _ ?_
      show Steps p.tables e below (T141.setTop (mkF m 157 #[.val (.int (5 : Int32)), .val (.ref bu)] [(.ref b136), (.ref b131), (.ref b131)])) _
      refine XS.dup X141.here hx rfl (Jvm.hb hby d_method_4_157) rfl rfl ?_
      refine XS.iconst X141.here hx rfl (Jvm.hb hby d_method_4_158) ?_
      refine XS.aloadN X141.here hx rfl (Jvm.hb hby d_method_4_159) rfl rfl ?_
      refine XS.iconst X141.here hx rfl (Jvm.hb hby d_method_4_160) ?_
      refine X141.caload hx (j := (1 : Int32)) (v := (.int c1_)) (by rw [e141]; exact Ar144.1) (State.isArrayOf_alike hZ.alike Ar144.2.1) Ar144.2.2 hin144 hat144 (g := (mkF m 161 #[.val (.int (5 : Int32)), .val (.ref bu)] [(.int (1 : Int32)), (.ref bu), (.int (1 : Int32)), (.ref b136), (.ref b136), (.ref b131), (.ref b131)])) rfl rfl (Jvm.hb hby d_method_4_161) _ ?_
      show Steps p.tables e below (T141.setTop (mkF m 162 #[.val (.int (5 : Int32)), .val (.ref bu)] [(.int c1_), (.int (1 : Int32)), (.ref b136), (.ref b136), (.ref b131), (.ref b131)])) _
      refine st146 _ ?_
      show Steps p.tables e below (T146.setTop (mkF m 163 #[.val (.int (5 : Int32)), .val (.ref bu)] [(.ref b136), (.ref b131), (.ref b131)])) _
      refine XS.dup X146.here hx rfl (Jvm.hb hby d_method_4_163) rfl rfl ?_
      refine XS.iconst X146.here hx rfl (Jvm.hb hby d_method_4_164) ?_
      refine XS.aloadN X146.here hx rfl (Jvm.hb hby d_method_4_165) rfl rfl ?_
      refine XS.iconst X146.here hx rfl (Jvm.hb hby d_method_4_166) ?_
      refine X146.caload hx (j := (2 : Int32)) (v := (.int c2_)) (by rw [e146]; exact Ar149.1) (State.isArrayOf_alike hZ.alike Ar149.2.1) Ar149.2.2 hin149 hat149 (g := (mkF m 167 #[.val (.int (5 : Int32)), .val (.ref bu)] [(.int (2 : Int32)), (.ref bu), (.int (2 : Int32)), (.ref b136), (.ref b136), (.ref b131), (.ref b131)])) rfl rfl (Jvm.hb hby d_method_4_167) _ ?_
      show Steps p.tables e below (T146.setTop (mkF m 168 #[.val (.int (5 : Int32)), .val (.ref bu)] [(.int c2_), (.int (2 : Int32)), (.ref b136), (.ref b136), (.ref b131), (.ref b131)])) _
      refine st151 _ ?_
      show Steps p.tables e below (T151.setTop (mkF m 169 #[.val (.int (5 : Int32)), .val (.ref bu)] [(.ref b136), (.ref b131), (.ref b131)])) _
      refine XS.dup X151.here hx rfl (Jvm.hb hby d_method_4_169) rfl rfl ?_
      refine XS.iconst X151.here hx rfl (Jvm.hb hby d_method_4_170) ?_
      refine XS.aloadN X151.here hx rfl (Jvm.hb hby d_method_4_171) rfl rfl ?_
      refine XS.iconst X151.here hx rfl (Jvm.hb hby d_method_4_172) ?_
      refine X151.caload hx (j := (3 : Int32)) (v := (.int c3_)) (by rw [e151]; exact Ar154.1) (State.isArrayOf_alike hZ.alike Ar154.2.1) Ar154.2.2 hin154 hat154 (g := (mkF m 173 #[.val (.int (5 : Int32)), .val (.ref bu)] [(.int (3 : Int32)), (.ref bu), (.int (3 : Int32)), (.ref b136), (.ref b136), (.ref b131), (.ref b131)])) rfl rfl (Jvm.hb hby d_method_4_173) _ ?_
      show Steps p.tables e below (T151.setTop (mkF m 174 #[.val (.int (5 : Int32)), .val (.ref bu)] [(.int c3_), (.int (3 : Int32)), (.ref b136), (.ref b136), (.ref b131), (.ref b131)])) _
      refine st156 _ ?_
      show Steps p.tables e below (T156.setTop (mkF m 175 #[.val (.int (5 : Int32)), .val (.ref bu)] [(.ref b136), (.ref b131), (.ref b131)])) _
      refine XS.dup X156.here hx rfl (Jvm.hb hby d_method_4_175) rfl rfl ?_
      refine XS.iconst X156.here hx rfl (Jvm.hb hby d_method_4_176) ?_
      refine XS.aloadN X156.here hx rfl (Jvm.hb hby d_method_4_177) rfl rfl ?_
      refine XS.iconst X156.here hx rfl (Jvm.hb hby d_method_4_178) ?_
      refine X156.caload hx (j := (4 : Int32)) (v := (.int c4_)) (by rw [e156]; exact Ar159.1) (State.isArrayOf_alike hZ.alike Ar159.2.1) Ar159.2.2 hin159 hat159 (g := (mkF m 179 #[.val (.int (5 : Int32)), .val (.ref bu)] [(.int (4 : Int32)), (.ref bu), (.int (4 : Int32)), (.ref b136), (.ref b136), (.ref b131), (.ref b131)])) rfl rfl (Jvm.hb hby d_method_4_179) _ ?_
      show Steps p.tables e below (T156.setTop (mkF m 180 #[.val (.int (5 : Int32)), .val (.ref bu)] [(.int c4_), (.int (4 : Int32)), (.ref b136), (.ref b136), (.ref b131), (.ref b131)])) _
      refine st161 _ ?_
      show Steps p.tables e below (T161.setTop (mkF m 181 #[.val (.int (5 : Int32)), .val (.ref bu)] [(.ref b136), (.ref b131), (.ref b131)])) _
      show Steps p.tables e below (T161.setTop (mkF m 181 #[.val (.int (5 : Int32)), .val (.ref bu)] [(.ref b136), (.ref b131), (.ref b131)])) t_
      exact k_)
    obtain ⟨_, _, ⟨T168, L168, k168, n168⟩, -, Xr168, hSr168, hg168, ⟨Lc168, hQ168, l168, y168, z168, Cp168⟩, st168⟩ := X161.specialBackS hx (y := (⟨"java/lang/String", "<init>", "([C)V"⟩ : MethodName)) rfl hown (mvT hZ (hw _ (List.mem_of_getElem? (i := 21) rfl))) (mvT hZ (hw _ (List.mem_of_getElem? (i := 22) rfl))) (mvT hZ (hw _ (List.mem_of_getElem? (i := 23) rfl))) (by decide) (backOfSH (s := s) (vm0 := s.vm) (W := 1) (rmIni1 l Z a0 hw [] b131 b136 cst [c0_, c1_, c2_, c3_, c4_] k136 5 h161 n0 Zc167 I1 O163 (hcst : ¬ (cst = (0 : Int32))) f164 f165 f166 V161 rfl (by first | assumption | omega | rfl | decide : 5 ≤ 7) (own_latS r0b (own_latS r1b (own_latS r2b (own_latS r3b (own_latS r4b own_lat0))))) (by first | assumption | omega | rfl | decide : n0 ≤ b131) (by first | assumption | omega | rfl | decide : @Ne Nat b131 b136)) hZ (hw _ (List.mem_of_getElem? (i := 23) rfl)) (hw _ (List.mem_of_getElem? (i := 1) rfl)) (by decide) (by decide) hEL CR.1) (g := (mkF m 181 #[.val (.int (5 : Int32)), .val (.ref bu)] [(.ref b136), (.ref b131), (.ref b131)])) rfl (by rw [hml]; rfl) (Steps.refl _) (a := b131) (argsL := [(.ref b136)]) (rest := [(.ref b131)]) (lenOf pd___C_V rfl) rfl (by show 2 * 0 + _ ≤ _; exact Nat.le_of_eq rfl) (Jvm.hb hby d_method_4_181) (fun _ _ => ⟨rfl, e161, (by decide : 2 + 4 ≤ _), (by decide : 9 + 8 ≤ _)⟩)
    dsimp only [Pt.U, Pt.locs, Pt.cells, Pt.slots] at Xr168 hSr168 hg168 l168 y168 z168 st168 hQ168 Cp168
    subst l168 y168 z168
    obtain ⟨X168, hS, hZ, hown⟩ := rebS (own := "com/example/coyote_hill/coyotehill/ItemStateFromNamePinLaw") hS (by first | exact Nat.le_refl _ | (rw [e161]; exact hk)) Xr168 hSr168 hg168 hZ hown
    obtain ⟨b_168, kb_168, rfl, N168q, K168, Fq168_0, Fq168_1, Fq168_2, Fq168_3⟩ := hQ168
    have N168 := Fr.app N161 N168q
    obtain ⟨h168, e168⟩ : ∃ z, T168.heap = z := ⟨_, rfl⟩
    rw [e168] at K168 Fq168_0 Fq168_1 Fq168_2 Fq168_3 Cp168
    have hk : T168.heap.size ≤ h168.size := Nat.le_of_eq (congrArg Array.size e168)
    have z170 : h161.size ≤ h168.size := K168.1
    have CR := CR.trans Cp168
    have lt168_0 : @LT.lt Nat _ b131 h168.size := Fq168_0.lt
    have lt168_3 : @LT.lt Nat _ b_168 h168.size := Fq168_3.lt
    have s171 : ∀ t_, Steps p.tables e below (T168.setTop (mkF m 184 #[.val (.int (5 : Int32)), .val (.ref bu)] [(.ref b131)])) t_ → Steps p.tables e below (s₁.setTop (entryFrame m #[(.int (5 : Int32)), (.ref bu)] 2)) t_ := fun t_ k_ => s169 t_ (by
      show Steps p.tables e below (T161.setTop (mkF m 181 #[.val (.int (5 : Int32)), .val (.ref bu)] [(.ref b136), (.ref b131), (.ref b131)])) t_
      refine st168.trans ?_
      show Steps p.tables e below (T168.setTop (mkF m 184 #[.val (.int (5 : Int32)), .val (.ref bu)] [(.ref b131)])) _
      show Steps p.tables e below (T168.setTop (mkF m 184 #[.val (.int (5 : Int32)), .val (.ref bu)] [(.ref b131)])) t_
      exact k_)
    obtain ⟨fs, hr, hrun, hended, hREW⟩ := X168.leaveW hS (by first | exact Nat.le_refl _ | (rw [e168]; exact hk)) (v := some (.ref b131)) (fun h => by rw [Bd.returns] at h; cases h)
    refine ⟨_, _, s171 _ ?_, hrun, hended, _, _, rfl, ?_, (by show CHr Z ELs s.vm s.heap T168.vm T168.heap; rw [hh, e168]; exact CR.trans (CHv.at X168 hZ hEL CR.1)), hREW.1, hREW.2.1, hREW.2.2.1, hREW.2.2.2.mono (by decide) (by decide)⟩
    · show Steps p.tables e below (T168.setTop (mkF m 184 #[.val (.int (5 : Int32)), .val (.ref bu)] [(.ref b131)])) _
      jvm_step X168.here [X168.here.top, hx, (Jvm.hb hby d_method_4_184), X168.method', Bd.returns, Value.isRef, FieldType.isReference]
      first | (intro acts; rw [hr _ acts rfl rfl rfl]) | rw [hr _ _ rfl rfl rfl]
      exact Steps.refl _
    · show Q_rmMk Z _ _ _ _ _ _ _ _ _ _ _ h0 n0 _ T168.heap _
      rw [e168]
      exact ⟨b131, b_168, kb_168, rfl, N168, (((((((((Keep.refl h0 []).ext E131).ext E136).wr W141 (Or.inr (show h0.size ≤ b136 by omega))).wr W146 (Or.inr (show h0.size ≤ b136 by omega))).wr W151 (Or.inr (show h0.size ≤ b136 by omega))).wr W156 (Or.inr (show h0.size ≤ b136 by omega))).wr W161 (Or.inr (show h0.size ≤ b136 by omega))).trans K168 (allS (Or.inr (show h0.size ≤ b131 by omega)) all0)), Fq168_0, Fq168_1, Fq168_2, Fq168_3, by omega⟩
  · have hcase := trivial
    obtain ⟨T172, h172, X172, e172, E172, A172, D172, -, st172⟩ := newO X0 hx hZ hown (hw _ (List.mem_of_getElem? (i := 20) rfl)) (hw _ (List.mem_of_getElem? (i := 2) rfl)) (hw _ (List.mem_of_getElem? (i := 1) rfl)) e0 (g := (mkF m 191 #[.val (.int (6 : Int32)), .val (.ref bu)] [])) rfl (Jvm.hb hby d_method_4_191) (by decide) (by decide)
    obtain ⟨b172, g172⟩ : ∃ z, z = h0.size := ⟨_, rfl⟩
    rw [← g172] at A172 D172 st172
    have z173 : h0.size ≤ h172.size := E172.1
    have Sf174 : Safe Z ELs s.vm h172 b172 := Safe.ext E172 CR.1 (Safe.new (by omega))
    have Cp173 : CHr Z ELs s.vm h0 s.vm h172 := CHr.ext E172 CR.1
    have hk := Nat.le_trans hk z173
    have CR := CR.trans Cp173
    have l172 : b172 < h172.size := A172.lt
    have F175 : Fld Z h172 b172 "java/lang/String" "value" "[B" .null := D172 (Or.inr (hw _ (List.mem_of_getElem? (i := 4) rfl))) (ty := (.array .byte)) (by decide)
    have F176 : Fld Z h172 b172 "java/lang/String" "coder" "B" (.int (0 : Int32)) := D172 (Or.inr (hw _ (List.mem_of_getElem? (i := 5) rfl))) (ty := .byte) (by decide)
    obtain ⟨T177, h177, k177, X177, e177, E177, A177, st177⟩ := newP X172 hx hZ (hw _ (List.mem_of_getElem? (i := 11) rfl)) e172 (g := (mkF m 197 #[.val (.int (6 : Int32)), .val (.ref bu)] [(.int (6 : Int32)), (.ref b172), (.ref b172)])) rfl (Jvm.hb hby d_method_4_197) rfl (by decide) (cap := 6) (by decide) (by decide) (by decide) (by decide)
    obtain ⟨b177, g177⟩ : ∃ z, z = h172.size := ⟨_, rfl⟩
    rw [← g177] at A177 st177
    have z178 : h172.size ≤ h177.size := E177.1
    have Cp178 : CHr Z ELs s.vm h172 s.vm h177 := CHr.ext E177 CR.1
    have hk := Nat.le_trans hk z178
    have CR := CR.trans Cp178
    have l177 : b177 < h177.size := A177.lt
    have V177 : Arv Z h177 b177 k177 .char (6 : Int32) [(.int (0 : Int32)), (.int (0 : Int32)), (.int (0 : Int32)), (.int (0 : Int32)), (.int (0 : Int32)), (.int (0 : Int32))] (.int (0 : Int32)) := (Arv.new A177 (by decide)).pad (pad_rep [] (.int (0 : Int32)) 6)
    have f179 : Arv Z h177 bu k7 .char (7 : Int32) [(.int c0_), (.int c1_), (.int c2_), (.int c3_), (.int c4_), (.int c5_), (.int c6_)] (.int (0 : Int32)) := ((I2.ext E172).ext E177)
    obtain ⟨cl180, Ar180, -, S180, M180, H180, -⟩ := id f179
    have hin180 : ¬ ((0 : Int32) < 0 ∨ cl180.slots.size ≤ ((0 : Int32)).toNatClampNeg) := inb_of S180 ⟨by decide, by decide⟩
    have hat180 : cl180.slots[((0 : Int32)).toNatClampNeg]? = some (.int c0_) := H180.at hin180 (rfl)
    obtain ⟨cl181, Ar181, q181, S181, M181, H181, G181⟩ := id V177
    have hin181 : ¬ ((0 : Int32) < 0 ∨ cl181.slots.size ≤ ((0 : Int32)).toNatClampNeg) := inb_of S181 ⟨by decide, by decide⟩
    obtain ⟨T182, h182, X182, e182, W182, st182⟩ := stC X177 hx hZ e177 Ar181 (j := (0 : Int32)) hin181 (g := (mkF m 204 #[.val (.int (6 : Int32)), .val (.ref bu)] [(.int c0_), (.int (0 : Int32)), (.ref b177), (.ref b177), (.ref b172), (.ref b172)])) rfl rfl (Jvm.hb hby d_method_4_204)
    have z183 : h177.size ≤ h182.size := Nat.le_of_eq W182.size.symm
    have Cp183 : CHr Z ELs s.vm h177 s.vm h182 := CHr.wr W182 (Safe.arv hZ.alike V177 (by decide)) CR.1
    have hk := Nat.le_trans hk z183
    have CR := CR.trans Cp183
    have V182 : Arv Z h182 b177 k177 .char (6 : Int32) [(.int c0_), (.int (0 : Int32)), (.int (0 : Int32)), (.int (0 : Int32)), (.int (0 : Int32)), (.int (0 : Int32))] (.int (0 : Int32)) := by have q : Arv Z h182 b177 k177 .char (6 : Int32) [(.int (nar .char c0_)), (.int (0 : Int32)), (.int (0 : Int32)), (.int (0 : Int32)), (.int (0 : Int32)), (.int (0 : Int32))] (.int (0 : Int32)) := Arv.set Ar181 q181 S181 M181 H181 G181 (fits_nar_char _) W182 0 rfl (Nat.le_of_ble_eq_true rfl); rw [show nar .char c0_ = c0_ from own_narc r0a (own_le64k r0b)] at q; exact q
    have N182 := Fr.snoc X182 N0 (show n0 ≤ b177 by omega)
    have f184 : Arv Z h182 bu k7 .char (7 : Int32) [(.int c0_), (.int c1_), (.int c2_), (.int c3_), (.int c4_), (.int c5_), (.int c6_)] (.int (0 : Int32)) := (f179.other W182 (show @Ne Nat bu b177 by omega))
    obtain ⟨cl185, Ar185, -, S185, M185, H185, -⟩ := id f184
    have hin185 : ¬ ((1 : Int32) < 0 ∨ cl185.slots.size ≤ ((1 : Int32)).toNatClampNeg) := inb_of S185 ⟨by decide, by decide⟩
    have hat185 : cl185.slots[((1 : Int32)).toNatClampNeg]? = some (.int c1_) := H185.at hin185 (rfl)
    obtain ⟨cl186, Ar186, q186, S186, M186, H186, G186⟩ := id V182
    have hin186 : ¬ ((1 : Int32) < 0 ∨ cl186.slots.size ≤ ((1 : Int32)).toNatClampNeg) := inb_of S186 ⟨by decide, by decide⟩
    obtain ⟨T187, h187, X187, e187, W187, st187⟩ := stC X182 hx hZ e182 Ar186 (j := (1 : Int32)) hin186 (g := (mkF m 210 #[.val (.int (6 : Int32)), .val (.ref bu)] [(.int c1_), (.int (1 : Int32)), (.ref b177), (.ref b177), (.ref b172), (.ref b172)])) rfl rfl (Jvm.hb hby d_method_4_210)
    have z188 : h182.size ≤ h187.size := Nat.le_of_eq W187.size.symm
    have Cp188 : CHr Z ELs s.vm h182 s.vm h187 := CHr.wr W187 (Safe.arv hZ.alike V182 (by decide)) CR.1
    have hk := Nat.le_trans hk z188
    have CR := CR.trans Cp188
    have V187 : Arv Z h187 b177 k177 .char (6 : Int32) [(.int c0_), (.int c1_), (.int (0 : Int32)), (.int (0 : Int32)), (.int (0 : Int32)), (.int (0 : Int32))] (.int (0 : Int32)) := by have q : Arv Z h187 b177 k177 .char (6 : Int32) [(.int c0_), (.int (nar .char c1_)), (.int (0 : Int32)), (.int (0 : Int32)), (.int (0 : Int32)), (.int (0 : Int32))] (.int (0 : Int32)) := Arv.set Ar186 q186 S186 M186 H186 G186 (fits_nar_char _) W187 1 rfl (Nat.le_of_ble_eq_true rfl); rw [show nar .char c1_ = c1_ from own_narc r1a (own_le64k r1b)] at q; exact q
    have N187 := Fr.snoc X187 N182 (show n0 ≤ b177 by omega)
    have f189 : Arv Z h187 bu k7 .char (7 : Int32) [(.int c0_), (.int c1_), (.int c2_), (.int c3_), (.int c4_), (.int c5_), (.int c6_)] (.int (0 : Int32)) := (f184.other W187 (show @Ne Nat bu b177 by omega))
    obtain ⟨cl190, Ar190, -, S190, M190, H190, -⟩ := id f189
    have hin190 : ¬ ((2 : Int32) < 0 ∨ cl190.slots.size ≤ ((2 : Int32)).toNatClampNeg) := inb_of S190 ⟨by decide, by decide⟩
    have hat190 : cl190.slots[((2 : Int32)).toNatClampNeg]? = some (.int c2_) := H190.at hin190 (rfl)
    obtain ⟨cl191, Ar191, q191, S191, M191, H191, G191⟩ := id V187
    have hin191 : ¬ ((2 : Int32) < 0 ∨ cl191.slots.size ≤ ((2 : Int32)).toNatClampNeg) := inb_of S191 ⟨by decide, by decide⟩
    obtain ⟨T192, h192, X192, e192, W192, st192⟩ := stC X187 hx hZ e187 Ar191 (j := (2 : Int32)) hin191 (g := (mkF m 216 #[.val (.int (6 : Int32)), .val (.ref bu)] [(.int c2_), (.int (2 : Int32)), (.ref b177), (.ref b177), (.ref b172), (.ref b172)])) rfl rfl (Jvm.hb hby d_method_4_216)
    have z193 : h187.size ≤ h192.size := Nat.le_of_eq W192.size.symm
    have Cp193 : CHr Z ELs s.vm h187 s.vm h192 := CHr.wr W192 (Safe.arv hZ.alike V187 (by decide)) CR.1
    have hk := Nat.le_trans hk z193
    have CR := CR.trans Cp193
    have V192 : Arv Z h192 b177 k177 .char (6 : Int32) [(.int c0_), (.int c1_), (.int c2_), (.int (0 : Int32)), (.int (0 : Int32)), (.int (0 : Int32))] (.int (0 : Int32)) := by have q : Arv Z h192 b177 k177 .char (6 : Int32) [(.int c0_), (.int c1_), (.int (nar .char c2_)), (.int (0 : Int32)), (.int (0 : Int32)), (.int (0 : Int32))] (.int (0 : Int32)) := Arv.set Ar191 q191 S191 M191 H191 G191 (fits_nar_char _) W192 2 rfl (Nat.le_of_ble_eq_true rfl); rw [show nar .char c2_ = c2_ from own_narc r2a (own_le64k r2b)] at q; exact q
    have N192 := Fr.snoc X192 N187 (show n0 ≤ b177 by omega)
    have f194 : Arv Z h192 bu k7 .char (7 : Int32) [(.int c0_), (.int c1_), (.int c2_), (.int c3_), (.int c4_), (.int c5_), (.int c6_)] (.int (0 : Int32)) := (f189.other W192 (show @Ne Nat bu b177 by omega))
    obtain ⟨cl195, Ar195, -, S195, M195, H195, -⟩ := id f194
    have hin195 : ¬ ((3 : Int32) < 0 ∨ cl195.slots.size ≤ ((3 : Int32)).toNatClampNeg) := inb_of S195 ⟨by decide, by decide⟩
    have hat195 : cl195.slots[((3 : Int32)).toNatClampNeg]? = some (.int c3_) := H195.at hin195 (rfl)
    obtain ⟨cl196, Ar196, q196, S196, M196, H196, G196⟩ := id V192
    have hin196 : ¬ ((3 : Int32) < 0 ∨ cl196.slots.size ≤ ((3 : Int32)).toNatClampNeg) := inb_of S196 ⟨by decide, by decide⟩
    obtain ⟨T197, h197, X197, e197, W197, st197⟩ := stC X192 hx hZ e192 Ar196 (j := (3 : Int32)) hin196 (g := (mkF m 222 #[.val (.int (6 : Int32)), .val (.ref bu)] [(.int c3_), (.int (3 : Int32)), (.ref b177), (.ref b177), (.ref b172), (.ref b172)])) rfl rfl (Jvm.hb hby d_method_4_222)
    have z198 : h192.size ≤ h197.size := Nat.le_of_eq W197.size.symm
    have Cp198 : CHr Z ELs s.vm h192 s.vm h197 := CHr.wr W197 (Safe.arv hZ.alike V192 (by decide)) CR.1
    have hk := Nat.le_trans hk z198
    have CR := CR.trans Cp198
    have V197 : Arv Z h197 b177 k177 .char (6 : Int32) [(.int c0_), (.int c1_), (.int c2_), (.int c3_), (.int (0 : Int32)), (.int (0 : Int32))] (.int (0 : Int32)) := by have q : Arv Z h197 b177 k177 .char (6 : Int32) [(.int c0_), (.int c1_), (.int c2_), (.int (nar .char c3_)), (.int (0 : Int32)), (.int (0 : Int32))] (.int (0 : Int32)) := Arv.set Ar196 q196 S196 M196 H196 G196 (fits_nar_char _) W197 3 rfl (Nat.le_of_ble_eq_true rfl); rw [show nar .char c3_ = c3_ from own_narc r3a (own_le64k r3b)] at q; exact q
    have N197 := Fr.snoc X197 N192 (show n0 ≤ b177 by omega)
    have f199 : Arv Z h197 bu k7 .char (7 : Int32) [(.int c0_), (.int c1_), (.int c2_), (.int c3_), (.int c4_), (.int c5_), (.int c6_)] (.int (0 : Int32)) := (f194.other W197 (show @Ne Nat bu b177 by omega))
    obtain ⟨cl200, Ar200, -, S200, M200, H200, -⟩ := id f199
    have hin200 : ¬ ((4 : Int32) < 0 ∨ cl200.slots.size ≤ ((4 : Int32)).toNatClampNeg) := inb_of S200 ⟨by decide, by decide⟩
    have hat200 : cl200.slots[((4 : Int32)).toNatClampNeg]? = some (.int c4_) := H200.at hin200 (rfl)
    obtain ⟨cl201, Ar201, q201, S201, M201, H201, G201⟩ := id V197
    have hin201 : ¬ ((4 : Int32) < 0 ∨ cl201.slots.size ≤ ((4 : Int32)).toNatClampNeg) := inb_of S201 ⟨by decide, by decide⟩
    obtain ⟨T202, h202, X202, e202, W202, st202⟩ := stC X197 hx hZ e197 Ar201 (j := (4 : Int32)) hin201 (g := (mkF m 228 #[.val (.int (6 : Int32)), .val (.ref bu)] [(.int c4_), (.int (4 : Int32)), (.ref b177), (.ref b177), (.ref b172), (.ref b172)])) rfl rfl (Jvm.hb hby d_method_4_228)
    have z203 : h197.size ≤ h202.size := Nat.le_of_eq W202.size.symm
    have Cp203 : CHr Z ELs s.vm h197 s.vm h202 := CHr.wr W202 (Safe.arv hZ.alike V197 (by decide)) CR.1
    have hk := Nat.le_trans hk z203
    have CR := CR.trans Cp203
    have V202 : Arv Z h202 b177 k177 .char (6 : Int32) [(.int c0_), (.int c1_), (.int c2_), (.int c3_), (.int c4_), (.int (0 : Int32))] (.int (0 : Int32)) := by have q : Arv Z h202 b177 k177 .char (6 : Int32) [(.int c0_), (.int c1_), (.int c2_), (.int c3_), (.int (nar .char c4_)), (.int (0 : Int32))] (.int (0 : Int32)) := Arv.set Ar201 q201 S201 M201 H201 G201 (fits_nar_char _) W202 4 rfl (Nat.le_of_ble_eq_true rfl); rw [show nar .char c4_ = c4_ from own_narc r4a (own_le64k r4b)] at q; exact q
    have N202 := Fr.snoc X202 N197 (show n0 ≤ b177 by omega)
    have f204 : Arv Z h202 bu k7 .char (7 : Int32) [(.int c0_), (.int c1_), (.int c2_), (.int c3_), (.int c4_), (.int c5_), (.int c6_)] (.int (0 : Int32)) := (f199.other W202 (show @Ne Nat bu b177 by omega))
    obtain ⟨cl205, Ar205, -, S205, M205, H205, -⟩ := id f204
    have hin205 : ¬ ((5 : Int32) < 0 ∨ cl205.slots.size ≤ ((5 : Int32)).toNatClampNeg) := inb_of S205 ⟨by decide, by decide⟩
    have hat205 : cl205.slots[((5 : Int32)).toNatClampNeg]? = some (.int c5_) := H205.at hin205 (rfl)
    obtain ⟨cl206, Ar206, q206, S206, M206, H206, G206⟩ := id V202
    have hin206 : ¬ ((5 : Int32) < 0 ∨ cl206.slots.size ≤ ((5 : Int32)).toNatClampNeg) := inb_of S206 ⟨by decide, by decide⟩
    obtain ⟨T207, h207, X207, e207, W207, st207⟩ := stC X202 hx hZ e202 Ar206 (j := (5 : Int32)) hin206 (g := (mkF m 234 #[.val (.int (6 : Int32)), .val (.ref bu)] [(.int c5_), (.int (5 : Int32)), (.ref b177), (.ref b177), (.ref b172), (.ref b172)])) rfl rfl (Jvm.hb hby d_method_4_234)
    have z208 : h202.size ≤ h207.size := Nat.le_of_eq W207.size.symm
    have Cp208 : CHr Z ELs s.vm h202 s.vm h207 := CHr.wr W207 (Safe.arv hZ.alike V202 (by decide)) CR.1
    have hk := Nat.le_trans hk z208
    have CR := CR.trans Cp208
    have V207 : Arv Z h207 b177 k177 .char (6 : Int32) [(.int c0_), (.int c1_), (.int c2_), (.int c3_), (.int c4_), (.int c5_)] (.int (0 : Int32)) := by have q : Arv Z h207 b177 k177 .char (6 : Int32) [(.int c0_), (.int c1_), (.int c2_), (.int c3_), (.int c4_), (.int (nar .char c5_))] (.int (0 : Int32)) := Arv.set Ar206 q206 S206 M206 H206 G206 (fits_nar_char _) W207 5 rfl (Nat.le_of_ble_eq_true rfl); rw [show nar .char c5_ = c5_ from own_narc r5a (own_le64k r5b)] at q; exact q
    have N207 := Fr.snoc X207 N202 (show n0 ≤ b177 by omega)
    have O209 : Old Z n0 h207 := ((((((((OX.ext E172).ext E177).wr W182 (show n0 ≤ b177 by omega)).wr W187 (show n0 ≤ b177 by omega)).wr W192 (show n0 ≤ b177 by omega)).wr W197 (show n0 ≤ b177 by omega)).wr W202 (show n0 ≤ b177 by omega)).wr W207 (show n0 ≤ b177 by omega))
    have f210 : Exa Z h207 b172 "java/lang/String" := (((((((A172.ext E177).wr W182).wr W187).wr W192).wr W197).wr W202).wr W207)
    have f211 : Fld Z h207 b172 "java/lang/String" "value" "[B" .null := (((((((F175.ext E177).other W182 (Or.inl (show @Ne Nat b172 b177 by omega))).other W187 (Or.inl (show @Ne Nat b172 b177 by omega))).other W192 (Or.inl (show @Ne Nat b172 b177 by omega))).other W197 (Or.inl (show @Ne Nat b172 b177 by omega))).other W202 (Or.inl (show @Ne Nat b172 b177 by omega))).other W207 (Or.inl (show @Ne Nat b172 b177 by omega)))
    have f212 : Fld Z h207 b172 "java/lang/String" "coder" "B" (.int (0 : Int32)) := (((((((F176.ext E177).other W182 (Or.inl (show @Ne Nat b172 b177 by omega))).other W187 (Or.inl (show @Ne Nat b172 b177 by omega))).other W192 (Or.inl (show @Ne Nat b172 b177 by omega))).other W197 (Or.inl (show @Ne Nat b172 b177 by omega))).other W202 (Or.inl (show @Ne Nat b172 b177 by omega))).other W207 (Or.inl (show @Ne Nat b172 b177 by omega)))
    have Zc213 : n0 ≤ h207.size := by omega
    have s215 : ∀ t_, Steps p.tables e below (T207.setTop (mkF m 235 #[.val (.int (6 : Int32)), .val (.ref bu)] [(.ref b177), (.ref b172), (.ref b172)])) t_ → Steps p.tables e below (s₁.setTop (entryFrame m #[(.int (6 : Int32)), (.ref bu)] 2)) t_ := fun t_ k_ => pre0 t_ (by
      show Steps p.tables e below (s₁.setTop (mkF m 0 #[.val (.int (6 : Int32)), .val (.ref bu)] [])) t_
      refine XS.iloadN X0.here hx rfl (Jvm.hb hby d_method_4_0) rfl ?_
      refine XS.ifYes X0.here hx rfl (pc0 := 1) (pc' := 15) rfl (Jvm.hb hby d_method_4_1) rfl ((if0 _ _).trans (feq (by decide : ¬ ((6 : Int32) = (0 : Int32)))).2) (by decide) (by decide) ?_
      show Steps p.tables e below (s₁.setTop (mkF m 15 #[.val (.int (6 : Int32)), .val (.ref bu)] [])) _
      refine XS.iloadN X0.here hx rfl (Jvm.hb hby d_method_4_15) rfl ?_
      refine XS.iconst X0.here hx rfl (Jvm.hb hby d_method_4_16) ?_
      refine XS.icmpYes X0.here hx rfl (pc0 := 17) (pc' := 37) rfl (Jvm.hb hby d_method_4_17) rfl (feq (by decide : ¬ ((6 : Int32) = (1 : Int32)))).2 (by decide) (by decide) ?_
      show Steps p.tables e below (s₁.setTop (mkF m 37 #[.val (.int (6 : Int32)), .val (.ref bu)] [])) _
      refine XS.iloadN X0.here hx rfl (Jvm.hb hby d_method_4_37) rfl ?_
      refine XS.iconst X0.here hx rfl (Jvm.hb hby d_method_4_38) ?_
      refine XS.icmpYes X0.here hx rfl (pc0 := 39) (pc' := 65) rfl (Jvm.hb hby d_method_4_39) rfl (feq (by decide : ¬ ((6 : Int32) = (2 : Int32)))).2 (by decide) (by decide) ?_
      show Steps p.tables e below (s₁.setTop (mkF m 65 #[.val (.int (6 : Int32)), .val (.ref bu)] [])) _
      refine XS.iloadN X0.here hx rfl (Jvm.hb hby d_method_4_65) rfl ?_
      refine XS.iconst X0.here hx rfl (Jvm.hb hby d_method_4_66) ?_
      refine XS.icmpYes X0.here hx rfl (pc0 := 67) (pc' := 99) rfl (Jvm.hb hby d_method_4_67) rfl (feq (by decide : ¬ ((6 : Int32) = (3 : Int32)))).2 (by decide) (by decide) ?_
      show Steps p.tables e below (s₁.setTop (mkF m 99 #[.val (.int (6 : Int32)), .val (.ref bu)] [])) _
      refine XS.iloadN X0.here hx rfl (Jvm.hb hby d_method_4_99) rfl ?_
      refine XS.iconst X0.here hx rfl (Jvm.hb hby d_method_4_100) ?_
      refine XS.icmpYes X0.here hx rfl (pc0 := 101) (pc' := 139) rfl (Jvm.hb hby d_method_4_101) rfl (feq (by decide : ¬ ((6 : Int32) = (4 : Int32)))).2 (by decide) (by decide) ?_
      show Steps p.tables e below (s₁.setTop (mkF m 139 #[.val (.int (6 : Int32)), .val (.ref bu)] [])) _
      refine XS.iloadN X0.here hx rfl (Jvm.hb hby d_method_4_139) rfl ?_
      refine XS.iconst X0.here hx rfl (Jvm.hb hby d_method_4_140) ?_
      refine XS.icmpYes X0.here hx rfl (pc0 := 141) (pc' := 185) rfl (Jvm.hb hby d_method_4_141) rfl (feq (by decide : ¬ ((6 : Int32) = (5 : Int32)))).2 (by decide) (by decide) ?_
      show Steps p.tables e below (s₁.setTop (mkF m 185 #[.val (.int (6 : Int32)), .val (.ref bu)] [])) _
      refine XS.iloadN X0.here hx rfl (Jvm.hb hby d_method_4_185) rfl ?_
      refine XS.bipush X0.here hx rfl (Jvm.hb hby d_method_4_186) ?_
      refine XS.icmpNo X0.here hx rfl (Jvm.hb hby d_method_4_188) rfl (teq (rfl : (6 : Int32) = (6 : Int32))).2 ?_
      show Steps p.tables e below (s₁.setTop (mkF m 191 #[.val (.int (6 : Int32)), .val (.ref bu)] [])) _
      refine st172 _ ?_
      show Steps p.tables e below (T172.setTop (mkF m 194 #[.val (.int (6 : Int32)), .val (.ref bu)] [(.ref b172)])) _
      refine XS.dup X172.here hx rfl (Jvm.hb hby d_method_4_194) rfl rfl ?_
      refine XS.bipush X172.here hx rfl (Jvm.hb hby d_method_4_195) ?_
      refine st177 _ ?_
      show Steps p.tables e below (T177.setTop (mkF m 199 #[.val (.int (6 : Int32)), .val (.ref bu)] [(.ref b177), (.ref b172), (.ref b172)])) _
      refine XS.dup X177.here hx rfl (Jvm.hb hby d_method_4_199) rfl rfl ?_
      refine XS.iconst X177.here hx rfl (Jvm.hb hby d_method_4_200) ?_
      refine XS.aloadN X177.here hx rfl (Jvm.hb hby d_method_4_201) rfl rfl ?_
      refine XS.iconst X177.here hx rfl (Jvm.hb hby d_method_4_202) ?_
      refine X177.caload hx (j := (0 : Int32)) (v := (.int c0_)) (by rw [e177]; exact Ar180.1) (State.isArrayOf_alike hZ.alike Ar180.2.1) Ar180.2.2 hin180 hat180 (g := (mkF m 203 #[.val (.int (6 : Int32)), .val (.ref bu)] [(.int (0 : Int32)), (.ref bu), (.int (0 : Int32)), (.ref b177), (.ref b177), (.ref b172), (.ref b172)])) rfl rfl (Jvm.hb hby d_method_4_203) _ ?_
      show Steps p.tables e below (T177.setTop (mkF m 204 #[.val (.int (6 : Int32)), .val (.ref bu)] [(.int c0_), (.int (0 : Int32)), (.ref b177), (.ref b177), (.ref b172), (.ref b172)])) _
      refine st182 _ ?_
      show Steps p.tables e below (T182.setTop (mkF m 205 #[.val (.int (6 : Int32)), .val (.ref bu)] [(.ref b177), (.ref b172), (.ref b172)])) _
      refine XS.dup X182.here hx rfl (Jvm.hb hby d_method_4_205) rfl rfl ?_
      refine XS.iconst X182.here hx rfl (Jvm.hb hby d_method_4_206) ?_
      refine XS.aloadN X182.here hx rfl (Jvm.hb hby d_method_4_207) rfl rfl ?_
      refine XS.iconst X182.here hx rfl (Jvm.hb hby d_method_4_208) ?_
      refine X182.caload hx (j := (1 : Int32)) (v := (.int c1_)) (by rw [e182]; exact Ar185.1) (State.isArrayOf_alike hZ.alike Ar185.2.1) Ar185.2.2 hin185 hat185 (g := (mkF m 209 #[.val (.int (6 : Int32)), .val (.ref bu)] [(.int (1 : Int32)), (.ref bu), (.int (1 : Int32)), (.ref b177), (.ref b177), (.ref b172), (.ref b172)])) rfl rfl (Jvm.hb hby d_method_4_209) _ ?_
      show Steps p.tables e below (T182.setTop (mkF m 210 #[.val (.int (6 : Int32)), .val (.ref bu)] [(.int c1_), (.int (1 : Int32)), (.ref b177), (.ref b177), (.ref b172), (.ref b172)])) _
      refine st187 _ ?_
      show Steps p.tables e below (T187.setTop (mkF m 211 #[.val (.int (6 : Int32)), .val (.ref bu)] [(.ref b177), (.ref b172), (.ref b172)])) _
      refine XS.dup X187.here hx rfl (Jvm.hb hby d_method_4_211) rfl rfl ?_
      refine XS.iconst X187.here hx rfl (Jvm.hb hby d_method_4_212) ?_
      refine XS.aloadN X187.here hx rfl (Jvm.hb hby d_method_4_213) rfl rfl ?_
      refine XS.iconst X187.here hx rfl (Jvm.hb hby d_method_4_214) ?_
      refine X187.caload hx (j := (2 : Int32)) (v := (.int c2_)) (by rw [e187]; exact Ar190.1) (State.isArrayOf_alike hZ.alike Ar190.2.1) Ar190.2.2 hin190 hat190 (g := (mkF m 215 #[.val (.int (6 : Int32)), .val (.ref bu)] [(.int (2 : Int32)), (.ref bu), (.int (2 : Int32)), (.ref b177), (.ref b177), (.ref b172), (.ref b172)])) rfl rfl (Jvm.hb hby d_method_4_215) _ ?_
      show Steps p.tables e below (T187.setTop (mkF m 216 #[.val (.int (6 : Int32)), .val (.ref bu)] [(.int c2_), (.int (2 : Int32)), (.ref b177), (.ref b177), (.ref b172), (.ref b172)])) _
      refine st192 _ ?_
      show Steps p.tables e below (T192.setTop (mkF m 217 #[.val (.int (6 : Int32)), .val (.ref bu)] [(.ref b177), (.ref b172), (.ref b172)])) _
      refine XS.dup X192.here hx rfl (Jvm.hb hby d_method_4_217) rfl rfl ?_
      refine XS.iconst X192.here hx rfl (Jvm.hb hby d_method_4_218) ?_
      refine XS.aloadN X192.here hx rfl (Jvm.hb hby d_method_4_219) rfl rfl ?_
      refine XS.iconst X192.here hx rfl (Jvm.hb hby d_method_4_220) ?_
      refine X192.caload hx (j := (3 : Int32)) (v := (.int c3_)) (by rw [e192]; exact Ar195.1) (State.isArrayOf_alike hZ.alike Ar195.2.1) Ar195.2.2 hin195 hat195 (g := (mkF m 221 #[.val (.int (6 : Int32)), .val (.ref bu)] [(.int (3 : Int32)), (.ref bu), (.int (3 : Int32)), (.ref b177), (.ref b177), (.ref b172), (.ref b172)])) rfl rfl (Jvm.hb hby d_method_4_221) _ ?_
      show Steps p.tables e below (T192.setTop (mkF m 222 #[.val (.int (6 : Int32)), .val (.ref bu)] [(.int c3_), (.int (3 : Int32)), (.ref b177), (.ref b177), (.ref b172), (.ref b172)])) _
      refine st197 _ ?_
      show Steps p.tables e below (T197.setTop (mkF m 223 #[.val (.int (6 : Int32)), .val (.ref bu)] [(.ref b177), (.ref b172), (.ref b172)])) _
      refine XS.dup X197.here hx rfl (Jvm.hb hby d_method_4_223) rfl rfl ?_
      refine XS.iconst X197.here hx rfl (Jvm.hb hby d_method_4_224) ?_
      refine XS.aloadN X197.here hx rfl (Jvm.hb hby d_method_4_225) rfl rfl ?_
      refine XS.iconst X197.here hx rfl (Jvm.hb hby d_method_4_226) ?_
      refine X197.caload hx (j := (4 : Int32)) (v := (.int c4_)) (by rw [e197]; exact Ar200.1) (State.isArrayOf_alike hZ.alike Ar200.2.1) Ar200.2.2 hin200 hat200 (g := (mkF m 227 #[.val (.int (6 : Int32)), .val (.ref bu)] [(.int (4 : Int32)), (.ref bu), (.int (4 : Int32)), (.ref b177), (.ref b177), (.ref b172), (.ref b172)])) rfl rfl (Jvm.hb hby d_method_4_227) _ ?_
      show Steps p.tables e below (T197.setTop (mkF m 228 #[.val (.int (6 : Int32)), .val (.ref bu)] [(.int c4_), (.int (4 : Int32)), (.ref b177), (.ref b177), (.ref b172), (.ref b172)])) _
      refine st202 _ ?_
      show Steps p.tables e below (T202.setTop (mkF m 229 #[.val (.int (6 : Int32)), .val (.ref bu)] [(.ref b177), (.ref b172), (.ref b172)])) _
      refine XS.dup X202.here hx rfl (Jvm.hb hby d_method_4_229) rfl rfl ?_
      refine XS.iconst X202.here hx rfl (Jvm.hb hby d_method_4_230) ?_
      refine XS.aloadN X202.here hx rfl (Jvm.hb hby d_method_4_231) rfl rfl ?_
      refine XS.iconst X202.here hx rfl (Jvm.hb hby d_method_4_232) ?_
      refine X202.caload hx (j := (5 : Int32)) (v := (.int c5_)) (by rw [e202]; exact Ar205.1) (State.isArrayOf_alike hZ.alike Ar205.2.1) Ar205.2.2 hin205 hat205 (g := (mkF m 233 #[.val (.int (6 : Int32)), .val (.ref bu)] [(.int (5 : Int32)), (.ref bu), (.int (5 : Int32)), (.ref b177), (.ref b177), (.ref b172), (.ref b172)])) rfl rfl (Jvm.hb hby d_method_4_233) _ ?_
      show Steps p.tables e below (T202.setTop (mkF m 234 #[.val (.int (6 : Int32)), .val (.ref bu)] [(.int c5_), (.int (5 : Int32)), (.ref b177), (.ref b177), (.ref b172), (.ref b172)])) _
      refine st207 _ ?_
      show Steps p.tables e below (T207.setTop (mkF m 235 #[.val (.int (6 : Int32)), .val (.ref bu)] [(.ref b177), (.ref b172), (.ref b172)])) _
      show Steps p.tables e below (T207.setTop (mkF m 235 #[.val (.int (6 : Int32)), .val (.ref bu)] [(.ref b177), (.ref b172), (.ref b172)])) t_
      exact k_)
    obtain ⟨_, _, ⟨T214, L214, k214, n214⟩, -, Xr214, hSr214, hg214, ⟨Lc214, hQ214, l214, y214, z214, Cp214⟩, st214⟩ := X207.specialBackS hx (y := (⟨"java/lang/String", "<init>", "([C)V"⟩ : MethodName)) rfl hown (mvT hZ (hw _ (List.mem_of_getElem? (i := 21) rfl))) (mvT hZ (hw _ (List.mem_of_getElem? (i := 22) rfl))) (mvT hZ (hw _ (List.mem_of_getElem? (i := 23) rfl))) (by decide) (backOfSH (s := s) (vm0 := s.vm) (W := 1) (rmIni1 l Z a0 hw [] b172 b177 cst [c0_, c1_, c2_, c3_, c4_, c5_] k177 6 h207 n0 Zc213 I1 O209 (hcst : ¬ (cst = (0 : Int32))) f210 f211 f212 V207 rfl (by first | assumption | omega | rfl | decide : 6 ≤ 7) (own_latS r0b (own_latS r1b (own_latS r2b (own_latS r3b (own_latS r4b (own_latS r5b own_lat0)))))) (by first | assumption | omega | rfl | decide : n0 ≤ b172) (by first | assumption | omega | rfl | decide : @Ne Nat b172 b177)) hZ (hw _ (List.mem_of_getElem? (i := 23) rfl)) (hw _ (List.mem_of_getElem? (i := 1) rfl)) (by decide) (by decide) hEL CR.1) (g := (mkF m 235 #[.val (.int (6 : Int32)), .val (.ref bu)] [(.ref b177), (.ref b172), (.ref b172)])) rfl (by rw [hml]; rfl) (Steps.refl _) (a := b172) (argsL := [(.ref b177)]) (rest := [(.ref b172)]) (lenOf pd___C_V rfl) rfl (by show 2 * 0 + _ ≤ _; exact Nat.le_of_eq rfl) (Jvm.hb hby d_method_4_235) (fun _ _ => ⟨rfl, e207, (by decide : 2 + 4 ≤ _), (by decide : 10 + 8 ≤ _)⟩)
    dsimp only [Pt.U, Pt.locs, Pt.cells, Pt.slots] at Xr214 hSr214 hg214 l214 y214 z214 st214 hQ214 Cp214
    subst l214 y214 z214
    obtain ⟨X214, hS, hZ, hown⟩ := rebS (own := "com/example/coyote_hill/coyotehill/ItemStateFromNamePinLaw") hS (by first | exact Nat.le_refl _ | (rw [e207]; exact hk)) Xr214 hSr214 hg214 hZ hown
    obtain ⟨b_214, kb_214, rfl, N214q, K214, Fq214_0, Fq214_1, Fq214_2, Fq214_3⟩ := hQ214
    have N214 := Fr.app N207 N214q
    obtain ⟨h214, e214⟩ : ∃ z, T214.heap = z := ⟨_, rfl⟩
    rw [e214] at K214 Fq214_0 Fq214_1 Fq214_2 Fq214_3 Cp214
    have hk : T214.heap.size ≤ h214.size := Nat.le_of_eq (congrArg Array.size e214)
    have z216 : h207.size ≤ h214.size := K214.1
    have CR := CR.trans Cp214
    have lt214_0 : @LT.lt Nat _ b172 h214.size := Fq214_0.lt
    have lt214_3 : @LT.lt Nat _ b_214 h214.size := Fq214_3.lt
    have s217 : ∀ t_, Steps p.tables e below (T214.setTop (mkF m 238 #[.val (.int (6 : Int32)), .val (.ref bu)] [(.ref b172)])) t_ → Steps p.tables e below (s₁.setTop (entryFrame m #[(.int (6 : Int32)), (.ref bu)] 2)) t_ := fun t_ k_ => s215 t_ (by
      show Steps p.tables e below (T207.setTop (mkF m 235 #[.val (.int (6 : Int32)), .val (.ref bu)] [(.ref b177), (.ref b172), (.ref b172)])) t_
      refine st214.trans ?_
      show Steps p.tables e below (T214.setTop (mkF m 238 #[.val (.int (6 : Int32)), .val (.ref bu)] [(.ref b172)])) _
      show Steps p.tables e below (T214.setTop (mkF m 238 #[.val (.int (6 : Int32)), .val (.ref bu)] [(.ref b172)])) t_
      exact k_)
    obtain ⟨fs, hr, hrun, hended, hREW⟩ := X214.leaveW hS (by first | exact Nat.le_refl _ | (rw [e214]; exact hk)) (v := some (.ref b172)) (fun h => by rw [Bd.returns] at h; cases h)
    refine ⟨_, _, s217 _ ?_, hrun, hended, _, _, rfl, ?_, (by show CHr Z ELs s.vm s.heap T214.vm T214.heap; rw [hh, e214]; exact CR.trans (CHv.at X214 hZ hEL CR.1)), hREW.1, hREW.2.1, hREW.2.2.1, hREW.2.2.2.mono (by decide) (by decide)⟩
    · show Steps p.tables e below (T214.setTop (mkF m 238 #[.val (.int (6 : Int32)), .val (.ref bu)] [(.ref b172)])) _
      jvm_step X214.here [X214.here.top, hx, (Jvm.hb hby d_method_4_238), X214.method', Bd.returns, Value.isRef, FieldType.isReference]
      first | (intro acts; rw [hr _ acts rfl rfl rfl]) | rw [hr _ _ rfl rfl rfl]
      exact Steps.refl _
    · show Q_rmMk Z _ _ _ _ _ _ _ _ _ _ _ h0 n0 _ T214.heap _
      rw [e214]
      exact ⟨b172, b_214, kb_214, rfl, N214, ((((((((((Keep.refl h0 []).ext E172).ext E177).wr W182 (Or.inr (show h0.size ≤ b177 by omega))).wr W187 (Or.inr (show h0.size ≤ b177 by omega))).wr W192 (Or.inr (show h0.size ≤ b177 by omega))).wr W197 (Or.inr (show h0.size ≤ b177 by omega))).wr W202 (Or.inr (show h0.size ≤ b177 by omega))).wr W207 (Or.inr (show h0.size ≤ b177 by omega))).trans K214 (allS (Or.inr (show h0.size ≤ b172 by omega)) all0)), Fq214_0, Fq214_1, Fq214_2, Fq214_3, by omega⟩
  · have hcase := trivial
    obtain ⟨T218, h218, X218, e218, E218, A218, D218, -, st218⟩ := newO X0 hx hZ hown (hw _ (List.mem_of_getElem? (i := 20) rfl)) (hw _ (List.mem_of_getElem? (i := 2) rfl)) (hw _ (List.mem_of_getElem? (i := 1) rfl)) e0 (g := (mkF m 239 #[.val (.int (7 : Int32)), .val (.ref bu)] [])) rfl (Jvm.hb hby d_method_4_239) (by decide) (by decide)
    obtain ⟨b218, g218⟩ : ∃ z, z = h0.size := ⟨_, rfl⟩
    rw [← g218] at A218 D218 st218
    have z219 : h0.size ≤ h218.size := E218.1
    have Sf220 : Safe Z ELs s.vm h218 b218 := Safe.ext E218 CR.1 (Safe.new (by omega))
    have Cp219 : CHr Z ELs s.vm h0 s.vm h218 := CHr.ext E218 CR.1
    have hk := Nat.le_trans hk z219
    have CR := CR.trans Cp219
    have l218 : b218 < h218.size := A218.lt
    have F221 : Fld Z h218 b218 "java/lang/String" "value" "[B" .null := D218 (Or.inr (hw _ (List.mem_of_getElem? (i := 4) rfl))) (ty := (.array .byte)) (by decide)
    have F222 : Fld Z h218 b218 "java/lang/String" "coder" "B" (.int (0 : Int32)) := D218 (Or.inr (hw _ (List.mem_of_getElem? (i := 5) rfl))) (ty := .byte) (by decide)
    obtain ⟨T223, h223, k223, X223, e223, E223, A223, st223⟩ := newP X218 hx hZ (hw _ (List.mem_of_getElem? (i := 11) rfl)) e218 (g := (mkF m 245 #[.val (.int (7 : Int32)), .val (.ref bu)] [(.int (7 : Int32)), (.ref b218), (.ref b218)])) rfl (Jvm.hb hby d_method_4_245) rfl (by decide) (cap := 7) (by decide) (by decide) (by decide) (by decide)
    obtain ⟨b223, g223⟩ : ∃ z, z = h218.size := ⟨_, rfl⟩
    rw [← g223] at A223 st223
    have z224 : h218.size ≤ h223.size := E223.1
    have Cp224 : CHr Z ELs s.vm h218 s.vm h223 := CHr.ext E223 CR.1
    have hk := Nat.le_trans hk z224
    have CR := CR.trans Cp224
    have l223 : b223 < h223.size := A223.lt
    have V223 : Arv Z h223 b223 k223 .char (7 : Int32) [(.int (0 : Int32)), (.int (0 : Int32)), (.int (0 : Int32)), (.int (0 : Int32)), (.int (0 : Int32)), (.int (0 : Int32)), (.int (0 : Int32))] (.int (0 : Int32)) := (Arv.new A223 (by decide)).pad (pad_rep [] (.int (0 : Int32)) 7)
    have f225 : Arv Z h223 bu k7 .char (7 : Int32) [(.int c0_), (.int c1_), (.int c2_), (.int c3_), (.int c4_), (.int c5_), (.int c6_)] (.int (0 : Int32)) := ((I2.ext E218).ext E223)
    obtain ⟨cl226, Ar226, -, S226, M226, H226, -⟩ := id f225
    have hin226 : ¬ ((0 : Int32) < 0 ∨ cl226.slots.size ≤ ((0 : Int32)).toNatClampNeg) := inb_of S226 ⟨by decide, by decide⟩
    have hat226 : cl226.slots[((0 : Int32)).toNatClampNeg]? = some (.int c0_) := H226.at hin226 (rfl)
    obtain ⟨cl227, Ar227, q227, S227, M227, H227, G227⟩ := id V223
    have hin227 : ¬ ((0 : Int32) < 0 ∨ cl227.slots.size ≤ ((0 : Int32)).toNatClampNeg) := inb_of S227 ⟨by decide, by decide⟩
    obtain ⟨T228, h228, X228, e228, W228, st228⟩ := stC X223 hx hZ e223 Ar227 (j := (0 : Int32)) hin227 (g := (mkF m 252 #[.val (.int (7 : Int32)), .val (.ref bu)] [(.int c0_), (.int (0 : Int32)), (.ref b223), (.ref b223), (.ref b218), (.ref b218)])) rfl rfl (Jvm.hb hby d_method_4_252)
    have z229 : h223.size ≤ h228.size := Nat.le_of_eq W228.size.symm
    have Cp229 : CHr Z ELs s.vm h223 s.vm h228 := CHr.wr W228 (Safe.arv hZ.alike V223 (by decide)) CR.1
    have hk := Nat.le_trans hk z229
    have CR := CR.trans Cp229
    have V228 : Arv Z h228 b223 k223 .char (7 : Int32) [(.int c0_), (.int (0 : Int32)), (.int (0 : Int32)), (.int (0 : Int32)), (.int (0 : Int32)), (.int (0 : Int32)), (.int (0 : Int32))] (.int (0 : Int32)) := by have q : Arv Z h228 b223 k223 .char (7 : Int32) [(.int (nar .char c0_)), (.int (0 : Int32)), (.int (0 : Int32)), (.int (0 : Int32)), (.int (0 : Int32)), (.int (0 : Int32)), (.int (0 : Int32))] (.int (0 : Int32)) := Arv.set Ar227 q227 S227 M227 H227 G227 (fits_nar_char _) W228 0 rfl (Nat.le_of_ble_eq_true rfl); rw [show nar .char c0_ = c0_ from own_narc r0a (own_le64k r0b)] at q; exact q
    have N228 := Fr.snoc X228 N0 (show n0 ≤ b223 by omega)
    have f230 : Arv Z h228 bu k7 .char (7 : Int32) [(.int c0_), (.int c1_), (.int c2_), (.int c3_), (.int c4_), (.int c5_), (.int c6_)] (.int (0 : Int32)) := (f225.other W228 (show @Ne Nat bu b223 by omega))
    obtain ⟨cl231, Ar231, -, S231, M231, H231, -⟩ := id f230
    have hin231 : ¬ ((1 : Int32) < 0 ∨ cl231.slots.size ≤ ((1 : Int32)).toNatClampNeg) := inb_of S231 ⟨by decide, by decide⟩
    have hat231 : cl231.slots[((1 : Int32)).toNatClampNeg]? = some (.int c1_) := H231.at hin231 (rfl)
    obtain ⟨cl232, Ar232, q232, S232, M232, H232, G232⟩ := id V228
    have hin232 : ¬ ((1 : Int32) < 0 ∨ cl232.slots.size ≤ ((1 : Int32)).toNatClampNeg) := inb_of S232 ⟨by decide, by decide⟩
    obtain ⟨T233, h233, X233, e233, W233, st233⟩ := stC X228 hx hZ e228 Ar232 (j := (1 : Int32)) hin232 (g := (mkF m 258 #[.val (.int (7 : Int32)), .val (.ref bu)] [(.int c1_), (.int (1 : Int32)), (.ref b223), (.ref b223), (.ref b218), (.ref b218)])) rfl rfl (Jvm.hb hby d_method_4_258)
    have z234 : h228.size ≤ h233.size := Nat.le_of_eq W233.size.symm
    have Cp234 : CHr Z ELs s.vm h228 s.vm h233 := CHr.wr W233 (Safe.arv hZ.alike V228 (by decide)) CR.1
    have hk := Nat.le_trans hk z234
    have CR := CR.trans Cp234
    have V233 : Arv Z h233 b223 k223 .char (7 : Int32) [(.int c0_), (.int c1_), (.int (0 : Int32)), (.int (0 : Int32)), (.int (0 : Int32)), (.int (0 : Int32)), (.int (0 : Int32))] (.int (0 : Int32)) := by have q : Arv Z h233 b223 k223 .char (7 : Int32) [(.int c0_), (.int (nar .char c1_)), (.int (0 : Int32)), (.int (0 : Int32)), (.int (0 : Int32)), (.int (0 : Int32)), (.int (0 : Int32))] (.int (0 : Int32)) := Arv.set Ar232 q232 S232 M232 H232 G232 (fits_nar_char _) W233 1 rfl (Nat.le_of_ble_eq_true rfl); rw [show nar .char c1_ = c1_ from own_narc r1a (own_le64k r1b)] at q; exact q
    have N233 := Fr.snoc X233 N228 (show n0 ≤ b223 by omega)
    have f235 : Arv Z h233 bu k7 .char (7 : Int32) [(.int c0_), (.int c1_), (.int c2_), (.int c3_), (.int c4_), (.int c5_), (.int c6_)] (.int (0 : Int32)) := (f230.other W233 (show @Ne Nat bu b223 by omega))
    obtain ⟨cl236, Ar236, -, S236, M236, H236, -⟩ := id f235
    have hin236 : ¬ ((2 : Int32) < 0 ∨ cl236.slots.size ≤ ((2 : Int32)).toNatClampNeg) := inb_of S236 ⟨by decide, by decide⟩
    have hat236 : cl236.slots[((2 : Int32)).toNatClampNeg]? = some (.int c2_) := H236.at hin236 (rfl)
    obtain ⟨cl237, Ar237, q237, S237, M237, H237, G237⟩ := id V233
    have hin237 : ¬ ((2 : Int32) < 0 ∨ cl237.slots.size ≤ ((2 : Int32)).toNatClampNeg) := inb_of S237 ⟨by decide, by decide⟩
    obtain ⟨T238, h238, X238, e238, W238, st238⟩ := stC X233 hx hZ e233 Ar237 (j := (2 : Int32)) hin237 (g := (mkF m 264 #[.val (.int (7 : Int32)), .val (.ref bu)] [(.int c2_), (.int (2 : Int32)), (.ref b223), (.ref b223), (.ref b218), (.ref b218)])) rfl rfl (Jvm.hb hby d_method_4_264)
    have z239 : h233.size ≤ h238.size := Nat.le_of_eq W238.size.symm
    have Cp239 : CHr Z ELs s.vm h233 s.vm h238 := CHr.wr W238 (Safe.arv hZ.alike V233 (by decide)) CR.1
    have hk := Nat.le_trans hk z239
    have CR := CR.trans Cp239
    have V238 : Arv Z h238 b223 k223 .char (7 : Int32) [(.int c0_), (.int c1_), (.int c2_), (.int (0 : Int32)), (.int (0 : Int32)), (.int (0 : Int32)), (.int (0 : Int32))] (.int (0 : Int32)) := by have q : Arv Z h238 b223 k223 .char (7 : Int32) [(.int c0_), (.int c1_), (.int (nar .char c2_)), (.int (0 : Int32)), (.int (0 : Int32)), (.int (0 : Int32)), (.int (0 : Int32))] (.int (0 : Int32)) := Arv.set Ar237 q237 S237 M237 H237 G237 (fits_nar_char _) W238 2 rfl (Nat.le_of_ble_eq_true rfl); rw [show nar .char c2_ = c2_ from own_narc r2a (own_le64k r2b)] at q; exact q
    have N238 := Fr.snoc X238 N233 (show n0 ≤ b223 by omega)
    have f240 : Arv Z h238 bu k7 .char (7 : Int32) [(.int c0_), (.int c1_), (.int c2_), (.int c3_), (.int c4_), (.int c5_), (.int c6_)] (.int (0 : Int32)) := (f235.other W238 (show @Ne Nat bu b223 by omega))
    obtain ⟨cl241, Ar241, -, S241, M241, H241, -⟩ := id f240
    have hin241 : ¬ ((3 : Int32) < 0 ∨ cl241.slots.size ≤ ((3 : Int32)).toNatClampNeg) := inb_of S241 ⟨by decide, by decide⟩
    have hat241 : cl241.slots[((3 : Int32)).toNatClampNeg]? = some (.int c3_) := H241.at hin241 (rfl)
    obtain ⟨cl242, Ar242, q242, S242, M242, H242, G242⟩ := id V238
    have hin242 : ¬ ((3 : Int32) < 0 ∨ cl242.slots.size ≤ ((3 : Int32)).toNatClampNeg) := inb_of S242 ⟨by decide, by decide⟩
    obtain ⟨T243, h243, X243, e243, W243, st243⟩ := stC X238 hx hZ e238 Ar242 (j := (3 : Int32)) hin242 (g := (mkF m 270 #[.val (.int (7 : Int32)), .val (.ref bu)] [(.int c3_), (.int (3 : Int32)), (.ref b223), (.ref b223), (.ref b218), (.ref b218)])) rfl rfl (Jvm.hb hby d_method_4_270)
    have z244 : h238.size ≤ h243.size := Nat.le_of_eq W243.size.symm
    have Cp244 : CHr Z ELs s.vm h238 s.vm h243 := CHr.wr W243 (Safe.arv hZ.alike V238 (by decide)) CR.1
    have hk := Nat.le_trans hk z244
    have CR := CR.trans Cp244
    have V243 : Arv Z h243 b223 k223 .char (7 : Int32) [(.int c0_), (.int c1_), (.int c2_), (.int c3_), (.int (0 : Int32)), (.int (0 : Int32)), (.int (0 : Int32))] (.int (0 : Int32)) := by have q : Arv Z h243 b223 k223 .char (7 : Int32) [(.int c0_), (.int c1_), (.int c2_), (.int (nar .char c3_)), (.int (0 : Int32)), (.int (0 : Int32)), (.int (0 : Int32))] (.int (0 : Int32)) := Arv.set Ar242 q242 S242 M242 H242 G242 (fits_nar_char _) W243 3 rfl (Nat.le_of_ble_eq_true rfl); rw [show nar .char c3_ = c3_ from own_narc r3a (own_le64k r3b)] at q; exact q
    have N243 := Fr.snoc X243 N238 (show n0 ≤ b223 by omega)
    have f245 : Arv Z h243 bu k7 .char (7 : Int32) [(.int c0_), (.int c1_), (.int c2_), (.int c3_), (.int c4_), (.int c5_), (.int c6_)] (.int (0 : Int32)) := (f240.other W243 (show @Ne Nat bu b223 by omega))
    obtain ⟨cl246, Ar246, -, S246, M246, H246, -⟩ := id f245
    have hin246 : ¬ ((4 : Int32) < 0 ∨ cl246.slots.size ≤ ((4 : Int32)).toNatClampNeg) := inb_of S246 ⟨by decide, by decide⟩
    have hat246 : cl246.slots[((4 : Int32)).toNatClampNeg]? = some (.int c4_) := H246.at hin246 (rfl)
    obtain ⟨cl247, Ar247, q247, S247, M247, H247, G247⟩ := id V243
    have hin247 : ¬ ((4 : Int32) < 0 ∨ cl247.slots.size ≤ ((4 : Int32)).toNatClampNeg) := inb_of S247 ⟨by decide, by decide⟩
    obtain ⟨T248, h248, X248, e248, W248, st248⟩ := stC X243 hx hZ e243 Ar247 (j := (4 : Int32)) hin247 (g := (mkF m 276 #[.val (.int (7 : Int32)), .val (.ref bu)] [(.int c4_), (.int (4 : Int32)), (.ref b223), (.ref b223), (.ref b218), (.ref b218)])) rfl rfl (Jvm.hb hby d_method_4_276)
    have z249 : h243.size ≤ h248.size := Nat.le_of_eq W248.size.symm
    have Cp249 : CHr Z ELs s.vm h243 s.vm h248 := CHr.wr W248 (Safe.arv hZ.alike V243 (by decide)) CR.1
    have hk := Nat.le_trans hk z249
    have CR := CR.trans Cp249
    have V248 : Arv Z h248 b223 k223 .char (7 : Int32) [(.int c0_), (.int c1_), (.int c2_), (.int c3_), (.int c4_), (.int (0 : Int32)), (.int (0 : Int32))] (.int (0 : Int32)) := by have q : Arv Z h248 b223 k223 .char (7 : Int32) [(.int c0_), (.int c1_), (.int c2_), (.int c3_), (.int (nar .char c4_)), (.int (0 : Int32)), (.int (0 : Int32))] (.int (0 : Int32)) := Arv.set Ar247 q247 S247 M247 H247 G247 (fits_nar_char _) W248 4 rfl (Nat.le_of_ble_eq_true rfl); rw [show nar .char c4_ = c4_ from own_narc r4a (own_le64k r4b)] at q; exact q
    have N248 := Fr.snoc X248 N243 (show n0 ≤ b223 by omega)
    have f250 : Arv Z h248 bu k7 .char (7 : Int32) [(.int c0_), (.int c1_), (.int c2_), (.int c3_), (.int c4_), (.int c5_), (.int c6_)] (.int (0 : Int32)) := (f245.other W248 (show @Ne Nat bu b223 by omega))
    obtain ⟨cl251, Ar251, -, S251, M251, H251, -⟩ := id f250
    have hin251 : ¬ ((5 : Int32) < 0 ∨ cl251.slots.size ≤ ((5 : Int32)).toNatClampNeg) := inb_of S251 ⟨by decide, by decide⟩
    have hat251 : cl251.slots[((5 : Int32)).toNatClampNeg]? = some (.int c5_) := H251.at hin251 (rfl)
    obtain ⟨cl252, Ar252, q252, S252, M252, H252, G252⟩ := id V248
    have hin252 : ¬ ((5 : Int32) < 0 ∨ cl252.slots.size ≤ ((5 : Int32)).toNatClampNeg) := inb_of S252 ⟨by decide, by decide⟩
    obtain ⟨T253, h253, X253, e253, W253, st253⟩ := stC X248 hx hZ e248 Ar252 (j := (5 : Int32)) hin252 (g := (mkF m 282 #[.val (.int (7 : Int32)), .val (.ref bu)] [(.int c5_), (.int (5 : Int32)), (.ref b223), (.ref b223), (.ref b218), (.ref b218)])) rfl rfl (Jvm.hb hby d_method_4_282)
    have z254 : h248.size ≤ h253.size := Nat.le_of_eq W253.size.symm
    have Cp254 : CHr Z ELs s.vm h248 s.vm h253 := CHr.wr W253 (Safe.arv hZ.alike V248 (by decide)) CR.1
    have hk := Nat.le_trans hk z254
    have CR := CR.trans Cp254
    have V253 : Arv Z h253 b223 k223 .char (7 : Int32) [(.int c0_), (.int c1_), (.int c2_), (.int c3_), (.int c4_), (.int c5_), (.int (0 : Int32))] (.int (0 : Int32)) := by have q : Arv Z h253 b223 k223 .char (7 : Int32) [(.int c0_), (.int c1_), (.int c2_), (.int c3_), (.int c4_), (.int (nar .char c5_)), (.int (0 : Int32))] (.int (0 : Int32)) := Arv.set Ar252 q252 S252 M252 H252 G252 (fits_nar_char _) W253 5 rfl (Nat.le_of_ble_eq_true rfl); rw [show nar .char c5_ = c5_ from own_narc r5a (own_le64k r5b)] at q; exact q
    have N253 := Fr.snoc X253 N248 (show n0 ≤ b223 by omega)
    have f255 : Arv Z h253 bu k7 .char (7 : Int32) [(.int c0_), (.int c1_), (.int c2_), (.int c3_), (.int c4_), (.int c5_), (.int c6_)] (.int (0 : Int32)) := (f250.other W253 (show @Ne Nat bu b223 by omega))
    obtain ⟨cl256, Ar256, -, S256, M256, H256, -⟩ := id f255
    have hin256 : ¬ ((6 : Int32) < 0 ∨ cl256.slots.size ≤ ((6 : Int32)).toNatClampNeg) := inb_of S256 ⟨by decide, by decide⟩
    have hat256 : cl256.slots[((6 : Int32)).toNatClampNeg]? = some (.int c6_) := H256.at hin256 (rfl)
    obtain ⟨cl257, Ar257, q257, S257, M257, H257, G257⟩ := id V253
    have hin257 : ¬ ((6 : Int32) < 0 ∨ cl257.slots.size ≤ ((6 : Int32)).toNatClampNeg) := inb_of S257 ⟨by decide, by decide⟩
    obtain ⟨T258, h258, X258, e258, W258, st258⟩ := stC X253 hx hZ e253 Ar257 (j := (6 : Int32)) hin257 (g := (mkF m 290 #[.val (.int (7 : Int32)), .val (.ref bu)] [(.int c6_), (.int (6 : Int32)), (.ref b223), (.ref b223), (.ref b218), (.ref b218)])) rfl rfl (Jvm.hb hby d_method_4_290)
    have z259 : h253.size ≤ h258.size := Nat.le_of_eq W258.size.symm
    have Cp259 : CHr Z ELs s.vm h253 s.vm h258 := CHr.wr W258 (Safe.arv hZ.alike V253 (by decide)) CR.1
    have hk := Nat.le_trans hk z259
    have CR := CR.trans Cp259
    have V258 : Arv Z h258 b223 k223 .char (7 : Int32) [(.int c0_), (.int c1_), (.int c2_), (.int c3_), (.int c4_), (.int c5_), (.int c6_)] (.int (0 : Int32)) := by have q : Arv Z h258 b223 k223 .char (7 : Int32) [(.int c0_), (.int c1_), (.int c2_), (.int c3_), (.int c4_), (.int c5_), (.int (nar .char c6_))] (.int (0 : Int32)) := Arv.set Ar257 q257 S257 M257 H257 G257 (fits_nar_char _) W258 6 rfl (Nat.le_of_ble_eq_true rfl); rw [show nar .char c6_ = c6_ from own_narc r6a (own_le64k r6b)] at q; exact q
    have N258 := Fr.snoc X258 N253 (show n0 ≤ b223 by omega)
    have O260 : Old Z n0 h258 := (((((((((OX.ext E218).ext E223).wr W228 (show n0 ≤ b223 by omega)).wr W233 (show n0 ≤ b223 by omega)).wr W238 (show n0 ≤ b223 by omega)).wr W243 (show n0 ≤ b223 by omega)).wr W248 (show n0 ≤ b223 by omega)).wr W253 (show n0 ≤ b223 by omega)).wr W258 (show n0 ≤ b223 by omega))
    have f261 : Exa Z h258 b218 "java/lang/String" := ((((((((A218.ext E223).wr W228).wr W233).wr W238).wr W243).wr W248).wr W253).wr W258)
    have f262 : Fld Z h258 b218 "java/lang/String" "value" "[B" .null := ((((((((F221.ext E223).other W228 (Or.inl (show @Ne Nat b218 b223 by omega))).other W233 (Or.inl (show @Ne Nat b218 b223 by omega))).other W238 (Or.inl (show @Ne Nat b218 b223 by omega))).other W243 (Or.inl (show @Ne Nat b218 b223 by omega))).other W248 (Or.inl (show @Ne Nat b218 b223 by omega))).other W253 (Or.inl (show @Ne Nat b218 b223 by omega))).other W258 (Or.inl (show @Ne Nat b218 b223 by omega)))
    have f263 : Fld Z h258 b218 "java/lang/String" "coder" "B" (.int (0 : Int32)) := ((((((((F222.ext E223).other W228 (Or.inl (show @Ne Nat b218 b223 by omega))).other W233 (Or.inl (show @Ne Nat b218 b223 by omega))).other W238 (Or.inl (show @Ne Nat b218 b223 by omega))).other W243 (Or.inl (show @Ne Nat b218 b223 by omega))).other W248 (Or.inl (show @Ne Nat b218 b223 by omega))).other W253 (Or.inl (show @Ne Nat b218 b223 by omega))).other W258 (Or.inl (show @Ne Nat b218 b223 by omega)))
    have Zc264 : n0 ≤ h258.size := by omega
    have s266 : ∀ t_, Steps p.tables e below (T258.setTop (mkF m 291 #[.val (.int (7 : Int32)), .val (.ref bu)] [(.ref b223), (.ref b218), (.ref b218)])) t_ → Steps p.tables e below (s₁.setTop (entryFrame m #[(.int (7 : Int32)), (.ref bu)] 2)) t_ := fun t_ k_ => pre0 t_ (by
      show Steps p.tables e below (s₁.setTop (mkF m 0 #[.val (.int (7 : Int32)), .val (.ref bu)] [])) t_
      refine XS.iloadN X0.here hx rfl (Jvm.hb hby d_method_4_0) rfl ?_
      refine XS.ifYes X0.here hx rfl (pc0 := 1) (pc' := 15) rfl (Jvm.hb hby d_method_4_1) rfl ((if0 _ _).trans (feq (by decide : ¬ ((7 : Int32) = (0 : Int32)))).2) (by decide) (by decide) ?_
      show Steps p.tables e below (s₁.setTop (mkF m 15 #[.val (.int (7 : Int32)), .val (.ref bu)] [])) _
      refine XS.iloadN X0.here hx rfl (Jvm.hb hby d_method_4_15) rfl ?_
      refine XS.iconst X0.here hx rfl (Jvm.hb hby d_method_4_16) ?_
      refine XS.icmpYes X0.here hx rfl (pc0 := 17) (pc' := 37) rfl (Jvm.hb hby d_method_4_17) rfl (feq (by decide : ¬ ((7 : Int32) = (1 : Int32)))).2 (by decide) (by decide) ?_
      show Steps p.tables e below (s₁.setTop (mkF m 37 #[.val (.int (7 : Int32)), .val (.ref bu)] [])) _
      refine XS.iloadN X0.here hx rfl (Jvm.hb hby d_method_4_37) rfl ?_
      refine XS.iconst X0.here hx rfl (Jvm.hb hby d_method_4_38) ?_
      refine XS.icmpYes X0.here hx rfl (pc0 := 39) (pc' := 65) rfl (Jvm.hb hby d_method_4_39) rfl (feq (by decide : ¬ ((7 : Int32) = (2 : Int32)))).2 (by decide) (by decide) ?_
      show Steps p.tables e below (s₁.setTop (mkF m 65 #[.val (.int (7 : Int32)), .val (.ref bu)] [])) _
      refine XS.iloadN X0.here hx rfl (Jvm.hb hby d_method_4_65) rfl ?_
      refine XS.iconst X0.here hx rfl (Jvm.hb hby d_method_4_66) ?_
      refine XS.icmpYes X0.here hx rfl (pc0 := 67) (pc' := 99) rfl (Jvm.hb hby d_method_4_67) rfl (feq (by decide : ¬ ((7 : Int32) = (3 : Int32)))).2 (by decide) (by decide) ?_
      show Steps p.tables e below (s₁.setTop (mkF m 99 #[.val (.int (7 : Int32)), .val (.ref bu)] [])) _
      refine XS.iloadN X0.here hx rfl (Jvm.hb hby d_method_4_99) rfl ?_
      refine XS.iconst X0.here hx rfl (Jvm.hb hby d_method_4_100) ?_
      refine XS.icmpYes X0.here hx rfl (pc0 := 101) (pc' := 139) rfl (Jvm.hb hby d_method_4_101) rfl (feq (by decide : ¬ ((7 : Int32) = (4 : Int32)))).2 (by decide) (by decide) ?_
      show Steps p.tables e below (s₁.setTop (mkF m 139 #[.val (.int (7 : Int32)), .val (.ref bu)] [])) _
      refine XS.iloadN X0.here hx rfl (Jvm.hb hby d_method_4_139) rfl ?_
      refine XS.iconst X0.here hx rfl (Jvm.hb hby d_method_4_140) ?_
      refine XS.icmpYes X0.here hx rfl (pc0 := 141) (pc' := 185) rfl (Jvm.hb hby d_method_4_141) rfl (feq (by decide : ¬ ((7 : Int32) = (5 : Int32)))).2 (by decide) (by decide) ?_
      show Steps p.tables e below (s₁.setTop (mkF m 185 #[.val (.int (7 : Int32)), .val (.ref bu)] [])) _
      refine XS.iloadN X0.here hx rfl (Jvm.hb hby d_method_4_185) rfl ?_
      refine XS.bipush X0.here hx rfl (Jvm.hb hby d_method_4_186) ?_
      refine XS.icmpYes X0.here hx rfl (pc0 := 188) (pc' := 239) rfl (Jvm.hb hby d_method_4_188) rfl (feq (by decide : ¬ ((7 : Int32) = (6 : Int32)))).2 (by decide) (by decide) ?_
      show Steps p.tables e below (s₁.setTop (mkF m 239 #[.val (.int (7 : Int32)), .val (.ref bu)] [])) _
      refine st218 _ ?_
      show Steps p.tables e below (T218.setTop (mkF m 242 #[.val (.int (7 : Int32)), .val (.ref bu)] [(.ref b218)])) _
      refine XS.dup X218.here hx rfl (Jvm.hb hby d_method_4_242) rfl rfl ?_
      refine XS.bipush X218.here hx rfl (Jvm.hb hby d_method_4_243) ?_
      refine st223 _ ?_
      show Steps p.tables e below (T223.setTop (mkF m 247 #[.val (.int (7 : Int32)), .val (.ref bu)] [(.ref b223), (.ref b218), (.ref b218)])) _
      refine XS.dup X223.here hx rfl (Jvm.hb hby d_method_4_247) rfl rfl ?_
      refine XS.iconst X223.here hx rfl (Jvm.hb hby d_method_4_248) ?_
      refine XS.aloadN X223.here hx rfl (Jvm.hb hby d_method_4_249) rfl rfl ?_
      refine XS.iconst X223.here hx rfl (Jvm.hb hby d_method_4_250) ?_
      refine X223.caload hx (j := (0 : Int32)) (v := (.int c0_)) (by rw [e223]; exact Ar226.1) (State.isArrayOf_alike hZ.alike Ar226.2.1) Ar226.2.2 hin226 hat226 (g := (mkF m 251 #[.val (.int (7 : Int32)), .val (.ref bu)] [(.int (0 : Int32)), (.ref bu), (.int (0 : Int32)), (.ref b223), (.ref b223), (.ref b218), (.ref b218)])) rfl rfl (Jvm.hb hby d_method_4_251) _ ?_
      show Steps p.tables e below (T223.setTop (mkF m 252 #[.val (.int (7 : Int32)), .val (.ref bu)] [(.int c0_), (.int (0 : Int32)), (.ref b223), (.ref b223), (.ref b218), (.ref b218)])) _
      refine st228 _ ?_
      show Steps p.tables e below (T228.setTop (mkF m 253 #[.val (.int (7 : Int32)), .val (.ref bu)] [(.ref b223), (.ref b218), (.ref b218)])) _
      refine XS.dup X228.here hx rfl (Jvm.hb hby d_method_4_253) rfl rfl ?_
      refine XS.iconst X228.here hx rfl (Jvm.hb hby d_method_4_254) ?_
      refine XS.aloadN X228.here hx rfl (Jvm.hb hby d_method_4_255) rfl rfl ?_
      refine XS.iconst X228.here hx rfl (Jvm.hb hby d_method_4_256) ?_
      refine X228.caload hx (j := (1 : Int32)) (v := (.int c1_)) (by rw [e228]; exact Ar231.1) (State.isArrayOf_alike hZ.alike Ar231.2.1) Ar231.2.2 hin231 hat231 (g := (mkF m 257 #[.val (.int (7 : Int32)), .val (.ref bu)] [(.int (1 : Int32)), (.ref bu), (.int (1 : Int32)), (.ref b223), (.ref b223), (.ref b218), (.ref b218)])) rfl rfl (Jvm.hb hby d_method_4_257) _ ?_
      show Steps p.tables e below (T228.setTop (mkF m 258 #[.val (.int (7 : Int32)), .val (.ref bu)] [(.int c1_), (.int (1 : Int32)), (.ref b223), (.ref b223), (.ref b218), (.ref b218)])) _
      refine st233 _ ?_
      show Steps p.tables e below (T233.setTop (mkF m 259 #[.val (.int (7 : Int32)), .val (.ref bu)] [(.ref b223), (.ref b218), (.ref b218)])) _
      refine XS.dup X233.here hx rfl (Jvm.hb hby d_method_4_259) rfl rfl ?_
      refine XS.iconst X233.here hx rfl (Jvm.hb hby d_method_4_260) ?_
      refine XS.aloadN X233.here hx rfl (Jvm.hb hby d_method_4_261) rfl rfl ?_
      refine XS.iconst X233.here hx rfl (Jvm.hb hby d_method_4_262) ?_
      refine X233.caload hx (j := (2 : Int32)) (v := (.int c2_)) (by rw [e233]; exact Ar236.1) (State.isArrayOf_alike hZ.alike Ar236.2.1) Ar236.2.2 hin236 hat236 (g := (mkF m 263 #[.val (.int (7 : Int32)), .val (.ref bu)] [(.int (2 : Int32)), (.ref bu), (.int (2 : Int32)), (.ref b223), (.ref b223), (.ref b218), (.ref b218)])) rfl rfl (Jvm.hb hby d_method_4_263) _ ?_
      show Steps p.tables e below (T233.setTop (mkF m 264 #[.val (.int (7 : Int32)), .val (.ref bu)] [(.int c2_), (.int (2 : Int32)), (.ref b223), (.ref b223), (.ref b218), (.ref b218)])) _
      refine st238 _ ?_
      show Steps p.tables e below (T238.setTop (mkF m 265 #[.val (.int (7 : Int32)), .val (.ref bu)] [(.ref b223), (.ref b218), (.ref b218)])) _
      refine XS.dup X238.here hx rfl (Jvm.hb hby d_method_4_265) rfl rfl ?_
      refine XS.iconst X238.here hx rfl (Jvm.hb hby d_method_4_266) ?_
      refine XS.aloadN X238.here hx rfl (Jvm.hb hby d_method_4_267) rfl rfl ?_
      refine XS.iconst X238.here hx rfl (Jvm.hb hby d_method_4_268) ?_
      refine X238.caload hx (j := (3 : Int32)) (v := (.int c3_)) (by rw [e238]; exact Ar241.1) (State.isArrayOf_alike hZ.alike Ar241.2.1) Ar241.2.2 hin241 hat241 (g := (mkF m 269 #[.val (.int (7 : Int32)), .val (.ref bu)] [(.int (3 : Int32)), (.ref bu), (.int (3 : Int32)), (.ref b223), (.ref b223), (.ref b218), (.ref b218)])) rfl rfl (Jvm.hb hby d_method_4_269) _ ?_
      show Steps p.tables e below (T238.setTop (mkF m 270 #[.val (.int (7 : Int32)), .val (.ref bu)] [(.int c3_), (.int (3 : Int32)), (.ref b223), (.ref b223), (.ref b218), (.ref b218)])) _
      refine st243 _ ?_
      show Steps p.tables e below (T243.setTop (mkF m 271 #[.val (.int (7 : Int32)), .val (.ref bu)] [(.ref b223), (.ref b218), (.ref b218)])) _
      refine XS.dup X243.here hx rfl (Jvm.hb hby d_method_4_271) rfl rfl ?_
      refine XS.iconst X243.here hx rfl (Jvm.hb hby d_method_4_272) ?_
      refine XS.aloadN X243.here hx rfl (Jvm.hb hby d_method_4_273) rfl rfl ?_
      refine XS.iconst X243.here hx rfl (Jvm.hb hby d_method_4_274) ?_
      refine X243.caload hx (j := (4 : Int32)) (v := (.int c4_)) (by rw [e243]; exact Ar246.1) (State.isArrayOf_alike hZ.alike Ar246.2.1) Ar246.2.2 hin246 hat246 (g := (mkF m 275 #[.val (.int (7 : Int32)), .val (.ref bu)] [(.int (4 : Int32)), (.ref bu), (.int (4 : Int32)), (.ref b223), (.ref b223), (.ref b218), (.ref b218)])) rfl rfl (Jvm.hb hby d_method_4_275) _ ?_
      show Steps p.tables e below (T243.setTop (mkF m 276 #[.val (.int (7 : Int32)), .val (.ref bu)] [(.int c4_), (.int (4 : Int32)), (.ref b223), (.ref b223), (.ref b218), (.ref b218)])) _
      refine st248 _ ?_
      show Steps p.tables e below (T248.setTop (mkF m 277 #[.val (.int (7 : Int32)), .val (.ref bu)] [(.ref b223), (.ref b218), (.ref b218)])) _
      refine XS.dup X248.here hx rfl (Jvm.hb hby d_method_4_277) rfl rfl ?_
      refine XS.iconst X248.here hx rfl (Jvm.hb hby d_method_4_278) ?_
      refine XS.aloadN X248.here hx rfl (Jvm.hb hby d_method_4_279) rfl rfl ?_
      refine XS.iconst X248.here hx rfl (Jvm.hb hby d_method_4_280) ?_
      refine X248.caload hx (j := (5 : Int32)) (v := (.int c5_)) (by rw [e248]; exact Ar251.1) (State.isArrayOf_alike hZ.alike Ar251.2.1) Ar251.2.2 hin251 hat251 (g := (mkF m 281 #[.val (.int (7 : Int32)), .val (.ref bu)] [(.int (5 : Int32)), (.ref bu), (.int (5 : Int32)), (.ref b223), (.ref b223), (.ref b218), (.ref b218)])) rfl rfl (Jvm.hb hby d_method_4_281) _ ?_
      show Steps p.tables e below (T248.setTop (mkF m 282 #[.val (.int (7 : Int32)), .val (.ref bu)] [(.int c5_), (.int (5 : Int32)), (.ref b223), (.ref b223), (.ref b218), (.ref b218)])) _
      refine st253 _ ?_
      show Steps p.tables e below (T253.setTop (mkF m 283 #[.val (.int (7 : Int32)), .val (.ref bu)] [(.ref b223), (.ref b218), (.ref b218)])) _
      refine XS.dup X253.here hx rfl (Jvm.hb hby d_method_4_283) rfl rfl ?_
      refine XS.bipush X253.here hx rfl (Jvm.hb hby d_method_4_284) ?_
      refine XS.aloadN X253.here hx rfl (Jvm.hb hby d_method_4_286) rfl rfl ?_
      refine XS.bipush X253.here hx rfl (Jvm.hb hby d_method_4_287) ?_
      refine X253.caload hx (j := (6 : Int32)) (v := (.int c6_)) (by rw [e253]; exact Ar256.1) (State.isArrayOf_alike hZ.alike Ar256.2.1) Ar256.2.2 hin256 hat256 (g := (mkF m 289 #[.val (.int (7 : Int32)), .val (.ref bu)] [(.int (6 : Int32)), (.ref bu), (.int (6 : Int32)), (.ref b223), (.ref b223), (.ref b218), (.ref b218)])) rfl rfl (Jvm.hb hby d_method_4_289) _ ?_
      show Steps p.tables e below (T253.setTop (mkF m 290 #[.val (.int (7 : Int32)), .val (.ref bu)] [(.int c6_), (.int (6 : Int32)), (.ref b223), (.ref b223), (.ref b218), (.ref b218)])) _
      refine st258 _ ?_
      show Steps p.tables e below (T258.setTop (mkF m 291 #[.val (.int (7 : Int32)), .val (.ref bu)] [(.ref b223), (.ref b218), (.ref b218)])) _
      show Steps p.tables e below (T258.setTop (mkF m 291 #[.val (.int (7 : Int32)), .val (.ref bu)] [(.ref b223), (.ref b218), (.ref b218)])) t_
      exact k_)
    obtain ⟨_, _, ⟨T265, L265, k265, n265⟩, -, Xr265, hSr265, hg265, ⟨Lc265, hQ265, l265, y265, z265, Cp265⟩, st265⟩ := X258.specialBackS hx (y := (⟨"java/lang/String", "<init>", "([C)V"⟩ : MethodName)) rfl hown (mvT hZ (hw _ (List.mem_of_getElem? (i := 21) rfl))) (mvT hZ (hw _ (List.mem_of_getElem? (i := 22) rfl))) (mvT hZ (hw _ (List.mem_of_getElem? (i := 23) rfl))) (by decide) (backOfSH (s := s) (vm0 := s.vm) (W := 1) (rmIni1 l Z a0 hw [] b218 b223 cst [c0_, c1_, c2_, c3_, c4_, c5_, c6_] k223 7 h258 n0 Zc264 I1 O260 (hcst : ¬ (cst = (0 : Int32))) f261 f262 f263 V258 rfl (by first | assumption | omega | rfl | decide : 7 ≤ 7) (own_latS r0b (own_latS r1b (own_latS r2b (own_latS r3b (own_latS r4b (own_latS r5b (own_latS r6b own_lat0))))))) (by first | assumption | omega | rfl | decide : n0 ≤ b218) (by first | assumption | omega | rfl | decide : @Ne Nat b218 b223)) hZ (hw _ (List.mem_of_getElem? (i := 23) rfl)) (hw _ (List.mem_of_getElem? (i := 1) rfl)) (by decide) (by decide) hEL CR.1) (g := (mkF m 291 #[.val (.int (7 : Int32)), .val (.ref bu)] [(.ref b223), (.ref b218), (.ref b218)])) rfl (by rw [hml]; rfl) (Steps.refl _) (a := b218) (argsL := [(.ref b223)]) (rest := [(.ref b218)]) (lenOf pd___C_V rfl) rfl (by show 2 * 0 + _ ≤ _; exact Nat.le_of_eq rfl) (Jvm.hb hby d_method_4_291) (fun _ _ => ⟨rfl, e258, (by decide : 2 + 4 ≤ _), (by decide : 11 + 8 ≤ _)⟩)
    dsimp only [Pt.U, Pt.locs, Pt.cells, Pt.slots] at Xr265 hSr265 hg265 l265 y265 z265 st265 hQ265 Cp265
    subst l265 y265 z265
    obtain ⟨X265, hS, hZ, hown⟩ := rebS (own := "com/example/coyote_hill/coyotehill/ItemStateFromNamePinLaw") hS (by first | exact Nat.le_refl _ | (rw [e258]; exact hk)) Xr265 hSr265 hg265 hZ hown
    obtain ⟨b_265, kb_265, rfl, N265q, K265, Fq265_0, Fq265_1, Fq265_2, Fq265_3⟩ := hQ265
    have N265 := Fr.app N258 N265q
    obtain ⟨h265, e265⟩ : ∃ z, T265.heap = z := ⟨_, rfl⟩
    rw [e265] at K265 Fq265_0 Fq265_1 Fq265_2 Fq265_3 Cp265
    have hk : T265.heap.size ≤ h265.size := Nat.le_of_eq (congrArg Array.size e265)
    have z267 : h258.size ≤ h265.size := K265.1
    have CR := CR.trans Cp265
    have lt265_0 : @LT.lt Nat _ b218 h265.size := Fq265_0.lt
    have lt265_3 : @LT.lt Nat _ b_265 h265.size := Fq265_3.lt
    have s268 : ∀ t_, Steps p.tables e below (T265.setTop (mkF m 294 #[.val (.int (7 : Int32)), .val (.ref bu)] [(.ref b218)])) t_ → Steps p.tables e below (s₁.setTop (entryFrame m #[(.int (7 : Int32)), (.ref bu)] 2)) t_ := fun t_ k_ => s266 t_ (by
      show Steps p.tables e below (T258.setTop (mkF m 291 #[.val (.int (7 : Int32)), .val (.ref bu)] [(.ref b223), (.ref b218), (.ref b218)])) t_
      refine st265.trans ?_
      show Steps p.tables e below (T265.setTop (mkF m 294 #[.val (.int (7 : Int32)), .val (.ref bu)] [(.ref b218)])) _
      show Steps p.tables e below (T265.setTop (mkF m 294 #[.val (.int (7 : Int32)), .val (.ref bu)] [(.ref b218)])) t_
      exact k_)
    obtain ⟨fs, hr, hrun, hended, hREW⟩ := X265.leaveW hS (by first | exact Nat.le_refl _ | (rw [e265]; exact hk)) (v := some (.ref b218)) (fun h => by rw [Bd.returns] at h; cases h)
    refine ⟨_, _, s268 _ ?_, hrun, hended, _, _, rfl, ?_, (by show CHr Z ELs s.vm s.heap T265.vm T265.heap; rw [hh, e265]; exact CR.trans (CHv.at X265 hZ hEL CR.1)), hREW.1, hREW.2.1, hREW.2.2.1, hREW.2.2.2.mono (by decide) (by decide)⟩
    · show Steps p.tables e below (T265.setTop (mkF m 294 #[.val (.int (7 : Int32)), .val (.ref bu)] [(.ref b218)])) _
      jvm_step X265.here [X265.here.top, hx, (Jvm.hb hby d_method_4_294), X265.method', Bd.returns, Value.isRef, FieldType.isReference]
      first | (intro acts; rw [hr _ acts rfl rfl rfl]) | rw [hr _ _ rfl rfl rfl]
      exact Steps.refl _
    · show Q_rmMk Z _ _ _ _ _ _ _ _ _ _ _ h0 n0 _ T265.heap _
      rw [e265]
      exact ⟨b218, b_265, kb_265, rfl, N265, (((((((((((Keep.refl h0 []).ext E218).ext E223).wr W228 (Or.inr (show h0.size ≤ b223 by omega))).wr W233 (Or.inr (show h0.size ≤ b223 by omega))).wr W238 (Or.inr (show h0.size ≤ b223 by omega))).wr W243 (Or.inr (show h0.size ≤ b223 by omega))).wr W248 (Or.inr (show h0.size ≤ b223 by omega))).wr W253 (Or.inr (show h0.size ≤ b223 by omega))).wr W258 (Or.inr (show h0.size ≤ b223 by omega))).trans K265 (allS (Or.inr (show h0.size ≤ b218 by omega)) all0)), Fq265_0, Fq265_1, Fq265_2, Fq265_3, by omega⟩
theorem pd__IZLjava_lang_String_J_C : parseMethodDescriptor "(IZLjava/lang/String;J)C" = some ⟨[.int, .boolean, (.object "java/lang/String"), .long], some .char⟩ := by decide +kernel
theorem pd__I_C_Ljava_lang_String_ : parseMethodDescriptor "(I[C)Ljava/lang/String;" = some ⟨[.int, (.array .char)], some (.object "java/lang/String")⟩ := by decide +kernel
theorem pd__Ljava_lang_String__Lcom_example_coyote_hill_coyotehill_ItemState_ : parseMethodDescriptor "(Ljava/lang/String;)Lcom/example/coyote_hill/coyotehill/ItemState;" = some ⟨[(.object "java/lang/String")], some (.object "com/example/coyote_hill/coyotehill/ItemState")⟩ := by decide +kernel
theorem pd___Ljava_lang_String_ : parseMethodDescriptor "()Ljava/lang/String;" = some ⟨[], some (.object "java/lang/String")⟩ := by decide +kernel
theorem ef_rmLaw (m : MethodId) (x0 : Int32) (x1 : Int32) (x2 : Int32) (x3 : Int32) (x4 : Int64) : entryFrame m #[(.int x0), (.int x1), (.int x2), (.int x3), (.long x4)] maxLocals = mkF m 0 #[.val (.int x0), .val (.int x1), .val (.int x2), .val (.int x3), .val (.long x4), .second, .unset, .unset, .unset, .unset, .unset, .unset, .unset, .unset, .unset, .unset, .unset, .unset, .unset] [] := by first | (simp [entryFrame, mkF, argsToLocals, Value.category, maxLocals]; done) | rfl
def Q_rmLaw (Z : State) (sel : Int32) (len : Int32) (ps : Int32) (mt : Int32) (lc : Int64) (cst : Int32) (fmt : Value) (vl : Addr) (kv : ClassId) (ra : Addr) (rb : Addr) (rc : Addr) (rd : Addr) (na : Addr) (nb : Addr) (nc : Addr) (nx : Addr) (va : Addr) (vb : Addr) (vc : Addr) (vd : Addr) (ka : ClassId) (kb_ : ClassId) (kc_ : ClassId) (kd : ClassId) (h0 : Heap) (n0 : Nat) (v : Option Value) (h : Heap) (L : List Loc) : Prop := v = some (.int 1) ∧ Fr n0 L
set_option maxRecDepth 65536 in
set_option maxHeartbeats 40000000 in
theorem rmLaw (l : Launch) (Z : State) (a0 : Array Value) (hw : ∀ d ∈ tables_1, d.before a0 Z = true) (ws : List Jvm.Cond) (sel : Int32) (len : Int32) (ps : Int32) (mt : Int32) (lc : Int64) (cst : Int32) (fmt : Value) (vl : Addr) (kv : ClassId) (ra : Addr) (rb : Addr) (rc : Addr) (rd : Addr) (na : Addr) (nb : Addr) (nc : Addr) (nx : Addr) (va : Addr) (vb : Addr) (vc : Addr) (vd : Addr) (ka : ClassId) (kb_ : ClassId) (kc_ : ClassId) (kd : ClassId) (h0 : Heap) (n0 : Nat) (Z0 : n0 ≤ h0.size) (I1 : Sta Z Z.heap "java/lang/String" "COMPACT_STRINGS" "Z" (.int cst)) (hfmt : fmt.isRef = true) (I2 : Sta Z Z.heap "jdk/internal/util/Preconditions" "SIOOBE_FORMATTER" "Ljava/util/function/BiFunction;" fmt) (OX : Old Z n0 h0) (hcst : ¬ (cst = (0 : Int32))) (I3 : Sta Z Z.heap "com/example/coyote_hill/coyotehill/ItemState" "$VALUES" "[Lcom/example/coyote_hill/coyotehill/ItemState;" (.ref vl)) (I4 : Exa Z Z.heap vl "[Lcom/example/coyote_hill/coyotehill/ItemState;") (I5 : Arv Z Z.heap vl kv (.object "com/example/coyote_hill/coyotehill/ItemState") (4 : Int32) [.ref ra, .ref rb, .ref rc, .ref rd] .null) (I6 : Exa Z Z.heap ra "com/example/coyote_hill/coyotehill/ItemState") (I7 : Fld Z Z.heap ra "com/example/coyote_hill/coyotehill/ItemState" "_name" "Ljava/lang/String;" (.ref na)) (I8 : Exa Z Z.heap na "java/lang/String") (I9 : Fld Z Z.heap na "java/lang/String" "value" "[B" (.ref va)) (I10 : Fld Z Z.heap na "java/lang/String" "coder" "B" (.int (own_cod (own_nm 0)))) (I11 : Arv Z Z.heap va ka .byte (Int32.ofNat (own_enl (own_nm 0))) (own_enc (own_nm 0)) (.int (0 : Int32))) (I12 : Exa Z Z.heap rb "com/example/coyote_hill/coyotehill/ItemState") (I13 : Fld Z Z.heap rb "com/example/coyote_hill/coyotehill/ItemState" "_name" "Ljava/lang/String;" (.ref nb)) (I14 : Exa Z Z.heap nb "java/lang/String") (I15 : Fld Z Z.heap nb "java/lang/String" "value" "[B" (.ref vb)) (I16 : Fld Z Z.heap nb "java/lang/String" "coder" "B" (.int (own_cod (own_nm 1)))) (I17 : Arv Z Z.heap vb kb_ .byte (Int32.ofNat (own_enl (own_nm 1))) (own_enc (own_nm 1)) (.int (0 : Int32))) (I18 : Exa Z Z.heap rc "com/example/coyote_hill/coyotehill/ItemState") (I19 : Fld Z Z.heap rc "com/example/coyote_hill/coyotehill/ItemState" "_name" "Ljava/lang/String;" (.ref nc)) (I20 : Exa Z Z.heap nc "java/lang/String") (I21 : Fld Z Z.heap nc "java/lang/String" "value" "[B" (.ref vc)) (I22 : Fld Z Z.heap nc "java/lang/String" "coder" "B" (.int (own_cod (own_nm 2)))) (I23 : Arv Z Z.heap vc kc_ .byte (Int32.ofNat (own_enl (own_nm 2))) (own_enc (own_nm 2)) (.int (0 : Int32))) (I24 : Exa Z Z.heap rd "com/example/coyote_hill/coyotehill/ItemState") (I25 : Fld Z Z.heap rd "com/example/coyote_hill/coyotehill/ItemState" "_name" "Ljava/lang/String;" (.ref nx)) (I26 : Exa Z Z.heap nx "java/lang/String") (I27 : Fld Z Z.heap nx "java/lang/String" "value" "[B" (.ref vd)) (I28 : Fld Z Z.heap nx "java/lang/String" "coder" "B" (.int (own_cod (own_nm 3)))) (I29 : Arv Z Z.heap vd kd .byte (Int32.ofNat (own_enl (own_nm 3))) (own_enc (own_nm 3)) (.int (0 : Int32))) (I30 : Sta Z Z.heap "com/example/coyote_hill/coyotehill/ItemState" "READY" "Lcom/example/coyote_hill/coyotehill/ItemState;" (.ref ra)) (I31 : Sta Z Z.heap "com/example/coyote_hill/coyotehill/ItemState" "LEASED" "Lcom/example/coyote_hill/coyotehill/ItemState;" (.ref rb)) (I32 : Sta Z Z.heap "com/example/coyote_hill/coyotehill/ItemState" "DONE" "Lcom/example/coyote_hill/coyotehill/ItemState;" (.ref rc)) (I33 : Sta Z Z.heap "com/example/coyote_hill/coyotehill/ItemState" "FAILED" "Lcom/example/coyote_hill/coyotehill/ItemState;" (.ref rd)) :
    MetFree l x (head1 (Jvm.Cond.code x code maxLocals ret :: ws) room_1) (fun ar_ U => ar_ = #[(.int sel), (.int len), (.int ps), (.int mt), (.long lc)] ∧ Z.Warmed39 U.vm ∧ U.heap = h0 ∧ CHv Z ELs U.vm h0) (fun _ _ _ _ _ => True) (fun _ U oc_ U' => ∃ v L, oc_ = .returned v ∧ Q_rmLaw Z sel len ps mt lc cst fmt vl kv ra rb rc rd na nb nc nx va vb vc vd ka kb_ kc_ kd h0 n0 v U'.heap L ∧ CHr Z ELs U.vm U.heap U'.vm U'.heap ∧ ReturnedEndW U oc_ U' L room_1.cells room_1.slots) := by
  refine MetFree.of_bodySF (plainFor_of_name pn_com_example_coyote_hill_coyotehill_ItemStateFromNamePinLaw) hisR ?_
  intro p e s m args below meth c s₁ Bd hml0 hP hK
  obtain ⟨rfl, hZ, hh, hCH⟩ := hP
  have hx := Bd.exec
  have hby := Bd.bytes
  have hml : c.maxLocals = 19 := hml0
  have hown : s.vm.findClass "com/example/coyote_hill/coyotehill/ItemStateFromNamePinLaw" = some m.cls := findClass_of_methodNamed Bd.named
  have hnm := (name_of_methodNamed Bd.named Bd.method).1
  have X0 : Stand p l e room_1 (s.setVm s.vm) m #[(.int sel), (.int len), (.int ps), (.int mt), (.long lc)] below meth c s₁ [] 0 0 := Stand.of_body Bd
  have e0 : s₁.heap = h0 := by rw [← hh, Bd.state]; rfl
  have N0 := Fr.nil n0
  have pre0 : ∀ t_, Steps p.tables e below (s₁.setTop (mkF m 0 #[.val (.int sel), .val (.int len), .val (.int ps), .val (.int mt), .val (.long lc), .second, .unset, .unset, .unset, .unset, .unset, .unset, .unset, .unset, .unset, .unset, .unset, .unset, .unset] [])) t_ → Steps p.tables e below (s₁.setTop (entryFrame m #[(.int sel), (.int len), (.int ps), (.int mt), (.long lc)] maxLocals)) t_ := fun t_ k_ => castTop (ef_rmLaw m sel len ps mt lc) k_
  have hEL : EW Z a0 ELs := own_EW hw
  have wS : ∀ a ∈ Bundle.stringAtoms, a.before a0 Z = true := own_wS hw
  have hS : s.Since s.vm s.heap.size := (State.WarmedH.refl s).since _
  have hk : s.heap.size ≤ h0.size := by rw [hh]; exact Nat.le_refl _
  have CR : CHr Z ELs s.vm h0 s.vm h0 := CHr.refl hCH
  obtain ⟨mk, hmk, hmkl⟩ := own_and3 sel
  have s1 : ∀ t_, Steps p.tables e below (s₁.setTop (mkF m 5 #[.val (.int sel), .val (.int len), .val (.int ps), .val (.int mt), .val (.long lc), .second, .val (.int (Int32.ofNat mk)), .unset, .unset, .unset, .unset, .unset, .unset, .unset, .unset, .unset, .unset, .unset, .unset] [])) t_ → Steps p.tables e below (s₁.setTop (entryFrame m #[(.int sel), (.int len), (.int ps), (.int mt), (.long lc)] maxLocals)) t_ := fun t_ k_ => pre0 t_ (by
    show Steps p.tables e below (s₁.setTop (mkF m 0 #[.val (.int sel), .val (.int len), .val (.int ps), .val (.int mt), .val (.long lc), .second, .unset, .unset, .unset, .unset, .unset, .unset, .unset, .unset, .unset, .unset, .unset, .unset, .unset] [])) t_
    refine XS.iloadN X0.here hx rfl (Jvm.hb hby at_0) rfl ?_
    refine XS.iconst X0.here hx rfl (Jvm.hb hby at_1) ?_
    refine XS.iand X0.here hx rfl (Jvm.hb hby at_2) rfl ?_
    refine XS.istore X0.here hx rfl (Jvm.hb hby at_3) rfl (l' := #[.val (.int sel), .val (.int len), .val (.int ps), .val (.int mt), .val (.long lc), .second, .val (.int (sel &&& (3 : Int32))), .unset, .unset, .unset, .unset, .unset, .unset, .unset, .unset, .unset, .unset, .unset, .unset]) rfl ?_
    show Steps p.tables e below (s₁.setTop (mkF m 5 #[.val (.int sel), .val (.int len), .val (.int ps), .val (.int mt), .val (.long lc), .second, .val (.int (sel &&& (3 : Int32))), .unset, .unset, .unset, .unset, .unset, .unset, .unset, .unset, .unset, .unset, .unset, .unset] [])) t_
    exact castTop (by simp only [hmk]) k_)
  have bk2 : ∃ (V' : Vm) (k' : Nat) (T' : State) (lo' : List Loc) (hx_ : Heap) (fe_ : JFrame), Stand p l e room_1 (s.setVm V') m #[(.int sel), (.int len), (.int ps), (.int mt), (.long lc)] below meth c T' lo' 2 28 ∧ T'.heap = hx_ ∧ Fr n0 lo' ∧ Keep h0 hx_ [] ∧ s.Since V' k' ∧ k' ≤ hx_.size ∧ Z.Warmed39 (s.setVm V').vm ∧ (s.setVm V').vm.findClass "com/example/coyote_hill/coyotehill/ItemStateFromNamePinLaw" = some m.cls ∧ CHr Z ELs s.vm h0 V' hx_ ∧ ((∃ (nmA : Addr), ∃ (bA : Addr), ∃ (kA : ClassId), ∃ (stA : Addr), ∃ (naA : Addr), ∃ (bB : Addr), ∃ (kB : ClassId), fe_ = (mkF m 67 #[.val (.int sel), .val (.int len), .val (.int ps), .val (.int mt), .val (.long lc), .second, .val (.int (Int32.ofNat mk)), .val (.ref nmA), .val (.ref stA), .unset, .unset, .unset, .unset, .unset, .unset, .unset, .unset, .unset, .unset] []) ∧ Exa Z hx_ nmA "java/lang/String" ∧ Fld Z hx_ nmA "java/lang/String" "value" "[B" (.ref bA) ∧ Fld Z hx_ nmA "java/lang/String" "coder" "B" (.int (own_cod (own_nm mk))) ∧ Arv Z hx_ bA kA .byte (Int32.ofNat (own_enl (own_nm mk))) (own_enc (own_nm mk)) (.int (0 : Int32)) ∧ Exa Z hx_ stA "com/example/coyote_hill/coyotehill/ItemState" ∧ Fld Z hx_ stA "com/example/coyote_hill/coyotehill/ItemState" "_name" "Ljava/lang/String;" (.ref naA) ∧ Exa Z hx_ naA "java/lang/String" ∧ Fld Z hx_ naA "java/lang/String" "value" "[B" (.ref bB) ∧ Fld Z hx_ naA "java/lang/String" "coder" "B" (.int (own_cod (own_nm mk))) ∧ Arv Z hx_ bB kB .byte (Int32.ofNat (own_enl (own_nm mk))) (own_enc (own_nm mk)) (.int (0 : Int32)) ∧ (stA = own_st4 mk ra rb rc rd))) ∧ ∀ t_, Steps p.tables e below (T'.setTop fe_) t_ → Steps p.tables e below (s₁.setTop (entryFrame m #[(.int sel), (.int len), (.int ps), (.int mt), (.long lc)] maxLocals)) t_ := by
    have s3 : ∀ t_, Steps p.tables e below (s₁.setTop (mkF m 7 #[.val (.int sel), .val (.int len), .val (.int ps), .val (.int mt), .val (.long lc), .second, .val (.int (Int32.ofNat mk)), .unset, .unset, .unset, .unset, .unset, .unset, .unset, .unset, .unset, .unset, .unset, .unset] [(.int (Int32.ofNat mk))])) t_ → Steps p.tables e below (s₁.setTop (entryFrame m #[(.int sel), (.int len), (.int ps), (.int mt), (.long lc)] maxLocals)) t_ := fun t_ k_ => s1 t_ (by
      show Steps p.tables e below (s₁.setTop (mkF m 5 #[.val (.int sel), .val (.int len), .val (.int ps), .val (.int mt), .val (.long lc), .second, .val (.int (Int32.ofNat mk)), .unset, .unset, .unset, .unset, .unset, .unset, .unset, .unset, .unset, .unset, .unset, .unset] [])) t_
      refine XS.iload X0.here hx rfl (Jvm.hb hby at_5) rfl ?_
      show Steps p.tables e below (s₁.setTop (mkF m 7 #[.val (.int sel), .val (.int len), .val (.int ps), .val (.int mt), .val (.long lc), .second, .val (.int (Int32.ofNat mk)), .unset, .unset, .unset, .unset, .unset, .unset, .unset, .unset, .unset, .unset, .unset, .unset] [(.int (Int32.ofNat mk))])) t_
      exact k_)
    by_cases h4 : (Int32.ofNat mk) = (0 : Int32)
    · have s6 : ∀ t_, Steps p.tables e below (s₁.setTop (mkF m 10 #[.val (.int sel), .val (.int len), .val (.int ps), .val (.int mt), .val (.long lc), .second, .val (.int (Int32.ofNat mk)), .unset, .unset, .unset, .unset, .unset, .unset, .unset, .unset, .unset, .unset, .unset, .unset] [])) t_ → Steps p.tables e below (s₁.setTop (entryFrame m #[(.int sel), (.int len), (.int ps), (.int mt), (.long lc)] maxLocals)) t_ := fun t_ k_ => s3 t_ (by
        show Steps p.tables e below (s₁.setTop (mkF m 7 #[.val (.int sel), .val (.int len), .val (.int ps), .val (.int mt), .val (.long lc), .second, .val (.int (Int32.ofNat mk)), .unset, .unset, .unset, .unset, .unset, .unset, .unset, .unset, .unset, .unset, .unset, .unset] [(.int (Int32.ofNat mk))])) t_
        refine XS.ifNo X0.here hx rfl (Jvm.hb hby at_7) rfl ((if0 _ _).trans (teq h4).2) ?_
        show Steps p.tables e below (s₁.setTop (mkF m 10 #[.val (.int sel), .val (.int len), .val (.int ps), .val (.int mt), .val (.long lc), .second, .val (.int (Int32.ofNat mk)), .unset, .unset, .unset, .unset, .unset, .unset, .unset, .unset, .unset, .unset, .unset, .unset] [])) _
        show Steps p.tables e below (s₁.setTop (mkF m 10 #[.val (.int sel), .val (.int len), .val (.int ps), .val (.int mt), .val (.long lc), .second, .val (.int (Int32.ofNat mk)), .unset, .unset, .unset, .unset, .unset, .unset, .unset, .unset, .unset, .unset, .unset, .unset] [])) t_
        exact k_)
      obtain ⟨a5, T5, h5, k5, b5, kk5, X5, e5, E5, hS, hk, hZ, hown, Ex5, Fc5, Fv5, Av5, la5, lb5, Cp5, Li5, Sa5, st5⟩ := ldcCH X0 hx hZ hown (hw _ (List.mem_of_getElem? (i := 0) rfl)) wS e0 hS hk hEL (List.mem_of_getElem? (i := 0) rfl) CR.1 (vs := [(.int (114 : Int32)), (.int (101 : Int32)), (.int (97 : Int32)), (.int (100 : Int32)), (.int (121 : Int32))]) (z := (5 : Int32)) ⟨by decide, by decide⟩ (by decide) rfl (g := (mkF m 10 #[.val (.int sel), .val (.int len), .val (.int ps), .val (.int mt), .val (.long lc), .second, .val (.int (Int32.ofNat mk)), .unset, .unset, .unset, .unset, .unset, .unset, .unset, .unset, .unset, .unset, .unset, .unset] [])) rfl (Jvm.hb hby at_10) (n := 20) (by decide) (by decide) (by decide) (by decide)
      have z7 : h0.size ≤ h5.size := E5.1
      have CR := CR.trans Cp5
      have la5 : @LT.lt Nat _ a5 h5.size := la5
      have lb5 : @LT.lt Nat _ b5 h5.size := lb5
      have O8 : Old Z n0 h5 := (OX.ext E5)
      obtain ⟨T9, X9, e9, st9⟩ := getS2 X5 hx hZ hown (host := "") (Or.inl (hw _ (List.mem_of_getElem? (i := 8) rfl))) Via.refl e5 (I30.ext O8.2) (g := (mkF m 14 #[.val (.int sel), .val (.int len), .val (.int ps), .val (.int mt), .val (.long lc), .second, .val (.int (Int32.ofNat mk)), .val (.ref a5), .unset, .unset, .unset, .unset, .unset, .unset, .unset, .unset, .unset, .unset, .unset] [])) rfl (Jvm.hb hby at_14)
      have s10 : ∀ t_, Steps p.tables e below (T9.setTop (mkF m 67 #[.val (.int sel), .val (.int len), .val (.int ps), .val (.int mt), .val (.long lc), .second, .val (.int (Int32.ofNat mk)), .val (.ref a5), .val (.ref ra), .unset, .unset, .unset, .unset, .unset, .unset, .unset, .unset, .unset, .unset] [])) t_ → Steps p.tables e below (s₁.setTop (entryFrame m #[(.int sel), (.int len), (.int ps), (.int mt), (.long lc)] maxLocals)) t_ := fun t_ k_ => s6 t_ (by
        show Steps p.tables e below (s₁.setTop (mkF m 10 #[.val (.int sel), .val (.int len), .val (.int ps), .val (.int mt), .val (.long lc), .second, .val (.int (Int32.ofNat mk)), .unset, .unset, .unset, .unset, .unset, .unset, .unset, .unset, .unset, .unset, .unset, .unset] [])) t_
        refine st5 _ ?_
        show Steps p.tables e below (T5.setTop (mkF m 12 #[.val (.int sel), .val (.int len), .val (.int ps), .val (.int mt), .val (.long lc), .second, .val (.int (Int32.ofNat mk)), .unset, .unset, .unset, .unset, .unset, .unset, .unset, .unset, .unset, .unset, .unset, .unset] [(.ref a5)])) _
        refine XS.astore X5.here hx rfl (Jvm.hb hby at_12) rfl rfl (l' := #[.val (.int sel), .val (.int len), .val (.int ps), .val (.int mt), .val (.long lc), .second, .val (.int (Int32.ofNat mk)), .val (.ref a5), .unset, .unset, .unset, .unset, .unset, .unset, .unset, .unset, .unset, .unset, .unset]) rfl ?_
        refine st9 _ ?_
        show Steps p.tables e below (T9.setTop (mkF m 17 #[.val (.int sel), .val (.int len), .val (.int ps), .val (.int mt), .val (.long lc), .second, .val (.int (Int32.ofNat mk)), .val (.ref a5), .unset, .unset, .unset, .unset, .unset, .unset, .unset, .unset, .unset, .unset, .unset] [(.ref ra)])) _
        refine XS.astore X9.here hx rfl (Jvm.hb hby at_17) rfl rfl (l' := #[.val (.int sel), .val (.int len), .val (.int ps), .val (.int mt), .val (.long lc), .second, .val (.int (Int32.ofNat mk)), .val (.ref a5), .val (.ref ra), .unset, .unset, .unset, .unset, .unset, .unset, .unset, .unset, .unset, .unset]) rfl ?_
        refine XS.goto X9.here hx rfl (pc0 := 19) (pc' := 67) rfl (Jvm.hb hby at_19) (by decide) (by decide) ?_
        show Steps p.tables e below (T9.setTop (mkF m 67 #[.val (.int sel), .val (.int len), .val (.int ps), .val (.int mt), .val (.long lc), .second, .val (.int (Int32.ofNat mk)), .val (.ref a5), .val (.ref ra), .unset, .unset, .unset, .unset, .unset, .unset, .unset, .unset, .unset, .unset] [])) t_
        exact k_)
      have hmi_ : mk = 0 := own_inj (n := 0) (by omega) (by decide) h4
      exact ⟨T5.vm, _, T9, _, _, _, X9.more (by decide) (by decide), e9, N0, ((Keep.refl h0 []).ext E5), hS, (by first | exact hk | exact Nat.le_refl _ | (rw [← e9]; exact Nat.le_refl _)), hZ, hown, Cp5, ⟨a5, b5, kk5, ra, na, va, ka, rfl, Ex5, Fv5, (by rw [hmi_]; exact Fc5), (by rw [hmi_]; exact own_lit0 Av5), (I6.ext O8.2), (I7.ext O8.2), (I8.ext O8.2), (I9.ext O8.2), (by rw [hmi_]; exact (I10.ext O8.2)), (by rw [hmi_]; exact (I11.ext O8.2)), (by rw [hmi_]; rfl)⟩, s10⟩
    · have s11 : ∀ t_, Steps p.tables e below (s₁.setTop (mkF m 25 #[.val (.int sel), .val (.int len), .val (.int ps), .val (.int mt), .val (.long lc), .second, .val (.int (Int32.ofNat mk)), .unset, .unset, .unset, .unset, .unset, .unset, .unset, .unset, .unset, .unset, .unset, .unset] [(.int (1 : Int32)), (.int (Int32.ofNat mk))])) t_ → Steps p.tables e below (s₁.setTop (entryFrame m #[(.int sel), (.int len), (.int ps), (.int mt), (.long lc)] maxLocals)) t_ := fun t_ k_ => s3 t_ (by
        show Steps p.tables e below (s₁.setTop (mkF m 7 #[.val (.int sel), .val (.int len), .val (.int ps), .val (.int mt), .val (.long lc), .second, .val (.int (Int32.ofNat mk)), .unset, .unset, .unset, .unset, .unset, .unset, .unset, .unset, .unset, .unset, .unset, .unset] [(.int (Int32.ofNat mk))])) t_
        refine XS.ifYes X0.here hx rfl (pc0 := 7) (pc' := 22) rfl (Jvm.hb hby at_7) rfl ((if0 _ _).trans (feq h4).2) (by decide) (by decide) ?_
        show Steps p.tables e below (s₁.setTop (mkF m 22 #[.val (.int sel), .val (.int len), .val (.int ps), .val (.int mt), .val (.long lc), .second, .val (.int (Int32.ofNat mk)), .unset, .unset, .unset, .unset, .unset, .unset, .unset, .unset, .unset, .unset, .unset, .unset] [])) _
        refine XS.iload X0.here hx rfl (Jvm.hb hby at_22) rfl ?_
        refine XS.iconst X0.here hx rfl (Jvm.hb hby at_24) ?_
        show Steps p.tables e below (s₁.setTop (mkF m 25 #[.val (.int sel), .val (.int len), .val (.int ps), .val (.int mt), .val (.long lc), .second, .val (.int (Int32.ofNat mk)), .unset, .unset, .unset, .unset, .unset, .unset, .unset, .unset, .unset, .unset, .unset, .unset] [(.int (1 : Int32)), (.int (Int32.ofNat mk))])) t_
        exact k_)
      by_cases h12 : (Int32.ofNat mk) = (1 : Int32)
      · have s14 : ∀ t_, Steps p.tables e below (s₁.setTop (mkF m 28 #[.val (.int sel), .val (.int len), .val (.int ps), .val (.int mt), .val (.long lc), .second, .val (.int (Int32.ofNat mk)), .unset, .unset, .unset, .unset, .unset, .unset, .unset, .unset, .unset, .unset, .unset, .unset] [])) t_ → Steps p.tables e below (s₁.setTop (entryFrame m #[(.int sel), (.int len), (.int ps), (.int mt), (.long lc)] maxLocals)) t_ := fun t_ k_ => s11 t_ (by
          show Steps p.tables e below (s₁.setTop (mkF m 25 #[.val (.int sel), .val (.int len), .val (.int ps), .val (.int mt), .val (.long lc), .second, .val (.int (Int32.ofNat mk)), .unset, .unset, .unset, .unset, .unset, .unset, .unset, .unset, .unset, .unset, .unset, .unset] [(.int (1 : Int32)), (.int (Int32.ofNat mk))])) t_
          refine XS.icmpNo X0.here hx rfl (Jvm.hb hby at_25) rfl (teq h12).2 ?_
          show Steps p.tables e below (s₁.setTop (mkF m 28 #[.val (.int sel), .val (.int len), .val (.int ps), .val (.int mt), .val (.long lc), .second, .val (.int (Int32.ofNat mk)), .unset, .unset, .unset, .unset, .unset, .unset, .unset, .unset, .unset, .unset, .unset, .unset] [])) _
          show Steps p.tables e below (s₁.setTop (mkF m 28 #[.val (.int sel), .val (.int len), .val (.int ps), .val (.int mt), .val (.long lc), .second, .val (.int (Int32.ofNat mk)), .unset, .unset, .unset, .unset, .unset, .unset, .unset, .unset, .unset, .unset, .unset, .unset] [])) t_
          exact k_)
        obtain ⟨a13, T13, h13, k13, b13, kk13, X13, e13, E13, hS, hk, hZ, hown, Ex13, Fc13, Fv13, Av13, la13, lb13, Cp13, Li13, Sa13, st13⟩ := ldcCH X0 hx hZ hown (hw _ (List.mem_of_getElem? (i := 57) rfl)) wS e0 hS hk hEL (List.mem_of_getElem? (i := 1) rfl) CR.1 (vs := [(.int (108 : Int32)), (.int (101 : Int32)), (.int (97 : Int32)), (.int (115 : Int32)), (.int (101 : Int32)), (.int (100 : Int32))]) (z := (6 : Int32)) ⟨by decide, by decide⟩ (by decide) rfl (g := (mkF m 28 #[.val (.int sel), .val (.int len), .val (.int ps), .val (.int mt), .val (.long lc), .second, .val (.int (Int32.ofNat mk)), .unset, .unset, .unset, .unset, .unset, .unset, .unset, .unset, .unset, .unset, .unset, .unset] [])) rfl (Jvm.hb hby at_28) (n := 24) (by decide) (by decide) (by decide) (by decide)
        have z15 : h0.size ≤ h13.size := E13.1
        have CR := CR.trans Cp13
        have la13 : @LT.lt Nat _ a13 h13.size := la13
        have lb13 : @LT.lt Nat _ b13 h13.size := lb13
        have O16 : Old Z n0 h13 := (OX.ext E13)
        obtain ⟨T17, X17, e17, st17⟩ := getS2 X13 hx hZ hown (host := "") (Or.inl (hw _ (List.mem_of_getElem? (i := 91) rfl))) Via.refl e13 (I31.ext O16.2) (g := (mkF m 32 #[.val (.int sel), .val (.int len), .val (.int ps), .val (.int mt), .val (.long lc), .second, .val (.int (Int32.ofNat mk)), .val (.ref a13), .unset, .unset, .unset, .unset, .unset, .unset, .unset, .unset, .unset, .unset, .unset] [])) rfl (Jvm.hb hby at_32)
        have s18 : ∀ t_, Steps p.tables e below (T17.setTop (mkF m 67 #[.val (.int sel), .val (.int len), .val (.int ps), .val (.int mt), .val (.long lc), .second, .val (.int (Int32.ofNat mk)), .val (.ref a13), .val (.ref rb), .unset, .unset, .unset, .unset, .unset, .unset, .unset, .unset, .unset, .unset] [])) t_ → Steps p.tables e below (s₁.setTop (entryFrame m #[(.int sel), (.int len), (.int ps), (.int mt), (.long lc)] maxLocals)) t_ := fun t_ k_ => s14 t_ (by
          show Steps p.tables e below (s₁.setTop (mkF m 28 #[.val (.int sel), .val (.int len), .val (.int ps), .val (.int mt), .val (.long lc), .second, .val (.int (Int32.ofNat mk)), .unset, .unset, .unset, .unset, .unset, .unset, .unset, .unset, .unset, .unset, .unset, .unset] [])) t_
          refine st13 _ ?_
          show Steps p.tables e below (T13.setTop (mkF m 30 #[.val (.int sel), .val (.int len), .val (.int ps), .val (.int mt), .val (.long lc), .second, .val (.int (Int32.ofNat mk)), .unset, .unset, .unset, .unset, .unset, .unset, .unset, .unset, .unset, .unset, .unset, .unset] [(.ref a13)])) _
          refine XS.astore X13.here hx rfl (Jvm.hb hby at_30) rfl rfl (l' := #[.val (.int sel), .val (.int len), .val (.int ps), .val (.int mt), .val (.long lc), .second, .val (.int (Int32.ofNat mk)), .val (.ref a13), .unset, .unset, .unset, .unset, .unset, .unset, .unset, .unset, .unset, .unset, .unset]) rfl ?_
          refine st17 _ ?_
          show Steps p.tables e below (T17.setTop (mkF m 35 #[.val (.int sel), .val (.int len), .val (.int ps), .val (.int mt), .val (.long lc), .second, .val (.int (Int32.ofNat mk)), .val (.ref a13), .unset, .unset, .unset, .unset, .unset, .unset, .unset, .unset, .unset, .unset, .unset] [(.ref rb)])) _
          refine XS.astore X17.here hx rfl (Jvm.hb hby at_35) rfl rfl (l' := #[.val (.int sel), .val (.int len), .val (.int ps), .val (.int mt), .val (.long lc), .second, .val (.int (Int32.ofNat mk)), .val (.ref a13), .val (.ref rb), .unset, .unset, .unset, .unset, .unset, .unset, .unset, .unset, .unset, .unset]) rfl ?_
          refine XS.goto X17.here hx rfl (pc0 := 37) (pc' := 67) rfl (Jvm.hb hby at_37) (by decide) (by decide) ?_
          show Steps p.tables e below (T17.setTop (mkF m 67 #[.val (.int sel), .val (.int len), .val (.int ps), .val (.int mt), .val (.long lc), .second, .val (.int (Int32.ofNat mk)), .val (.ref a13), .val (.ref rb), .unset, .unset, .unset, .unset, .unset, .unset, .unset, .unset, .unset, .unset] [])) t_
          exact k_)
        have hmi_ : mk = 1 := own_inj (n := 1) (by omega) (by decide) h12
        exact ⟨T13.vm, _, T17, _, _, _, X17.more (by decide) (by decide), e17, N0, ((Keep.refl h0 []).ext E13), hS, (by first | exact hk | exact Nat.le_refl _ | (rw [← e17]; exact Nat.le_refl _)), hZ, hown, Cp13, ⟨a13, b13, kk13, rb, nb, vb, kb_, rfl, Ex13, Fv13, (by rw [hmi_]; exact Fc13), (by rw [hmi_]; exact own_lit1 Av13), (I12.ext O16.2), (I13.ext O16.2), (I14.ext O16.2), (I15.ext O16.2), (by rw [hmi_]; exact (I16.ext O16.2)), (by rw [hmi_]; exact (I17.ext O16.2)), (by rw [hmi_]; rfl)⟩, s18⟩
      · have s19 : ∀ t_, Steps p.tables e below (s₁.setTop (mkF m 43 #[.val (.int sel), .val (.int len), .val (.int ps), .val (.int mt), .val (.long lc), .second, .val (.int (Int32.ofNat mk)), .unset, .unset, .unset, .unset, .unset, .unset, .unset, .unset, .unset, .unset, .unset, .unset] [(.int (2 : Int32)), (.int (Int32.ofNat mk))])) t_ → Steps p.tables e below (s₁.setTop (entryFrame m #[(.int sel), (.int len), (.int ps), (.int mt), (.long lc)] maxLocals)) t_ := fun t_ k_ => s11 t_ (by
          show Steps p.tables e below (s₁.setTop (mkF m 25 #[.val (.int sel), .val (.int len), .val (.int ps), .val (.int mt), .val (.long lc), .second, .val (.int (Int32.ofNat mk)), .unset, .unset, .unset, .unset, .unset, .unset, .unset, .unset, .unset, .unset, .unset, .unset] [(.int (1 : Int32)), (.int (Int32.ofNat mk))])) t_
          refine XS.icmpYes X0.here hx rfl (pc0 := 25) (pc' := 40) rfl (Jvm.hb hby at_25) rfl (feq h12).2 (by decide) (by decide) ?_
          show Steps p.tables e below (s₁.setTop (mkF m 40 #[.val (.int sel), .val (.int len), .val (.int ps), .val (.int mt), .val (.long lc), .second, .val (.int (Int32.ofNat mk)), .unset, .unset, .unset, .unset, .unset, .unset, .unset, .unset, .unset, .unset, .unset, .unset] [])) _
          refine XS.iload X0.here hx rfl (Jvm.hb hby at_40) rfl ?_
          refine XS.iconst X0.here hx rfl (Jvm.hb hby at_42) ?_
          show Steps p.tables e below (s₁.setTop (mkF m 43 #[.val (.int sel), .val (.int len), .val (.int ps), .val (.int mt), .val (.long lc), .second, .val (.int (Int32.ofNat mk)), .unset, .unset, .unset, .unset, .unset, .unset, .unset, .unset, .unset, .unset, .unset, .unset] [(.int (2 : Int32)), (.int (Int32.ofNat mk))])) t_
          exact k_)
        by_cases h20 : (Int32.ofNat mk) = (2 : Int32)
        · have s22 : ∀ t_, Steps p.tables e below (s₁.setTop (mkF m 46 #[.val (.int sel), .val (.int len), .val (.int ps), .val (.int mt), .val (.long lc), .second, .val (.int (Int32.ofNat mk)), .unset, .unset, .unset, .unset, .unset, .unset, .unset, .unset, .unset, .unset, .unset, .unset] [])) t_ → Steps p.tables e below (s₁.setTop (entryFrame m #[(.int sel), (.int len), (.int ps), (.int mt), (.long lc)] maxLocals)) t_ := fun t_ k_ => s19 t_ (by
            show Steps p.tables e below (s₁.setTop (mkF m 43 #[.val (.int sel), .val (.int len), .val (.int ps), .val (.int mt), .val (.long lc), .second, .val (.int (Int32.ofNat mk)), .unset, .unset, .unset, .unset, .unset, .unset, .unset, .unset, .unset, .unset, .unset, .unset] [(.int (2 : Int32)), (.int (Int32.ofNat mk))])) t_
            refine XS.icmpNo X0.here hx rfl (Jvm.hb hby at_43) rfl (teq h20).2 ?_
            show Steps p.tables e below (s₁.setTop (mkF m 46 #[.val (.int sel), .val (.int len), .val (.int ps), .val (.int mt), .val (.long lc), .second, .val (.int (Int32.ofNat mk)), .unset, .unset, .unset, .unset, .unset, .unset, .unset, .unset, .unset, .unset, .unset, .unset] [])) _
            show Steps p.tables e below (s₁.setTop (mkF m 46 #[.val (.int sel), .val (.int len), .val (.int ps), .val (.int mt), .val (.long lc), .second, .val (.int (Int32.ofNat mk)), .unset, .unset, .unset, .unset, .unset, .unset, .unset, .unset, .unset, .unset, .unset, .unset] [])) t_
            exact k_)
          obtain ⟨a21, T21, h21, k21, b21, kk21, X21, e21, E21, hS, hk, hZ, hown, Ex21, Fc21, Fv21, Av21, la21, lb21, Cp21, Li21, Sa21, st21⟩ := ldcCH X0 hx hZ hown (hw _ (List.mem_of_getElem? (i := 58) rfl)) wS e0 hS hk hEL (List.mem_of_getElem? (i := 2) rfl) CR.1 (vs := [(.int (100 : Int32)), (.int (111 : Int32)), (.int (110 : Int32)), (.int (101 : Int32))]) (z := (4 : Int32)) ⟨by decide, by decide⟩ (by decide) rfl (g := (mkF m 46 #[.val (.int sel), .val (.int len), .val (.int ps), .val (.int mt), .val (.long lc), .second, .val (.int (Int32.ofNat mk)), .unset, .unset, .unset, .unset, .unset, .unset, .unset, .unset, .unset, .unset, .unset, .unset] [])) rfl (Jvm.hb hby at_46) (n := 16) (by decide) (by decide) (by decide) (by decide)
          have z23 : h0.size ≤ h21.size := E21.1
          have CR := CR.trans Cp21
          have la21 : @LT.lt Nat _ a21 h21.size := la21
          have lb21 : @LT.lt Nat _ b21 h21.size := lb21
          have O24 : Old Z n0 h21 := (OX.ext E21)
          obtain ⟨T25, X25, e25, st25⟩ := getS2 X21 hx hZ hown (host := "") (Or.inl (hw _ (List.mem_of_getElem? (i := 89) rfl))) Via.refl e21 (I32.ext O24.2) (g := (mkF m 50 #[.val (.int sel), .val (.int len), .val (.int ps), .val (.int mt), .val (.long lc), .second, .val (.int (Int32.ofNat mk)), .val (.ref a21), .unset, .unset, .unset, .unset, .unset, .unset, .unset, .unset, .unset, .unset, .unset] [])) rfl (Jvm.hb hby at_50)
          have s26 : ∀ t_, Steps p.tables e below (T25.setTop (mkF m 67 #[.val (.int sel), .val (.int len), .val (.int ps), .val (.int mt), .val (.long lc), .second, .val (.int (Int32.ofNat mk)), .val (.ref a21), .val (.ref rc), .unset, .unset, .unset, .unset, .unset, .unset, .unset, .unset, .unset, .unset] [])) t_ → Steps p.tables e below (s₁.setTop (entryFrame m #[(.int sel), (.int len), (.int ps), (.int mt), (.long lc)] maxLocals)) t_ := fun t_ k_ => s22 t_ (by
            show Steps p.tables e below (s₁.setTop (mkF m 46 #[.val (.int sel), .val (.int len), .val (.int ps), .val (.int mt), .val (.long lc), .second, .val (.int (Int32.ofNat mk)), .unset, .unset, .unset, .unset, .unset, .unset, .unset, .unset, .unset, .unset, .unset, .unset] [])) t_
            refine st21 _ ?_
            show Steps p.tables e below (T21.setTop (mkF m 48 #[.val (.int sel), .val (.int len), .val (.int ps), .val (.int mt), .val (.long lc), .second, .val (.int (Int32.ofNat mk)), .unset, .unset, .unset, .unset, .unset, .unset, .unset, .unset, .unset, .unset, .unset, .unset] [(.ref a21)])) _
            refine XS.astore X21.here hx rfl (Jvm.hb hby at_48) rfl rfl (l' := #[.val (.int sel), .val (.int len), .val (.int ps), .val (.int mt), .val (.long lc), .second, .val (.int (Int32.ofNat mk)), .val (.ref a21), .unset, .unset, .unset, .unset, .unset, .unset, .unset, .unset, .unset, .unset, .unset]) rfl ?_
            refine st25 _ ?_
            show Steps p.tables e below (T25.setTop (mkF m 53 #[.val (.int sel), .val (.int len), .val (.int ps), .val (.int mt), .val (.long lc), .second, .val (.int (Int32.ofNat mk)), .val (.ref a21), .unset, .unset, .unset, .unset, .unset, .unset, .unset, .unset, .unset, .unset, .unset] [(.ref rc)])) _
            refine XS.astore X25.here hx rfl (Jvm.hb hby at_53) rfl rfl (l' := #[.val (.int sel), .val (.int len), .val (.int ps), .val (.int mt), .val (.long lc), .second, .val (.int (Int32.ofNat mk)), .val (.ref a21), .val (.ref rc), .unset, .unset, .unset, .unset, .unset, .unset, .unset, .unset, .unset, .unset]) rfl ?_
            refine XS.goto X25.here hx rfl (pc0 := 55) (pc' := 67) rfl (Jvm.hb hby at_55) (by decide) (by decide) ?_
            show Steps p.tables e below (T25.setTop (mkF m 67 #[.val (.int sel), .val (.int len), .val (.int ps), .val (.int mt), .val (.long lc), .second, .val (.int (Int32.ofNat mk)), .val (.ref a21), .val (.ref rc), .unset, .unset, .unset, .unset, .unset, .unset, .unset, .unset, .unset, .unset] [])) t_
            exact k_)
          have hmi_ : mk = 2 := own_inj (n := 2) (by omega) (by decide) h20
          exact ⟨T21.vm, _, T25, _, _, _, X25.more (by decide) (by decide), e25, N0, ((Keep.refl h0 []).ext E21), hS, (by first | exact hk | exact Nat.le_refl _ | (rw [← e25]; exact Nat.le_refl _)), hZ, hown, Cp21, ⟨a21, b21, kk21, rc, nc, vc, kc_, rfl, Ex21, Fv21, (by rw [hmi_]; exact Fc21), (by rw [hmi_]; exact own_lit2 Av21), (I18.ext O24.2), (I19.ext O24.2), (I20.ext O24.2), (I21.ext O24.2), (by rw [hmi_]; exact (I22.ext O24.2)), (by rw [hmi_]; exact (I23.ext O24.2)), (by rw [hmi_]; rfl)⟩, s26⟩
        · have s28 : ∀ t_, Steps p.tables e below (s₁.setTop (mkF m 58 #[.val (.int sel), .val (.int len), .val (.int ps), .val (.int mt), .val (.long lc), .second, .val (.int (Int32.ofNat mk)), .unset, .unset, .unset, .unset, .unset, .unset, .unset, .unset, .unset, .unset, .unset, .unset] [])) t_ → Steps p.tables e below (s₁.setTop (entryFrame m #[(.int sel), (.int len), (.int ps), (.int mt), (.long lc)] maxLocals)) t_ := fun t_ k_ => s19 t_ (by
            show Steps p.tables e below (s₁.setTop (mkF m 43 #[.val (.int sel), .val (.int len), .val (.int ps), .val (.int mt), .val (.long lc), .second, .val (.int (Int32.ofNat mk)), .unset, .unset, .unset, .unset, .unset, .unset, .unset, .unset, .unset, .unset, .unset, .unset] [(.int (2 : Int32)), (.int (Int32.ofNat mk))])) t_
            refine XS.icmpYes X0.here hx rfl (pc0 := 43) (pc' := 58) rfl (Jvm.hb hby at_43) rfl (feq h20).2 (by decide) (by decide) ?_
            show Steps p.tables e below (s₁.setTop (mkF m 58 #[.val (.int sel), .val (.int len), .val (.int ps), .val (.int mt), .val (.long lc), .second, .val (.int (Int32.ofNat mk)), .unset, .unset, .unset, .unset, .unset, .unset, .unset, .unset, .unset, .unset, .unset, .unset] [])) _
            show Steps p.tables e below (s₁.setTop (mkF m 58 #[.val (.int sel), .val (.int len), .val (.int ps), .val (.int mt), .val (.long lc), .second, .val (.int (Int32.ofNat mk)), .unset, .unset, .unset, .unset, .unset, .unset, .unset, .unset, .unset, .unset, .unset, .unset] [])) t_
            exact k_)
          obtain ⟨a27, T27, h27, k27, b27, kk27, X27, e27, E27, hS, hk, hZ, hown, Ex27, Fc27, Fv27, Av27, la27, lb27, Cp27, Li27, Sa27, st27⟩ := ldcCH X0 hx hZ hown (hw _ (List.mem_of_getElem? (i := 59) rfl)) wS e0 hS hk hEL (List.mem_of_getElem? (i := 3) rfl) CR.1 (vs := [(.int (102 : Int32)), (.int (97 : Int32)), (.int (105 : Int32)), (.int (108 : Int32)), (.int (101 : Int32)), (.int (100 : Int32))]) (z := (6 : Int32)) ⟨by decide, by decide⟩ (by decide) rfl (g := (mkF m 58 #[.val (.int sel), .val (.int len), .val (.int ps), .val (.int mt), .val (.long lc), .second, .val (.int (Int32.ofNat mk)), .unset, .unset, .unset, .unset, .unset, .unset, .unset, .unset, .unset, .unset, .unset, .unset] [])) rfl (Jvm.hb hby at_58) (n := 24) (by decide) (by decide) (by decide) (by decide)
          have z29 : h0.size ≤ h27.size := E27.1
          have CR := CR.trans Cp27
          have la27 : @LT.lt Nat _ a27 h27.size := la27
          have lb27 : @LT.lt Nat _ b27 h27.size := lb27
          have O30 : Old Z n0 h27 := (OX.ext E27)
          obtain ⟨T31, X31, e31, st31⟩ := getS2 X27 hx hZ hown (host := "") (Or.inl (hw _ (List.mem_of_getElem? (i := 93) rfl))) Via.refl e27 (I33.ext O30.2) (g := (mkF m 62 #[.val (.int sel), .val (.int len), .val (.int ps), .val (.int mt), .val (.long lc), .second, .val (.int (Int32.ofNat mk)), .val (.ref a27), .unset, .unset, .unset, .unset, .unset, .unset, .unset, .unset, .unset, .unset, .unset] [])) rfl (Jvm.hb hby at_62)
          have s32 : ∀ t_, Steps p.tables e below (T31.setTop (mkF m 67 #[.val (.int sel), .val (.int len), .val (.int ps), .val (.int mt), .val (.long lc), .second, .val (.int (Int32.ofNat mk)), .val (.ref a27), .val (.ref rd), .unset, .unset, .unset, .unset, .unset, .unset, .unset, .unset, .unset, .unset] [])) t_ → Steps p.tables e below (s₁.setTop (entryFrame m #[(.int sel), (.int len), (.int ps), (.int mt), (.long lc)] maxLocals)) t_ := fun t_ k_ => s28 t_ (by
            show Steps p.tables e below (s₁.setTop (mkF m 58 #[.val (.int sel), .val (.int len), .val (.int ps), .val (.int mt), .val (.long lc), .second, .val (.int (Int32.ofNat mk)), .unset, .unset, .unset, .unset, .unset, .unset, .unset, .unset, .unset, .unset, .unset, .unset] [])) t_
            refine st27 _ ?_
            show Steps p.tables e below (T27.setTop (mkF m 60 #[.val (.int sel), .val (.int len), .val (.int ps), .val (.int mt), .val (.long lc), .second, .val (.int (Int32.ofNat mk)), .unset, .unset, .unset, .unset, .unset, .unset, .unset, .unset, .unset, .unset, .unset, .unset] [(.ref a27)])) _
            refine XS.astore X27.here hx rfl (Jvm.hb hby at_60) rfl rfl (l' := #[.val (.int sel), .val (.int len), .val (.int ps), .val (.int mt), .val (.long lc), .second, .val (.int (Int32.ofNat mk)), .val (.ref a27), .unset, .unset, .unset, .unset, .unset, .unset, .unset, .unset, .unset, .unset, .unset]) rfl ?_
            refine st31 _ ?_
            show Steps p.tables e below (T31.setTop (mkF m 65 #[.val (.int sel), .val (.int len), .val (.int ps), .val (.int mt), .val (.long lc), .second, .val (.int (Int32.ofNat mk)), .val (.ref a27), .unset, .unset, .unset, .unset, .unset, .unset, .unset, .unset, .unset, .unset, .unset] [(.ref rd)])) _
            refine XS.astore X31.here hx rfl (Jvm.hb hby at_65) rfl rfl (l' := #[.val (.int sel), .val (.int len), .val (.int ps), .val (.int mt), .val (.long lc), .second, .val (.int (Int32.ofNat mk)), .val (.ref a27), .val (.ref rd), .unset, .unset, .unset, .unset, .unset, .unset, .unset, .unset, .unset, .unset]) rfl ?_
            show Steps p.tables e below (T31.setTop (mkF m 67 #[.val (.int sel), .val (.int len), .val (.int ps), .val (.int mt), .val (.long lc), .second, .val (.int (Int32.ofNat mk)), .val (.ref a27), .val (.ref rd), .unset, .unset, .unset, .unset, .unset, .unset, .unset, .unset, .unset, .unset] [])) t_
            exact k_)
          have hmi_ : mk = 3 := own_is3 hmkl h4 h12 h20
          exact ⟨T27.vm, _, T31, _, _, _, X31.more (by decide) (by decide), e31, N0, ((Keep.refl h0 []).ext E27), hS, (by first | exact hk | exact Nat.le_refl _ | (rw [← e31]; exact Nat.le_refl _)), hZ, hown, Cp27, ⟨a27, b27, kk27, rd, nx, vd, kd, rfl, Ex27, Fv27, (by rw [hmi_]; exact Fc27), (by rw [hmi_]; exact own_lit3 Av27), (I24.ext O30.2), (I25.ext O30.2), (I26.ext O30.2), (I27.ext O30.2), (by rw [hmi_]; exact (I28.ext O30.2)), (by rw [hmi_]; exact (I29.ext O30.2)), (by rw [hmi_]; rfl)⟩, s32⟩
  obtain ⟨V33, k33, T33, lo33, h33, fe33, X33, e33, N33, K33, hS, hk, hZ, hown, Cp33, A33, st33⟩ := bk2
  have z34 : h0.size ≤ h33.size := K33.1
  have CR := CR.trans Cp33
  obtain ⟨nmA_33, bA_33, kA_33, stA_33, naA_33, bB_33, kB_33, rfl, G33_0, G33_1, G33_2, G33_3, G33_4, G33_5, G33_6, G33_7, G33_8, G33_9, J33_0⟩ := A33
  have s35 : ∀ t_, Steps p.tables e below (T33.setTop (mkF m 67 #[.val (.int sel), .val (.int len), .val (.int ps), .val (.int mt), .val (.long lc), .second, .val (.int (Int32.ofNat mk)), .val (.ref nmA_33), .val (.ref stA_33), .unset, .unset, .unset, .unset, .unset, .unset, .unset, .unset, .unset, .unset] [])) t_ → Steps p.tables e below (s₁.setTop (entryFrame m #[(.int sel), (.int len), (.int ps), (.int mt), (.long lc)] maxLocals)) t_ := st33
  have lt33_0 : @LT.lt Nat _ nmA_33 h33.size := G33_0.lt
  have lt33_3 : @LT.lt Nat _ bA_33 h33.size := G33_3.lt
  have lt33_4 : @LT.lt Nat _ stA_33 h33.size := G33_4.lt
  have lt33_6 : @LT.lt Nat _ naA_33 h33.size := G33_6.lt
  have lt33_9 : @LT.lt Nat _ bB_33 h33.size := G33_9.lt
  obtain ⟨q36, hq36⟩ : ∃ z : Int32, z = (sel &&& (4 : Int32)) := ⟨_, rfl⟩
  have s37 : ∀ t_, Steps p.tables e below (T33.setTop (mkF m 70 #[.val (.int sel), .val (.int len), .val (.int ps), .val (.int mt), .val (.long lc), .second, .val (.int (Int32.ofNat mk)), .val (.ref nmA_33), .val (.ref stA_33), .unset, .unset, .unset, .unset, .unset, .unset, .unset, .unset, .unset, .unset] [(.int q36)])) t_ → Steps p.tables e below (s₁.setTop (entryFrame m #[(.int sel), (.int len), (.int ps), (.int mt), (.long lc)] maxLocals)) t_ := fun t_ k_ => s35 t_ (by
    show Steps p.tables e below (T33.setTop (mkF m 67 #[.val (.int sel), .val (.int len), .val (.int ps), .val (.int mt), .val (.long lc), .second, .val (.int (Int32.ofNat mk)), .val (.ref nmA_33), .val (.ref stA_33), .unset, .unset, .unset, .unset, .unset, .unset, .unset, .unset, .unset, .unset] [])) t_
    refine XS.iloadN X33.here hx rfl (Jvm.hb hby at_67) rfl ?_
    refine XS.iconst X33.here hx rfl (Jvm.hb hby at_68) ?_
    show Steps p.tables e below (T33.setTop (mkF m 69 #[.val (.int sel), .val (.int len), .val (.int ps), .val (.int mt), .val (.long lc), .second, .val (.int (Int32.ofNat mk)), .val (.ref nmA_33), .val (.ref stA_33), .unset, .unset, .unset, .unset, .unset, .unset, .unset, .unset, .unset, .unset] [(.int (4 : Int32)), (.int sel)])) _
    refine XS.iand X33.here hx rfl (Jvm.hb hby at_69) rfl ?_
    show Steps p.tables e below (T33.setTop (mkF m 70 #[.val (.int sel), .val (.int len), .val (.int ps), .val (.int mt), .val (.long lc), .second, .val (.int (Int32.ofNat mk)), .val (.ref nmA_33), .val (.ref stA_33), .unset, .unset, .unset, .unset, .unset, .unset, .unset, .unset, .unset, .unset] [(.int (sel &&& (4 : Int32)))])) t_
    exact castTop (by simp only [hq36]) k_)
  obtain ⟨q38, hq38⟩ : ∃ z : Int32, z = (if q36 = (0 : Int32) then (0 : Int32) else (1 : Int32)) := ⟨_, rfl⟩
  obtain ⟨T39, X39, e39, s39⟩ := seg X33 (fun T' => T'.heap = h33 ∧ ∀ t_, Steps p.tables e below (T'.setTop (mkF m 78 #[.val (.int sel), .val (.int len), .val (.int ps), .val (.int mt), .val (.long lc), .second, .val (.int (Int32.ofNat mk)), .val (.ref nmA_33), .val (.ref stA_33), .unset, .unset, .unset, .unset, .unset, .unset, .unset, .unset, .unset, .unset] [(.int q38)])) t_ → Steps p.tables e below (s₁.setTop (entryFrame m #[(.int sel), (.int len), (.int ps), (.int mt), (.long lc)] maxLocals)) t_) (by
    by_cases h40 : q36 = (0 : Int32)
    · have s41 : ∀ t_, Steps p.tables e below (T33.setTop (mkF m 78 #[.val (.int sel), .val (.int len), .val (.int ps), .val (.int mt), .val (.long lc), .second, .val (.int (Int32.ofNat mk)), .val (.ref nmA_33), .val (.ref stA_33), .unset, .unset, .unset, .unset, .unset, .unset, .unset, .unset, .unset, .unset] [(.int (0 : Int32))])) t_ → Steps p.tables e below (s₁.setTop (entryFrame m #[(.int sel), (.int len), (.int ps), (.int mt), (.long lc)] maxLocals)) t_ := fun t_ k_ => s37 t_ (by
        show Steps p.tables e below (T33.setTop (mkF m 70 #[.val (.int sel), .val (.int len), .val (.int ps), .val (.int mt), .val (.long lc), .second, .val (.int (Int32.ofNat mk)), .val (.ref nmA_33), .val (.ref stA_33), .unset, .unset, .unset, .unset, .unset, .unset, .unset, .unset, .unset, .unset] [(.int q36)])) t_
        refine XS.ifYes X33.here hx rfl (pc0 := 70) (pc' := 77) rfl (Jvm.hb hby at_70) rfl ((if0 _ _).trans (teq h40).1) (by decide) (by decide) ?_
        show Steps p.tables e below (T33.setTop (mkF m 77 #[.val (.int sel), .val (.int len), .val (.int ps), .val (.int mt), .val (.long lc), .second, .val (.int (Int32.ofNat mk)), .val (.ref nmA_33), .val (.ref stA_33), .unset, .unset, .unset, .unset, .unset, .unset, .unset, .unset, .unset, .unset] [])) _
        refine XS.iconst X33.here hx rfl (Jvm.hb hby at_77) ?_
        show Steps p.tables e below (T33.setTop (mkF m 78 #[.val (.int sel), .val (.int len), .val (.int ps), .val (.int mt), .val (.long lc), .second, .val (.int (Int32.ofNat mk)), .val (.ref nmA_33), .val (.ref stA_33), .unset, .unset, .unset, .unset, .unset, .unset, .unset, .unset, .unset, .unset] [(.int (0 : Int32))])) t_
        exact k_)
      exact ⟨T33, X33, e33, fun t_ k_ => s41 t_ (castTop (by simp only [hq38, if_pos h40]) k_)⟩
    · have s42 : ∀ t_, Steps p.tables e below (T33.setTop (mkF m 78 #[.val (.int sel), .val (.int len), .val (.int ps), .val (.int mt), .val (.long lc), .second, .val (.int (Int32.ofNat mk)), .val (.ref nmA_33), .val (.ref stA_33), .unset, .unset, .unset, .unset, .unset, .unset, .unset, .unset, .unset, .unset] [(.int (1 : Int32))])) t_ → Steps p.tables e below (s₁.setTop (entryFrame m #[(.int sel), (.int len), (.int ps), (.int mt), (.long lc)] maxLocals)) t_ := fun t_ k_ => s37 t_ (by
        show Steps p.tables e below (T33.setTop (mkF m 70 #[.val (.int sel), .val (.int len), .val (.int ps), .val (.int mt), .val (.long lc), .second, .val (.int (Int32.ofNat mk)), .val (.ref nmA_33), .val (.ref stA_33), .unset, .unset, .unset, .unset, .unset, .unset, .unset, .unset, .unset, .unset] [(.int q36)])) t_
        refine XS.ifNo X33.here hx rfl (Jvm.hb hby at_70) rfl ((if0 _ _).trans (feq h40).1) ?_
        show Steps p.tables e below (T33.setTop (mkF m 73 #[.val (.int sel), .val (.int len), .val (.int ps), .val (.int mt), .val (.long lc), .second, .val (.int (Int32.ofNat mk)), .val (.ref nmA_33), .val (.ref stA_33), .unset, .unset, .unset, .unset, .unset, .unset, .unset, .unset, .unset, .unset] [])) _
        refine XS.iconst X33.here hx rfl (Jvm.hb hby at_73) ?_
        refine XS.goto X33.here hx rfl (pc0 := 74) (pc' := 78) rfl (Jvm.hb hby at_74) (by decide) (by decide) ?_
        show Steps p.tables e below (T33.setTop (mkF m 78 #[.val (.int sel), .val (.int len), .val (.int ps), .val (.int mt), .val (.long lc), .second, .val (.int (Int32.ofNat mk)), .val (.ref nmA_33), .val (.ref stA_33), .unset, .unset, .unset, .unset, .unset, .unset, .unset, .unset, .unset, .unset] [(.int (1 : Int32))])) t_
        exact k_)
      exact ⟨T33, X33, e33, fun t_ k_ => s42 t_ (castTop (by simp only [hq38, if_neg h40]) k_)⟩)
  obtain ⟨q43, hq43⟩ : ∃ z : Int32, z = (sel &&& (8 : Int32)) := ⟨_, rfl⟩
  have s44 : ∀ t_, Steps p.tables e below (T39.setTop (mkF m 84 #[.val (.int sel), .val (.int len), .val (.int ps), .val (.int mt), .val (.long lc), .second, .val (.int (Int32.ofNat mk)), .val (.ref nmA_33), .val (.ref stA_33), .val (.int q38), .unset, .unset, .unset, .unset, .unset, .unset, .unset, .unset, .unset] [(.int q43)])) t_ → Steps p.tables e below (s₁.setTop (entryFrame m #[(.int sel), (.int len), (.int ps), (.int mt), (.long lc)] maxLocals)) t_ := fun t_ k_ => s39 t_ (by
    show Steps p.tables e below (T39.setTop (mkF m 78 #[.val (.int sel), .val (.int len), .val (.int ps), .val (.int mt), .val (.long lc), .second, .val (.int (Int32.ofNat mk)), .val (.ref nmA_33), .val (.ref stA_33), .unset, .unset, .unset, .unset, .unset, .unset, .unset, .unset, .unset, .unset] [(.int q38)])) t_
    refine XS.istore X39.here hx rfl (Jvm.hb hby at_78) rfl (l' := #[.val (.int sel), .val (.int len), .val (.int ps), .val (.int mt), .val (.long lc), .second, .val (.int (Int32.ofNat mk)), .val (.ref nmA_33), .val (.ref stA_33), .val (.int q38), .unset, .unset, .unset, .unset, .unset, .unset, .unset, .unset, .unset]) rfl ?_
    refine XS.iloadN X39.here hx rfl (Jvm.hb hby at_80) rfl ?_
    refine XS.bipush X39.here hx rfl (Jvm.hb hby at_81) ?_
    refine XS.iand X39.here hx rfl (Jvm.hb hby at_83) rfl ?_
    show Steps p.tables e below (T39.setTop (mkF m 84 #[.val (.int sel), .val (.int len), .val (.int ps), .val (.int mt), .val (.long lc), .second, .val (.int (Int32.ofNat mk)), .val (.ref nmA_33), .val (.ref stA_33), .val (.int q38), .unset, .unset, .unset, .unset, .unset, .unset, .unset, .unset, .unset] [(.int (sel &&& (8 : Int32)))])) t_
    exact castTop (by simp only [hq43]) k_)
  obtain ⟨q45, hq45⟩ : ∃ z : Int32, z = (if q43 = (0 : Int32) then (0 : Int32) else (1 : Int32)) := ⟨_, rfl⟩
  obtain ⟨T46, X46, e46, s46⟩ := seg X39 (fun T' => T'.heap = h33 ∧ ∀ t_, Steps p.tables e below (T'.setTop (mkF m 92 #[.val (.int sel), .val (.int len), .val (.int ps), .val (.int mt), .val (.long lc), .second, .val (.int (Int32.ofNat mk)), .val (.ref nmA_33), .val (.ref stA_33), .val (.int q38), .unset, .unset, .unset, .unset, .unset, .unset, .unset, .unset, .unset] [(.int q45)])) t_ → Steps p.tables e below (s₁.setTop (entryFrame m #[(.int sel), (.int len), (.int ps), (.int mt), (.long lc)] maxLocals)) t_) (by
    by_cases h47 : q43 = (0 : Int32)
    · have s48 : ∀ t_, Steps p.tables e below (T39.setTop (mkF m 92 #[.val (.int sel), .val (.int len), .val (.int ps), .val (.int mt), .val (.long lc), .second, .val (.int (Int32.ofNat mk)), .val (.ref nmA_33), .val (.ref stA_33), .val (.int q38), .unset, .unset, .unset, .unset, .unset, .unset, .unset, .unset, .unset] [(.int (0 : Int32))])) t_ → Steps p.tables e below (s₁.setTop (entryFrame m #[(.int sel), (.int len), (.int ps), (.int mt), (.long lc)] maxLocals)) t_ := fun t_ k_ => s44 t_ (by
        show Steps p.tables e below (T39.setTop (mkF m 84 #[.val (.int sel), .val (.int len), .val (.int ps), .val (.int mt), .val (.long lc), .second, .val (.int (Int32.ofNat mk)), .val (.ref nmA_33), .val (.ref stA_33), .val (.int q38), .unset, .unset, .unset, .unset, .unset, .unset, .unset, .unset, .unset] [(.int q43)])) t_
        refine XS.ifYes X39.here hx rfl (pc0 := 84) (pc' := 91) rfl (Jvm.hb hby at_84) rfl ((if0 _ _).trans (teq h47).1) (by decide) (by decide) ?_
        show Steps p.tables e below (T39.setTop (mkF m 91 #[.val (.int sel), .val (.int len), .val (.int ps), .val (.int mt), .val (.long lc), .second, .val (.int (Int32.ofNat mk)), .val (.ref nmA_33), .val (.ref stA_33), .val (.int q38), .unset, .unset, .unset, .unset, .unset, .unset, .unset, .unset, .unset] [])) _
        refine XS.iconst X39.here hx rfl (Jvm.hb hby at_91) ?_
        show Steps p.tables e below (T39.setTop (mkF m 92 #[.val (.int sel), .val (.int len), .val (.int ps), .val (.int mt), .val (.long lc), .second, .val (.int (Int32.ofNat mk)), .val (.ref nmA_33), .val (.ref stA_33), .val (.int q38), .unset, .unset, .unset, .unset, .unset, .unset, .unset, .unset, .unset] [(.int (0 : Int32))])) t_
        exact k_)
      exact ⟨T39, X39, e39, fun t_ k_ => s48 t_ (castTop (by simp only [hq45, if_pos h47]) k_)⟩
    · have s49 : ∀ t_, Steps p.tables e below (T39.setTop (mkF m 92 #[.val (.int sel), .val (.int len), .val (.int ps), .val (.int mt), .val (.long lc), .second, .val (.int (Int32.ofNat mk)), .val (.ref nmA_33), .val (.ref stA_33), .val (.int q38), .unset, .unset, .unset, .unset, .unset, .unset, .unset, .unset, .unset] [(.int (1 : Int32))])) t_ → Steps p.tables e below (s₁.setTop (entryFrame m #[(.int sel), (.int len), (.int ps), (.int mt), (.long lc)] maxLocals)) t_ := fun t_ k_ => s44 t_ (by
        show Steps p.tables e below (T39.setTop (mkF m 84 #[.val (.int sel), .val (.int len), .val (.int ps), .val (.int mt), .val (.long lc), .second, .val (.int (Int32.ofNat mk)), .val (.ref nmA_33), .val (.ref stA_33), .val (.int q38), .unset, .unset, .unset, .unset, .unset, .unset, .unset, .unset, .unset] [(.int q43)])) t_
        refine XS.ifNo X39.here hx rfl (Jvm.hb hby at_84) rfl ((if0 _ _).trans (feq h47).1) ?_
        show Steps p.tables e below (T39.setTop (mkF m 87 #[.val (.int sel), .val (.int len), .val (.int ps), .val (.int mt), .val (.long lc), .second, .val (.int (Int32.ofNat mk)), .val (.ref nmA_33), .val (.ref stA_33), .val (.int q38), .unset, .unset, .unset, .unset, .unset, .unset, .unset, .unset, .unset] [])) _
        refine XS.iconst X39.here hx rfl (Jvm.hb hby at_87) ?_
        refine XS.goto X39.here hx rfl (pc0 := 88) (pc' := 92) rfl (Jvm.hb hby at_88) (by decide) (by decide) ?_
        show Steps p.tables e below (T39.setTop (mkF m 92 #[.val (.int sel), .val (.int len), .val (.int ps), .val (.int mt), .val (.long lc), .second, .val (.int (Int32.ofNat mk)), .val (.ref nmA_33), .val (.ref stA_33), .val (.int q38), .unset, .unset, .unset, .unset, .unset, .unset, .unset, .unset, .unset] [(.int (1 : Int32))])) t_
        exact k_)
      exact ⟨T39, X39, e39, fun t_ k_ => s49 t_ (castTop (by simp only [hq45, if_neg h47]) k_)⟩)
  obtain ⟨q50, hq50⟩ : ∃ z : Int32, z = (sel &&& (240 : Int32)) := ⟨_, rfl⟩
  have s51 : ∀ t_, Steps p.tables e below (T46.setTop (mkF m 102 #[.val (.int sel), .val (.int len), .val (.int ps), .val (.int mt), .val (.long lc), .second, .val (.int (Int32.ofNat mk)), .val (.ref nmA_33), .val (.ref stA_33), .val (.int q38), .val (.int q45), .unset, .unset, .unset, .unset, .unset, .unset, .unset, .unset] [(.int (240 : Int32)), (.int q50)])) t_ → Steps p.tables e below (s₁.setTop (entryFrame m #[(.int sel), (.int len), (.int ps), (.int mt), (.long lc)] maxLocals)) t_ := fun t_ k_ => s46 t_ (by
    show Steps p.tables e below (T46.setTop (mkF m 92 #[.val (.int sel), .val (.int len), .val (.int ps), .val (.int mt), .val (.long lc), .second, .val (.int (Int32.ofNat mk)), .val (.ref nmA_33), .val (.ref stA_33), .val (.int q38), .unset, .unset, .unset, .unset, .unset, .unset, .unset, .unset, .unset] [(.int q45)])) t_
    refine XS.istore X46.here hx rfl (Jvm.hb hby at_92) rfl (l' := #[.val (.int sel), .val (.int len), .val (.int ps), .val (.int mt), .val (.long lc), .second, .val (.int (Int32.ofNat mk)), .val (.ref nmA_33), .val (.ref stA_33), .val (.int q38), .val (.int q45), .unset, .unset, .unset, .unset, .unset, .unset, .unset, .unset]) rfl ?_
    show Steps p.tables e below (T46.setTop (mkF m 94 #[.val (.int sel), .val (.int len), .val (.int ps), .val (.int mt), .val (.long lc), .second, .val (.int (Int32.ofNat mk)), .val (.ref nmA_33), .val (.ref stA_33), .val (.int q38), .val (.int q45), .unset, .unset, .unset, .unset, .unset, .unset, .unset, .unset] [])) _
    refine XS.iloadN X46.here hx rfl (Jvm.hb hby at_94) rfl ?_
    refine XS.sipush X46.here hx rfl (Jvm.hb hby at_95) ?_
    refine XS.iand X46.here hx rfl (Jvm.hb hby at_98) rfl ?_
    refine XS.sipush X46.here hx rfl (Jvm.hb hby at_99) ?_
    show Steps p.tables e below (T46.setTop (mkF m 102 #[.val (.int sel), .val (.int len), .val (.int ps), .val (.int mt), .val (.long lc), .second, .val (.int (Int32.ofNat mk)), .val (.ref nmA_33), .val (.ref stA_33), .val (.int q38), .val (.int q45), .unset, .unset, .unset, .unset, .unset, .unset, .unset, .unset] [(.int (240 : Int32)), (.int (sel &&& (240 : Int32)))])) t_
    exact castTop (by simp only [hq50]) k_)
  obtain ⟨q52, hq52⟩ : ∃ z : Int32, z = (if q50 = (240 : Int32) then (1 : Int32) else (0 : Int32)) := ⟨_, rfl⟩
  obtain ⟨T53, X53, e53, s53⟩ := seg X46 (fun T' => T'.heap = h33 ∧ ∀ t_, Steps p.tables e below (T'.setTop (mkF m 110 #[.val (.int sel), .val (.int len), .val (.int ps), .val (.int mt), .val (.long lc), .second, .val (.int (Int32.ofNat mk)), .val (.ref nmA_33), .val (.ref stA_33), .val (.int q38), .val (.int q45), .unset, .unset, .unset, .unset, .unset, .unset, .unset, .unset] [(.int q52)])) t_ → Steps p.tables e below (s₁.setTop (entryFrame m #[(.int sel), (.int len), (.int ps), (.int mt), (.long lc)] maxLocals)) t_) (by
    by_cases h54 : q50 = (240 : Int32)
    · have s55 : ∀ t_, Steps p.tables e below (T46.setTop (mkF m 110 #[.val (.int sel), .val (.int len), .val (.int ps), .val (.int mt), .val (.long lc), .second, .val (.int (Int32.ofNat mk)), .val (.ref nmA_33), .val (.ref stA_33), .val (.int q38), .val (.int q45), .unset, .unset, .unset, .unset, .unset, .unset, .unset, .unset] [(.int (1 : Int32))])) t_ → Steps p.tables e below (s₁.setTop (entryFrame m #[(.int sel), (.int len), (.int ps), (.int mt), (.long lc)] maxLocals)) t_ := fun t_ k_ => s51 t_ (by
        show Steps p.tables e below (T46.setTop (mkF m 102 #[.val (.int sel), .val (.int len), .val (.int ps), .val (.int mt), .val (.long lc), .second, .val (.int (Int32.ofNat mk)), .val (.ref nmA_33), .val (.ref stA_33), .val (.int q38), .val (.int q45), .unset, .unset, .unset, .unset, .unset, .unset, .unset, .unset] [(.int (240 : Int32)), (.int q50)])) t_
        refine XS.icmpNo X46.here hx rfl (Jvm.hb hby at_102) rfl (teq h54).2 ?_
        show Steps p.tables e below (T46.setTop (mkF m 105 #[.val (.int sel), .val (.int len), .val (.int ps), .val (.int mt), .val (.long lc), .second, .val (.int (Int32.ofNat mk)), .val (.ref nmA_33), .val (.ref stA_33), .val (.int q38), .val (.int q45), .unset, .unset, .unset, .unset, .unset, .unset, .unset, .unset] [])) _
        refine XS.iconst X46.here hx rfl (Jvm.hb hby at_105) ?_
        refine XS.goto X46.here hx rfl (pc0 := 106) (pc' := 110) rfl (Jvm.hb hby at_106) (by decide) (by decide) ?_
        show Steps p.tables e below (T46.setTop (mkF m 110 #[.val (.int sel), .val (.int len), .val (.int ps), .val (.int mt), .val (.long lc), .second, .val (.int (Int32.ofNat mk)), .val (.ref nmA_33), .val (.ref stA_33), .val (.int q38), .val (.int q45), .unset, .unset, .unset, .unset, .unset, .unset, .unset, .unset] [(.int (1 : Int32))])) t_
        exact k_)
      exact ⟨T46, X46, e46, fun t_ k_ => s55 t_ (castTop (by simp only [hq52, if_pos h54]) k_)⟩
    · have s56 : ∀ t_, Steps p.tables e below (T46.setTop (mkF m 110 #[.val (.int sel), .val (.int len), .val (.int ps), .val (.int mt), .val (.long lc), .second, .val (.int (Int32.ofNat mk)), .val (.ref nmA_33), .val (.ref stA_33), .val (.int q38), .val (.int q45), .unset, .unset, .unset, .unset, .unset, .unset, .unset, .unset] [(.int (0 : Int32))])) t_ → Steps p.tables e below (s₁.setTop (entryFrame m #[(.int sel), (.int len), (.int ps), (.int mt), (.long lc)] maxLocals)) t_ := fun t_ k_ => s51 t_ (by
        show Steps p.tables e below (T46.setTop (mkF m 102 #[.val (.int sel), .val (.int len), .val (.int ps), .val (.int mt), .val (.long lc), .second, .val (.int (Int32.ofNat mk)), .val (.ref nmA_33), .val (.ref stA_33), .val (.int q38), .val (.int q45), .unset, .unset, .unset, .unset, .unset, .unset, .unset, .unset] [(.int (240 : Int32)), (.int q50)])) t_
        refine XS.icmpYes X46.here hx rfl (pc0 := 102) (pc' := 109) rfl (Jvm.hb hby at_102) rfl (feq h54).2 (by decide) (by decide) ?_
        show Steps p.tables e below (T46.setTop (mkF m 109 #[.val (.int sel), .val (.int len), .val (.int ps), .val (.int mt), .val (.long lc), .second, .val (.int (Int32.ofNat mk)), .val (.ref nmA_33), .val (.ref stA_33), .val (.int q38), .val (.int q45), .unset, .unset, .unset, .unset, .unset, .unset, .unset, .unset] [])) _
        refine XS.iconst X46.here hx rfl (Jvm.hb hby at_109) ?_
        show Steps p.tables e below (T46.setTop (mkF m 110 #[.val (.int sel), .val (.int len), .val (.int ps), .val (.int mt), .val (.long lc), .second, .val (.int (Int32.ofNat mk)), .val (.ref nmA_33), .val (.ref stA_33), .val (.int q38), .val (.int q45), .unset, .unset, .unset, .unset, .unset, .unset, .unset, .unset] [(.int (0 : Int32))])) t_
        exact k_)
      exact ⟨T46, X46, e46, fun t_ k_ => s56 t_ (castTop (by simp only [hq52, if_neg h54]) k_)⟩)
  obtain ⟨q57, hq57⟩ : ∃ z : Int32, z = (sel &&& (256 : Int32)) := ⟨_, rfl⟩
  have s58 : ∀ t_, Steps p.tables e below (T53.setTop (mkF m 117 #[.val (.int sel), .val (.int len), .val (.int ps), .val (.int mt), .val (.long lc), .second, .val (.int (Int32.ofNat mk)), .val (.ref nmA_33), .val (.ref stA_33), .val (.int q38), .val (.int q45), .val (.int q52), .unset, .unset, .unset, .unset, .unset, .unset, .unset] [(.int q57)])) t_ → Steps p.tables e below (s₁.setTop (entryFrame m #[(.int sel), (.int len), (.int ps), (.int mt), (.long lc)] maxLocals)) t_ := fun t_ k_ => s53 t_ (by
    show Steps p.tables e below (T53.setTop (mkF m 110 #[.val (.int sel), .val (.int len), .val (.int ps), .val (.int mt), .val (.long lc), .second, .val (.int (Int32.ofNat mk)), .val (.ref nmA_33), .val (.ref stA_33), .val (.int q38), .val (.int q45), .unset, .unset, .unset, .unset, .unset, .unset, .unset, .unset] [(.int q52)])) t_
    refine XS.istore X53.here hx rfl (Jvm.hb hby at_110) rfl (l' := #[.val (.int sel), .val (.int len), .val (.int ps), .val (.int mt), .val (.long lc), .second, .val (.int (Int32.ofNat mk)), .val (.ref nmA_33), .val (.ref stA_33), .val (.int q38), .val (.int q45), .val (.int q52), .unset, .unset, .unset, .unset, .unset, .unset, .unset]) rfl ?_
    refine XS.iloadN X53.here hx rfl (Jvm.hb hby at_112) rfl ?_
    show Steps p.tables e below (T53.setTop (mkF m 113 #[.val (.int sel), .val (.int len), .val (.int ps), .val (.int mt), .val (.long lc), .second, .val (.int (Int32.ofNat mk)), .val (.ref nmA_33), .val (.ref stA_33), .val (.int q38), .val (.int q45), .val (.int q52), .unset, .unset, .unset, .unset, .unset, .unset, .unset] [(.int sel)])) _
    refine XS.sipush X53.here hx rfl (Jvm.hb hby at_113) ?_
    refine XS.iand X53.here hx rfl (Jvm.hb hby at_116) rfl ?_
    show Steps p.tables e below (T53.setTop (mkF m 117 #[.val (.int sel), .val (.int len), .val (.int ps), .val (.int mt), .val (.long lc), .second, .val (.int (Int32.ofNat mk)), .val (.ref nmA_33), .val (.ref stA_33), .val (.int q38), .val (.int q45), .val (.int q52), .unset, .unset, .unset, .unset, .unset, .unset, .unset] [(.int (sel &&& (256 : Int32)))])) t_
    exact castTop (by simp only [hq57]) k_)
  obtain ⟨q59, hq59⟩ : ∃ z : Int32, z = (if q57 = (0 : Int32) then (0 : Int32) else (1 : Int32)) := ⟨_, rfl⟩
  obtain ⟨T60, X60, e60, s60⟩ := seg X53 (fun T' => T'.heap = h33 ∧ ∀ t_, Steps p.tables e below (T'.setTop (mkF m 125 #[.val (.int sel), .val (.int len), .val (.int ps), .val (.int mt), .val (.long lc), .second, .val (.int (Int32.ofNat mk)), .val (.ref nmA_33), .val (.ref stA_33), .val (.int q38), .val (.int q45), .val (.int q52), .unset, .unset, .unset, .unset, .unset, .unset, .unset] [(.int q59)])) t_ → Steps p.tables e below (s₁.setTop (entryFrame m #[(.int sel), (.int len), (.int ps), (.int mt), (.long lc)] maxLocals)) t_) (by
    by_cases h61 : q57 = (0 : Int32)
    · have s62 : ∀ t_, Steps p.tables e below (T53.setTop (mkF m 125 #[.val (.int sel), .val (.int len), .val (.int ps), .val (.int mt), .val (.long lc), .second, .val (.int (Int32.ofNat mk)), .val (.ref nmA_33), .val (.ref stA_33), .val (.int q38), .val (.int q45), .val (.int q52), .unset, .unset, .unset, .unset, .unset, .unset, .unset] [(.int (0 : Int32))])) t_ → Steps p.tables e below (s₁.setTop (entryFrame m #[(.int sel), (.int len), (.int ps), (.int mt), (.long lc)] maxLocals)) t_ := fun t_ k_ => s58 t_ (by
        show Steps p.tables e below (T53.setTop (mkF m 117 #[.val (.int sel), .val (.int len), .val (.int ps), .val (.int mt), .val (.long lc), .second, .val (.int (Int32.ofNat mk)), .val (.ref nmA_33), .val (.ref stA_33), .val (.int q38), .val (.int q45), .val (.int q52), .unset, .unset, .unset, .unset, .unset, .unset, .unset] [(.int q57)])) t_
        refine XS.ifYes X53.here hx rfl (pc0 := 117) (pc' := 124) rfl (Jvm.hb hby at_117) rfl ((if0 _ _).trans (teq h61).1) (by decide) (by decide) ?_
        show Steps p.tables e below (T53.setTop (mkF m 124 #[.val (.int sel), .val (.int len), .val (.int ps), .val (.int mt), .val (.long lc), .second, .val (.int (Int32.ofNat mk)), .val (.ref nmA_33), .val (.ref stA_33), .val (.int q38), .val (.int q45), .val (.int q52), .unset, .unset, .unset, .unset, .unset, .unset, .unset] [])) _
        refine XS.iconst X53.here hx rfl (Jvm.hb hby at_124) ?_
        show Steps p.tables e below (T53.setTop (mkF m 125 #[.val (.int sel), .val (.int len), .val (.int ps), .val (.int mt), .val (.long lc), .second, .val (.int (Int32.ofNat mk)), .val (.ref nmA_33), .val (.ref stA_33), .val (.int q38), .val (.int q45), .val (.int q52), .unset, .unset, .unset, .unset, .unset, .unset, .unset] [(.int (0 : Int32))])) t_
        exact k_)
      exact ⟨T53, X53, e53, fun t_ k_ => s62 t_ (castTop (by simp only [hq59, if_pos h61]) k_)⟩
    · have s63 : ∀ t_, Steps p.tables e below (T53.setTop (mkF m 125 #[.val (.int sel), .val (.int len), .val (.int ps), .val (.int mt), .val (.long lc), .second, .val (.int (Int32.ofNat mk)), .val (.ref nmA_33), .val (.ref stA_33), .val (.int q38), .val (.int q45), .val (.int q52), .unset, .unset, .unset, .unset, .unset, .unset, .unset] [(.int (1 : Int32))])) t_ → Steps p.tables e below (s₁.setTop (entryFrame m #[(.int sel), (.int len), (.int ps), (.int mt), (.long lc)] maxLocals)) t_ := fun t_ k_ => s58 t_ (by
        show Steps p.tables e below (T53.setTop (mkF m 117 #[.val (.int sel), .val (.int len), .val (.int ps), .val (.int mt), .val (.long lc), .second, .val (.int (Int32.ofNat mk)), .val (.ref nmA_33), .val (.ref stA_33), .val (.int q38), .val (.int q45), .val (.int q52), .unset, .unset, .unset, .unset, .unset, .unset, .unset] [(.int q57)])) t_
        refine XS.ifNo X53.here hx rfl (Jvm.hb hby at_117) rfl ((if0 _ _).trans (feq h61).1) ?_
        show Steps p.tables e below (T53.setTop (mkF m 120 #[.val (.int sel), .val (.int len), .val (.int ps), .val (.int mt), .val (.long lc), .second, .val (.int (Int32.ofNat mk)), .val (.ref nmA_33), .val (.ref stA_33), .val (.int q38), .val (.int q45), .val (.int q52), .unset, .unset, .unset, .unset, .unset, .unset, .unset] [])) _
        refine XS.iconst X53.here hx rfl (Jvm.hb hby at_120) ?_
        refine XS.goto X53.here hx rfl (pc0 := 121) (pc' := 125) rfl (Jvm.hb hby at_121) (by decide) (by decide) ?_
        show Steps p.tables e below (T53.setTop (mkF m 125 #[.val (.int sel), .val (.int len), .val (.int ps), .val (.int mt), .val (.long lc), .second, .val (.int (Int32.ofNat mk)), .val (.ref nmA_33), .val (.ref stA_33), .val (.int q38), .val (.int q45), .val (.int q52), .unset, .unset, .unset, .unset, .unset, .unset, .unset] [(.int (1 : Int32))])) t_
        exact k_)
      exact ⟨T53, X53, e53, fun t_ k_ => s63 t_ (castTop (by simp only [hq59, if_neg h61]) k_)⟩)
  have s64 : ∀ t_, Steps p.tables e below (T60.setTop (mkF m 127 #[.val (.int sel), .val (.int len), .val (.int ps), .val (.int mt), .val (.long lc), .second, .val (.int (Int32.ofNat mk)), .val (.ref nmA_33), .val (.ref stA_33), .val (.int q38), .val (.int q45), .val (.int q52), .val (.int q59), .unset, .unset, .unset, .unset, .unset, .unset] [])) t_ → Steps p.tables e below (s₁.setTop (entryFrame m #[(.int sel), (.int len), (.int ps), (.int mt), (.long lc)] maxLocals)) t_ := fun t_ k_ => s60 t_ (by
    show Steps p.tables e below (T60.setTop (mkF m 125 #[.val (.int sel), .val (.int len), .val (.int ps), .val (.int mt), .val (.long lc), .second, .val (.int (Int32.ofNat mk)), .val (.ref nmA_33), .val (.ref stA_33), .val (.int q38), .val (.int q45), .val (.int q52), .unset, .unset, .unset, .unset, .unset, .unset, .unset] [(.int q59)])) t_
    refine XS.istore X60.here hx rfl (Jvm.hb hby at_125) rfl (l' := #[.val (.int sel), .val (.int len), .val (.int ps), .val (.int mt), .val (.long lc), .second, .val (.int (Int32.ofNat mk)), .val (.ref nmA_33), .val (.ref stA_33), .val (.int q38), .val (.int q45), .val (.int q52), .val (.int q59), .unset, .unset, .unset, .unset, .unset, .unset]) rfl ?_
    show Steps p.tables e below (T60.setTop (mkF m 127 #[.val (.int sel), .val (.int len), .val (.int ps), .val (.int mt), .val (.long lc), .second, .val (.int (Int32.ofNat mk)), .val (.ref nmA_33), .val (.ref stA_33), .val (.int q38), .val (.int q45), .val (.int q52), .val (.int q59), .unset, .unset, .unset, .unset, .unset, .unset] [])) t_
    exact k_)
  have bk65 : ∃ (T' : State) (lo' : List Loc) (hx_ : Heap) (fe_ : JFrame), Stand p l e room_1 (s.setVm V33) m #[(.int sel), (.int len), (.int ps), (.int mt), (.long lc)] below meth c T' lo' 2 28 ∧ T'.heap = hx_ ∧ Fr n0 lo' ∧ Keep h33 hx_ [] ∧ ((∃ (nN : Nat), fe_ = (mkF m 144 #[.val (.int sel), .val (.int len), .val (.int ps), .val (.int mt), .val (.long lc), .second, .val (.int (Int32.ofNat mk)), .val (.ref nmA_33), .val (.ref stA_33), .val (.int q38), .val (.int q45), .val (.int q52), .val (.int q59), .unset, .unset, .unset, .unset, .unset, .unset] [(.int (Int32.ofNat nN))]) ∧ (nN < 8))) ∧ ∀ t_, Steps p.tables e below (T'.setTop fe_) t_ → Steps p.tables e below (s₁.setTop (entryFrame m #[(.int sel), (.int len), (.int ps), (.int mt), (.long lc)] maxLocals)) t_ := by
    have s66 : ∀ t_, Steps p.tables e below (T60.setTop (mkF m 129 #[.val (.int sel), .val (.int len), .val (.int ps), .val (.int mt), .val (.long lc), .second, .val (.int (Int32.ofNat mk)), .val (.ref nmA_33), .val (.ref stA_33), .val (.int q38), .val (.int q45), .val (.int q52), .val (.int q59), .unset, .unset, .unset, .unset, .unset, .unset] [(.int q59)])) t_ → Steps p.tables e below (s₁.setTop (entryFrame m #[(.int sel), (.int len), (.int ps), (.int mt), (.long lc)] maxLocals)) t_ := fun t_ k_ => s64 t_ (by
      show Steps p.tables e below (T60.setTop (mkF m 127 #[.val (.int sel), .val (.int len), .val (.int ps), .val (.int mt), .val (.long lc), .second, .val (.int (Int32.ofNat mk)), .val (.ref nmA_33), .val (.ref stA_33), .val (.int q38), .val (.int q45), .val (.int q52), .val (.int q59), .unset, .unset, .unset, .unset, .unset, .unset] [])) t_
      refine XS.iload X60.here hx rfl (Jvm.hb hby at_127) rfl ?_
      show Steps p.tables e below (T60.setTop (mkF m 129 #[.val (.int sel), .val (.int len), .val (.int ps), .val (.int mt), .val (.long lc), .second, .val (.int (Int32.ofNat mk)), .val (.ref nmA_33), .val (.ref stA_33), .val (.int q38), .val (.int q45), .val (.int q52), .val (.int q59), .unset, .unset, .unset, .unset, .unset, .unset] [(.int q59)])) t_
      exact k_)
    by_cases h67 : q59 = (0 : Int32)
    · have s68 : ∀ t_, Steps p.tables e below (T60.setTop (mkF m 144 #[.val (.int sel), .val (.int len), .val (.int ps), .val (.int mt), .val (.long lc), .second, .val (.int (Int32.ofNat mk)), .val (.ref nmA_33), .val (.ref stA_33), .val (.int q38), .val (.int q45), .val (.int q52), .val (.int q59), .unset, .unset, .unset, .unset, .unset, .unset] [(.int (len &&& (7 : Int32)))])) t_ → Steps p.tables e below (s₁.setTop (entryFrame m #[(.int sel), (.int len), (.int ps), (.int mt), (.long lc)] maxLocals)) t_ := fun t_ k_ => s66 t_ (by
        show Steps p.tables e below (T60.setTop (mkF m 129 #[.val (.int sel), .val (.int len), .val (.int ps), .val (.int mt), .val (.long lc), .second, .val (.int (Int32.ofNat mk)), .val (.ref nmA_33), .val (.ref stA_33), .val (.int q38), .val (.int q45), .val (.int q52), .val (.int q59), .unset, .unset, .unset, .unset, .unset, .unset] [(.int q59)])) t_
        refine XS.ifYes X60.here hx rfl (pc0 := 129) (pc' := 140) rfl (Jvm.hb hby at_129) rfl ((if0 _ _).trans (teq h67).1) (by decide) (by decide) ?_
        show Steps p.tables e below (T60.setTop (mkF m 140 #[.val (.int sel), .val (.int len), .val (.int ps), .val (.int mt), .val (.long lc), .second, .val (.int (Int32.ofNat mk)), .val (.ref nmA_33), .val (.ref stA_33), .val (.int q38), .val (.int q45), .val (.int q52), .val (.int q59), .unset, .unset, .unset, .unset, .unset, .unset] [])) _
        refine XS.iloadN X60.here hx rfl (Jvm.hb hby at_140) rfl ?_
        refine XS.bipush X60.here hx rfl (Jvm.hb hby at_141) ?_
        refine XS.iand X60.here hx rfl (Jvm.hb hby at_143) rfl ?_
        show Steps p.tables e below (T60.setTop (mkF m 144 #[.val (.int sel), .val (.int len), .val (.int ps), .val (.int mt), .val (.long lc), .second, .val (.int (Int32.ofNat mk)), .val (.ref nmA_33), .val (.ref stA_33), .val (.int q38), .val (.int q45), .val (.int q52), .val (.int q59), .unset, .unset, .unset, .unset, .unset, .unset] [(.int (len &&& (7 : Int32)))])) t_
        exact k_)
      obtain ⟨n7, hn7, hl7⟩ := own_and7 len
      exact ⟨T60, _, _, _, X60, e60, N33, (Keep.refl h33 []), ⟨n7, (by rw [hn7]), hl7⟩, s68⟩
    · have s69 : ∀ t_, Steps p.tables e below (T60.setTop (mkF m 134 #[.val (.int sel), .val (.int len), .val (.int ps), .val (.int mt), .val (.long lc), .second, .val (.int (Int32.ofNat mk)), .val (.ref nmA_33), .val (.ref stA_33), .val (.int q38), .val (.int q45), .val (.int q52), .val (.int q59), .unset, .unset, .unset, .unset, .unset, .unset] [(.ref nmA_33)])) t_ → Steps p.tables e below (s₁.setTop (entryFrame m #[(.int sel), (.int len), (.int ps), (.int mt), (.long lc)] maxLocals)) t_ := fun t_ k_ => s66 t_ (by
        show Steps p.tables e below (T60.setTop (mkF m 129 #[.val (.int sel), .val (.int len), .val (.int ps), .val (.int mt), .val (.long lc), .second, .val (.int (Int32.ofNat mk)), .val (.ref nmA_33), .val (.ref stA_33), .val (.int q38), .val (.int q45), .val (.int q52), .val (.int q59), .unset, .unset, .unset, .unset, .unset, .unset] [(.int q59)])) t_
        refine XS.ifNo X60.here hx rfl (Jvm.hb hby at_129) rfl ((if0 _ _).trans (feq h67).1) ?_
        show Steps p.tables e below (T60.setTop (mkF m 132 #[.val (.int sel), .val (.int len), .val (.int ps), .val (.int mt), .val (.long lc), .second, .val (.int (Int32.ofNat mk)), .val (.ref nmA_33), .val (.ref stA_33), .val (.int q38), .val (.int q45), .val (.int q52), .val (.int q59), .unset, .unset, .unset, .unset, .unset, .unset] [])) _
        refine XS.aload X60.here hx rfl (Jvm.hb hby at_132) rfl rfl ?_
        show Steps p.tables e below (T60.setTop (mkF m 134 #[.val (.int sel), .val (.int len), .val (.int ps), .val (.int mt), .val (.long lc), .second, .val (.int (Int32.ofNat mk)), .val (.ref nmA_33), .val (.ref stA_33), .val (.int q38), .val (.int q45), .val (.int q52), .val (.int q59), .unset, .unset, .unset, .unset, .unset, .unset] [(.ref nmA_33)])) t_
        exact k_)
      have O70 : Old Z n0 h33 := (OX.keep K33 all0)
      have Zc71 : n0 ≤ h33.size := by omega
      obtain ⟨cq72, kq72, q72a, q72b, q72c⟩ := isOf hZ e60 G33_0
      obtain ⟨_, _, ⟨T72, L72, k72, n72⟩, -, X72, ⟨Lc72, hQ72, l72, y72, z72⟩, st72⟩ := X60.virtualBack hx (y := (⟨"java/lang/String", "length", "()I"⟩ : MethodName)) (z := (⟨"java/lang/String", "length", "()I"⟩ : MethodName)) hown (mvT hZ (hw _ (List.mem_of_getElem? (i := 94) rfl))) (mvT hZ (hw _ (List.mem_of_getElem? (i := 95) rfl))) (notFace_of_selects (args := #[]) (mvT hZ (hw _ (List.mem_of_getElem? (i := 97) rfl)))) (mvT hZ (hw _ (List.mem_of_getElem? (i := 97) rfl))) (mvT hZ (hw _ (List.mem_of_getElem? (i := 96) rfl))) (by decide) (backOf (W := 0) (rmLen l Z a0 hw [] nmA_33 cst bA_33 kA_33 (own_nm mk) h33 n0 Zc71 I1 O70 (hcst : ¬ (cst = (0 : Int32))) G33_0 G33_1 G33_2 G33_3 (own_nml _)) hZ (hw _ (List.mem_of_getElem? (i := 98) rfl)) (hw _ (List.mem_of_getElem? (i := 1) rfl)) (by decide) (by decide)) q72a q72c (g := (mkF m 134 #[.val (.int sel), .val (.int len), .val (.int ps), .val (.int mt), .val (.long lc), .second, .val (.int (Int32.ofNat mk)), .val (.ref nmA_33), .val (.ref stA_33), .val (.int q38), .val (.int q45), .val (.int q52), .val (.int q59), .unset, .unset, .unset, .unset, .unset, .unset] [(.ref nmA_33)])) rfl (by rw [hml]; rfl) (Steps.refl _) (argsL := []) (rest := []) (lenOf pd___I rfl) rfl (by show 2 * 0 + _ ≤ _; exact Nat.le_of_eq rfl) (Jvm.hb hby at_134) (fun _ _ => ⟨rfl, e60, (by decide : 2 + 0 ≤ _), (by decide : 28 + 0 ≤ _)⟩)
      dsimp only [Pt.U, Pt.locs, Pt.cells, Pt.slots] at X72 l72 y72 z72 st72 hQ72
      subst l72 y72 z72
      obtain ⟨rfl, N72q, e72⟩ := hQ72
      have N72 := Fr.app N33 N72q
      have s73 : ∀ t_, Steps p.tables e below (T72.setTop (mkF m 144 #[.val (.int sel), .val (.int len), .val (.int ps), .val (.int mt), .val (.long lc), .second, .val (.int (Int32.ofNat mk)), .val (.ref nmA_33), .val (.ref stA_33), .val (.int q38), .val (.int q45), .val (.int q52), .val (.int q59), .unset, .unset, .unset, .unset, .unset, .unset] [(.int (Int32.ofNat (own_nm mk).length))])) t_ → Steps p.tables e below (s₁.setTop (entryFrame m #[(.int sel), (.int len), (.int ps), (.int mt), (.long lc)] maxLocals)) t_ := fun t_ k_ => s69 t_ (by
        show Steps p.tables e below (T60.setTop (mkF m 134 #[.val (.int sel), .val (.int len), .val (.int ps), .val (.int mt), .val (.long lc), .second, .val (.int (Int32.ofNat mk)), .val (.ref nmA_33), .val (.ref stA_33), .val (.int q38), .val (.int q45), .val (.int q52), .val (.int q59), .unset, .unset, .unset, .unset, .unset, .unset] [(.ref nmA_33)])) t_
        refine st72.trans ?_
        show Steps p.tables e below (T72.setTop (mkF m 137 #[.val (.int sel), .val (.int len), .val (.int ps), .val (.int mt), .val (.long lc), .second, .val (.int (Int32.ofNat mk)), .val (.ref nmA_33), .val (.ref stA_33), .val (.int q38), .val (.int q45), .val (.int q52), .val (.int q59), .unset, .unset, .unset, .unset, .unset, .unset] [(.int (Int32.ofNat (own_nm mk).length))])) _
        refine XS.goto X72.here hx rfl (pc0 := 137) (pc' := 144) rfl (Jvm.hb hby at_137) (by decide) (by decide) ?_
        show Steps p.tables e below (T72.setTop (mkF m 144 #[.val (.int sel), .val (.int len), .val (.int ps), .val (.int mt), .val (.long lc), .second, .val (.int (Int32.ofNat mk)), .val (.ref nmA_33), .val (.ref stA_33), .val (.int q38), .val (.int q45), .val (.int q52), .val (.int q59), .unset, .unset, .unset, .unset, .unset, .unset] [(.int (Int32.ofNat (own_nm mk).length))])) t_
        exact k_)
      exact ⟨T72, _, _, _, X72, e72, N72, (Keep.refl h33 []), ⟨(own_nm mk).length, rfl, (Nat.lt_succ_of_le (own_nml _))⟩, s73⟩
  obtain ⟨T74, lo74, h74, fe74, X74, e74, N74, K74, A74, st74⟩ := bk65
  have z75 : h33.size ≤ h74.size := K74.1
  have Cp75 : CHr Z ELs V33 h33 V33 h74 := CHr.keep K74 sf0 CR.1
  have hk := Nat.le_trans hk z75
  have CR := CR.trans Cp75
  obtain ⟨nN_74, rfl, J74_0⟩ := A74
  have s76 : ∀ t_, Steps p.tables e below (T74.setTop (mkF m 144 #[.val (.int sel), .val (.int len), .val (.int ps), .val (.int mt), .val (.long lc), .second, .val (.int (Int32.ofNat mk)), .val (.ref nmA_33), .val (.ref stA_33), .val (.int q38), .val (.int q45), .val (.int q52), .val (.int q59), .unset, .unset, .unset, .unset, .unset, .unset] [(.int (Int32.ofNat nN_74))])) t_ → Steps p.tables e below (s₁.setTop (entryFrame m #[(.int sel), (.int len), (.int ps), (.int mt), (.long lc)] maxLocals)) t_ := st74
  obtain ⟨T77, h77, k77, X77, e77, E77, A77, st77⟩ := newP X74 hx hZ (hw _ (List.mem_of_getElem? (i := 11) rfl)) e74 (g := (mkF m 148 #[.val (.int sel), .val (.int len), .val (.int ps), .val (.int mt), .val (.long lc), .second, .val (.int (Int32.ofNat mk)), .val (.ref nmA_33), .val (.ref stA_33), .val (.int q38), .val (.int q45), .val (.int q52), .val (.int q59), .val (.int (Int32.ofNat nN_74)), .unset, .unset, .unset, .unset, .unset] [(.int (7 : Int32))])) rfl (Jvm.hb hby at_148) rfl (by decide) (cap := 7) (by decide) (by decide) (by decide) (by decide)
  obtain ⟨b77, g77⟩ : ∃ z, z = h74.size := ⟨_, rfl⟩
  rw [← g77] at A77 st77
  have z78 : h74.size ≤ h77.size := E77.1
  have Cp78 : CHr Z ELs V33 h74 V33 h77 := CHr.ext E77 CR.1
  have hk := Nat.le_trans hk z78
  have CR := CR.trans Cp78
  have l77 : b77 < h77.size := A77.lt
  have V77 : Arv Z h77 b77 k77 .char (7 : Int32) [(.int (0 : Int32)), (.int (0 : Int32)), (.int (0 : Int32)), (.int (0 : Int32)), (.int (0 : Int32)), (.int (0 : Int32)), (.int (0 : Int32))] (.int (0 : Int32)) := (Arv.new A77 (by decide)).pad (pad_rep [] (.int (0 : Int32)) 7)
  have s79 : ∀ t_, Steps p.tables e below (T77.setTop (mkF m 162 #[.val (.int sel), .val (.int len), .val (.int ps), .val (.int mt), .val (.long lc), .second, .val (.int (Int32.ofNat mk)), .val (.ref nmA_33), .val (.ref stA_33), .val (.int q38), .val (.int q45), .val (.int q52), .val (.int q59), .val (.int (Int32.ofNat nN_74)), .val (.ref b77), .unset, .unset, .unset, .unset] [(.long lc), (.ref nmA_33), (.int q38), (.int (0 : Int32)), (.int (0 : Int32)), (.ref b77)])) t_ → Steps p.tables e below (s₁.setTop (entryFrame m #[(.int sel), (.int len), (.int ps), (.int mt), (.long lc)] maxLocals)) t_ := fun t_ k_ => s76 t_ (by
    show Steps p.tables e below (T74.setTop (mkF m 144 #[.val (.int sel), .val (.int len), .val (.int ps), .val (.int mt), .val (.long lc), .second, .val (.int (Int32.ofNat mk)), .val (.ref nmA_33), .val (.ref stA_33), .val (.int q38), .val (.int q45), .val (.int q52), .val (.int q59), .unset, .unset, .unset, .unset, .unset, .unset] [(.int (Int32.ofNat nN_74))])) t_
    refine XS.istore X74.here hx rfl (Jvm.hb hby at_144) rfl (l' := #[.val (.int sel), .val (.int len), .val (.int ps), .val (.int mt), .val (.long lc), .second, .val (.int (Int32.ofNat mk)), .val (.ref nmA_33), .val (.ref stA_33), .val (.int q38), .val (.int q45), .val (.int q52), .val (.int q59), .val (.int (Int32.ofNat nN_74)), .unset, .unset, .unset, .unset, .unset]) rfl ?_
    refine XS.bipush X74.here hx rfl (Jvm.hb hby at_146) ?_
    refine st77 _ ?_
    show Steps p.tables e below (T77.setTop (mkF m 150 #[.val (.int sel), .val (.int len), .val (.int ps), .val (.int mt), .val (.long lc), .second, .val (.int (Int32.ofNat mk)), .val (.ref nmA_33), .val (.ref stA_33), .val (.int q38), .val (.int q45), .val (.int q52), .val (.int q59), .val (.int (Int32.ofNat nN_74)), .unset, .unset, .unset, .unset, .unset] [(.ref b77)])) _
    refine XS.astore X77.here hx rfl (Jvm.hb hby at_150) rfl rfl (l' := #[.val (.int sel), .val (.int len), .val (.int ps), .val (.int mt), .val (.long lc), .second, .val (.int (Int32.ofNat mk)), .val (.ref nmA_33), .val (.ref stA_33), .val (.int q38), .val (.int q45), .val (.int q52), .val (.int q59), .val (.int (Int32.ofNat nN_74)), .val (.ref b77), .unset, .unset, .unset, .unset]) rfl ?_
    refine XS.aload X77.here hx rfl (Jvm.hb hby at_152) rfl rfl ?_
    refine XS.iconst X77.here hx rfl (Jvm.hb hby at_154) ?_
    refine XS.iconst X77.here hx rfl (Jvm.hb hby at_155) ?_
    refine XS.iload X77.here hx rfl (Jvm.hb hby at_156) rfl ?_
    refine XS.aload X77.here hx rfl (Jvm.hb hby at_158) rfl rfl ?_
    show Steps p.tables e below (T77.setTop (mkF m 160 #[.val (.int sel), .val (.int len), .val (.int ps), .val (.int mt), .val (.long lc), .second, .val (.int (Int32.ofNat mk)), .val (.ref nmA_33), .val (.ref stA_33), .val (.int q38), .val (.int q45), .val (.int q52), .val (.int q59), .val (.int (Int32.ofNat nN_74)), .val (.ref b77), .unset, .unset, .unset, .unset] [(.ref nmA_33), (.int q38), (.int (0 : Int32)), (.int (0 : Int32)), (.ref b77)])) _
    refine XS.lload X77.here hx rfl (Jvm.hb hby at_160) rfl ?_
    show Steps p.tables e below (T77.setTop (mkF m 162 #[.val (.int sel), .val (.int len), .val (.int ps), .val (.int mt), .val (.long lc), .second, .val (.int (Int32.ofNat mk)), .val (.ref nmA_33), .val (.ref stA_33), .val (.int q38), .val (.int q45), .val (.int q52), .val (.int q59), .val (.int (Int32.ofNat nN_74)), .val (.ref b77), .unset, .unset, .unset, .unset] [(.long lc), (.ref nmA_33), (.int q38), (.int (0 : Int32)), (.int (0 : Int32)), (.ref b77)])) t_
    exact k_)
  have O80 : Old Z n0 h77 := (((OX.keep K33 all0).keep K74 all0).ext E77)
  have f81 : Exa Z h77 nmA_33 "java/lang/String" := ((G33_0.keep K74).ext E77)
  have f82 : Fld Z h77 nmA_33 "java/lang/String" "value" "[B" (.ref bA_33) := ((G33_1.keep K74 nin0).ext E77)
  have f83 : Fld Z h77 nmA_33 "java/lang/String" "coder" "B" (.int (own_cod (own_nm mk))) := ((G33_2.keep K74 nin0).ext E77)
  have f84 : Arv Z h77 bA_33 kA_33 .byte (Int32.ofNat (own_enl (own_nm mk))) (own_enc (own_nm mk)) (.int (0 : Int32)) := ((G33_3.keep K74 nin0).ext E77)
  have Zc85 : n0 ≤ h77.size := by omega
  obtain ⟨_, _, ⟨T86, L86, k86, n86⟩, -, X86, ⟨Lc86, hQ86, l86, y86, z86⟩, st86⟩ := Jvm.LawKit.callS X77 hx (y := (⟨"com/example/coyote_hill/coyotehill/ItemStateFromNamePinLaw", "pick", "(IZLjava/lang/String;J)C"⟩ : MethodName)) hown (mvT hZ (hw _ (List.mem_of_getElem? (i := 12) rfl))) (mvT hZ (hw _ (List.mem_of_getElem? (i := 13) rfl))) (mvT hZ (hw _ (List.mem_of_getElem? (i := 14) rfl))) (mvT hZ (hw _ (List.mem_of_getElem? (i := 15) rfl))) (by decide) (backOf (W := 2) (rmPick l Z a0 hw [] q38 nmA_33 lc 0 cst bA_33 kA_33 (own_nm mk) fmt h77 n0 Zc85 I1 (hfmt : fmt.isRef = true) I2 O80 (hcst : ¬ (cst = (0 : Int32))) f81 f82 f83 f84 (own_nmchs _) (own_nmlat _) (own_nml _) (by first | assumption | omega | rfl | decide : 0 < 8)) hZ (hw _ (List.mem_of_getElem? (i := 15) rfl)) (hw _ (List.mem_of_getElem? (i := 14) rfl)) (by decide) (by decide)) (g := (mkF m 162 #[.val (.int sel), .val (.int len), .val (.int ps), .val (.int mt), .val (.long lc), .second, .val (.int (Int32.ofNat mk)), .val (.ref nmA_33), .val (.ref stA_33), .val (.int q38), .val (.int q45), .val (.int q52), .val (.int q59), .val (.int (Int32.ofNat nN_74)), .val (.ref b77), .unset, .unset, .unset, .unset] [(.long lc), (.ref nmA_33), (.int q38), (.int (0 : Int32)), (.int (0 : Int32)), (.ref b77)])) rfl (by rw [hml]; rfl) (argsL := [(.int (0 : Int32)), (.int q38), (.ref nmA_33), (.long lc)]) (rest := [(.int (0 : Int32)), (.ref b77)]) (lenOf pd__IZLjava_lang_String_J_C rfl) rfl (by show 2 * 0 + _ ≤ _; exact Nat.le_of_eq rfl) (Jvm.hb hby at_162) (fun _ _ => ⟨rfl, e77, (by decide : 3 + 0 ≤ _), (by decide : 35 + 0 ≤ _)⟩)
  dsimp only [Pt.U, Pt.locs, Pt.cells, Pt.slots] at X86 l86 y86 z86 st86 hQ86
  subst l86 y86 z86
  obtain ⟨rr_86, rfl, N86q, e86, P86_0, P86_1⟩ := hQ86
  have N86 := Fr.app N74 N86q
  obtain ⟨cl87, Ar87, q87, S87, M87, H87, G87⟩ := id V77
  have hin87 : ¬ ((0 : Int32) < 0 ∨ cl87.slots.size ≤ ((0 : Int32)).toNatClampNeg) := inb_of S87 ⟨by decide, by decide⟩
  obtain ⟨T88, h88, X88, e88, W88, st88⟩ := stC X86 hx hZ e86 Ar87 (j := (0 : Int32)) hin87 (g := (mkF m 165 #[.val (.int sel), .val (.int len), .val (.int ps), .val (.int mt), .val (.long lc), .second, .val (.int (Int32.ofNat mk)), .val (.ref nmA_33), .val (.ref stA_33), .val (.int q38), .val (.int q45), .val (.int q52), .val (.int q59), .val (.int (Int32.ofNat nN_74)), .val (.ref b77), .unset, .unset, .unset, .unset] [(.int rr_86), (.int (0 : Int32)), (.ref b77)])) rfl rfl (Jvm.hb hby at_165)
  have z89 : h77.size ≤ h88.size := Nat.le_of_eq W88.size.symm
  have Cp89 : CHr Z ELs V33 h77 V33 h88 := CHr.wr W88 (Safe.arv hZ.alike V77 (by decide)) CR.1
  have hk := Nat.le_trans hk z89
  have CR := CR.trans Cp89
  have V88 : Arv Z h88 b77 k77 .char (7 : Int32) [(.int rr_86), (.int (0 : Int32)), (.int (0 : Int32)), (.int (0 : Int32)), (.int (0 : Int32)), (.int (0 : Int32)), (.int (0 : Int32))] (.int (0 : Int32)) := by have q : Arv Z h88 b77 k77 .char (7 : Int32) [(.int (nar .char rr_86)), (.int (0 : Int32)), (.int (0 : Int32)), (.int (0 : Int32)), (.int (0 : Int32)), (.int (0 : Int32)), (.int (0 : Int32))] (.int (0 : Int32)) := Arv.set Ar87 q87 S87 M87 H87 G87 (fits_nar_char _) W88 0 rfl (Nat.le_of_ble_eq_true rfl); rw [show nar .char rr_86 = rr_86 from own_narc P86_0 (own_le64k P86_1)] at q; exact q
  have N88 := Fr.snoc X88 N86 (show n0 ≤ b77 by omega)
  have s90 : ∀ t_, Steps p.tables e below (T88.setTop (mkF m 176 #[.val (.int sel), .val (.int len), .val (.int ps), .val (.int mt), .val (.long lc), .second, .val (.int (Int32.ofNat mk)), .val (.ref nmA_33), .val (.ref stA_33), .val (.int q38), .val (.int q45), .val (.int q52), .val (.int q59), .val (.int (Int32.ofNat nN_74)), .val (.ref b77), .unset, .unset, .unset, .unset] [(.long lc), (.ref nmA_33), (.int q38), (.int (1 : Int32)), (.int (1 : Int32)), (.ref b77)])) t_ → Steps p.tables e below (s₁.setTop (entryFrame m #[(.int sel), (.int len), (.int ps), (.int mt), (.long lc)] maxLocals)) t_ := fun t_ k_ => s79 t_ (by
    show Steps p.tables e below (T77.setTop (mkF m 162 #[.val (.int sel), .val (.int len), .val (.int ps), .val (.int mt), .val (.long lc), .second, .val (.int (Int32.ofNat mk)), .val (.ref nmA_33), .val (.ref stA_33), .val (.int q38), .val (.int q45), .val (.int q52), .val (.int q59), .val (.int (Int32.ofNat nN_74)), .val (.ref b77), .unset, .unset, .unset, .unset] [(.long lc), (.ref nmA_33), (.int q38), (.int (0 : Int32)), (.int (0 : Int32)), (.ref b77)])) t_
    refine st86 _ ?_
    show Steps p.tables e below (T86.setTop (mkF m 165 #[.val (.int sel), .val (.int len), .val (.int ps), .val (.int mt), .val (.long lc), .second, .val (.int (Int32.ofNat mk)), .val (.ref nmA_33), .val (.ref stA_33), .val (.int q38), .val (.int q45), .val (.int q52), .val (.int q59), .val (.int (Int32.ofNat nN_74)), .val (.ref b77), .unset, .unset, .unset, .unset] [(.int rr_86), (.int (0 : Int32)), (.ref b77)])) _
    refine st88 _ ?_
    show Steps p.tables e below (T88.setTop (mkF m 166 #[.val (.int sel), .val (.int len), .val (.int ps), .val (.int mt), .val (.long lc), .second, .val (.int (Int32.ofNat mk)), .val (.ref nmA_33), .val (.ref stA_33), .val (.int q38), .val (.int q45), .val (.int q52), .val (.int q59), .val (.int (Int32.ofNat nN_74)), .val (.ref b77), .unset, .unset, .unset, .unset] [])) _
    refine XS.aload X88.here hx rfl (Jvm.hb hby at_166) rfl rfl ?_
    refine XS.iconst X88.here hx rfl (Jvm.hb hby at_168) ?_
    refine XS.iconst X88.here hx rfl (Jvm.hb hby at_169) ?_
    refine XS.iload X88.here hx rfl (Jvm.hb hby at_170) rfl ?_
    refine XS.aload X88.here hx rfl (Jvm.hb hby at_172) rfl rfl ?_
    refine XS.lload X88.here hx rfl (Jvm.hb hby at_174) rfl ?_
    show Steps p.tables e below (T88.setTop (mkF m 176 #[.val (.int sel), .val (.int len), .val (.int ps), .val (.int mt), .val (.long lc), .second, .val (.int (Int32.ofNat mk)), .val (.ref nmA_33), .val (.ref stA_33), .val (.int q38), .val (.int q45), .val (.int q52), .val (.int q59), .val (.int (Int32.ofNat nN_74)), .val (.ref b77), .unset, .unset, .unset, .unset] [(.long lc), (.ref nmA_33), (.int q38), (.int (1 : Int32)), (.int (1 : Int32)), (.ref b77)])) _
    show Steps p.tables e below (T88.setTop (mkF m 176 #[.val (.int sel), .val (.int len), .val (.int ps), .val (.int mt), .val (.long lc), .second, .val (.int (Int32.ofNat mk)), .val (.ref nmA_33), .val (.ref stA_33), .val (.int q38), .val (.int q45), .val (.int q52), .val (.int q59), .val (.int (Int32.ofNat nN_74)), .val (.ref b77), .unset, .unset, .unset, .unset] [(.long lc), (.ref nmA_33), (.int q38), (.int (1 : Int32)), (.int (1 : Int32)), (.ref b77)])) t_
    exact k_)
  have O91 : Old Z n0 h88 := (O80.wr W88 (show n0 ≤ b77 by omega))
  have f92 : Exa Z h88 nmA_33 "java/lang/String" := (f81.wr W88)
  have f93 : Fld Z h88 nmA_33 "java/lang/String" "value" "[B" (.ref bA_33) := (f82.other W88 (Or.inl (show @Ne Nat nmA_33 b77 by omega)))
  have f94 : Fld Z h88 nmA_33 "java/lang/String" "coder" "B" (.int (own_cod (own_nm mk))) := (f83.other W88 (Or.inl (show @Ne Nat nmA_33 b77 by omega)))
  have f95 : Arv Z h88 bA_33 kA_33 .byte (Int32.ofNat (own_enl (own_nm mk))) (own_enc (own_nm mk)) (.int (0 : Int32)) := (f84.other W88 (own_arvne f84 V77 (by decide)))
  have Zc96 : n0 ≤ h88.size := by omega
  obtain ⟨_, _, ⟨T97, L97, k97, n97⟩, -, X97, ⟨Lc97, hQ97, l97, y97, z97⟩, st97⟩ := Jvm.LawKit.callS X88 hx (y := (⟨"com/example/coyote_hill/coyotehill/ItemStateFromNamePinLaw", "pick", "(IZLjava/lang/String;J)C"⟩ : MethodName)) hown (mvT hZ (hw _ (List.mem_of_getElem? (i := 12) rfl))) (mvT hZ (hw _ (List.mem_of_getElem? (i := 13) rfl))) (mvT hZ (hw _ (List.mem_of_getElem? (i := 14) rfl))) (mvT hZ (hw _ (List.mem_of_getElem? (i := 15) rfl))) (by decide) (backOf (W := 2) (rmPick l Z a0 hw [] q38 nmA_33 lc 1 cst bA_33 kA_33 (own_nm mk) fmt h88 n0 Zc96 I1 (hfmt : fmt.isRef = true) I2 O91 (hcst : ¬ (cst = (0 : Int32))) f92 f93 f94 f95 (own_nmchs _) (own_nmlat _) (own_nml _) (by first | assumption | omega | rfl | decide : 1 < 8)) hZ (hw _ (List.mem_of_getElem? (i := 15) rfl)) (hw _ (List.mem_of_getElem? (i := 14) rfl)) (by decide) (by decide)) (g := (mkF m 176 #[.val (.int sel), .val (.int len), .val (.int ps), .val (.int mt), .val (.long lc), .second, .val (.int (Int32.ofNat mk)), .val (.ref nmA_33), .val (.ref stA_33), .val (.int q38), .val (.int q45), .val (.int q52), .val (.int q59), .val (.int (Int32.ofNat nN_74)), .val (.ref b77), .unset, .unset, .unset, .unset] [(.long lc), (.ref nmA_33), (.int q38), (.int (1 : Int32)), (.int (1 : Int32)), (.ref b77)])) rfl (by rw [hml]; rfl) (argsL := [(.int (1 : Int32)), (.int q38), (.ref nmA_33), (.long lc)]) (rest := [(.int (1 : Int32)), (.ref b77)]) (lenOf pd__IZLjava_lang_String_J_C rfl) rfl (by show 2 * 0 + _ ≤ _; exact Nat.le_of_eq rfl) (Jvm.hb hby at_176) (fun _ _ => ⟨rfl, e88, (by decide : 3 + 0 ≤ _), (by decide : 35 + 0 ≤ _)⟩)
  dsimp only [Pt.U, Pt.locs, Pt.cells, Pt.slots] at X97 l97 y97 z97 st97 hQ97
  subst l97 y97 z97
  obtain ⟨rr_97, rfl, N97q, e97, P97_0, P97_1⟩ := hQ97
  have N97 := Fr.app N88 N97q
  obtain ⟨cl98, Ar98, q98, S98, M98, H98, G98⟩ := id V88
  have hin98 : ¬ ((1 : Int32) < 0 ∨ cl98.slots.size ≤ ((1 : Int32)).toNatClampNeg) := inb_of S98 ⟨by decide, by decide⟩
  obtain ⟨T99, h99, X99, e99, W99, st99⟩ := stC X97 hx hZ e97 Ar98 (j := (1 : Int32)) hin98 (g := (mkF m 179 #[.val (.int sel), .val (.int len), .val (.int ps), .val (.int mt), .val (.long lc), .second, .val (.int (Int32.ofNat mk)), .val (.ref nmA_33), .val (.ref stA_33), .val (.int q38), .val (.int q45), .val (.int q52), .val (.int q59), .val (.int (Int32.ofNat nN_74)), .val (.ref b77), .unset, .unset, .unset, .unset] [(.int rr_97), (.int (1 : Int32)), (.ref b77)])) rfl rfl (Jvm.hb hby at_179)
  have z100 : h88.size ≤ h99.size := Nat.le_of_eq W99.size.symm
  have Cp100 : CHr Z ELs V33 h88 V33 h99 := CHr.wr W99 (Safe.arv hZ.alike V88 (by decide)) CR.1
  have hk := Nat.le_trans hk z100
  have CR := CR.trans Cp100
  have V99 : Arv Z h99 b77 k77 .char (7 : Int32) [(.int rr_86), (.int rr_97), (.int (0 : Int32)), (.int (0 : Int32)), (.int (0 : Int32)), (.int (0 : Int32)), (.int (0 : Int32))] (.int (0 : Int32)) := by have q : Arv Z h99 b77 k77 .char (7 : Int32) [(.int rr_86), (.int (nar .char rr_97)), (.int (0 : Int32)), (.int (0 : Int32)), (.int (0 : Int32)), (.int (0 : Int32)), (.int (0 : Int32))] (.int (0 : Int32)) := Arv.set Ar98 q98 S98 M98 H98 G98 (fits_nar_char _) W99 1 rfl (Nat.le_of_ble_eq_true rfl); rw [show nar .char rr_97 = rr_97 from own_narc P97_0 (own_le64k P97_1)] at q; exact q
  have N99 := Fr.snoc X99 N97 (show n0 ≤ b77 by omega)
  have s101 : ∀ t_, Steps p.tables e below (T99.setTop (mkF m 190 #[.val (.int sel), .val (.int len), .val (.int ps), .val (.int mt), .val (.long lc), .second, .val (.int (Int32.ofNat mk)), .val (.ref nmA_33), .val (.ref stA_33), .val (.int q38), .val (.int q45), .val (.int q52), .val (.int q59), .val (.int (Int32.ofNat nN_74)), .val (.ref b77), .unset, .unset, .unset, .unset] [(.long lc), (.ref nmA_33), (.int q38), (.int (2 : Int32)), (.int (2 : Int32)), (.ref b77)])) t_ → Steps p.tables e below (s₁.setTop (entryFrame m #[(.int sel), (.int len), (.int ps), (.int mt), (.long lc)] maxLocals)) t_ := fun t_ k_ => s90 t_ (by
    show Steps p.tables e below (T88.setTop (mkF m 176 #[.val (.int sel), .val (.int len), .val (.int ps), .val (.int mt), .val (.long lc), .second, .val (.int (Int32.ofNat mk)), .val (.ref nmA_33), .val (.ref stA_33), .val (.int q38), .val (.int q45), .val (.int q52), .val (.int q59), .val (.int (Int32.ofNat nN_74)), .val (.ref b77), .unset, .unset, .unset, .unset] [(.long lc), (.ref nmA_33), (.int q38), (.int (1 : Int32)), (.int (1 : Int32)), (.ref b77)])) t_
    refine st97 _ ?_
    show Steps p.tables e below (T97.setTop (mkF m 179 #[.val (.int sel), .val (.int len), .val (.int ps), .val (.int mt), .val (.long lc), .second, .val (.int (Int32.ofNat mk)), .val (.ref nmA_33), .val (.ref stA_33), .val (.int q38), .val (.int q45), .val (.int q52), .val (.int q59), .val (.int (Int32.ofNat nN_74)), .val (.ref b77), .unset, .unset, .unset, .unset] [(.int rr_97), (.int (1 : Int32)), (.ref b77)])) _
    refine st99 _ ?_
    show Steps p.tables e below (T99.setTop (mkF m 180 #[.val (.int sel), .val (.int len), .val (.int ps), .val (.int mt), .val (.long lc), .second, .val (.int (Int32.ofNat mk)), .val (.ref nmA_33), .val (.ref stA_33), .val (.int q38), .val (.int q45), .val (.int q52), .val (.int q59), .val (.int (Int32.ofNat nN_74)), .val (.ref b77), .unset, .unset, .unset, .unset] [])) _
    refine XS.aload X99.here hx rfl (Jvm.hb hby at_180) rfl rfl ?_
    refine XS.iconst X99.here hx rfl (Jvm.hb hby at_182) ?_
    refine XS.iconst X99.here hx rfl (Jvm.hb hby at_183) ?_
    refine XS.iload X99.here hx rfl (Jvm.hb hby at_184) rfl ?_
    refine XS.aload X99.here hx rfl (Jvm.hb hby at_186) rfl rfl ?_
    refine XS.lload X99.here hx rfl (Jvm.hb hby at_188) rfl ?_
    show Steps p.tables e below (T99.setTop (mkF m 190 #[.val (.int sel), .val (.int len), .val (.int ps), .val (.int mt), .val (.long lc), .second, .val (.int (Int32.ofNat mk)), .val (.ref nmA_33), .val (.ref stA_33), .val (.int q38), .val (.int q45), .val (.int q52), .val (.int q59), .val (.int (Int32.ofNat nN_74)), .val (.ref b77), .unset, .unset, .unset, .unset] [(.long lc), (.ref nmA_33), (.int q38), (.int (2 : Int32)), (.int (2 : Int32)), (.ref b77)])) _
    show Steps p.tables e below (T99.setTop (mkF m 190 #[.val (.int sel), .val (.int len), .val (.int ps), .val (.int mt), .val (.long lc), .second, .val (.int (Int32.ofNat mk)), .val (.ref nmA_33), .val (.ref stA_33), .val (.int q38), .val (.int q45), .val (.int q52), .val (.int q59), .val (.int (Int32.ofNat nN_74)), .val (.ref b77), .unset, .unset, .unset, .unset] [(.long lc), (.ref nmA_33), (.int q38), (.int (2 : Int32)), (.int (2 : Int32)), (.ref b77)])) t_
    exact k_)
  have O102 : Old Z n0 h99 := (O91.wr W99 (show n0 ≤ b77 by omega))
  have f103 : Exa Z h99 nmA_33 "java/lang/String" := (f92.wr W99)
  have f104 : Fld Z h99 nmA_33 "java/lang/String" "value" "[B" (.ref bA_33) := (f93.other W99 (Or.inl (show @Ne Nat nmA_33 b77 by omega)))
  have f105 : Fld Z h99 nmA_33 "java/lang/String" "coder" "B" (.int (own_cod (own_nm mk))) := (f94.other W99 (Or.inl (show @Ne Nat nmA_33 b77 by omega)))
  have f106 : Arv Z h99 bA_33 kA_33 .byte (Int32.ofNat (own_enl (own_nm mk))) (own_enc (own_nm mk)) (.int (0 : Int32)) := (f95.other W99 (own_arvne f95 V88 (by decide)))
  have Zc107 : n0 ≤ h99.size := by omega
  obtain ⟨_, _, ⟨T108, L108, k108, n108⟩, -, X108, ⟨Lc108, hQ108, l108, y108, z108⟩, st108⟩ := Jvm.LawKit.callS X99 hx (y := (⟨"com/example/coyote_hill/coyotehill/ItemStateFromNamePinLaw", "pick", "(IZLjava/lang/String;J)C"⟩ : MethodName)) hown (mvT hZ (hw _ (List.mem_of_getElem? (i := 12) rfl))) (mvT hZ (hw _ (List.mem_of_getElem? (i := 13) rfl))) (mvT hZ (hw _ (List.mem_of_getElem? (i := 14) rfl))) (mvT hZ (hw _ (List.mem_of_getElem? (i := 15) rfl))) (by decide) (backOf (W := 2) (rmPick l Z a0 hw [] q38 nmA_33 lc 2 cst bA_33 kA_33 (own_nm mk) fmt h99 n0 Zc107 I1 (hfmt : fmt.isRef = true) I2 O102 (hcst : ¬ (cst = (0 : Int32))) f103 f104 f105 f106 (own_nmchs _) (own_nmlat _) (own_nml _) (by first | assumption | omega | rfl | decide : 2 < 8)) hZ (hw _ (List.mem_of_getElem? (i := 15) rfl)) (hw _ (List.mem_of_getElem? (i := 14) rfl)) (by decide) (by decide)) (g := (mkF m 190 #[.val (.int sel), .val (.int len), .val (.int ps), .val (.int mt), .val (.long lc), .second, .val (.int (Int32.ofNat mk)), .val (.ref nmA_33), .val (.ref stA_33), .val (.int q38), .val (.int q45), .val (.int q52), .val (.int q59), .val (.int (Int32.ofNat nN_74)), .val (.ref b77), .unset, .unset, .unset, .unset] [(.long lc), (.ref nmA_33), (.int q38), (.int (2 : Int32)), (.int (2 : Int32)), (.ref b77)])) rfl (by rw [hml]; rfl) (argsL := [(.int (2 : Int32)), (.int q38), (.ref nmA_33), (.long lc)]) (rest := [(.int (2 : Int32)), (.ref b77)]) (lenOf pd__IZLjava_lang_String_J_C rfl) rfl (by show 2 * 0 + _ ≤ _; exact Nat.le_of_eq rfl) (Jvm.hb hby at_190) (fun _ _ => ⟨rfl, e99, (by decide : 3 + 0 ≤ _), (by decide : 35 + 0 ≤ _)⟩)
  dsimp only [Pt.U, Pt.locs, Pt.cells, Pt.slots] at X108 l108 y108 z108 st108 hQ108
  subst l108 y108 z108
  obtain ⟨rr_108, rfl, N108q, e108, P108_0, P108_1⟩ := hQ108
  have N108 := Fr.app N99 N108q
  obtain ⟨cl109, Ar109, q109, S109, M109, H109, G109⟩ := id V99
  have hin109 : ¬ ((2 : Int32) < 0 ∨ cl109.slots.size ≤ ((2 : Int32)).toNatClampNeg) := inb_of S109 ⟨by decide, by decide⟩
  obtain ⟨T110, h110, X110, e110, W110, st110⟩ := stC X108 hx hZ e108 Ar109 (j := (2 : Int32)) hin109 (g := (mkF m 193 #[.val (.int sel), .val (.int len), .val (.int ps), .val (.int mt), .val (.long lc), .second, .val (.int (Int32.ofNat mk)), .val (.ref nmA_33), .val (.ref stA_33), .val (.int q38), .val (.int q45), .val (.int q52), .val (.int q59), .val (.int (Int32.ofNat nN_74)), .val (.ref b77), .unset, .unset, .unset, .unset] [(.int rr_108), (.int (2 : Int32)), (.ref b77)])) rfl rfl (Jvm.hb hby at_193)
  have z111 : h99.size ≤ h110.size := Nat.le_of_eq W110.size.symm
  have Cp111 : CHr Z ELs V33 h99 V33 h110 := CHr.wr W110 (Safe.arv hZ.alike V99 (by decide)) CR.1
  have hk := Nat.le_trans hk z111
  have CR := CR.trans Cp111
  have V110 : Arv Z h110 b77 k77 .char (7 : Int32) [(.int rr_86), (.int rr_97), (.int rr_108), (.int (0 : Int32)), (.int (0 : Int32)), (.int (0 : Int32)), (.int (0 : Int32))] (.int (0 : Int32)) := by have q : Arv Z h110 b77 k77 .char (7 : Int32) [(.int rr_86), (.int rr_97), (.int (nar .char rr_108)), (.int (0 : Int32)), (.int (0 : Int32)), (.int (0 : Int32)), (.int (0 : Int32))] (.int (0 : Int32)) := Arv.set Ar109 q109 S109 M109 H109 G109 (fits_nar_char _) W110 2 rfl (Nat.le_of_ble_eq_true rfl); rw [show nar .char rr_108 = rr_108 from own_narc P108_0 (own_le64k P108_1)] at q; exact q
  have N110 := Fr.snoc X110 N108 (show n0 ≤ b77 by omega)
  have s112 : ∀ t_, Steps p.tables e below (T110.setTop (mkF m 204 #[.val (.int sel), .val (.int len), .val (.int ps), .val (.int mt), .val (.long lc), .second, .val (.int (Int32.ofNat mk)), .val (.ref nmA_33), .val (.ref stA_33), .val (.int q38), .val (.int q45), .val (.int q52), .val (.int q59), .val (.int (Int32.ofNat nN_74)), .val (.ref b77), .unset, .unset, .unset, .unset] [(.long lc), (.ref nmA_33), (.int q38), (.int (3 : Int32)), (.int (3 : Int32)), (.ref b77)])) t_ → Steps p.tables e below (s₁.setTop (entryFrame m #[(.int sel), (.int len), (.int ps), (.int mt), (.long lc)] maxLocals)) t_ := fun t_ k_ => s101 t_ (by
    show Steps p.tables e below (T99.setTop (mkF m 190 #[.val (.int sel), .val (.int len), .val (.int ps), .val (.int mt), .val (.long lc), .second, .val (.int (Int32.ofNat mk)), .val (.ref nmA_33), .val (.ref stA_33), .val (.int q38), .val (.int q45), .val (.int q52), .val (.int q59), .val (.int (Int32.ofNat nN_74)), .val (.ref b77), .unset, .unset, .unset, .unset] [(.long lc), (.ref nmA_33), (.int q38), (.int (2 : Int32)), (.int (2 : Int32)), (.ref b77)])) t_
    refine st108 _ ?_
    show Steps p.tables e below (T108.setTop (mkF m 193 #[.val (.int sel), .val (.int len), .val (.int ps), .val (.int mt), .val (.long lc), .second, .val (.int (Int32.ofNat mk)), .val (.ref nmA_33), .val (.ref stA_33), .val (.int q38), .val (.int q45), .val (.int q52), .val (.int q59), .val (.int (Int32.ofNat nN_74)), .val (.ref b77), .unset, .unset, .unset, .unset] [(.int rr_108), (.int (2 : Int32)), (.ref b77)])) _
    refine st110 _ ?_
    show Steps p.tables e below (T110.setTop (mkF m 194 #[.val (.int sel), .val (.int len), .val (.int ps), .val (.int mt), .val (.long lc), .second, .val (.int (Int32.ofNat mk)), .val (.ref nmA_33), .val (.ref stA_33), .val (.int q38), .val (.int q45), .val (.int q52), .val (.int q59), .val (.int (Int32.ofNat nN_74)), .val (.ref b77), .unset, .unset, .unset, .unset] [])) _
    refine XS.aload X110.here hx rfl (Jvm.hb hby at_194) rfl rfl ?_
    refine XS.iconst X110.here hx rfl (Jvm.hb hby at_196) ?_
    refine XS.iconst X110.here hx rfl (Jvm.hb hby at_197) ?_
    refine XS.iload X110.here hx rfl (Jvm.hb hby at_198) rfl ?_
    refine XS.aload X110.here hx rfl (Jvm.hb hby at_200) rfl rfl ?_
    refine XS.lload X110.here hx rfl (Jvm.hb hby at_202) rfl ?_
    show Steps p.tables e below (T110.setTop (mkF m 204 #[.val (.int sel), .val (.int len), .val (.int ps), .val (.int mt), .val (.long lc), .second, .val (.int (Int32.ofNat mk)), .val (.ref nmA_33), .val (.ref stA_33), .val (.int q38), .val (.int q45), .val (.int q52), .val (.int q59), .val (.int (Int32.ofNat nN_74)), .val (.ref b77), .unset, .unset, .unset, .unset] [(.long lc), (.ref nmA_33), (.int q38), (.int (3 : Int32)), (.int (3 : Int32)), (.ref b77)])) _
    show Steps p.tables e below (T110.setTop (mkF m 204 #[.val (.int sel), .val (.int len), .val (.int ps), .val (.int mt), .val (.long lc), .second, .val (.int (Int32.ofNat mk)), .val (.ref nmA_33), .val (.ref stA_33), .val (.int q38), .val (.int q45), .val (.int q52), .val (.int q59), .val (.int (Int32.ofNat nN_74)), .val (.ref b77), .unset, .unset, .unset, .unset] [(.long lc), (.ref nmA_33), (.int q38), (.int (3 : Int32)), (.int (3 : Int32)), (.ref b77)])) t_
    exact k_)
  have O113 : Old Z n0 h110 := (O102.wr W110 (show n0 ≤ b77 by omega))
  have f114 : Exa Z h110 nmA_33 "java/lang/String" := (f103.wr W110)
  have f115 : Fld Z h110 nmA_33 "java/lang/String" "value" "[B" (.ref bA_33) := (f104.other W110 (Or.inl (show @Ne Nat nmA_33 b77 by omega)))
  have f116 : Fld Z h110 nmA_33 "java/lang/String" "coder" "B" (.int (own_cod (own_nm mk))) := (f105.other W110 (Or.inl (show @Ne Nat nmA_33 b77 by omega)))
  have f117 : Arv Z h110 bA_33 kA_33 .byte (Int32.ofNat (own_enl (own_nm mk))) (own_enc (own_nm mk)) (.int (0 : Int32)) := (f106.other W110 (own_arvne f106 V99 (by decide)))
  have Zc118 : n0 ≤ h110.size := by omega
  obtain ⟨_, _, ⟨T119, L119, k119, n119⟩, -, X119, ⟨Lc119, hQ119, l119, y119, z119⟩, st119⟩ := Jvm.LawKit.callS X110 hx (y := (⟨"com/example/coyote_hill/coyotehill/ItemStateFromNamePinLaw", "pick", "(IZLjava/lang/String;J)C"⟩ : MethodName)) hown (mvT hZ (hw _ (List.mem_of_getElem? (i := 12) rfl))) (mvT hZ (hw _ (List.mem_of_getElem? (i := 13) rfl))) (mvT hZ (hw _ (List.mem_of_getElem? (i := 14) rfl))) (mvT hZ (hw _ (List.mem_of_getElem? (i := 15) rfl))) (by decide) (backOf (W := 2) (rmPick l Z a0 hw [] q38 nmA_33 lc 3 cst bA_33 kA_33 (own_nm mk) fmt h110 n0 Zc118 I1 (hfmt : fmt.isRef = true) I2 O113 (hcst : ¬ (cst = (0 : Int32))) f114 f115 f116 f117 (own_nmchs _) (own_nmlat _) (own_nml _) (by first | assumption | omega | rfl | decide : 3 < 8)) hZ (hw _ (List.mem_of_getElem? (i := 15) rfl)) (hw _ (List.mem_of_getElem? (i := 14) rfl)) (by decide) (by decide)) (g := (mkF m 204 #[.val (.int sel), .val (.int len), .val (.int ps), .val (.int mt), .val (.long lc), .second, .val (.int (Int32.ofNat mk)), .val (.ref nmA_33), .val (.ref stA_33), .val (.int q38), .val (.int q45), .val (.int q52), .val (.int q59), .val (.int (Int32.ofNat nN_74)), .val (.ref b77), .unset, .unset, .unset, .unset] [(.long lc), (.ref nmA_33), (.int q38), (.int (3 : Int32)), (.int (3 : Int32)), (.ref b77)])) rfl (by rw [hml]; rfl) (argsL := [(.int (3 : Int32)), (.int q38), (.ref nmA_33), (.long lc)]) (rest := [(.int (3 : Int32)), (.ref b77)]) (lenOf pd__IZLjava_lang_String_J_C rfl) rfl (by show 2 * 0 + _ ≤ _; exact Nat.le_of_eq rfl) (Jvm.hb hby at_204) (fun _ _ => ⟨rfl, e110, (by decide : 3 + 0 ≤ _), (by decide : 35 + 0 ≤ _)⟩)
  dsimp only [Pt.U, Pt.locs, Pt.cells, Pt.slots] at X119 l119 y119 z119 st119 hQ119
  subst l119 y119 z119
  obtain ⟨rr_119, rfl, N119q, e119, P119_0, P119_1⟩ := hQ119
  have N119 := Fr.app N110 N119q
  obtain ⟨cl120, Ar120, q120, S120, M120, H120, G120⟩ := id V110
  have hin120 : ¬ ((3 : Int32) < 0 ∨ cl120.slots.size ≤ ((3 : Int32)).toNatClampNeg) := inb_of S120 ⟨by decide, by decide⟩
  obtain ⟨T121, h121, X121, e121, W121, st121⟩ := stC X119 hx hZ e119 Ar120 (j := (3 : Int32)) hin120 (g := (mkF m 207 #[.val (.int sel), .val (.int len), .val (.int ps), .val (.int mt), .val (.long lc), .second, .val (.int (Int32.ofNat mk)), .val (.ref nmA_33), .val (.ref stA_33), .val (.int q38), .val (.int q45), .val (.int q52), .val (.int q59), .val (.int (Int32.ofNat nN_74)), .val (.ref b77), .unset, .unset, .unset, .unset] [(.int rr_119), (.int (3 : Int32)), (.ref b77)])) rfl rfl (Jvm.hb hby at_207)
  have z122 : h110.size ≤ h121.size := Nat.le_of_eq W121.size.symm
  have Cp122 : CHr Z ELs V33 h110 V33 h121 := CHr.wr W121 (Safe.arv hZ.alike V110 (by decide)) CR.1
  have hk := Nat.le_trans hk z122
  have CR := CR.trans Cp122
  have V121 : Arv Z h121 b77 k77 .char (7 : Int32) [(.int rr_86), (.int rr_97), (.int rr_108), (.int rr_119), (.int (0 : Int32)), (.int (0 : Int32)), (.int (0 : Int32))] (.int (0 : Int32)) := by have q : Arv Z h121 b77 k77 .char (7 : Int32) [(.int rr_86), (.int rr_97), (.int rr_108), (.int (nar .char rr_119)), (.int (0 : Int32)), (.int (0 : Int32)), (.int (0 : Int32))] (.int (0 : Int32)) := Arv.set Ar120 q120 S120 M120 H120 G120 (fits_nar_char _) W121 3 rfl (Nat.le_of_ble_eq_true rfl); rw [show nar .char rr_119 = rr_119 from own_narc P119_0 (own_le64k P119_1)] at q; exact q
  have N121 := Fr.snoc X121 N119 (show n0 ≤ b77 by omega)
  have s123 : ∀ t_, Steps p.tables e below (T121.setTop (mkF m 218 #[.val (.int sel), .val (.int len), .val (.int ps), .val (.int mt), .val (.long lc), .second, .val (.int (Int32.ofNat mk)), .val (.ref nmA_33), .val (.ref stA_33), .val (.int q38), .val (.int q45), .val (.int q52), .val (.int q59), .val (.int (Int32.ofNat nN_74)), .val (.ref b77), .unset, .unset, .unset, .unset] [(.long lc), (.ref nmA_33), (.int q38), (.int (4 : Int32)), (.int (4 : Int32)), (.ref b77)])) t_ → Steps p.tables e below (s₁.setTop (entryFrame m #[(.int sel), (.int len), (.int ps), (.int mt), (.long lc)] maxLocals)) t_ := fun t_ k_ => s112 t_ (by
    show Steps p.tables e below (T110.setTop (mkF m 204 #[.val (.int sel), .val (.int len), .val (.int ps), .val (.int mt), .val (.long lc), .second, .val (.int (Int32.ofNat mk)), .val (.ref nmA_33), .val (.ref stA_33), .val (.int q38), .val (.int q45), .val (.int q52), .val (.int q59), .val (.int (Int32.ofNat nN_74)), .val (.ref b77), .unset, .unset, .unset, .unset] [(.long lc), (.ref nmA_33), (.int q38), (.int (3 : Int32)), (.int (3 : Int32)), (.ref b77)])) t_
    refine st119 _ ?_
    show Steps p.tables e below (T119.setTop (mkF m 207 #[.val (.int sel), .val (.int len), .val (.int ps), .val (.int mt), .val (.long lc), .second, .val (.int (Int32.ofNat mk)), .val (.ref nmA_33), .val (.ref stA_33), .val (.int q38), .val (.int q45), .val (.int q52), .val (.int q59), .val (.int (Int32.ofNat nN_74)), .val (.ref b77), .unset, .unset, .unset, .unset] [(.int rr_119), (.int (3 : Int32)), (.ref b77)])) _
    refine st121 _ ?_
    show Steps p.tables e below (T121.setTop (mkF m 208 #[.val (.int sel), .val (.int len), .val (.int ps), .val (.int mt), .val (.long lc), .second, .val (.int (Int32.ofNat mk)), .val (.ref nmA_33), .val (.ref stA_33), .val (.int q38), .val (.int q45), .val (.int q52), .val (.int q59), .val (.int (Int32.ofNat nN_74)), .val (.ref b77), .unset, .unset, .unset, .unset] [])) _
    refine XS.aload X121.here hx rfl (Jvm.hb hby at_208) rfl rfl ?_
    refine XS.iconst X121.here hx rfl (Jvm.hb hby at_210) ?_
    refine XS.iconst X121.here hx rfl (Jvm.hb hby at_211) ?_
    refine XS.iload X121.here hx rfl (Jvm.hb hby at_212) rfl ?_
    refine XS.aload X121.here hx rfl (Jvm.hb hby at_214) rfl rfl ?_
    refine XS.lload X121.here hx rfl (Jvm.hb hby at_216) rfl ?_
    show Steps p.tables e below (T121.setTop (mkF m 218 #[.val (.int sel), .val (.int len), .val (.int ps), .val (.int mt), .val (.long lc), .second, .val (.int (Int32.ofNat mk)), .val (.ref nmA_33), .val (.ref stA_33), .val (.int q38), .val (.int q45), .val (.int q52), .val (.int q59), .val (.int (Int32.ofNat nN_74)), .val (.ref b77), .unset, .unset, .unset, .unset] [(.long lc), (.ref nmA_33), (.int q38), (.int (4 : Int32)), (.int (4 : Int32)), (.ref b77)])) _
    show Steps p.tables e below (T121.setTop (mkF m 218 #[.val (.int sel), .val (.int len), .val (.int ps), .val (.int mt), .val (.long lc), .second, .val (.int (Int32.ofNat mk)), .val (.ref nmA_33), .val (.ref stA_33), .val (.int q38), .val (.int q45), .val (.int q52), .val (.int q59), .val (.int (Int32.ofNat nN_74)), .val (.ref b77), .unset, .unset, .unset, .unset] [(.long lc), (.ref nmA_33), (.int q38), (.int (4 : Int32)), (.int (4 : Int32)), (.ref b77)])) t_
    exact k_)
  have O124 : Old Z n0 h121 := (O113.wr W121 (show n0 ≤ b77 by omega))
  have f125 : Exa Z h121 nmA_33 "java/lang/String" := (f114.wr W121)
  have f126 : Fld Z h121 nmA_33 "java/lang/String" "value" "[B" (.ref bA_33) := (f115.other W121 (Or.inl (show @Ne Nat nmA_33 b77 by omega)))
  have f127 : Fld Z h121 nmA_33 "java/lang/String" "coder" "B" (.int (own_cod (own_nm mk))) := (f116.other W121 (Or.inl (show @Ne Nat nmA_33 b77 by omega)))
  have f128 : Arv Z h121 bA_33 kA_33 .byte (Int32.ofNat (own_enl (own_nm mk))) (own_enc (own_nm mk)) (.int (0 : Int32)) := (f117.other W121 (own_arvne f117 V110 (by decide)))
  have Zc129 : n0 ≤ h121.size := by omega
  obtain ⟨_, _, ⟨T130, L130, k130, n130⟩, -, X130, ⟨Lc130, hQ130, l130, y130, z130⟩, st130⟩ := Jvm.LawKit.callS X121 hx (y := (⟨"com/example/coyote_hill/coyotehill/ItemStateFromNamePinLaw", "pick", "(IZLjava/lang/String;J)C"⟩ : MethodName)) hown (mvT hZ (hw _ (List.mem_of_getElem? (i := 12) rfl))) (mvT hZ (hw _ (List.mem_of_getElem? (i := 13) rfl))) (mvT hZ (hw _ (List.mem_of_getElem? (i := 14) rfl))) (mvT hZ (hw _ (List.mem_of_getElem? (i := 15) rfl))) (by decide) (backOf (W := 2) (rmPick l Z a0 hw [] q38 nmA_33 lc 4 cst bA_33 kA_33 (own_nm mk) fmt h121 n0 Zc129 I1 (hfmt : fmt.isRef = true) I2 O124 (hcst : ¬ (cst = (0 : Int32))) f125 f126 f127 f128 (own_nmchs _) (own_nmlat _) (own_nml _) (by first | assumption | omega | rfl | decide : 4 < 8)) hZ (hw _ (List.mem_of_getElem? (i := 15) rfl)) (hw _ (List.mem_of_getElem? (i := 14) rfl)) (by decide) (by decide)) (g := (mkF m 218 #[.val (.int sel), .val (.int len), .val (.int ps), .val (.int mt), .val (.long lc), .second, .val (.int (Int32.ofNat mk)), .val (.ref nmA_33), .val (.ref stA_33), .val (.int q38), .val (.int q45), .val (.int q52), .val (.int q59), .val (.int (Int32.ofNat nN_74)), .val (.ref b77), .unset, .unset, .unset, .unset] [(.long lc), (.ref nmA_33), (.int q38), (.int (4 : Int32)), (.int (4 : Int32)), (.ref b77)])) rfl (by rw [hml]; rfl) (argsL := [(.int (4 : Int32)), (.int q38), (.ref nmA_33), (.long lc)]) (rest := [(.int (4 : Int32)), (.ref b77)]) (lenOf pd__IZLjava_lang_String_J_C rfl) rfl (by show 2 * 0 + _ ≤ _; exact Nat.le_of_eq rfl) (Jvm.hb hby at_218) (fun _ _ => ⟨rfl, e121, (by decide : 3 + 0 ≤ _), (by decide : 35 + 0 ≤ _)⟩)
  dsimp only [Pt.U, Pt.locs, Pt.cells, Pt.slots] at X130 l130 y130 z130 st130 hQ130
  subst l130 y130 z130
  obtain ⟨rr_130, rfl, N130q, e130, P130_0, P130_1⟩ := hQ130
  have N130 := Fr.app N121 N130q
  obtain ⟨cl131, Ar131, q131, S131, M131, H131, G131⟩ := id V121
  have hin131 : ¬ ((4 : Int32) < 0 ∨ cl131.slots.size ≤ ((4 : Int32)).toNatClampNeg) := inb_of S131 ⟨by decide, by decide⟩
  obtain ⟨T132, h132, X132, e132, W132, st132⟩ := stC X130 hx hZ e130 Ar131 (j := (4 : Int32)) hin131 (g := (mkF m 221 #[.val (.int sel), .val (.int len), .val (.int ps), .val (.int mt), .val (.long lc), .second, .val (.int (Int32.ofNat mk)), .val (.ref nmA_33), .val (.ref stA_33), .val (.int q38), .val (.int q45), .val (.int q52), .val (.int q59), .val (.int (Int32.ofNat nN_74)), .val (.ref b77), .unset, .unset, .unset, .unset] [(.int rr_130), (.int (4 : Int32)), (.ref b77)])) rfl rfl (Jvm.hb hby at_221)
  have z133 : h121.size ≤ h132.size := Nat.le_of_eq W132.size.symm
  have Cp133 : CHr Z ELs V33 h121 V33 h132 := CHr.wr W132 (Safe.arv hZ.alike V121 (by decide)) CR.1
  have hk := Nat.le_trans hk z133
  have CR := CR.trans Cp133
  have V132 : Arv Z h132 b77 k77 .char (7 : Int32) [(.int rr_86), (.int rr_97), (.int rr_108), (.int rr_119), (.int rr_130), (.int (0 : Int32)), (.int (0 : Int32))] (.int (0 : Int32)) := by have q : Arv Z h132 b77 k77 .char (7 : Int32) [(.int rr_86), (.int rr_97), (.int rr_108), (.int rr_119), (.int (nar .char rr_130)), (.int (0 : Int32)), (.int (0 : Int32))] (.int (0 : Int32)) := Arv.set Ar131 q131 S131 M131 H131 G131 (fits_nar_char _) W132 4 rfl (Nat.le_of_ble_eq_true rfl); rw [show nar .char rr_130 = rr_130 from own_narc P130_0 (own_le64k P130_1)] at q; exact q
  have N132 := Fr.snoc X132 N130 (show n0 ≤ b77 by omega)
  have s134 : ∀ t_, Steps p.tables e below (T132.setTop (mkF m 232 #[.val (.int sel), .val (.int len), .val (.int ps), .val (.int mt), .val (.long lc), .second, .val (.int (Int32.ofNat mk)), .val (.ref nmA_33), .val (.ref stA_33), .val (.int q38), .val (.int q45), .val (.int q52), .val (.int q59), .val (.int (Int32.ofNat nN_74)), .val (.ref b77), .unset, .unset, .unset, .unset] [(.long lc), (.ref nmA_33), (.int q38), (.int (5 : Int32)), (.int (5 : Int32)), (.ref b77)])) t_ → Steps p.tables e below (s₁.setTop (entryFrame m #[(.int sel), (.int len), (.int ps), (.int mt), (.long lc)] maxLocals)) t_ := fun t_ k_ => s123 t_ (by
    show Steps p.tables e below (T121.setTop (mkF m 218 #[.val (.int sel), .val (.int len), .val (.int ps), .val (.int mt), .val (.long lc), .second, .val (.int (Int32.ofNat mk)), .val (.ref nmA_33), .val (.ref stA_33), .val (.int q38), .val (.int q45), .val (.int q52), .val (.int q59), .val (.int (Int32.ofNat nN_74)), .val (.ref b77), .unset, .unset, .unset, .unset] [(.long lc), (.ref nmA_33), (.int q38), (.int (4 : Int32)), (.int (4 : Int32)), (.ref b77)])) t_
    refine st130 _ ?_
    show Steps p.tables e below (T130.setTop (mkF m 221 #[.val (.int sel), .val (.int len), .val (.int ps), .val (.int mt), .val (.long lc), .second, .val (.int (Int32.ofNat mk)), .val (.ref nmA_33), .val (.ref stA_33), .val (.int q38), .val (.int q45), .val (.int q52), .val (.int q59), .val (.int (Int32.ofNat nN_74)), .val (.ref b77), .unset, .unset, .unset, .unset] [(.int rr_130), (.int (4 : Int32)), (.ref b77)])) _
    refine st132 _ ?_
    show Steps p.tables e below (T132.setTop (mkF m 222 #[.val (.int sel), .val (.int len), .val (.int ps), .val (.int mt), .val (.long lc), .second, .val (.int (Int32.ofNat mk)), .val (.ref nmA_33), .val (.ref stA_33), .val (.int q38), .val (.int q45), .val (.int q52), .val (.int q59), .val (.int (Int32.ofNat nN_74)), .val (.ref b77), .unset, .unset, .unset, .unset] [])) _
    refine XS.aload X132.here hx rfl (Jvm.hb hby at_222) rfl rfl ?_
    refine XS.iconst X132.here hx rfl (Jvm.hb hby at_224) ?_
    refine XS.iconst X132.here hx rfl (Jvm.hb hby at_225) ?_
    refine XS.iload X132.here hx rfl (Jvm.hb hby at_226) rfl ?_
    refine XS.aload X132.here hx rfl (Jvm.hb hby at_228) rfl rfl ?_
    refine XS.lload X132.here hx rfl (Jvm.hb hby at_230) rfl ?_
    show Steps p.tables e below (T132.setTop (mkF m 232 #[.val (.int sel), .val (.int len), .val (.int ps), .val (.int mt), .val (.long lc), .second, .val (.int (Int32.ofNat mk)), .val (.ref nmA_33), .val (.ref stA_33), .val (.int q38), .val (.int q45), .val (.int q52), .val (.int q59), .val (.int (Int32.ofNat nN_74)), .val (.ref b77), .unset, .unset, .unset, .unset] [(.long lc), (.ref nmA_33), (.int q38), (.int (5 : Int32)), (.int (5 : Int32)), (.ref b77)])) _
    show Steps p.tables e below (T132.setTop (mkF m 232 #[.val (.int sel), .val (.int len), .val (.int ps), .val (.int mt), .val (.long lc), .second, .val (.int (Int32.ofNat mk)), .val (.ref nmA_33), .val (.ref stA_33), .val (.int q38), .val (.int q45), .val (.int q52), .val (.int q59), .val (.int (Int32.ofNat nN_74)), .val (.ref b77), .unset, .unset, .unset, .unset] [(.long lc), (.ref nmA_33), (.int q38), (.int (5 : Int32)), (.int (5 : Int32)), (.ref b77)])) t_
    exact k_)
  have O135 : Old Z n0 h132 := (O124.wr W132 (show n0 ≤ b77 by omega))
  have f136 : Exa Z h132 nmA_33 "java/lang/String" := (f125.wr W132)
  have f137 : Fld Z h132 nmA_33 "java/lang/String" "value" "[B" (.ref bA_33) := (f126.other W132 (Or.inl (show @Ne Nat nmA_33 b77 by omega)))
  have f138 : Fld Z h132 nmA_33 "java/lang/String" "coder" "B" (.int (own_cod (own_nm mk))) := (f127.other W132 (Or.inl (show @Ne Nat nmA_33 b77 by omega)))
  have f139 : Arv Z h132 bA_33 kA_33 .byte (Int32.ofNat (own_enl (own_nm mk))) (own_enc (own_nm mk)) (.int (0 : Int32)) := (f128.other W132 (own_arvne f128 V121 (by decide)))
  have Zc140 : n0 ≤ h132.size := by omega
  obtain ⟨_, _, ⟨T141, L141, k141, n141⟩, -, X141, ⟨Lc141, hQ141, l141, y141, z141⟩, st141⟩ := Jvm.LawKit.callS X132 hx (y := (⟨"com/example/coyote_hill/coyotehill/ItemStateFromNamePinLaw", "pick", "(IZLjava/lang/String;J)C"⟩ : MethodName)) hown (mvT hZ (hw _ (List.mem_of_getElem? (i := 12) rfl))) (mvT hZ (hw _ (List.mem_of_getElem? (i := 13) rfl))) (mvT hZ (hw _ (List.mem_of_getElem? (i := 14) rfl))) (mvT hZ (hw _ (List.mem_of_getElem? (i := 15) rfl))) (by decide) (backOf (W := 2) (rmPick l Z a0 hw [] q38 nmA_33 lc 5 cst bA_33 kA_33 (own_nm mk) fmt h132 n0 Zc140 I1 (hfmt : fmt.isRef = true) I2 O135 (hcst : ¬ (cst = (0 : Int32))) f136 f137 f138 f139 (own_nmchs _) (own_nmlat _) (own_nml _) (by first | assumption | omega | rfl | decide : 5 < 8)) hZ (hw _ (List.mem_of_getElem? (i := 15) rfl)) (hw _ (List.mem_of_getElem? (i := 14) rfl)) (by decide) (by decide)) (g := (mkF m 232 #[.val (.int sel), .val (.int len), .val (.int ps), .val (.int mt), .val (.long lc), .second, .val (.int (Int32.ofNat mk)), .val (.ref nmA_33), .val (.ref stA_33), .val (.int q38), .val (.int q45), .val (.int q52), .val (.int q59), .val (.int (Int32.ofNat nN_74)), .val (.ref b77), .unset, .unset, .unset, .unset] [(.long lc), (.ref nmA_33), (.int q38), (.int (5 : Int32)), (.int (5 : Int32)), (.ref b77)])) rfl (by rw [hml]; rfl) (argsL := [(.int (5 : Int32)), (.int q38), (.ref nmA_33), (.long lc)]) (rest := [(.int (5 : Int32)), (.ref b77)]) (lenOf pd__IZLjava_lang_String_J_C rfl) rfl (by show 2 * 0 + _ ≤ _; exact Nat.le_of_eq rfl) (Jvm.hb hby at_232) (fun _ _ => ⟨rfl, e132, (by decide : 3 + 0 ≤ _), (by decide : 35 + 0 ≤ _)⟩)
  dsimp only [Pt.U, Pt.locs, Pt.cells, Pt.slots] at X141 l141 y141 z141 st141 hQ141
  subst l141 y141 z141
  obtain ⟨rr_141, rfl, N141q, e141, P141_0, P141_1⟩ := hQ141
  have N141 := Fr.app N132 N141q
  obtain ⟨cl142, Ar142, q142, S142, M142, H142, G142⟩ := id V132
  have hin142 : ¬ ((5 : Int32) < 0 ∨ cl142.slots.size ≤ ((5 : Int32)).toNatClampNeg) := inb_of S142 ⟨by decide, by decide⟩
  obtain ⟨T143, h143, X143, e143, W143, st143⟩ := stC X141 hx hZ e141 Ar142 (j := (5 : Int32)) hin142 (g := (mkF m 235 #[.val (.int sel), .val (.int len), .val (.int ps), .val (.int mt), .val (.long lc), .second, .val (.int (Int32.ofNat mk)), .val (.ref nmA_33), .val (.ref stA_33), .val (.int q38), .val (.int q45), .val (.int q52), .val (.int q59), .val (.int (Int32.ofNat nN_74)), .val (.ref b77), .unset, .unset, .unset, .unset] [(.int rr_141), (.int (5 : Int32)), (.ref b77)])) rfl rfl (Jvm.hb hby at_235)
  have z144 : h132.size ≤ h143.size := Nat.le_of_eq W143.size.symm
  have Cp144 : CHr Z ELs V33 h132 V33 h143 := CHr.wr W143 (Safe.arv hZ.alike V132 (by decide)) CR.1
  have hk := Nat.le_trans hk z144
  have CR := CR.trans Cp144
  have V143 : Arv Z h143 b77 k77 .char (7 : Int32) [(.int rr_86), (.int rr_97), (.int rr_108), (.int rr_119), (.int rr_130), (.int rr_141), (.int (0 : Int32))] (.int (0 : Int32)) := by have q : Arv Z h143 b77 k77 .char (7 : Int32) [(.int rr_86), (.int rr_97), (.int rr_108), (.int rr_119), (.int rr_130), (.int (nar .char rr_141)), (.int (0 : Int32))] (.int (0 : Int32)) := Arv.set Ar142 q142 S142 M142 H142 G142 (fits_nar_char _) W143 5 rfl (Nat.le_of_ble_eq_true rfl); rw [show nar .char rr_141 = rr_141 from own_narc P141_0 (own_le64k P141_1)] at q; exact q
  have N143 := Fr.snoc X143 N141 (show n0 ≤ b77 by omega)
  have s145 : ∀ t_, Steps p.tables e below (T143.setTop (mkF m 248 #[.val (.int sel), .val (.int len), .val (.int ps), .val (.int mt), .val (.long lc), .second, .val (.int (Int32.ofNat mk)), .val (.ref nmA_33), .val (.ref stA_33), .val (.int q38), .val (.int q45), .val (.int q52), .val (.int q59), .val (.int (Int32.ofNat nN_74)), .val (.ref b77), .unset, .unset, .unset, .unset] [(.long lc), (.ref nmA_33), (.int q38), (.int (6 : Int32)), (.int (6 : Int32)), (.ref b77)])) t_ → Steps p.tables e below (s₁.setTop (entryFrame m #[(.int sel), (.int len), (.int ps), (.int mt), (.long lc)] maxLocals)) t_ := fun t_ k_ => s134 t_ (by
    show Steps p.tables e below (T132.setTop (mkF m 232 #[.val (.int sel), .val (.int len), .val (.int ps), .val (.int mt), .val (.long lc), .second, .val (.int (Int32.ofNat mk)), .val (.ref nmA_33), .val (.ref stA_33), .val (.int q38), .val (.int q45), .val (.int q52), .val (.int q59), .val (.int (Int32.ofNat nN_74)), .val (.ref b77), .unset, .unset, .unset, .unset] [(.long lc), (.ref nmA_33), (.int q38), (.int (5 : Int32)), (.int (5 : Int32)), (.ref b77)])) t_
    refine st141 _ ?_
    show Steps p.tables e below (T141.setTop (mkF m 235 #[.val (.int sel), .val (.int len), .val (.int ps), .val (.int mt), .val (.long lc), .second, .val (.int (Int32.ofNat mk)), .val (.ref nmA_33), .val (.ref stA_33), .val (.int q38), .val (.int q45), .val (.int q52), .val (.int q59), .val (.int (Int32.ofNat nN_74)), .val (.ref b77), .unset, .unset, .unset, .unset] [(.int rr_141), (.int (5 : Int32)), (.ref b77)])) _
    refine st143 _ ?_
    show Steps p.tables e below (T143.setTop (mkF m 236 #[.val (.int sel), .val (.int len), .val (.int ps), .val (.int mt), .val (.long lc), .second, .val (.int (Int32.ofNat mk)), .val (.ref nmA_33), .val (.ref stA_33), .val (.int q38), .val (.int q45), .val (.int q52), .val (.int q59), .val (.int (Int32.ofNat nN_74)), .val (.ref b77), .unset, .unset, .unset, .unset] [])) _
    refine XS.aload X143.here hx rfl (Jvm.hb hby at_236) rfl rfl ?_
    refine XS.bipush X143.here hx rfl (Jvm.hb hby at_238) ?_
    refine XS.bipush X143.here hx rfl (Jvm.hb hby at_240) ?_
    refine XS.iload X143.here hx rfl (Jvm.hb hby at_242) rfl ?_
    refine XS.aload X143.here hx rfl (Jvm.hb hby at_244) rfl rfl ?_
    refine XS.lload X143.here hx rfl (Jvm.hb hby at_246) rfl ?_
    show Steps p.tables e below (T143.setTop (mkF m 248 #[.val (.int sel), .val (.int len), .val (.int ps), .val (.int mt), .val (.long lc), .second, .val (.int (Int32.ofNat mk)), .val (.ref nmA_33), .val (.ref stA_33), .val (.int q38), .val (.int q45), .val (.int q52), .val (.int q59), .val (.int (Int32.ofNat nN_74)), .val (.ref b77), .unset, .unset, .unset, .unset] [(.long lc), (.ref nmA_33), (.int q38), (.int (6 : Int32)), (.int (6 : Int32)), (.ref b77)])) _
    show Steps p.tables e below (T143.setTop (mkF m 248 #[.val (.int sel), .val (.int len), .val (.int ps), .val (.int mt), .val (.long lc), .second, .val (.int (Int32.ofNat mk)), .val (.ref nmA_33), .val (.ref stA_33), .val (.int q38), .val (.int q45), .val (.int q52), .val (.int q59), .val (.int (Int32.ofNat nN_74)), .val (.ref b77), .unset, .unset, .unset, .unset] [(.long lc), (.ref nmA_33), (.int q38), (.int (6 : Int32)), (.int (6 : Int32)), (.ref b77)])) t_
    exact k_)
  have O146 : Old Z n0 h143 := (O135.wr W143 (show n0 ≤ b77 by omega))
  have f147 : Exa Z h143 nmA_33 "java/lang/String" := (f136.wr W143)
  have f148 : Fld Z h143 nmA_33 "java/lang/String" "value" "[B" (.ref bA_33) := (f137.other W143 (Or.inl (show @Ne Nat nmA_33 b77 by omega)))
  have f149 : Fld Z h143 nmA_33 "java/lang/String" "coder" "B" (.int (own_cod (own_nm mk))) := (f138.other W143 (Or.inl (show @Ne Nat nmA_33 b77 by omega)))
  have f150 : Arv Z h143 bA_33 kA_33 .byte (Int32.ofNat (own_enl (own_nm mk))) (own_enc (own_nm mk)) (.int (0 : Int32)) := (f139.other W143 (own_arvne f139 V132 (by decide)))
  have Zc151 : n0 ≤ h143.size := by omega
  obtain ⟨_, _, ⟨T152, L152, k152, n152⟩, -, X152, ⟨Lc152, hQ152, l152, y152, z152⟩, st152⟩ := Jvm.LawKit.callS X143 hx (y := (⟨"com/example/coyote_hill/coyotehill/ItemStateFromNamePinLaw", "pick", "(IZLjava/lang/String;J)C"⟩ : MethodName)) hown (mvT hZ (hw _ (List.mem_of_getElem? (i := 12) rfl))) (mvT hZ (hw _ (List.mem_of_getElem? (i := 13) rfl))) (mvT hZ (hw _ (List.mem_of_getElem? (i := 14) rfl))) (mvT hZ (hw _ (List.mem_of_getElem? (i := 15) rfl))) (by decide) (backOf (W := 2) (rmPick l Z a0 hw [] q38 nmA_33 lc 6 cst bA_33 kA_33 (own_nm mk) fmt h143 n0 Zc151 I1 (hfmt : fmt.isRef = true) I2 O146 (hcst : ¬ (cst = (0 : Int32))) f147 f148 f149 f150 (own_nmchs _) (own_nmlat _) (own_nml _) (by first | assumption | omega | rfl | decide : 6 < 8)) hZ (hw _ (List.mem_of_getElem? (i := 15) rfl)) (hw _ (List.mem_of_getElem? (i := 14) rfl)) (by decide) (by decide)) (g := (mkF m 248 #[.val (.int sel), .val (.int len), .val (.int ps), .val (.int mt), .val (.long lc), .second, .val (.int (Int32.ofNat mk)), .val (.ref nmA_33), .val (.ref stA_33), .val (.int q38), .val (.int q45), .val (.int q52), .val (.int q59), .val (.int (Int32.ofNat nN_74)), .val (.ref b77), .unset, .unset, .unset, .unset] [(.long lc), (.ref nmA_33), (.int q38), (.int (6 : Int32)), (.int (6 : Int32)), (.ref b77)])) rfl (by rw [hml]; rfl) (argsL := [(.int (6 : Int32)), (.int q38), (.ref nmA_33), (.long lc)]) (rest := [(.int (6 : Int32)), (.ref b77)]) (lenOf pd__IZLjava_lang_String_J_C rfl) rfl (by show 2 * 0 + _ ≤ _; exact Nat.le_of_eq rfl) (Jvm.hb hby at_248) (fun _ _ => ⟨rfl, e143, (by decide : 3 + 0 ≤ _), (by decide : 35 + 0 ≤ _)⟩)
  dsimp only [Pt.U, Pt.locs, Pt.cells, Pt.slots] at X152 l152 y152 z152 st152 hQ152
  subst l152 y152 z152
  obtain ⟨rr_152, rfl, N152q, e152, P152_0, P152_1⟩ := hQ152
  have N152 := Fr.app N143 N152q
  obtain ⟨cl153, Ar153, q153, S153, M153, H153, G153⟩ := id V143
  have hin153 : ¬ ((6 : Int32) < 0 ∨ cl153.slots.size ≤ ((6 : Int32)).toNatClampNeg) := inb_of S153 ⟨by decide, by decide⟩
  obtain ⟨T154, h154, X154, e154, W154, st154⟩ := stC X152 hx hZ e152 Ar153 (j := (6 : Int32)) hin153 (g := (mkF m 251 #[.val (.int sel), .val (.int len), .val (.int ps), .val (.int mt), .val (.long lc), .second, .val (.int (Int32.ofNat mk)), .val (.ref nmA_33), .val (.ref stA_33), .val (.int q38), .val (.int q45), .val (.int q52), .val (.int q59), .val (.int (Int32.ofNat nN_74)), .val (.ref b77), .unset, .unset, .unset, .unset] [(.int rr_152), (.int (6 : Int32)), (.ref b77)])) rfl rfl (Jvm.hb hby at_251)
  have z155 : h143.size ≤ h154.size := Nat.le_of_eq W154.size.symm
  have Cp155 : CHr Z ELs V33 h143 V33 h154 := CHr.wr W154 (Safe.arv hZ.alike V143 (by decide)) CR.1
  have hk := Nat.le_trans hk z155
  have CR := CR.trans Cp155
  have V154 : Arv Z h154 b77 k77 .char (7 : Int32) [(.int rr_86), (.int rr_97), (.int rr_108), (.int rr_119), (.int rr_130), (.int rr_141), (.int rr_152)] (.int (0 : Int32)) := by have q : Arv Z h154 b77 k77 .char (7 : Int32) [(.int rr_86), (.int rr_97), (.int rr_108), (.int rr_119), (.int rr_130), (.int rr_141), (.int (nar .char rr_152))] (.int (0 : Int32)) := Arv.set Ar153 q153 S153 M153 H153 G153 (fits_nar_char _) W154 6 rfl (Nat.le_of_ble_eq_true rfl); rw [show nar .char rr_152 = rr_152 from own_narc P152_0 (own_le64k P152_1)] at q; exact q
  have N154 := Fr.snoc X154 N152 (show n0 ≤ b77 by omega)
  have s156 : ∀ t_, Steps p.tables e below (T154.setTop (mkF m 252 #[.val (.int sel), .val (.int len), .val (.int ps), .val (.int mt), .val (.long lc), .second, .val (.int (Int32.ofNat mk)), .val (.ref nmA_33), .val (.ref stA_33), .val (.int q38), .val (.int q45), .val (.int q52), .val (.int q59), .val (.int (Int32.ofNat nN_74)), .val (.ref b77), .unset, .unset, .unset, .unset] [])) t_ → Steps p.tables e below (s₁.setTop (entryFrame m #[(.int sel), (.int len), (.int ps), (.int mt), (.long lc)] maxLocals)) t_ := fun t_ k_ => s145 t_ (by
    show Steps p.tables e below (T143.setTop (mkF m 248 #[.val (.int sel), .val (.int len), .val (.int ps), .val (.int mt), .val (.long lc), .second, .val (.int (Int32.ofNat mk)), .val (.ref nmA_33), .val (.ref stA_33), .val (.int q38), .val (.int q45), .val (.int q52), .val (.int q59), .val (.int (Int32.ofNat nN_74)), .val (.ref b77), .unset, .unset, .unset, .unset] [(.long lc), (.ref nmA_33), (.int q38), (.int (6 : Int32)), (.int (6 : Int32)), (.ref b77)])) t_
    refine st152 _ ?_
    show Steps p.tables e below (T152.setTop (mkF m 251 #[.val (.int sel), .val (.int len), .val (.int ps), .val (.int mt), .val (.long lc), .second, .val (.int (Int32.ofNat mk)), .val (.ref nmA_33), .val (.ref stA_33), .val (.int q38), .val (.int q45), .val (.int q52), .val (.int q59), .val (.int (Int32.ofNat nN_74)), .val (.ref b77), .unset, .unset, .unset, .unset] [(.int rr_152), (.int (6 : Int32)), (.ref b77)])) _
    refine st154 _ ?_
    show Steps p.tables e below (T154.setTop (mkF m 252 #[.val (.int sel), .val (.int len), .val (.int ps), .val (.int mt), .val (.long lc), .second, .val (.int (Int32.ofNat mk)), .val (.ref nmA_33), .val (.ref stA_33), .val (.int q38), .val (.int q45), .val (.int q52), .val (.int q59), .val (.int (Int32.ofNat nN_74)), .val (.ref b77), .unset, .unset, .unset, .unset] [])) _
    show Steps p.tables e below (T154.setTop (mkF m 252 #[.val (.int sel), .val (.int len), .val (.int ps), .val (.int mt), .val (.long lc), .second, .val (.int (Int32.ofNat mk)), .val (.ref nmA_33), .val (.ref stA_33), .val (.int q38), .val (.int q45), .val (.int q52), .val (.int q59), .val (.int (Int32.ofNat nN_74)), .val (.ref b77), .unset, .unset, .unset, .unset] [])) t_
    exact k_)
  have bk157 : ∃ (T' : State) (lo' : List Loc) (hx_ : Heap) (fe_ : JFrame), Stand p l e room_1 (s.setVm V33) m #[(.int sel), (.int len), (.int ps), (.int mt), (.long lc)] below meth c T' lo' 3 35 ∧ T'.heap = hx_ ∧ Fr n0 lo' ∧ Keep h154 hx_ [b77] ∧ ((∃ (d0_ : Int32), ∃ (d1_ : Int32), ∃ (d2_ : Int32), ∃ (d3_ : Int32), ∃ (d4_ : Int32), ∃ (d5_ : Int32), ∃ (d6_ : Int32), fe_ = (mkF m 273 #[.val (.int sel), .val (.int len), .val (.int ps), .val (.int mt), .val (.long lc), .second, .val (.int (Int32.ofNat mk)), .val (.ref nmA_33), .val (.ref stA_33), .val (.int q38), .val (.int q45), .val (.int q52), .val (.int q59), .val (.int (Int32.ofNat nN_74)), .val (.ref b77), .unset, .unset, .unset, .unset] []) ∧ Arv Z hx_ b77 k77 .char (7 : Int32) [(.int d0_), (.int d1_), (.int d2_), (.int d3_), (.int d4_), (.int d5_), (.int d6_)] (.int (0 : Int32)) ∧ (¬ (d0_ < (0 : Int32))) ∧ (¬ ((255 : Int32) < d0_)) ∧ (¬ (d1_ < (0 : Int32))) ∧ (¬ ((255 : Int32) < d1_)) ∧ (¬ (d2_ < (0 : Int32))) ∧ (¬ ((255 : Int32) < d2_)) ∧ (¬ (d3_ < (0 : Int32))) ∧ (¬ ((255 : Int32) < d3_)) ∧ (¬ (d4_ < (0 : Int32))) ∧ (¬ ((255 : Int32) < d4_)) ∧ (¬ (d5_ < (0 : Int32))) ∧ (¬ ((255 : Int32) < d5_)) ∧ (¬ (d6_ < (0 : Int32))) ∧ (¬ ((255 : Int32) < d6_)))) ∧ ∀ t_, Steps p.tables e below (T'.setTop fe_) t_ → Steps p.tables e below (s₁.setTop (entryFrame m #[(.int sel), (.int len), (.int ps), (.int mt), (.long lc)] maxLocals)) t_ := by
    have s158 : ∀ t_, Steps p.tables e below (T154.setTop (mkF m 254 #[.val (.int sel), .val (.int len), .val (.int ps), .val (.int mt), .val (.long lc), .second, .val (.int (Int32.ofNat mk)), .val (.ref nmA_33), .val (.ref stA_33), .val (.int q38), .val (.int q45), .val (.int q52), .val (.int q59), .val (.int (Int32.ofNat nN_74)), .val (.ref b77), .unset, .unset, .unset, .unset] [(.int q45)])) t_ → Steps p.tables e below (s₁.setTop (entryFrame m #[(.int sel), (.int len), (.int ps), (.int mt), (.long lc)] maxLocals)) t_ := fun t_ k_ => s156 t_ (by
      show Steps p.tables e below (T154.setTop (mkF m 252 #[.val (.int sel), .val (.int len), .val (.int ps), .val (.int mt), .val (.long lc), .second, .val (.int (Int32.ofNat mk)), .val (.ref nmA_33), .val (.ref stA_33), .val (.int q38), .val (.int q45), .val (.int q52), .val (.int q59), .val (.int (Int32.ofNat nN_74)), .val (.ref b77), .unset, .unset, .unset, .unset] [])) t_
      refine XS.iload X154.here hx rfl (Jvm.hb hby at_252) rfl ?_
      show Steps p.tables e below (T154.setTop (mkF m 254 #[.val (.int sel), .val (.int len), .val (.int ps), .val (.int mt), .val (.long lc), .second, .val (.int (Int32.ofNat mk)), .val (.ref nmA_33), .val (.ref stA_33), .val (.int q38), .val (.int q45), .val (.int q52), .val (.int q59), .val (.int (Int32.ofNat nN_74)), .val (.ref b77), .unset, .unset, .unset, .unset] [(.int q45)])) t_
      exact k_)
    by_cases h159 : q45 = (0 : Int32)
    · have s160 : ∀ t_, Steps p.tables e below (T154.setTop (mkF m 273 #[.val (.int sel), .val (.int len), .val (.int ps), .val (.int mt), .val (.long lc), .second, .val (.int (Int32.ofNat mk)), .val (.ref nmA_33), .val (.ref stA_33), .val (.int q38), .val (.int q45), .val (.int q52), .val (.int q59), .val (.int (Int32.ofNat nN_74)), .val (.ref b77), .unset, .unset, .unset, .unset] [])) t_ → Steps p.tables e below (s₁.setTop (entryFrame m #[(.int sel), (.int len), (.int ps), (.int mt), (.long lc)] maxLocals)) t_ := fun t_ k_ => s158 t_ (by
        show Steps p.tables e below (T154.setTop (mkF m 254 #[.val (.int sel), .val (.int len), .val (.int ps), .val (.int mt), .val (.long lc), .second, .val (.int (Int32.ofNat mk)), .val (.ref nmA_33), .val (.ref stA_33), .val (.int q38), .val (.int q45), .val (.int q52), .val (.int q59), .val (.int (Int32.ofNat nN_74)), .val (.ref b77), .unset, .unset, .unset, .unset] [(.int q45)])) t_
        refine XS.ifYes X154.here hx rfl (pc0 := 254) (pc' := 273) rfl (Jvm.hb hby at_254) rfl ((if0 _ _).trans (teq h159).1) (by decide) (by decide) ?_
        show Steps p.tables e below (T154.setTop (mkF m 273 #[.val (.int sel), .val (.int len), .val (.int ps), .val (.int mt), .val (.long lc), .second, .val (.int (Int32.ofNat mk)), .val (.ref nmA_33), .val (.ref stA_33), .val (.int q38), .val (.int q45), .val (.int q52), .val (.int q59), .val (.int (Int32.ofNat nN_74)), .val (.ref b77), .unset, .unset, .unset, .unset] [])) _
        show Steps p.tables e below (T154.setTop (mkF m 273 #[.val (.int sel), .val (.int len), .val (.int ps), .val (.int mt), .val (.long lc), .second, .val (.int (Int32.ofNat mk)), .val (.ref nmA_33), .val (.ref stA_33), .val (.int q38), .val (.int q45), .val (.int q52), .val (.int q59), .val (.int (Int32.ofNat nN_74)), .val (.ref b77), .unset, .unset, .unset, .unset] [])) t_
        exact k_)
      exact ⟨T154, _, _, _, X154, e154, N154, (Keep.refl h154 [b77]), ⟨rr_86, rr_97, rr_108, rr_119, rr_130, rr_141, rr_152, rfl, V154, P86_0, P86_1, P97_0, P97_1, P108_0, P108_1, P119_0, P119_1, P130_0, P130_1, P141_0, P141_1, P152_0, P152_1⟩, s160⟩
    · obtain ⟨q161, hq161⟩ : ∃ z : Int32, z = (i2c (mt &&& (255 : Int32))) := ⟨_, rfl⟩
      obtain ⟨mi, hmi, hmil⟩ := own_modn ps 7 7 (by decide) (by decide) (by decide)
      have s162 : ∀ t_, Steps p.tables e below (T154.setTop (mkF m 272 #[.val (.int sel), .val (.int len), .val (.int ps), .val (.int mt), .val (.long lc), .second, .val (.int (Int32.ofNat mk)), .val (.ref nmA_33), .val (.ref stA_33), .val (.int q38), .val (.int q45), .val (.int q52), .val (.int q59), .val (.int (Int32.ofNat nN_74)), .val (.ref b77), .unset, .unset, .unset, .unset] [(.int q161), (.int (Int32.ofNat mi)), (.ref b77)])) t_ → Steps p.tables e below (s₁.setTop (entryFrame m #[(.int sel), (.int len), (.int ps), (.int mt), (.long lc)] maxLocals)) t_ := fun t_ k_ => s158 t_ (by
        show Steps p.tables e below (T154.setTop (mkF m 254 #[.val (.int sel), .val (.int len), .val (.int ps), .val (.int mt), .val (.long lc), .second, .val (.int (Int32.ofNat mk)), .val (.ref nmA_33), .val (.ref stA_33), .val (.int q38), .val (.int q45), .val (.int q52), .val (.int q59), .val (.int (Int32.ofNat nN_74)), .val (.ref b77), .unset, .unset, .unset, .unset] [(.int q45)])) t_
        refine XS.ifNo X154.here hx rfl (Jvm.hb hby at_254) rfl ((if0 _ _).trans (feq h159).1) ?_
        show Steps p.tables e below (T154.setTop (mkF m 257 #[.val (.int sel), .val (.int len), .val (.int ps), .val (.int mt), .val (.long lc), .second, .val (.int (Int32.ofNat mk)), .val (.ref nmA_33), .val (.ref stA_33), .val (.int q38), .val (.int q45), .val (.int q52), .val (.int q59), .val (.int (Int32.ofNat nN_74)), .val (.ref b77), .unset, .unset, .unset, .unset] [])) _
        refine XS.aload X154.here hx rfl (Jvm.hb hby at_257) rfl rfl ?_
        refine XS.iloadN X154.here hx rfl (Jvm.hb hby at_259) rfl ?_
        refine X154.ldcInt hx hown (mvT hZ (hw _ (List.mem_of_getElem? (i := 90) rfl))) (g := (mkF m 260 #[.val (.int sel), .val (.int len), .val (.int ps), .val (.int mt), .val (.long lc), .second, .val (.int (Int32.ofNat mk)), .val (.ref nmA_33), .val (.ref stA_33), .val (.int q38), .val (.int q45), .val (.int q52), .val (.int q59), .val (.int (Int32.ofNat nN_74)), .val (.ref b77), .unset, .unset, .unset, .unset] [(.int ps), (.ref b77)])) rfl (Jvm.hb hby at_260) _ ?_
        show Steps p.tables e below (T154.setTop (mkF m 262 #[.val (.int sel), .val (.int len), .val (.int ps), .val (.int mt), .val (.long lc), .second, .val (.int (Int32.ofNat mk)), .val (.ref nmA_33), .val (.ref stA_33), .val (.int q38), .val (.int q45), .val (.int q52), .val (.int q59), .val (.int (Int32.ofNat nN_74)), .val (.ref b77), .unset, .unset, .unset, .unset] [(.int (2147483647 : Int32)), (.int ps), (.ref b77)])) _
        refine XS.iand X154.here hx rfl (Jvm.hb hby at_262) rfl ?_
        refine XS.bipush X154.here hx rfl (Jvm.hb hby at_263) ?_
        refine iremM (g := (mkF m 265 #[.val (.int sel), .val (.int len), .val (.int ps), .val (.int mt), .val (.long lc), .second, .val (.int (Int32.ofNat mk)), .val (.ref nmA_33), .val (.ref stA_33), .val (.int q38), .val (.int q45), .val (.int q52), .val (.int q59), .val (.int (Int32.ofNat nN_74)), .val (.ref b77), .unset, .unset, .unset, .unset] [(.int (7 : Int32)), (.int (ps &&& (2147483647 : Int32))), (.ref b77)])) X154 hx rfl (Jvm.hb hby at_265) rfl (by decide) ?_
        show Steps p.tables e below (T154.setTop (mkF m 266 #[.val (.int sel), .val (.int len), .val (.int ps), .val (.int mt), .val (.long lc), .second, .val (.int (Int32.ofNat mk)), .val (.ref nmA_33), .val (.ref stA_33), .val (.int q38), .val (.int q45), .val (.int q52), .val (.int q59), .val (.int (Int32.ofNat nN_74)), .val (.ref b77), .unset, .unset, .unset, .unset] [(.int ((ps &&& (2147483647 : Int32)) % (7 : Int32))), (.ref b77)])) _
        refine XS.iloadN X154.here hx rfl (Jvm.hb hby at_266) rfl ?_
        refine XS.sipush X154.here hx rfl (Jvm.hb hby at_267) ?_
        refine XS.iand X154.here hx rfl (Jvm.hb hby at_270) rfl ?_
        refine XS.i2c X154.here hx rfl (Jvm.hb hby at_271) rfl ?_
        show Steps p.tables e below (T154.setTop (mkF m 272 #[.val (.int sel), .val (.int len), .val (.int ps), .val (.int mt), .val (.long lc), .second, .val (.int (Int32.ofNat mk)), .val (.ref nmA_33), .val (.ref stA_33), .val (.int q38), .val (.int q45), .val (.int q52), .val (.int q59), .val (.int (Int32.ofNat nN_74)), .val (.ref b77), .unset, .unset, .unset, .unset] [(.int (i2c (mt &&& (255 : Int32)))), (.int ((ps &&& (2147483647 : Int32)) % (7 : Int32))), (.ref b77)])) t_
        exact castTop (by simp only [hq161, hmi]) k_)
      have rg163 : ¬ (q161 < (0 : Int32)) ∧ ¬ ((255 : Int32) < q161) := by rw [hq161]; exact own_b255 _
      have rh163 : ¬ (q161 < (0 : Int32)) ∧ ¬ ((65535 : Int32) < q161) := ⟨rg163.1, own_le64k rg163.2⟩
      by_cases h164 : mi = 0
      · have s165 : ∀ t_, Steps p.tables e below (T154.setTop (mkF m 272 #[.val (.int sel), .val (.int len), .val (.int ps), .val (.int mt), .val (.long lc), .second, .val (.int (Int32.ofNat mk)), .val (.ref nmA_33), .val (.ref stA_33), .val (.int q38), .val (.int q45), .val (.int q52), .val (.int q59), .val (.int (Int32.ofNat nN_74)), .val (.ref b77), .unset, .unset, .unset, .unset] [(.int q161), (.int (0 : Int32)), (.ref b77)])) t_ → Steps p.tables e below (s₁.setTop (entryFrame m #[(.int sel), (.int len), (.int ps), (.int mt), (.long lc)] maxLocals)) t_ := fun t_ k_ => s162 t_ (castTop (by subst h164; rfl) k_)
        obtain ⟨cl166, Ar166, q166, S166, M166, H166, G166⟩ := id V154
        have hin166 : ¬ ((0 : Int32) < 0 ∨ cl166.slots.size ≤ ((0 : Int32)).toNatClampNeg) := inb_of S166 ⟨by decide, by decide⟩
        obtain ⟨T167, h167, X167, e167, W167, st167⟩ := stC X154 hx hZ e154 Ar166 (j := (0 : Int32)) hin166 (g := (mkF m 272 #[.val (.int sel), .val (.int len), .val (.int ps), .val (.int mt), .val (.long lc), .second, .val (.int (Int32.ofNat mk)), .val (.ref nmA_33), .val (.ref stA_33), .val (.int q38), .val (.int q45), .val (.int q52), .val (.int q59), .val (.int (Int32.ofNat nN_74)), .val (.ref b77), .unset, .unset, .unset, .unset] [(.int q161), (.int (0 : Int32)), (.ref b77)])) rfl rfl (Jvm.hb hby at_272)
        have z168 : h154.size ≤ h167.size := Nat.le_of_eq W167.size.symm
        have Cp168 : CHr Z ELs V33 h154 V33 h167 := CHr.wr W167 (Safe.arv hZ.alike V154 (by decide)) CR.1
        have hk := Nat.le_trans hk z168
        have CR := CR.trans Cp168
        have V167 : Arv Z h167 b77 k77 .char (7 : Int32) [(.int q161), (.int rr_97), (.int rr_108), (.int rr_119), (.int rr_130), (.int rr_141), (.int rr_152)] (.int (0 : Int32)) := by have q : Arv Z h167 b77 k77 .char (7 : Int32) [(.int (nar .char q161)), (.int rr_97), (.int rr_108), (.int rr_119), (.int rr_130), (.int rr_141), (.int rr_152)] (.int (0 : Int32)) := Arv.set Ar166 q166 S166 M166 H166 G166 (fits_nar_char _) W167 0 rfl (Nat.le_of_ble_eq_true rfl); rw [show nar .char q161 = q161 from own_narc rh163.1 rh163.2] at q; exact q
        have N167 := Fr.snoc X167 N154 (show n0 ≤ b77 by omega)
        have s169 : ∀ t_, Steps p.tables e below (T167.setTop (mkF m 273 #[.val (.int sel), .val (.int len), .val (.int ps), .val (.int mt), .val (.long lc), .second, .val (.int (Int32.ofNat mk)), .val (.ref nmA_33), .val (.ref stA_33), .val (.int q38), .val (.int q45), .val (.int q52), .val (.int q59), .val (.int (Int32.ofNat nN_74)), .val (.ref b77), .unset, .unset, .unset, .unset] [])) t_ → Steps p.tables e below (s₁.setTop (entryFrame m #[(.int sel), (.int len), (.int ps), (.int mt), (.long lc)] maxLocals)) t_ := fun t_ k_ => s165 t_ (by
          show Steps p.tables e below (T154.setTop (mkF m 272 #[.val (.int sel), .val (.int len), .val (.int ps), .val (.int mt), .val (.long lc), .second, .val (.int (Int32.ofNat mk)), .val (.ref nmA_33), .val (.ref stA_33), .val (.int q38), .val (.int q45), .val (.int q52), .val (.int q59), .val (.int (Int32.ofNat nN_74)), .val (.ref b77), .unset, .unset, .unset, .unset] [(.int q161), (.int (0 : Int32)), (.ref b77)])) t_
          refine st167 _ ?_
          show Steps p.tables e below (T167.setTop (mkF m 273 #[.val (.int sel), .val (.int len), .val (.int ps), .val (.int mt), .val (.long lc), .second, .val (.int (Int32.ofNat mk)), .val (.ref nmA_33), .val (.ref stA_33), .val (.int q38), .val (.int q45), .val (.int q52), .val (.int q59), .val (.int (Int32.ofNat nN_74)), .val (.ref b77), .unset, .unset, .unset, .unset] [])) _
          show Steps p.tables e below (T167.setTop (mkF m 273 #[.val (.int sel), .val (.int len), .val (.int ps), .val (.int mt), .val (.long lc), .second, .val (.int (Int32.ofNat mk)), .val (.ref nmA_33), .val (.ref stA_33), .val (.int q38), .val (.int q45), .val (.int q52), .val (.int q59), .val (.int (Int32.ofNat nN_74)), .val (.ref b77), .unset, .unset, .unset, .unset] [])) t_
          exact k_)
        exact ⟨T167, _, _, _, X167, e167, N167, ((Keep.refl h154 [b77]).wr W167 (Or.inl (by simp))), ⟨q161, rr_97, rr_108, rr_119, rr_130, rr_141, rr_152, rfl, V167, rg163.1, rg163.2, P97_0, P97_1, P108_0, P108_1, P119_0, P119_1, P130_0, P130_1, P141_0, P141_1, P152_0, P152_1⟩, s169⟩
      · have s170 : ∀ t_, Steps p.tables e below (T154.setTop (mkF m 272 #[.val (.int sel), .val (.int len), .val (.int ps), .val (.int mt), .val (.long lc), .second, .val (.int (Int32.ofNat mk)), .val (.ref nmA_33), .val (.ref stA_33), .val (.int q38), .val (.int q45), .val (.int q52), .val (.int q59), .val (.int (Int32.ofNat nN_74)), .val (.ref b77), .unset, .unset, .unset, .unset] [(.int q161), (.int (Int32.ofNat mi)), (.ref b77)])) t_ → Steps p.tables e below (s₁.setTop (entryFrame m #[(.int sel), (.int len), (.int ps), (.int mt), (.long lc)] maxLocals)) t_ := fun t_ k_ => s162 t_ (castTop (by rfl) k_)
        by_cases h171 : mi = 1
        · have s172 : ∀ t_, Steps p.tables e below (T154.setTop (mkF m 272 #[.val (.int sel), .val (.int len), .val (.int ps), .val (.int mt), .val (.long lc), .second, .val (.int (Int32.ofNat mk)), .val (.ref nmA_33), .val (.ref stA_33), .val (.int q38), .val (.int q45), .val (.int q52), .val (.int q59), .val (.int (Int32.ofNat nN_74)), .val (.ref b77), .unset, .unset, .unset, .unset] [(.int q161), (.int (1 : Int32)), (.ref b77)])) t_ → Steps p.tables e below (s₁.setTop (entryFrame m #[(.int sel), (.int len), (.int ps), (.int mt), (.long lc)] maxLocals)) t_ := fun t_ k_ => s170 t_ (castTop (by subst h171; rfl) k_)
          obtain ⟨cl173, Ar173, q173, S173, M173, H173, G173⟩ := id V154
          have hin173 : ¬ ((1 : Int32) < 0 ∨ cl173.slots.size ≤ ((1 : Int32)).toNatClampNeg) := inb_of S173 ⟨by decide, by decide⟩
          obtain ⟨T174, h174, X174, e174, W174, st174⟩ := stC X154 hx hZ e154 Ar173 (j := (1 : Int32)) hin173 (g := (mkF m 272 #[.val (.int sel), .val (.int len), .val (.int ps), .val (.int mt), .val (.long lc), .second, .val (.int (Int32.ofNat mk)), .val (.ref nmA_33), .val (.ref stA_33), .val (.int q38), .val (.int q45), .val (.int q52), .val (.int q59), .val (.int (Int32.ofNat nN_74)), .val (.ref b77), .unset, .unset, .unset, .unset] [(.int q161), (.int (1 : Int32)), (.ref b77)])) rfl rfl (Jvm.hb hby at_272)
          have z175 : h154.size ≤ h174.size := Nat.le_of_eq W174.size.symm
          have Cp175 : CHr Z ELs V33 h154 V33 h174 := CHr.wr W174 (Safe.arv hZ.alike V154 (by decide)) CR.1
          have hk := Nat.le_trans hk z175
          have CR := CR.trans Cp175
          have V174 : Arv Z h174 b77 k77 .char (7 : Int32) [(.int rr_86), (.int q161), (.int rr_108), (.int rr_119), (.int rr_130), (.int rr_141), (.int rr_152)] (.int (0 : Int32)) := by have q : Arv Z h174 b77 k77 .char (7 : Int32) [(.int rr_86), (.int (nar .char q161)), (.int rr_108), (.int rr_119), (.int rr_130), (.int rr_141), (.int rr_152)] (.int (0 : Int32)) := Arv.set Ar173 q173 S173 M173 H173 G173 (fits_nar_char _) W174 1 rfl (Nat.le_of_ble_eq_true rfl); rw [show nar .char q161 = q161 from own_narc rh163.1 rh163.2] at q; exact q
          have N174 := Fr.snoc X174 N154 (show n0 ≤ b77 by omega)
          have s176 : ∀ t_, Steps p.tables e below (T174.setTop (mkF m 273 #[.val (.int sel), .val (.int len), .val (.int ps), .val (.int mt), .val (.long lc), .second, .val (.int (Int32.ofNat mk)), .val (.ref nmA_33), .val (.ref stA_33), .val (.int q38), .val (.int q45), .val (.int q52), .val (.int q59), .val (.int (Int32.ofNat nN_74)), .val (.ref b77), .unset, .unset, .unset, .unset] [])) t_ → Steps p.tables e below (s₁.setTop (entryFrame m #[(.int sel), (.int len), (.int ps), (.int mt), (.long lc)] maxLocals)) t_ := fun t_ k_ => s172 t_ (by
            show Steps p.tables e below (T154.setTop (mkF m 272 #[.val (.int sel), .val (.int len), .val (.int ps), .val (.int mt), .val (.long lc), .second, .val (.int (Int32.ofNat mk)), .val (.ref nmA_33), .val (.ref stA_33), .val (.int q38), .val (.int q45), .val (.int q52), .val (.int q59), .val (.int (Int32.ofNat nN_74)), .val (.ref b77), .unset, .unset, .unset, .unset] [(.int q161), (.int (1 : Int32)), (.ref b77)])) t_
            refine st174 _ ?_
            show Steps p.tables e below (T174.setTop (mkF m 273 #[.val (.int sel), .val (.int len), .val (.int ps), .val (.int mt), .val (.long lc), .second, .val (.int (Int32.ofNat mk)), .val (.ref nmA_33), .val (.ref stA_33), .val (.int q38), .val (.int q45), .val (.int q52), .val (.int q59), .val (.int (Int32.ofNat nN_74)), .val (.ref b77), .unset, .unset, .unset, .unset] [])) _
            show Steps p.tables e below (T174.setTop (mkF m 273 #[.val (.int sel), .val (.int len), .val (.int ps), .val (.int mt), .val (.long lc), .second, .val (.int (Int32.ofNat mk)), .val (.ref nmA_33), .val (.ref stA_33), .val (.int q38), .val (.int q45), .val (.int q52), .val (.int q59), .val (.int (Int32.ofNat nN_74)), .val (.ref b77), .unset, .unset, .unset, .unset] [])) t_
            exact k_)
          exact ⟨T174, _, _, _, X174, e174, N174, ((Keep.refl h154 [b77]).wr W174 (Or.inl (by simp))), ⟨rr_86, q161, rr_108, rr_119, rr_130, rr_141, rr_152, rfl, V174, P86_0, P86_1, rg163.1, rg163.2, P108_0, P108_1, P119_0, P119_1, P130_0, P130_1, P141_0, P141_1, P152_0, P152_1⟩, s176⟩
        · have s177 : ∀ t_, Steps p.tables e below (T154.setTop (mkF m 272 #[.val (.int sel), .val (.int len), .val (.int ps), .val (.int mt), .val (.long lc), .second, .val (.int (Int32.ofNat mk)), .val (.ref nmA_33), .val (.ref stA_33), .val (.int q38), .val (.int q45), .val (.int q52), .val (.int q59), .val (.int (Int32.ofNat nN_74)), .val (.ref b77), .unset, .unset, .unset, .unset] [(.int q161), (.int (Int32.ofNat mi)), (.ref b77)])) t_ → Steps p.tables e below (s₁.setTop (entryFrame m #[(.int sel), (.int len), (.int ps), (.int mt), (.long lc)] maxLocals)) t_ := fun t_ k_ => s170 t_ (castTop (by rfl) k_)
          by_cases h178 : mi = 2
          · have s179 : ∀ t_, Steps p.tables e below (T154.setTop (mkF m 272 #[.val (.int sel), .val (.int len), .val (.int ps), .val (.int mt), .val (.long lc), .second, .val (.int (Int32.ofNat mk)), .val (.ref nmA_33), .val (.ref stA_33), .val (.int q38), .val (.int q45), .val (.int q52), .val (.int q59), .val (.int (Int32.ofNat nN_74)), .val (.ref b77), .unset, .unset, .unset, .unset] [(.int q161), (.int (2 : Int32)), (.ref b77)])) t_ → Steps p.tables e below (s₁.setTop (entryFrame m #[(.int sel), (.int len), (.int ps), (.int mt), (.long lc)] maxLocals)) t_ := fun t_ k_ => s177 t_ (castTop (by subst h178; rfl) k_)
            obtain ⟨cl180, Ar180, q180, S180, M180, H180, G180⟩ := id V154
            have hin180 : ¬ ((2 : Int32) < 0 ∨ cl180.slots.size ≤ ((2 : Int32)).toNatClampNeg) := inb_of S180 ⟨by decide, by decide⟩
            obtain ⟨T181, h181, X181, e181, W181, st181⟩ := stC X154 hx hZ e154 Ar180 (j := (2 : Int32)) hin180 (g := (mkF m 272 #[.val (.int sel), .val (.int len), .val (.int ps), .val (.int mt), .val (.long lc), .second, .val (.int (Int32.ofNat mk)), .val (.ref nmA_33), .val (.ref stA_33), .val (.int q38), .val (.int q45), .val (.int q52), .val (.int q59), .val (.int (Int32.ofNat nN_74)), .val (.ref b77), .unset, .unset, .unset, .unset] [(.int q161), (.int (2 : Int32)), (.ref b77)])) rfl rfl (Jvm.hb hby at_272)
            have z182 : h154.size ≤ h181.size := Nat.le_of_eq W181.size.symm
            have Cp182 : CHr Z ELs V33 h154 V33 h181 := CHr.wr W181 (Safe.arv hZ.alike V154 (by decide)) CR.1
            have hk := Nat.le_trans hk z182
            have CR := CR.trans Cp182
            have V181 : Arv Z h181 b77 k77 .char (7 : Int32) [(.int rr_86), (.int rr_97), (.int q161), (.int rr_119), (.int rr_130), (.int rr_141), (.int rr_152)] (.int (0 : Int32)) := by have q : Arv Z h181 b77 k77 .char (7 : Int32) [(.int rr_86), (.int rr_97), (.int (nar .char q161)), (.int rr_119), (.int rr_130), (.int rr_141), (.int rr_152)] (.int (0 : Int32)) := Arv.set Ar180 q180 S180 M180 H180 G180 (fits_nar_char _) W181 2 rfl (Nat.le_of_ble_eq_true rfl); rw [show nar .char q161 = q161 from own_narc rh163.1 rh163.2] at q; exact q
            have N181 := Fr.snoc X181 N154 (show n0 ≤ b77 by omega)
            have s183 : ∀ t_, Steps p.tables e below (T181.setTop (mkF m 273 #[.val (.int sel), .val (.int len), .val (.int ps), .val (.int mt), .val (.long lc), .second, .val (.int (Int32.ofNat mk)), .val (.ref nmA_33), .val (.ref stA_33), .val (.int q38), .val (.int q45), .val (.int q52), .val (.int q59), .val (.int (Int32.ofNat nN_74)), .val (.ref b77), .unset, .unset, .unset, .unset] [])) t_ → Steps p.tables e below (s₁.setTop (entryFrame m #[(.int sel), (.int len), (.int ps), (.int mt), (.long lc)] maxLocals)) t_ := fun t_ k_ => s179 t_ (by
              show Steps p.tables e below (T154.setTop (mkF m 272 #[.val (.int sel), .val (.int len), .val (.int ps), .val (.int mt), .val (.long lc), .second, .val (.int (Int32.ofNat mk)), .val (.ref nmA_33), .val (.ref stA_33), .val (.int q38), .val (.int q45), .val (.int q52), .val (.int q59), .val (.int (Int32.ofNat nN_74)), .val (.ref b77), .unset, .unset, .unset, .unset] [(.int q161), (.int (2 : Int32)), (.ref b77)])) t_
              refine st181 _ ?_
              show Steps p.tables e below (T181.setTop (mkF m 273 #[.val (.int sel), .val (.int len), .val (.int ps), .val (.int mt), .val (.long lc), .second, .val (.int (Int32.ofNat mk)), .val (.ref nmA_33), .val (.ref stA_33), .val (.int q38), .val (.int q45), .val (.int q52), .val (.int q59), .val (.int (Int32.ofNat nN_74)), .val (.ref b77), .unset, .unset, .unset, .unset] [])) _
              show Steps p.tables e below (T181.setTop (mkF m 273 #[.val (.int sel), .val (.int len), .val (.int ps), .val (.int mt), .val (.long lc), .second, .val (.int (Int32.ofNat mk)), .val (.ref nmA_33), .val (.ref stA_33), .val (.int q38), .val (.int q45), .val (.int q52), .val (.int q59), .val (.int (Int32.ofNat nN_74)), .val (.ref b77), .unset, .unset, .unset, .unset] [])) t_
              exact k_)
            exact ⟨T181, _, _, _, X181, e181, N181, ((Keep.refl h154 [b77]).wr W181 (Or.inl (by simp))), ⟨rr_86, rr_97, q161, rr_119, rr_130, rr_141, rr_152, rfl, V181, P86_0, P86_1, P97_0, P97_1, rg163.1, rg163.2, P119_0, P119_1, P130_0, P130_1, P141_0, P141_1, P152_0, P152_1⟩, s183⟩
          · have s184 : ∀ t_, Steps p.tables e below (T154.setTop (mkF m 272 #[.val (.int sel), .val (.int len), .val (.int ps), .val (.int mt), .val (.long lc), .second, .val (.int (Int32.ofNat mk)), .val (.ref nmA_33), .val (.ref stA_33), .val (.int q38), .val (.int q45), .val (.int q52), .val (.int q59), .val (.int (Int32.ofNat nN_74)), .val (.ref b77), .unset, .unset, .unset, .unset] [(.int q161), (.int (Int32.ofNat mi)), (.ref b77)])) t_ → Steps p.tables e below (s₁.setTop (entryFrame m #[(.int sel), (.int len), (.int ps), (.int mt), (.long lc)] maxLocals)) t_ := fun t_ k_ => s177 t_ (castTop (by rfl) k_)
            by_cases h185 : mi = 3
            · have s186 : ∀ t_, Steps p.tables e below (T154.setTop (mkF m 272 #[.val (.int sel), .val (.int len), .val (.int ps), .val (.int mt), .val (.long lc), .second, .val (.int (Int32.ofNat mk)), .val (.ref nmA_33), .val (.ref stA_33), .val (.int q38), .val (.int q45), .val (.int q52), .val (.int q59), .val (.int (Int32.ofNat nN_74)), .val (.ref b77), .unset, .unset, .unset, .unset] [(.int q161), (.int (3 : Int32)), (.ref b77)])) t_ → Steps p.tables e below (s₁.setTop (entryFrame m #[(.int sel), (.int len), (.int ps), (.int mt), (.long lc)] maxLocals)) t_ := fun t_ k_ => s184 t_ (castTop (by subst h185; rfl) k_)
              obtain ⟨cl187, Ar187, q187, S187, M187, H187, G187⟩ := id V154
              have hin187 : ¬ ((3 : Int32) < 0 ∨ cl187.slots.size ≤ ((3 : Int32)).toNatClampNeg) := inb_of S187 ⟨by decide, by decide⟩
              obtain ⟨T188, h188, X188, e188, W188, st188⟩ := stC X154 hx hZ e154 Ar187 (j := (3 : Int32)) hin187 (g := (mkF m 272 #[.val (.int sel), .val (.int len), .val (.int ps), .val (.int mt), .val (.long lc), .second, .val (.int (Int32.ofNat mk)), .val (.ref nmA_33), .val (.ref stA_33), .val (.int q38), .val (.int q45), .val (.int q52), .val (.int q59), .val (.int (Int32.ofNat nN_74)), .val (.ref b77), .unset, .unset, .unset, .unset] [(.int q161), (.int (3 : Int32)), (.ref b77)])) rfl rfl (Jvm.hb hby at_272)
              have z189 : h154.size ≤ h188.size := Nat.le_of_eq W188.size.symm
              have Cp189 : CHr Z ELs V33 h154 V33 h188 := CHr.wr W188 (Safe.arv hZ.alike V154 (by decide)) CR.1
              have hk := Nat.le_trans hk z189
              have CR := CR.trans Cp189
              have V188 : Arv Z h188 b77 k77 .char (7 : Int32) [(.int rr_86), (.int rr_97), (.int rr_108), (.int q161), (.int rr_130), (.int rr_141), (.int rr_152)] (.int (0 : Int32)) := by have q : Arv Z h188 b77 k77 .char (7 : Int32) [(.int rr_86), (.int rr_97), (.int rr_108), (.int (nar .char q161)), (.int rr_130), (.int rr_141), (.int rr_152)] (.int (0 : Int32)) := Arv.set Ar187 q187 S187 M187 H187 G187 (fits_nar_char _) W188 3 rfl (Nat.le_of_ble_eq_true rfl); rw [show nar .char q161 = q161 from own_narc rh163.1 rh163.2] at q; exact q
              have N188 := Fr.snoc X188 N154 (show n0 ≤ b77 by omega)
              have s190 : ∀ t_, Steps p.tables e below (T188.setTop (mkF m 273 #[.val (.int sel), .val (.int len), .val (.int ps), .val (.int mt), .val (.long lc), .second, .val (.int (Int32.ofNat mk)), .val (.ref nmA_33), .val (.ref stA_33), .val (.int q38), .val (.int q45), .val (.int q52), .val (.int q59), .val (.int (Int32.ofNat nN_74)), .val (.ref b77), .unset, .unset, .unset, .unset] [])) t_ → Steps p.tables e below (s₁.setTop (entryFrame m #[(.int sel), (.int len), (.int ps), (.int mt), (.long lc)] maxLocals)) t_ := fun t_ k_ => s186 t_ (by
                show Steps p.tables e below (T154.setTop (mkF m 272 #[.val (.int sel), .val (.int len), .val (.int ps), .val (.int mt), .val (.long lc), .second, .val (.int (Int32.ofNat mk)), .val (.ref nmA_33), .val (.ref stA_33), .val (.int q38), .val (.int q45), .val (.int q52), .val (.int q59), .val (.int (Int32.ofNat nN_74)), .val (.ref b77), .unset, .unset, .unset, .unset] [(.int q161), (.int (3 : Int32)), (.ref b77)])) t_
                refine st188 _ ?_
                show Steps p.tables e below (T188.setTop (mkF m 273 #[.val (.int sel), .val (.int len), .val (.int ps), .val (.int mt), .val (.long lc), .second, .val (.int (Int32.ofNat mk)), .val (.ref nmA_33), .val (.ref stA_33), .val (.int q38), .val (.int q45), .val (.int q52), .val (.int q59), .val (.int (Int32.ofNat nN_74)), .val (.ref b77), .unset, .unset, .unset, .unset] [])) _
                show Steps p.tables e below (T188.setTop (mkF m 273 #[.val (.int sel), .val (.int len), .val (.int ps), .val (.int mt), .val (.long lc), .second, .val (.int (Int32.ofNat mk)), .val (.ref nmA_33), .val (.ref stA_33), .val (.int q38), .val (.int q45), .val (.int q52), .val (.int q59), .val (.int (Int32.ofNat nN_74)), .val (.ref b77), .unset, .unset, .unset, .unset] [])) t_
                exact k_)
              exact ⟨T188, _, _, _, X188, e188, N188, ((Keep.refl h154 [b77]).wr W188 (Or.inl (by simp))), ⟨rr_86, rr_97, rr_108, q161, rr_130, rr_141, rr_152, rfl, V188, P86_0, P86_1, P97_0, P97_1, P108_0, P108_1, rg163.1, rg163.2, P130_0, P130_1, P141_0, P141_1, P152_0, P152_1⟩, s190⟩
            · have s191 : ∀ t_, Steps p.tables e below (T154.setTop (mkF m 272 #[.val (.int sel), .val (.int len), .val (.int ps), .val (.int mt), .val (.long lc), .second, .val (.int (Int32.ofNat mk)), .val (.ref nmA_33), .val (.ref stA_33), .val (.int q38), .val (.int q45), .val (.int q52), .val (.int q59), .val (.int (Int32.ofNat nN_74)), .val (.ref b77), .unset, .unset, .unset, .unset] [(.int q161), (.int (Int32.ofNat mi)), (.ref b77)])) t_ → Steps p.tables e below (s₁.setTop (entryFrame m #[(.int sel), (.int len), (.int ps), (.int mt), (.long lc)] maxLocals)) t_ := fun t_ k_ => s184 t_ (castTop (by rfl) k_)
              by_cases h192 : mi = 4
              · have s193 : ∀ t_, Steps p.tables e below (T154.setTop (mkF m 272 #[.val (.int sel), .val (.int len), .val (.int ps), .val (.int mt), .val (.long lc), .second, .val (.int (Int32.ofNat mk)), .val (.ref nmA_33), .val (.ref stA_33), .val (.int q38), .val (.int q45), .val (.int q52), .val (.int q59), .val (.int (Int32.ofNat nN_74)), .val (.ref b77), .unset, .unset, .unset, .unset] [(.int q161), (.int (4 : Int32)), (.ref b77)])) t_ → Steps p.tables e below (s₁.setTop (entryFrame m #[(.int sel), (.int len), (.int ps), (.int mt), (.long lc)] maxLocals)) t_ := fun t_ k_ => s191 t_ (castTop (by subst h192; rfl) k_)
                obtain ⟨cl194, Ar194, q194, S194, M194, H194, G194⟩ := id V154
                have hin194 : ¬ ((4 : Int32) < 0 ∨ cl194.slots.size ≤ ((4 : Int32)).toNatClampNeg) := inb_of S194 ⟨by decide, by decide⟩
                obtain ⟨T195, h195, X195, e195, W195, st195⟩ := stC X154 hx hZ e154 Ar194 (j := (4 : Int32)) hin194 (g := (mkF m 272 #[.val (.int sel), .val (.int len), .val (.int ps), .val (.int mt), .val (.long lc), .second, .val (.int (Int32.ofNat mk)), .val (.ref nmA_33), .val (.ref stA_33), .val (.int q38), .val (.int q45), .val (.int q52), .val (.int q59), .val (.int (Int32.ofNat nN_74)), .val (.ref b77), .unset, .unset, .unset, .unset] [(.int q161), (.int (4 : Int32)), (.ref b77)])) rfl rfl (Jvm.hb hby at_272)
                have z196 : h154.size ≤ h195.size := Nat.le_of_eq W195.size.symm
                have Cp196 : CHr Z ELs V33 h154 V33 h195 := CHr.wr W195 (Safe.arv hZ.alike V154 (by decide)) CR.1
                have hk := Nat.le_trans hk z196
                have CR := CR.trans Cp196
                have V195 : Arv Z h195 b77 k77 .char (7 : Int32) [(.int rr_86), (.int rr_97), (.int rr_108), (.int rr_119), (.int q161), (.int rr_141), (.int rr_152)] (.int (0 : Int32)) := by have q : Arv Z h195 b77 k77 .char (7 : Int32) [(.int rr_86), (.int rr_97), (.int rr_108), (.int rr_119), (.int (nar .char q161)), (.int rr_141), (.int rr_152)] (.int (0 : Int32)) := Arv.set Ar194 q194 S194 M194 H194 G194 (fits_nar_char _) W195 4 rfl (Nat.le_of_ble_eq_true rfl); rw [show nar .char q161 = q161 from own_narc rh163.1 rh163.2] at q; exact q
                have N195 := Fr.snoc X195 N154 (show n0 ≤ b77 by omega)
                have s197 : ∀ t_, Steps p.tables e below (T195.setTop (mkF m 273 #[.val (.int sel), .val (.int len), .val (.int ps), .val (.int mt), .val (.long lc), .second, .val (.int (Int32.ofNat mk)), .val (.ref nmA_33), .val (.ref stA_33), .val (.int q38), .val (.int q45), .val (.int q52), .val (.int q59), .val (.int (Int32.ofNat nN_74)), .val (.ref b77), .unset, .unset, .unset, .unset] [])) t_ → Steps p.tables e below (s₁.setTop (entryFrame m #[(.int sel), (.int len), (.int ps), (.int mt), (.long lc)] maxLocals)) t_ := fun t_ k_ => s193 t_ (by
                  show Steps p.tables e below (T154.setTop (mkF m 272 #[.val (.int sel), .val (.int len), .val (.int ps), .val (.int mt), .val (.long lc), .second, .val (.int (Int32.ofNat mk)), .val (.ref nmA_33), .val (.ref stA_33), .val (.int q38), .val (.int q45), .val (.int q52), .val (.int q59), .val (.int (Int32.ofNat nN_74)), .val (.ref b77), .unset, .unset, .unset, .unset] [(.int q161), (.int (4 : Int32)), (.ref b77)])) t_
                  refine st195 _ ?_
                  show Steps p.tables e below (T195.setTop (mkF m 273 #[.val (.int sel), .val (.int len), .val (.int ps), .val (.int mt), .val (.long lc), .second, .val (.int (Int32.ofNat mk)), .val (.ref nmA_33), .val (.ref stA_33), .val (.int q38), .val (.int q45), .val (.int q52), .val (.int q59), .val (.int (Int32.ofNat nN_74)), .val (.ref b77), .unset, .unset, .unset, .unset] [])) _
                  show Steps p.tables e below (T195.setTop (mkF m 273 #[.val (.int sel), .val (.int len), .val (.int ps), .val (.int mt), .val (.long lc), .second, .val (.int (Int32.ofNat mk)), .val (.ref nmA_33), .val (.ref stA_33), .val (.int q38), .val (.int q45), .val (.int q52), .val (.int q59), .val (.int (Int32.ofNat nN_74)), .val (.ref b77), .unset, .unset, .unset, .unset] [])) t_
                  exact k_)
                exact ⟨T195, _, _, _, X195, e195, N195, ((Keep.refl h154 [b77]).wr W195 (Or.inl (by simp))), ⟨rr_86, rr_97, rr_108, rr_119, q161, rr_141, rr_152, rfl, V195, P86_0, P86_1, P97_0, P97_1, P108_0, P108_1, P119_0, P119_1, rg163.1, rg163.2, P141_0, P141_1, P152_0, P152_1⟩, s197⟩
              · have s198 : ∀ t_, Steps p.tables e below (T154.setTop (mkF m 272 #[.val (.int sel), .val (.int len), .val (.int ps), .val (.int mt), .val (.long lc), .second, .val (.int (Int32.ofNat mk)), .val (.ref nmA_33), .val (.ref stA_33), .val (.int q38), .val (.int q45), .val (.int q52), .val (.int q59), .val (.int (Int32.ofNat nN_74)), .val (.ref b77), .unset, .unset, .unset, .unset] [(.int q161), (.int (Int32.ofNat mi)), (.ref b77)])) t_ → Steps p.tables e below (s₁.setTop (entryFrame m #[(.int sel), (.int len), (.int ps), (.int mt), (.long lc)] maxLocals)) t_ := fun t_ k_ => s191 t_ (castTop (by rfl) k_)
                by_cases h199 : mi = 5
                · have s200 : ∀ t_, Steps p.tables e below (T154.setTop (mkF m 272 #[.val (.int sel), .val (.int len), .val (.int ps), .val (.int mt), .val (.long lc), .second, .val (.int (Int32.ofNat mk)), .val (.ref nmA_33), .val (.ref stA_33), .val (.int q38), .val (.int q45), .val (.int q52), .val (.int q59), .val (.int (Int32.ofNat nN_74)), .val (.ref b77), .unset, .unset, .unset, .unset] [(.int q161), (.int (5 : Int32)), (.ref b77)])) t_ → Steps p.tables e below (s₁.setTop (entryFrame m #[(.int sel), (.int len), (.int ps), (.int mt), (.long lc)] maxLocals)) t_ := fun t_ k_ => s198 t_ (castTop (by subst h199; rfl) k_)
                  obtain ⟨cl201, Ar201, q201, S201, M201, H201, G201⟩ := id V154
                  have hin201 : ¬ ((5 : Int32) < 0 ∨ cl201.slots.size ≤ ((5 : Int32)).toNatClampNeg) := inb_of S201 ⟨by decide, by decide⟩
                  obtain ⟨T202, h202, X202, e202, W202, st202⟩ := stC X154 hx hZ e154 Ar201 (j := (5 : Int32)) hin201 (g := (mkF m 272 #[.val (.int sel), .val (.int len), .val (.int ps), .val (.int mt), .val (.long lc), .second, .val (.int (Int32.ofNat mk)), .val (.ref nmA_33), .val (.ref stA_33), .val (.int q38), .val (.int q45), .val (.int q52), .val (.int q59), .val (.int (Int32.ofNat nN_74)), .val (.ref b77), .unset, .unset, .unset, .unset] [(.int q161), (.int (5 : Int32)), (.ref b77)])) rfl rfl (Jvm.hb hby at_272)
                  have z203 : h154.size ≤ h202.size := Nat.le_of_eq W202.size.symm
                  have Cp203 : CHr Z ELs V33 h154 V33 h202 := CHr.wr W202 (Safe.arv hZ.alike V154 (by decide)) CR.1
                  have hk := Nat.le_trans hk z203
                  have CR := CR.trans Cp203
                  have V202 : Arv Z h202 b77 k77 .char (7 : Int32) [(.int rr_86), (.int rr_97), (.int rr_108), (.int rr_119), (.int rr_130), (.int q161), (.int rr_152)] (.int (0 : Int32)) := by have q : Arv Z h202 b77 k77 .char (7 : Int32) [(.int rr_86), (.int rr_97), (.int rr_108), (.int rr_119), (.int rr_130), (.int (nar .char q161)), (.int rr_152)] (.int (0 : Int32)) := Arv.set Ar201 q201 S201 M201 H201 G201 (fits_nar_char _) W202 5 rfl (Nat.le_of_ble_eq_true rfl); rw [show nar .char q161 = q161 from own_narc rh163.1 rh163.2] at q; exact q
                  have N202 := Fr.snoc X202 N154 (show n0 ≤ b77 by omega)
                  have s204 : ∀ t_, Steps p.tables e below (T202.setTop (mkF m 273 #[.val (.int sel), .val (.int len), .val (.int ps), .val (.int mt), .val (.long lc), .second, .val (.int (Int32.ofNat mk)), .val (.ref nmA_33), .val (.ref stA_33), .val (.int q38), .val (.int q45), .val (.int q52), .val (.int q59), .val (.int (Int32.ofNat nN_74)), .val (.ref b77), .unset, .unset, .unset, .unset] [])) t_ → Steps p.tables e below (s₁.setTop (entryFrame m #[(.int sel), (.int len), (.int ps), (.int mt), (.long lc)] maxLocals)) t_ := fun t_ k_ => s200 t_ (by
                    show Steps p.tables e below (T154.setTop (mkF m 272 #[.val (.int sel), .val (.int len), .val (.int ps), .val (.int mt), .val (.long lc), .second, .val (.int (Int32.ofNat mk)), .val (.ref nmA_33), .val (.ref stA_33), .val (.int q38), .val (.int q45), .val (.int q52), .val (.int q59), .val (.int (Int32.ofNat nN_74)), .val (.ref b77), .unset, .unset, .unset, .unset] [(.int q161), (.int (5 : Int32)), (.ref b77)])) t_
                    refine st202 _ ?_
                    show Steps p.tables e below (T202.setTop (mkF m 273 #[.val (.int sel), .val (.int len), .val (.int ps), .val (.int mt), .val (.long lc), .second, .val (.int (Int32.ofNat mk)), .val (.ref nmA_33), .val (.ref stA_33), .val (.int q38), .val (.int q45), .val (.int q52), .val (.int q59), .val (.int (Int32.ofNat nN_74)), .val (.ref b77), .unset, .unset, .unset, .unset] [])) _
                    show Steps p.tables e below (T202.setTop (mkF m 273 #[.val (.int sel), .val (.int len), .val (.int ps), .val (.int mt), .val (.long lc), .second, .val (.int (Int32.ofNat mk)), .val (.ref nmA_33), .val (.ref stA_33), .val (.int q38), .val (.int q45), .val (.int q52), .val (.int q59), .val (.int (Int32.ofNat nN_74)), .val (.ref b77), .unset, .unset, .unset, .unset] [])) t_
                    exact k_)
                  exact ⟨T202, _, _, _, X202, e202, N202, ((Keep.refl h154 [b77]).wr W202 (Or.inl (by simp))), ⟨rr_86, rr_97, rr_108, rr_119, rr_130, q161, rr_152, rfl, V202, P86_0, P86_1, P97_0, P97_1, P108_0, P108_1, P119_0, P119_1, P130_0, P130_1, rg163.1, rg163.2, P152_0, P152_1⟩, s204⟩
                · have s205 : ∀ t_, Steps p.tables e below (T154.setTop (mkF m 272 #[.val (.int sel), .val (.int len), .val (.int ps), .val (.int mt), .val (.long lc), .second, .val (.int (Int32.ofNat mk)), .val (.ref nmA_33), .val (.ref stA_33), .val (.int q38), .val (.int q45), .val (.int q52), .val (.int q59), .val (.int (Int32.ofNat nN_74)), .val (.ref b77), .unset, .unset, .unset, .unset] [(.int q161), (.int (Int32.ofNat mi)), (.ref b77)])) t_ → Steps p.tables e below (s₁.setTop (entryFrame m #[(.int sel), (.int len), (.int ps), (.int mt), (.long lc)] maxLocals)) t_ := fun t_ k_ => s198 t_ (castTop (by rfl) k_)
                  have hmi6 : mi = 6 := by omega
                  obtain ⟨cl206, Ar206, q206, S206, M206, H206, G206⟩ := id V154
                  have hin206 : ¬ ((6 : Int32) < 0 ∨ cl206.slots.size ≤ ((6 : Int32)).toNatClampNeg) := inb_of S206 ⟨by decide, by decide⟩
                  obtain ⟨T207, h207, X207, e207, W207, st207⟩ := stC X154 hx hZ e154 Ar206 (j := (6 : Int32)) hin206 (g := (mkF m 272 #[.val (.int sel), .val (.int len), .val (.int ps), .val (.int mt), .val (.long lc), .second, .val (.int (Int32.ofNat mk)), .val (.ref nmA_33), .val (.ref stA_33), .val (.int q38), .val (.int q45), .val (.int q52), .val (.int q59), .val (.int (Int32.ofNat nN_74)), .val (.ref b77), .unset, .unset, .unset, .unset] [(.int q161), (.int (6 : Int32)), (.ref b77)])) rfl rfl (Jvm.hb hby at_272)
                  have z208 : h154.size ≤ h207.size := Nat.le_of_eq W207.size.symm
                  have Cp208 : CHr Z ELs V33 h154 V33 h207 := CHr.wr W207 (Safe.arv hZ.alike V154 (by decide)) CR.1
                  have hk := Nat.le_trans hk z208
                  have CR := CR.trans Cp208
                  have V207 : Arv Z h207 b77 k77 .char (7 : Int32) [(.int rr_86), (.int rr_97), (.int rr_108), (.int rr_119), (.int rr_130), (.int rr_141), (.int q161)] (.int (0 : Int32)) := by have q : Arv Z h207 b77 k77 .char (7 : Int32) [(.int rr_86), (.int rr_97), (.int rr_108), (.int rr_119), (.int rr_130), (.int rr_141), (.int (nar .char q161))] (.int (0 : Int32)) := Arv.set Ar206 q206 S206 M206 H206 G206 (fits_nar_char _) W207 6 rfl (Nat.le_of_ble_eq_true rfl); rw [show nar .char q161 = q161 from own_narc rh163.1 rh163.2] at q; exact q
                  have N207 := Fr.snoc X207 N154 (show n0 ≤ b77 by omega)
                  have s209 : ∀ t_, Steps p.tables e below (T207.setTop (mkF m 273 #[.val (.int sel), .val (.int len), .val (.int ps), .val (.int mt), .val (.long lc), .second, .val (.int (Int32.ofNat mk)), .val (.ref nmA_33), .val (.ref stA_33), .val (.int q38), .val (.int q45), .val (.int q52), .val (.int q59), .val (.int (Int32.ofNat nN_74)), .val (.ref b77), .unset, .unset, .unset, .unset] [])) t_ → Steps p.tables e below (s₁.setTop (entryFrame m #[(.int sel), (.int len), (.int ps), (.int mt), (.long lc)] maxLocals)) t_ := fun t_ k_ => s205 t_ (by
                    show Steps p.tables e below (T154.setTop (mkF m 272 #[.val (.int sel), .val (.int len), .val (.int ps), .val (.int mt), .val (.long lc), .second, .val (.int (Int32.ofNat mk)), .val (.ref nmA_33), .val (.ref stA_33), .val (.int q38), .val (.int q45), .val (.int q52), .val (.int q59), .val (.int (Int32.ofNat nN_74)), .val (.ref b77), .unset, .unset, .unset, .unset] [(.int q161), (.int (Int32.ofNat mi)), (.ref b77)])) t_
                    refine castTop (by subst hmi6; rfl) ?_
                    show Steps p.tables e below (T154.setTop (mkF m 272 #[.val (.int sel), .val (.int len), .val (.int ps), .val (.int mt), .val (.long lc), .second, .val (.int (Int32.ofNat mk)), .val (.ref nmA_33), .val (.ref stA_33), .val (.int q38), .val (.int q45), .val (.int q52), .val (.int q59), .val (.int (Int32.ofNat nN_74)), .val (.ref b77), .unset, .unset, .unset, .unset] [(.int q161), (.int (6 : Int32)), (.ref b77)])) _
                    refine st207 _ ?_
                    show Steps p.tables e below (T207.setTop (mkF m 273 #[.val (.int sel), .val (.int len), .val (.int ps), .val (.int mt), .val (.long lc), .second, .val (.int (Int32.ofNat mk)), .val (.ref nmA_33), .val (.ref stA_33), .val (.int q38), .val (.int q45), .val (.int q52), .val (.int q59), .val (.int (Int32.ofNat nN_74)), .val (.ref b77), .unset, .unset, .unset, .unset] [])) _
                    show Steps p.tables e below (T207.setTop (mkF m 273 #[.val (.int sel), .val (.int len), .val (.int ps), .val (.int mt), .val (.long lc), .second, .val (.int (Int32.ofNat mk)), .val (.ref nmA_33), .val (.ref stA_33), .val (.int q38), .val (.int q45), .val (.int q52), .val (.int q59), .val (.int (Int32.ofNat nN_74)), .val (.ref b77), .unset, .unset, .unset, .unset] [])) t_
                    exact k_)
                  exact ⟨T207, _, _, _, X207, e207, N207, ((Keep.refl h154 [b77]).wr W207 (Or.inl (by simp))), ⟨rr_86, rr_97, rr_108, rr_119, rr_130, rr_141, q161, rfl, V207, P86_0, P86_1, P97_0, P97_1, P108_0, P108_1, P119_0, P119_1, P130_0, P130_1, P141_0, P141_1, rg163.1, rg163.2⟩, s209⟩
  obtain ⟨T210, lo210, h210, fe210, X210, e210, N210, K210, A210, st210⟩ := bk157
  have z211 : h154.size ≤ h210.size := K210.1
  have Cp211 : CHr Z ELs V33 h154 V33 h210 := CHr.keep K210 (sfS (Safe.arv hZ.alike V154 (by decide)) sf0) CR.1
  have hk := Nat.le_trans hk z211
  have CR := CR.trans Cp211
  obtain ⟨d0__210, d1__210, d2__210, d3__210, d4__210, d5__210, d6__210, rfl, G210_0, J210_0, J210_1, J210_2, J210_3, J210_4, J210_5, J210_6, J210_7, J210_8, J210_9, J210_10, J210_11, J210_12, J210_13⟩ := A210
  have s212 : ∀ t_, Steps p.tables e below (T210.setTop (mkF m 273 #[.val (.int sel), .val (.int len), .val (.int ps), .val (.int mt), .val (.long lc), .second, .val (.int (Int32.ofNat mk)), .val (.ref nmA_33), .val (.ref stA_33), .val (.int q38), .val (.int q45), .val (.int q52), .val (.int q59), .val (.int (Int32.ofNat nN_74)), .val (.ref b77), .unset, .unset, .unset, .unset] [])) t_ → Steps p.tables e below (s₁.setTop (entryFrame m #[(.int sel), (.int len), (.int ps), (.int mt), (.long lc)] maxLocals)) t_ := st210
  have lt210_0 : @LT.lt Nat _ b77 h210.size := G210_0.lt
  have s213 : ∀ t_, Steps p.tables e below (T210.setTop (mkF m 275 #[.val (.int sel), .val (.int len), .val (.int ps), .val (.int mt), .val (.long lc), .second, .val (.int (Int32.ofNat mk)), .val (.ref nmA_33), .val (.ref stA_33), .val (.int q38), .val (.int q45), .val (.int q52), .val (.int q59), .val (.int (Int32.ofNat nN_74)), .val (.ref b77), .unset, .unset, .unset, .unset] [(.int q52)])) t_ → Steps p.tables e below (s₁.setTop (entryFrame m #[(.int sel), (.int len), (.int ps), (.int mt), (.long lc)] maxLocals)) t_ := fun t_ k_ => s212 t_ (by
    show Steps p.tables e below (T210.setTop (mkF m 273 #[.val (.int sel), .val (.int len), .val (.int ps), .val (.int mt), .val (.long lc), .second, .val (.int (Int32.ofNat mk)), .val (.ref nmA_33), .val (.ref stA_33), .val (.int q38), .val (.int q45), .val (.int q52), .val (.int q59), .val (.int (Int32.ofNat nN_74)), .val (.ref b77), .unset, .unset, .unset, .unset] [])) t_
    refine XS.iload X210.here hx rfl (Jvm.hb hby at_273) rfl ?_
    show Steps p.tables e below (T210.setTop (mkF m 275 #[.val (.int sel), .val (.int len), .val (.int ps), .val (.int mt), .val (.long lc), .second, .val (.int (Int32.ofNat mk)), .val (.ref nmA_33), .val (.ref stA_33), .val (.int q38), .val (.int q45), .val (.int q52), .val (.int q59), .val (.int (Int32.ofNat nN_74)), .val (.ref b77), .unset, .unset, .unset, .unset] [(.int q52)])) t_
    exact k_)
  by_cases h214 : q52 = (0 : Int32)
  · have s215 : ∀ t_, Steps p.tables e below (T210.setTop (mkF m 286 #[.val (.int sel), .val (.int len), .val (.int ps), .val (.int mt), .val (.long lc), .second, .val (.int (Int32.ofNat mk)), .val (.ref nmA_33), .val (.ref stA_33), .val (.int q38), .val (.int q45), .val (.int q52), .val (.int q59), .val (.int (Int32.ofNat nN_74)), .val (.ref b77), .unset, .unset, .unset, .unset] [(.ref b77), (.int (Int32.ofNat nN_74))])) t_ → Steps p.tables e below (s₁.setTop (entryFrame m #[(.int sel), (.int len), (.int ps), (.int mt), (.long lc)] maxLocals)) t_ := fun t_ k_ => s213 t_ (by
      show Steps p.tables e below (T210.setTop (mkF m 275 #[.val (.int sel), .val (.int len), .val (.int ps), .val (.int mt), .val (.long lc), .second, .val (.int (Int32.ofNat mk)), .val (.ref nmA_33), .val (.ref stA_33), .val (.int q38), .val (.int q45), .val (.int q52), .val (.int q59), .val (.int (Int32.ofNat nN_74)), .val (.ref b77), .unset, .unset, .unset, .unset] [(.int q52)])) t_
      refine XS.ifYes X210.here hx rfl (pc0 := 275) (pc' := 282) rfl (Jvm.hb hby at_275) rfl ((if0 _ _).trans (teq h214).1) (by decide) (by decide) ?_
      show Steps p.tables e below (T210.setTop (mkF m 282 #[.val (.int sel), .val (.int len), .val (.int ps), .val (.int mt), .val (.long lc), .second, .val (.int (Int32.ofNat mk)), .val (.ref nmA_33), .val (.ref stA_33), .val (.int q38), .val (.int q45), .val (.int q52), .val (.int q59), .val (.int (Int32.ofNat nN_74)), .val (.ref b77), .unset, .unset, .unset, .unset] [])) _
      refine XS.iload X210.here hx rfl (Jvm.hb hby at_282) rfl ?_
      refine XS.aload X210.here hx rfl (Jvm.hb hby at_284) rfl rfl ?_
      show Steps p.tables e below (T210.setTop (mkF m 286 #[.val (.int sel), .val (.int len), .val (.int ps), .val (.int mt), .val (.long lc), .second, .val (.int (Int32.ofNat mk)), .val (.ref nmA_33), .val (.ref stA_33), .val (.int q38), .val (.int q45), .val (.int q52), .val (.int q59), .val (.int (Int32.ofNat nN_74)), .val (.ref b77), .unset, .unset, .unset, .unset] [(.ref b77), (.int (Int32.ofNat nN_74))])) t_
      exact k_)
    have O216 : Old Z n0 h210 := ((O146.wr W154 (show n0 ≤ b77 by omega)).keep K210 (allS (show n0 ≤ b77 by omega) all0))
    have Zc217 : n0 ≤ h210.size := by omega
    obtain ⟨_, _, ⟨T218, L218, k218, n218⟩, -, Xr218, hSr218, hg218, ⟨Lc218, hQ218, l218, y218, z218, Cp218⟩, st218⟩ := callSS X210 hx (y := (⟨"com/example/coyote_hill/coyotehill/ItemStateFromNamePinLaw", "mk", "(I[C)Ljava/lang/String;"⟩ : MethodName)) hown (mvT hZ (hw _ (List.mem_of_getElem? (i := 17) rfl))) (mvT hZ (hw _ (List.mem_of_getElem? (i := 18) rfl))) (mvT hZ (hw _ (List.mem_of_getElem? (i := 14) rfl))) (mvT hZ (hw _ (List.mem_of_getElem? (i := 19) rfl))) (by decide) (backOfSH (s := s) (vm0 := V33) (W := 0) (rmMk l Z a0 hw [] b77 cst nN_74 k77 d0__210 d1__210 d2__210 d3__210 d4__210 d5__210 d6__210 h210 n0 Zc217 I1 O216 (hcst : ¬ (cst = (0 : Int32))) G210_0 (J74_0 : nN_74 < 8) (J210_0 : ¬ (d0__210 < (0 : Int32))) (J210_2 : ¬ (d1__210 < (0 : Int32))) (J210_4 : ¬ (d2__210 < (0 : Int32))) (J210_6 : ¬ (d3__210 < (0 : Int32))) (J210_8 : ¬ (d4__210 < (0 : Int32))) (J210_10 : ¬ (d5__210 < (0 : Int32))) (J210_12 : ¬ (d6__210 < (0 : Int32))) (J210_1 : ¬ ((255 : Int32) < d0__210)) (J210_3 : ¬ ((255 : Int32) < d1__210)) (J210_5 : ¬ ((255 : Int32) < d2__210)) (J210_7 : ¬ ((255 : Int32) < d3__210)) (J210_9 : ¬ ((255 : Int32) < d4__210)) (J210_11 : ¬ ((255 : Int32) < d5__210)) (J210_13 : ¬ ((255 : Int32) < d6__210))) hZ (hw _ (List.mem_of_getElem? (i := 19) rfl)) (hw _ (List.mem_of_getElem? (i := 14) rfl)) (by decide) (by decide) hEL CR.1) (g := (mkF m 286 #[.val (.int sel), .val (.int len), .val (.int ps), .val (.int mt), .val (.long lc), .second, .val (.int (Int32.ofNat mk)), .val (.ref nmA_33), .val (.ref stA_33), .val (.int q38), .val (.int q45), .val (.int q52), .val (.int q59), .val (.int (Int32.ofNat nN_74)), .val (.ref b77), .unset, .unset, .unset, .unset] [(.ref b77), (.int (Int32.ofNat nN_74))])) rfl (by rw [hml]; rfl) (argsL := [(.int (Int32.ofNat nN_74)), (.ref b77)]) (rest := []) (lenOf pd__I_C_Ljava_lang_String_ rfl) rfl (by show 2 * 0 + _ ≤ _; exact Nat.le_of_eq rfl) (Jvm.hb hby at_286) (fun _ _ => ⟨rfl, e210, (by decide : 3 + 6 ≤ _), (by decide : 35 + 19 ≤ _)⟩)
    dsimp only [Pt.U, Pt.locs, Pt.cells, Pt.slots] at Xr218 hSr218 hg218 l218 y218 z218 st218 hQ218 Cp218
    subst l218 y218 z218
    obtain ⟨X218, hS, hZ, hown⟩ := rebS (own := "com/example/coyote_hill/coyotehill/ItemStateFromNamePinLaw") hS (by first | exact Nat.le_refl _ | (rw [e210]; exact hk)) Xr218 hSr218 hg218 hZ hown
    obtain ⟨a_218, b_218, kb_218, rfl, N218q, K218, Fq218_0, Fq218_1, Fq218_2, Fq218_3, P218_0⟩ := hQ218
    have N218 := Fr.app N210 N218q
    obtain ⟨h218, e218⟩ : ∃ z, T218.heap = z := ⟨_, rfl⟩
    rw [e218] at K218 Fq218_0 Fq218_1 Fq218_2 Fq218_3 Cp218
    have hk : T218.heap.size ≤ h218.size := Nat.le_of_eq (congrArg Array.size e218)
    have z219 : h210.size ≤ h218.size := K218.1
    have CR := CR.trans Cp218
    have lt218_0 : @LT.lt Nat _ a_218 h218.size := Fq218_0.lt
    have lt218_3 : @LT.lt Nat _ b_218 h218.size := Fq218_3.lt
    have s220 : ∀ t_, Steps p.tables e below (T218.setTop (mkF m 293 #[.val (.int sel), .val (.int len), .val (.int ps), .val (.int mt), .val (.long lc), .second, .val (.int (Int32.ofNat mk)), .val (.ref nmA_33), .val (.ref stA_33), .val (.int q38), .val (.int q45), .val (.int q52), .val (.int q59), .val (.int (Int32.ofNat nN_74)), .val (.ref b77), .val (.ref a_218), .unset, .unset, .unset] [(.ref a_218)])) t_ → Steps p.tables e below (s₁.setTop (entryFrame m #[(.int sel), (.int len), (.int ps), (.int mt), (.long lc)] maxLocals)) t_ := fun t_ k_ => s215 t_ (by
      show Steps p.tables e below (T210.setTop (mkF m 286 #[.val (.int sel), .val (.int len), .val (.int ps), .val (.int mt), .val (.long lc), .second, .val (.int (Int32.ofNat mk)), .val (.ref nmA_33), .val (.ref stA_33), .val (.int q38), .val (.int q45), .val (.int q52), .val (.int q59), .val (.int (Int32.ofNat nN_74)), .val (.ref b77), .unset, .unset, .unset, .unset] [(.ref b77), (.int (Int32.ofNat nN_74))])) t_
      refine st218.trans ?_
      show Steps p.tables e below (T218.setTop (mkF m 289 #[.val (.int sel), .val (.int len), .val (.int ps), .val (.int mt), .val (.long lc), .second, .val (.int (Int32.ofNat mk)), .val (.ref nmA_33), .val (.ref stA_33), .val (.int q38), .val (.int q45), .val (.int q52), .val (.int q59), .val (.int (Int32.ofNat nN_74)), .val (.ref b77), .unset, .unset, .unset, .unset] [(.ref a_218)])) _
      refine XS.astore X218.here hx rfl (Jvm.hb hby at_289) rfl rfl (l' := #[.val (.int sel), .val (.int len), .val (.int ps), .val (.int mt), .val (.long lc), .second, .val (.int (Int32.ofNat mk)), .val (.ref nmA_33), .val (.ref stA_33), .val (.int q38), .val (.int q45), .val (.int q52), .val (.int q59), .val (.int (Int32.ofNat nN_74)), .val (.ref b77), .val (.ref a_218), .unset, .unset, .unset]) rfl ?_
      refine XS.aload X218.here hx rfl (Jvm.hb hby at_291) rfl rfl ?_
      show Steps p.tables e below (T218.setTop (mkF m 293 #[.val (.int sel), .val (.int len), .val (.int ps), .val (.int mt), .val (.long lc), .second, .val (.int (Int32.ofNat mk)), .val (.ref nmA_33), .val (.ref stA_33), .val (.int q38), .val (.int q45), .val (.int q52), .val (.int q59), .val (.int (Int32.ofNat nN_74)), .val (.ref b77), .val (.ref a_218), .unset, .unset, .unset] [(.ref a_218)])) t_
      exact k_)
    have O221 : Old Z n0 h218 := (O216.keep K218 all0)
    have Zc222 : n0 ≤ h218.size := by omega
    obtain ⟨_, _, ⟨T223, L223, k223, n223⟩, -, Xr223, hSr223, hg223, ⟨Lc223, hQ223, l223, y223, z223, Cp223⟩, st223⟩ := callSS X218 hx (y := (⟨"com/example/coyote_hill/coyotehill/ItemStateFromNamePinLaw", "expected", "(Ljava/lang/String;)Lcom/example/coyote_hill/coyotehill/ItemState;"⟩ : MethodName)) hown (mvT hZ (hw _ (List.mem_of_getElem? (i := 44) rfl))) (mvT hZ (hw _ (List.mem_of_getElem? (i := 45) rfl))) (mvT hZ (hw _ (List.mem_of_getElem? (i := 14) rfl))) (mvT hZ (hw _ (List.mem_of_getElem? (i := 46) rfl))) (by decide) (backOfSH (s := s) (vm0 := T218.vm) (W := 0) (rmExp l Z a0 hw [] a_218 cst b_218 kb_218 (own_mk7 nN_74 d0__210 d1__210 d2__210 d3__210 d4__210 d5__210 d6__210) ra rb rc rd h218 n0 Zc222 I1 O221 (hcst : ¬ (cst = (0 : Int32))) I30 I31 I32 I33 Fq218_0 Fq218_1 Fq218_2 Fq218_3 (own_mkchs7 ⟨J210_0, own_le64k J210_1⟩ ⟨J210_2, own_le64k J210_3⟩ ⟨J210_4, own_le64k J210_5⟩ ⟨J210_6, own_le64k J210_7⟩ ⟨J210_8, own_le64k J210_9⟩ ⟨J210_10, own_le64k J210_11⟩ ⟨J210_12, own_le64k J210_13⟩) (own_mkl7 _ _ _ _ _ _ _ _)) hZ (hw _ (List.mem_of_getElem? (i := 46) rfl)) (hw _ (List.mem_of_getElem? (i := 14) rfl)) (by decide) (by decide) hEL CR.1) (g := (mkF m 293 #[.val (.int sel), .val (.int len), .val (.int ps), .val (.int mt), .val (.long lc), .second, .val (.int (Int32.ofNat mk)), .val (.ref nmA_33), .val (.ref stA_33), .val (.int q38), .val (.int q45), .val (.int q52), .val (.int q59), .val (.int (Int32.ofNat nN_74)), .val (.ref b77), .val (.ref a_218), .unset, .unset, .unset] [(.ref a_218)])) rfl (by rw [hml]; rfl) (argsL := [(.ref a_218)]) (rest := []) (lenOf pd__Ljava_lang_String__Lcom_example_coyote_hill_coyotehill_ItemState_ rfl) rfl (by show 2 * 0 + _ ≤ _; exact Nat.le_of_eq rfl) (Jvm.hb hby at_293) (fun _ _ => ⟨rfl, e218, (by decide : 9 + 8 ≤ _), (by decide : 54 + 100 ≤ _)⟩)
    dsimp only [Pt.U, Pt.locs, Pt.cells, Pt.slots] at Xr223 hSr223 hg223 l223 y223 z223 st223 hQ223 Cp223
    subst l223 y223 z223
    obtain ⟨X223, hS, hZ, hown⟩ := rebS (own := "com/example/coyote_hill/coyotehill/ItemStateFromNamePinLaw") hS (by first | exact Nat.le_refl _ | (rw [e218]; exact hk)) Xr223 hSr223 hg223 hZ hown
    obtain ⟨rfl, N223q, K223⟩ := hQ223
    have N223 := Fr.app N218 N223q
    obtain ⟨h223, e223⟩ : ∃ z, T223.heap = z := ⟨_, rfl⟩
    rw [e223] at K223 Cp223
    have hk : T223.heap.size ≤ h223.size := Nat.le_of_eq (congrArg Array.size e223)
    have z224 : h218.size ≤ h223.size := K223.1
    have CR := CR.trans Cp223
    have s225 : ∀ t_, Steps p.tables e below (T223.setTop (mkF m 300 #[.val (.int sel), .val (.int len), .val (.int ps), .val (.int mt), .val (.long lc), .second, .val (.int (Int32.ofNat mk)), .val (.ref nmA_33), .val (.ref stA_33), .val (.int q38), .val (.int q45), .val (.int q52), .val (.int q59), .val (.int (Int32.ofNat nN_74)), .val (.ref b77), .val (.ref a_218), .val (own_from (own_mk7 nN_74 d0__210 d1__210 d2__210 d3__210 d4__210 d5__210 d6__210) ra rb rc rd), .unset, .unset] [(.ref a_218)])) t_ → Steps p.tables e below (s₁.setTop (entryFrame m #[(.int sel), (.int len), (.int ps), (.int mt), (.long lc)] maxLocals)) t_ := fun t_ k_ => s220 t_ (by
      show Steps p.tables e below (T218.setTop (mkF m 293 #[.val (.int sel), .val (.int len), .val (.int ps), .val (.int mt), .val (.long lc), .second, .val (.int (Int32.ofNat mk)), .val (.ref nmA_33), .val (.ref stA_33), .val (.int q38), .val (.int q45), .val (.int q52), .val (.int q59), .val (.int (Int32.ofNat nN_74)), .val (.ref b77), .val (.ref a_218), .unset, .unset, .unset] [(.ref a_218)])) t_
      refine st223.trans ?_
      show Steps p.tables e below (T223.setTop (mkF m 296 #[.val (.int sel), .val (.int len), .val (.int ps), .val (.int mt), .val (.long lc), .second, .val (.int (Int32.ofNat mk)), .val (.ref nmA_33), .val (.ref stA_33), .val (.int q38), .val (.int q45), .val (.int q52), .val (.int q59), .val (.int (Int32.ofNat nN_74)), .val (.ref b77), .val (.ref a_218), .unset, .unset, .unset] [(own_from (own_mk7 nN_74 d0__210 d1__210 d2__210 d3__210 d4__210 d5__210 d6__210) ra rb rc rd)])) _
      refine XS.astore X223.here hx rfl (Jvm.hb hby at_296) rfl (own_fromR (own_mk7 nN_74 d0__210 d1__210 d2__210 d3__210 d4__210 d5__210 d6__210) ra rb rc rd) (l' := #[.val (.int sel), .val (.int len), .val (.int ps), .val (.int mt), .val (.long lc), .second, .val (.int (Int32.ofNat mk)), .val (.ref nmA_33), .val (.ref stA_33), .val (.int q38), .val (.int q45), .val (.int q52), .val (.int q59), .val (.int (Int32.ofNat nN_74)), .val (.ref b77), .val (.ref a_218), .val (own_from (own_mk7 nN_74 d0__210 d1__210 d2__210 d3__210 d4__210 d5__210 d6__210) ra rb rc rd), .unset, .unset]) (by have hr_ : ((own_from (own_mk7 nN_74 d0__210 d1__210 d2__210 d3__210 d4__210 d5__210 d6__210) ra rb rc rd)).isRef = true := (own_fromR (own_mk7 nN_74 d0__210 d1__210 d2__210 d3__210 d4__210 d5__210 d6__210) ra rb rc rd); generalize ((own_from (own_mk7 nN_74 d0__210 d1__210 d2__210 d3__210 d4__210 d5__210 d6__210) ra rb rc rd)) = v_ at hr_ ⊢; cases v_ <;> first | rfl | (simp [Value.isRef] at hr_)) ?_
      refine XS.aload X223.here hx rfl (Jvm.hb hby at_298) rfl rfl ?_
      show Steps p.tables e below (T223.setTop (mkF m 300 #[.val (.int sel), .val (.int len), .val (.int ps), .val (.int mt), .val (.long lc), .second, .val (.int (Int32.ofNat mk)), .val (.ref nmA_33), .val (.ref stA_33), .val (.int q38), .val (.int q45), .val (.int q52), .val (.int q59), .val (.int (Int32.ofNat nN_74)), .val (.ref b77), .val (.ref a_218), .val (own_from (own_mk7 nN_74 d0__210 d1__210 d2__210 d3__210 d4__210 d5__210 d6__210) ra rb rc rd), .unset, .unset] [(.ref a_218)])) t_
      exact k_)
    have O226 : Old Z n0 h223 := (O221.keep K223 all0)
    have f227 : Exa Z h223 a_218 "java/lang/String" := (Fq218_0.keep K223)
    have f228 : Fld Z h223 a_218 "java/lang/String" "value" "[B" (.ref b_218) := (Fq218_1.keep K223 nin0)
    have f229 : Fld Z h223 a_218 "java/lang/String" "coder" "B" (.int (own_cod (own_mk7 nN_74 d0__210 d1__210 d2__210 d3__210 d4__210 d5__210 d6__210))) := (Fq218_2.keep K223 nin0)
    have f230 : Arv Z h223 b_218 kb_218 .byte (Int32.ofNat (own_enl (own_mk7 nN_74 d0__210 d1__210 d2__210 d3__210 d4__210 d5__210 d6__210))) (own_enc (own_mk7 nN_74 d0__210 d1__210 d2__210 d3__210 d4__210 d5__210 d6__210)) (.int (0 : Int32)) := (Fq218_3.keep K223 nin0)
    have Zc231 : n0 ≤ h223.size := by omega
    obtain ⟨_, _, ⟨T232, L232, k232, n232⟩, -, X232, ⟨Lc232, hQ232, l232, y232, z232⟩, st232⟩ := Jvm.LawKit.callS X223 hx (y := (⟨"com/example/coyote_hill/coyotehill/ItemState", "fromName", "(Ljava/lang/String;)Lcom/example/coyote_hill/coyotehill/ItemState;"⟩ : MethodName)) hown (mvT hZ (hw _ (List.mem_of_getElem? (i := 60) rfl))) (mvT hZ (hw _ (List.mem_of_getElem? (i := 61) rfl))) (mvT hZ (hw _ (List.mem_of_getElem? (i := 9) rfl))) (mvT hZ (hw _ (List.mem_of_getElem? (i := 62) rfl))) (by decide) (backOf (W := 0) (rmFrom l Z a0 hw [] a_218 cst b_218 kb_218 (own_mk7 nN_74 d0__210 d1__210 d2__210 d3__210 d4__210 d5__210 d6__210) vl kv ra rb rc rd na nb nc nx va vb vc vd ka kb_ kc_ kd h223 n0 Zc231 I1 O226 (hcst : ¬ (cst = (0 : Int32))) I3 I4 I5 I6 I7 I8 I9 I10 I11 I12 I13 I14 I15 I16 I17 I18 I19 I20 I21 I22 I23 I24 I25 I26 I27 I28 I29 f227 f228 f229 f230 (own_mkchs7 ⟨J210_0, own_le64k J210_1⟩ ⟨J210_2, own_le64k J210_3⟩ ⟨J210_4, own_le64k J210_5⟩ ⟨J210_6, own_le64k J210_7⟩ ⟨J210_8, own_le64k J210_9⟩ ⟨J210_10, own_le64k J210_11⟩ ⟨J210_12, own_le64k J210_13⟩) (own_mkl7 _ _ _ _ _ _ _ _)) hZ (hw _ (List.mem_of_getElem? (i := 62) rfl)) (hw _ (List.mem_of_getElem? (i := 9) rfl)) (by decide) (by decide)) (g := (mkF m 300 #[.val (.int sel), .val (.int len), .val (.int ps), .val (.int mt), .val (.long lc), .second, .val (.int (Int32.ofNat mk)), .val (.ref nmA_33), .val (.ref stA_33), .val (.int q38), .val (.int q45), .val (.int q52), .val (.int q59), .val (.int (Int32.ofNat nN_74)), .val (.ref b77), .val (.ref a_218), .val (own_from (own_mk7 nN_74 d0__210 d1__210 d2__210 d3__210 d4__210 d5__210 d6__210) ra rb rc rd), .unset, .unset] [(.ref a_218)])) rfl (by rw [hml]; rfl) (argsL := [(.ref a_218)]) (rest := []) (lenOf pd__Ljava_lang_String__Lcom_example_coyote_hill_coyotehill_ItemState_ rfl) rfl (by show 2 * 0 + _ ≤ _; exact Nat.le_of_eq rfl) (Jvm.hb hby at_300) (fun _ _ => ⟨rfl, e223, (by decide : 17 + 1 ≤ _), (by decide : 154 + 4 ≤ _)⟩)
    dsimp only [Pt.U, Pt.locs, Pt.cells, Pt.slots] at X232 l232 y232 z232 st232 hQ232
    subst l232 y232 z232
    obtain ⟨rfl, N232q, K232⟩ := hQ232
    have N232 := Fr.app N223 N232q
    obtain ⟨h232, e232⟩ : ∃ z, T232.heap = z := ⟨_, rfl⟩
    rw [e232] at K232
    have z233 : h223.size ≤ h232.size := K232.1
    have Cp233 : CHr Z ELs T223.vm h223 T223.vm h232 := CHr.keep K232 sf0 CR.1
    have hk := Nat.le_trans hk z233
    have CR := CR.trans Cp233
    have s234 : ∀ t_, Steps p.tables e below (T232.setTop (mkF m 317 #[.val (.int sel), .val (.int len), .val (.int ps), .val (.int mt), .val (.long lc), .second, .val (.int (Int32.ofNat mk)), .val (.ref nmA_33), .val (.ref stA_33), .val (.int q38), .val (.int q45), .val (.int q52), .val (.int q59), .val (.int (Int32.ofNat nN_74)), .val (.ref b77), .val (.ref a_218), .val (own_from (own_mk7 nN_74 d0__210 d1__210 d2__210 d3__210 d4__210 d5__210 d6__210) ra rb rc rd), .val (.int (1 : Int32)), .unset] [(.ref stA_33)])) t_ → Steps p.tables e below (s₁.setTop (entryFrame m #[(.int sel), (.int len), (.int ps), (.int mt), (.long lc)] maxLocals)) t_ := fun t_ k_ => s225 t_ (by
      show Steps p.tables e below (T223.setTop (mkF m 300 #[.val (.int sel), .val (.int len), .val (.int ps), .val (.int mt), .val (.long lc), .second, .val (.int (Int32.ofNat mk)), .val (.ref nmA_33), .val (.ref stA_33), .val (.int q38), .val (.int q45), .val (.int q52), .val (.int q59), .val (.int (Int32.ofNat nN_74)), .val (.ref b77), .val (.ref a_218), .val (own_from (own_mk7 nN_74 d0__210 d1__210 d2__210 d3__210 d4__210 d5__210 d6__210) ra rb rc rd), .unset, .unset] [(.ref a_218)])) t_
      refine st232 _ ?_
      show Steps p.tables e below (T232.setTop (mkF m 303 #[.val (.int sel), .val (.int len), .val (.int ps), .val (.int mt), .val (.long lc), .second, .val (.int (Int32.ofNat mk)), .val (.ref nmA_33), .val (.ref stA_33), .val (.int q38), .val (.int q45), .val (.int q52), .val (.int q59), .val (.int (Int32.ofNat nN_74)), .val (.ref b77), .val (.ref a_218), .val (own_from (own_mk7 nN_74 d0__210 d1__210 d2__210 d3__210 d4__210 d5__210 d6__210) ra rb rc rd), .unset, .unset] [(own_from (own_mk7 nN_74 d0__210 d1__210 d2__210 d3__210 d4__210 d5__210 d6__210) ra rb rc rd)])) _
      refine XS.aload X232.here hx rfl (Jvm.hb hby at_303) rfl (own_fromR (own_mk7 nN_74 d0__210 d1__210 d2__210 d3__210 d4__210 d5__210 d6__210) ra rb rc rd) ?_
      refine Jvm.RoadKit.acmp (g := (mkF m 305 #[.val (.int sel), .val (.int len), .val (.int ps), .val (.int mt), .val (.long lc), .second, .val (.int (Int32.ofNat mk)), .val (.ref nmA_33), .val (.ref stA_33), .val (.int q38), .val (.int q45), .val (.int q52), .val (.int q59), .val (.int (Int32.ofNat nN_74)), .val (.ref b77), .val (.ref a_218), .val (own_from (own_mk7 nN_74 d0__210 d1__210 d2__210 d3__210 d4__210 d5__210 d6__210) ra rb rc rd), .unset, .unset] [(own_from (own_mk7 nN_74 d0__210 d1__210 d2__210 d3__210 d4__210 d5__210 d6__210) ra rb rc rd), (own_from (own_mk7 nN_74 d0__210 d1__210 d2__210 d3__210 d4__210 d5__210 d6__210) ra rb rc rd)])) X232 hx rfl (own_fromR (own_mk7 nN_74 d0__210 d1__210 d2__210 d3__210 d4__210 d5__210 d6__210) ra rb rc rd) (own_fromR (own_mk7 nN_74 d0__210 d1__210 d2__210 d3__210 d4__210 d5__210 d6__210) ra rb rc rd) (pc0 := 305) (pc' := 308) (same := true) rfl (Jvm.hb hby at_305) rfl (decide_eq_true rfl) (by decide) (by decide) ?_
      show Steps p.tables e below (T232.setTop (mkF m 308 #[.val (.int sel), .val (.int len), .val (.int ps), .val (.int mt), .val (.long lc), .second, .val (.int (Int32.ofNat mk)), .val (.ref nmA_33), .val (.ref stA_33), .val (.int q38), .val (.int q45), .val (.int q52), .val (.int q59), .val (.int (Int32.ofNat nN_74)), .val (.ref b77), .val (.ref a_218), .val (own_from (own_mk7 nN_74 d0__210 d1__210 d2__210 d3__210 d4__210 d5__210 d6__210) ra rb rc rd), .unset, .unset] [])) _
      refine XS.iconst X232.here hx rfl (Jvm.hb hby at_308) ?_
      refine XS.goto X232.here hx rfl (pc0 := 309) (pc' := 313) rfl (Jvm.hb hby at_309) (by decide) (by decide) ?_
      refine XS.istore X232.here hx rfl (Jvm.hb hby at_313) rfl (l' := #[.val (.int sel), .val (.int len), .val (.int ps), .val (.int mt), .val (.long lc), .second, .val (.int (Int32.ofNat mk)), .val (.ref nmA_33), .val (.ref stA_33), .val (.int q38), .val (.int q45), .val (.int q52), .val (.int q59), .val (.int (Int32.ofNat nN_74)), .val (.ref b77), .val (.ref a_218), .val (own_from (own_mk7 nN_74 d0__210 d1__210 d2__210 d3__210 d4__210 d5__210 d6__210) ra rb rc rd), .val (.int (1 : Int32)), .unset]) rfl ?_
      refine XS.aload X232.here hx rfl (Jvm.hb hby at_315) rfl rfl ?_
      show Steps p.tables e below (T232.setTop (mkF m 317 #[.val (.int sel), .val (.int len), .val (.int ps), .val (.int mt), .val (.long lc), .second, .val (.int (Int32.ofNat mk)), .val (.ref nmA_33), .val (.ref stA_33), .val (.int q38), .val (.int q45), .val (.int q52), .val (.int q59), .val (.int (Int32.ofNat nN_74)), .val (.ref b77), .val (.ref a_218), .val (own_from (own_mk7 nN_74 d0__210 d1__210 d2__210 d3__210 d4__210 d5__210 d6__210) ra rb rc rd), .val (.int (1 : Int32)), .unset] [(.ref stA_33)])) t_
      exact k_)
    have f235 : Fld Z h232 stA_33 "com/example/coyote_hill/coyotehill/ItemState" "_name" "Ljava/lang/String;" (.ref naA_33) := (((((((((((((G33_5.keep K74 nin0).ext E77).other W88 (Or.inl (show @Ne Nat stA_33 b77 by omega))).other W99 (Or.inl (show @Ne Nat stA_33 b77 by omega))).other W110 (Or.inl (show @Ne Nat stA_33 b77 by omega))).other W121 (Or.inl (show @Ne Nat stA_33 b77 by omega))).other W132 (Or.inl (show @Ne Nat stA_33 b77 by omega))).other W143 (Or.inl (show @Ne Nat stA_33 b77 by omega))).other W154 (Or.inl (show @Ne Nat stA_33 b77 by omega))).keep K210 (ninS (show @Ne Nat stA_33 b77 by omega) nin0)).keep K218 nin0).keep K223 nin0).keep K232 nin0)
    have Zc236 : n0 ≤ h232.size := by omega
    have f238 : Exa Z h232 stA_33 "com/example/coyote_hill/coyotehill/ItemState" := (((((((((((((G33_4.keep K74).ext E77).wr W88).wr W99).wr W110).wr W121).wr W132).wr W143).wr W154).keep K210).keep K218).keep K223).keep K232)
    obtain ⟨cq237, kq237, q237a, q237b, q237c⟩ := isOf hZ e232 f238
    obtain ⟨_, _, ⟨T237, L237, k237, n237⟩, -, X237, ⟨Lc237, hQ237, l237, y237, z237⟩, st237⟩ := X232.virtualBack hx (y := (⟨"com/example/coyote_hill/coyotehill/ItemState", "getName", "()Ljava/lang/String;"⟩ : MethodName)) (z := (⟨"com/example/coyote_hill/coyotehill/ItemState", "getName", "()Ljava/lang/String;"⟩ : MethodName)) hown (mvT hZ (hw _ (List.mem_of_getElem? (i := 84) rfl))) (mvT hZ (hw _ (List.mem_of_getElem? (i := 85) rfl))) (notFace_of_selects (args := #[]) (mvT hZ (hw _ (List.mem_of_getElem? (i := 87) rfl)))) (mvT hZ (hw _ (List.mem_of_getElem? (i := 87) rfl))) (mvT hZ (hw _ (List.mem_of_getElem? (i := 86) rfl))) (by decide) (backOf (W := 0) (rmGN l Z a0 hw [] stA_33 naA_33 h232 n0 Zc236 f235) hZ (hw _ (List.mem_of_getElem? (i := 88) rfl)) (hw _ (List.mem_of_getElem? (i := 9) rfl)) (by decide) (by decide)) q237a q237c (g := (mkF m 317 #[.val (.int sel), .val (.int len), .val (.int ps), .val (.int mt), .val (.long lc), .second, .val (.int (Int32.ofNat mk)), .val (.ref nmA_33), .val (.ref stA_33), .val (.int q38), .val (.int q45), .val (.int q52), .val (.int q59), .val (.int (Int32.ofNat nN_74)), .val (.ref b77), .val (.ref a_218), .val (own_from (own_mk7 nN_74 d0__210 d1__210 d2__210 d3__210 d4__210 d5__210 d6__210) ra rb rc rd), .val (.int (1 : Int32)), .unset] [(.ref stA_33)])) rfl (by rw [hml]; rfl) (Steps.refl _) (argsL := []) (rest := []) (lenOf pd___Ljava_lang_String_ rfl) rfl (by show 2 * 0 + _ ≤ _; exact Nat.le_of_eq rfl) (Jvm.hb hby at_317) (fun _ _ => ⟨rfl, e232, (by decide : 18 + 0 ≤ _), (by decide : 158 + 0 ≤ _)⟩)
    dsimp only [Pt.U, Pt.locs, Pt.cells, Pt.slots] at X237 l237 y237 z237 st237 hQ237
    subst l237 y237 z237
    obtain ⟨rfl, N237q, e237⟩ := hQ237
    have N237 := Fr.app N232 N237q
    have s239 : ∀ t_, Steps p.tables e below (T237.setTop (mkF m 320 #[.val (.int sel), .val (.int len), .val (.int ps), .val (.int mt), .val (.long lc), .second, .val (.int (Int32.ofNat mk)), .val (.ref nmA_33), .val (.ref stA_33), .val (.int q38), .val (.int q45), .val (.int q52), .val (.int q59), .val (.int (Int32.ofNat nN_74)), .val (.ref b77), .val (.ref a_218), .val (own_from (own_mk7 nN_74 d0__210 d1__210 d2__210 d3__210 d4__210 d5__210 d6__210) ra rb rc rd), .val (.int (1 : Int32)), .unset] [(.ref naA_33)])) t_ → Steps p.tables e below (s₁.setTop (entryFrame m #[(.int sel), (.int len), (.int ps), (.int mt), (.long lc)] maxLocals)) t_ := fun t_ k_ => s234 t_ (by
      show Steps p.tables e below (T232.setTop (mkF m 317 #[.val (.int sel), .val (.int len), .val (.int ps), .val (.int mt), .val (.long lc), .second, .val (.int (Int32.ofNat mk)), .val (.ref nmA_33), .val (.ref stA_33), .val (.int q38), .val (.int q45), .val (.int q52), .val (.int q59), .val (.int (Int32.ofNat nN_74)), .val (.ref b77), .val (.ref a_218), .val (own_from (own_mk7 nN_74 d0__210 d1__210 d2__210 d3__210 d4__210 d5__210 d6__210) ra rb rc rd), .val (.int (1 : Int32)), .unset] [(.ref stA_33)])) t_
      refine st237.trans ?_
      show Steps p.tables e below (T237.setTop (mkF m 320 #[.val (.int sel), .val (.int len), .val (.int ps), .val (.int mt), .val (.long lc), .second, .val (.int (Int32.ofNat mk)), .val (.ref nmA_33), .val (.ref stA_33), .val (.int q38), .val (.int q45), .val (.int q52), .val (.int q59), .val (.int (Int32.ofNat nN_74)), .val (.ref b77), .val (.ref a_218), .val (own_from (own_mk7 nN_74 d0__210 d1__210 d2__210 d3__210 d4__210 d5__210 d6__210) ra rb rc rd), .val (.int (1 : Int32)), .unset] [(.ref naA_33)])) _
      show Steps p.tables e below (T237.setTop (mkF m 320 #[.val (.int sel), .val (.int len), .val (.int ps), .val (.int mt), .val (.long lc), .second, .val (.int (Int32.ofNat mk)), .val (.ref nmA_33), .val (.ref stA_33), .val (.int q38), .val (.int q45), .val (.int q52), .val (.int q59), .val (.int (Int32.ofNat nN_74)), .val (.ref b77), .val (.ref a_218), .val (own_from (own_mk7 nN_74 d0__210 d1__210 d2__210 d3__210 d4__210 d5__210 d6__210) ra rb rc rd), .val (.int (1 : Int32)), .unset] [(.ref naA_33)])) t_
      exact k_)
    have O240 : Old Z n0 h232 := (O226.keep K232 all0)
    have f241 : Exa Z h232 naA_33 "java/lang/String" := (((((((((((((G33_6.keep K74).ext E77).wr W88).wr W99).wr W110).wr W121).wr W132).wr W143).wr W154).keep K210).keep K218).keep K223).keep K232)
    have f242 : Fld Z h232 naA_33 "java/lang/String" "value" "[B" (.ref bB_33) := (((((((((((((G33_7.keep K74 nin0).ext E77).other W88 (Or.inl (show @Ne Nat naA_33 b77 by omega))).other W99 (Or.inl (show @Ne Nat naA_33 b77 by omega))).other W110 (Or.inl (show @Ne Nat naA_33 b77 by omega))).other W121 (Or.inl (show @Ne Nat naA_33 b77 by omega))).other W132 (Or.inl (show @Ne Nat naA_33 b77 by omega))).other W143 (Or.inl (show @Ne Nat naA_33 b77 by omega))).other W154 (Or.inl (show @Ne Nat naA_33 b77 by omega))).keep K210 (ninS (show @Ne Nat naA_33 b77 by omega) nin0)).keep K218 nin0).keep K223 nin0).keep K232 nin0)
    have f243 : Fld Z h232 naA_33 "java/lang/String" "coder" "B" (.int (own_cod (own_nm mk))) := (((((((((((((G33_8.keep K74 nin0).ext E77).other W88 (Or.inl (show @Ne Nat naA_33 b77 by omega))).other W99 (Or.inl (show @Ne Nat naA_33 b77 by omega))).other W110 (Or.inl (show @Ne Nat naA_33 b77 by omega))).other W121 (Or.inl (show @Ne Nat naA_33 b77 by omega))).other W132 (Or.inl (show @Ne Nat naA_33 b77 by omega))).other W143 (Or.inl (show @Ne Nat naA_33 b77 by omega))).other W154 (Or.inl (show @Ne Nat naA_33 b77 by omega))).keep K210 (ninS (show @Ne Nat naA_33 b77 by omega) nin0)).keep K218 nin0).keep K223 nin0).keep K232 nin0)
    have f244 : Arv Z h232 bB_33 kB_33 .byte (Int32.ofNat (own_enl (own_nm mk))) (own_enc (own_nm mk)) (.int (0 : Int32)) := (((((((((((((G33_9.keep K74 nin0).ext E77).other W88 (own_arvne ((G33_9.keep K74 nin0).ext E77) V77 (by decide))).other W99 (own_arvne (((G33_9.keep K74 nin0).ext E77).other W88 (own_arvne ((G33_9.keep K74 nin0).ext E77) V77 (by decide))) V88 (by decide))).other W110 (own_arvne ((((G33_9.keep K74 nin0).ext E77).other W88 (own_arvne ((G33_9.keep K74 nin0).ext E77) V77 (by decide))).other W99 (own_arvne (((G33_9.keep K74 nin0).ext E77).other W88 (own_arvne ((G33_9.keep K74 nin0).ext E77) V77 (by decide))) V88 (by decide))) V99 (by decide))).other W121 (own_arvne (((((G33_9.keep K74 nin0).ext E77).other W88 (own_arvne ((G33_9.keep K74 nin0).ext E77) V77 (by decide))).other W99 (own_arvne (((G33_9.keep K74 nin0).ext E77).other W88 (own_arvne ((G33_9.keep K74 nin0).ext E77) V77 (by decide))) V88 (by decide))).other W110 (own_arvne ((((G33_9.keep K74 nin0).ext E77).other W88 (own_arvne ((G33_9.keep K74 nin0).ext E77) V77 (by decide))).other W99 (own_arvne (((G33_9.keep K74 nin0).ext E77).other W88 (own_arvne ((G33_9.keep K74 nin0).ext E77) V77 (by decide))) V88 (by decide))) V99 (by decide))) V110 (by decide))).other W132 (own_arvne ((((((G33_9.keep K74 nin0).ext E77).other W88 (own_arvne ((G33_9.keep K74 nin0).ext E77) V77 (by decide))).other W99 (own_arvne (((G33_9.keep K74 nin0).ext E77).other W88 (own_arvne ((G33_9.keep K74 nin0).ext E77) V77 (by decide))) V88 (by decide))).other W110 (own_arvne ((((G33_9.keep K74 nin0).ext E77).other W88 (own_arvne ((G33_9.keep K74 nin0).ext E77) V77 (by decide))).other W99 (own_arvne (((G33_9.keep K74 nin0).ext E77).other W88 (own_arvne ((G33_9.keep K74 nin0).ext E77) V77 (by decide))) V88 (by decide))) V99 (by decide))).other W121 (own_arvne (((((G33_9.keep K74 nin0).ext E77).other W88 (own_arvne ((G33_9.keep K74 nin0).ext E77) V77 (by decide))).other W99 (own_arvne (((G33_9.keep K74 nin0).ext E77).other W88 (own_arvne ((G33_9.keep K74 nin0).ext E77) V77 (by decide))) V88 (by decide))).other W110 (own_arvne ((((G33_9.keep K74 nin0).ext E77).other W88 (own_arvne ((G33_9.keep K74 nin0).ext E77) V77 (by decide))).other W99 (own_arvne (((G33_9.keep K74 nin0).ext E77).other W88 (own_arvne ((G33_9.keep K74 nin0).ext E77) V77 (by decide))) V88 (by decide))) V99 (by decide))) V110 (by decide))) V121 (by decide))).other W143 (own_arvne (((((((G33_9.keep K74 nin0).ext E77).other W88 (own_arvne ((G33_9.keep K74 nin0).ext E77) V77 (by decide))).other W99 (own_arvne (((G33_9.keep K74 nin0).ext E77).other W88 (own_arvne ((G33_9.keep K74 nin0).ext E77) V77 (by decide))) V88 (by decide))).other W110 (own_arvne ((((G33_9.keep K74 nin0).ext E77).other W88 (own_arvne ((G33_9.keep K74 nin0).ext E77) V77 (by decide))).other W99 (own_arvne (((G33_9.keep K74 nin0).ext E77).other W88 (own_arvne ((G33_9.keep K74 nin0).ext E77) V77 (by decide))) V88 (by decide))) V99 (by decide))).other W121 (own_arvne (((((G33_9.keep K74 nin0).ext E77).other W88 (own_arvne ((G33_9.keep K74 nin0).ext E77) V77 (by decide))).other W99 (own_arvne (((G33_9.keep K74 nin0).ext E77).other W88 (own_arvne ((G33_9.keep K74 nin0).ext E77) V77 (by decide))) V88 (by decide))).other W110 (own_arvne ((((G33_9.keep K74 nin0).ext E77).other W88 (own_arvne ((G33_9.keep K74 nin0).ext E77) V77 (by decide))).other W99 (own_arvne (((G33_9.keep K74 nin0).ext E77).other W88 (own_arvne ((G33_9.keep K74 nin0).ext E77) V77 (by decide))) V88 (by decide))) V99 (by decide))) V110 (by decide))).other W132 (own_arvne ((((((G33_9.keep K74 nin0).ext E77).other W88 (own_arvne ((G33_9.keep K74 nin0).ext E77) V77 (by decide))).other W99 (own_arvne (((G33_9.keep K74 nin0).ext E77).other W88 (own_arvne ((G33_9.keep K74 nin0).ext E77) V77 (by decide))) V88 (by decide))).other W110 (own_arvne ((((G33_9.keep K74 nin0).ext E77).other W88 (own_arvne ((G33_9.keep K74 nin0).ext E77) V77 (by decide))).other W99 (own_arvne (((G33_9.keep K74 nin0).ext E77).other W88 (own_arvne ((G33_9.keep K74 nin0).ext E77) V77 (by decide))) V88 (by decide))) V99 (by decide))).other W121 (own_arvne (((((G33_9.keep K74 nin0).ext E77).other W88 (own_arvne ((G33_9.keep K74 nin0).ext E77) V77 (by decide))).other W99 (own_arvne (((G33_9.keep K74 nin0).ext E77).other W88 (own_arvne ((G33_9.keep K74 nin0).ext E77) V77 (by decide))) V88 (by decide))).other W110 (own_arvne ((((G33_9.keep K74 nin0).ext E77).other W88 (own_arvne ((G33_9.keep K74 nin0).ext E77) V77 (by decide))).other W99 (own_arvne (((G33_9.keep K74 nin0).ext E77).other W88 (own_arvne ((G33_9.keep K74 nin0).ext E77) V77 (by decide))) V88 (by decide))) V99 (by decide))) V110 (by decide))) V121 (by decide))) V132 (by decide))).other W154 (own_arvne ((((((((G33_9.keep K74 nin0).ext E77).other W88 (own_arvne ((G33_9.keep K74 nin0).ext E77) V77 (by decide))).other W99 (own_arvne (((G33_9.keep K74 nin0).ext E77).other W88 (own_arvne ((G33_9.keep K74 nin0).ext E77) V77 (by decide))) V88 (by decide))).other W110 (own_arvne ((((G33_9.keep K74 nin0).ext E77).other W88 (own_arvne ((G33_9.keep K74 nin0).ext E77) V77 (by decide))).other W99 (own_arvne (((G33_9.keep K74 nin0).ext E77).other W88 (own_arvne ((G33_9.keep K74 nin0).ext E77) V77 (by decide))) V88 (by decide))) V99 (by decide))).other W121 (own_arvne (((((G33_9.keep K74 nin0).ext E77).other W88 (own_arvne ((G33_9.keep K74 nin0).ext E77) V77 (by decide))).other W99 (own_arvne (((G33_9.keep K74 nin0).ext E77).other W88 (own_arvne ((G33_9.keep K74 nin0).ext E77) V77 (by decide))) V88 (by decide))).other W110 (own_arvne ((((G33_9.keep K74 nin0).ext E77).other W88 (own_arvne ((G33_9.keep K74 nin0).ext E77) V77 (by decide))).other W99 (own_arvne (((G33_9.keep K74 nin0).ext E77).other W88 (own_arvne ((G33_9.keep K74 nin0).ext E77) V77 (by decide))) V88 (by decide))) V99 (by decide))) V110 (by decide))).other W132 (own_arvne ((((((G33_9.keep K74 nin0).ext E77).other W88 (own_arvne ((G33_9.keep K74 nin0).ext E77) V77 (by decide))).other W99 (own_arvne (((G33_9.keep K74 nin0).ext E77).other W88 (own_arvne ((G33_9.keep K74 nin0).ext E77) V77 (by decide))) V88 (by decide))).other W110 (own_arvne ((((G33_9.keep K74 nin0).ext E77).other W88 (own_arvne ((G33_9.keep K74 nin0).ext E77) V77 (by decide))).other W99 (own_arvne (((G33_9.keep K74 nin0).ext E77).other W88 (own_arvne ((G33_9.keep K74 nin0).ext E77) V77 (by decide))) V88 (by decide))) V99 (by decide))).other W121 (own_arvne (((((G33_9.keep K74 nin0).ext E77).other W88 (own_arvne ((G33_9.keep K74 nin0).ext E77) V77 (by decide))).other W99 (own_arvne (((G33_9.keep K74 nin0).ext E77).other W88 (own_arvne ((G33_9.keep K74 nin0).ext E77) V77 (by decide))) V88 (by decide))).other W110 (own_arvne ((((G33_9.keep K74 nin0).ext E77).other W88 (own_arvne ((G33_9.keep K74 nin0).ext E77) V77 (by decide))).other W99 (own_arvne (((G33_9.keep K74 nin0).ext E77).other W88 (own_arvne ((G33_9.keep K74 nin0).ext E77) V77 (by decide))) V88 (by decide))) V99 (by decide))) V110 (by decide))) V121 (by decide))).other W143 (own_arvne (((((((G33_9.keep K74 nin0).ext E77).other W88 (own_arvne ((G33_9.keep K74 nin0).ext E77) V77 (by decide))).other W99 (own_arvne (((G33_9.keep K74 nin0).ext E77).other W88 (own_arvne ((G33_9.keep K74 nin0).ext E77) V77 (by decide))) V88 (by decide))).other W110 (own_arvne ((((G33_9.keep K74 nin0).ext E77).other W88 (own_arvne ((G33_9.keep K74 nin0).ext E77) V77 (by decide))).other W99 (own_arvne (((G33_9.keep K74 nin0).ext E77).other W88 (own_arvne ((G33_9.keep K74 nin0).ext E77) V77 (by decide))) V88 (by decide))) V99 (by decide))).other W121 (own_arvne (((((G33_9.keep K74 nin0).ext E77).other W88 (own_arvne ((G33_9.keep K74 nin0).ext E77) V77 (by decide))).other W99 (own_arvne (((G33_9.keep K74 nin0).ext E77).other W88 (own_arvne ((G33_9.keep K74 nin0).ext E77) V77 (by decide))) V88 (by decide))).other W110 (own_arvne ((((G33_9.keep K74 nin0).ext E77).other W88 (own_arvne ((G33_9.keep K74 nin0).ext E77) V77 (by decide))).other W99 (own_arvne (((G33_9.keep K74 nin0).ext E77).other W88 (own_arvne ((G33_9.keep K74 nin0).ext E77) V77 (by decide))) V88 (by decide))) V99 (by decide))) V110 (by decide))).other W132 (own_arvne ((((((G33_9.keep K74 nin0).ext E77).other W88 (own_arvne ((G33_9.keep K74 nin0).ext E77) V77 (by decide))).other W99 (own_arvne (((G33_9.keep K74 nin0).ext E77).other W88 (own_arvne ((G33_9.keep K74 nin0).ext E77) V77 (by decide))) V88 (by decide))).other W110 (own_arvne ((((G33_9.keep K74 nin0).ext E77).other W88 (own_arvne ((G33_9.keep K74 nin0).ext E77) V77 (by decide))).other W99 (own_arvne (((G33_9.keep K74 nin0).ext E77).other W88 (own_arvne ((G33_9.keep K74 nin0).ext E77) V77 (by decide))) V88 (by decide))) V99 (by decide))).other W121 (own_arvne (((((G33_9.keep K74 nin0).ext E77).other W88 (own_arvne ((G33_9.keep K74 nin0).ext E77) V77 (by decide))).other W99 (own_arvne (((G33_9.keep K74 nin0).ext E77).other W88 (own_arvne ((G33_9.keep K74 nin0).ext E77) V77 (by decide))) V88 (by decide))).other W110 (own_arvne ((((G33_9.keep K74 nin0).ext E77).other W88 (own_arvne ((G33_9.keep K74 nin0).ext E77) V77 (by decide))).other W99 (own_arvne (((G33_9.keep K74 nin0).ext E77).other W88 (own_arvne ((G33_9.keep K74 nin0).ext E77) V77 (by decide))) V88 (by decide))) V99 (by decide))) V110 (by decide))) V121 (by decide))) V132 (by decide))) V143 (by decide))).keep K210 (ninS (own_arvne (((((((((G33_9.keep K74 nin0).ext E77).other W88 (own_arvne ((G33_9.keep K74 nin0).ext E77) V77 (by decide))).other W99 (own_arvne (((G33_9.keep K74 nin0).ext E77).other W88 (own_arvne ((G33_9.keep K74 nin0).ext E77) V77 (by decide))) V88 (by decide))).other W110 (own_arvne ((((G33_9.keep K74 nin0).ext E77).other W88 (own_arvne ((G33_9.keep K74 nin0).ext E77) V77 (by decide))).other W99 (own_arvne (((G33_9.keep K74 nin0).ext E77).other W88 (own_arvne ((G33_9.keep K74 nin0).ext E77) V77 (by decide))) V88 (by decide))) V99 (by decide))).other W121 (own_arvne (((((G33_9.keep K74 nin0).ext E77).other W88 (own_arvne ((G33_9.keep K74 nin0).ext E77) V77 (by decide))).other W99 (own_arvne (((G33_9.keep K74 nin0).ext E77).other W88 (own_arvne ((G33_9.keep K74 nin0).ext E77) V77 (by decide))) V88 (by decide))).other W110 (own_arvne ((((G33_9.keep K74 nin0).ext E77).other W88 (own_arvne ((G33_9.keep K74 nin0).ext E77) V77 (by decide))).other W99 (own_arvne (((G33_9.keep K74 nin0).ext E77).other W88 (own_arvne ((G33_9.keep K74 nin0).ext E77) V77 (by decide))) V88 (by decide))) V99 (by decide))) V110 (by decide))).other W132 (own_arvne ((((((G33_9.keep K74 nin0).ext E77).other W88 (own_arvne ((G33_9.keep K74 nin0).ext E77) V77 (by decide))).other W99 (own_arvne (((G33_9.keep K74 nin0).ext E77).other W88 (own_arvne ((G33_9.keep K74 nin0).ext E77) V77 (by decide))) V88 (by decide))).other W110 (own_arvne ((((G33_9.keep K74 nin0).ext E77).other W88 (own_arvne ((G33_9.keep K74 nin0).ext E77) V77 (by decide))).other W99 (own_arvne (((G33_9.keep K74 nin0).ext E77).other W88 (own_arvne ((G33_9.keep K74 nin0).ext E77) V77 (by decide))) V88 (by decide))) V99 (by decide))).other W121 (own_arvne (((((G33_9.keep K74 nin0).ext E77).other W88 (own_arvne ((G33_9.keep K74 nin0).ext E77) V77 (by decide))).other W99 (own_arvne (((G33_9.keep K74 nin0).ext E77).other W88 (own_arvne ((G33_9.keep K74 nin0).ext E77) V77 (by decide))) V88 (by decide))).other W110 (own_arvne ((((G33_9.keep K74 nin0).ext E77).other W88 (own_arvne ((G33_9.keep K74 nin0).ext E77) V77 (by decide))).other W99 (own_arvne (((G33_9.keep K74 nin0).ext E77).other W88 (own_arvne ((G33_9.keep K74 nin0).ext E77) V77 (by decide))) V88 (by decide))) V99 (by decide))) V110 (by decide))) V121 (by decide))).other W143 (own_arvne (((((((G33_9.keep K74 nin0).ext E77).other W88 (own_arvne ((G33_9.keep K74 nin0).ext E77) V77 (by decide))).other W99 (own_arvne (((G33_9.keep K74 nin0).ext E77).other W88 (own_arvne ((G33_9.keep K74 nin0).ext E77) V77 (by decide))) V88 (by decide))).other W110 (own_arvne ((((G33_9.keep K74 nin0).ext E77).other W88 (own_arvne ((G33_9.keep K74 nin0).ext E77) V77 (by decide))).other W99 (own_arvne (((G33_9.keep K74 nin0).ext E77).other W88 (own_arvne ((G33_9.keep K74 nin0).ext E77) V77 (by decide))) V88 (by decide))) V99 (by decide))).other W121 (own_arvne (((((G33_9.keep K74 nin0).ext E77).other W88 (own_arvne ((G33_9.keep K74 nin0).ext E77) V77 (by decide))).other W99 (own_arvne (((G33_9.keep K74 nin0).ext E77).other W88 (own_arvne ((G33_9.keep K74 nin0).ext E77) V77 (by decide))) V88 (by decide))).other W110 (own_arvne ((((G33_9.keep K74 nin0).ext E77).other W88 (own_arvne ((G33_9.keep K74 nin0).ext E77) V77 (by decide))).other W99 (own_arvne (((G33_9.keep K74 nin0).ext E77).other W88 (own_arvne ((G33_9.keep K74 nin0).ext E77) V77 (by decide))) V88 (by decide))) V99 (by decide))) V110 (by decide))).other W132 (own_arvne ((((((G33_9.keep K74 nin0).ext E77).other W88 (own_arvne ((G33_9.keep K74 nin0).ext E77) V77 (by decide))).other W99 (own_arvne (((G33_9.keep K74 nin0).ext E77).other W88 (own_arvne ((G33_9.keep K74 nin0).ext E77) V77 (by decide))) V88 (by decide))).other W110 (own_arvne ((((G33_9.keep K74 nin0).ext E77).other W88 (own_arvne ((G33_9.keep K74 nin0).ext E77) V77 (by decide))).other W99 (own_arvne (((G33_9.keep K74 nin0).ext E77).other W88 (own_arvne ((G33_9.keep K74 nin0).ext E77) V77 (by decide))) V88 (by decide))) V99 (by decide))).other W121 (own_arvne (((((G33_9.keep K74 nin0).ext E77).other W88 (own_arvne ((G33_9.keep K74 nin0).ext E77) V77 (by decide))).other W99 (own_arvne (((G33_9.keep K74 nin0).ext E77).other W88 (own_arvne ((G33_9.keep K74 nin0).ext E77) V77 (by decide))) V88 (by decide))).other W110 (own_arvne ((((G33_9.keep K74 nin0).ext E77).other W88 (own_arvne ((G33_9.keep K74 nin0).ext E77) V77 (by decide))).other W99 (own_arvne (((G33_9.keep K74 nin0).ext E77).other W88 (own_arvne ((G33_9.keep K74 nin0).ext E77) V77 (by decide))) V88 (by decide))) V99 (by decide))) V110 (by decide))) V121 (by decide))) V132 (by decide))).other W154 (own_arvne ((((((((G33_9.keep K74 nin0).ext E77).other W88 (own_arvne ((G33_9.keep K74 nin0).ext E77) V77 (by decide))).other W99 (own_arvne (((G33_9.keep K74 nin0).ext E77).other W88 (own_arvne ((G33_9.keep K74 nin0).ext E77) V77 (by decide))) V88 (by decide))).other W110 (own_arvne ((((G33_9.keep K74 nin0).ext E77).other W88 (own_arvne ((G33_9.keep K74 nin0).ext E77) V77 (by decide))).other W99 (own_arvne (((G33_9.keep K74 nin0).ext E77).other W88 (own_arvne ((G33_9.keep K74 nin0).ext E77) V77 (by decide))) V88 (by decide))) V99 (by decide))).other W121 (own_arvne (((((G33_9.keep K74 nin0).ext E77).other W88 (own_arvne ((G33_9.keep K74 nin0).ext E77) V77 (by decide))).other W99 (own_arvne (((G33_9.keep K74 nin0).ext E77).other W88 (own_arvne ((G33_9.keep K74 nin0).ext E77) V77 (by decide))) V88 (by decide))).other W110 (own_arvne ((((G33_9.keep K74 nin0).ext E77).other W88 (own_arvne ((G33_9.keep K74 nin0).ext E77) V77 (by decide))).other W99 (own_arvne (((G33_9.keep K74 nin0).ext E77).other W88 (own_arvne ((G33_9.keep K74 nin0).ext E77) V77 (by decide))) V88 (by decide))) V99 (by decide))) V110 (by decide))).other W132 (own_arvne ((((((G33_9.keep K74 nin0).ext E77).other W88 (own_arvne ((G33_9.keep K74 nin0).ext E77) V77 (by decide))).other W99 (own_arvne (((G33_9.keep K74 nin0).ext E77).other W88 (own_arvne ((G33_9.keep K74 nin0).ext E77) V77 (by decide))) V88 (by decide))).other W110 (own_arvne ((((G33_9.keep K74 nin0).ext E77).other W88 (own_arvne ((G33_9.keep K74 nin0).ext E77) V77 (by decide))).other W99 (own_arvne (((G33_9.keep K74 nin0).ext E77).other W88 (own_arvne ((G33_9.keep K74 nin0).ext E77) V77 (by decide))) V88 (by decide))) V99 (by decide))).other W121 (own_arvne (((((G33_9.keep K74 nin0).ext E77).other W88 (own_arvne ((G33_9.keep K74 nin0).ext E77) V77 (by decide))).other W99 (own_arvne (((G33_9.keep K74 nin0).ext E77).other W88 (own_arvne ((G33_9.keep K74 nin0).ext E77) V77 (by decide))) V88 (by decide))).other W110 (own_arvne ((((G33_9.keep K74 nin0).ext E77).other W88 (own_arvne ((G33_9.keep K74 nin0).ext E77) V77 (by decide))).other W99 (own_arvne (((G33_9.keep K74 nin0).ext E77).other W88 (own_arvne ((G33_9.keep K74 nin0).ext E77) V77 (by decide))) V88 (by decide))) V99 (by decide))) V110 (by decide))) V121 (by decide))).other W143 (own_arvne (((((((G33_9.keep K74 nin0).ext E77).other W88 (own_arvne ((G33_9.keep K74 nin0).ext E77) V77 (by decide))).other W99 (own_arvne (((G33_9.keep K74 nin0).ext E77).other W88 (own_arvne ((G33_9.keep K74 nin0).ext E77) V77 (by decide))) V88 (by decide))).other W110 (own_arvne ((((G33_9.keep K74 nin0).ext E77).other W88 (own_arvne ((G33_9.keep K74 nin0).ext E77) V77 (by decide))).other W99 (own_arvne (((G33_9.keep K74 nin0).ext E77).other W88 (own_arvne ((G33_9.keep K74 nin0).ext E77) V77 (by decide))) V88 (by decide))) V99 (by decide))).other W121 (own_arvne (((((G33_9.keep K74 nin0).ext E77).other W88 (own_arvne ((G33_9.keep K74 nin0).ext E77) V77 (by decide))).other W99 (own_arvne (((G33_9.keep K74 nin0).ext E77).other W88 (own_arvne ((G33_9.keep K74 nin0).ext E77) V77 (by decide))) V88 (by decide))).other W110 (own_arvne ((((G33_9.keep K74 nin0).ext E77).other W88 (own_arvne ((G33_9.keep K74 nin0).ext E77) V77 (by decide))).other W99 (own_arvne (((G33_9.keep K74 nin0).ext E77).other W88 (own_arvne ((G33_9.keep K74 nin0).ext E77) V77 (by decide))) V88 (by decide))) V99 (by decide))) V110 (by decide))).other W132 (own_arvne ((((((G33_9.keep K74 nin0).ext E77).other W88 (own_arvne ((G33_9.keep K74 nin0).ext E77) V77 (by decide))).other W99 (own_arvne (((G33_9.keep K74 nin0).ext E77).other W88 (own_arvne ((G33_9.keep K74 nin0).ext E77) V77 (by decide))) V88 (by decide))).other W110 (own_arvne ((((G33_9.keep K74 nin0).ext E77).other W88 (own_arvne ((G33_9.keep K74 nin0).ext E77) V77 (by decide))).other W99 (own_arvne (((G33_9.keep K74 nin0).ext E77).other W88 (own_arvne ((G33_9.keep K74 nin0).ext E77) V77 (by decide))) V88 (by decide))) V99 (by decide))).other W121 (own_arvne (((((G33_9.keep K74 nin0).ext E77).other W88 (own_arvne ((G33_9.keep K74 nin0).ext E77) V77 (by decide))).other W99 (own_arvne (((G33_9.keep K74 nin0).ext E77).other W88 (own_arvne ((G33_9.keep K74 nin0).ext E77) V77 (by decide))) V88 (by decide))).other W110 (own_arvne ((((G33_9.keep K74 nin0).ext E77).other W88 (own_arvne ((G33_9.keep K74 nin0).ext E77) V77 (by decide))).other W99 (own_arvne (((G33_9.keep K74 nin0).ext E77).other W88 (own_arvne ((G33_9.keep K74 nin0).ext E77) V77 (by decide))) V88 (by decide))) V99 (by decide))) V110 (by decide))) V121 (by decide))) V132 (by decide))) V143 (by decide))) V154 (by decide)) nin0)).keep K218 nin0).keep K223 nin0).keep K232 nin0)
    have Zc245 : n0 ≤ h232.size := by omega
    obtain ⟨_, _, ⟨T246, L246, k246, n246⟩, -, X246, ⟨Lc246, hQ246, l246, y246, z246⟩, st246⟩ := Jvm.LawKit.callS X237 hx (y := (⟨"com/example/coyote_hill/coyotehill/ItemState", "fromName", "(Ljava/lang/String;)Lcom/example/coyote_hill/coyotehill/ItemState;"⟩ : MethodName)) hown (mvT hZ (hw _ (List.mem_of_getElem? (i := 60) rfl))) (mvT hZ (hw _ (List.mem_of_getElem? (i := 61) rfl))) (mvT hZ (hw _ (List.mem_of_getElem? (i := 9) rfl))) (mvT hZ (hw _ (List.mem_of_getElem? (i := 62) rfl))) (by decide) (backOf (W := 0) (rmFrom l Z a0 hw [] naA_33 cst bB_33 kB_33 (own_nm mk) vl kv ra rb rc rd na nb nc nx va vb vc vd ka kb_ kc_ kd h232 n0 Zc245 I1 O240 (hcst : ¬ (cst = (0 : Int32))) I3 I4 I5 I6 I7 I8 I9 I10 I11 I12 I13 I14 I15 I16 I17 I18 I19 I20 I21 I22 I23 I24 I25 I26 I27 I28 I29 f241 f242 f243 f244 (own_nmchs _) (own_nml _)) hZ (hw _ (List.mem_of_getElem? (i := 62) rfl)) (hw _ (List.mem_of_getElem? (i := 9) rfl)) (by decide) (by decide)) (g := (mkF m 320 #[.val (.int sel), .val (.int len), .val (.int ps), .val (.int mt), .val (.long lc), .second, .val (.int (Int32.ofNat mk)), .val (.ref nmA_33), .val (.ref stA_33), .val (.int q38), .val (.int q45), .val (.int q52), .val (.int q59), .val (.int (Int32.ofNat nN_74)), .val (.ref b77), .val (.ref a_218), .val (own_from (own_mk7 nN_74 d0__210 d1__210 d2__210 d3__210 d4__210 d5__210 d6__210) ra rb rc rd), .val (.int (1 : Int32)), .unset] [(.ref naA_33)])) rfl (by rw [hml]; rfl) (argsL := [(.ref naA_33)]) (rest := []) (lenOf pd__Ljava_lang_String__Lcom_example_coyote_hill_coyotehill_ItemState_ rfl) rfl (by show 2 * 0 + _ ≤ _; exact Nat.le_of_eq rfl) (Jvm.hb hby at_320) (fun _ _ => ⟨rfl, e237, (by decide : 18 + 1 ≤ _), (by decide : 158 + 4 ≤ _)⟩)
    dsimp only [Pt.U, Pt.locs, Pt.cells, Pt.slots] at X246 l246 y246 z246 st246 hQ246
    subst l246 y246 z246
    obtain ⟨rfl, N246q, K246⟩ := hQ246
    have N246 := Fr.app N237 N246q
    obtain ⟨h246, e246⟩ : ∃ z, T246.heap = z := ⟨_, rfl⟩
    rw [e246] at K246
    have z247 : h232.size ≤ h246.size := K246.1
    have Cp247 : CHr Z ELs T223.vm h232 T223.vm h246 := CHr.keep K246 sf0 CR.1
    have hk := Nat.le_trans hk z247
    have CR := CR.trans Cp247
    have s248 : ∀ t_, Steps p.tables e below (T246.setTop (mkF m 350 #[.val (.int sel), .val (.int len), .val (.int ps), .val (.int mt), .val (.long lc), .second, .val (.int (Int32.ofNat mk)), .val (.ref nmA_33), .val (.ref stA_33), .val (.int q38), .val (.int q45), .val (.int q52), .val (.int q59), .val (.int (Int32.ofNat nN_74)), .val (.ref b77), .val (.ref a_218), .val (own_from (own_mk7 nN_74 d0__210 d1__210 d2__210 d3__210 d4__210 d5__210 d6__210) ra rb rc rd), .val (.int (1 : Int32)), .val (.int (1 : Int32))] [(.int (1 : Int32))])) t_ → Steps p.tables e below (s₁.setTop (entryFrame m #[(.int sel), (.int len), (.int ps), (.int mt), (.long lc)] maxLocals)) t_ := fun t_ k_ => s239 t_ (by
      show Steps p.tables e below (T237.setTop (mkF m 320 #[.val (.int sel), .val (.int len), .val (.int ps), .val (.int mt), .val (.long lc), .second, .val (.int (Int32.ofNat mk)), .val (.ref nmA_33), .val (.ref stA_33), .val (.int q38), .val (.int q45), .val (.int q52), .val (.int q59), .val (.int (Int32.ofNat nN_74)), .val (.ref b77), .val (.ref a_218), .val (own_from (own_mk7 nN_74 d0__210 d1__210 d2__210 d3__210 d4__210 d5__210 d6__210) ra rb rc rd), .val (.int (1 : Int32)), .unset] [(.ref naA_33)])) t_
      refine st246 _ ?_
      show Steps p.tables e below (T246.setTop (mkF m 323 #[.val (.int sel), .val (.int len), .val (.int ps), .val (.int mt), .val (.long lc), .second, .val (.int (Int32.ofNat mk)), .val (.ref nmA_33), .val (.ref stA_33), .val (.int q38), .val (.int q45), .val (.int q52), .val (.int q59), .val (.int (Int32.ofNat nN_74)), .val (.ref b77), .val (.ref a_218), .val (own_from (own_mk7 nN_74 d0__210 d1__210 d2__210 d3__210 d4__210 d5__210 d6__210) ra rb rc rd), .val (.int (1 : Int32)), .unset] [(own_from (own_nm mk) ra rb rc rd)])) _
      refine XS.aload X246.here hx rfl (Jvm.hb hby at_323) rfl rfl ?_
      refine Jvm.RoadKit.acmp (g := (mkF m 325 #[.val (.int sel), .val (.int len), .val (.int ps), .val (.int mt), .val (.long lc), .second, .val (.int (Int32.ofNat mk)), .val (.ref nmA_33), .val (.ref stA_33), .val (.int q38), .val (.int q45), .val (.int q52), .val (.int q59), .val (.int (Int32.ofNat nN_74)), .val (.ref b77), .val (.ref a_218), .val (own_from (own_mk7 nN_74 d0__210 d1__210 d2__210 d3__210 d4__210 d5__210 d6__210) ra rb rc rd), .val (.int (1 : Int32)), .unset] [(.ref stA_33), (own_from (own_nm mk) ra rb rc rd)])) X246 hx rfl (own_fromR (own_nm mk) ra rb rc rd) rfl (pc0 := 325) (pc' := 328) (same := true) rfl (Jvm.hb hby at_325) rfl (decide_eq_true (by rw [J33_0]; exact own_fromnm mk hmkl ra rb rc rd)) (by decide) (by decide) ?_
      show Steps p.tables e below (T246.setTop (mkF m 328 #[.val (.int sel), .val (.int len), .val (.int ps), .val (.int mt), .val (.long lc), .second, .val (.int (Int32.ofNat mk)), .val (.ref nmA_33), .val (.ref stA_33), .val (.int q38), .val (.int q45), .val (.int q52), .val (.int q59), .val (.int (Int32.ofNat nN_74)), .val (.ref b77), .val (.ref a_218), .val (own_from (own_mk7 nN_74 d0__210 d1__210 d2__210 d3__210 d4__210 d5__210 d6__210) ra rb rc rd), .val (.int (1 : Int32)), .unset] [])) _
      refine XS.iconst X246.here hx rfl (Jvm.hb hby at_328) ?_
      refine XS.goto X246.here hx rfl (pc0 := 329) (pc' := 333) rfl (Jvm.hb hby at_329) (by decide) (by decide) ?_
      refine XS.istore X246.here hx rfl (Jvm.hb hby at_333) rfl (l' := #[.val (.int sel), .val (.int len), .val (.int ps), .val (.int mt), .val (.long lc), .second, .val (.int (Int32.ofNat mk)), .val (.ref nmA_33), .val (.ref stA_33), .val (.int q38), .val (.int q45), .val (.int q52), .val (.int q59), .val (.int (Int32.ofNat nN_74)), .val (.ref b77), .val (.ref a_218), .val (own_from (own_mk7 nN_74 d0__210 d1__210 d2__210 d3__210 d4__210 d5__210 d6__210) ra rb rc rd), .val (.int (1 : Int32)), .val (.int (1 : Int32))]) rfl ?_
      refine XS.iload X246.here hx rfl (Jvm.hb hby at_335) rfl ?_
      refine XS.ifNo X246.here hx rfl (Jvm.hb hby at_337) rfl ((if0 _ _).trans (feq (by decide : ¬ ((1 : Int32) = (0 : Int32)))).1) ?_
      show Steps p.tables e below (T246.setTop (mkF m 340 #[.val (.int sel), .val (.int len), .val (.int ps), .val (.int mt), .val (.long lc), .second, .val (.int (Int32.ofNat mk)), .val (.ref nmA_33), .val (.ref stA_33), .val (.int q38), .val (.int q45), .val (.int q52), .val (.int q59), .val (.int (Int32.ofNat nN_74)), .val (.ref b77), .val (.ref a_218), .val (own_from (own_mk7 nN_74 d0__210 d1__210 d2__210 d3__210 d4__210 d5__210 d6__210) ra rb rc rd), .val (.int (1 : Int32)), .val (.int (1 : Int32))] [])) _
      refine XS.iload X246.here hx rfl (Jvm.hb hby at_340) rfl ?_
      refine XS.ifNo X246.here hx rfl (Jvm.hb hby at_342) rfl ((if0 _ _).trans (feq (by decide : ¬ ((1 : Int32) = (0 : Int32)))).1) ?_
      show Steps p.tables e below (T246.setTop (mkF m 345 #[.val (.int sel), .val (.int len), .val (.int ps), .val (.int mt), .val (.long lc), .second, .val (.int (Int32.ofNat mk)), .val (.ref nmA_33), .val (.ref stA_33), .val (.int q38), .val (.int q45), .val (.int q52), .val (.int q59), .val (.int (Int32.ofNat nN_74)), .val (.ref b77), .val (.ref a_218), .val (own_from (own_mk7 nN_74 d0__210 d1__210 d2__210 d3__210 d4__210 d5__210 d6__210) ra rb rc rd), .val (.int (1 : Int32)), .val (.int (1 : Int32))] [])) _
      refine XS.iconst X246.here hx rfl (Jvm.hb hby at_345) ?_
      refine XS.goto X246.here hx rfl (pc0 := 346) (pc' := 350) rfl (Jvm.hb hby at_346) (by decide) (by decide) ?_
      show Steps p.tables e below (T246.setTop (mkF m 350 #[.val (.int sel), .val (.int len), .val (.int ps), .val (.int mt), .val (.long lc), .second, .val (.int (Int32.ofNat mk)), .val (.ref nmA_33), .val (.ref stA_33), .val (.int q38), .val (.int q45), .val (.int q52), .val (.int q59), .val (.int (Int32.ofNat nN_74)), .val (.ref b77), .val (.ref a_218), .val (own_from (own_mk7 nN_74 d0__210 d1__210 d2__210 d3__210 d4__210 d5__210 d6__210) ra rb rc rd), .val (.int (1 : Int32)), .val (.int (1 : Int32))] [(.int (1 : Int32))])) t_
      exact k_)
    obtain ⟨fs, hr, hrun, hended, hREW⟩ := X246.leaveW hS (by first | exact Nat.le_refl _ | (rw [e246]; exact hk)) (v := some (.int (1 : Int32))) (fun h => by rw [Bd.returns] at h; cases h)
    refine ⟨_, _, s248 _ ?_, hrun, hended, _, _, rfl, ?_, (by show CHr Z ELs s.vm s.heap T246.vm T246.heap; rw [hh, e246]; exact CR.trans (CHv.at X246 hZ hEL CR.1)), hREW.1, hREW.2.1, hREW.2.2.1, hREW.2.2.2.mono (by decide) (by decide)⟩
    · show Steps p.tables e below (T246.setTop (mkF m 350 #[.val (.int sel), .val (.int len), .val (.int ps), .val (.int mt), .val (.long lc), .second, .val (.int (Int32.ofNat mk)), .val (.ref nmA_33), .val (.ref stA_33), .val (.int q38), .val (.int q45), .val (.int q52), .val (.int q59), .val (.int (Int32.ofNat nN_74)), .val (.ref b77), .val (.ref a_218), .val (own_from (own_mk7 nN_74 d0__210 d1__210 d2__210 d3__210 d4__210 d5__210 d6__210) ra rb rc rd), .val (.int (1 : Int32)), .val (.int (1 : Int32))] [(.int (1 : Int32))])) _
      exact retN X246 hx (t := .boolean) Bd.returns (by simp) (Jvm.hb hby at_350) hr
    · show Q_rmLaw Z _ _ _ _ _ _ _ _ _ _ _ _ _ _ _ _ _ _ _ _ _ _ _ _ _ h0 n0 _ T246.heap _
      rw [e246]
      exact ⟨rfl, N246⟩
  · have s249 : ∀ t_, Steps p.tables e below (T210.setTop (mkF m 293 #[.val (.int sel), .val (.int len), .val (.int ps), .val (.int mt), .val (.long lc), .second, .val (.int (Int32.ofNat mk)), .val (.ref nmA_33), .val (.ref stA_33), .val (.int q38), .val (.int q45), .val (.int q52), .val (.int q59), .val (.int (Int32.ofNat nN_74)), .val (.ref b77), .val .null, .unset, .unset, .unset] [.null])) t_ → Steps p.tables e below (s₁.setTop (entryFrame m #[(.int sel), (.int len), (.int ps), (.int mt), (.long lc)] maxLocals)) t_ := fun t_ k_ => s213 t_ (by
      show Steps p.tables e below (T210.setTop (mkF m 275 #[.val (.int sel), .val (.int len), .val (.int ps), .val (.int mt), .val (.long lc), .second, .val (.int (Int32.ofNat mk)), .val (.ref nmA_33), .val (.ref stA_33), .val (.int q38), .val (.int q45), .val (.int q52), .val (.int q59), .val (.int (Int32.ofNat nN_74)), .val (.ref b77), .unset, .unset, .unset, .unset] [(.int q52)])) t_
      refine XS.ifNo X210.here hx rfl (Jvm.hb hby at_275) rfl ((if0 _ _).trans (feq h214).1) ?_
      show Steps p.tables e below (T210.setTop (mkF m 278 #[.val (.int sel), .val (.int len), .val (.int ps), .val (.int mt), .val (.long lc), .second, .val (.int (Int32.ofNat mk)), .val (.ref nmA_33), .val (.ref stA_33), .val (.int q38), .val (.int q45), .val (.int q52), .val (.int q59), .val (.int (Int32.ofNat nN_74)), .val (.ref b77), .unset, .unset, .unset, .unset] [])) _
      refine XS.aconstNull X210.here hx rfl (Jvm.hb hby at_278) ?_
      refine XS.goto X210.here hx rfl (pc0 := 279) (pc' := 289) rfl (Jvm.hb hby at_279) (by decide) (by decide) ?_
      refine XS.astore X210.here hx rfl (Jvm.hb hby at_289) rfl rfl (l' := #[.val (.int sel), .val (.int len), .val (.int ps), .val (.int mt), .val (.long lc), .second, .val (.int (Int32.ofNat mk)), .val (.ref nmA_33), .val (.ref stA_33), .val (.int q38), .val (.int q45), .val (.int q52), .val (.int q59), .val (.int (Int32.ofNat nN_74)), .val (.ref b77), .val .null, .unset, .unset, .unset]) rfl ?_
      refine XS.aload X210.here hx rfl (Jvm.hb hby at_291) rfl rfl ?_
      show Steps p.tables e below (T210.setTop (mkF m 293 #[.val (.int sel), .val (.int len), .val (.int ps), .val (.int mt), .val (.long lc), .second, .val (.int (Int32.ofNat mk)), .val (.ref nmA_33), .val (.ref stA_33), .val (.int q38), .val (.int q45), .val (.int q52), .val (.int q59), .val (.int (Int32.ofNat nN_74)), .val (.ref b77), .val .null, .unset, .unset, .unset] [.null])) t_
      exact k_)
    have Zc250 : n0 ≤ h210.size := by omega
    obtain ⟨_, _, ⟨T251, L251, k251, n251⟩, -, X251, ⟨Lc251, hQ251, l251, y251, z251⟩, st251⟩ := Jvm.LawKit.callS X210 hx (y := (⟨"com/example/coyote_hill/coyotehill/ItemStateFromNamePinLaw", "expected", "(Ljava/lang/String;)Lcom/example/coyote_hill/coyotehill/ItemState;"⟩ : MethodName)) hown (mvT hZ (hw _ (List.mem_of_getElem? (i := 44) rfl))) (mvT hZ (hw _ (List.mem_of_getElem? (i := 45) rfl))) (mvT hZ (hw _ (List.mem_of_getElem? (i := 14) rfl))) (mvT hZ (hw _ (List.mem_of_getElem? (i := 46) rfl))) (by decide) (backOf (W := 0) (rmExpN l Z a0 hw [] h210 n0 Zc250) hZ (hw _ (List.mem_of_getElem? (i := 46) rfl)) (hw _ (List.mem_of_getElem? (i := 14) rfl)) (by decide) (by decide)) (g := (mkF m 293 #[.val (.int sel), .val (.int len), .val (.int ps), .val (.int mt), .val (.long lc), .second, .val (.int (Int32.ofNat mk)), .val (.ref nmA_33), .val (.ref stA_33), .val (.int q38), .val (.int q45), .val (.int q52), .val (.int q59), .val (.int (Int32.ofNat nN_74)), .val (.ref b77), .val .null, .unset, .unset, .unset] [.null])) rfl (by rw [hml]; rfl) (argsL := [.null]) (rest := []) (lenOf pd__Ljava_lang_String__Lcom_example_coyote_hill_coyotehill_ItemState_ rfl) rfl (by show 2 * 0 + _ ≤ _; exact Nat.le_of_eq rfl) (Jvm.hb hby at_293) (fun _ _ => ⟨rfl, e210, (by decide : 3 + 0 ≤ _), (by decide : 35 + 0 ≤ _)⟩)
    dsimp only [Pt.U, Pt.locs, Pt.cells, Pt.slots] at X251 l251 y251 z251 st251 hQ251
    subst l251 y251 z251
    obtain ⟨rfl, N251q, e251⟩ := hQ251
    have N251 := Fr.app N210 N251q
    have s252 : ∀ t_, Steps p.tables e below (T251.setTop (mkF m 300 #[.val (.int sel), .val (.int len), .val (.int ps), .val (.int mt), .val (.long lc), .second, .val (.int (Int32.ofNat mk)), .val (.ref nmA_33), .val (.ref stA_33), .val (.int q38), .val (.int q45), .val (.int q52), .val (.int q59), .val (.int (Int32.ofNat nN_74)), .val (.ref b77), .val .null, .val .null, .unset, .unset] [.null])) t_ → Steps p.tables e below (s₁.setTop (entryFrame m #[(.int sel), (.int len), (.int ps), (.int mt), (.long lc)] maxLocals)) t_ := fun t_ k_ => s249 t_ (by
      show Steps p.tables e below (T210.setTop (mkF m 293 #[.val (.int sel), .val (.int len), .val (.int ps), .val (.int mt), .val (.long lc), .second, .val (.int (Int32.ofNat mk)), .val (.ref nmA_33), .val (.ref stA_33), .val (.int q38), .val (.int q45), .val (.int q52), .val (.int q59), .val (.int (Int32.ofNat nN_74)), .val (.ref b77), .val .null, .unset, .unset, .unset] [.null])) t_
      refine st251 _ ?_
      show Steps p.tables e below (T251.setTop (mkF m 296 #[.val (.int sel), .val (.int len), .val (.int ps), .val (.int mt), .val (.long lc), .second, .val (.int (Int32.ofNat mk)), .val (.ref nmA_33), .val (.ref stA_33), .val (.int q38), .val (.int q45), .val (.int q52), .val (.int q59), .val (.int (Int32.ofNat nN_74)), .val (.ref b77), .val .null, .unset, .unset, .unset] [.null])) _
      refine XS.astore X251.here hx rfl (Jvm.hb hby at_296) rfl rfl (l' := #[.val (.int sel), .val (.int len), .val (.int ps), .val (.int mt), .val (.long lc), .second, .val (.int (Int32.ofNat mk)), .val (.ref nmA_33), .val (.ref stA_33), .val (.int q38), .val (.int q45), .val (.int q52), .val (.int q59), .val (.int (Int32.ofNat nN_74)), .val (.ref b77), .val .null, .val .null, .unset, .unset]) rfl ?_
      refine XS.aload X251.here hx rfl (Jvm.hb hby at_298) rfl rfl ?_
      show Steps p.tables e below (T251.setTop (mkF m 300 #[.val (.int sel), .val (.int len), .val (.int ps), .val (.int mt), .val (.long lc), .second, .val (.int (Int32.ofNat mk)), .val (.ref nmA_33), .val (.ref stA_33), .val (.int q38), .val (.int q45), .val (.int q52), .val (.int q59), .val (.int (Int32.ofNat nN_74)), .val (.ref b77), .val .null, .val .null, .unset, .unset] [.null])) t_
      exact k_)
    have O253 : Old Z n0 h210 := ((O146.wr W154 (show n0 ≤ b77 by omega)).keep K210 (allS (show n0 ≤ b77 by omega) all0))
    have Zc254 : n0 ≤ h210.size := by omega
    obtain ⟨_, _, ⟨T255, L255, k255, n255⟩, -, X255, ⟨Lc255, hQ255, l255, y255, z255⟩, st255⟩ := Jvm.LawKit.callS X251 hx (y := (⟨"com/example/coyote_hill/coyotehill/ItemState", "fromName", "(Ljava/lang/String;)Lcom/example/coyote_hill/coyotehill/ItemState;"⟩ : MethodName)) hown (mvT hZ (hw _ (List.mem_of_getElem? (i := 60) rfl))) (mvT hZ (hw _ (List.mem_of_getElem? (i := 61) rfl))) (mvT hZ (hw _ (List.mem_of_getElem? (i := 9) rfl))) (mvT hZ (hw _ (List.mem_of_getElem? (i := 62) rfl))) (by decide) (backOf (W := 0) (rmFromN l Z a0 hw [] cst vl kv ra rb rc rd na nb nc nx va vb vc vd ka kb_ kc_ kd h210 n0 Zc254 I1 O253 (hcst : ¬ (cst = (0 : Int32))) I3 I4 I5 I6 I7 I8 I9 I10 I11 I12 I13 I14 I15 I16 I17 I18 I19 I20 I21 I22 I23 I24 I25 I26 I27 I28 I29) hZ (hw _ (List.mem_of_getElem? (i := 62) rfl)) (hw _ (List.mem_of_getElem? (i := 9) rfl)) (by decide) (by decide)) (g := (mkF m 300 #[.val (.int sel), .val (.int len), .val (.int ps), .val (.int mt), .val (.long lc), .second, .val (.int (Int32.ofNat mk)), .val (.ref nmA_33), .val (.ref stA_33), .val (.int q38), .val (.int q45), .val (.int q52), .val (.int q59), .val (.int (Int32.ofNat nN_74)), .val (.ref b77), .val .null, .val .null, .unset, .unset] [.null])) rfl (by rw [hml]; rfl) (argsL := [.null]) (rest := []) (lenOf pd__Ljava_lang_String__Lcom_example_coyote_hill_coyotehill_ItemState_ rfl) rfl (by show 2 * 0 + _ ≤ _; exact Nat.le_of_eq rfl) (Jvm.hb hby at_300) (fun _ _ => ⟨rfl, e251, (by decide : 3 + 1 ≤ _), (by decide : 35 + 4 ≤ _)⟩)
    dsimp only [Pt.U, Pt.locs, Pt.cells, Pt.slots] at X255 l255 y255 z255 st255 hQ255
    subst l255 y255 z255
    obtain ⟨rfl, N255q, K255⟩ := hQ255
    have N255 := Fr.app N251 N255q
    obtain ⟨h255, e255⟩ : ∃ z, T255.heap = z := ⟨_, rfl⟩
    rw [e255] at K255
    have z256 : h210.size ≤ h255.size := K255.1
    have Cp256 : CHr Z ELs V33 h210 V33 h255 := CHr.keep K255 sf0 CR.1
    have hk := Nat.le_trans hk z256
    have CR := CR.trans Cp256
    have s257 : ∀ t_, Steps p.tables e below (T255.setTop (mkF m 317 #[.val (.int sel), .val (.int len), .val (.int ps), .val (.int mt), .val (.long lc), .second, .val (.int (Int32.ofNat mk)), .val (.ref nmA_33), .val (.ref stA_33), .val (.int q38), .val (.int q45), .val (.int q52), .val (.int q59), .val (.int (Int32.ofNat nN_74)), .val (.ref b77), .val .null, .val .null, .val (.int (1 : Int32)), .unset] [(.ref stA_33)])) t_ → Steps p.tables e below (s₁.setTop (entryFrame m #[(.int sel), (.int len), (.int ps), (.int mt), (.long lc)] maxLocals)) t_ := fun t_ k_ => s252 t_ (by
      show Steps p.tables e below (T251.setTop (mkF m 300 #[.val (.int sel), .val (.int len), .val (.int ps), .val (.int mt), .val (.long lc), .second, .val (.int (Int32.ofNat mk)), .val (.ref nmA_33), .val (.ref stA_33), .val (.int q38), .val (.int q45), .val (.int q52), .val (.int q59), .val (.int (Int32.ofNat nN_74)), .val (.ref b77), .val .null, .val .null, .unset, .unset] [.null])) t_
      refine st255 _ ?_
      show Steps p.tables e below (T255.setTop (mkF m 303 #[.val (.int sel), .val (.int len), .val (.int ps), .val (.int mt), .val (.long lc), .second, .val (.int (Int32.ofNat mk)), .val (.ref nmA_33), .val (.ref stA_33), .val (.int q38), .val (.int q45), .val (.int q52), .val (.int q59), .val (.int (Int32.ofNat nN_74)), .val (.ref b77), .val .null, .val .null, .unset, .unset] [.null])) _
      refine XS.aload X255.here hx rfl (Jvm.hb hby at_303) rfl rfl ?_
      refine Jvm.RoadKit.acmp (g := (mkF m 305 #[.val (.int sel), .val (.int len), .val (.int ps), .val (.int mt), .val (.long lc), .second, .val (.int (Int32.ofNat mk)), .val (.ref nmA_33), .val (.ref stA_33), .val (.int q38), .val (.int q45), .val (.int q52), .val (.int q59), .val (.int (Int32.ofNat nN_74)), .val (.ref b77), .val .null, .val .null, .unset, .unset] [.null, .null])) X255 hx rfl rfl rfl (pc0 := 305) (pc' := 308) (same := true) rfl (Jvm.hb hby at_305) rfl (decide_eq_true rfl) (by decide) (by decide) ?_
      show Steps p.tables e below (T255.setTop (mkF m 308 #[.val (.int sel), .val (.int len), .val (.int ps), .val (.int mt), .val (.long lc), .second, .val (.int (Int32.ofNat mk)), .val (.ref nmA_33), .val (.ref stA_33), .val (.int q38), .val (.int q45), .val (.int q52), .val (.int q59), .val (.int (Int32.ofNat nN_74)), .val (.ref b77), .val .null, .val .null, .unset, .unset] [])) _
      refine XS.iconst X255.here hx rfl (Jvm.hb hby at_308) ?_
      refine XS.goto X255.here hx rfl (pc0 := 309) (pc' := 313) rfl (Jvm.hb hby at_309) (by decide) (by decide) ?_
      refine XS.istore X255.here hx rfl (Jvm.hb hby at_313) rfl (l' := #[.val (.int sel), .val (.int len), .val (.int ps), .val (.int mt), .val (.long lc), .second, .val (.int (Int32.ofNat mk)), .val (.ref nmA_33), .val (.ref stA_33), .val (.int q38), .val (.int q45), .val (.int q52), .val (.int q59), .val (.int (Int32.ofNat nN_74)), .val (.ref b77), .val .null, .val .null, .val (.int (1 : Int32)), .unset]) rfl ?_
      refine XS.aload X255.here hx rfl (Jvm.hb hby at_315) rfl rfl ?_
      show Steps p.tables e below (T255.setTop (mkF m 317 #[.val (.int sel), .val (.int len), .val (.int ps), .val (.int mt), .val (.long lc), .second, .val (.int (Int32.ofNat mk)), .val (.ref nmA_33), .val (.ref stA_33), .val (.int q38), .val (.int q45), .val (.int q52), .val (.int q59), .val (.int (Int32.ofNat nN_74)), .val (.ref b77), .val .null, .val .null, .val (.int (1 : Int32)), .unset] [(.ref stA_33)])) t_
      exact k_)
    have f258 : Fld Z h255 stA_33 "com/example/coyote_hill/coyotehill/ItemState" "_name" "Ljava/lang/String;" (.ref naA_33) := (((((((((((G33_5.keep K74 nin0).ext E77).other W88 (Or.inl (show @Ne Nat stA_33 b77 by omega))).other W99 (Or.inl (show @Ne Nat stA_33 b77 by omega))).other W110 (Or.inl (show @Ne Nat stA_33 b77 by omega))).other W121 (Or.inl (show @Ne Nat stA_33 b77 by omega))).other W132 (Or.inl (show @Ne Nat stA_33 b77 by omega))).other W143 (Or.inl (show @Ne Nat stA_33 b77 by omega))).other W154 (Or.inl (show @Ne Nat stA_33 b77 by omega))).keep K210 (ninS (show @Ne Nat stA_33 b77 by omega) nin0)).keep K255 nin0)
    have Zc259 : n0 ≤ h255.size := by omega
    have f261 : Exa Z h255 stA_33 "com/example/coyote_hill/coyotehill/ItemState" := (((((((((((G33_4.keep K74).ext E77).wr W88).wr W99).wr W110).wr W121).wr W132).wr W143).wr W154).keep K210).keep K255)
    obtain ⟨cq260, kq260, q260a, q260b, q260c⟩ := isOf hZ e255 f261
    obtain ⟨_, _, ⟨T260, L260, k260, n260⟩, -, X260, ⟨Lc260, hQ260, l260, y260, z260⟩, st260⟩ := X255.virtualBack hx (y := (⟨"com/example/coyote_hill/coyotehill/ItemState", "getName", "()Ljava/lang/String;"⟩ : MethodName)) (z := (⟨"com/example/coyote_hill/coyotehill/ItemState", "getName", "()Ljava/lang/String;"⟩ : MethodName)) hown (mvT hZ (hw _ (List.mem_of_getElem? (i := 84) rfl))) (mvT hZ (hw _ (List.mem_of_getElem? (i := 85) rfl))) (notFace_of_selects (args := #[]) (mvT hZ (hw _ (List.mem_of_getElem? (i := 87) rfl)))) (mvT hZ (hw _ (List.mem_of_getElem? (i := 87) rfl))) (mvT hZ (hw _ (List.mem_of_getElem? (i := 86) rfl))) (by decide) (backOf (W := 0) (rmGN l Z a0 hw [] stA_33 naA_33 h255 n0 Zc259 f258) hZ (hw _ (List.mem_of_getElem? (i := 88) rfl)) (hw _ (List.mem_of_getElem? (i := 9) rfl)) (by decide) (by decide)) q260a q260c (g := (mkF m 317 #[.val (.int sel), .val (.int len), .val (.int ps), .val (.int mt), .val (.long lc), .second, .val (.int (Int32.ofNat mk)), .val (.ref nmA_33), .val (.ref stA_33), .val (.int q38), .val (.int q45), .val (.int q52), .val (.int q59), .val (.int (Int32.ofNat nN_74)), .val (.ref b77), .val .null, .val .null, .val (.int (1 : Int32)), .unset] [(.ref stA_33)])) rfl (by rw [hml]; rfl) (Steps.refl _) (argsL := []) (rest := []) (lenOf pd___Ljava_lang_String_ rfl) rfl (by show 2 * 0 + _ ≤ _; exact Nat.le_of_eq rfl) (Jvm.hb hby at_317) (fun _ _ => ⟨rfl, e255, (by decide : 4 + 0 ≤ _), (by decide : 39 + 0 ≤ _)⟩)
    dsimp only [Pt.U, Pt.locs, Pt.cells, Pt.slots] at X260 l260 y260 z260 st260 hQ260
    subst l260 y260 z260
    obtain ⟨rfl, N260q, e260⟩ := hQ260
    have N260 := Fr.app N255 N260q
    have s262 : ∀ t_, Steps p.tables e below (T260.setTop (mkF m 320 #[.val (.int sel), .val (.int len), .val (.int ps), .val (.int mt), .val (.long lc), .second, .val (.int (Int32.ofNat mk)), .val (.ref nmA_33), .val (.ref stA_33), .val (.int q38), .val (.int q45), .val (.int q52), .val (.int q59), .val (.int (Int32.ofNat nN_74)), .val (.ref b77), .val .null, .val .null, .val (.int (1 : Int32)), .unset] [(.ref naA_33)])) t_ → Steps p.tables e below (s₁.setTop (entryFrame m #[(.int sel), (.int len), (.int ps), (.int mt), (.long lc)] maxLocals)) t_ := fun t_ k_ => s257 t_ (by
      show Steps p.tables e below (T255.setTop (mkF m 317 #[.val (.int sel), .val (.int len), .val (.int ps), .val (.int mt), .val (.long lc), .second, .val (.int (Int32.ofNat mk)), .val (.ref nmA_33), .val (.ref stA_33), .val (.int q38), .val (.int q45), .val (.int q52), .val (.int q59), .val (.int (Int32.ofNat nN_74)), .val (.ref b77), .val .null, .val .null, .val (.int (1 : Int32)), .unset] [(.ref stA_33)])) t_
      refine st260.trans ?_
      show Steps p.tables e below (T260.setTop (mkF m 320 #[.val (.int sel), .val (.int len), .val (.int ps), .val (.int mt), .val (.long lc), .second, .val (.int (Int32.ofNat mk)), .val (.ref nmA_33), .val (.ref stA_33), .val (.int q38), .val (.int q45), .val (.int q52), .val (.int q59), .val (.int (Int32.ofNat nN_74)), .val (.ref b77), .val .null, .val .null, .val (.int (1 : Int32)), .unset] [(.ref naA_33)])) _
      show Steps p.tables e below (T260.setTop (mkF m 320 #[.val (.int sel), .val (.int len), .val (.int ps), .val (.int mt), .val (.long lc), .second, .val (.int (Int32.ofNat mk)), .val (.ref nmA_33), .val (.ref stA_33), .val (.int q38), .val (.int q45), .val (.int q52), .val (.int q59), .val (.int (Int32.ofNat nN_74)), .val (.ref b77), .val .null, .val .null, .val (.int (1 : Int32)), .unset] [(.ref naA_33)])) t_
      exact k_)
    have O263 : Old Z n0 h255 := (O253.keep K255 all0)
    have f264 : Exa Z h255 naA_33 "java/lang/String" := (((((((((((G33_6.keep K74).ext E77).wr W88).wr W99).wr W110).wr W121).wr W132).wr W143).wr W154).keep K210).keep K255)
    have f265 : Fld Z h255 naA_33 "java/lang/String" "value" "[B" (.ref bB_33) := (((((((((((G33_7.keep K74 nin0).ext E77).other W88 (Or.inl (show @Ne Nat naA_33 b77 by omega))).other W99 (Or.inl (show @Ne Nat naA_33 b77 by omega))).other W110 (Or.inl (show @Ne Nat naA_33 b77 by omega))).other W121 (Or.inl (show @Ne Nat naA_33 b77 by omega))).other W132 (Or.inl (show @Ne Nat naA_33 b77 by omega))).other W143 (Or.inl (show @Ne Nat naA_33 b77 by omega))).other W154 (Or.inl (show @Ne Nat naA_33 b77 by omega))).keep K210 (ninS (show @Ne Nat naA_33 b77 by omega) nin0)).keep K255 nin0)
    have f266 : Fld Z h255 naA_33 "java/lang/String" "coder" "B" (.int (own_cod (own_nm mk))) := (((((((((((G33_8.keep K74 nin0).ext E77).other W88 (Or.inl (show @Ne Nat naA_33 b77 by omega))).other W99 (Or.inl (show @Ne Nat naA_33 b77 by omega))).other W110 (Or.inl (show @Ne Nat naA_33 b77 by omega))).other W121 (Or.inl (show @Ne Nat naA_33 b77 by omega))).other W132 (Or.inl (show @Ne Nat naA_33 b77 by omega))).other W143 (Or.inl (show @Ne Nat naA_33 b77 by omega))).other W154 (Or.inl (show @Ne Nat naA_33 b77 by omega))).keep K210 (ninS (show @Ne Nat naA_33 b77 by omega) nin0)).keep K255 nin0)
    have f267 : Arv Z h255 bB_33 kB_33 .byte (Int32.ofNat (own_enl (own_nm mk))) (own_enc (own_nm mk)) (.int (0 : Int32)) := (((((((((((G33_9.keep K74 nin0).ext E77).other W88 (own_arvne ((G33_9.keep K74 nin0).ext E77) V77 (by decide))).other W99 (own_arvne (((G33_9.keep K74 nin0).ext E77).other W88 (own_arvne ((G33_9.keep K74 nin0).ext E77) V77 (by decide))) V88 (by decide))).other W110 (own_arvne ((((G33_9.keep K74 nin0).ext E77).other W88 (own_arvne ((G33_9.keep K74 nin0).ext E77) V77 (by decide))).other W99 (own_arvne (((G33_9.keep K74 nin0).ext E77).other W88 (own_arvne ((G33_9.keep K74 nin0).ext E77) V77 (by decide))) V88 (by decide))) V99 (by decide))).other W121 (own_arvne (((((G33_9.keep K74 nin0).ext E77).other W88 (own_arvne ((G33_9.keep K74 nin0).ext E77) V77 (by decide))).other W99 (own_arvne (((G33_9.keep K74 nin0).ext E77).other W88 (own_arvne ((G33_9.keep K74 nin0).ext E77) V77 (by decide))) V88 (by decide))).other W110 (own_arvne ((((G33_9.keep K74 nin0).ext E77).other W88 (own_arvne ((G33_9.keep K74 nin0).ext E77) V77 (by decide))).other W99 (own_arvne (((G33_9.keep K74 nin0).ext E77).other W88 (own_arvne ((G33_9.keep K74 nin0).ext E77) V77 (by decide))) V88 (by decide))) V99 (by decide))) V110 (by decide))).other W132 (own_arvne ((((((G33_9.keep K74 nin0).ext E77).other W88 (own_arvne ((G33_9.keep K74 nin0).ext E77) V77 (by decide))).other W99 (own_arvne (((G33_9.keep K74 nin0).ext E77).other W88 (own_arvne ((G33_9.keep K74 nin0).ext E77) V77 (by decide))) V88 (by decide))).other W110 (own_arvne ((((G33_9.keep K74 nin0).ext E77).other W88 (own_arvne ((G33_9.keep K74 nin0).ext E77) V77 (by decide))).other W99 (own_arvne (((G33_9.keep K74 nin0).ext E77).other W88 (own_arvne ((G33_9.keep K74 nin0).ext E77) V77 (by decide))) V88 (by decide))) V99 (by decide))).other W121 (own_arvne (((((G33_9.keep K74 nin0).ext E77).other W88 (own_arvne ((G33_9.keep K74 nin0).ext E77) V77 (by decide))).other W99 (own_arvne (((G33_9.keep K74 nin0).ext E77).other W88 (own_arvne ((G33_9.keep K74 nin0).ext E77) V77 (by decide))) V88 (by decide))).other W110 (own_arvne ((((G33_9.keep K74 nin0).ext E77).other W88 (own_arvne ((G33_9.keep K74 nin0).ext E77) V77 (by decide))).other W99 (own_arvne (((G33_9.keep K74 nin0).ext E77).other W88 (own_arvne ((G33_9.keep K74 nin0).ext E77) V77 (by decide))) V88 (by decide))) V99 (by decide))) V110 (by decide))) V121 (by decide))).other W143 (own_arvne (((((((G33_9.keep K74 nin0).ext E77).other W88 (own_arvne ((G33_9.keep K74 nin0).ext E77) V77 (by decide))).other W99 (own_arvne (((G33_9.keep K74 nin0).ext E77).other W88 (own_arvne ((G33_9.keep K74 nin0).ext E77) V77 (by decide))) V88 (by decide))).other W110 (own_arvne ((((G33_9.keep K74 nin0).ext E77).other W88 (own_arvne ((G33_9.keep K74 nin0).ext E77) V77 (by decide))).other W99 (own_arvne (((G33_9.keep K74 nin0).ext E77).other W88 (own_arvne ((G33_9.keep K74 nin0).ext E77) V77 (by decide))) V88 (by decide))) V99 (by decide))).other W121 (own_arvne (((((G33_9.keep K74 nin0).ext E77).other W88 (own_arvne ((G33_9.keep K74 nin0).ext E77) V77 (by decide))).other W99 (own_arvne (((G33_9.keep K74 nin0).ext E77).other W88 (own_arvne ((G33_9.keep K74 nin0).ext E77) V77 (by decide))) V88 (by decide))).other W110 (own_arvne ((((G33_9.keep K74 nin0).ext E77).other W88 (own_arvne ((G33_9.keep K74 nin0).ext E77) V77 (by decide))).other W99 (own_arvne (((G33_9.keep K74 nin0).ext E77).other W88 (own_arvne ((G33_9.keep K74 nin0).ext E77) V77 (by decide))) V88 (by decide))) V99 (by decide))) V110 (by decide))).other W132 (own_arvne ((((((G33_9.keep K74 nin0).ext E77).other W88 (own_arvne ((G33_9.keep K74 nin0).ext E77) V77 (by decide))).other W99 (own_arvne (((G33_9.keep K74 nin0).ext E77).other W88 (own_arvne ((G33_9.keep K74 nin0).ext E77) V77 (by decide))) V88 (by decide))).other W110 (own_arvne ((((G33_9.keep K74 nin0).ext E77).other W88 (own_arvne ((G33_9.keep K74 nin0).ext E77) V77 (by decide))).other W99 (own_arvne (((G33_9.keep K74 nin0).ext E77).other W88 (own_arvne ((G33_9.keep K74 nin0).ext E77) V77 (by decide))) V88 (by decide))) V99 (by decide))).other W121 (own_arvne (((((G33_9.keep K74 nin0).ext E77).other W88 (own_arvne ((G33_9.keep K74 nin0).ext E77) V77 (by decide))).other W99 (own_arvne (((G33_9.keep K74 nin0).ext E77).other W88 (own_arvne ((G33_9.keep K74 nin0).ext E77) V77 (by decide))) V88 (by decide))).other W110 (own_arvne ((((G33_9.keep K74 nin0).ext E77).other W88 (own_arvne ((G33_9.keep K74 nin0).ext E77) V77 (by decide))).other W99 (own_arvne (((G33_9.keep K74 nin0).ext E77).other W88 (own_arvne ((G33_9.keep K74 nin0).ext E77) V77 (by decide))) V88 (by decide))) V99 (by decide))) V110 (by decide))) V121 (by decide))) V132 (by decide))).other W154 (own_arvne ((((((((G33_9.keep K74 nin0).ext E77).other W88 (own_arvne ((G33_9.keep K74 nin0).ext E77) V77 (by decide))).other W99 (own_arvne (((G33_9.keep K74 nin0).ext E77).other W88 (own_arvne ((G33_9.keep K74 nin0).ext E77) V77 (by decide))) V88 (by decide))).other W110 (own_arvne ((((G33_9.keep K74 nin0).ext E77).other W88 (own_arvne ((G33_9.keep K74 nin0).ext E77) V77 (by decide))).other W99 (own_arvne (((G33_9.keep K74 nin0).ext E77).other W88 (own_arvne ((G33_9.keep K74 nin0).ext E77) V77 (by decide))) V88 (by decide))) V99 (by decide))).other W121 (own_arvne (((((G33_9.keep K74 nin0).ext E77).other W88 (own_arvne ((G33_9.keep K74 nin0).ext E77) V77 (by decide))).other W99 (own_arvne (((G33_9.keep K74 nin0).ext E77).other W88 (own_arvne ((G33_9.keep K74 nin0).ext E77) V77 (by decide))) V88 (by decide))).other W110 (own_arvne ((((G33_9.keep K74 nin0).ext E77).other W88 (own_arvne ((G33_9.keep K74 nin0).ext E77) V77 (by decide))).other W99 (own_arvne (((G33_9.keep K74 nin0).ext E77).other W88 (own_arvne ((G33_9.keep K74 nin0).ext E77) V77 (by decide))) V88 (by decide))) V99 (by decide))) V110 (by decide))).other W132 (own_arvne ((((((G33_9.keep K74 nin0).ext E77).other W88 (own_arvne ((G33_9.keep K74 nin0).ext E77) V77 (by decide))).other W99 (own_arvne (((G33_9.keep K74 nin0).ext E77).other W88 (own_arvne ((G33_9.keep K74 nin0).ext E77) V77 (by decide))) V88 (by decide))).other W110 (own_arvne ((((G33_9.keep K74 nin0).ext E77).other W88 (own_arvne ((G33_9.keep K74 nin0).ext E77) V77 (by decide))).other W99 (own_arvne (((G33_9.keep K74 nin0).ext E77).other W88 (own_arvne ((G33_9.keep K74 nin0).ext E77) V77 (by decide))) V88 (by decide))) V99 (by decide))).other W121 (own_arvne (((((G33_9.keep K74 nin0).ext E77).other W88 (own_arvne ((G33_9.keep K74 nin0).ext E77) V77 (by decide))).other W99 (own_arvne (((G33_9.keep K74 nin0).ext E77).other W88 (own_arvne ((G33_9.keep K74 nin0).ext E77) V77 (by decide))) V88 (by decide))).other W110 (own_arvne ((((G33_9.keep K74 nin0).ext E77).other W88 (own_arvne ((G33_9.keep K74 nin0).ext E77) V77 (by decide))).other W99 (own_arvne (((G33_9.keep K74 nin0).ext E77).other W88 (own_arvne ((G33_9.keep K74 nin0).ext E77) V77 (by decide))) V88 (by decide))) V99 (by decide))) V110 (by decide))) V121 (by decide))).other W143 (own_arvne (((((((G33_9.keep K74 nin0).ext E77).other W88 (own_arvne ((G33_9.keep K74 nin0).ext E77) V77 (by decide))).other W99 (own_arvne (((G33_9.keep K74 nin0).ext E77).other W88 (own_arvne ((G33_9.keep K74 nin0).ext E77) V77 (by decide))) V88 (by decide))).other W110 (own_arvne ((((G33_9.keep K74 nin0).ext E77).other W88 (own_arvne ((G33_9.keep K74 nin0).ext E77) V77 (by decide))).other W99 (own_arvne (((G33_9.keep K74 nin0).ext E77).other W88 (own_arvne ((G33_9.keep K74 nin0).ext E77) V77 (by decide))) V88 (by decide))) V99 (by decide))).other W121 (own_arvne (((((G33_9.keep K74 nin0).ext E77).other W88 (own_arvne ((G33_9.keep K74 nin0).ext E77) V77 (by decide))).other W99 (own_arvne (((G33_9.keep K74 nin0).ext E77).other W88 (own_arvne ((G33_9.keep K74 nin0).ext E77) V77 (by decide))) V88 (by decide))).other W110 (own_arvne ((((G33_9.keep K74 nin0).ext E77).other W88 (own_arvne ((G33_9.keep K74 nin0).ext E77) V77 (by decide))).other W99 (own_arvne (((G33_9.keep K74 nin0).ext E77).other W88 (own_arvne ((G33_9.keep K74 nin0).ext E77) V77 (by decide))) V88 (by decide))) V99 (by decide))) V110 (by decide))).other W132 (own_arvne ((((((G33_9.keep K74 nin0).ext E77).other W88 (own_arvne ((G33_9.keep K74 nin0).ext E77) V77 (by decide))).other W99 (own_arvne (((G33_9.keep K74 nin0).ext E77).other W88 (own_arvne ((G33_9.keep K74 nin0).ext E77) V77 (by decide))) V88 (by decide))).other W110 (own_arvne ((((G33_9.keep K74 nin0).ext E77).other W88 (own_arvne ((G33_9.keep K74 nin0).ext E77) V77 (by decide))).other W99 (own_arvne (((G33_9.keep K74 nin0).ext E77).other W88 (own_arvne ((G33_9.keep K74 nin0).ext E77) V77 (by decide))) V88 (by decide))) V99 (by decide))).other W121 (own_arvne (((((G33_9.keep K74 nin0).ext E77).other W88 (own_arvne ((G33_9.keep K74 nin0).ext E77) V77 (by decide))).other W99 (own_arvne (((G33_9.keep K74 nin0).ext E77).other W88 (own_arvne ((G33_9.keep K74 nin0).ext E77) V77 (by decide))) V88 (by decide))).other W110 (own_arvne ((((G33_9.keep K74 nin0).ext E77).other W88 (own_arvne ((G33_9.keep K74 nin0).ext E77) V77 (by decide))).other W99 (own_arvne (((G33_9.keep K74 nin0).ext E77).other W88 (own_arvne ((G33_9.keep K74 nin0).ext E77) V77 (by decide))) V88 (by decide))) V99 (by decide))) V110 (by decide))) V121 (by decide))) V132 (by decide))) V143 (by decide))).keep K210 (ninS (own_arvne (((((((((G33_9.keep K74 nin0).ext E77).other W88 (own_arvne ((G33_9.keep K74 nin0).ext E77) V77 (by decide))).other W99 (own_arvne (((G33_9.keep K74 nin0).ext E77).other W88 (own_arvne ((G33_9.keep K74 nin0).ext E77) V77 (by decide))) V88 (by decide))).other W110 (own_arvne ((((G33_9.keep K74 nin0).ext E77).other W88 (own_arvne ((G33_9.keep K74 nin0).ext E77) V77 (by decide))).other W99 (own_arvne (((G33_9.keep K74 nin0).ext E77).other W88 (own_arvne ((G33_9.keep K74 nin0).ext E77) V77 (by decide))) V88 (by decide))) V99 (by decide))).other W121 (own_arvne (((((G33_9.keep K74 nin0).ext E77).other W88 (own_arvne ((G33_9.keep K74 nin0).ext E77) V77 (by decide))).other W99 (own_arvne (((G33_9.keep K74 nin0).ext E77).other W88 (own_arvne ((G33_9.keep K74 nin0).ext E77) V77 (by decide))) V88 (by decide))).other W110 (own_arvne ((((G33_9.keep K74 nin0).ext E77).other W88 (own_arvne ((G33_9.keep K74 nin0).ext E77) V77 (by decide))).other W99 (own_arvne (((G33_9.keep K74 nin0).ext E77).other W88 (own_arvne ((G33_9.keep K74 nin0).ext E77) V77 (by decide))) V88 (by decide))) V99 (by decide))) V110 (by decide))).other W132 (own_arvne ((((((G33_9.keep K74 nin0).ext E77).other W88 (own_arvne ((G33_9.keep K74 nin0).ext E77) V77 (by decide))).other W99 (own_arvne (((G33_9.keep K74 nin0).ext E77).other W88 (own_arvne ((G33_9.keep K74 nin0).ext E77) V77 (by decide))) V88 (by decide))).other W110 (own_arvne ((((G33_9.keep K74 nin0).ext E77).other W88 (own_arvne ((G33_9.keep K74 nin0).ext E77) V77 (by decide))).other W99 (own_arvne (((G33_9.keep K74 nin0).ext E77).other W88 (own_arvne ((G33_9.keep K74 nin0).ext E77) V77 (by decide))) V88 (by decide))) V99 (by decide))).other W121 (own_arvne (((((G33_9.keep K74 nin0).ext E77).other W88 (own_arvne ((G33_9.keep K74 nin0).ext E77) V77 (by decide))).other W99 (own_arvne (((G33_9.keep K74 nin0).ext E77).other W88 (own_arvne ((G33_9.keep K74 nin0).ext E77) V77 (by decide))) V88 (by decide))).other W110 (own_arvne ((((G33_9.keep K74 nin0).ext E77).other W88 (own_arvne ((G33_9.keep K74 nin0).ext E77) V77 (by decide))).other W99 (own_arvne (((G33_9.keep K74 nin0).ext E77).other W88 (own_arvne ((G33_9.keep K74 nin0).ext E77) V77 (by decide))) V88 (by decide))) V99 (by decide))) V110 (by decide))) V121 (by decide))).other W143 (own_arvne (((((((G33_9.keep K74 nin0).ext E77).other W88 (own_arvne ((G33_9.keep K74 nin0).ext E77) V77 (by decide))).other W99 (own_arvne (((G33_9.keep K74 nin0).ext E77).other W88 (own_arvne ((G33_9.keep K74 nin0).ext E77) V77 (by decide))) V88 (by decide))).other W110 (own_arvne ((((G33_9.keep K74 nin0).ext E77).other W88 (own_arvne ((G33_9.keep K74 nin0).ext E77) V77 (by decide))).other W99 (own_arvne (((G33_9.keep K74 nin0).ext E77).other W88 (own_arvne ((G33_9.keep K74 nin0).ext E77) V77 (by decide))) V88 (by decide))) V99 (by decide))).other W121 (own_arvne (((((G33_9.keep K74 nin0).ext E77).other W88 (own_arvne ((G33_9.keep K74 nin0).ext E77) V77 (by decide))).other W99 (own_arvne (((G33_9.keep K74 nin0).ext E77).other W88 (own_arvne ((G33_9.keep K74 nin0).ext E77) V77 (by decide))) V88 (by decide))).other W110 (own_arvne ((((G33_9.keep K74 nin0).ext E77).other W88 (own_arvne ((G33_9.keep K74 nin0).ext E77) V77 (by decide))).other W99 (own_arvne (((G33_9.keep K74 nin0).ext E77).other W88 (own_arvne ((G33_9.keep K74 nin0).ext E77) V77 (by decide))) V88 (by decide))) V99 (by decide))) V110 (by decide))).other W132 (own_arvne ((((((G33_9.keep K74 nin0).ext E77).other W88 (own_arvne ((G33_9.keep K74 nin0).ext E77) V77 (by decide))).other W99 (own_arvne (((G33_9.keep K74 nin0).ext E77).other W88 (own_arvne ((G33_9.keep K74 nin0).ext E77) V77 (by decide))) V88 (by decide))).other W110 (own_arvne ((((G33_9.keep K74 nin0).ext E77).other W88 (own_arvne ((G33_9.keep K74 nin0).ext E77) V77 (by decide))).other W99 (own_arvne (((G33_9.keep K74 nin0).ext E77).other W88 (own_arvne ((G33_9.keep K74 nin0).ext E77) V77 (by decide))) V88 (by decide))) V99 (by decide))).other W121 (own_arvne (((((G33_9.keep K74 nin0).ext E77).other W88 (own_arvne ((G33_9.keep K74 nin0).ext E77) V77 (by decide))).other W99 (own_arvne (((G33_9.keep K74 nin0).ext E77).other W88 (own_arvne ((G33_9.keep K74 nin0).ext E77) V77 (by decide))) V88 (by decide))).other W110 (own_arvne ((((G33_9.keep K74 nin0).ext E77).other W88 (own_arvne ((G33_9.keep K74 nin0).ext E77) V77 (by decide))).other W99 (own_arvne (((G33_9.keep K74 nin0).ext E77).other W88 (own_arvne ((G33_9.keep K74 nin0).ext E77) V77 (by decide))) V88 (by decide))) V99 (by decide))) V110 (by decide))) V121 (by decide))) V132 (by decide))).other W154 (own_arvne ((((((((G33_9.keep K74 nin0).ext E77).other W88 (own_arvne ((G33_9.keep K74 nin0).ext E77) V77 (by decide))).other W99 (own_arvne (((G33_9.keep K74 nin0).ext E77).other W88 (own_arvne ((G33_9.keep K74 nin0).ext E77) V77 (by decide))) V88 (by decide))).other W110 (own_arvne ((((G33_9.keep K74 nin0).ext E77).other W88 (own_arvne ((G33_9.keep K74 nin0).ext E77) V77 (by decide))).other W99 (own_arvne (((G33_9.keep K74 nin0).ext E77).other W88 (own_arvne ((G33_9.keep K74 nin0).ext E77) V77 (by decide))) V88 (by decide))) V99 (by decide))).other W121 (own_arvne (((((G33_9.keep K74 nin0).ext E77).other W88 (own_arvne ((G33_9.keep K74 nin0).ext E77) V77 (by decide))).other W99 (own_arvne (((G33_9.keep K74 nin0).ext E77).other W88 (own_arvne ((G33_9.keep K74 nin0).ext E77) V77 (by decide))) V88 (by decide))).other W110 (own_arvne ((((G33_9.keep K74 nin0).ext E77).other W88 (own_arvne ((G33_9.keep K74 nin0).ext E77) V77 (by decide))).other W99 (own_arvne (((G33_9.keep K74 nin0).ext E77).other W88 (own_arvne ((G33_9.keep K74 nin0).ext E77) V77 (by decide))) V88 (by decide))) V99 (by decide))) V110 (by decide))).other W132 (own_arvne ((((((G33_9.keep K74 nin0).ext E77).other W88 (own_arvne ((G33_9.keep K74 nin0).ext E77) V77 (by decide))).other W99 (own_arvne (((G33_9.keep K74 nin0).ext E77).other W88 (own_arvne ((G33_9.keep K74 nin0).ext E77) V77 (by decide))) V88 (by decide))).other W110 (own_arvne ((((G33_9.keep K74 nin0).ext E77).other W88 (own_arvne ((G33_9.keep K74 nin0).ext E77) V77 (by decide))).other W99 (own_arvne (((G33_9.keep K74 nin0).ext E77).other W88 (own_arvne ((G33_9.keep K74 nin0).ext E77) V77 (by decide))) V88 (by decide))) V99 (by decide))).other W121 (own_arvne (((((G33_9.keep K74 nin0).ext E77).other W88 (own_arvne ((G33_9.keep K74 nin0).ext E77) V77 (by decide))).other W99 (own_arvne (((G33_9.keep K74 nin0).ext E77).other W88 (own_arvne ((G33_9.keep K74 nin0).ext E77) V77 (by decide))) V88 (by decide))).other W110 (own_arvne ((((G33_9.keep K74 nin0).ext E77).other W88 (own_arvne ((G33_9.keep K74 nin0).ext E77) V77 (by decide))).other W99 (own_arvne (((G33_9.keep K74 nin0).ext E77).other W88 (own_arvne ((G33_9.keep K74 nin0).ext E77) V77 (by decide))) V88 (by decide))) V99 (by decide))) V110 (by decide))) V121 (by decide))).other W143 (own_arvne (((((((G33_9.keep K74 nin0).ext E77).other W88 (own_arvne ((G33_9.keep K74 nin0).ext E77) V77 (by decide))).other W99 (own_arvne (((G33_9.keep K74 nin0).ext E77).other W88 (own_arvne ((G33_9.keep K74 nin0).ext E77) V77 (by decide))) V88 (by decide))).other W110 (own_arvne ((((G33_9.keep K74 nin0).ext E77).other W88 (own_arvne ((G33_9.keep K74 nin0).ext E77) V77 (by decide))).other W99 (own_arvne (((G33_9.keep K74 nin0).ext E77).other W88 (own_arvne ((G33_9.keep K74 nin0).ext E77) V77 (by decide))) V88 (by decide))) V99 (by decide))).other W121 (own_arvne (((((G33_9.keep K74 nin0).ext E77).other W88 (own_arvne ((G33_9.keep K74 nin0).ext E77) V77 (by decide))).other W99 (own_arvne (((G33_9.keep K74 nin0).ext E77).other W88 (own_arvne ((G33_9.keep K74 nin0).ext E77) V77 (by decide))) V88 (by decide))).other W110 (own_arvne ((((G33_9.keep K74 nin0).ext E77).other W88 (own_arvne ((G33_9.keep K74 nin0).ext E77) V77 (by decide))).other W99 (own_arvne (((G33_9.keep K74 nin0).ext E77).other W88 (own_arvne ((G33_9.keep K74 nin0).ext E77) V77 (by decide))) V88 (by decide))) V99 (by decide))) V110 (by decide))).other W132 (own_arvne ((((((G33_9.keep K74 nin0).ext E77).other W88 (own_arvne ((G33_9.keep K74 nin0).ext E77) V77 (by decide))).other W99 (own_arvne (((G33_9.keep K74 nin0).ext E77).other W88 (own_arvne ((G33_9.keep K74 nin0).ext E77) V77 (by decide))) V88 (by decide))).other W110 (own_arvne ((((G33_9.keep K74 nin0).ext E77).other W88 (own_arvne ((G33_9.keep K74 nin0).ext E77) V77 (by decide))).other W99 (own_arvne (((G33_9.keep K74 nin0).ext E77).other W88 (own_arvne ((G33_9.keep K74 nin0).ext E77) V77 (by decide))) V88 (by decide))) V99 (by decide))).other W121 (own_arvne (((((G33_9.keep K74 nin0).ext E77).other W88 (own_arvne ((G33_9.keep K74 nin0).ext E77) V77 (by decide))).other W99 (own_arvne (((G33_9.keep K74 nin0).ext E77).other W88 (own_arvne ((G33_9.keep K74 nin0).ext E77) V77 (by decide))) V88 (by decide))).other W110 (own_arvne ((((G33_9.keep K74 nin0).ext E77).other W88 (own_arvne ((G33_9.keep K74 nin0).ext E77) V77 (by decide))).other W99 (own_arvne (((G33_9.keep K74 nin0).ext E77).other W88 (own_arvne ((G33_9.keep K74 nin0).ext E77) V77 (by decide))) V88 (by decide))) V99 (by decide))) V110 (by decide))) V121 (by decide))) V132 (by decide))) V143 (by decide))) V154 (by decide)) nin0)).keep K255 nin0)
    have Zc268 : n0 ≤ h255.size := by omega
    obtain ⟨_, _, ⟨T269, L269, k269, n269⟩, -, X269, ⟨Lc269, hQ269, l269, y269, z269⟩, st269⟩ := Jvm.LawKit.callS X260 hx (y := (⟨"com/example/coyote_hill/coyotehill/ItemState", "fromName", "(Ljava/lang/String;)Lcom/example/coyote_hill/coyotehill/ItemState;"⟩ : MethodName)) hown (mvT hZ (hw _ (List.mem_of_getElem? (i := 60) rfl))) (mvT hZ (hw _ (List.mem_of_getElem? (i := 61) rfl))) (mvT hZ (hw _ (List.mem_of_getElem? (i := 9) rfl))) (mvT hZ (hw _ (List.mem_of_getElem? (i := 62) rfl))) (by decide) (backOf (W := 0) (rmFrom l Z a0 hw [] naA_33 cst bB_33 kB_33 (own_nm mk) vl kv ra rb rc rd na nb nc nx va vb vc vd ka kb_ kc_ kd h255 n0 Zc268 I1 O263 (hcst : ¬ (cst = (0 : Int32))) I3 I4 I5 I6 I7 I8 I9 I10 I11 I12 I13 I14 I15 I16 I17 I18 I19 I20 I21 I22 I23 I24 I25 I26 I27 I28 I29 f264 f265 f266 f267 (own_nmchs _) (own_nml _)) hZ (hw _ (List.mem_of_getElem? (i := 62) rfl)) (hw _ (List.mem_of_getElem? (i := 9) rfl)) (by decide) (by decide)) (g := (mkF m 320 #[.val (.int sel), .val (.int len), .val (.int ps), .val (.int mt), .val (.long lc), .second, .val (.int (Int32.ofNat mk)), .val (.ref nmA_33), .val (.ref stA_33), .val (.int q38), .val (.int q45), .val (.int q52), .val (.int q59), .val (.int (Int32.ofNat nN_74)), .val (.ref b77), .val .null, .val .null, .val (.int (1 : Int32)), .unset] [(.ref naA_33)])) rfl (by rw [hml]; rfl) (argsL := [(.ref naA_33)]) (rest := []) (lenOf pd__Ljava_lang_String__Lcom_example_coyote_hill_coyotehill_ItemState_ rfl) rfl (by show 2 * 0 + _ ≤ _; exact Nat.le_of_eq rfl) (Jvm.hb hby at_320) (fun _ _ => ⟨rfl, e260, (by decide : 4 + 1 ≤ _), (by decide : 39 + 4 ≤ _)⟩)
    dsimp only [Pt.U, Pt.locs, Pt.cells, Pt.slots] at X269 l269 y269 z269 st269 hQ269
    subst l269 y269 z269
    obtain ⟨rfl, N269q, K269⟩ := hQ269
    have N269 := Fr.app N260 N269q
    obtain ⟨h269, e269⟩ : ∃ z, T269.heap = z := ⟨_, rfl⟩
    rw [e269] at K269
    have z270 : h255.size ≤ h269.size := K269.1
    have Cp270 : CHr Z ELs V33 h255 V33 h269 := CHr.keep K269 sf0 CR.1
    have hk := Nat.le_trans hk z270
    have CR := CR.trans Cp270
    have s271 : ∀ t_, Steps p.tables e below (T269.setTop (mkF m 350 #[.val (.int sel), .val (.int len), .val (.int ps), .val (.int mt), .val (.long lc), .second, .val (.int (Int32.ofNat mk)), .val (.ref nmA_33), .val (.ref stA_33), .val (.int q38), .val (.int q45), .val (.int q52), .val (.int q59), .val (.int (Int32.ofNat nN_74)), .val (.ref b77), .val .null, .val .null, .val (.int (1 : Int32)), .val (.int (1 : Int32))] [(.int (1 : Int32))])) t_ → Steps p.tables e below (s₁.setTop (entryFrame m #[(.int sel), (.int len), (.int ps), (.int mt), (.long lc)] maxLocals)) t_ := fun t_ k_ => s262 t_ (by
      show Steps p.tables e below (T260.setTop (mkF m 320 #[.val (.int sel), .val (.int len), .val (.int ps), .val (.int mt), .val (.long lc), .second, .val (.int (Int32.ofNat mk)), .val (.ref nmA_33), .val (.ref stA_33), .val (.int q38), .val (.int q45), .val (.int q52), .val (.int q59), .val (.int (Int32.ofNat nN_74)), .val (.ref b77), .val .null, .val .null, .val (.int (1 : Int32)), .unset] [(.ref naA_33)])) t_
      refine st269 _ ?_
      show Steps p.tables e below (T269.setTop (mkF m 323 #[.val (.int sel), .val (.int len), .val (.int ps), .val (.int mt), .val (.long lc), .second, .val (.int (Int32.ofNat mk)), .val (.ref nmA_33), .val (.ref stA_33), .val (.int q38), .val (.int q45), .val (.int q52), .val (.int q59), .val (.int (Int32.ofNat nN_74)), .val (.ref b77), .val .null, .val .null, .val (.int (1 : Int32)), .unset] [(own_from (own_nm mk) ra rb rc rd)])) _
      refine XS.aload X269.here hx rfl (Jvm.hb hby at_323) rfl rfl ?_
      refine Jvm.RoadKit.acmp (g := (mkF m 325 #[.val (.int sel), .val (.int len), .val (.int ps), .val (.int mt), .val (.long lc), .second, .val (.int (Int32.ofNat mk)), .val (.ref nmA_33), .val (.ref stA_33), .val (.int q38), .val (.int q45), .val (.int q52), .val (.int q59), .val (.int (Int32.ofNat nN_74)), .val (.ref b77), .val .null, .val .null, .val (.int (1 : Int32)), .unset] [(.ref stA_33), (own_from (own_nm mk) ra rb rc rd)])) X269 hx rfl (own_fromR (own_nm mk) ra rb rc rd) rfl (pc0 := 325) (pc' := 328) (same := true) rfl (Jvm.hb hby at_325) rfl (decide_eq_true (by rw [J33_0]; exact own_fromnm mk hmkl ra rb rc rd)) (by decide) (by decide) ?_
      show Steps p.tables e below (T269.setTop (mkF m 328 #[.val (.int sel), .val (.int len), .val (.int ps), .val (.int mt), .val (.long lc), .second, .val (.int (Int32.ofNat mk)), .val (.ref nmA_33), .val (.ref stA_33), .val (.int q38), .val (.int q45), .val (.int q52), .val (.int q59), .val (.int (Int32.ofNat nN_74)), .val (.ref b77), .val .null, .val .null, .val (.int (1 : Int32)), .unset] [])) _
      refine XS.iconst X269.here hx rfl (Jvm.hb hby at_328) ?_
      refine XS.goto X269.here hx rfl (pc0 := 329) (pc' := 333) rfl (Jvm.hb hby at_329) (by decide) (by decide) ?_
      refine XS.istore X269.here hx rfl (Jvm.hb hby at_333) rfl (l' := #[.val (.int sel), .val (.int len), .val (.int ps), .val (.int mt), .val (.long lc), .second, .val (.int (Int32.ofNat mk)), .val (.ref nmA_33), .val (.ref stA_33), .val (.int q38), .val (.int q45), .val (.int q52), .val (.int q59), .val (.int (Int32.ofNat nN_74)), .val (.ref b77), .val .null, .val .null, .val (.int (1 : Int32)), .val (.int (1 : Int32))]) rfl ?_
      refine XS.iload X269.here hx rfl (Jvm.hb hby at_335) rfl ?_
      refine XS.ifNo X269.here hx rfl (Jvm.hb hby at_337) rfl ((if0 _ _).trans (feq (by decide : ¬ ((1 : Int32) = (0 : Int32)))).1) ?_
      show Steps p.tables e below (T269.setTop (mkF m 340 #[.val (.int sel), .val (.int len), .val (.int ps), .val (.int mt), .val (.long lc), .second, .val (.int (Int32.ofNat mk)), .val (.ref nmA_33), .val (.ref stA_33), .val (.int q38), .val (.int q45), .val (.int q52), .val (.int q59), .val (.int (Int32.ofNat nN_74)), .val (.ref b77), .val .null, .val .null, .val (.int (1 : Int32)), .val (.int (1 : Int32))] [])) _
      refine XS.iload X269.here hx rfl (Jvm.hb hby at_340) rfl ?_
      refine XS.ifNo X269.here hx rfl (Jvm.hb hby at_342) rfl ((if0 _ _).trans (feq (by decide : ¬ ((1 : Int32) = (0 : Int32)))).1) ?_
      show Steps p.tables e below (T269.setTop (mkF m 345 #[.val (.int sel), .val (.int len), .val (.int ps), .val (.int mt), .val (.long lc), .second, .val (.int (Int32.ofNat mk)), .val (.ref nmA_33), .val (.ref stA_33), .val (.int q38), .val (.int q45), .val (.int q52), .val (.int q59), .val (.int (Int32.ofNat nN_74)), .val (.ref b77), .val .null, .val .null, .val (.int (1 : Int32)), .val (.int (1 : Int32))] [])) _
      refine XS.iconst X269.here hx rfl (Jvm.hb hby at_345) ?_
      refine XS.goto X269.here hx rfl (pc0 := 346) (pc' := 350) rfl (Jvm.hb hby at_346) (by decide) (by decide) ?_
      show Steps p.tables e below (T269.setTop (mkF m 350 #[.val (.int sel), .val (.int len), .val (.int ps), .val (.int mt), .val (.long lc), .second, .val (.int (Int32.ofNat mk)), .val (.ref nmA_33), .val (.ref stA_33), .val (.int q38), .val (.int q45), .val (.int q52), .val (.int q59), .val (.int (Int32.ofNat nN_74)), .val (.ref b77), .val .null, .val .null, .val (.int (1 : Int32)), .val (.int (1 : Int32))] [(.int (1 : Int32))])) t_
      exact k_)
    obtain ⟨fs, hr, hrun, hended, hREW⟩ := X269.leaveW hS (by first | exact Nat.le_refl _ | (rw [e269]; exact hk)) (v := some (.int (1 : Int32))) (fun h => by rw [Bd.returns] at h; cases h)
    refine ⟨_, _, s271 _ ?_, hrun, hended, _, _, rfl, ?_, (by show CHr Z ELs s.vm s.heap T269.vm T269.heap; rw [hh, e269]; exact CR.trans (CHv.at X269 hZ hEL CR.1)), hREW.1, hREW.2.1, hREW.2.2.1, hREW.2.2.2.mono (by decide) (by decide)⟩
    · show Steps p.tables e below (T269.setTop (mkF m 350 #[.val (.int sel), .val (.int len), .val (.int ps), .val (.int mt), .val (.long lc), .second, .val (.int (Int32.ofNat mk)), .val (.ref nmA_33), .val (.ref stA_33), .val (.int q38), .val (.int q45), .val (.int q52), .val (.int q59), .val (.int (Int32.ofNat nN_74)), .val (.ref b77), .val .null, .val .null, .val (.int (1 : Int32)), .val (.int (1 : Int32))] [(.int (1 : Int32))])) _
      exact retN X269 hx (t := .boolean) Bd.returns (by simp) (Jvm.hb hby at_350) hr
    · show Q_rmLaw Z _ _ _ _ _ _ _ _ _ _ _ _ _ _ _ _ _ _ _ _ _ _ _ _ _ h0 n0 _ T269.heap _
      rw [e269]
      exact ⟨rfl, N269⟩
set_option maxRecDepth 65536 in
set_option maxHeartbeats 40000000 in
theorem comes_1 {Post : Tables → Env → Array Value → State → Outcome → State → Prop} (hpost : ∀ tb e args s v u, (limb_1_1.after args s (.returned v) u = true ∧ limb_1_2.after args s (.returned v) u = true ∧ True) → ReturnedEndW s (.returned v) u (Jvm.fieldLocs frame_1_writes args s ++ Jvm.arrayLocs frame_1_arrays args s ++ Jvm.staticLocs frame_1_statics s) 32 5312 → Post tb e args s (.returned v) u) :
    ArmFor flags0 classFile x code maxLocals ret World_1 tables_1 room_1 Calls_1 rest_1 Pre_1 Post := by
  intro l hfl _ _ p e ha hc hk s m args below hf hA hF happ hP
  obtain ⟨hcalls, hrest, hpre⟩ := hP
  obtain ⟨-, -, -, hnamed, -, -, -, hat⟩ := (Spec.applies_iff hf).mp happ
  obtain ⟨hg, hn⟩ := and_e (Cond.before_iff.mp (show (Jvm.Cond.and given_1 narrow_1).before args s = true from hpre))
  obtain ⟨ga, gr⟩ := and_e hg
  obtain ⟨g0, gr0⟩ := and_e gr
  obtain ⟨g1, gr1⟩ := and_e gr0
  obtain ⟨g2, gr2⟩ := and_e gr1
  obtain ⟨g3, gr3⟩ := and_e gr2
  obtain ⟨w0, w1, w2, w3, w4, rfl⟩ : ∃ w0 w1 w2 w3 w4 : Value, args = #[w0, w1, w2, w3, w4] := by
    have hs : args.size = 5 := by simpa [Cond.value, given_1] using ga
    obtain ⟨L⟩ := args
    match L, hs with
    | [w0, w1, w2, w3, w4], _ => exact ⟨w0, w1, w2, w3, w4, rfl⟩
  have hw := fun d (hd : d ∈ tables_1) => atoms_spec (ws := Jvm.Cond.code x code maxLocals ret :: tables_1) hat d (List.mem_cons_of_mem _ hd)
  have hfit : Fit s := fun {y c} hc i hi => by
    obtain ⟨ha, rfl⟩ := Array.getElem?_eq_some_iff.mp hc
    have q := List.all_eq_true.mp ((Array.all_eq_true_iff_forall_mem.mp hF) _ (Array.getElem_mem ha)) i (List.mem_range.mpr hi)
    simpa [Array.getElem?_eq_getElem hi] using q
  obtain ⟨hsets, hown0⟩ := atoms_of _ (rest_1_c_eq ▸ (show rest_1_c.before _ s = true from hrest))
  have hr0 := Cond.before_iff.mp hown0
  obtain ⟨i0, ei0⟩ := is_v g0
  obtain rfl : w0 = (.int i0) := Option.some.inj ei0
  obtain ⟨i1, ei1⟩ := is_v g1
  obtain rfl : w1 = (.int i1) := Option.some.inj ei1
  obtain ⟨i2, ei2⟩ := is_v g2
  obtain rfl : w2 = (.int i2) := Option.some.inj ei2
  obtain ⟨i3, ei3⟩ := is_v g3
  obtain rfl : w3 = (.int i3) := Option.some.inj ei3
  obtain ⟨i4, ei4⟩ := isL_v gr3
  obtain rfl : w4 = (.long i4) := Option.some.inj ei4
  obtain ⟨cst, ecs⟩ := is_v (Cond.before_iff.mp (hsets _ (List.mem_of_getElem? (i := 1) rfl)))
  have hcw := (hsets _ (List.mem_of_getElem? (i := 2) rfl))
  have hcst : ¬ (cst = (0 : Int32)) := fun q => by
    have h1 := not_v (Cond.before_iff.mp hcw)
    rw [Cond.eq_ints ecs (Term.int_eval 0)] at h1
    simp [q] at h1
  obtain ⟨fmt, efm, hfmt⟩ := isR_v (Cond.before_iff.mp (hsets _ (List.mem_of_getElem? (i := 8) rfl)))
  obtain ⟨n0, hn⟩ := and_e hn
  obtain ⟨n1, hn⟩ := and_e hn
  obtain ⟨n2, hn⟩ := and_e hn
  obtain ⟨n3, hn⟩ := and_e hn
  obtain ⟨n4, hn⟩ := and_e hn
  obtain ⟨n5, hn⟩ := and_e hn
  obtain ⟨n6, hn⟩ := and_e hn
  obtain ⟨n7, hn⟩ := and_e hn
  obtain ⟨n8, hn⟩ := and_e hn
  obtain ⟨n9, hn⟩ := and_e hn
  obtain ⟨n10, hn⟩ := and_e hn
  obtain ⟨n11, hn⟩ := and_e hn
  obtain ⟨n12, hn⟩ := and_e hn
  obtain ⟨n13, hn⟩ := and_e hn
  obtain ⟨n14, hn⟩ := and_e hn
  obtain ⟨n15, hn⟩ := and_e hn
  obtain ⟨n16, hn⟩ := and_e hn
  obtain ⟨n17, hn⟩ := and_e hn
  obtain ⟨n18, hn⟩ := and_e hn
  obtain ⟨n19, hn⟩ := and_e hn
  obtain ⟨n20, hn⟩ := and_e hn
  obtain ⟨n21, hn⟩ := and_e hn
  obtain ⟨n22, hn⟩ := and_e hn
  obtain ⟨n23, hn⟩ := and_e hn
  obtain ⟨n24, hn⟩ := and_e hn
  obtain ⟨n25, hn⟩ := and_e hn
  obtain ⟨n26, hn⟩ := and_e hn
  obtain ⟨n27, hn⟩ := and_e hn
  obtain ⟨n28, hn⟩ := and_e hn
  obtain ⟨n29, hn⟩ := and_e hn
  obtain ⟨n30, hn⟩ := and_e hn
  obtain ⟨n31, hn⟩ := and_e hn
  obtain ⟨n32, hn⟩ := and_e hn
  obtain ⟨n33, hn⟩ := and_e hn
  obtain ⟨n34, hn⟩ := and_e hn
  obtain ⟨n35, hn⟩ := and_e hn
  obtain ⟨n36, hn⟩ := and_e hn
  obtain ⟨n37, hn⟩ := and_e hn
  obtain ⟨n38, hn⟩ := and_e hn
  obtain ⟨n39, hn⟩ := and_e hn
  obtain ⟨n40, hn⟩ := and_e hn
  obtain ⟨n41, hn⟩ := and_e hn
  obtain ⟨n42, hn⟩ := and_e hn
  obtain ⟨n43, hn⟩ := and_e hn
  obtain ⟨n44, hn⟩ := and_e hn
  obtain ⟨n45, hn⟩ := and_e hn
  obtain ⟨n46, hn⟩ := and_e hn
  obtain ⟨n47, hn⟩ := and_e hn
  obtain ⟨n48, hn⟩ := and_e hn
  obtain ⟨n49, hn⟩ := and_e hn
  obtain ⟨n50, hn⟩ := and_e hn
  obtain ⟨n51, hn⟩ := and_e hn
  obtain ⟨n52, hn⟩ := and_e hn
  obtain ⟨ra, era⟩ := exa_v n0
  obtain ⟨na, ena⟩ := exa_v n11
  obtain ⟨va, ccva, eva, AAva⟩ := own_arrv n13
  have qva := own_len AAva eva n14
  have Vva : Arv s s.heap va ccva.cls .byte (5 : Int32) [(.int (114 : Int32)), (.int (101 : Int32)), (.int (97 : Int32)), (.int (100 : Int32)), (.int (121 : Int32))] (.int (0 : Int32)) := Arv.start hfit AAva qva.1 qva.2 (by decide) rfl ⟨own_el AAva eva n37, own_el AAva eva n38, own_el AAva eva n39, own_el AAva eva n40, own_el AAva eva n41, trivial⟩
  have cona := eqv_i (Term.int_eval 0) n12
  obtain ⟨rb, erb⟩ := exa_v n5
  obtain ⟨nb, enb⟩ := exa_v n15
  obtain ⟨vb, ccvb, evb, AAvb⟩ := own_arrv n17
  have qvb := own_len AAvb evb n18
  have Vvb : Arv s s.heap vb ccvb.cls .byte (6 : Int32) [(.int (108 : Int32)), (.int (101 : Int32)), (.int (97 : Int32)), (.int (115 : Int32)), (.int (101 : Int32)), (.int (100 : Int32))] (.int (0 : Int32)) := Arv.start hfit AAvb qvb.1 qvb.2 (by decide) rfl ⟨own_el AAvb evb n42, own_el AAvb evb n43, own_el AAvb evb n44, own_el AAvb evb n45, own_el AAvb evb n46, own_el AAvb evb n47, trivial⟩
  have conb := eqv_i (Term.int_eval 0) n16
  obtain ⟨rc, erc⟩ := exa_v n7
  obtain ⟨nc, enc⟩ := exa_v n19
  obtain ⟨vc, ccvc, evc, AAvc⟩ := own_arrv n21
  have qvc := own_len AAvc evc n22
  have Vvc : Arv s s.heap vc ccvc.cls .byte (4 : Int32) [(.int (100 : Int32)), (.int (111 : Int32)), (.int (110 : Int32)), (.int (101 : Int32))] (.int (0 : Int32)) := Arv.start hfit AAvc qvc.1 qvc.2 (by decide) rfl ⟨own_el AAvc evc n33, own_el AAvc evc n34, own_el AAvc evc n35, own_el AAvc evc n36, trivial⟩
  have conc := eqv_i (Term.int_eval 0) n20
  obtain ⟨rd, erd⟩ := exa_v n9
  obtain ⟨nx, enx⟩ := exa_v n23
  obtain ⟨vd, ccvd, evd, AAvd⟩ := own_arrv n25
  have qvd := own_len AAvd evd n26
  have Vvd : Arv s s.heap vd ccvd.cls .byte (6 : Int32) [(.int (102 : Int32)), (.int (97 : Int32)), (.int (105 : Int32)), (.int (108 : Int32)), (.int (101 : Int32)), (.int (100 : Int32))] (.int (0 : Int32)) := Arv.start hfit AAvd qvd.1 qvd.2 (by decide) rfl ⟨own_el AAvd evd n48, own_el AAvd evd n49, own_el AAvd evd n50, own_el AAvd evd n51, own_el AAvd evd n52, own_el AAvd evd hn, trivial⟩
  have conx := eqv_i (Term.int_eval 0) n24
  obtain ⟨vl, evl⟩ := exa_v n2
  obtain ⟨cvl, AVl⟩ := Arr.start evl n1
  have qvl := own_len AVl evl n3
  have VVl : Arv s s.heap vl cvl.cls (.object "com/example/coyote_hill/coyotehill/ItemState") (4 : Int32) [.ref ra, .ref rb, .ref rc, .ref rd] .null := Arv.start hfit AVl qvl.1 qvl.2 (by decide) rfl ⟨own_elR AVl evl era n4, own_elR AVl evl erb n6, own_elR AVl evl erc n8, own_elR AVl evl erd n10, trivial⟩
  have hCH : CHv s ELs s.vm s.heap := CHv.start (own_EW hw) (fun p hp => hcalls.1 p hp) (show Jvm.Lit.compactW.before _ s = true from hcw) (hw _ (List.mem_of_getElem? (i := 3) rfl)) (hw _ (List.mem_of_getElem? (i := 2) rfl))
  obtain ⟨n, o, h1, h2, h3, _, L, rfl, ⟨rfl, N⟩, -, hq⟩ := rmLaw l s _ hw tables_1 i0 i1 i2 i3 i4 cst fmt vl cvl.cls ra rb rc rd na nb nc nx va vb vc vd ccva.cls ccvb.cls ccvc.cls ccvd.cls s.heap s.heap.size (Nat.le_refl _) (Sta.start ecs (Or.inl (hsets _ (List.mem_of_getElem? (i := 0) rfl)))) hfmt (Sta.start efm (Or.inl (hsets _ (List.mem_of_getElem? (i := 7) rfl)))) (Old.start s) hcst (Sta.start evl (Or.inl (hw _ (List.mem_of_getElem? (i := 78) rfl)))) (Exa.start evl n2) VVl (Exa.start era n0) (Fld.start ((fld_at era).symm.trans ena)) (Exa.start ena n11) (Fld.start ((fld_at ena).symm.trans eva)) (Fld.start ((fld_at ena).symm.trans cona)) (own_lit0 Vva) (Exa.start erb n5) (Fld.start ((fld_at erb).symm.trans enb)) (Exa.start enb n15) (Fld.start ((fld_at enb).symm.trans evb)) (Fld.start ((fld_at enb).symm.trans conb)) (own_lit1 Vvb) (Exa.start erc n7) (Fld.start ((fld_at erc).symm.trans enc)) (Exa.start enc n19) (Fld.start ((fld_at enc).symm.trans evc)) (Fld.start ((fld_at enc).symm.trans conc)) (own_lit2 Vvc) (Exa.start erd n9) (Fld.start ((fld_at erd).symm.trans enx)) (Exa.start enx n23) (Fld.start ((fld_at enx).symm.trans evd)) (Fld.start ((fld_at enx).symm.trans conx)) (own_lit3 Vvd) (Sta.start era (Or.inr ⟨(hw _ (List.mem_of_getElem? (i := 9) rfl)), (hw _ (List.mem_of_getElem? (i := 10) rfl))⟩)) (Sta.start erb (Or.inr ⟨(hw _ (List.mem_of_getElem? (i := 9) rfl)), (hw _ (List.mem_of_getElem? (i := 75) rfl))⟩)) (Sta.start erc (Or.inr ⟨(hw _ (List.mem_of_getElem? (i := 9) rfl)), (hw _ (List.mem_of_getElem? (i := 76) rfl))⟩)) (Sta.start erd (Or.inr ⟨(hw _ (List.mem_of_getElem? (i := 9) rfl)), (hw _ (List.mem_of_getElem? (i := 77) rfl))⟩)) p e ha hc hk s m _ below hf ((Spec.applies_iff_loose hf).mp happ).1 ⟨rfl, State.Warmed39.refl s, rfl, hCH⟩ trivial
  refine ⟨n, _, h1, h2, h3, hpost _ _ _ _ _ _ ⟨Cond.after_iff.mpr rfl, Cond.after_iff.mpr (eq_i res_at (Term.int_eval (1)) rfl), trivial⟩ ⟨hq.1, hq.2.1, hq.2.2.1, (hq.2.2.2.sift fun y hy => Or.inr (N y hy)).mono (by decide) (by decide)⟩⟩
theorem main_1_1 : Claimed_1_1 := comes_1 fun _ _ _ _ _ _ h hF => ⟨h.1, hF⟩
theorem main_1_2 : Claimed_1_2 := comes_1 fun _ _ _ _ _ _ h hF => ⟨h.2.1, hF⟩
end Jvm.Pilot.@@N@@
namespace Jvm.Pilot.@@N@@
open Jvm Jvm.ClassFile Sem Op Lib Jvm.Free Jvm.Stand Jvm.Pilot.@@N@@.Jvm.D
/-! MADE BY PROGRAM (witnessworld.py) out of the Statement's table words and the real class files: 22 classes; the members and pool entries that the words name. The judged class is class 1, her method 1. -/
namespace start1
open Jvm.ClassFile
def u (s : String) : CpInfo := .utf8 (stringToUtf16 s)
/-- a pool by its gaps: so many unusable entries, then the entry; so many at the end -/
def gap : Nat → List CpInfo → List CpInfo
  | 0, r => r
  | n + 1, r => .unusable :: gap n r
def poolList (es : List (Nat × CpInfo)) (last : Nat) : List CpInfo := es.foldr (fun e r => gap e.1 (e.2 :: r)) (gap last [])
def pool (es : List (Nat × CpInfo)) (last : Nat) : Array CpInfo := ⟨poolList es last⟩
def fileOf (pool : Array CpInfo) (this : Nat) (attrs : Array Attribute := #[]) (ms : Array MethodInfo := #[]) (fl : Nat := 33) (sup : Nat := 0) (ifs : Array Nat := #[]) (fds : Array FieldInfo := #[]) : ClassFile where
  minorVersion := 0
  majorVersion := 65
  constantPool := pool
  accessFlags := fl
  thisClass := this
  superClass := sup
  interfaces := ifs
  fields := fds
  methods := ms
  attributes := attrs
def plain (name : String) (sup : Option ClassId) : Class where
  name := name
  kind := .ordinary
  loader := none
  accessFlags := 33
  super := sup
  interfaces := #[]
  cf := none
  fields := #[]
  methods := #[]
  instanceTypes := #[]
  staticTypes := #[]
  resolved := #[]
  callSites := []
  init := .initialized
  statics := none
  mirror := none

def pool0 : Array CpInfo := pool [(5, u "<init>"), (0, u "()V"), (1, .class_ 10), (1, u "java/lang/Object"), (85, u "clone"), (0, u "()Ljava/lang/Object;")] 26

def k0c0 : Code := { maxStack := 0, maxLocals := 1, code := object_method_1_code, exceptionTable := #[], attributes := #[] }
def k0m0 : Method := { name := "<init>", desc := "()V", sig := { parameters := [], returnType := none }, accessFlags := 1, code := some k0c0 }
def k0m1 : Method := { name := "clone", desc := "()Ljava/lang/Object;", sig := { parameters := [], returnType := some (.object "java/lang/Object") }, accessFlags := 260, code := none }
/-- java/lang/Object -/
def k0 : Class := { plain "java/lang/Object" none with
  accessFlags := 33
  interfaces := #[]
  cf := some (fileOf pool0 8 #[] #[{ accessFlags := 1, nameIndex := 5, descriptorIndex := 6, attributes := #[] }, { accessFlags := 260, nameIndex := 96, descriptorIndex := 97, attributes := #[] }] 33 0 #[] #[])
  fields := #[]
  methods := #[k0m0, k0m1]
  instanceTypes := #[]
  staticTypes := #[]
  resolved := Array.replicate 124 none
  statics := none }

def pool1 : Array CpInfo := pool [(2, .class_ 4), (1, u "java/lang/Object"), (0, u "<init>"), (0, u "()V"), (0, .string 8), (0, u "ready"), (0, .fieldref 10 11), (0, .class_ 12), (0, .nameAndType 13 14), (0, u "com/example/coyote_hill/coyotehill/ItemState"), (0, u "READY"), (0, u "Lcom/example/coyote_hill/coyotehill/ItemState;"), (0, .string 16), (0, u "leased"), (0, .fieldref 10 18), (0, .nameAndType 19 14), (0, u "LEASED"), (0, .string 21), (0, u "done"), (0, .fieldref 10 23), (0, .nameAndType 24 14), (0, u "DONE"), (0, .string 26), (0, u "failed"), (0, .fieldref 10 28), (0, .nameAndType 29 14), (0, u "FAILED"), (0, .methodref 31 32), (0, .class_ 33), (0, .nameAndType 34 35), (0, u "java/lang/String"), (0, u "length"), (0, u "()I"), (0, .methodref 37 38), (0, .class_ 39), (0, .nameAndType 40 41), (0, u "com/example/coyote_hill/coyotehill/ItemStateFromNamePinLaw"), (0, u "pick"), (0, u "(IZLjava/lang/String;J)C"), (0, .integer 2147483647), (0, .methodref 37 44), (0, .nameAndType 45 46), (0, u "mk"), (0, u "(I[C)Ljava/lang/String;"), (0, .methodref 37 48), (0, .nameAndType 49 50), (0, u "expected"), (0, u "(Ljava/lang/String;)Lcom/example/coyote_hill/coyotehill/ItemState;"), (0, .methodref 10 52), (0, .nameAndType 53 50), (0, u "fromName"), (0, .methodref 10 55), (0, .nameAndType 56 57), (0, u "getName"), (0, u "()Ljava/lang/String;"), (0, .methodref 31 59), (0, .nameAndType 60 61), (0, u "charAt"), (0, u "(I)C"), (0, .long 255), (1, .methodref 31 65), (0, .nameAndType 5 66), (0, u "([C)V"), (0, .methodref 31 68), (0, .nameAndType 69 70), (0, u "equals"), (0, u "(Ljava/lang/Object;)Z"), (2, u "law"), (0, u "(IIIIJ)Z")] 5

def k1m0 : Method := { name := "<init>", desc := "()V", sig := { parameters := [], returnType := none }, accessFlags := 1, code := none }
def k1c1 : Code := { maxStack := 7, maxLocals := 19, code := code, exceptionTable := #[], attributes := #[] }
def k1m1 : Method := { name := "law", desc := "(IIIIJ)Z", sig := { parameters := [.int, .int, .int, .int, .long], returnType := some .boolean }, accessFlags := 9, code := some k1c1 }
def k1c2 : Code := { maxStack := 4, maxLocals := 5, code := method_3_code, exceptionTable := #[], attributes := #[] }
def k1m2 : Method := { name := "pick", desc := "(IZLjava/lang/String;J)C", sig := { parameters := [.int, .boolean, (.object "java/lang/String"), .long], returnType := some .char }, accessFlags := 10, code := some k1c2 }
def k1c3 : Code := { maxStack := 7, maxLocals := 2, code := method_4_code, exceptionTable := #[], attributes := #[] }
def k1m3 : Method := { name := "mk", desc := "(I[C)Ljava/lang/String;", sig := { parameters := [.int, (.array .char)], returnType := some (.object "java/lang/String") }, accessFlags := 10, code := some k1c3 }
def k1c4 : Code := { maxStack := 2, maxLocals := 1, code := method_5_code, exceptionTable := #[], attributes := #[] }
def k1m4 : Method := { name := "expected", desc := "(Ljava/lang/String;)Lcom/example/coyote_hill/coyotehill/ItemState;", sig := { parameters := [(.object "java/lang/String")], returnType := some (.object "com/example/coyote_hill/coyotehill/ItemState") }, accessFlags := 10, code := some k1c4 }
/-- com/example/coyote_hill/coyotehill/ItemStateFromNamePinLaw -/
def k1 : Class := { plain "com/example/coyote_hill/coyotehill/ItemStateFromNamePinLaw" (some 0) with
  accessFlags := 49
  interfaces := #[]
  cf := some (fileOf pool1 37 #[] #[{ accessFlags := 1, nameIndex := 5, descriptorIndex := 6, attributes := #[] }, { accessFlags := 9, nameIndex := 73, descriptorIndex := 74, attributes := #[] }, { accessFlags := 10, nameIndex := 40, descriptorIndex := 41, attributes := #[] }, { accessFlags := 10, nameIndex := 45, descriptorIndex := 46, attributes := #[] }, { accessFlags := 10, nameIndex := 49, descriptorIndex := 50, attributes := #[] }] 49 2 #[] #[])
  fields := #[]
  methods := #[k1m0, k1m1, k1m2, k1m3, k1m4]
  instanceTypes := #[]
  staticTypes := #[]
  resolved := Array.replicate 80 none
  statics := none }

def pool2 : Array CpInfo := pool [(1, .class_ 2), (0, u "java/io/Serializable"), (0, .class_ 4), (0, u "java/lang/Object")] 2

/-- java/io/Serializable -/
def k2 : Class := { plain "java/io/Serializable" (some 0) with
  accessFlags := 1537
  interfaces := #[]
  cf := some (fileOf pool2 1 #[] #[] 1537 3 #[] #[])
  fields := #[]
  methods := #[]
  instanceTypes := #[]
  staticTypes := #[]
  resolved := Array.replicate 7 none
  statics := none }

def pool3 : Array CpInfo := pool [(1, .class_ 2), (0, u "java/lang/Comparable"), (0, .class_ 4), (0, u "java/lang/Object")] 7

/-- java/lang/Comparable -/
def k3 : Class := { plain "java/lang/Comparable" (some 0) with
  accessFlags := 1537
  interfaces := #[]
  cf := some (fileOf pool3 1 #[] #[] 1537 3 #[] #[])
  fields := #[]
  methods := #[]
  instanceTypes := #[]
  staticTypes := #[]
  resolved := Array.replicate 12 none
  statics := none }

def pool4 : Array CpInfo := pool [(2, .class_ 4), (1, u "java/lang/CharSequence"), (42, .class_ 48), (0, u "java/lang/CharSequence$1CodePointIterator"), (10, .class_ 60), (0, u "java/lang/CharSequence$1CharIterator"), (5, .class_ 67), (0, u "java/lang/Object")] 63

/-- java/lang/CharSequence -/
def k4 : Class := { plain "java/lang/CharSequence" (some 0) with
  accessFlags := 1537
  interfaces := #[]
  cf := some (fileOf pool4 2 #[.nestMembers #[47, 59]] #[] 1537 66 #[] #[])
  fields := #[]
  methods := #[]
  instanceTypes := #[]
  staticTypes := #[]
  resolved := Array.replicate 131 none
  statics := none }

def pool5 : Array CpInfo := pool [(1, .class_ 2), (0, u "java/lang/constant/Constable"), (0, .class_ 4), (0, u "java/lang/Object")] 6

/-- java/lang/constant/Constable -/
def k5 : Class := { plain "java/lang/constant/Constable" (some 0) with
  accessFlags := 1537
  interfaces := #[]
  cf := some (fileOf pool5 1 #[] #[] 1537 3 #[] #[])
  fields := #[]
  methods := #[]
  instanceTypes := #[]
  staticTypes := #[]
  resolved := Array.replicate 11 none
  statics := none }

def pool6 : Array CpInfo := pool [(1, .class_ 2), (0, u "java/lang/constant/ConstantDesc"), (0, .class_ 4), (0, u "java/lang/Object")] 32

/-- java/lang/constant/ConstantDesc -/
def k6 : Class := { plain "java/lang/constant/ConstantDesc" (some 0) with
  accessFlags := 1537
  interfaces := #[]
  cf := some (fileOf pool6 1 #[] #[] 1537 3 #[] #[])
  fields := #[]
  methods := #[]
  instanceTypes := #[]
  staticTypes := #[]
  resolved := Array.replicate 37 none
  statics := none }

def pool7 : Array CpInfo := pool [(1, .methodref 2 3), (0, .class_ 4), (0, .nameAndType 5 6), (0, u "java/lang/Object"), (0, u "<init>"), (0, u "()V"), (0, .string 8), (0, u ""), (0, .fieldref 10 11), (0, .class_ 12), (0, .nameAndType 13 14), (0, u "java/lang/String"), (0, u "value"), (0, u "[B"), (0, .fieldref 10 16), (0, .nameAndType 17 18), (0, u "coder"), (0, u "B"), (2, u "hash"), (0, u "I"), (2, u "hashIsZero"), (0, u "Z"), (0, .methodref 10 28), (0, .nameAndType 5 29), (0, u "([CIILjava/lang/Void;)V"), (8, .fieldref 10 39), (0, .nameAndType 40 26), (0, u "COMPACT_STRINGS"), (1, .class_ 44), (1, u "java/lang/StringUTF16"), (0, u "compress"), (1, .methodref 42 48), (0, .nameAndType 49 50), (0, u "coderFromArrayLen"), (0, u "([BI)B"), (56, .class_ 109), (1, u "java/lang/StringLatin1"), (32, u "()Z"), (34, .methodref 42 178), (0, .nameAndType 45 179), (0, u "([CII)[B"), (154, u "()I"), (0, .methodref 10 336), (0, .nameAndType 17 337), (0, u "()B"), (25, u "([BI)C"), (27, u "(II)V"), (35, u "(I)C"), (64, .methodref 10 493), (0, .nameAndType 494 142), (0, u "isLatin1"), (0, .methodref 107 496), (0, .nameAndType 497 363), (0, u "charAt"), (3, u "checkIndex"), (5, u "length"), (33, .methodref 107 542), (0, .nameAndType 543 544), (0, u "equals"), (0, u "([B[B)Z"), (28, u "(Ljava/lang/Object;)Z"), (1, .class_ 576), (0, u "java/lang/CharSequence"), (22, u "CASE_INSENSITIVE_ORDER"), (0, u "Ljava/util/Comparator;"), (409, u "([C)V"), (42, .fieldref 1054 1055), (0, .class_ 1056), (0, .nameAndType 1057 1058), (0, u "jdk/internal/util/Preconditions"), (0, u "SIOOBE_FORMATTER"), (0, u "Ljava/util/function/BiFunction;"), (0, .methodref 1054 1060), (0, .nameAndType 501 1061), (0, u "(IILjava/util/function/BiFunction;)I"), (39, u "serialPersistentFields"), (0, u "[Ljava/io/ObjectStreamField;"), (0, .class_ 1104), (0, u "java/lang/String$CaseInsensitiveComparator"), (1, .class_ 1107), (0, u "java/io/Serializable"), (0, .class_ 1109), (0, u "java/lang/Comparable"), (0, .class_ 1111), (0, u "java/lang/constant/Constable"), (0, .class_ 1113), (0, u "java/lang/constant/ConstantDesc"), (2, u "serialVersionUID"), (0, u "J"), (3, u "REPL"), (0, u "C"), (2, u "LATIN1"), (1, u "UTF16")] 323

def k7m0 : Method := { name := "<init>", desc := "()V", sig := { parameters := [], returnType := none }, accessFlags := 1, code := none }
def k7c1 : Code := { maxStack := 5, maxLocals := 2, code := jdk_42_method_3_code, exceptionTable := #[], attributes := #[] }
def k7m1 : Method := { name := "<init>", desc := "([C)V", sig := { parameters := [(.array .char)], returnType := none }, accessFlags := 1, code := some k7c1 }
def k7c2 : Code := { maxStack := 2, maxLocals := 1, code := jdk_42_method_54_code, exceptionTable := #[], attributes := #[] }
def k7m2 : Method := { name := "length", desc := "()I", sig := { parameters := [], returnType := some .int }, accessFlags := 1, code := some k7c2 }
def k7c3 : Code := { maxStack := 2, maxLocals := 2, code := jdk_42_method_56_code, exceptionTable := #[], attributes := #[] }
def k7m3 : Method := { name := "charAt", desc := "(I)C", sig := { parameters := [.int], returnType := some .char }, accessFlags := 1, code := some k7c3 }
def k7c4 : Code := { maxStack := 2, maxLocals := 3, code := jdk_42_method_66_code, exceptionTable := #[], attributes := #[] }
def k7m4 : Method := { name := "equals", desc := "(Ljava/lang/Object;)Z", sig := { parameters := [(.object "java/lang/Object")], returnType := some .boolean }, accessFlags := 1, code := some k7c4 }
def k7c5 : Code := { maxStack := 4, maxLocals := 6, code := jdk_42_method_149_code, exceptionTable := #[], attributes := #[] }
def k7m5 : Method := { name := "<init>", desc := "([CIILjava/lang/Void;)V", sig := { parameters := [(.array .char), .int, .int, (.object "java/lang/Void")], returnType := none }, accessFlags := 2, code := some k7c5 }
def k7c6 : Code := { maxStack := 1, maxLocals := 1, code := jdk_42_method_152_code, exceptionTable := #[], attributes := #[] }
def k7m6 : Method := { name := "coder", desc := "()B", sig := { parameters := [], returnType := some .byte }, accessFlags := 0, code := some k7c6 }
def k7c7 : Code := { maxStack := 1, maxLocals := 1, code := jdk_42_method_154_code, exceptionTable := #[], attributes := #[] }
def k7m7 : Method := { name := "isLatin1", desc := "()Z", sig := { parameters := [], returnType := some .boolean }, accessFlags := 0, code := some k7c7 }
def k7c8 : Code := { maxStack := 3, maxLocals := 2, code := jdk_42_method_155_code, exceptionTable := #[], attributes := #[] }
def k7m8 : Method := { name := "checkIndex", desc := "(II)V", sig := { parameters := [.int, .int], returnType := none }, accessFlags := 8, code := some k7c8 }
/-- java/lang/String -/
def k7 : Class := { plain "java/lang/String" (some 0) with
  accessFlags := 49
  interfaces := #[2, 3, 4, 5, 6]
  cf := some (fileOf pool7 10 #[.nestMembers #[1103]] #[{ accessFlags := 1, nameIndex := 5, descriptorIndex := 6, attributes := #[] }, { accessFlags := 1, nameIndex := 5, descriptorIndex := 1010, attributes := #[] }, { accessFlags := 1, nameIndex := 507, descriptorIndex := 334, attributes := #[] }, { accessFlags := 1, nameIndex := 497, descriptorIndex := 427, attributes := #[] }, { accessFlags := 1, nameIndex := 543, descriptorIndex := 573, attributes := #[] }, { accessFlags := 2, nameIndex := 5, descriptorIndex := 29, attributes := #[] }, { accessFlags := 0, nameIndex := 17, descriptorIndex := 337, attributes := #[] }, { accessFlags := 0, nameIndex := 494, descriptorIndex := 142, attributes := #[] }, { accessFlags := 8, nameIndex := 501, descriptorIndex := 391, attributes := #[] }] 49 2 #[1106, 1108, 575, 1110, 1112] #[{ accessFlags := 18, nameIndex := 13, descriptorIndex := 14, attributes := #[] }, { accessFlags := 18, nameIndex := 17, descriptorIndex := 18, attributes := #[] }, { accessFlags := 2, nameIndex := 21, descriptorIndex := 22, attributes := #[] }, { accessFlags := 2, nameIndex := 25, descriptorIndex := 26, attributes := #[] }, { accessFlags := 26, nameIndex := 1116, descriptorIndex := 1117, attributes := #[] }, { accessFlags := 24, nameIndex := 40, descriptorIndex := 26, attributes := #[] }, { accessFlags := 26, nameIndex := 1101, descriptorIndex := 1102, attributes := #[] }, { accessFlags := 26, nameIndex := 1121, descriptorIndex := 1122, attributes := #[] }, { accessFlags := 25, nameIndex := 599, descriptorIndex := 600, attributes := #[] }, { accessFlags := 24, nameIndex := 1125, descriptorIndex := 18, attributes := #[] }, { accessFlags := 24, nameIndex := 1127, descriptorIndex := 18, attributes := #[] }])
  fields := #[{ name := "value", type := (.array .byte), accessFlags := 18, slot := 0, constantValue := 0 }, { name := "coder", type := .byte, accessFlags := 18, slot := 1, constantValue := 0 }, { name := "hash", type := .int, accessFlags := 2, slot := 2, constantValue := 0 }, { name := "hashIsZero", type := .boolean, accessFlags := 2, slot := 3, constantValue := 0 }, { name := "serialVersionUID", type := .long, accessFlags := 26, slot := 0, constantValue := 0 }, { name := "COMPACT_STRINGS", type := .boolean, accessFlags := 24, slot := 1, constantValue := 0 }, { name := "serialPersistentFields", type := (.array (.object "java/io/ObjectStreamField")), accessFlags := 26, slot := 2, constantValue := 0 }, { name := "REPL", type := .char, accessFlags := 26, slot := 3, constantValue := 0 }, { name := "CASE_INSENSITIVE_ORDER", type := (.object "java/util/Comparator"), accessFlags := 25, slot := 4, constantValue := 0 }, { name := "LATIN1", type := .byte, accessFlags := 24, slot := 5, constantValue := 0 }, { name := "UTF16", type := .byte, accessFlags := 24, slot := 6, constantValue := 0 }]
  methods := #[k7m0, k7m1, k7m2, k7m3, k7m4, k7m5, k7m6, k7m7, k7m8]
  instanceTypes := #[(.array .byte), .byte, .int, .boolean]
  staticTypes := #[.long, .boolean, (.array (.object "java/io/ObjectStreamField")), .char, (.object "java/util/Comparator"), .byte, .byte]
  resolved := Array.replicate 1451 none
  statics := some 0 }

def pool8 : Array CpInfo := pool [(2, .class_ 4), (1, u "java/lang/Enum"), (0, u "name"), (0, u "Ljava/lang/String;"), (2, u "ordinal"), (0, u "I"), (1, .class_ 14), (1, u "java/lang/Object"), (4, u "hash"), (86, .class_ 108), (1, u "java/lang/Enum$EnumDesc"), (2, .class_ 112), (0, u "java/lang/constant/Constable"), (0, .class_ 114), (0, u "java/lang/Comparable"), (0, .class_ 116), (0, u "java/io/Serializable")] 87

/-- java/lang/Enum -/
def k8 : Class := { plain "java/lang/Enum" (some 0) with
  accessFlags := 1057
  interfaces := #[5, 3, 2]
  cf := some (fileOf pool8 2 #[.nestMembers #[106]] #[] 1057 12 #[111, 113, 115] #[{ accessFlags := 18, nameIndex := 5, descriptorIndex := 6, attributes := #[] }, { accessFlags := 18, nameIndex := 9, descriptorIndex := 10, attributes := #[] }, { accessFlags := 2, nameIndex := 19, descriptorIndex := 10, attributes := #[] }])
  fields := #[{ name := "name", type := (.object "java/lang/String"), accessFlags := 18, slot := 0, constantValue := 0 }, { name := "ordinal", type := .int, accessFlags := 18, slot := 1, constantValue := 0 }, { name := "hash", type := .int, accessFlags := 2, slot := 2, constantValue := 0 }]
  methods := #[]
  instanceTypes := #[(.object "java/lang/String"), .int, .int]
  staticTypes := #[]
  resolved := Array.replicate 204 none
  statics := none }

def pool9 : Array CpInfo := pool [(1, .class_ 2), (0, u "com/example/coyote_hill/coyotehill/ItemState"), (2, u "READY"), (0, u "Lcom/example/coyote_hill/coyotehill/ItemState;"), (2, u "LEASED"), (2, u "DONE"), (2, u "FAILED"), (0, .fieldref 1 17), (0, .nameAndType 18 19), (0, u "$VALUES"), (0, u "[Lcom/example/coyote_hill/coyotehill/ItemState;"), (0, .methodref 21 22), (0, .class_ 19), (0, .nameAndType 23 24), (0, u "clone"), (0, u "()Ljava/lang/Object;"), (1, .class_ 28), (1, u "java/lang/Enum"), (6, .fieldref 1 36), (0, .nameAndType 37 38), (0, u "_name"), (0, u "Ljava/lang/String;"), (0, .methodref 1 40), (0, .nameAndType 41 42), (0, u "values"), (0, u "()[Lcom/example/coyote_hill/coyotehill/ItemState;"), (0, .methodref 44 45), (0, .class_ 46), (0, .nameAndType 47 48), (0, u "java/lang/String"), (0, u "equals"), (0, u "(Ljava/lang/Object;)Z"), (20, u "(Ljava/lang/String;)Lcom/example/coyote_hill/coyotehill/ItemState;"), (3, u "getName"), (0, u "()Ljava/lang/String;"), (0, u "fromName")] 6

def k9c0 : Code := { maxStack := 1, maxLocals := 0, code := prog_6_method_1_code, exceptionTable := #[], attributes := #[] }
def k9m0 : Method := { name := "values", desc := "()[Lcom/example/coyote_hill/coyotehill/ItemState;", sig := { parameters := [], returnType := some (.array (.object "com/example/coyote_hill/coyotehill/ItemState")) }, accessFlags := 9, code := some k9c0 }
def k9c1 : Code := { maxStack := 1, maxLocals := 1, code := prog_6_method_4_code, exceptionTable := #[], attributes := #[] }
def k9m1 : Method := { name := "getName", desc := "()Ljava/lang/String;", sig := { parameters := [], returnType := some (.object "java/lang/String") }, accessFlags := 1, code := some k9c1 }
def k9c2 : Code := { maxStack := 2, maxLocals := 6, code := prog_6_method_5_code, exceptionTable := #[], attributes := #[] }
def k9m2 : Method := { name := "fromName", desc := "(Ljava/lang/String;)Lcom/example/coyote_hill/coyotehill/ItemState;", sig := { parameters := [(.object "java/lang/String")], returnType := some (.object "com/example/coyote_hill/coyotehill/ItemState") }, accessFlags := 9, code := some k9c2 }
/-- com/example/coyote_hill/coyotehill/ItemState -/
def k9 : Class := { plain "com/example/coyote_hill/coyotehill/ItemState" (some 8) with
  accessFlags := 16433
  interfaces := #[]
  cf := some (fileOf pool9 1 #[] #[{ accessFlags := 9, nameIndex := 41, descriptorIndex := 42, attributes := #[] }, { accessFlags := 1, nameIndex := 73, descriptorIndex := 74, attributes := #[] }, { accessFlags := 9, nameIndex := 75, descriptorIndex := 69, attributes := #[] }] 16433 26 #[] #[{ accessFlags := 16409, nameIndex := 5, descriptorIndex := 6, attributes := #[] }, { accessFlags := 16409, nameIndex := 9, descriptorIndex := 6, attributes := #[] }, { accessFlags := 16409, nameIndex := 12, descriptorIndex := 6, attributes := #[] }, { accessFlags := 16409, nameIndex := 15, descriptorIndex := 6, attributes := #[] }, { accessFlags := 18, nameIndex := 37, descriptorIndex := 38, attributes := #[] }, { accessFlags := 4122, nameIndex := 18, descriptorIndex := 19, attributes := #[] }])
  fields := #[{ name := "READY", type := (.object "com/example/coyote_hill/coyotehill/ItemState"), accessFlags := 16409, slot := 0, constantValue := 0 }, { name := "LEASED", type := (.object "com/example/coyote_hill/coyotehill/ItemState"), accessFlags := 16409, slot := 1, constantValue := 0 }, { name := "DONE", type := (.object "com/example/coyote_hill/coyotehill/ItemState"), accessFlags := 16409, slot := 2, constantValue := 0 }, { name := "FAILED", type := (.object "com/example/coyote_hill/coyotehill/ItemState"), accessFlags := 16409, slot := 3, constantValue := 0 }, { name := "_name", type := (.object "java/lang/String"), accessFlags := 18, slot := 3, constantValue := 0 }, { name := "$VALUES", type := (.array (.object "com/example/coyote_hill/coyotehill/ItemState")), accessFlags := 4122, slot := 4, constantValue := 0 }]
  methods := #[k9m0, k9m1, k9m2]
  instanceTypes := #[(.object "java/lang/String"), .int, .int, (.object "java/lang/String")]
  staticTypes := #[(.object "com/example/coyote_hill/coyotehill/ItemState"), (.object "com/example/coyote_hill/coyotehill/ItemState"), (.object "com/example/coyote_hill/coyotehill/ItemState"), (.object "com/example/coyote_hill/coyotehill/ItemState"), (.array (.object "com/example/coyote_hill/coyotehill/ItemState"))]
  resolved := Array.replicate 82 none
  statics := some 1 }

def pool10 : Array CpInfo := pool [(6, .class_ 8), (1, u "java/lang/Object"), (0, u "<init>"), (0, u "()V"), (1, .class_ 14), (1, u "java/lang/StringUTF16"), (31, u "$assertionsDisabled"), (0, u "Z"), (13, u "HI_BYTE_SHIFT"), (0, u "I"), (2, u "LO_BYTE_SHIFT"), (49, .methodref 12 116), (0, .nameAndType 117 118), (0, u "compress"), (0, u "([CI[BII)I"), (3, u "([CII)[B"), (138, u "coderFromArrayLen"), (0, u "([BI)B"), (106, .class_ 371), (1, u "java/lang/StringUTF16$LinesSpliterator"), (58, u "MAX_LENGTH"), (196, .class_ 628), (0, u "java/lang/StringUTF16$CodePointsSpliterator"), (0, .class_ 630), (0, u "java/lang/StringUTF16$CharsSpliterator")] 4

def k10m0 : Method := { name := "<init>", desc := "()V", sig := { parameters := [], returnType := none }, accessFlags := 0, code := none }
def k10c1 : Code := { maxStack := 2, maxLocals := 2, code := jdk_52_method_15_code, exceptionTable := #[], attributes := #[] }
def k10m1 : Method := { name := "coderFromArrayLen", desc := "([BI)B", sig := { parameters := [(.array .byte), .int], returnType := some .byte }, accessFlags := 8, code := some k10c1 }
def k10c2 : Code := { maxStack := 5, maxLocals := 6, code := jdk_52_method_16_code, exceptionTable := #[], attributes := #[] }
def k10m2 : Method := { name := "compress", desc := "([CII)[B", sig := { parameters := [(.array .char), .int, .int], returnType := some (.array .byte) }, accessFlags := 9, code := some k10c2 }
def k10c3 : Code := { maxStack := 3, maxLocals := 7, code := jdk_52_method_21_code, exceptionTable := #[], attributes := #[] }
def k10m3 : Method := { name := "compress", desc := "([CI[BII)I", sig := { parameters := [(.array .char), .int, (.array .byte), .int, .int], returnType := some .int }, accessFlags := 9, code := some k10c3 }
/-- java/lang/StringUTF16 -/
def k10 : Class := { plain "java/lang/StringUTF16" (some 0) with
  accessFlags := 48
  interfaces := #[]
  cf := some (fileOf pool10 12 #[.nestMembers #[627, 629, 369]] #[{ accessFlags := 0, nameIndex := 9, descriptorIndex := 10, attributes := #[] }, { accessFlags := 8, nameIndex := 261, descriptorIndex := 262, attributes := #[] }, { accessFlags := 9, nameIndex := 117, descriptorIndex := 122, attributes := #[] }, { accessFlags := 9, nameIndex := 117, descriptorIndex := 118, attributes := #[] }] 48 6 #[] #[{ accessFlags := 26, nameIndex := 61, descriptorIndex := 62, attributes := #[] }, { accessFlags := 26, nameIndex := 65, descriptorIndex := 62, attributes := #[] }, { accessFlags := 24, nameIndex := 430, descriptorIndex := 62, attributes := #[] }, { accessFlags := 4120, nameIndex := 46, descriptorIndex := 47, attributes := #[] }])
  fields := #[{ name := "HI_BYTE_SHIFT", type := .int, accessFlags := 26, slot := 0, constantValue := 0 }, { name := "LO_BYTE_SHIFT", type := .int, accessFlags := 26, slot := 1, constantValue := 0 }, { name := "MAX_LENGTH", type := .int, accessFlags := 24, slot := 2, constantValue := 0 }, { name := "$assertionsDisabled", type := .boolean, accessFlags := 4120, slot := 3, constantValue := 0 }]
  methods := #[k10m0, k10m1, k10m2, k10m3]
  instanceTypes := #[]
  staticTypes := #[.int, .int, .int, .boolean]
  resolved := Array.replicate 635 none
  statics := none }

def pool11 : Array CpInfo := pool [(1, .class_ 2), (0, u "java/lang/String"), (1, .class_ 6), (1, u "java/lang/Object"), (0, u "<init>"), (0, u "()V"), (0, .methodref 1 10), (0, .nameAndType 11 12), (0, u "checkIndex"), (0, u "(II)V"), (1, .class_ 16), (1, u "java/lang/StringLatin1"), (36, u "([BI)C"), (67, u "$assertionsDisabled"), (0, u "Z"), (98, .class_ 223), (1, u "java/lang/StringLatin1$LinesSpliterator"), (28, u "charAt"), (28, u "equals"), (0, u "([B[B)Z"), (107, .class_ 391), (0, u "java/lang/StringLatin1$CharsSpliterator")] 3

def k11m0 : Method := { name := "<init>", desc := "()V", sig := { parameters := [], returnType := none }, accessFlags := 0, code := none }
def k11c1 : Code := { maxStack := 2, maxLocals := 2, code := jdk_43_method_2_code, exceptionTable := #[], attributes := #[] }
def k11m1 : Method := { name := "charAt", desc := "([BI)C", sig := { parameters := [(.array .byte), .int], returnType := some .char }, accessFlags := 9, code := some k11c1 }
def k11c2 : Code := { maxStack := 3, maxLocals := 3, code := jdk_43_method_13_code, exceptionTable := #[], attributes := #[] }
def k11m2 : Method := { name := "equals", desc := "([B[B)Z", sig := { parameters := [(.array .byte), (.array .byte)], returnType := some .boolean }, accessFlags := 9, code := some k11c2 }
/-- java/lang/StringLatin1 -/
def k11 : Class := { plain "java/lang/StringLatin1" (some 0) with
  accessFlags := 48
  interfaces := #[]
  cf := some (fileOf pool11 14 #[.nestMembers #[390, 221]] #[{ accessFlags := 0, nameIndex := 7, descriptorIndex := 8, attributes := #[] }, { accessFlags := 9, nameIndex := 252, descriptorIndex := 53, attributes := #[] }, { accessFlags := 9, nameIndex := 281, descriptorIndex := 282, attributes := #[] }] 48 4 #[] #[{ accessFlags := 4120, nameIndex := 121, descriptorIndex := 122, attributes := #[] }])
  fields := #[{ name := "$assertionsDisabled", type := .boolean, accessFlags := 4120, slot := 0, constantValue := 0 }]
  methods := #[k11m0, k11m1, k11m2]
  instanceTypes := #[]
  staticTypes := #[.boolean]
  resolved := Array.replicate 395 none
  statics := none }

def pool12 : Array CpInfo := pool [(1, .class_ 2), (0, u "java/lang/Cloneable"), (0, .class_ 4), (0, u "java/lang/Object")] 2

/-- java/lang/Cloneable -/
def k12 : Class := { plain "java/lang/Cloneable" (some 0) with
  accessFlags := 1537
  interfaces := #[]
  cf := some (fileOf pool12 1 #[] #[] 1537 3 #[] #[])
  fields := #[]
  methods := #[]
  instanceTypes := #[]
  staticTypes := #[]
  resolved := Array.replicate 7 none
  statics := none }

def pool13 : Array CpInfo := pool [(2, .class_ 4), (1, u "java/lang/Object"), (0, u "<init>"), (0, u "()V"), (17, .class_ 26), (1, u "jdk/internal/util/Preconditions"), (6, u "checkIndex"), (21, .class_ 56), (0, u "jdk/internal/util/Preconditions$4"), (57, .class_ 115), (0, u "jdk/internal/util/Preconditions$1"), (7, u "SIOOBE_FORMATTER"), (0, u "Ljava/util/function/BiFunction;"), (0, .class_ 126), (0, u "jdk/internal/util/Preconditions$2"), (3, u "AIOOBE_FORMATTER"), (0, .class_ 132), (0, u "jdk/internal/util/Preconditions$3"), (3, u "IOOBE_FORMATTER"), (41, u "(IILjava/util/function/BiFunction;)I")] 15

def k13m0 : Method := { name := "<init>", desc := "()V", sig := { parameters := [], returnType := none }, accessFlags := 1, code := none }
def k13c1 : Code := { maxStack := 3, maxLocals := 3, code := jdk_41_method_11_code, exceptionTable := #[], attributes := #[] }
def k13m1 : Method := { name := "checkIndex", desc := "(IILjava/util/function/BiFunction;)I", sig := { parameters := [.int, .int, (.object "java/util/function/BiFunction")], returnType := some .int }, accessFlags := 9, code := some k13c1 }
/-- jdk/internal/util/Preconditions -/
def k13 : Class := { plain "jdk/internal/util/Preconditions" (some 0) with
  accessFlags := 33
  interfaces := #[]
  cf := some (fileOf pool13 24 #[.nestMembers #[55, 131, 125, 114]] #[{ accessFlags := 1, nameIndex := 5, descriptorIndex := 6, attributes := #[] }, { accessFlags := 9, nameIndex := 33, descriptorIndex := 178, attributes := #[] }] 33 2 #[] #[{ accessFlags := 25, nameIndex := 123, descriptorIndex := 124, attributes := #[] }, { accessFlags := 25, nameIndex := 130, descriptorIndex := 124, attributes := #[] }, { accessFlags := 25, nameIndex := 136, descriptorIndex := 124, attributes := #[] }])
  fields := #[{ name := "SIOOBE_FORMATTER", type := (.object "java/util/function/BiFunction"), accessFlags := 25, slot := 0, constantValue := 0 }, { name := "AIOOBE_FORMATTER", type := (.object "java/util/function/BiFunction"), accessFlags := 25, slot := 1, constantValue := 0 }, { name := "IOOBE_FORMATTER", type := (.object "java/util/function/BiFunction"), accessFlags := 25, slot := 2, constantValue := 0 }]
  methods := #[k13m0, k13m1]
  instanceTypes := #[]
  staticTypes := #[(.object "java/util/function/BiFunction"), (.object "java/util/function/BiFunction"), (.object "java/util/function/BiFunction")]
  resolved := Array.replicate 194 none
  statics := some 2 }

def pool14 : Array CpInfo := pool [(9, u "<init>"), (6, .class_ 18), (1, u "java/lang/Object"), (0, u "()V"), (1, .class_ 23), (1, u "jdk/internal/util/ArraysSupport"), (0, u "LOG2_ARRAY_LONG_INDEX_SCALE"), (0, u "I"), (2, u "U"), (0, u "Ljdk/internal/misc/Unsafe;"), (8, u "BIG_ENDIAN"), (0, u "Z"), (8, u "LOG2_BYTE_BIT_SIZE"), (4, u "LOG2_ARRAY_INT_INDEX_SCALE"), (54, u "JLA"), (0, u "Ljdk/internal/access/JavaLangAccess;"), (11, u "LOG2_ARRAY_BOOLEAN_INDEX_SCALE"), (9, u "LOG2_ARRAY_BYTE_INDEX_SCALE"), (5, u "LOG2_ARRAY_CHAR_INDEX_SCALE"), (5, u "LOG2_ARRAY_SHORT_INDEX_SCALE"), (18, u "LOG2_ARRAY_FLOAT_INDEX_SCALE"), (24, u "LOG2_ARRAY_DOUBLE_INDEX_SCALE"), (89, u "T_BOOLEAN"), (2, u "T_CHAR"), (1, u "T_FLOAT"), (1, u "T_DOUBLE"), (1, u "T_BYTE"), (1, u "T_SHORT"), (1, u "T_INT"), (1, u "T_LONG"), (1, u "SOFT_MAX_ARRAY_LENGTH")] 83

def k14m0 : Method := { name := "<init>", desc := "()V", sig := { parameters := [], returnType := none }, accessFlags := 2, code := none }
/-- jdk/internal/util/ArraysSupport -/
def k14 : Class := { plain "jdk/internal/util/ArraysSupport" (some 0) with
  accessFlags := 33
  interfaces := #[]
  cf := some (fileOf pool14 21 #[] #[{ accessFlags := 2, nameIndex := 9, descriptorIndex := 19, attributes := #[] }] 33 16 #[] #[{ accessFlags := 24, nameIndex := 28, descriptorIndex := 29, attributes := #[] }, { accessFlags := 26, nameIndex := 38, descriptorIndex := 39, attributes := #[] }, { accessFlags := 25, nameIndex := 121, descriptorIndex := 25, attributes := #[] }, { accessFlags := 25, nameIndex := 131, descriptorIndex := 25, attributes := #[] }, { accessFlags := 25, nameIndex := 137, descriptorIndex := 25, attributes := #[] }, { accessFlags := 25, nameIndex := 143, descriptorIndex := 25, attributes := #[] }, { accessFlags := 25, nameIndex := 53, descriptorIndex := 25, attributes := #[] }, { accessFlags := 25, nameIndex := 24, descriptorIndex := 25, attributes := #[] }, { accessFlags := 25, nameIndex := 162, descriptorIndex := 25, attributes := #[] }, { accessFlags := 25, nameIndex := 187, descriptorIndex := 25, attributes := #[] }, { accessFlags := 26, nameIndex := 48, descriptorIndex := 25, attributes := #[] }, { accessFlags := 25, nameIndex := 277, descriptorIndex := 25, attributes := #[] }, { accessFlags := 25, nameIndex := 280, descriptorIndex := 25, attributes := #[] }, { accessFlags := 25, nameIndex := 282, descriptorIndex := 25, attributes := #[] }, { accessFlags := 25, nameIndex := 284, descriptorIndex := 25, attributes := #[] }, { accessFlags := 25, nameIndex := 286, descriptorIndex := 25, attributes := #[] }, { accessFlags := 25, nameIndex := 288, descriptorIndex := 25, attributes := #[] }, { accessFlags := 25, nameIndex := 290, descriptorIndex := 25, attributes := #[] }, { accessFlags := 25, nameIndex := 292, descriptorIndex := 25, attributes := #[] }, { accessFlags := 26, nameIndex := 108, descriptorIndex := 109, attributes := #[] }, { accessFlags := 25, nameIndex := 294, descriptorIndex := 25, attributes := #[] }])
  fields := #[{ name := "U", type := (.object "jdk/internal/misc/Unsafe"), accessFlags := 24, slot := 0, constantValue := 0 }, { name := "BIG_ENDIAN", type := .boolean, accessFlags := 26, slot := 1, constantValue := 0 }, { name := "LOG2_ARRAY_BOOLEAN_INDEX_SCALE", type := .int, accessFlags := 25, slot := 2, constantValue := 0 }, { name := "LOG2_ARRAY_BYTE_INDEX_SCALE", type := .int, accessFlags := 25, slot := 3, constantValue := 0 }, { name := "LOG2_ARRAY_CHAR_INDEX_SCALE", type := .int, accessFlags := 25, slot := 4, constantValue := 0 }, { name := "LOG2_ARRAY_SHORT_INDEX_SCALE", type := .int, accessFlags := 25, slot := 5, constantValue := 0 }, { name := "LOG2_ARRAY_INT_INDEX_SCALE", type := .int, accessFlags := 25, slot := 6, constantValue := 0 }, { name := "LOG2_ARRAY_LONG_INDEX_SCALE", type := .int, accessFlags := 25, slot := 7, constantValue := 0 }, { name := "LOG2_ARRAY_FLOAT_INDEX_SCALE", type := .int, accessFlags := 25, slot := 8, constantValue := 0 }, { name := "LOG2_ARRAY_DOUBLE_INDEX_SCALE", type := .int, accessFlags := 25, slot := 9, constantValue := 0 }, { name := "LOG2_BYTE_BIT_SIZE", type := .int, accessFlags := 26, slot := 10, constantValue := 0 }, { name := "T_BOOLEAN", type := .int, accessFlags := 25, slot := 11, constantValue := 0 }, { name := "T_CHAR", type := .int, accessFlags := 25, slot := 12, constantValue := 0 }, { name := "T_FLOAT", type := .int, accessFlags := 25, slot := 13, constantValue := 0 }, { name := "T_DOUBLE", type := .int, accessFlags := 25, slot := 14, constantValue := 0 }, { name := "T_BYTE", type := .int, accessFlags := 25, slot := 15, constantValue := 0 }, { name := "T_SHORT", type := .int, accessFlags := 25, slot := 16, constantValue := 0 }, { name := "T_INT", type := .int, accessFlags := 25, slot := 17, constantValue := 0 }, { name := "T_LONG", type := .int, accessFlags := 25, slot := 18, constantValue := 0 }, { name := "JLA", type := (.object "jdk/internal/access/JavaLangAccess"), accessFlags := 26, slot := 19, constantValue := 0 }, { name := "SOFT_MAX_ARRAY_LENGTH", type := .int, accessFlags := 25, slot := 20, constantValue := 0 }]
  methods := #[k14m0]
  instanceTypes := #[]
  staticTypes := #[(.object "jdk/internal/misc/Unsafe"), .boolean, .int, .int, .int, .int, .int, .int, .int, .int, .int, .int, .int, .int, .int, .int, .int, .int, .int, (.object "jdk/internal/access/JavaLangAccess"), .int]
  resolved := Array.replicate 378 none
  statics := none }

/-- the primitive byte -/
def k15 : Class := { plain "byte" none with kind := .primitive 'B', accessFlags := 0x411 }
/-- [B -/
def k16 : Class := { plain "[B" (some 0) with kind := .array 15 .byte, interfaces := #[12, 2], accessFlags := 1041 }

/-- the primitive char -/
def k17 : Class := { plain "char" none with kind := .primitive 'C', accessFlags := 0x411 }
/-- [C -/
def k18 : Class := { plain "[C" (some 0) with kind := .array 17 .char, interfaces := #[12, 2], accessFlags := 1041 }

/-- the primitive int -/
def k19 : Class := { plain "int" none with kind := .primitive 'I', accessFlags := 0x411 }
/-- [I -/
def k20 : Class := { plain "[I" (some 0) with kind := .array 19 .int, interfaces := #[12, 2], accessFlags := 1041 }

/-- [Lcom/example/coyote_hill/coyotehill/ItemState; -/
def k21 : Class := { plain "[Lcom/example/coyote_hill/coyotehill/ItemState;" (some 0) with kind := .array 9 (.object "com/example/coyote_hill/coyotehill/ItemState"), interfaces := #[12, 2], accessFlags := 1041 }

def heap : Heap := #[{ cls := 7, slots := #[.long 0, .int 1, .null, .int 0, .null, .int 0, .int 0], vm := .statics 7 },
  { cls := 9, slots := #[.ref 4, .ref 5, .ref 6, .ref 7, .ref 3], vm := .statics 9 },
  { cls := 13, slots := #[.null, .null, .null], vm := .statics 13 },
  { cls := 21, slots := #[.ref 4, .ref 5, .ref 6, .ref 7], vm := .none },
  { cls := 9, slots := #[.null, .int 0, .int 0, .ref 8], vm := .none },
  { cls := 9, slots := #[.null, .int 1, .int 0, .ref 9], vm := .none },
  { cls := 9, slots := #[.null, .int 2, .int 0, .ref 10], vm := .none },
  { cls := 9, slots := #[.null, .int 3, .int 0, .ref 11], vm := .none },
  { cls := 7, slots := #[.ref 12, .int 0, .int 0, .int 0], vm := .none },
  { cls := 7, slots := #[.ref 13, .int 0, .int 0, .int 0], vm := .none },
  { cls := 7, slots := #[.ref 14, .int 0, .int 0, .int 0], vm := .none },
  { cls := 7, slots := #[.ref 15, .int 0, .int 0, .int 0], vm := .none },
  { cls := 16, slots := #[.int 114, .int 101, .int 97, .int 100, .int 121], vm := .none },
  { cls := 16, slots := #[.int 108, .int 101, .int 97, .int 115, .int 101, .int 100], vm := .none },
  { cls := 16, slots := #[.int 100, .int 111, .int 110, .int 101], vm := .none },
  { cls := 16, slots := #[.int 102, .int 97, .int 105, .int 108, .int 101, .int 100], vm := .none }]
def classes : Array Class := #[k0, k1, k2, k3, k4, k5, k6, k7, k8, k9, k10, k11, k12, k13, k14, k15, k16, k17, k18, k19, k20, k21]
def interned : List (Array UInt16 × Addr) := []
def slotsUsed : Nat := 72
def theMethod : MethodId := ⟨1, 1⟩
def args0 : Array Value := #[.int 5, .int 5, .int 5, .int 5, .long 5]
def aboutOver (below : List Frame) : State where
  vm := { classes := classes, interned := interned.toArray }
  heap := heap
  slotsUsed := slotsUsed
  threads := #[{ frames := .invoking theMethod args0 :: below }]
def below0 : List Frame := [.native { method := ⟨0, 0⟩, args := #[] }]
def about1 : State := aboutOver below0
def p0 : Program := .bare "" "" ""
def e0 : Env := launch0.env 0 0 0
theorem w_frames : about1.frames = Frame.invoking theMethod args0 :: below0 := rfl
set_option maxRecDepth 65536 in
theorem w_args : argsFit about1.vm theMethod args0 = true := by decide +kernel
set_option maxRecDepth 65536 in
theorem w_heap : heapFits about1 = true := by decide +kernel
set_option maxRecDepth 65536 in
theorem w_runnable : about1.curStatus? = some .runnable := by decide +kernel
set_option maxRecDepth 65536 in
theorem w_alone : about1.alone = true := by decide +kernel
set_option maxRecDepth 65536 in
theorem w_named : about1.methodNamed? x = some theMethod := by decide +kernel
set_option maxRecDepth 65536 in
theorem w_hears : about1.hears theMethod below0 = true := by decide +kernel
set_option maxRecDepth 65536 in
theorem w_ripe : about1.ripe theMethod args0 below0 = true := by decide +kernel
theorem w_running : about1.status = .running := rfl
set_option maxRecDepth 65536 in
theorem w_room : about1.hasRoom e0.platform room_1 = true :=
  launch0.hasRoom_least _ room_1 (by decide +kernel) (by decide +kernel) (by decide +kernel) (by decide +kernel) (by decide +kernel) (by decide +kernel)
theorem allAtoms_all (ts : List Jvm.Cond) (a : Array Jvm.Value) (st : Jvm.State) : (allAtoms ts).before a st = ts.all (fun c => c.before a st) := by
  induction ts with
  | nil => rfl
  | cons c t ih =>
    show (Jvm.Cond.and c (allAtoms t)).before a st = _
    rw [Jvm.Cond.before_and, ih, List.all_cons]
def words1 : List Jvm.Cond := Jvm.Cond.code x code maxLocals ret :: tables_1
/-- a 'code' word, met by the world's own term for the bytes: nothing is compared byte by byte -/
theorem code_word {y : MethodName} {bytes : ByteArray} {mx : Nat} {rt : Option FieldType} {a : Array Value} {s : State} {m : MethodId} {meth : Method} {c : Code} (h1 : s.methodNamed? y = some m) (h2 : s.vm.method? m = some meth) (h3 : meth.code = some c) (h4 : c.code = bytes)
    (h5 : (c.maxLocals == mx && c.exceptionTable.isEmpty && decide (c.maxStack ≤ mostOperands) && decide (meth.sig.returnType = rt) && !meth.locks && decide (parseMethodDescriptor y.desc = some meth.sig)) = true) : (Jvm.Cond.code y bytes mx rt).before a s = true := by
  simp only [Bool.and_eq_true, beq_iff_eq, Bool.not_eq_true', decide_eq_true_eq] at h5
  obtain ⟨⟨⟨⟨⟨g1, g2⟩, g3⟩, g4⟩, g5⟩, g6⟩ := h5
  simp [Cond.before, Cond.holds, Cond.value, h1, h2, h3, h4, g1, g2, g3, g4, g5, g6]
def isCode : Jvm.Cond → Bool
  | .code _ _ _ _ => true
  | _ => false
theorem all_split {L : List Jvm.Cond} {P : Jvm.Cond → Bool} (h1 : L.all (fun c => isCode c || P c) = true) (h2 : ∀ c ∈ L.filter isCode, P c = true) : L.all P = true := by
  refine List.all_eq_true.mpr fun c hc => ?_
  have h := List.all_eq_true.mp h1 c hc
  rcases Bool.eq_false_or_eq_true (isCode c) with hi | hi
  · exact h2 c (List.mem_filter.mpr ⟨hc, hi⟩)
  · simpa [hi] using h
set_option maxRecDepth 65536 in
theorem w_c0 : (Jvm.Cond.code x code maxLocals ret).before args0 about1 = true := code_word (m := ⟨1, 1⟩) (meth := k1m1) (c := k1c1) (by decide +kernel) rfl rfl rfl (by decide +kernel)
set_option maxRecDepth 65536 in
theorem w_c1 : (Jvm.Cond.code ({ cls := "com/example/coyote_hill/coyotehill/ItemStateFromNamePinLaw", name := "pick", desc := "(IZLjava/lang/String;J)C" } : Jvm.MethodName) method_3_code (5 : Nat) (Option.some Jvm.ClassFile.FieldType.char)).before args0 about1 = true := code_word (m := ⟨1, 2⟩) (meth := k1m2) (c := k1c2) (by decide +kernel) rfl rfl rfl (by decide +kernel)
set_option maxRecDepth 65536 in
theorem w_c2 : (Jvm.Cond.code ({ cls := "com/example/coyote_hill/coyotehill/ItemStateFromNamePinLaw", name := "mk", desc := "(I[C)Ljava/lang/String;" } : Jvm.MethodName) method_4_code (2 : Nat) (Option.some (Jvm.ClassFile.FieldType.object "java/lang/String"))).before args0 about1 = true := code_word (m := ⟨1, 3⟩) (meth := k1m3) (c := k1c3) (by decide +kernel) rfl rfl rfl (by decide +kernel)
set_option maxRecDepth 65536 in
theorem w_c3 : (Jvm.Cond.code ({ cls := "java/lang/String", name := "<init>", desc := "([C)V" } : Jvm.MethodName) jdk_42_method_3_code (2 : Nat) (Option.none : Option Jvm.ClassFile.FieldType)).before args0 about1 = true := code_word (m := ⟨7, 1⟩) (meth := k7m1) (c := k7c1) (by decide +kernel) rfl rfl rfl (by decide +kernel)
set_option maxRecDepth 65536 in
theorem w_c4 : (Jvm.Cond.code ({ cls := "java/lang/String", name := "<init>", desc := "([CIILjava/lang/Void;)V" } : Jvm.MethodName) jdk_42_method_149_code (6 : Nat) (Option.none : Option Jvm.ClassFile.FieldType)).before args0 about1 = true := code_word (m := ⟨7, 5⟩) (meth := k7m5) (c := k7c5) (by decide +kernel) rfl rfl rfl (by decide +kernel)
set_option maxRecDepth 65536 in
theorem w_c5 : (Jvm.Cond.code ({ cls := "java/lang/Object", name := "<init>", desc := "()V" } : Jvm.MethodName) object_method_1_code (1 : Nat) (Option.none : Option Jvm.ClassFile.FieldType)).before args0 about1 = true := code_word (m := ⟨0, 0⟩) (meth := k0m0) (c := k0c0) (by decide +kernel) rfl rfl rfl (by decide +kernel)
set_option maxRecDepth 65536 in
theorem w_c6 : (Jvm.Cond.code ({ cls := "java/lang/StringUTF16", name := "compress", desc := "([CII)[B" } : Jvm.MethodName) jdk_52_method_16_code (6 : Nat) (Option.some (Jvm.ClassFile.FieldType.array Jvm.ClassFile.FieldType.byte))).before args0 about1 = true := code_word (m := ⟨10, 2⟩) (meth := k10m2) (c := k10c2) (by decide +kernel) rfl rfl rfl (by decide +kernel)
set_option maxRecDepth 65536 in
theorem w_c7 : (Jvm.Cond.code ({ cls := "java/lang/StringUTF16", name := "compress", desc := "([CI[BII)I" } : Jvm.MethodName) jdk_52_method_21_code (7 : Nat) (Option.some Jvm.ClassFile.FieldType.int)).before args0 about1 = true := code_word (m := ⟨10, 3⟩) (meth := k10m3) (c := k10c3) (by decide +kernel) rfl rfl rfl (by decide +kernel)
set_option maxRecDepth 65536 in
theorem w_c8 : (Jvm.Cond.code ({ cls := "java/lang/StringUTF16", name := "coderFromArrayLen", desc := "([BI)B" } : Jvm.MethodName) jdk_52_method_15_code (2 : Nat) (Option.some Jvm.ClassFile.FieldType.byte)).before args0 about1 = true := code_word (m := ⟨10, 1⟩) (meth := k10m1) (c := k10c1) (by decide +kernel) rfl rfl rfl (by decide +kernel)
set_option maxRecDepth 65536 in
theorem w_c9 : (Jvm.Cond.code ({ cls := "com/example/coyote_hill/coyotehill/ItemStateFromNamePinLaw", name := "expected", desc := "(Ljava/lang/String;)Lcom/example/coyote_hill/coyotehill/ItemState;" } : Jvm.MethodName) method_5_code (1 : Nat) (Option.some (Jvm.ClassFile.FieldType.object "com/example/coyote_hill/coyotehill/ItemState"))).before args0 about1 = true := code_word (m := ⟨1, 4⟩) (meth := k1m4) (c := k1c4) (by decide +kernel) rfl rfl rfl (by decide +kernel)
set_option maxRecDepth 65536 in
theorem w_c10 : (Jvm.Cond.code ({ cls := "java/lang/String", name := "equals", desc := "(Ljava/lang/Object;)Z" } : Jvm.MethodName) jdk_42_method_66_code (3 : Nat) (Option.some Jvm.ClassFile.FieldType.boolean)).before args0 about1 = true := code_word (m := ⟨7, 4⟩) (meth := k7m4) (c := k7c4) (by decide +kernel) rfl rfl rfl (by decide +kernel)
set_option maxRecDepth 65536 in
theorem w_c11 : (Jvm.Cond.code ({ cls := "java/lang/StringLatin1", name := "equals", desc := "([B[B)Z" } : Jvm.MethodName) jdk_43_method_13_code (3 : Nat) (Option.some Jvm.ClassFile.FieldType.boolean)).before args0 about1 = true := code_word (m := ⟨11, 2⟩) (meth := k11m2) (c := k11c2) (by decide +kernel) rfl rfl rfl (by decide +kernel)
set_option maxRecDepth 65536 in
theorem w_c12 : (Jvm.Cond.code ({ cls := "com/example/coyote_hill/coyotehill/ItemState", name := "fromName", desc := "(Ljava/lang/String;)Lcom/example/coyote_hill/coyotehill/ItemState;" } : Jvm.MethodName) prog_6_method_5_code (6 : Nat) (Option.some (Jvm.ClassFile.FieldType.object "com/example/coyote_hill/coyotehill/ItemState"))).before args0 about1 = true := code_word (m := ⟨9, 2⟩) (meth := k9m2) (c := k9c2) (by decide +kernel) rfl rfl rfl (by decide +kernel)
set_option maxRecDepth 65536 in
theorem w_c13 : (Jvm.Cond.code ({ cls := "com/example/coyote_hill/coyotehill/ItemState", name := "values", desc := "()[Lcom/example/coyote_hill/coyotehill/ItemState;" } : Jvm.MethodName) prog_6_method_1_code (0 : Nat) (Option.some (Jvm.ClassFile.FieldType.array (Jvm.ClassFile.FieldType.object "com/example/coyote_hill/coyotehill/ItemState")))).before args0 about1 = true := code_word (m := ⟨9, 0⟩) (meth := k9m0) (c := k9c0) (by decide +kernel) rfl rfl rfl (by decide +kernel)
set_option maxRecDepth 65536 in
theorem w_c14 : (Jvm.Cond.code ({ cls := "com/example/coyote_hill/coyotehill/ItemState", name := "getName", desc := "()Ljava/lang/String;" } : Jvm.MethodName) prog_6_method_4_code (1 : Nat) (Option.some (Jvm.ClassFile.FieldType.object "java/lang/String"))).before args0 about1 = true := code_word (m := ⟨9, 1⟩) (meth := k9m1) (c := k9c1) (by decide +kernel) rfl rfl rfl (by decide +kernel)
set_option maxRecDepth 65536 in
theorem w_c15 : (Jvm.Cond.code ({ cls := "java/lang/String", name := "length", desc := "()I" } : Jvm.MethodName) jdk_42_method_54_code (1 : Nat) (Option.some Jvm.ClassFile.FieldType.int)).before args0 about1 = true := code_word (m := ⟨7, 2⟩) (meth := k7m2) (c := k7c2) (by decide +kernel) rfl rfl rfl (by decide +kernel)
set_option maxRecDepth 65536 in
theorem w_c16 : (Jvm.Cond.code ({ cls := "java/lang/String", name := "coder", desc := "()B" } : Jvm.MethodName) jdk_42_method_152_code (1 : Nat) (Option.some Jvm.ClassFile.FieldType.byte)).before args0 about1 = true := code_word (m := ⟨7, 6⟩) (meth := k7m6) (c := k7c6) (by decide +kernel) rfl rfl rfl (by decide +kernel)
set_option maxRecDepth 65536 in
theorem w_c17 : (Jvm.Cond.code ({ cls := "java/lang/String", name := "charAt", desc := "(I)C" } : Jvm.MethodName) jdk_42_method_56_code (2 : Nat) (Option.some Jvm.ClassFile.FieldType.char)).before args0 about1 = true := code_word (m := ⟨7, 3⟩) (meth := k7m3) (c := k7c3) (by decide +kernel) rfl rfl rfl (by decide +kernel)
set_option maxRecDepth 65536 in
theorem w_c18 : (Jvm.Cond.code ({ cls := "java/lang/String", name := "isLatin1", desc := "()Z" } : Jvm.MethodName) jdk_42_method_154_code (1 : Nat) (Option.some Jvm.ClassFile.FieldType.boolean)).before args0 about1 = true := code_word (m := ⟨7, 7⟩) (meth := k7m7) (c := k7c7) (by decide +kernel) rfl rfl rfl (by decide +kernel)
set_option maxRecDepth 65536 in
theorem w_c19 : (Jvm.Cond.code ({ cls := "java/lang/StringLatin1", name := "charAt", desc := "([BI)C" } : Jvm.MethodName) jdk_43_method_2_code (2 : Nat) (Option.some Jvm.ClassFile.FieldType.char)).before args0 about1 = true := code_word (m := ⟨11, 1⟩) (meth := k11m1) (c := k11c1) (by decide +kernel) rfl rfl rfl (by decide +kernel)
set_option maxRecDepth 65536 in
theorem w_c20 : (Jvm.Cond.code ({ cls := "java/lang/String", name := "checkIndex", desc := "(II)V" } : Jvm.MethodName) jdk_42_method_155_code (2 : Nat) (Option.none : Option Jvm.ClassFile.FieldType)).before args0 about1 = true := code_word (m := ⟨7, 8⟩) (meth := k7m8) (c := k7c8) (by decide +kernel) rfl rfl rfl (by decide +kernel)
set_option maxRecDepth 65536 in
theorem w_c21 : (Jvm.Cond.code ({ cls := "jdk/internal/util/Preconditions", name := "checkIndex", desc := "(IILjava/util/function/BiFunction;)I" } : Jvm.MethodName) jdk_41_method_11_code (3 : Nat) (Option.some Jvm.ClassFile.FieldType.int)).before args0 about1 = true := code_word (m := ⟨13, 1⟩) (meth := k13m1) (c := k13c1) (by decide +kernel) rfl rfl rfl (by decide +kernel)
def codes1 : List Jvm.Cond := [Jvm.Cond.code x code maxLocals ret, Jvm.Cond.code ({ cls := "com/example/coyote_hill/coyotehill/ItemStateFromNamePinLaw", name := "pick", desc := "(IZLjava/lang/String;J)C" } : Jvm.MethodName) method_3_code (5 : Nat) (Option.some Jvm.ClassFile.FieldType.char), Jvm.Cond.code ({ cls := "com/example/coyote_hill/coyotehill/ItemStateFromNamePinLaw", name := "mk", desc := "(I[C)Ljava/lang/String;" } : Jvm.MethodName) method_4_code (2 : Nat) (Option.some (Jvm.ClassFile.FieldType.object "java/lang/String")), Jvm.Cond.code ({ cls := "java/lang/String", name := "<init>", desc := "([C)V" } : Jvm.MethodName) jdk_42_method_3_code (2 : Nat) (Option.none : Option Jvm.ClassFile.FieldType), Jvm.Cond.code ({ cls := "java/lang/String", name := "<init>", desc := "([CIILjava/lang/Void;)V" } : Jvm.MethodName) jdk_42_method_149_code (6 : Nat) (Option.none : Option Jvm.ClassFile.FieldType), Jvm.Cond.code ({ cls := "java/lang/Object", name := "<init>", desc := "()V" } : Jvm.MethodName) object_method_1_code (1 : Nat) (Option.none : Option Jvm.ClassFile.FieldType), Jvm.Cond.code ({ cls := "java/lang/StringUTF16", name := "compress", desc := "([CII)[B" } : Jvm.MethodName) jdk_52_method_16_code (6 : Nat) (Option.some (Jvm.ClassFile.FieldType.array Jvm.ClassFile.FieldType.byte)), Jvm.Cond.code ({ cls := "java/lang/StringUTF16", name := "compress", desc := "([CI[BII)I" } : Jvm.MethodName) jdk_52_method_21_code (7 : Nat) (Option.some Jvm.ClassFile.FieldType.int), Jvm.Cond.code ({ cls := "java/lang/StringUTF16", name := "coderFromArrayLen", desc := "([BI)B" } : Jvm.MethodName) jdk_52_method_15_code (2 : Nat) (Option.some Jvm.ClassFile.FieldType.byte), Jvm.Cond.code ({ cls := "com/example/coyote_hill/coyotehill/ItemStateFromNamePinLaw", name := "expected", desc := "(Ljava/lang/String;)Lcom/example/coyote_hill/coyotehill/ItemState;" } : Jvm.MethodName) method_5_code (1 : Nat) (Option.some (Jvm.ClassFile.FieldType.object "com/example/coyote_hill/coyotehill/ItemState")), Jvm.Cond.code ({ cls := "java/lang/String", name := "equals", desc := "(Ljava/lang/Object;)Z" } : Jvm.MethodName) jdk_42_method_66_code (3 : Nat) (Option.some Jvm.ClassFile.FieldType.boolean), Jvm.Cond.code ({ cls := "java/lang/StringLatin1", name := "equals", desc := "([B[B)Z" } : Jvm.MethodName) jdk_43_method_13_code (3 : Nat) (Option.some Jvm.ClassFile.FieldType.boolean), Jvm.Cond.code ({ cls := "com/example/coyote_hill/coyotehill/ItemState", name := "fromName", desc := "(Ljava/lang/String;)Lcom/example/coyote_hill/coyotehill/ItemState;" } : Jvm.MethodName) prog_6_method_5_code (6 : Nat) (Option.some (Jvm.ClassFile.FieldType.object "com/example/coyote_hill/coyotehill/ItemState")), Jvm.Cond.code ({ cls := "com/example/coyote_hill/coyotehill/ItemState", name := "values", desc := "()[Lcom/example/coyote_hill/coyotehill/ItemState;" } : Jvm.MethodName) prog_6_method_1_code (0 : Nat) (Option.some (Jvm.ClassFile.FieldType.array (Jvm.ClassFile.FieldType.object "com/example/coyote_hill/coyotehill/ItemState"))), Jvm.Cond.code ({ cls := "com/example/coyote_hill/coyotehill/ItemState", name := "getName", desc := "()Ljava/lang/String;" } : Jvm.MethodName) prog_6_method_4_code (1 : Nat) (Option.some (Jvm.ClassFile.FieldType.object "java/lang/String")), Jvm.Cond.code ({ cls := "java/lang/String", name := "length", desc := "()I" } : Jvm.MethodName) jdk_42_method_54_code (1 : Nat) (Option.some Jvm.ClassFile.FieldType.int), Jvm.Cond.code ({ cls := "java/lang/String", name := "coder", desc := "()B" } : Jvm.MethodName) jdk_42_method_152_code (1 : Nat) (Option.some Jvm.ClassFile.FieldType.byte), Jvm.Cond.code ({ cls := "java/lang/String", name := "charAt", desc := "(I)C" } : Jvm.MethodName) jdk_42_method_56_code (2 : Nat) (Option.some Jvm.ClassFile.FieldType.char), Jvm.Cond.code ({ cls := "java/lang/String", name := "isLatin1", desc := "()Z" } : Jvm.MethodName) jdk_42_method_154_code (1 : Nat) (Option.some Jvm.ClassFile.FieldType.boolean), Jvm.Cond.code ({ cls := "java/lang/StringLatin1", name := "charAt", desc := "([BI)C" } : Jvm.MethodName) jdk_43_method_2_code (2 : Nat) (Option.some Jvm.ClassFile.FieldType.char), Jvm.Cond.code ({ cls := "java/lang/String", name := "checkIndex", desc := "(II)V" } : Jvm.MethodName) jdk_42_method_155_code (2 : Nat) (Option.none : Option Jvm.ClassFile.FieldType), Jvm.Cond.code ({ cls := "jdk/internal/util/Preconditions", name := "checkIndex", desc := "(IILjava/util/function/BiFunction;)I" } : Jvm.MethodName) jdk_41_method_11_code (3 : Nat) (Option.some Jvm.ClassFile.FieldType.int)]
set_option maxRecDepth 65536 in
theorem codes_eq : words1.filter isCode = codes1 := rfl
theorem w_codes : ∀ c ∈ words1.filter isCode, c.before args0 about1 = true := by
  rw [codes_eq]
  intro c hc
  simp only [codes1, List.mem_cons, List.not_mem_nil, or_false] at hc
  rcases hc with rfl | rfl | rfl | rfl | rfl | rfl | rfl | rfl | rfl | rfl | rfl | rfl | rfl | rfl | rfl | rfl | rfl | rfl | rfl | rfl | rfl | rfl
  · exact w_c0
  · exact w_c1
  · exact w_c2
  · exact w_c3
  · exact w_c4
  · exact w_c5
  · exact w_c6
  · exact w_c7
  · exact w_c8
  · exact w_c9
  · exact w_c10
  · exact w_c11
  · exact w_c12
  · exact w_c13
  · exact w_c14
  · exact w_c15
  · exact w_c16
  · exact w_c17
  · exact w_c18
  · exact w_c19
  · exact w_c20
  · exact w_c21
set_option maxRecDepth 65536 in
theorem w_t1 : (words1.take 24).all (fun c => isCode c || c.before args0 about1) = true := by decide +kernel
set_option maxRecDepth 65536 in
theorem w_t2 : ((words1.drop 24).take 24).all (fun c => isCode c || c.before args0 about1) = true := by decide +kernel
set_option maxRecDepth 65536 in
theorem w_t3 : (((words1.drop 24).drop 24).take 24).all (fun c => isCode c || c.before args0 about1) = true := by decide +kernel
set_option maxRecDepth 65536 in
theorem w_t4 : ((((words1.drop 24).drop 24).drop 24).take 24).all (fun c => isCode c || c.before args0 about1) = true := by decide +kernel
set_option maxRecDepth 65536 in
theorem w_t5 : (((((words1.drop 24).drop 24).drop 24).drop 24).take 24).all (fun c => isCode c || c.before args0 about1) = true := by decide +kernel
set_option maxRecDepth 65536 in
theorem w_t6 : (((((words1.drop 24).drop 24).drop 24).drop 24).drop 24).all (fun c => isCode c || c.before args0 about1) = true := by decide +kernel
theorem w_tables : (allAtoms (Jvm.Cond.code x code maxLocals ret :: tables_1)).before args0 about1 = true := by
  rw [allAtoms_all]
  show words1.all (fun c => c.before args0 about1) = true
  refine all_split ?_ w_codes
  rw [← List.take_append_drop 24 words1, List.all_append, w_t1, ← List.take_append_drop 24 (words1.drop 24), List.all_append, w_t2, ← List.take_append_drop 24 ((words1.drop 24).drop 24), List.all_append, w_t3, ← List.take_append_drop 24 (((words1.drop 24).drop 24).drop 24), List.all_append, w_t4, ← List.take_append_drop 24 ((((words1.drop 24).drop 24).drop 24).drop 24), List.all_append, w_t5, w_t6]
  rfl
set_option maxRecDepth 65536 in
theorem w_rest : rest_1_c.before args0 about1 = true := by decide +kernel
set_option maxRecDepth 65536 in
theorem w_case : (Jvm.Cond.and given_1 narrow_1).before args0 about1 = true := by decide +kernel
set_option maxRecDepth 65536 in
theorem w_consts : constsHeld consts_1 about1 := Jvm.Lit.constsHeldB_iff.mp (by decide +kernel)
theorem w_applies : (headSpec (Jvm.Cond.code x code maxLocals ret :: tables_1) room_1).applies x e0.platform about1 = true :=
  (Spec.applies_iff w_frames).mpr ⟨w_running, w_runnable, w_alone, w_named, w_hears, w_ripe, w_room, w_tables⟩
theorem atStart : AtStart classFile x code maxLocals ret World_1 tables_1 room_1 Calls_1 rest_1 Pre_1 launch0 p0 e0 about1 theMethod args0 below0 :=
  ⟨lists_1, trivial, launch0.admits_env _ _ _, launch0.least_env, fairChoices_fair.cas, fairChoices_fair.clock, w_frames, w_args, w_heap, w_applies, ⟨w_consts, trivial⟩, w_rest, w_case⟩
end start1
theorem witness_1 : WitnessClaimed_1 := ⟨start1.p0, start1.e0, start1.about1, start1.theMethod, start1.args0, start1.below0, start1.atStart⟩
end Jvm.Pilot.@@N@@
