import JvmDerived
import JvmDerived.Pilot.@@N@@Statement
import JvmDerived.Pilot.@@N@@Code
set_option linter.unusedVariables false
set_option linter.unusedSimpArgs false
namespace Jvm.RoadKit
open Sem ClassFile Op Lib Jvm.Stand Jvm.Free Jvm.LawKit
section New
variable {p : Program} {l : Launch} {e : Env} {R : Room} {s : State} {m : MethodId} {args : Array Value} {below : List Frame} {meth : Method} {c : Code} {T : State} {locs : List Loc} {cells slots : Nat}
theorem retI (X : Stand p l e R s m args below meth c T locs cells slots) (hx : p.tables.exec = Jvm.exec) {pc : Nat} {Ls : Array Slot} {z : Int32} {rest : List Value} (hret : meth.sig.returnType = some .int) (hd : decode c.code pc = .ok (.ireturn, 1)) {fs : List Frame}
    (hl : ∀ (f : JFrame) (acts : List Action), f.method = m → f.locked = none → f.entered = [] → (doReturn e (T.setTop f) acts (some (.int z))).1 = T.setFrames fs) : Steps p.tables e below (T.setTop (mkF m pc Ls (.int z :: rest))) (T.setFrames fs) := by
  have hm' : T.vm.method? m = some meth := X.method'
  have hn : narrow .int (.int z) = .int z := rfl
  show Steps p.tables e below (T.setTop { method := m, pc := pc, locals := Ls, stack := _ :: rest, locked := none }) _
  jvm_step X.here [X.here.top, hx, hd, hm', hret, hn]
  first | (intro acts; rw [hl _ acts rfl rfl rfl]) | rw [hl _ _ rfl rfl rfl]
  exact Steps.refl _
theorem seg (X : Stand p l e R s m args below meth c T locs cells slots) (P : State → Prop) (h : ∃ T', Stand p l e R s m args below meth c T' locs cells slots ∧ P T') : ∃ T', Stand p l e R s m args below meth c T' locs cells slots ∧ P T' := h
/-- int to char -/
def i2c (x : Int32) : Int32 := x.toUInt32.toUInt16.toUInt32.toInt32
/-- int to byte -/
def own_lo (x : Int32) : Int32 := x.toInt8.toInt32
/-- the unsigned shift of an int -/
def ushr (x y : Int32) : Int32 := (x.toUInt32 >>> (y &&& 31).toUInt32).toInt32
/-- the unsigned shift of a long -/
def ushrJ (x : Int64) (y : Int32) : Int64 := (x.toUInt64 >>> (y &&& 0x3f).toInt64.toUInt64).toInt64
end New
end Jvm.RoadKit
namespace Jvm.Pilot.@@N@@
open Jvm Jvm.ClassFile Sem Op Lib Jvm.Free Jvm.Stand Jvm.LawKit Jvm.RoadKit Bundle Jvm.Pilot.@@N@@.Jvm.D
theorem own_neN {a b : Addr} (h : @Ne Nat a b) : ¬ (a = b) := h
theorem own_arvne {Z : State} {h : Heap} {a b : Addr} {k k' : ClassId} {ty ty' : FieldType} {z z' : Int32} {vs vs' : List Value} {d d' : Value} (F : Arv Z h a k ty z vs d) (G : Arv Z h b k' ty' z' vs' d') (hn : ty ≠ ty') : a ≠ b := fun q => by
  subst q
  obtain ⟨c1, ⟨e1, ⟨-, k1, hk1, comp1, h1⟩, -⟩, -⟩ := F
  obtain ⟨c2, ⟨e2, ⟨-, k2, hk2, comp2, h2⟩, -⟩, -⟩ := G
  cases e1.symm.trans e2
  cases hk1.symm.trans hk2
  have := h1.symm.trans h2
  injection this with _ e
  exact hn e
theorem own_narb {q : Prop} [Decidable q] : nar .boolean (if q then (1 : Int32) else (0 : Int32)) = (if q then (1 : Int32) else (0 : Int32)) := by split <;> rfl
theorem own_declares {Z : State} {a0 : Array Value} {y : MethodName} {bytes : ByteArray} {mx : Nat} {r : Option FieldType} (w1 : (Jvm.Cond.instanceMethod y).before a0 Z = true) (w2 : (Jvm.Cond.code y bytes mx r).before a0 Z = true) : (Jvm.Cond.declares y).before a0 Z = true := by
  obtain ⟨mk, meth, h1, h2, h3, -⟩ := Cond.instanceMethod_spec w1
  obtain ⟨meth', c, q1, -, -, -, -, -, -, q2⟩ := Cond.code_spec h1 w2
  cases h2.symm.trans q1
  simp [Cond.before, Cond.holds, Cond.value, h1, h2, h3, q2]
/-- the class of a method that an object selects is no interface -/
theorem own_nf {Z : State} {a0 : Array Value} {y z : MethodName} {C : String} (hz : z.cls = y.cls) (w : (Jvm.Cond.selects C z z).before a0 Z = true) : ∀ r, Z.methodNamed? y = some r → ∃ k, Z.vm.classes[r.cls]? = some k ∧ k.isInterface = false := fun r hr => by
  obtain ⟨c, r2, m2, -, -, q3, -, kP, hkP, hkPi⟩ := Cond.selects_spec w
  have h1 := findClass_of_methodNamed q3
  have h2 := findClass_of_methodNamed hr
  rw [hz, h2] at h1
  rw [Option.some.inj h1]
  exact ⟨kP, hkP, hkPi⟩
/-- a method that its class declares itself is the one that the look-up finds -/
theorem own_same {Z : State} {a0 : Array Value} {y : MethodName} (w1 : (Jvm.Cond.instanceMethod y).before a0 Z = true) (w2 : ∀ r, Z.methodNamed? y = some r → ∃ k, Z.vm.classes[r.cls]? = some k ∧ k.isInterface = false) (hy : y.cls ≠ "java/lang/invoke/MethodHandle" ∧ y.cls ≠ "java/lang/invoke/VarHandle") : (Jvm.Cond.sameMethod y.cls y.cls y.name y.desc).before a0 Z = true := by
  obtain ⟨mk, meth, h1, -⟩ := Cond.instanceMethod_spec w1
  have hc := findClass_of_methodNamed h1
  obtain ⟨k, hk, hi⟩ := w2 mk h1
  have hf := State.methodFound?_of_named h1 hy
  have hk' : Z.vm.classes[mk.cls]? = some k := hk
  simp [Cond.before, Cond.holds, Cond.value, hc, hf, h1, hk', hi]
theorem own_ti {n : Nat} (h : n ≤ 8000) : (Int32.ofNat n).toInt = n := Int32.toInt_ofNat_of_lt (by omega)
theorem own_tn {n : Nat} (h : n ≤ 8000) : (Int32.ofNat n).toNatClampNeg = n := by
  rw [Int32.toNatClampNeg, own_ti h]; omega
theorem own_lt {i n : Nat} (h : i < n) (hn : n ≤ 8000) : (Int32.ofNat i) < (Int32.ofNat n) := by
  rw [Int32.lt_iff_toInt_lt, own_ti (by omega), own_ti hn]; omega
theorem own_nlt {i n : Nat} (h : n ≤ i) (hn : i ≤ 8000) : ¬ ((Int32.ofNat i) < (Int32.ofNat n)) := by
  rw [Int32.lt_iff_toInt_lt, own_ti hn, own_ti (by omega : n ≤ 8000)]; omega
theorem own_nn {n : Nat} (h : n ≤ 8000) : ¬ ((Int32.ofNat n) < (0 : Int32)) := by
  rw [Int32.lt_iff_toInt_lt, own_ti h]
  show ¬ ((n : Int) < 0)
  omega
theorem own_inj {i n : Nat} (h : i ≤ 8000) (hn : n ≤ 8000) (e : Int32.ofNat i = Int32.ofNat n) : i = n := by
  have := congrArg Int32.toInt e
  rw [own_ti h, own_ti hn] at this; omega
theorem own_up (k : Nat) : Int32.ofNat (k + 1) = Int32.ofNat k + (1 : Int32) := Int32.ofNat_add k 1
theorem own_in {i n : Nat} (h : i < n) (hn : n ≤ 8000) : ¬ (Int32.ofNat i) < 0 ∧ (Int32.ofNat i) < (Int32.ofNat n) := ⟨own_nn (by omega), own_lt h hn⟩
theorem own_eqI {z w : Int32} (h : z.toInt = w.toInt) : z = w := Int32.toInt_inj.mp h
theorem own_shl1 {n : Nat} (h : n ≤ 4000) : (Int32.ofNat n) <<< ((1 : Int32) &&& 31) = Int32.ofNat (2 * n) := by
  apply own_eqI
  have h1 := c_ishl (Int32.ofNat n) 1 1 (by decide)
  rw [own_ti (by omega)] at h1
  rw [own_ti (by omega : 2 * n ≤ 8000)]
  have := rng32 ((Int32.ofNat n) <<< ((1 : Int32) &&& 31))
  omega
theorem own_shr1 {n : Nat} (h : n ≤ 4000) : (Int32.ofNat (2 * n)) >>> ((1 : Int32) &&& 31) = Int32.ofNat n := by
  apply own_eqI
  rw [c_ishr (Int32.ofNat (2 * n)) 1 1 (by decide), own_ti (by omega : 2 * n ≤ 8000), own_ti (by omega)]
  omega
theorem own_shr0 (z : Int32) : z >>> ((0 : Int32) &&& 31) = z := by
  apply own_eqI
  rw [c_ishr z 0 0 (by decide)]; simp
def own_mix {α : Type} (ys vs : List α) (j : Nat) : List α := ys.take j ++ vs.drop j
theorem own_mix0 {α : Type} (ys vs : List α) : own_mix ys vs 0 = vs := by simp [own_mix]
theorem own_mixn {α : Type} (ys vs : List α) (n : Nat) (h : ys.length = n) (h2 : vs.length = n) : own_mix ys vs n = ys := by
  simp [own_mix, ← h, ← h2]
  omega
theorem own_mixl {α : Type} (ys vs : List α) (j : Nat) (h : ys.length = vs.length) : (own_mix ys vs j).length = vs.length := by simp [own_mix]; omega
theorem own_mixs {α : Type} (ys vs : List α) (d : α) (j : Nat) (h : ys.length = vs.length) (hj : j < vs.length) : (own_mix ys vs j).set j (ys.getD j d) = own_mix ys vs (j + 1) := by
  have hj' : j < ys.length := by omega
  apply List.ext_getElem?
  intro i
  simp only [own_mix, List.getElem?_set, List.length_append, List.length_take, List.length_drop, List.getElem?_append, List.getElem?_take, List.getElem?_drop, List.getD_eq_getElem?_getD, List.getElem?_eq_getElem hj', Option.getD_some]
  by_cases h1 : j = i
  · subst h1
    rw [if_pos rfl, if_pos (by omega), if_pos (by omega), if_pos (by omega), List.getElem?_eq_getElem hj']
  · rw [if_neg h1]
    by_cases h2 : i < j
    · rw [if_pos (by omega), if_pos (by omega), if_pos (by omega), if_pos (by omega)]
    · rw [if_neg (by omega), if_neg (by omega)]
      congr 1
      omega
/-- every char lies below 256 -/
abbrev own_lat (cs : List Int32) : Prop := ∀ c ∈ cs, ¬ ((255 : Int32) < c)
/-- every one is a char -/
abbrev own_chs (cs : List Int32) : Prop := ∀ c ∈ cs, ¬ (c < (0 : Int32)) ∧ ¬ ((65535 : Int32) < c)
def own_low (cs : List Int32) : List Value := cs.map fun c => .int (own_lo c)
def own_wide : List Int32 → List Value
  | [] => []
  | c :: r => .int (own_lo (c >>> ((0 : Int32) &&& 31))) :: .int (own_lo (c >>> ((8 : Int32) &&& 31))) :: own_wide r
def own_cod (cs : List Int32) : Int32 := if own_lat cs then 0 else 1
def own_enc (cs : List Int32) : List Value := if own_lat cs then own_low cs else own_wide cs
def own_enl (cs : List Int32) : Nat := if own_lat cs then cs.length else 2 * cs.length
theorem own_lowl (cs : List Int32) : (own_low cs).length = cs.length := by simp [own_low]
theorem own_widel : ∀ cs : List Int32, (own_wide cs).length = 2 * cs.length
  | [] => rfl
  | c :: r => by simp only [own_wide, List.length_cons, own_widel r]; omega
theorem own_getc (cs : List Int32) (j : Nat) (d : Value) (hj : j < cs.length) (hb : cs.length ≤ 8000) : (cs.map Value.int).getD (Int32.ofNat j).toNatClampNeg d = .int (cs.getD j 0) := by
  rw [own_tn (by omega)]
  simp [List.getD_eq_getElem?_getD, List.getElem?_map, List.getElem?_eq_getElem hj]
theorem own_getl (cs : List Int32) (j : Nat) (d : Value) (hj : j < cs.length) (hb : cs.length ≤ 8000) : (own_low cs).getD (Int32.ofNat j).toNatClampNeg d = .int (own_lo (cs.getD j 0)) := by
  rw [own_tn (by omega)]
  simp [own_low, List.getD_eq_getElem?_getD, List.getElem?_map, List.getElem?_eq_getElem hj]
theorem own_mem (cs : List Int32) (j : Nat) (hj : j < cs.length) : cs.getD j 0 ∈ cs := by
  simp [List.getD_eq_getElem?_getD, List.getElem?_eq_getElem hj]
theorem own_lolo (c : Int32) : nar .byte (own_lo c) = own_lo c := by
  show (own_lo c).toInt8.toInt32 = own_lo c
  simp [own_lo]
theorem own_mixc (cs : List Int32) (vs : List Value) (j : Nat) (h : cs.length = vs.length) (hj : j < vs.length) : (own_mix (own_low cs) vs j).set j (.int (nar .byte (own_lo (cs.getD j 0)))) = own_mix (own_low cs) vs (j + 1) := by
  have e : Value.int (own_lo (cs.getD j 0)) = (own_low cs).getD j (.int 0) := by
    simp [own_low, List.getD_eq_getElem?_getD, List.getElem?_map, List.getElem?_eq_getElem (by omega : j < cs.length)]
  rw [own_lolo, e]
  exact own_mixs _ _ _ _ (by rw [own_lowl]; exact h) hj
theorem own_wide0 (d : Value) : ∀ (cs : List Int32) (j : Nat), j < cs.length → (own_wide cs).getD (2 * j) d = .int (own_lo ((cs.getD j 0) >>> ((0 : Int32) &&& 31)))
  | [], _, h => nomatch h
  | c :: r, 0, _ => rfl
  | c :: r, j + 1, h => by
    have := own_wide0 d r j (by simpa using h)
    show (own_wide (c :: r)).getD (2 * j + 2) d = _
    simpa [own_wide] using this
theorem own_wide1 (d : Value) : ∀ (cs : List Int32) (j : Nat), j < cs.length → (own_wide cs).getD (2 * j + 1) d = .int (own_lo ((cs.getD j 0) >>> ((8 : Int32) &&& 31)))
  | [], _, h => nomatch h
  | c :: r, 0, _ => rfl
  | c :: r, j + 1, h => by
    have := own_wide1 d r j (by simpa using h)
    show (own_wide (c :: r)).getD (2 * j + 1 + 2) d = _
    simpa [own_wide] using this
theorem own_mixw (cs : List Int32) (vs : List Value) (j : Nat) (h : 2 * cs.length = vs.length) (hj : j < cs.length) :
    ((own_mix (own_wide cs) vs (2 * j)).set (2 * j) (.int (own_lo ((cs.getD j 0) >>> ((0 : Int32) &&& 31))))).set (2 * j + 1) (.int (own_lo ((cs.getD j 0) >>> ((8 : Int32) &&& 31)))) = own_mix (own_wide cs) vs (2 * (j + 1)) := by
  have hl : (own_wide cs).length = vs.length := by rw [own_widel]; exact h
  rw [← own_wide0 (.int 0) cs j hj, own_mixs _ _ _ _ hl (by omega), ← own_wide1 (.int 0) cs j hj, own_mixs _ _ _ _ hl (by omega)]
  rfl
/-- two bytes make the char again -/
theorem own_pair {c : Int32} (h0 : ¬ (c < (0 : Int32))) (h1 : ¬ ((65535 : Int32) < c)) :
    i2c (((own_lo (c >>> ((0 : Int32) &&& 31)) &&& (255 : Int32)) <<< ((0 : Int32) &&& 31)) ||| ((own_lo (c >>> ((8 : Int32) &&& 31)) &&& (255 : Int32)) <<< ((8 : Int32) &&& 31))) = c := by
  have b0 : 0 ≤ c.toInt ∧ c.toInt ≤ 65535 := by
    rw [Int32.lt_iff_toInt_lt] at h0 h1
    have : (0 : Int32).toInt = 0 := rfl
    have : (65535 : Int32).toInt = 65535 := rfl
    omega
  rw [own_shr0]
  have e8 : (c >>> ((8 : Int32) &&& 31)).toInt = c.toInt / 256 := c_ishr c 8 8 (by decide)
  have a1 := c_i2b c
  have a2 := c_i2b (c >>> ((8 : Int32) &&& 31))
  have m1 : (own_lo c &&& (255 : Int32)).toInt = (own_lo c).toInt % 256 := c_mask (own_lo c) 255 8 (by decide) (by decide)
  have m2 : (own_lo (c >>> ((8 : Int32) &&& 31)) &&& (255 : Int32)).toInt = (own_lo (c >>> ((8 : Int32) &&& 31))).toInt % 256 := c_mask (own_lo (c >>> ((8 : Int32) &&& 31))) 255 8 (by decide) (by decide)
  change ((own_lo c).toInt - c.toInt) % 256 = 0 ∧ _ at a1
  change ((own_lo (c >>> ((8 : Int32) &&& 31))).toInt - (c >>> ((8 : Int32) &&& 31)).toInt) % 256 = 0 ∧ _ at a2
  generalize own_lo c = u at *
  generalize own_lo (c >>> ((8 : Int32) &&& 31)) = w at *
  have s1 : ((u &&& (255 : Int32)) <<< ((0 : Int32) &&& 31)) = (u &&& (255 : Int32)) := by
    apply own_eqI
    have := c_ishl (u &&& (255 : Int32)) 0 0 (by decide)
    have := rng32 ((u &&& (255 : Int32)) <<< ((0 : Int32) &&& 31))
    omega
  have s2 := c_ishl (w &&& (255 : Int32)) 8 8 (by decide)
  have r2 := rng32 ((w &&& (255 : Int32)) <<< ((8 : Int32) &&& 31))
  rw [s1]
  generalize (w &&& (255 : Int32)) <<< ((8 : Int32) &&& 31) = y at *
  generalize u &&& (255 : Int32) = z at *
  have o := c_or' z y 8 (by decide) 256 rfl (by omega) (by omega) (by omega)
  have i := c_i2c (z ||| y)
  have r3 := rng32 (z ||| y)
  apply own_eqI
  show ((z ||| y).toUInt32.toUInt16.toUInt32.toInt32).toInt = _
  omega
theorem own_lo_inj {c d : Int32} (h0 : ¬ (c < (0 : Int32))) (h1 : ¬ ((255 : Int32) < c)) (g0 : ¬ (d < (0 : Int32))) (g1 : ¬ ((255 : Int32) < d)) (e : own_lo c = own_lo d) : c = d := by
  apply own_eqI
  have a1 := c_i2b c
  have a2 := c_i2b d
  have e' : c.toInt8.toInt32.toInt = d.toInt8.toInt32.toInt := congrArg Int32.toInt e
  rw [Int32.lt_iff_toInt_lt] at h0 h1 g0 g1
  have : (0 : Int32).toInt = 0 := rfl
  have : (255 : Int32).toInt = 255 := rfl
  omega
theorem own_ltbig {n : Nat} (h : n ≤ 8000) : (Int32.ofNat n) < (1073741823 : Int32) := by
  rw [Int32.lt_iff_toInt_lt, own_ti h]
  show (n : Int) < 1073741823
  omega
theorem own_narc {c : Int32} (h0 : ¬ (c < (0 : Int32))) (h1 : ¬ ((65535 : Int32) < c)) : nar .char c = c := by
  apply own_eqI
  have i := c_i2c c
  show (c.toUInt32.toUInt16.toUInt32.toInt32).toInt = _
  rw [Int32.lt_iff_toInt_lt] at h0 h1
  have : (0 : Int32).toInt = 0 := rfl
  have : (65535 : Int32).toInt = 65535 := rfl
  omega
theorem own_first {cs : List Int32} (h : ¬ own_lat cs) : ∃ i, i < cs.length ∧ (255 : Int32) < (cs.getD i 0) ∧ ∀ j, j < i → ¬ ((255 : Int32) < cs.getD j 0) := by
  induction cs with
  | nil => exact absurd (fun c hc => nomatch hc) h
  | cons c r ih =>
    by_cases hc : (255 : Int32) < c
    · exact ⟨0, by simp, hc, fun j hj => absurd hj (Nat.not_lt_zero j)⟩
    · have : ¬ own_lat r := fun hr => h fun d hd => by
        rcases List.mem_cons.mp hd with rfl | hd
        · exact hc
        · exact hr d hd
      obtain ⟨i, h1, h2, h3⟩ := ih this
      refine ⟨i + 1, by simpa using h1, by simpa using h2, fun j hj => ?_⟩
      cases j with
      | zero => simpa using hc
      | succ j => simpa using h3 j (by omega)
theorem own_fixL {Z : State} {hh : Heap} {b : Addr} {kb : ClassId} {cs : List Int32} {n : Nat} {vs : List Value} {d : Value} (h : own_lat cs) (F : Arv Z hh b kb .byte (Int32.ofNat n) (own_mix (own_low cs) vs n) d) (hn : cs.length = n) (hv : vs.length = n) : Arv Z hh b kb .byte (Int32.ofNat (own_enl cs)) (own_enc cs) d := by
  rw [own_mixn _ _ n (by rw [own_lowl]; exact hn) hv] at F
  rw [own_enl, own_enc, if_pos h, if_pos h, hn]; exact F
theorem own_fixW {Z : State} {hh : Heap} {b : Addr} {kb : ClassId} {cs : List Int32} {n : Nat} {d : Value} (h : ¬ own_lat cs) (F : Arv Z hh b kb .byte (Int32.ofNat (2 * n)) (own_wide cs) d) (hn : cs.length = n) : Arv Z hh b kb .byte (Int32.ofNat (own_enl cs)) (own_enc cs) d := by
  rw [own_enl, own_enc, if_neg h, if_neg h, hn]; exact F
theorem own_ne0 {n : Nat} (h : 0 < n) (hb : n ≤ 8000) : ¬ ((Int32.ofNat n) = (0 : Int32)) := fun e => by
  have := own_inj (n := 0) hb (by omega) e
  omega
theorem own_codl {cs : List Int32} {n : Nat} (hn : cs.length = n) (hp : 0 < n) (hb : n ≤ 4000) : nar .byte (own_lo (ushr ((Int32.ofNat n) - (Int32.ofNat (own_enl cs))) (31 : Int32))) = own_cod cs := by
  rw [own_lolo, own_enl, own_cod]
  by_cases h : own_lat cs
  · rw [if_pos h, if_pos h, hn, Int32.sub_self]; rfl
  · rw [if_neg h, if_neg h, hn]
    have e : ushr ((Int32.ofNat n) - (Int32.ofNat (2 * n))) (31 : Int32) = 1 := by
      apply own_eqI
      have a := c_isub (Int32.ofNat n) (Int32.ofNat (2 * n))
      rw [own_ti (by omega), own_ti (by omega : 2 * n ≤ 8000)] at a
      have r := rng32 ((Int32.ofNat n) - (Int32.ofNat (2 * n)))
      have s := c_iushr ((Int32.ofNat n) - (Int32.ofNat (2 * n))) 31 31 (by decide) (by decide)
      show (((Int32.ofNat n) - (Int32.ofNat (2 * n))).toUInt32 >>> ((31 : Int32) &&& 31).toUInt32).toInt32.toInt = 1
      rw [s]
      omega
    rw [e]; rfl
theorem own_c01 (cs : List Int32) : own_cod cs = 0 ∨ own_cod cs = 1 := by
  unfold own_cod; split
  · exact Or.inl rfl
  · exact Or.inr rfl
theorem own_cnar (cs : List Int32) : narrow .byte (.int (own_cod cs)) = .int (own_cod cs) := by rcases own_c01 cs with h | h <;> rw [h] <;> rfl
theorem own_cnarb (cs : List Int32) : nar .byte (own_cod cs) = own_cod cs := by rcases own_c01 cs with h | h <;> rw [h] <;> rfl
theorem own_cfit (cs : List Int32) : fits .byte (.int (own_cod cs)) = true := by rcases own_c01 cs with h | h <;> rw [h] <;> rfl
theorem own_lenq (cs : List Int32) (hb : cs.length ≤ 4000) : (Int32.ofNat (own_enl cs)) >>> ((own_cod cs) &&& 31) = Int32.ofNat cs.length := by
  rw [own_enl, own_cod]
  by_cases h : own_lat cs
  · rw [if_pos h, if_pos h]; exact own_shr0 _
  · rw [if_neg h, if_neg h]; exact own_shr1 hb
/-- one more than the place of the first ch among k chars from j on; 0: none -/
def own_ix (cs : List Int32) (ch : Int32) : Nat → Nat → Nat
  | _, 0 => 0
  | j, k + 1 => if cs.getD j 0 = ch then j + 1 else own_ix cs ch (j + 1) k
theorem own_ixle (cs : List Int32) (ch : Int32) : ∀ (k j : Nat), own_ix cs ch j k ≤ j + k
  | 0, j => by simp [own_ix]
  | k + 1, j => by
    unfold own_ix; split
    · omega
    · have := own_ixle cs ch k (j + 1); omega
theorem own_ix0 (cs : List Int32) (ch : Int32) (h : ∀ c ∈ cs, c ≠ ch) : ∀ (k j : Nat), j + k ≤ cs.length → own_ix cs ch j k = 0
  | 0, j, _ => rfl
  | k + 1, j, hj => by
    unfold own_ix
    rw [if_neg (h _ (own_mem cs j (by omega)))]
    exact own_ix0 cs ch h k (j + 1) (by omega)
theorem own_minT {i j : Nat} (hi : i ≤ 8000) (hj : j ≤ 8000) (h : ¬ ((Int32.ofNat j) < (Int32.ofNat i))) : Int32.ofNat i = Int32.ofNat (min i j) := by
  by_cases q : i ≤ j
  · rw [Nat.min_eq_left q]
  · exact absurd (own_lt (by omega) hi) h
theorem own_minF {i j : Nat} (hi : i ≤ 8000) (hj : j ≤ 8000) (h : (Int32.ofNat j) < (Int32.ofNat i)) : Int32.ofNat j = Int32.ofNat (min i j) := by
  by_cases q : i ≤ j
  · exact absurd h (own_nlt q hj)
  · rw [Nat.min_eq_right (by omega)]
theorem own_maxT {i j : Nat} (hi : i ≤ 8000) (hj : j ≤ 8000) (h : (Int32.ofNat i) < (Int32.ofNat j)) : Int32.ofNat j = Int32.ofNat (max i j) := by
  by_cases q : j ≤ i
  · exact absurd h (own_nlt q hi)
  · rw [Nat.max_eq_right (by omega)]
theorem own_maxF {i j : Nat} (hi : i ≤ 8000) (hj : j ≤ 8000) (h : ¬ ((Int32.ofNat i) < (Int32.ofNat j))) : Int32.ofNat i = Int32.ofNat (max i j) := by
  by_cases q : j ≤ i
  · rw [Nat.max_eq_left q]
  · exact absurd (own_lt (by omega) hj) h
theorem own_found (j : Nat) : Int32.ofNat j = Int32.ofNat (j + 1) - (1 : Int32) := by rw [own_up, Int32.add_sub_cancel]
theorem own_geth (cs : List Int32) (j : Nat) (d : Value) (hl : own_lat cs) (hj : j < cs.length) (hb : cs.length ≤ 8000) : (own_enc cs).getD (Int32.ofNat j).toNatClampNeg d = .int (own_lo (cs.getD j 0)) := by
  rw [own_enc, if_pos hl]; exact own_getl cs j d hj hb
theorem own_nari2c (z : Int32) : nar .char (i2c z) = i2c z := by
  have i := c_i2c z
  have k := c_i2c (z.toUInt32.toUInt16.toUInt32.toInt32)
  apply own_eqI
  show (z.toUInt32.toUInt16.toUInt32.toInt32).toUInt32.toUInt16.toUInt32.toInt32.toInt = z.toUInt32.toUInt16.toUInt32.toInt32.toInt
  omega
theorem own_rng {q z : Int32} (h : q = i2c z) : ¬ (q < (0 : Int32)) ∧ ¬ ((65535 : Int32) < q) := by
  have i := c_i2c z
  have e : q.toInt = z.toUInt32.toUInt16.toUInt32.toInt32.toInt := congrArg Int32.toInt h
  rw [Int32.lt_iff_toInt_lt, Int32.lt_iff_toInt_lt]
  have : (0 : Int32).toInt = 0 := rfl
  have : (65535 : Int32).toInt = 65535 := rfl
  omega
theorem own_chs0 : own_chs [] := fun _ h => nomatch h
theorem own_chsS {c : Int32} {r : List Int32} (h : ¬ (c < (0 : Int32)) ∧ ¬ ((65535 : Int32) < c)) (g : own_chs r) : own_chs (c :: r) := fun d hd => by
  rcases List.mem_cons.mp hd with rfl | hd
  · exact h
  · exact g d hd
theorem own_lat0 : own_lat [] := fun _ h => nomatch h
theorem own_latS {c : Int32} {r : List Int32} (h : ¬ ((255 : Int32) < c)) (g : own_lat r) : own_lat (c :: r) := fun d hd => by
  rcases List.mem_cons.mp hd with rfl | hd
  · exact h
  · exact g d hd
theorem own_int (z : Int32) (n : Nat) (h : z.toInt = n) : z = Int32.ofNat n := by
  apply Int32.toInt_inj.mp
  rw [h]
  have := z.toInt_lt
  have := z.le_toInt
  rw [Int32.toInt_ofNat_of_lt]
  omega
theorem own_and3 (z : Int32) : ∃ n : Nat, (z &&& (3 : Int32)) = Int32.ofNat n ∧ n < 4 := by
  have h := c_mask z 3 2 (by decide) (by decide)
  refine ⟨(z.toInt % 4).toNat, own_int _ _ ?_, by omega⟩
  rw [h]; omega
theorem own_modn (z : Int32) (d : Int32) (k : Nat) (hd : d.toInt = k) (hk : 0 < k) (hk2 : k ≤ 100) : ∃ n : Nat, ((z &&& (2147483647 : Int32)) % d) = Int32.ofNat n ∧ n < k := by
  have h := c_mask z 2147483647 31 (by decide) (by decide)
  have h2 := (c_irem (z &&& (2147483647 : Int32)) d k hd).1 (by rw [h]; omega)
  have h3 : 0 ≤ (z &&& (2147483647 : Int32)).toInt := by rw [h]; omega
  have h4 := Int.emod_nonneg (z &&& (2147483647 : Int32)).toInt (show (k : Int) ≠ 0 by omega)
  have h5 := Int.emod_lt_of_pos (z &&& (2147483647 : Int32)).toInt (show (0 : Int) < k by omega)
  refine ⟨((z &&& (2147483647 : Int32)).toInt % k).toNat, own_int _ _ ?_, by omega⟩
  rw [h2]; omega
theorem own_lt16 {c : Int32} (h : ¬ ((65535 : Int32) < c)) : c < (65536 : Int32) := by
  rw [Int32.lt_iff_toInt_lt] at *
  have : (65535 : Int32).toInt = 65535 := rfl
  have : (65536 : Int32).toInt = 65536 := rfl
  omega
theorem own_sub0 {i n : Nat} (h : ¬ ((Int32.ofNat i) < (Int32.ofNat n))) (hn : n ≤ 8000) : n - i = 0 := by
  by_cases q : i < n
  · exact absurd (own_lt q hn) h
  · omega
theorem own_cod0 {cs : List Int32} (h : own_lat cs) : own_cod cs = (0 : Int32) := if_pos h
theorem own_cod1 {cs : List Int32} (h : ¬ own_lat cs) : ¬ (own_cod cs = (0 : Int32)) := by rw [own_cod, if_neg h]; decide
/-- a String's bytes as ints -/
def own_wb : List Int32 → List Int32
  | [] => []
  | c :: r => own_lo (c >>> ((0 : Int32) &&& 31)) :: own_lo (c >>> ((8 : Int32) &&& 31)) :: own_wb r
def own_eb (cs : List Int32) : List Int32 := if own_lat cs then cs.map own_lo else own_wb cs
theorem own_wideb : ∀ cs : List Int32, own_wide cs = (own_wb cs).map Value.int
  | [] => rfl
  | c :: r => by simp only [own_wide, own_wb, List.map_cons, own_wideb r]
theorem own_encb (cs : List Int32) : own_enc cs = (own_eb cs).map Value.int := by
  rw [own_enc, own_eb]; split
  · simp [own_low]
  · exact own_wideb cs
theorem own_wbl : ∀ cs : List Int32, (own_wb cs).length = 2 * cs.length
  | [] => rfl
  | c :: r => by simp only [own_wb, List.length_cons, own_wbl r]; omega
theorem own_ebl (cs : List Int32) : (own_eb cs).length = own_enl cs := by
  rw [own_eb, own_enl]; split
  · simp
  · exact own_wbl cs
theorem own_mapinj : ∀ (cs ds : List Int32), own_chs cs → own_chs ds → own_lat cs → own_lat ds → cs.map own_lo = ds.map own_lo → cs = ds
  | [], [], _, _, _, _, _ => rfl
  | [], _ :: _, _, _, _, _, h => nomatch h
  | _ :: _, [], _, _, _, _, h => nomatch h
  | c :: r, d :: q, hc, hd, lc, ld, h => by
    simp only [List.map_cons, List.cons.injEq] at h
    have e : c = d := own_lo_inj (hc c (by simp)).1 (lc c (by simp)) (hd d (by simp)).1 (ld d (by simp)) h.1
    rw [e, own_mapinj r q (fun x hx => hc x (by simp [hx])) (fun x hx => hd x (by simp [hx])) (fun x hx => lc x (by simp [hx])) (fun x hx => ld x (by simp [hx])) h.2]
theorem own_wbinj : ∀ (cs ds : List Int32), own_chs cs → own_chs ds → own_wb cs = own_wb ds → cs = ds
  | [], [], _, _, _ => rfl
  | [], _ :: _, _, _, h => nomatch h
  | _ :: _, [], _, _, h => nomatch h
  | c :: r, d :: q, hc, hd, h => by
    simp only [own_wb, List.cons.injEq] at h
    have e : c = d := by
      rw [← own_pair (hc c (by simp)).1 (hc c (by simp)).2, ← own_pair (hd d (by simp)).1 (hd d (by simp)).2, h.1, h.2.1]
    rw [e, own_wbinj r q (fun x hx => hc x (by simp [hx])) (fun x hx => hd x (by simp [hx])) h.2.2]
theorem own_encinj {cs ds : List Int32} (hc : own_chs cs) (hd : own_chs ds) (h : own_cod cs = own_cod ds) (e : own_eb cs = own_eb ds) : cs = ds := by
  by_cases l1 : own_lat cs <;> by_cases l2 : own_lat ds
  · rw [own_eb, own_eb, if_pos l1, if_pos l2] at e; exact own_mapinj _ _ hc hd l1 l2 e
  · rw [own_cod, own_cod, if_pos l1, if_neg l2] at h; exact absurd h (by decide)
  · rw [own_cod, own_cod, if_neg l1, if_pos l2] at h; exact absurd h (by decide)
  · rw [own_eb, own_eb, if_neg l1, if_neg l2] at e; exact own_wbinj _ _ hc hd e
theorem own_ext {xs ys : List Int32} (hl : xs.length = ys.length) (h : ∀ i, i < xs.length → xs.getD i 0 = ys.getD i 0) : xs = ys := by
  apply List.ext_getElem hl
  intro i h1 h2
  have := h i h1
  simpa [List.getD_eq_getElem?_getD, List.getElem?_eq_getElem h1, List.getElem?_eq_getElem h2] using this
theorem own_enll (cs : List Int32) : own_enl cs ≤ 2 * cs.length := by rw [own_enl]; split <;> omega
def own_mk : Nat → Int32 → Int32 → Int32 → List Int32
  | 0, _, _, _ => []
  | 1, x, _, _ => [x]
  | 2, x, y, _ => [x, y]
  | _ + 3, x, y, z => [x, y, z]
theorem own_mkl (n : Nat) (x y z : Int32) : (own_mk n x y z).length ≤ 3 := by
  unfold own_mk; split <;> simp
theorem own_mkchs {n : Nat} {x y z : Int32} (h : n < 4) (hx : ¬ (x < (0 : Int32)) ∧ ¬ ((65535 : Int32) < x)) (hy : ¬ (y < (0 : Int32)) ∧ ¬ ((65535 : Int32) < y)) (hz : ¬ (z < (0 : Int32)) ∧ ¬ ((65535 : Int32) < z)) : own_chs (own_mk n x y z) := by
  unfold own_mk; split
  · exact own_chs0
  · exact own_chsS hx own_chs0
  · exact own_chsS hx (own_chsS hy own_chs0)
  · exact own_chsS hx (own_chsS hy (own_chsS hz own_chs0))
theorem own_le64k {c : Int32} (h : ¬ ((255 : Int32) < c)) : ¬ ((65535 : Int32) < c) := by
  rw [Int32.lt_iff_toInt_lt] at *
  have : (65535 : Int32).toInt = 65535 := rfl
  have : (255 : Int32).toInt = 255 := rfl
  omega
theorem own_small {z : Int32} (h : 0 ≤ z.toInt ∧ z.toInt ≤ 255) : ¬ (i2c z < (0 : Int32)) ∧ ¬ ((255 : Int32) < i2c z) := by
  have i := c_i2c z
  rw [Int32.lt_iff_toInt_lt, Int32.lt_iff_toInt_lt]
  have : (0 : Int32).toInt = 0 := rfl
  have : (255 : Int32).toInt = 255 := rfl
  show ¬ ((z.toUInt32.toUInt16.toUInt32.toInt32).toInt < (0 : Int32).toInt) ∧ ¬ ((255 : Int32).toInt < (z.toUInt32.toUInt16.toUInt32.toInt32).toInt)
  omega
theorem own_m255 (z : Int32) : 0 ≤ (z &&& (255 : Int32)).toInt ∧ (z &&& (255 : Int32)).toInt ≤ 255 := by
  have := c_mask z 255 8 (by decide) (by decide)
  omega
theorem own_b255 (z : Int32) : ¬ (i2c (z &&& (255 : Int32)) < (0 : Int32)) ∧ ¬ ((255 : Int32) < i2c (z &&& (255 : Int32))) := own_small (own_m255 z)
theorem own_k255 (z : Int32) : ¬ ((z &&& (255 : Int32)) < (0 : Int32)) ∧ ¬ ((255 : Int32) < (z &&& (255 : Int32))) := by
  have := own_m255 z
  rw [Int32.lt_iff_toInt_lt, Int32.lt_iff_toInt_lt]
  have : (0 : Int32).toInt = 0 := rfl
  have : (255 : Int32).toInt = 255 := rfl
  omega
theorem own_xb (z w : Int32) (h : 0 ≤ z.toInt ∧ z.toInt ≤ 255) (g : 0 ≤ w.toInt ∧ w.toInt ≤ 255) : 0 ≤ (z ^^^ w).toInt ∧ (z ^^^ w).toInt ≤ 255 := by
  have t (v : Int32) (h : 0 ≤ v.toInt ∧ v.toInt ≤ 255) : v.toBitVec.toNat < 256 := by
    have := v.toBitVec.isLt
    have e : v.toInt = v.toBitVec.toInt := rfl
    rw [BitVec.toInt_eq_toNat_cond] at e
    split at e <;> omega
  have h1 := t z h
  have h2 := t w g
  have h3 : (z ^^^ w).toBitVec.toNat < 256 := by
    rw [Int32.toBitVec_xor, BitVec.toNat_xor]
    exact Nat.xor_lt_two_pow (n := 8) h1 h2
  have e : (z ^^^ w).toInt = (z ^^^ w).toBitVec.toInt := rfl
  rw [BitVec.toInt_eq_toNat_cond] at e
  split at e <;> omega
theorem own_x255 {z w : Int32} (h : ¬ (z < (0 : Int32)) ∧ ¬ ((255 : Int32) < z)) (g : ¬ (w < (0 : Int32)) ∧ ¬ ((255 : Int32) < w)) : ¬ (i2c (z ^^^ w) < (0 : Int32)) ∧ ¬ ((255 : Int32) < i2c (z ^^^ w)) := by
  rw [Int32.lt_iff_toInt_lt, Int32.lt_iff_toInt_lt] at h g
  have : (0 : Int32).toInt = 0 := rfl
  have : (255 : Int32).toInt = 255 := rfl
  exact own_small (own_xb z w (by omega) (by omega))
theorem own_chr {c : Int32} (h0 : ¬ (c < (0 : Int32))) (h1 : ¬ ((255 : Int32) < c)) : nar .char (i2c (own_lo c &&& (255 : Int32))) = c := by
  rw [own_nari2c]
  apply own_eqI
  have a := c_i2b c
  have m := c_mask (own_lo c) 255 8 (by decide) (by decide)
  change ((own_lo c).toInt - c.toInt) % 256 = 0 ∧ _ at a
  have i := c_i2c (own_lo c &&& (255 : Int32))
  show ((own_lo c &&& (255 : Int32)).toUInt32.toUInt16.toUInt32.toInt32).toInt = c.toInt
  rw [Int32.lt_iff_toInt_lt] at h0 h1
  have : (0 : Int32).toInt = 0 := rfl
  have : (255 : Int32).toInt = 255 := rfl
  omega
theorem own_enl0 {cs : List Int32} (hb : cs.length ≤ 4000) : (Int32.ofNat (own_enl cs)) = (0 : Int32) ↔ cs = [] := by
  constructor
  · intro e
    have h : own_enl cs = 0 := own_inj (n := 0) (by have := own_enll cs; omega) (by decide) e
    have : cs.length = 0 := by rw [own_enl] at h; split at h <;> omega
    exact List.eq_nil_of_length_eq_zero this
  · rintro rfl; rw [own_enl, if_pos own_lat0]; rfl
theorem own_addn (a b : Nat) : (Int32.ofNat a) + (Int32.ofNat b) = Int32.ofNat (a + b) := (Int32.ofNat_add a b).symm
theorem own_subn {n k : Nat} (h : k ≤ n) : (Int32.ofNat n) - (Int32.ofNat k) = Int32.ofNat (n - k) := by
  obtain ⟨j, rfl⟩ : ∃ j, n = j + k := ⟨n - k, by omega⟩
  rw [Int32.ofNat_add, Int32.add_sub_cancel, Nat.add_sub_cancel]
theorem own_lo255 {c : Int32} (h0 : ¬ (c < (0 : Int32))) (h1 : ¬ ((255 : Int32) < c)) : own_lo c &&& (255 : Int32) = c := by
  apply own_eqI
  have a := c_i2b c
  have m := c_mask (own_lo c) 255 8 (by decide) (by decide)
  change ((own_lo c).toInt - c.toInt) % 256 = 0 ∧ _ at a
  rw [Int32.lt_iff_toInt_lt] at h0 h1
  have : (0 : Int32).toInt = 0 := rfl
  have : (255 : Int32).toInt = 255 := rfl
  omega
theorem own_towide {Z : State} {h : Heap} {b : Addr} {k : ClassId} {cs : List Int32} {d : Value} (l : ¬ own_lat cs) (F : Arv Z h b k .byte (Int32.ofNat (own_enl cs)) (own_enc cs) d) : Arv Z h b k .byte (Int32.ofNat (2 * cs.length)) (own_wide cs) d := by
  rw [own_enl, own_enc, if_neg l, if_neg l] at F; exact F
theorem own_tolat {Z : State} {h : Heap} {b : Addr} {k : ClassId} {cs : List Int32} {d : Value} (l : own_lat cs) (F : Arv Z h b k .byte (Int32.ofNat (own_enl cs)) (own_enc cs) d) : Arv Z h b k .byte (Int32.ofNat cs.length) (own_enc cs) d := by
  rw [own_enl, if_pos l] at F; exact F
theorem own_subt {n k : Nat} (hn : n ≤ 8000) (hk : k ≤ 8000) : ((Int32.ofNat n) - (Int32.ofNat k)).toInt = (n : Int) - k := by
  have a := c_isub (Int32.ofNat n) (Int32.ofNat k)
  rw [own_ti hn, own_ti hk] at a
  have r := rng32 ((Int32.ofNat n) - (Int32.ofNat k))
  omega
theorem own_subneg {n k : Nat} (h : n < k) (hk : k ≤ 8000) : ((Int32.ofNat n) - (Int32.ofNat k)) < (0 : Int32) := by
  rw [Int32.lt_iff_toInt_lt, own_subt (by omega) hk]
  show (n : Int) - k < 0
  omega
theorem own_m5t {i n : Nat} (h : i + 5 < n) (hn : n ≤ 8000) : (Int32.ofNat i) < ((Int32.ofNat n) - (5 : Int32)) := by
  rw [Int32.lt_iff_toInt_lt, own_ti (by omega)]
  have := own_subt (n := n) (k := 5) hn (by decide)
  have e : ((Int32.ofNat n) - (5 : Int32)).toInt = (n : Int) - (5 : Nat) := this
  rw [e]; omega
theorem own_m5f {i n : Nat} (h : n ≤ i + 5) (hn : n ≤ 8000) (hi : i ≤ 8000) : ¬ ((Int32.ofNat i) < ((Int32.ofNat n) - (5 : Int32))) := by
  rw [Int32.lt_iff_toInt_lt, own_ti hi]
  have := own_subt (n := n) (k := 5) hn (by decide)
  have e : ((Int32.ofNat n) - (5 : Int32)).toInt = (n : Int) - (5 : Nat) := this
  rw [e]; omega
theorem own_i5n {i n : Nat} (h : n ≤ i + 5) (hn : n ≤ 4000) (hi : i ≤ 4000) : (Int32.ofNat i) - ((Int32.ofNat n) - (5 : Int32)) = Int32.ofNat (i + 5 - n) := by
  apply own_eqI
  have := own_subt (n := n) (k := 5) (by omega) (by decide)
  have e : ((Int32.ofNat n) - (5 : Int32)).toInt = (n : Int) - (5 : Nat) := this
  have a := c_isub (Int32.ofNat i) ((Int32.ofNat n) - (5 : Int32))
  have r := rng32 ((Int32.ofNat i) - ((Int32.ofNat n) - (5 : Int32)))
  rw [e, own_ti (by omega)] at a
  rw [own_ti (by omega : i + 5 - n ≤ 8000)]
  omega
theorem own_chsset {cs : List Int32} {i : Nat} {v : Int32} (h : own_chs cs) (g : ¬ (v < (0 : Int32)) ∧ ¬ ((65535 : Int32) < v)) : own_chs (cs.set i v) := fun c hc => (List.mem_or_eq_of_mem_set hc).elim (h c) (fun e => e ▸ g)
theorem own_chsrep (n : Nat) : own_chs (List.replicate n (0 : Int32)) := fun c hc => by
  rw [List.eq_of_mem_replicate hc]; exact ⟨by decide, by decide⟩
theorem own_ge5 {n : Nat} (h : ¬ ((Int32.ofNat n) < (5 : Int32))) (hb : n ≤ 8000) : 5 ≤ n := by
  by_cases q : 5 ≤ n
  · exact q
  · exact absurd (own_lt (n := 5) (by omega) (by decide)) h
theorem own_ltN {i n : Nat} (h : (Int32.ofNat i) < (Int32.ofNat n)) (hi : i ≤ 8000) : i < n := by
  by_cases q : i < n
  · exact q
  · exact absurd h (own_nlt (by omega) hi)
theorem own_and15 (z : Int32) : ∃ n : Nat, (z &&& (15 : Int32)) = Int32.ofNat n ∧ n < 16 := by
  have h := c_mask z 15 4 (by decide) (by decide)
  refine ⟨(z.toInt % 16).toNat, own_int _ _ ?_, by omega⟩
  rw [h]; omega
/-- ps stands in cs at o -/
abbrev own_at (ps cs : List Int32) (o : Nat) : Prop := o + ps.length ≤ cs.length ∧ ∀ i, i < ps.length → cs.getD (o + i) 0 = ps.getD i 0
theorem own_at5 {a b c d e : Int32} {cs : List Int32} {o : Nat} : own_at [a, b, c, d, e] cs o ↔ (o + 5 ≤ cs.length ∧ cs.getD o 0 = a ∧ cs.getD (o + 1) 0 = b ∧ cs.getD (o + 2) 0 = c ∧ cs.getD (o + 3) 0 = d ∧ cs.getD (o + 4) 0 = e) := by
  constructor
  · rintro ⟨h, g⟩
    exact ⟨h, g 0 (show 0 < 5 by decide), g 1 (show 1 < 5 by decide), g 2 (show 2 < 5 by decide), g 3 (show 3 < 5 by decide), g 4 (show 4 < 5 by decide)⟩
  · rintro ⟨h, h0, h1, h2, h3, h4⟩
    refine ⟨h, fun i hi => ?_⟩
    have hi' : i < 5 := hi
    rcases (by omega : i = 0 ∨ i = 1 ∨ i = 2 ∨ i = 3 ∨ i = 4) with rfl | rfl | rfl | rfl | rfl
    · exact h0
    · exact h1
    · exact h2
    · exact h3
    · exact h4
theorem own_nest5 (L A B C D E : Prop) [Decidable L] [Decidable A] [Decidable B] [Decidable C] [Decidable D] [Decidable E] : (if L then (0 : Int32) else (if A then (if B then (if C then (if D then (if E then (1 : Int32) else (0 : Int32)) else (0 : Int32)) else (0 : Int32)) else (0 : Int32)) else (0 : Int32))) = if (¬ L ∧ A ∧ B ∧ C ∧ D ∧ E) then (1 : Int32) else (0 : Int32) := by
  by_cases h0 : L
  · simp [h0]
  by_cases h1 : A
  · by_cases h2 : B
    · by_cases h3 : C
      · by_cases h4 : D
        · by_cases h5 : E <;> simp [h0, h1, h2, h3, h4, h5]
        · simp [h0, h1, h2, h3, h4]
      · simp [h0, h1, h2, h3]
    · simp [h0, h1, h2]
  · simp [h0, h1]
theorem own_ifc {A B : Prop} [Decidable A] [Decidable B] (h : A ↔ B) : (if A then (1 : Int32) else (0 : Int32)) = (if B then (1 : Int32) else (0 : Int32)) := by
  by_cases q : A
  · rw [if_pos q, if_pos (h.mp q)]
  · rw [if_neg q, if_neg (fun b => q (h.mpr b))]
theorem own_and2 (A B : Prop) [Decidable A] [Decidable B] : (if A ∧ B then (1 : Int32) else (0 : Int32)) = (if (if A then (1 : Int32) else (0 : Int32)) = (0 : Int32) then (0 : Int32) else (if (if B then (1 : Int32) else (0 : Int32)) = (0 : Int32) then (0 : Int32) else (1 : Int32))) := by
  by_cases h1 : A <;> by_cases h2 : B <;> simp [h1, h2]
theorem own_m {Z : State} {a0 : Array Value} (hw : ∀ d ∈ tables_1, d.before a0 Z = true) (i : Nat) {d : Jvm.Cond} (h : tables_1[i]? = some d) : d.before a0 Z = true := hw _ (List.mem_of_getElem? h)
abbrev ELs : List (String × Nat) := consts_1
theorem own_EW {Z : State} {a0 : Array Value} (hw : ∀ d ∈ tables_1, d.before a0 Z = true) : EW Z a0 ELs := (EW.cons (own_m hw 30 rfl) (by decide) (EW.cons (own_m hw 93 rfl) (by decide) (EW.cons (own_m hw 66 rfl) (by decide) (EW.cons (own_m hw 99 rfl) (by decide) (EW.cons (own_m hw 18 rfl) (by decide) EW.nil)))))
theorem own_wS {Z : State} {a0 : Array Value} (hw : ∀ d ∈ tables_1, d.before a0 Z = true) : ∀ a ∈ Bundle.stringAtoms, a.before a0 Z = true := by
  intro a ha
  simp only [Bundle.stringAtoms, List.mem_cons, List.not_mem_nil, or_false] at ha
  rcases ha with rfl | rfl | rfl | rfl | rfl | rfl | rfl
  · exact (own_m hw 7 rfl)
  · exact (own_m hw 6 rfl)
  · exact (own_m hw 19 rfl)
  · exact (own_m hw 20 rfl)
  · exact (own_m hw 21 rfl)
  · exact (own_m hw 22 rfl)
  · exact (own_m hw 23 rfl)
theorem own_NSroot {Z : State} {a0 : Array Value} {O K : String} {n : Nat} (w : (Jvm.Cond.noSuperclass O).before a0 Z = true) (wk : (Jvm.Cond.instantiable K n).before a0 Z = true) (hn : O ≠ K) : NS Z O K := by
  obtain ⟨c, k, h1, h2, h3, -, -⟩ := Cond.noSuperclass_spec w
  obtain ⟨t, kt, g1, -⟩ := Cond.instantiable_spec wk
  have ne := ids_ne h1 g1 hn
  refine ⟨c, t, h1, g1, fun fuel => ?_⟩
  cases fuel with
  | zero => rfl
  | succ f => simp [Vm.isSubclassAux, ne, h2, h3]
theorem own_NSno {Z : State} {a0 : Array Value} {C S K : String} {m : Nat} (w : (Jvm.Cond.superclass C S).before a0 Z = true) (wk : (Jvm.Cond.instantiable K m).before a0 Z = true) (n : NS Z C K) (hn : C ≠ K) : ∃ c t, Z.vm.findClass C = some c ∧ Z.vm.findClass K = some t ∧ Z.vm.assignable c t = false := by
  obtain ⟨c, t, h0, g0, n3⟩ := n
  obtain ⟨p, k, kp, h1, h2, h3, h4, h5, -, h7⟩ := Cond.superclass_spec h0 w
  obtain ⟨t', k', q1, q2, q3, q4, -⟩ := Cond.instantiable_spec wk
  cases g0.symm.trans q1
  have q5 : k'.isInterface = false := (Bool.or_eq_false_iff.mp q4).1
  have ne := ids_ne h0 g0 hn
  refine ⟨c, t, h0, g0, ?_⟩
  show Z.vm.assignableAux (255 + 1) c t = false
  simp [Vm.assignableAux, ne, h2, q2, h5, q3, q5, Vm.isSubclass, n3]
/-- a String whose value is still null is no constant's -/
theorem own_safeN {Z : State} {EL : List (String × Nat)} {vm : Vm} {h : Heap} {a : Addr} (hal : Z.vm.Alike vm) (E : Exa Z h a "java/lang/String") (F : Fld Z h a "java/lang/String" "value" "[B" .null) : Safe Z EL vm h a := fun B => by
  obtain ⟨p, -, u, a', -, q, -, S, rfl | rfl⟩ := B
  · obtain ⟨cS, ⟨⟨s1, -, -, ⟨c1, k1, i1, f1, -⟩, -, -, -, v1, -⟩, -⟩, -⟩ := S
    obtain ⟨cell, cf, k', i', f, e1, e2, -, -, -, -, e7⟩ := F
    cases (show h[q.sa]? = some q.sC from s1).symm.trans e1
    obtain ⟨k3, e3, -⟩ := State.fieldFound?_setVm (s := Z) hal e2
    have e4 := (show (Wst Z vm h).fieldFound? _ _ _ = _ from e3).symm.trans f1
    simp only [Option.some.injEq, Prod.mk.injEq] at e4
    rw [← e4.2.2.2, e7] at v1
    cases v1
  · obtain ⟨cell, k, e1, e2, e3, -, -⟩ := E
    cases (show h[q.sd]? = some q.SA from S.hd).symm.trans e1
    obtain ⟨cS, -, -, f, -⟩ := S
    have f' : vm.findClass "[B" = some q.SA.cls := f
    rw [hal.findClass] at f'
    obtain ⟨k1, q1, q2⟩ := Vm.findClass_spec f'
    obtain ⟨k2, q3, q4⟩ := Vm.findClass_spec e2
    cases q1.symm.trans q3
    exact absurd (q2.symm.trans q4) (by decide)
theorem own_fix0 {Z : State} {hh : Heap} {b : Addr} {kb : ClassId} {cs : List Int32} {d : Value} (h : cs = []) (F : Arv Z hh b kb .byte (0 : Int32) [] d) : Arv Z hh b kb .byte (Int32.ofNat (own_enl cs)) (own_enc cs) d := by
  subst h
  rw [own_enl, own_enc, if_pos own_lat0, if_pos own_lat0]; exact F
theorem own_pos {n : Nat} (h : ¬ ((Int32.ofNat n) = (0 : Int32))) : 0 < n := by
  cases n with
  | zero => exact absurd rfl h
  | succ n => omega
def own_tp : List Int32 := [(112 : Int32), (97 : Int32), (114 : Int32), (116 : Int32), (45 : Int32)]
theorem own_tp_lat : own_lat own_tp := by decide
theorem own_tp_chs : own_chs own_tp := by decide
theorem own_tp_lit {Z : State} {h : Heap} {b : Addr} {k : ClassId} (F : Arv Z h b k .byte (5 : Int32) [(.int (112 : Int32)), (.int (97 : Int32)), (.int (114 : Int32)), (.int (116 : Int32)), (.int (45 : Int32))] (.int (0 : Int32))) : Arv Z h b k .byte (Int32.ofNat (own_enl own_tp)) (own_enc own_tp) (.int (0 : Int32)) := by
  rw [own_enl, own_enc, if_pos own_tp_lat, if_pos own_tp_lat]; exact F
def own_tj : List Int32 := [(46 : Int32), (106 : Int32), (115 : Int32), (111 : Int32), (110 : Int32)]
theorem own_tj_lat : own_lat own_tj := by decide
theorem own_tj_chs : own_chs own_tj := by decide
theorem own_tj_lit {Z : State} {h : Heap} {b : Addr} {k : ClassId} (F : Arv Z h b k .byte (5 : Int32) [(.int (46 : Int32)), (.int (106 : Int32)), (.int (115 : Int32)), (.int (111 : Int32)), (.int (110 : Int32))] (.int (0 : Int32))) : Arv Z h b k .byte (Int32.ofNat (own_enl own_tj)) (own_enc own_tj) (.int (0 : Int32)) := by
  rw [own_enl, own_enc, if_pos own_tj_lat, if_pos own_tj_lat]; exact F
theorem own_sok {ds : List Int32} {n : Nat} (hl : ds.length = n) (hn : n < 16) : (if (Int32.ofNat n) < (5 : Int32) then (0 : Int32) else (if (ds.getD 0 0) = (112 : Int32) then (if (ds.getD 1 0) = (97 : Int32) then (if (ds.getD 2 0) = (114 : Int32) then (if (ds.getD 3 0) = (116 : Int32) then (if (ds.getD 4 0) = (45 : Int32) then (1 : Int32) else (0 : Int32)) else (0 : Int32)) else (0 : Int32)) else (0 : Int32)) else (0 : Int32))) = (if own_at own_tp ds 0 then (1 : Int32) else (0 : Int32)) := by
  rw [own_nest5]
  refine own_ifc (Iff.trans ?_ (own_at5 (o := 0)).symm)
  constructor
  · rintro ⟨q, r⟩
    have := own_ge5 q (by omega)
    exact ⟨by omega, r⟩
  · rintro ⟨q, r⟩
    exact ⟨own_nlt (n := 5) (by omega) (by omega), r⟩
theorem own_eok {ds : List Int32} {n : Nat} (hl : ds.length = n) (hn : n < 16) : (if (Int32.ofNat n) < (5 : Int32) then (0 : Int32) else (if (ds.getD (n - 5) 0) = (46 : Int32) then (if (ds.getD (n - 4) 0) = (106 : Int32) then (if (ds.getD (n - 3) 0) = (115 : Int32) then (if (ds.getD (n - 2) 0) = (111 : Int32) then (if (ds.getD (n - 1) 0) = (110 : Int32) then (1 : Int32) else (0 : Int32)) else (0 : Int32)) else (0 : Int32)) else (0 : Int32)) else (0 : Int32))) = (if own_at own_tj ds (ds.length - own_tj.length) then (1 : Int32) else (0 : Int32)) := by
  rw [own_nest5]
  refine own_ifc ?_
  rw [hl]
  refine Iff.trans ?_ (own_at5 (o := n - 5)).symm
  by_cases h : 5 ≤ n
  · rw [show n - 4 = n - 5 + 1 by omega, show n - 3 = n - 5 + 2 by omega, show n - 2 = n - 5 + 3 by omega, show n - 1 = n - 5 + 4 by omega]
    constructor
    · rintro ⟨-, r⟩
      exact ⟨by omega, r⟩
    · rintro ⟨-, r⟩
      exact ⟨own_nlt (n := 5) h (by omega), r⟩
  · constructor
    · rintro ⟨q, -⟩
      exact absurd (own_ge5 q (by omega)) h
    · rintro ⟨q, -⟩
      exact absurd q (by omega)
theorem dd {c : ClassFile.Code} {b : ByteArray} (h : c.code = b) {pc : Nat} {r : Except ClassFile.DecodeError (ClassFile.Instr × Nat)} (d : ClassFile.decode b pc = r) : ClassFile.decode c.code pc = r := Jvm.hb h d
abbrev HW (Z : State) (a0 : Array Value) : Prop := ∀ d ∈ tables_1, d.before a0 Z = true
theorem own_pre {p : Program} {e : Env} {below : List Frame} {T : State} {f g : JFrame} (h : f = g) : ∀ t_, Steps p.tables e below (T.setTop g) t_ → Steps p.tables e below (T.setTop f) t_ := fun t_ k_ => castTop h k_
abbrev MF (l : Launch) (Z : State) (y : MethodName) (ws : List Jvm.Cond) (R : Room) (A : Array Value) (h0 : Heap) (Q : Option Value → Heap → List Loc → Prop) : Prop := MetFree l y (head1 ws R) (fun ar_ U => ar_ = A ∧ Z.Warmed39 U.vm ∧ U.heap = h0) (fun _ _ _ _ _ => True) (fun _ U oc_ U' => ∃ v L, oc_ = .returned v ∧ Q v U'.heap L ∧ FrameEnd U oc_ U' L R.cells R.slots)
abbrev v0_ : Value := .int (0 : Int32)
abbrev cS : String := "java/lang/String"
abbrev cB : String := "java/lang/StringBuilder"
abbrev cA : String := "java/lang/AbstractStringBuilder"
abbrev cU : String := "java/lang/StringUTF16"
abbrev cP : String := "jdk/internal/util/Preconditions"
abbrev cF : String := "Ljava/util/function/BiFunction;"
abbrev cG : String := "SIOOBE_FORMATTER"
abbrev cC : String := "COMPACT_STRINGS"
abbrev cD : String := "$assertionsDisabled"
abbrev cH : String := "HI_BYTE_SHIFT"
abbrev cL : String := "LO_BYTE_SHIFT"
abbrev M0_ : MethodName := ⟨"java/lang/StringUTF16", "compress", "([CI[BII)I"⟩
abbrev M1_ : MethodName := ⟨"java/lang/StringUTF16", "coderFromArrayLen", "([BI)B"⟩
abbrev M2_ : MethodName := ⟨"java/lang/StringUTF16", "newBytesLength", "(I)I"⟩
abbrev M3_ : MethodName := ⟨"java/lang/StringUTF16", "newBytesFor", "(I)[B"⟩
abbrev M4_ : MethodName := ⟨"java/lang/StringUTF16", "putChar", "([BII)V"⟩
abbrev M5_ : MethodName := ⟨"java/lang/StringUTF16", "getChar", "([BI)C"⟩
abbrev M6_ : MethodName := ⟨"java/lang/StringUTF16", "toBytes", "([CII)[B"⟩
abbrev M7_ : MethodName := ⟨"java/lang/StringUTF16", "compress", "([CII)[B"⟩
abbrev M8_ : MethodName := ⟨"java/lang/String", "<init>", "([CIILjava/lang/Void;)V"⟩
abbrev M9_ : MethodName := ⟨"java/lang/String", "<init>", "([C)V"⟩
abbrev M10_ : MethodName := ⟨"java/lang/String", "coder", "()B"⟩
abbrev M11_ : MethodName := ⟨"java/lang/String", "length", "()I"⟩
abbrev M12_ : MethodName := ⟨"java/lang/String", "isLatin1", "()Z"⟩
abbrev M13_ : MethodName := ⟨"jdk/internal/util/Preconditions", "checkIndex", "(IILjava/util/function/BiFunction;)I"⟩
abbrev M14_ : MethodName := ⟨"java/lang/String", "checkIndex", "(II)V"⟩
abbrev M15_ : MethodName := ⟨"java/lang/StringLatin1", "charAt", "([BI)C"⟩
abbrev M16_ : MethodName := ⟨"java/lang/String", "charAt", "(I)C"⟩
abbrev M17_ : MethodName := ⟨"jdk/internal/util/ArraysSupport", "mismatch", "([BI[BII)I"⟩
abbrev M18_ : MethodName := ⟨"java/lang/String", "startsWith", "(Ljava/lang/String;I)Z"⟩
abbrev M19_ : MethodName := ⟨"java/lang/String", "startsWith", "(Ljava/lang/String;)Z"⟩
abbrev M20_ : MethodName := ⟨"java/lang/String", "endsWith", "(Ljava/lang/String;)Z"⟩
abbrev M21_ : MethodName := ⟨"io/dyeline/store/Layout", "isDataFile", "(Ljava/lang/String;)Z"⟩
abbrev M22_ : MethodName := ⟨"io/dyeline/store/LayoutIsDataFilePinLaw", "drawn", "(JJI)C"⟩
abbrev M23_ : MethodName := ⟨"io/dyeline/store/LayoutIsDataFilePinLaw", "put", "([CIZZJJ)V"⟩
abbrev CJ52_21 := jdk_52_method_21_code
abbrev CJ52_15 := jdk_52_method_15_code
abbrev CJ52_3 := jdk_52_method_3_code
abbrev CJ52_2 := jdk_52_method_2_code
abbrev CJ52_4 := jdk_52_method_4_code
abbrev CJ52_5 := jdk_52_method_5_code
abbrev CJ52_14 := jdk_52_method_14_code
abbrev CJ52_16 := jdk_52_method_16_code
abbrev CJ42_149 := jdk_42_method_149_code
abbrev CJ42_3 := jdk_42_method_3_code
abbrev CJ42_152 := jdk_42_method_152_code
abbrev CJ42_54 := jdk_42_method_54_code
abbrev CJ42_154 := jdk_42_method_154_code
abbrev CJ41_11 := jdk_41_method_11_code
abbrev CJ42_155 := jdk_42_method_155_code
abbrev CJ43_2 := jdk_43_method_2_code
abbrev CJ42_56 := jdk_42_method_56_code
abbrev CJ48_14 := jdk_48_method_14_code
abbrev CJ42_75 := jdk_42_method_75_code
abbrev CJ42_76 := jdk_42_method_76_code
abbrev CJ42_77 := jdk_42_method_77_code
abbrev CP8_2 := prog_8_method_2_code
abbrev C2 := method_2_code
abbrev C3 := method_3_code
theorem pn_java_lang_StringUTF16 : plainName "java/lang/StringUTF16" = true := by first | (simp [plainName, overriddenIn]; done) | decide +kernel
theorem dJ52_21_0 : decode CJ52_21 0 = .ok (.iconst 0, 1) := by decide +kernel
theorem dJ52_21_1 : decode CJ52_21 1 = .ok (.istore 5, 2) := by decide +kernel
theorem dJ52_21_3 : decode CJ52_21 3 = .ok (.iload 5, 2) := by decide +kernel
theorem dJ52_21_5 : decode CJ52_21 5 = .ok (.iload 4, 2) := by decide +kernel
theorem dJ52_21_7 : decode CJ52_21 7 = .ok (.if_icmp .ge 37, 3) := by decide +kernel
theorem dJ52_21_10 : decode CJ52_21 10 = .ok (.aload_n 0, 1) := by decide +kernel
theorem dJ52_21_11 : decode CJ52_21 11 = .ok (.iload_n 1, 1) := by decide +kernel
theorem dJ52_21_12 : decode CJ52_21 12 = .ok (.caload, 1) := by decide +kernel
theorem os_rmCmpL_13 {z0 : Value} {z1 : Value} {z2 : Value} {z3 : Value} {z4 : Value} {z5 : Value} {s6 : Slot} {v : Int32} (h : One s6) : storeLocals #[.val z0, .val z1, .val z2, .val z3, .val z4, .val z5, s6] 6 (.int v) = some #[.val z0, .val z1, .val z2, .val z3, .val z4, .val z5, .val (.int v)] := by
  rcases h with rfl | ⟨w, rfl, hw⟩
  · rfl
  · cases w <;> first | rfl | (simp [Value.category] at hw)
theorem dJ52_21_13 : decode CJ52_21 13 = .ok (.istore 6, 2) := by decide +kernel
theorem dJ52_21_15 : decode CJ52_21 15 = .ok (.iload 6, 2) := by decide +kernel
theorem dJ52_21_17 : decode CJ52_21 17 = .ok (.sipush 255, 3) := by decide +kernel
theorem dJ52_21_20 : decode CJ52_21 20 = .ok (.if_icmp .le 6, 3) := by decide +kernel
theorem dJ52_21_26 : decode CJ52_21 26 = .ok (.aload_n 2, 1) := by decide +kernel
theorem dJ52_21_27 : decode CJ52_21 27 = .ok (.iload_n 3, 1) := by decide +kernel
theorem dJ52_21_28 : decode CJ52_21 28 = .ok (.iload 6, 2) := by decide +kernel
theorem dJ52_21_30 : decode CJ52_21 30 = .ok (.i2b, 1) := by decide +kernel
theorem dJ52_21_31 : decode CJ52_21 31 = .ok (.bastore, 1) := by decide +kernel
theorem dJ52_21_32 : decode CJ52_21 32 = .ok (.iinc 1 1, 3) := by decide +kernel
theorem dJ52_21_35 : decode CJ52_21 35 = .ok (.iinc 3 1, 3) := by decide +kernel
theorem dJ52_21_38 : decode CJ52_21 38 = .ok (.iinc 5 1, 3) := by decide +kernel
theorem dJ52_21_41 : decode CJ52_21 41 = .ok (.goto (-38), 3) := by decide +kernel
theorem dJ52_21_44 : decode CJ52_21 44 = .ok (.iload 4, 2) := by decide +kernel
theorem dJ52_21_46 : decode CJ52_21 46 = .ok (.ireturn, 1) := by decide +kernel
theorem ef_rmCmpL (m : MethodId) (x0 : Addr) (x1 : Int32) (x2 : Addr) (x3 : Int32) (x4 : Int32) : entryFrame m #[(.ref x0), (.int x1), (.ref x2), (.int x3), (.int x4)] 7 = mkF m 0 #[.val (.ref x0), .val (.int x1), .val (.ref x2), .val (.int x3), .val (.int x4), .unset, .unset] [] := by first | (simp [entryFrame, mkF, argsToLocals, Value.category]; done) | rfl
abbrev R_rmCmpL : Room := ({ frames := 0, cells := 0, slots := 0, locals := 0 } : Room)
def Q_rmCmpL (Z : State) (ca : Addr) (ba : Addr) (cs : List Int32) (kc : ClassId) (n : Nat) (kb : ClassId) (vs : List Value) (h0 : Heap) (n0 : Nat) (v : Option Value) (h : Heap) (L : List Loc) : Prop := (v = some (.int (Int32.ofNat n))) ∧ (Fr n0 L) ∧ (Keep h0 h [ba]) ∧ (Arv Z h ba kb .byte (Int32.ofNat n) (own_mix (own_low cs) vs n) v0_)
set_option maxRecDepth 65536 in
set_option maxHeartbeats 40000000 in
theorem rmCmpL (l : Launch) (Z : State) (a0 : Array Value) (hw : HW Z a0) (ws : List Jvm.Cond) (ca : Addr) (ba : Addr) (cs : List Int32) (kc : ClassId) (n : Nat) (kb : ClassId) (vs : List Value) (h0 : Heap) (n0 : Nat) (Z0 : n0 ≤ h0.size) (I1 : Arv Z h0 ca kc .char (Int32.ofNat n) (cs.map Value.int) v0_) (I2 : Arv Z h0 ba kb .byte (Int32.ofNat n) vs v0_) (hn : cs.length = n) (hb : n ≤ 15) (hvs : vs.length = n) (gb : n0 ≤ ba) (hne : @Ne Nat ca ba) (hlat : own_lat cs) :
    MF l Z M0_ (Jvm.Cond.code M0_ jdk_52_method_21_code 7 (some .int) :: ws) R_rmCmpL #[(.ref ca), (.int (0 : Int32)), (.ref ba), (.int (0 : Int32)), (.int (Int32.ofNat n))] h0 (Q_rmCmpL Z ca ba cs kc n kb vs h0 n0) := by
  refine MetFree.of_bodySF (plainFor_of_name pn_java_lang_StringUTF16) hisR ?_
  intro p e s m args below meth c s₁ Bd hml0 hP hK
  obtain ⟨rfl, hZ, hh⟩ := hP
  have hx := Bd.exec
  have hy := Bd.bytes
  have hml : c.maxLocals = 7 := hml0
  have hown : s.vm.findClass "java/lang/StringUTF16" = some m.cls := findClass_of_methodNamed Bd.named
  have hnm := (name_of_methodNamed Bd.named Bd.method).1
  have X0 : Stand p l e R_rmCmpL s m #[(.ref ca), (.int (0 : Int32)), (.ref ba), (.int (0 : Int32)), (.int (Int32.ofNat n))] below meth c s₁ [] 0 0 := Stand.of_body Bd
  have e0 : s₁.heap = h0 := by rw [← hh, Bd.state]; rfl
  have N0 := Fr.nil n0
  have pre0 := own_pre (p := p) (e := e) (below := below) (T := s₁) (ef_rmCmpL m ca (0 : Int32) ba (0 : Int32) (Int32.ofNat n))
  have lt_I1 : @LT.lt Nat _ ca h0.size := I1.lt
  have lt_I2 : @LT.lt Nat _ ba h0.size := I2.lt
  have s1 : ∀ t_, Steps p.tables e below (s₁.setTop (mkF m 3 #[.val (.ref ca), .val (.int (0 : Int32)), .val (.ref ba), .val (.int (0 : Int32)), .val (.int (Int32.ofNat n)), .val (.int (0 : Int32)), .unset] [])) t_ → Steps _ _ _ _ t_ := fun t_ k_ => pre0 t_ (by
    refine XS.iconst X0.here hx rfl (dd hy dJ52_21_0) ?_
    refine XS.istore X0.here hx rfl (dd hy dJ52_21_1) rfl (l' := #[.val (.ref ca), .val (.int (0 : Int32)), .val (.ref ba), .val (.int (0 : Int32)), .val (.int (Int32.ofNat n)), .val (.int (0 : Int32)), .unset]) rfl ?_
    exact k_)
  have lp2 : ∀ (k_ : Nat) (j : Nat) (s6 : Slot) (T_ : State) (lo_ : List Loc) (hh2 : Heap), j + k_ = n → Stand p l e R_rmCmpL s m #[(.ref ca), (.int (0 : Int32)), (.ref ba), (.int (0 : Int32)), (.int (Int32.ofNat n))] below meth c T_ lo_ 0 0 → T_.heap = hh2 → Fr n0 lo_ → Keep h0 hh2 [ba] → Arv Z hh2 ba kb .byte (Int32.ofNat n) (own_mix (own_low cs) vs j) v0_ → (One s6) → ∃ (T' : State) (lo' : List Loc) (hx_ : Heap) (fe_ : JFrame), Stand p l e R_rmCmpL s m #[(.ref ca), (.int (0 : Int32)), (.ref ba), (.int (0 : Int32)), (.int (Int32.ofNat n))] below meth c T' lo' 0 0 ∧ T'.heap = hx_ ∧ Fr n0 lo' ∧ Keep h0 hx_ [ba] ∧ ((∃ (s6 : Slot), fe_ = (mkF m 44 #[.val (.ref ca), .val (.int (Int32.ofNat n)), .val (.ref ba), .val (.int (Int32.ofNat n)), .val (.int (Int32.ofNat n)), .val (.int (Int32.ofNat n)), s6] []) ∧ Arv Z hx_ ba kb .byte (Int32.ofNat n) (own_mix (own_low cs) vs n) v0_)) ∧ ∀ t_, Steps p.tables e below (T'.setTop fe_) t_ → Steps p.tables e below (T_.setTop (mkF m 3 #[.val (.ref ca), .val (.int (Int32.ofNat j)), .val (.ref ba), .val (.int (Int32.ofNat j)), .val (.int (Int32.ofNat n)), .val (.int (Int32.ofNat j)), s6] [])) t_ := by
    intro k_
    induction k_ with
    | zero => 
      intro j s6 T_ lo_ hh2 hm_ X_ e_ N_ K_ F_0 hs6
      have zk_ : h0.size ≤ hh2.size := K_.1
      have s3 : ∀ t_, Steps p.tables e below (T_.setTop (mkF m 44 #[.val (.ref ca), .val (.int (Int32.ofNat j)), .val (.ref ba), .val (.int (Int32.ofNat j)), .val (.int (Int32.ofNat n)), .val (.int (Int32.ofNat j)), s6] [])) t_ → Steps p.tables e below (T_.setTop (mkF m 3 #[.val (.ref ca), .val (.int (Int32.ofNat j)), .val (.ref ba), .val (.int (Int32.ofNat j)), .val (.int (Int32.ofNat n)), .val (.int (Int32.ofNat j)), s6] [])) t_ := fun t_ k_ => (fun _ k_ => k_) t_ (by
        refine XS.iload X_.here hx rfl (dd hy dJ52_21_3) rfl ?_
        refine XS.iload X_.here hx rfl (dd hy dJ52_21_5) rfl ?_
        refine XS.icmpYes X_.here hx rfl (pc0 := 7) (pc' := 44) rfl (dd hy dJ52_21_7) rfl (flt (own_nlt (by omega) (by omega))).2.1 (by decide) (by decide) ?_
        show Steps _ _ _ (T_.setTop (mkF m 44 #[.val (.ref ca), .val (.int (Int32.ofNat j)), .val (.ref ba), .val (.int (Int32.ofNat j)), .val (.int (Int32.ofNat n)), .val (.int (Int32.ofNat j)), s6] [])) _
        exact k_)
      exact ⟨T_, _, _, _, X_, e_, N_, ((Keep.refl h0 [ba]).trans K_ (allS (Or.inl (by simp)) all0)), ⟨s6, (by rw [show j = n by omega]), (by obtain rfl : j = n := (by omega); exact F_0)⟩, s3⟩
    | succ k_ ih => 
      intro j s6 T_ lo_ hh2 hm_ X_ e_ N_ K_ F_0 hs6
      have zk_ : h0.size ≤ hh2.size := K_.1
      have f4 : Arv Z hh2 ca kc .char (Int32.ofNat n) (cs.map Value.int) v0_ := (I1.keep K_ (ninS (show @Ne Nat ca ba by omega) nin0))
      obtain ⟨cl5, Ar5, -, S5, M5, H5, -⟩ := id f4
      have hin5 : ¬ ((Int32.ofNat j) < 0 ∨ cl5.slots.size ≤ ((Int32.ofNat j)).toNatClampNeg) := inb_of S5 (own_in (by omega) (by omega))
      have hat5 : cl5.slots[((Int32.ofNat j)).toNatClampNeg]? = some (.int (cs.getD j 0)) := H5.at hin5 (own_getc cs j _ (by omega) (by omega))
      obtain ⟨cl6, Ar6, q6, S6, M6, H6, G6⟩ := id F_0
      have hin6 : ¬ ((Int32.ofNat j) < 0 ∨ cl6.slots.size ≤ ((Int32.ofNat j)).toNatClampNeg) := inb_of S6 (own_in (by omega) (by omega))
      obtain ⟨T7, h7, X7, e7, W7, st7⟩ := stB X_ hx hZ e_ Ar6 (j := (Int32.ofNat j)) hin6 (g := (mkF m 31 #[.val (.ref ca), .val (.int (Int32.ofNat j)), .val (.ref ba), .val (.int (Int32.ofNat j)), .val (.int (Int32.ofNat n)), .val (.int (Int32.ofNat j)), .val (.int (cs.getD j 0))] [(.int (own_lo (cs.getD j 0))), (.int (Int32.ofNat j)), (.ref ba)])) rfl rfl (dd hy dJ52_21_31)
      have z8 : hh2.size ≤ h7.size := Nat.le_of_eq W7.size.symm
      have V7 : Arv Z h7 ba kb .byte (Int32.ofNat n) (own_mix (own_low cs) vs (j + 1)) v0_ := by
        have q : Arv Z h7 ba kb .byte (Int32.ofNat n) ((own_mix (own_low cs) vs j).set j (.int (nar .byte (own_lo (cs.getD j 0))))) v0_ := Arv.set Ar6 q6 S6 M6 H6 G6 (fits_nar_byte _) W7 j (own_tn (by omega)) (by rw [own_mixl _ _ _ (by rw [own_lowl]; omega)]; omega)
        rw [own_mixc cs vs j (by omega) (by omega)] at q
        exact q
      have N7 := Fr.snoc X7 N_ (show n0 ≤ ba by omega)
      have s9 : ∀ t_, Steps p.tables e below (T7.setTop (mkF m 3 #[.val (.ref ca), .val (.int ((Int32.ofNat j) + (1 : Int32))), .val (.ref ba), .val (.int ((Int32.ofNat j) + (1 : Int32))), .val (.int (Int32.ofNat n)), .val (.int ((Int32.ofNat j) + (1 : Int32))), .val (.int (cs.getD j 0))] [])) t_ → Steps p.tables e below (T_.setTop (mkF m 3 #[.val (.ref ca), .val (.int (Int32.ofNat j)), .val (.ref ba), .val (.int (Int32.ofNat j)), .val (.int (Int32.ofNat n)), .val (.int (Int32.ofNat j)), s6] [])) t_ := fun t_ k_ => (fun _ k_ => k_) t_ (by
        refine XS.iload X_.here hx rfl (dd hy dJ52_21_3) rfl ?_
        refine XS.iload X_.here hx rfl (dd hy dJ52_21_5) rfl ?_
        refine XS.icmpNo X_.here hx rfl (dd hy dJ52_21_7) rfl (tlt (own_lt (by omega) (by omega))).2.1 ?_
        show Steps _ _ _ (T_.setTop (mkF m 10 #[.val (.ref ca), .val (.int (Int32.ofNat j)), .val (.ref ba), .val (.int (Int32.ofNat j)), .val (.int (Int32.ofNat n)), .val (.int (Int32.ofNat j)), s6] [])) _
        refine XS.aloadN X_.here hx rfl (dd hy dJ52_21_10) rfl rfl ?_
        refine XS.iloadN X_.here hx rfl (dd hy dJ52_21_11) rfl ?_
        refine X_.caload hx (j := (Int32.ofNat j)) (v := (.int (cs.getD j 0))) (by rw [e_]; exact Ar5.1) (State.isArrayOf_alike hZ.alike Ar5.2.1) Ar5.2.2 hin5 hat5 (g := (mkF m 12 #[.val (.ref ca), .val (.int (Int32.ofNat j)), .val (.ref ba), .val (.int (Int32.ofNat j)), .val (.int (Int32.ofNat n)), .val (.int (Int32.ofNat j)), s6] [(.int (Int32.ofNat j)), (.ref ca)])) rfl rfl (dd hy dJ52_21_12) _ ?_
        refine XS.istore X_.here hx rfl (dd hy dJ52_21_13) rfl (l' := #[.val (.ref ca), .val (.int (Int32.ofNat j)), .val (.ref ba), .val (.int (Int32.ofNat j)), .val (.int (Int32.ofNat n)), .val (.int (Int32.ofNat j)), .val (.int (cs.getD j 0))]) (os_rmCmpL_13 hs6) ?_
        refine XS.iload X_.here hx rfl (dd hy dJ52_21_15) rfl ?_
        refine XS.sipush X_.here hx rfl (dd hy dJ52_21_17) ?_
        show Steps _ _ _ (T_.setTop (mkF m 20 #[.val (.ref ca), .val (.int (Int32.ofNat j)), .val (.ref ba), .val (.int (Int32.ofNat j)), .val (.int (Int32.ofNat n)), .val (.int (Int32.ofNat j)), .val (.int (cs.getD j 0))] [(.int (255 : Int32)), (.int (cs.getD j 0))])) _
        refine XS.icmpYes X_.here hx rfl (pc0 := 20) (pc' := 26) rfl (dd hy dJ52_21_20) rfl (flt (hlat _ (own_mem cs j (by omega)))).2.2.2 (by decide) (by decide) ?_
        show Steps _ _ _ (T_.setTop (mkF m 26 #[.val (.ref ca), .val (.int (Int32.ofNat j)), .val (.ref ba), .val (.int (Int32.ofNat j)), .val (.int (Int32.ofNat n)), .val (.int (Int32.ofNat j)), .val (.int (cs.getD j 0))] [])) _
        refine XS.aloadN X_.here hx rfl (dd hy dJ52_21_26) rfl rfl ?_
        refine XS.iloadN X_.here hx rfl (dd hy dJ52_21_27) rfl ?_
        refine XS.iload X_.here hx rfl (dd hy dJ52_21_28) rfl ?_
        refine XS.i2b X_.here hx rfl (dd hy dJ52_21_30) rfl ?_
        refine st7 _ ?_
        refine XS.iinc X7.here hx rfl (dd hy dJ52_21_32) rfl (l' := #[.val (.ref ca), .val (.int ((Int32.ofNat j) + (1 : Int32))), .val (.ref ba), .val (.int (Int32.ofNat j)), .val (.int (Int32.ofNat n)), .val (.int (Int32.ofNat j)), .val (.int (cs.getD j 0))]) rfl ?_
        show Steps _ _ _ (T7.setTop (mkF m 35 #[.val (.ref ca), .val (.int ((Int32.ofNat j) + (1 : Int32))), .val (.ref ba), .val (.int (Int32.ofNat j)), .val (.int (Int32.ofNat n)), .val (.int (Int32.ofNat j)), .val (.int (cs.getD j 0))] [])) _
        refine XS.iinc X7.here hx rfl (dd hy dJ52_21_35) rfl (l' := #[.val (.ref ca), .val (.int ((Int32.ofNat j) + (1 : Int32))), .val (.ref ba), .val (.int ((Int32.ofNat j) + (1 : Int32))), .val (.int (Int32.ofNat n)), .val (.int (Int32.ofNat j)), .val (.int (cs.getD j 0))]) rfl ?_
        refine XS.iinc X7.here hx rfl (dd hy dJ52_21_38) rfl (l' := #[.val (.ref ca), .val (.int ((Int32.ofNat j) + (1 : Int32))), .val (.ref ba), .val (.int ((Int32.ofNat j) + (1 : Int32))), .val (.int (Int32.ofNat n)), .val (.int ((Int32.ofNat j) + (1 : Int32))), .val (.int (cs.getD j 0))]) rfl ?_
        refine XS.goto X7.here hx rfl (pc0 := 41) (pc' := 3) rfl (dd hy dJ52_21_41) (by decide) (by decide) ?_
        exact k_)
      obtain ⟨T10, lo10, h10, fe10, X10, e10, N10, K10, A10, st10⟩ := ih (j + 1) (.val (.int (cs.getD j 0))) T7 _ h7 (by omega) X7 e7 N7 (((Keep.refl h0 [ba]).trans K_ (allS (Or.inl (by simp)) all0)).wr W7 (Or.inl (by simp))) V7 (One.val rfl)
      exact ⟨T10, lo10, h10, fe10, X10, e10, N10, K10, A10, fun t_ k_ => s9 t_ (castTop (by rw [own_up]) (st10 t_ k_))⟩
  obtain ⟨T11, lo11, h11, fe11, X11, e11, N11, K11, A11, st11⟩ := lp2 n 0 .unset s₁ _ h0 (by omega) X0 e0 N0 (Keep.refl _ _) (by rw [own_mix0]; exact I2) One.u
  have z12 : h0.size ≤ h11.size := K11.1
  obtain ⟨s6_11, rfl, G11_0⟩ := A11
  have s13 : ∀ t_, Steps p.tables e below (T11.setTop (mkF m 44 #[.val (.ref ca), .val (.int (Int32.ofNat n)), .val (.ref ba), .val (.int (Int32.ofNat n)), .val (.int (Int32.ofNat n)), .val (.int (Int32.ofNat n)), s6_11] [])) t_ → Steps p.tables e below (s₁.setTop (entryFrame m #[(.ref ca), (.int (0 : Int32)), (.ref ba), (.int (0 : Int32)), (.int (Int32.ofNat n))] 7)) t_ := fun t_ k_ => s1 t_ (st11 t_ k_)
  have s14 : ∀ t_, Steps p.tables e below (T11.setTop (mkF m 46 #[.val (.ref ca), .val (.int (Int32.ofNat n)), .val (.ref ba), .val (.int (Int32.ofNat n)), .val (.int (Int32.ofNat n)), .val (.int (Int32.ofNat n)), s6_11] [(.int (Int32.ofNat n))])) t_ → Steps _ _ _ _ t_ := fun t_ k_ => s13 t_ (by
    refine XS.iload X11.here hx rfl (dd hy dJ52_21_44) rfl ?_
    exact k_)
  obtain ⟨fs, hr, hrun, hended, hW, hsame⟩ := X11.leave (v := some (.int (Int32.ofNat n))) (fun h => by rw [Bd.returns] at h; cases h)
  refine ⟨_, _, s14 _ ?_, hrun, hended, _, _, rfl, ?_, ⟨_, rfl⟩, hW, hsame.mono (by decide) (by decide)⟩
  · exact retI X11 hx Bd.returns (dd hy dJ52_21_46) hr
  · show Q_rmCmpL Z _ _ _ _ _ _ _ h0 n0 _ T11.heap _
    rw [e11]
    exact ⟨rfl, N11, ((Keep.refl h0 [ba]).trans K11 (allS (Or.inl (by simp)) all0)), G11_0⟩
theorem os_rmCmpW_13 {z0 : Value} {z1 : Value} {z2 : Value} {z3 : Value} {z4 : Value} {z5 : Value} {s6 : Slot} {v : Int32} (h : One s6) : storeLocals #[.val z0, .val z1, .val z2, .val z3, .val z4, .val z5, s6] 6 (.int v) = some #[.val z0, .val z1, .val z2, .val z3, .val z4, .val z5, .val (.int v)] := by
  rcases h with rfl | ⟨w, rfl, hw⟩
  · rfl
  · cases w <;> first | rfl | (simp [Value.category] at hw)
theorem dJ52_21_23 : decode CJ52_21 23 = .ok (.iload 5, 2) := by decide +kernel
theorem dJ52_21_25 : decode CJ52_21 25 = .ok (.ireturn, 1) := by decide +kernel
theorem ef_rmCmpW (m : MethodId) (x0 : Addr) (x1 : Int32) (x2 : Addr) (x3 : Int32) (x4 : Int32) : entryFrame m #[(.ref x0), (.int x1), (.ref x2), (.int x3), (.int x4)] 7 = mkF m 0 #[.val (.ref x0), .val (.int x1), .val (.ref x2), .val (.int x3), .val (.int x4), .unset, .unset] [] := by first | (simp [entryFrame, mkF, argsToLocals, Value.category]; done) | rfl
abbrev R_rmCmpW : Room := ({ frames := 0, cells := 0, slots := 0, locals := 0 } : Room)
def Q_rmCmpW (Z : State) (ca : Addr) (ba : Addr) (cs : List Int32) (kc : ClassId) (n : Nat) (kb : ClassId) (vs : List Value) (i : Nat) (h0 : Heap) (n0 : Nat) (v : Option Value) (h : Heap) (L : List Loc) : Prop := (v = some (.int (Int32.ofNat i))) ∧ (Fr n0 L) ∧ (Keep h0 h [ba]) ∧ (Arv Z h ba kb .byte (Int32.ofNat n) (own_mix (own_low cs) vs i) v0_)
set_option maxRecDepth 65536 in
set_option maxHeartbeats 40000000 in
theorem rmCmpW (l : Launch) (Z : State) (a0 : Array Value) (hw : HW Z a0) (ws : List Jvm.Cond) (ca : Addr) (ba : Addr) (cs : List Int32) (kc : ClassId) (n : Nat) (kb : ClassId) (vs : List Value) (i : Nat) (h0 : Heap) (n0 : Nat) (Z0 : n0 ≤ h0.size) (I1 : Arv Z h0 ca kc .char (Int32.ofNat n) (cs.map Value.int) v0_) (I2 : Arv Z h0 ba kb .byte (Int32.ofNat n) vs v0_) (hn : cs.length = n) (hb : n ≤ 15) (hvs : vs.length = n) (gb : n0 ≤ ba) (hne : @Ne Nat ca ba) (hi : i < n) (hbad : (255 : Int32) < (cs.getD i 0)) (hpre : ∀ j, j < i → ¬ ((255 : Int32) < cs.getD j 0)) :
    MF l Z M0_ (Jvm.Cond.code M0_ jdk_52_method_21_code 7 (some .int) :: ws) R_rmCmpW #[(.ref ca), (.int (0 : Int32)), (.ref ba), (.int (0 : Int32)), (.int (Int32.ofNat n))] h0 (Q_rmCmpW Z ca ba cs kc n kb vs i h0 n0) := by
  refine MetFree.of_bodySF (plainFor_of_name pn_java_lang_StringUTF16) hisR ?_
  intro p e s m args below meth c s₁ Bd hml0 hP hK
  obtain ⟨rfl, hZ, hh⟩ := hP
  have hx := Bd.exec
  have hy := Bd.bytes
  have hml : c.maxLocals = 7 := hml0
  have hown : s.vm.findClass "java/lang/StringUTF16" = some m.cls := findClass_of_methodNamed Bd.named
  have hnm := (name_of_methodNamed Bd.named Bd.method).1
  have X0 : Stand p l e R_rmCmpW s m #[(.ref ca), (.int (0 : Int32)), (.ref ba), (.int (0 : Int32)), (.int (Int32.ofNat n))] below meth c s₁ [] 0 0 := Stand.of_body Bd
  have e0 : s₁.heap = h0 := by rw [← hh, Bd.state]; rfl
  have N0 := Fr.nil n0
  have pre0 := own_pre (p := p) (e := e) (below := below) (T := s₁) (ef_rmCmpW m ca (0 : Int32) ba (0 : Int32) (Int32.ofNat n))
  have lt_I1 : @LT.lt Nat _ ca h0.size := I1.lt
  have lt_I2 : @LT.lt Nat _ ba h0.size := I2.lt
  have s1 : ∀ t_, Steps p.tables e below (s₁.setTop (mkF m 3 #[.val (.ref ca), .val (.int (0 : Int32)), .val (.ref ba), .val (.int (0 : Int32)), .val (.int (Int32.ofNat n)), .val (.int (0 : Int32)), .unset] [])) t_ → Steps _ _ _ _ t_ := fun t_ k_ => pre0 t_ (by
    refine XS.iconst X0.here hx rfl (dd hy dJ52_21_0) ?_
    refine XS.istore X0.here hx rfl (dd hy dJ52_21_1) rfl (l' := #[.val (.ref ca), .val (.int (0 : Int32)), .val (.ref ba), .val (.int (0 : Int32)), .val (.int (Int32.ofNat n)), .val (.int (0 : Int32)), .unset]) rfl ?_
    exact k_)
  have lp2 : ∀ (k_ : Nat) (j : Nat) (s6 : Slot) (T_ : State) (lo_ : List Loc) (hh2 : Heap), j + k_ = i → Stand p l e R_rmCmpW s m #[(.ref ca), (.int (0 : Int32)), (.ref ba), (.int (0 : Int32)), (.int (Int32.ofNat n))] below meth c T_ lo_ 0 0 → T_.heap = hh2 → Fr n0 lo_ → Keep h0 hh2 [ba] → Arv Z hh2 ba kb .byte (Int32.ofNat n) (own_mix (own_low cs) vs j) v0_ → (One s6) → ∃ (T' : State) (lo' : List Loc) (hx_ : Heap) (fe_ : JFrame), Stand p l e R_rmCmpW s m #[(.ref ca), (.int (0 : Int32)), (.ref ba), (.int (0 : Int32)), (.int (Int32.ofNat n))] below meth c T' lo' 0 0 ∧ T'.heap = hx_ ∧ Fr n0 lo' ∧ Keep h0 hx_ [ba] ∧ ((fe_ = (mkF m 23 #[.val (.ref ca), .val (.int (Int32.ofNat i)), .val (.ref ba), .val (.int (Int32.ofNat i)), .val (.int (Int32.ofNat n)), .val (.int (Int32.ofNat i)), .val (.int (cs.getD i 0))] []) ∧ Arv Z hx_ ba kb .byte (Int32.ofNat n) (own_mix (own_low cs) vs i) v0_)) ∧ ∀ t_, Steps p.tables e below (T'.setTop fe_) t_ → Steps p.tables e below (T_.setTop (mkF m 3 #[.val (.ref ca), .val (.int (Int32.ofNat j)), .val (.ref ba), .val (.int (Int32.ofNat j)), .val (.int (Int32.ofNat n)), .val (.int (Int32.ofNat j)), s6] [])) t_ := by
    intro k_
    induction k_ with
    | zero => 
      intro j s6 T_ lo_ hh2 hm_ X_ e_ N_ K_ F_0 hs6
      have zk_ : h0.size ≤ hh2.size := K_.1
      have f3 : Arv Z hh2 ca kc .char (Int32.ofNat n) (cs.map Value.int) v0_ := (I1.keep K_ (ninS (show @Ne Nat ca ba by omega) nin0))
      obtain ⟨cl4, Ar4, -, S4, M4, H4, -⟩ := id f3
      have hin4 : ¬ ((Int32.ofNat j) < 0 ∨ cl4.slots.size ≤ ((Int32.ofNat j)).toNatClampNeg) := inb_of S4 (own_in (by omega) (by omega))
      have hat4 : cl4.slots[((Int32.ofNat j)).toNatClampNeg]? = some (.int (cs.getD j 0)) := H4.at hin4 (own_getc cs j _ (by omega) (by omega))
      have s5 : ∀ t_, Steps p.tables e below (T_.setTop (mkF m 23 #[.val (.ref ca), .val (.int (Int32.ofNat j)), .val (.ref ba), .val (.int (Int32.ofNat j)), .val (.int (Int32.ofNat n)), .val (.int (Int32.ofNat j)), .val (.int (cs.getD j 0))] [])) t_ → Steps p.tables e below (T_.setTop (mkF m 3 #[.val (.ref ca), .val (.int (Int32.ofNat j)), .val (.ref ba), .val (.int (Int32.ofNat j)), .val (.int (Int32.ofNat n)), .val (.int (Int32.ofNat j)), s6] [])) t_ := fun t_ k_ => (fun _ k_ => k_) t_ (by
        refine XS.iload X_.here hx rfl (dd hy dJ52_21_3) rfl ?_
        refine XS.iload X_.here hx rfl (dd hy dJ52_21_5) rfl ?_
        refine XS.icmpNo X_.here hx rfl (dd hy dJ52_21_7) rfl (tlt (own_lt (by omega) (by omega))).2.1 ?_
        show Steps _ _ _ (T_.setTop (mkF m 10 #[.val (.ref ca), .val (.int (Int32.ofNat j)), .val (.ref ba), .val (.int (Int32.ofNat j)), .val (.int (Int32.ofNat n)), .val (.int (Int32.ofNat j)), s6] [])) _
        refine XS.aloadN X_.here hx rfl (dd hy dJ52_21_10) rfl rfl ?_
        refine XS.iloadN X_.here hx rfl (dd hy dJ52_21_11) rfl ?_
        refine X_.caload hx (j := (Int32.ofNat j)) (v := (.int (cs.getD j 0))) (by rw [e_]; exact Ar4.1) (State.isArrayOf_alike hZ.alike Ar4.2.1) Ar4.2.2 hin4 hat4 (g := (mkF m 12 #[.val (.ref ca), .val (.int (Int32.ofNat j)), .val (.ref ba), .val (.int (Int32.ofNat j)), .val (.int (Int32.ofNat n)), .val (.int (Int32.ofNat j)), s6] [(.int (Int32.ofNat j)), (.ref ca)])) rfl rfl (dd hy dJ52_21_12) _ ?_
        refine XS.istore X_.here hx rfl (dd hy dJ52_21_13) rfl (l' := #[.val (.ref ca), .val (.int (Int32.ofNat j)), .val (.ref ba), .val (.int (Int32.ofNat j)), .val (.int (Int32.ofNat n)), .val (.int (Int32.ofNat j)), .val (.int (cs.getD j 0))]) (os_rmCmpW_13 hs6) ?_
        refine XS.iload X_.here hx rfl (dd hy dJ52_21_15) rfl ?_
        refine XS.sipush X_.here hx rfl (dd hy dJ52_21_17) ?_
        show Steps _ _ _ (T_.setTop (mkF m 20 #[.val (.ref ca), .val (.int (Int32.ofNat j)), .val (.ref ba), .val (.int (Int32.ofNat j)), .val (.int (Int32.ofNat n)), .val (.int (Int32.ofNat j)), .val (.int (cs.getD j 0))] [(.int (255 : Int32)), (.int (cs.getD j 0))])) _
        refine XS.icmpNo X_.here hx rfl (dd hy dJ52_21_20) rfl (tlt (by rw [show j = i by omega]; exact hbad)).2.2.2 ?_
        show Steps _ _ _ (T_.setTop (mkF m 23 #[.val (.ref ca), .val (.int (Int32.ofNat j)), .val (.ref ba), .val (.int (Int32.ofNat j)), .val (.int (Int32.ofNat n)), .val (.int (Int32.ofNat j)), .val (.int (cs.getD j 0))] [])) _
        exact k_)
      exact ⟨T_, _, _, _, X_, e_, N_, ((Keep.refl h0 [ba]).trans K_ (allS (Or.inl (by simp)) all0)), ⟨(by rw [show j = i by omega]), (by obtain rfl : j = i := (by omega); exact F_0)⟩, s5⟩
    | succ k_ ih => 
      intro j s6 T_ lo_ hh2 hm_ X_ e_ N_ K_ F_0 hs6
      have zk_ : h0.size ≤ hh2.size := K_.1
      have f6 : Arv Z hh2 ca kc .char (Int32.ofNat n) (cs.map Value.int) v0_ := (I1.keep K_ (ninS (show @Ne Nat ca ba by omega) nin0))
      obtain ⟨cl7, Ar7, -, S7, M7, H7, -⟩ := id f6
      have hin7 : ¬ ((Int32.ofNat j) < 0 ∨ cl7.slots.size ≤ ((Int32.ofNat j)).toNatClampNeg) := inb_of S7 (own_in (by omega) (by omega))
      have hat7 : cl7.slots[((Int32.ofNat j)).toNatClampNeg]? = some (.int (cs.getD j 0)) := H7.at hin7 (own_getc cs j _ (by omega) (by omega))
      obtain ⟨cl8, Ar8, q8, S8, M8, H8, G8⟩ := id F_0
      have hin8 : ¬ ((Int32.ofNat j) < 0 ∨ cl8.slots.size ≤ ((Int32.ofNat j)).toNatClampNeg) := inb_of S8 (own_in (by omega) (by omega))
      obtain ⟨T9, h9, X9, e9, W9, st9⟩ := stB X_ hx hZ e_ Ar8 (j := (Int32.ofNat j)) hin8 (g := (mkF m 31 #[.val (.ref ca), .val (.int (Int32.ofNat j)), .val (.ref ba), .val (.int (Int32.ofNat j)), .val (.int (Int32.ofNat n)), .val (.int (Int32.ofNat j)), .val (.int (cs.getD j 0))] [(.int (own_lo (cs.getD j 0))), (.int (Int32.ofNat j)), (.ref ba)])) rfl rfl (dd hy dJ52_21_31)
      have z10 : hh2.size ≤ h9.size := Nat.le_of_eq W9.size.symm
      have V9 : Arv Z h9 ba kb .byte (Int32.ofNat n) (own_mix (own_low cs) vs (j + 1)) v0_ := by
        have q : Arv Z h9 ba kb .byte (Int32.ofNat n) ((own_mix (own_low cs) vs j).set j (.int (nar .byte (own_lo (cs.getD j 0))))) v0_ := Arv.set Ar8 q8 S8 M8 H8 G8 (fits_nar_byte _) W9 j (own_tn (by omega)) (by rw [own_mixl _ _ _ (by rw [own_lowl]; omega)]; omega)
        rw [own_mixc cs vs j (by omega) (by omega)] at q
        exact q
      have N9 := Fr.snoc X9 N_ (show n0 ≤ ba by omega)
      have s11 : ∀ t_, Steps p.tables e below (T9.setTop (mkF m 3 #[.val (.ref ca), .val (.int ((Int32.ofNat j) + (1 : Int32))), .val (.ref ba), .val (.int ((Int32.ofNat j) + (1 : Int32))), .val (.int (Int32.ofNat n)), .val (.int ((Int32.ofNat j) + (1 : Int32))), .val (.int (cs.getD j 0))] [])) t_ → Steps p.tables e below (T_.setTop (mkF m 3 #[.val (.ref ca), .val (.int (Int32.ofNat j)), .val (.ref ba), .val (.int (Int32.ofNat j)), .val (.int (Int32.ofNat n)), .val (.int (Int32.ofNat j)), s6] [])) t_ := fun t_ k_ => (fun _ k_ => k_) t_ (by
        refine XS.iload X_.here hx rfl (dd hy dJ52_21_3) rfl ?_
        refine XS.iload X_.here hx rfl (dd hy dJ52_21_5) rfl ?_
        refine XS.icmpNo X_.here hx rfl (dd hy dJ52_21_7) rfl (tlt (own_lt (by omega) (by omega))).2.1 ?_
        show Steps _ _ _ (T_.setTop (mkF m 10 #[.val (.ref ca), .val (.int (Int32.ofNat j)), .val (.ref ba), .val (.int (Int32.ofNat j)), .val (.int (Int32.ofNat n)), .val (.int (Int32.ofNat j)), s6] [])) _
        refine XS.aloadN X_.here hx rfl (dd hy dJ52_21_10) rfl rfl ?_
        refine XS.iloadN X_.here hx rfl (dd hy dJ52_21_11) rfl ?_
        refine X_.caload hx (j := (Int32.ofNat j)) (v := (.int (cs.getD j 0))) (by rw [e_]; exact Ar7.1) (State.isArrayOf_alike hZ.alike Ar7.2.1) Ar7.2.2 hin7 hat7 (g := (mkF m 12 #[.val (.ref ca), .val (.int (Int32.ofNat j)), .val (.ref ba), .val (.int (Int32.ofNat j)), .val (.int (Int32.ofNat n)), .val (.int (Int32.ofNat j)), s6] [(.int (Int32.ofNat j)), (.ref ca)])) rfl rfl (dd hy dJ52_21_12) _ ?_
        refine XS.istore X_.here hx rfl (dd hy dJ52_21_13) rfl (l' := #[.val (.ref ca), .val (.int (Int32.ofNat j)), .val (.ref ba), .val (.int (Int32.ofNat j)), .val (.int (Int32.ofNat n)), .val (.int (Int32.ofNat j)), .val (.int (cs.getD j 0))]) (os_rmCmpW_13 hs6) ?_
        refine XS.iload X_.here hx rfl (dd hy dJ52_21_15) rfl ?_
        refine XS.sipush X_.here hx rfl (dd hy dJ52_21_17) ?_
        show Steps _ _ _ (T_.setTop (mkF m 20 #[.val (.ref ca), .val (.int (Int32.ofNat j)), .val (.ref ba), .val (.int (Int32.ofNat j)), .val (.int (Int32.ofNat n)), .val (.int (Int32.ofNat j)), .val (.int (cs.getD j 0))] [(.int (255 : Int32)), (.int (cs.getD j 0))])) _
        refine XS.icmpYes X_.here hx rfl (pc0 := 20) (pc' := 26) rfl (dd hy dJ52_21_20) rfl (flt (hpre j (by omega))).2.2.2 (by decide) (by decide) ?_
        show Steps _ _ _ (T_.setTop (mkF m 26 #[.val (.ref ca), .val (.int (Int32.ofNat j)), .val (.ref ba), .val (.int (Int32.ofNat j)), .val (.int (Int32.ofNat n)), .val (.int (Int32.ofNat j)), .val (.int (cs.getD j 0))] [])) _
        refine XS.aloadN X_.here hx rfl (dd hy dJ52_21_26) rfl rfl ?_
        refine XS.iloadN X_.here hx rfl (dd hy dJ52_21_27) rfl ?_
        refine XS.iload X_.here hx rfl (dd hy dJ52_21_28) rfl ?_
        refine XS.i2b X_.here hx rfl (dd hy dJ52_21_30) rfl ?_
        refine st9 _ ?_
        refine XS.iinc X9.here hx rfl (dd hy dJ52_21_32) rfl (l' := #[.val (.ref ca), .val (.int ((Int32.ofNat j) + (1 : Int32))), .val (.ref ba), .val (.int (Int32.ofNat j)), .val (.int (Int32.ofNat n)), .val (.int (Int32.ofNat j)), .val (.int (cs.getD j 0))]) rfl ?_
        show Steps _ _ _ (T9.setTop (mkF m 35 #[.val (.ref ca), .val (.int ((Int32.ofNat j) + (1 : Int32))), .val (.ref ba), .val (.int (Int32.ofNat j)), .val (.int (Int32.ofNat n)), .val (.int (Int32.ofNat j)), .val (.int (cs.getD j 0))] [])) _
        refine XS.iinc X9.here hx rfl (dd hy dJ52_21_35) rfl (l' := #[.val (.ref ca), .val (.int ((Int32.ofNat j) + (1 : Int32))), .val (.ref ba), .val (.int ((Int32.ofNat j) + (1 : Int32))), .val (.int (Int32.ofNat n)), .val (.int (Int32.ofNat j)), .val (.int (cs.getD j 0))]) rfl ?_
        refine XS.iinc X9.here hx rfl (dd hy dJ52_21_38) rfl (l' := #[.val (.ref ca), .val (.int ((Int32.ofNat j) + (1 : Int32))), .val (.ref ba), .val (.int ((Int32.ofNat j) + (1 : Int32))), .val (.int (Int32.ofNat n)), .val (.int ((Int32.ofNat j) + (1 : Int32))), .val (.int (cs.getD j 0))]) rfl ?_
        refine XS.goto X9.here hx rfl (pc0 := 41) (pc' := 3) rfl (dd hy dJ52_21_41) (by decide) (by decide) ?_
        exact k_)
      obtain ⟨T12, lo12, h12, fe12, X12, e12, N12, K12, A12, st12⟩ := ih (j + 1) (.val (.int (cs.getD j 0))) T9 _ h9 (by omega) X9 e9 N9 (((Keep.refl h0 [ba]).trans K_ (allS (Or.inl (by simp)) all0)).wr W9 (Or.inl (by simp))) V9 (One.val rfl)
      exact ⟨T12, lo12, h12, fe12, X12, e12, N12, K12, A12, fun t_ k_ => s11 t_ (castTop (by rw [own_up]) (st12 t_ k_))⟩
  obtain ⟨T13, lo13, h13, fe13, X13, e13, N13, K13, A13, st13⟩ := lp2 i 0 .unset s₁ _ h0 (by omega) X0 e0 N0 (Keep.refl _ _) (by rw [own_mix0]; exact I2) One.u
  have z14 : h0.size ≤ h13.size := K13.1
  obtain ⟨rfl, G13_0⟩ := A13
  have s15 : ∀ t_, Steps p.tables e below (T13.setTop (mkF m 23 #[.val (.ref ca), .val (.int (Int32.ofNat i)), .val (.ref ba), .val (.int (Int32.ofNat i)), .val (.int (Int32.ofNat n)), .val (.int (Int32.ofNat i)), .val (.int (cs.getD i 0))] [])) t_ → Steps p.tables e below (s₁.setTop (entryFrame m #[(.ref ca), (.int (0 : Int32)), (.ref ba), (.int (0 : Int32)), (.int (Int32.ofNat n))] 7)) t_ := fun t_ k_ => s1 t_ (st13 t_ k_)
  have s16 : ∀ t_, Steps p.tables e below (T13.setTop (mkF m 25 #[.val (.ref ca), .val (.int (Int32.ofNat i)), .val (.ref ba), .val (.int (Int32.ofNat i)), .val (.int (Int32.ofNat n)), .val (.int (Int32.ofNat i)), .val (.int (cs.getD i 0))] [(.int (Int32.ofNat i))])) t_ → Steps _ _ _ _ t_ := fun t_ k_ => s15 t_ (by
    refine XS.iload X13.here hx rfl (dd hy dJ52_21_23) rfl ?_
    exact k_)
  obtain ⟨fs, hr, hrun, hended, hW, hsame⟩ := X13.leave (v := some (.int (Int32.ofNat i))) (fun h => by rw [Bd.returns] at h; cases h)
  refine ⟨_, _, s16 _ ?_, hrun, hended, _, _, rfl, ?_, ⟨_, rfl⟩, hW, hsame.mono (by decide) (by decide)⟩
  · exact retI X13 hx Bd.returns (dd hy dJ52_21_25) hr
  · show Q_rmCmpW Z _ _ _ _ _ _ _ _ h0 n0 _ T13.heap _
    rw [e13]
    exact ⟨rfl, N13, ((Keep.refl h0 [ba]).trans K13 (allS (Or.inl (by simp)) all0)), G13_0⟩
theorem dJ52_15_0 : decode CJ52_15 0 = .ok (.iload_n 1, 1) := by decide +kernel
theorem dJ52_15_1 : decode CJ52_15 1 = .ok (.aload_n 0, 1) := by decide +kernel
theorem dJ52_15_2 : decode CJ52_15 2 = .ok (.arraylength, 1) := by decide +kernel
theorem dJ52_15_3 : decode CJ52_15 3 = .ok (.isub, 1) := by decide +kernel
theorem dJ52_15_4 : decode CJ52_15 4 = .ok (.bipush 31, 2) := by decide +kernel
theorem dJ52_15_6 : decode CJ52_15 6 = .ok (.iushr, 1) := by decide +kernel
theorem dJ52_15_7 : decode CJ52_15 7 = .ok (.i2b, 1) := by decide +kernel
theorem dJ52_15_8 : decode CJ52_15 8 = .ok (.ireturn, 1) := by decide +kernel
theorem ef_rmCod (m : MethodId) (x0 : Addr) (x1 : Int32) : entryFrame m #[(.ref x0), (.int x1)] 2 = mkF m 0 #[.val (.ref x0), .val (.int x1)] [] := by first | (simp [entryFrame, mkF, argsToLocals, Value.category]; done) | rfl
abbrev R_rmCod : Room := ({ frames := 0, cells := 0, slots := 0, locals := 0 } : Room)
def Q_rmCod (Z : State) (ba : Addr) (nn : Int32) (kb : ClassId) (zz : Int32) (vs : List Value) (h0 : Heap) (n0 : Nat) (v : Option Value) (h : Heap) (L : List Loc) : Prop := (v = some (.int (nar .byte (own_lo (ushr (nn - zz) (31 : Int32)))))) ∧ (Fr n0 L) ∧ (h = h0)
set_option maxRecDepth 65536 in
set_option maxHeartbeats 40000000 in
theorem rmCod (l : Launch) (Z : State) (a0 : Array Value) (hw : HW Z a0) (ws : List Jvm.Cond) (ba : Addr) (nn : Int32) (kb : ClassId) (zz : Int32) (vs : List Value) (h0 : Heap) (n0 : Nat) (Z0 : n0 ≤ h0.size) (I1 : Arv Z h0 ba kb .byte zz vs v0_) :
    MF l Z M1_ (Jvm.Cond.code M1_ jdk_52_method_15_code 2 (some .byte) :: ws) R_rmCod #[(.ref ba), (.int nn)] h0 (Q_rmCod Z ba nn kb zz vs h0 n0) := by
  refine MetFree.of_bodySF (plainFor_of_name pn_java_lang_StringUTF16) hisR ?_
  intro p e s m args below meth c s₁ Bd hml0 hP hK
  obtain ⟨rfl, hZ, hh⟩ := hP
  have hx := Bd.exec
  have hy := Bd.bytes
  have hml : c.maxLocals = 2 := hml0
  have hown : s.vm.findClass "java/lang/StringUTF16" = some m.cls := findClass_of_methodNamed Bd.named
  have hnm := (name_of_methodNamed Bd.named Bd.method).1
  have X0 : Stand p l e R_rmCod s m #[(.ref ba), (.int nn)] below meth c s₁ [] 0 0 := Stand.of_body Bd
  have e0 : s₁.heap = h0 := by rw [← hh, Bd.state]; rfl
  have N0 := Fr.nil n0
  have pre0 := own_pre (p := p) (e := e) (below := below) (T := s₁) (ef_rmCod m ba nn)
  have lt_I1 : @LT.lt Nat _ ba h0.size := I1.lt
  obtain ⟨cl1, Ar1, -, S1, M1, -, -⟩ := id I1
  have s2 : ∀ t_, Steps p.tables e below (s₁.setTop (mkF m 8 #[.val (.ref ba), .val (.int nn)] [(.int (own_lo (ushr (nn - zz) (31 : Int32))))])) t_ → Steps _ _ _ _ t_ := fun t_ k_ => pre0 t_ (by
    refine XS.iloadN X0.here hx rfl (dd hy dJ52_15_0) rfl ?_
    refine XS.aloadN X0.here hx rfl (dd hy dJ52_15_1) rfl rfl ?_
    refine X0.arraylength hx (by rw [e0]; exact Ar1.1) (State.isArrayOf_alike hZ.alike Ar1.2.1) (g := (mkF m 2 #[.val (.ref ba), .val (.int nn)] [(.ref ba), (.int nn)])) rfl rfl (dd hy dJ52_15_2) _ ?_
    rw [len_of S1 M1]
    show Steps _ _ _ (s₁.setTop (mkF m 3 #[.val (.ref ba), .val (.int nn)] [(.int zz), (.int nn)])) _
    refine XS.isub X0.here hx rfl (dd hy dJ52_15_3) rfl ?_
    refine XS.bipush X0.here hx rfl (dd hy dJ52_15_4) ?_
    refine XS.iushr X0.here hx rfl (dd hy dJ52_15_6) rfl ?_
    refine XS.i2b X0.here hx rfl (dd hy dJ52_15_7) rfl ?_
    exact k_)
  obtain ⟨fs, hr, hrun, hended, hW, hsame⟩ := X0.leave (v := some (.int (nar .byte (own_lo (ushr (nn - zz) (31 : Int32)))))) (fun h => by rw [Bd.returns] at h; cases h)
  refine ⟨_, _, s2 _ ?_, hrun, hended, _, _, rfl, ?_, ⟨_, rfl⟩, hW, hsame.mono (by decide) (by decide)⟩
  · exact retN X0 hx (t := .byte) Bd.returns (by simp) (dd hy dJ52_15_8) hr
  · show Q_rmCod Z _ _ _ _ _ h0 n0 _ s₁.heap _
    rw [e0]
    exact ⟨rfl, N0, rfl⟩
theorem dJ52_3_0 : decode CJ52_3 0 = .ok (.iload_n 0, 1) := by decide +kernel
theorem dJ52_3_1 : decode CJ52_3 1 = .ok (.ifCond .ge 11, 3) := by decide +kernel
theorem dJ52_3_12 : decode CJ52_3 12 = .ok (.iload_n 0, 1) := by decide +kernel
theorem dJ52_3_13 : decode CJ52_3 13 = .ok (.ldc 20, 2) := by decide +kernel
theorem dJ52_3_15 : decode CJ52_3 15 = .ok (.if_icmp .lt 40, 3) := by decide +kernel
theorem dJ52_3_55 : decode CJ52_3 55 = .ok (.iload_n 0, 1) := by decide +kernel
theorem dJ52_3_56 : decode CJ52_3 56 = .ok (.iconst 1, 1) := by decide +kernel
theorem dJ52_3_57 : decode CJ52_3 57 = .ok (.ishl, 1) := by decide +kernel
theorem dJ52_3_58 : decode CJ52_3 58 = .ok (.ireturn, 1) := by decide +kernel
theorem ef_rmNBL (m : MethodId) (x0 : Int32) : entryFrame m #[(.int x0)] 1 = mkF m 0 #[.val (.int x0)] [] := by first | (simp [entryFrame, mkF, argsToLocals, Value.category]; done) | rfl
abbrev R_rmNBL : Room := ({ frames := 0, cells := 0, slots := 0, locals := 0 } : Room)
def Q_rmNBL (Z : State) (n : Nat) (h0 : Heap) (n0 : Nat) (v : Option Value) (h : Heap) (L : List Loc) : Prop := (v = some (.int (Int32.ofNat (2 * n)))) ∧ (Fr n0 L) ∧ (h = h0)
set_option maxRecDepth 65536 in
set_option maxHeartbeats 40000000 in
theorem rmNBL (l : Launch) (Z : State) (a0 : Array Value) (hw : HW Z a0) (ws : List Jvm.Cond) (n : Nat) (h0 : Heap) (n0 : Nat) (Z0 : n0 ≤ h0.size) (hb : n ≤ 15) :
    MF l Z M2_ (Jvm.Cond.code M2_ jdk_52_method_3_code 1 (some .int) :: ws) R_rmNBL #[(.int (Int32.ofNat n))] h0 (Q_rmNBL Z n h0 n0) := by
  refine MetFree.of_bodySF (plainFor_of_name pn_java_lang_StringUTF16) hisR ?_
  intro p e s m args below meth c s₁ Bd hml0 hP hK
  obtain ⟨rfl, hZ, hh⟩ := hP
  have hx := Bd.exec
  have hy := Bd.bytes
  have hml : c.maxLocals = 1 := hml0
  have hown : s.vm.findClass "java/lang/StringUTF16" = some m.cls := findClass_of_methodNamed Bd.named
  have hnm := (name_of_methodNamed Bd.named Bd.method).1
  have X0 : Stand p l e R_rmNBL s m #[(.int (Int32.ofNat n))] below meth c s₁ [] 0 0 := Stand.of_body Bd
  have e0 : s₁.heap = h0 := by rw [← hh, Bd.state]; rfl
  have N0 := Fr.nil n0
  have pre0 := own_pre (p := p) (e := e) (below := below) (T := s₁) (ef_rmNBL m (Int32.ofNat n))
  have s1 : ∀ t_, Steps p.tables e below (s₁.setTop (mkF m 58 #[.val (.int (Int32.ofNat n))] [(.int ((Int32.ofNat n) <<< ((1 : Int32) &&& 31)))])) t_ → Steps _ _ _ _ t_ := fun t_ k_ => pre0 t_ (by
    refine XS.iloadN X0.here hx rfl (dd hy dJ52_3_0) rfl ?_
    refine XS.ifYes X0.here hx rfl (pc0 := 1) (pc' := 12) rfl (dd hy dJ52_3_1) rfl ((if0 _ _).trans (flt (own_nn (by omega))).2.1) (by decide) (by decide) ?_
    show Steps _ _ _ (s₁.setTop (mkF m 12 #[.val (.int (Int32.ofNat n))] [])) _
    refine XS.iloadN X0.here hx rfl (dd hy dJ52_3_12) rfl ?_
    refine X0.ldcInt hx hown (mvT hZ (own_m hw 110 rfl)) (g := (mkF m 13 #[.val (.int (Int32.ofNat n))] [(.int (Int32.ofNat n))])) rfl (dd hy dJ52_3_13) _ ?_
    show Steps _ _ _ (s₁.setTop (mkF m 15 #[.val (.int (Int32.ofNat n))] [(.int (1073741823 : Int32)), (.int (Int32.ofNat n))])) _
    refine XS.icmpYes X0.here hx rfl (pc0 := 15) (pc' := 55) rfl (dd hy dJ52_3_15) rfl (tlt (own_ltbig (by omega))).1 (by decide) (by decide) ?_
    show Steps _ _ _ (s₁.setTop (mkF m 55 #[.val (.int (Int32.ofNat n))] [])) _
    refine XS.iloadN X0.here hx rfl (dd hy dJ52_3_55) rfl ?_
    refine XS.iconst X0.here hx rfl (dd hy dJ52_3_56) ?_
    refine XS.ishl X0.here hx rfl (dd hy dJ52_3_57) rfl ?_
    exact k_)
  obtain ⟨fs, hr, hrun, hended, hW, hsame⟩ := X0.leave (v := some (.int ((Int32.ofNat n) <<< ((1 : Int32) &&& 31)))) (fun h => by rw [Bd.returns] at h; cases h)
  refine ⟨_, _, s1 _ ?_, hrun, hended, _, _, rfl, ?_, ⟨_, rfl⟩, hW, hsame.mono (by decide) (by decide)⟩
  · exact retI X0 hx Bd.returns (dd hy dJ52_3_58) hr
  · show Q_rmNBL Z _ h0 n0 _ s₁.heap _
    rw [e0]
    exact ⟨(by rw [own_shl1 (by omega)]), N0, rfl⟩
theorem dJ52_2_0 : decode CJ52_2 0 = .ok (.iload_n 0, 1) := by decide +kernel
theorem pd__I_I : parseMethodDescriptor "(I)I" = some ⟨[.int], some .int⟩ := by decide +kernel
theorem dJ52_2_1 : decode CJ52_2 1 = .ok (.invokestatic 11, 3) := by decide +kernel
theorem dJ52_2_4 : decode CJ52_2 4 = .ok (.newarray .byte, 2) := by decide +kernel
theorem dJ52_2_6 : decode CJ52_2 6 = .ok (.areturn, 1) := by decide +kernel
theorem ef_rmNBF (m : MethodId) (x0 : Int32) : entryFrame m #[(.int x0)] 1 = mkF m 0 #[.val (.int x0)] [] := by first | (simp [entryFrame, mkF, argsToLocals, Value.category]; done) | rfl
abbrev R_rmNBF : Room := ({ frames := 1, cells := 1, slots := 30, locals := 12 } : Room)
def Q_rmNBF (Z : State) (n : Nat) (h0 : Heap) (n0 : Nat) (v : Option Value) (h : Heap) (L : List Loc) : Prop := ∃ (b : Addr), ∃ (kb : ClassId), (v = some (.ref b)) ∧ (Fr n0 L) ∧ (Keep h0 h []) ∧ (Arv Z h b kb .byte (Int32.ofNat (2 * n)) (List.replicate (2 * n) (.int (0 : Int32))) v0_) ∧ (h0.size ≤ b)
set_option maxRecDepth 65536 in
set_option maxHeartbeats 40000000 in
theorem rmNBF (l : Launch) (Z : State) (a0 : Array Value) (hw : HW Z a0) (ws : List Jvm.Cond) (n : Nat) (h0 : Heap) (n0 : Nat) (Z0 : n0 ≤ h0.size) (hb : n ≤ 15) :
    MF l Z M3_ (Jvm.Cond.code M3_ jdk_52_method_2_code 1 (some (.array .byte)) :: ws) R_rmNBF #[(.int (Int32.ofNat n))] h0 (Q_rmNBF Z n h0 n0) := by
  refine MetFree.of_bodySF (plainFor_of_name pn_java_lang_StringUTF16) hisR ?_
  intro p e s m args below meth c s₁ Bd hml0 hP hK
  obtain ⟨rfl, hZ, hh⟩ := hP
  have hx := Bd.exec
  have hy := Bd.bytes
  have hml : c.maxLocals = 1 := hml0
  have hown : s.vm.findClass "java/lang/StringUTF16" = some m.cls := findClass_of_methodNamed Bd.named
  have hnm := (name_of_methodNamed Bd.named Bd.method).1
  have X0 : Stand p l e R_rmNBF s m #[(.int (Int32.ofNat n))] below meth c s₁ [] 0 0 := Stand.of_body Bd
  have e0 : s₁.heap = h0 := by rw [← hh, Bd.state]; rfl
  have N0 := Fr.nil n0
  have pre0 := own_pre (p := p) (e := e) (below := below) (T := s₁) (ef_rmNBF m (Int32.ofNat n))
  have Zc1 : n0 ≤ h0.size := by omega
  obtain ⟨_, _, ⟨T2, L2, k2, n2⟩, -, X2, ⟨Lc2, hQ2, l2, y2, z2⟩, st2⟩ := Jvm.LawKit.callS X0 hx (y := M2_) hown (mvT hZ (own_m hw 107 rfl)) (mvT hZ (own_m hw 108 rfl)) (mvT hZ (own_m hw 58 rfl)) (mvT hZ (own_m hw 109 rfl)) (by decide) (backOf (W := 0) (rmNBL l Z a0 hw [] n h0 n0 Zc1 hb) hZ (own_m hw 109 rfl) (own_m hw 58 rfl) (by decide) (by decide)) (g := (mkF m 1 #[.val (.int (Int32.ofNat n))] [(.int (Int32.ofNat n))])) rfl (by rw [hml]; rfl) (argsL := [(.int (Int32.ofNat n))]) (rest := []) (lenOf pd__I_I rfl) rfl (by show 2 * 0 + _ ≤ _; exact Nat.le_of_eq rfl) (dd hy dJ52_2_1) (fun _ _ => ⟨rfl, e0, (by decide : 0 + 0 ≤ _), (by decide : 0 + 0 ≤ _)⟩)
  dsimp only [Pt.U, Pt.locs, Pt.cells, Pt.slots] at X2 l2 y2 z2 st2 hQ2
  subst l2 y2 z2
  obtain ⟨rfl, N2q, e2⟩ := hQ2
  have N2 := Fr.app N0 N2q
  obtain ⟨T3, h3, k3, X3, e3, E3, A3, st3⟩ := newP X2 hx hZ (own_m hw 19 rfl) e2 (g := (mkF m 4 #[.val (.int (Int32.ofNat n))] [(.int (Int32.ofNat (2 * n)))])) rfl (dd hy dJ52_2_4) rfl (own_nn (by omega)) (cap := 30) (by rw [own_tn (by omega)]; omega) (by decide) (by decide) (by decide)
  obtain ⟨b3, g3⟩ : ∃ z, z = h0.size := ⟨_, rfl⟩
  rw [← g3] at A3 st3
  have z4 : h0.size ≤ h3.size := E3.1
  have l3 : b3 < h3.size := A3.lt
  have V3 : Arv Z h3 b3 k3 .byte (Int32.ofNat (2 * n)) (List.replicate (2 * n) (.int (0 : Int32))) v0_ := (Arv.new A3 (own_nn (by omega))).pad (pad_rep [] _ (2 * n))
  have s5 : ∀ t_, Steps p.tables e below (T3.setTop (mkF m 6 #[.val (.int (Int32.ofNat n))] [(.ref b3)])) t_ → Steps _ _ _ _ t_ := fun t_ k_ => pre0 t_ (by
    refine XS.iloadN X0.here hx rfl (dd hy dJ52_2_0) rfl ?_
    refine st2 _ ?_
    show Steps _ _ _ (T2.setTop (mkF m 4 #[.val (.int (Int32.ofNat n))] [(.int (Int32.ofNat (2 * n)))])) _
    refine st3 _ ?_
    exact k_)
  obtain ⟨fs, hr, hrun, hended, hW, hsame⟩ := X3.leave (v := some (.ref b3)) (fun h => by rw [Bd.returns] at h; cases h)
  refine ⟨_, _, s5 _ ?_, hrun, hended, _, _, rfl, ?_, ⟨_, rfl⟩, hW, hsame.mono (by decide) (by decide)⟩
  · jvm_step X3.here [X3.here.top, hx, (dd hy dJ52_2_6), X3.method', Bd.returns, Value.isRef, FieldType.isReference]
    first | (intro acts; rw [hr _ acts rfl rfl rfl]) | rw [hr _ _ rfl rfl rfl]
    exact Steps.refl _
  · show Q_rmNBF Z _ h0 n0 _ T3.heap _
    rw [e3]
    exact ⟨b3, k3, rfl, N2, ((Keep.refl h0 []).ext E3), V3, by omega⟩
theorem dJ52_4_0 : decode CJ52_4 0 = .ok (.getstatic 44, 3) := by decide +kernel
theorem dJ52_4_3 : decode CJ52_4 3 = .ok (.ifCond .ne 25, 3) := by decide +kernel
theorem dJ52_4_28 : decode CJ52_4 28 = .ok (.iload_n 1, 1) := by decide +kernel
theorem dJ52_4_29 : decode CJ52_4 29 = .ok (.iconst 1, 1) := by decide +kernel
theorem dJ52_4_30 : decode CJ52_4 30 = .ok (.ishl, 1) := by decide +kernel
theorem dJ52_4_31 : decode CJ52_4 31 = .ok (.istore_n 1, 1) := by decide +kernel
theorem dJ52_4_32 : decode CJ52_4 32 = .ok (.aload_n 0, 1) := by decide +kernel
theorem dJ52_4_33 : decode CJ52_4 33 = .ok (.iload_n 1, 1) := by decide +kernel
theorem dJ52_4_34 : decode CJ52_4 34 = .ok (.iinc 1 1, 3) := by decide +kernel
theorem dJ52_4_37 : decode CJ52_4 37 = .ok (.iload_n 2, 1) := by decide +kernel
theorem dJ52_4_38 : decode CJ52_4 38 = .ok (.getstatic 59, 3) := by decide +kernel
theorem dJ52_4_41 : decode CJ52_4 41 = .ok (.ishr, 1) := by decide +kernel
theorem dJ52_4_42 : decode CJ52_4 42 = .ok (.i2b, 1) := by decide +kernel
theorem dJ52_4_43 : decode CJ52_4 43 = .ok (.bastore, 1) := by decide +kernel
theorem dJ52_4_44 : decode CJ52_4 44 = .ok (.aload_n 0, 1) := by decide +kernel
theorem dJ52_4_45 : decode CJ52_4 45 = .ok (.iload_n 1, 1) := by decide +kernel
theorem dJ52_4_46 : decode CJ52_4 46 = .ok (.iload_n 2, 1) := by decide +kernel
theorem dJ52_4_47 : decode CJ52_4 47 = .ok (.getstatic 63, 3) := by decide +kernel
theorem dJ52_4_50 : decode CJ52_4 50 = .ok (.ishr, 1) := by decide +kernel
theorem dJ52_4_51 : decode CJ52_4 51 = .ok (.i2b, 1) := by decide +kernel
theorem dJ52_4_52 : decode CJ52_4 52 = .ok (.bastore, 1) := by decide +kernel
theorem dJ52_4_53 : decode CJ52_4 53 = .ok (.return_, 1) := by decide +kernel
theorem ef_rmPut (m : MethodId) (x0 : Addr) (x1 : Int32) (x2 : Int32) : entryFrame m #[(.ref x0), (.int x1), (.int x2)] 3 = mkF m 0 #[.val (.ref x0), .val (.int x1), .val (.int x2)] [] := by first | (simp [entryFrame, mkF, argsToLocals, Value.category]; done) | rfl
abbrev R_rmPut : Room := ({ frames := 0, cells := 0, slots := 0, locals := 0 } : Room)
def Q_rmPut (Z : State) (ba : Addr) (ch : Int32) (kb : ClassId) (us : List Value) (n : Nat) (j : Nat) (h0 : Heap) (n0 : Nat) (v : Option Value) (h : Heap) (L : List Loc) : Prop := (v = none) ∧ (Fr n0 L) ∧ (Keep h0 h [ba]) ∧ (Arv Z h ba kb .byte (Int32.ofNat (2 * n)) ((us.set (2 * j) (.int (own_lo (ch >>> ((0 : Int32) &&& 31))))).set (2 * j + 1) (.int (own_lo (ch >>> ((8 : Int32) &&& 31))))) v0_)
set_option maxRecDepth 65536 in
set_option maxHeartbeats 40000000 in
theorem rmPut (l : Launch) (Z : State) (a0 : Array Value) (hw : HW Z a0) (ws : List Jvm.Cond) (ba : Addr) (ch : Int32) (kb : ClassId) (us : List Value) (n : Nat) (j : Nat) (h0 : Heap) (n0 : Nat) (Z0 : n0 ≤ h0.size) (I1 : Sta Z Z.heap cU cD "Z" (.int (1 : Int32))) (I2 : Sta Z Z.heap cU cH "I" (.int (0 : Int32))) (I3 : Sta Z Z.heap cU cL "I" (.int (8 : Int32))) (OX : Old Z n0 h0) (I4 : Arv Z h0 ba kb .byte (Int32.ofNat (2 * n)) us v0_) (hb : n ≤ 15) (hj : j < n) (hus : us.length = 2 * n) (gb : n0 ≤ ba) :
    MF l Z M4_ (Jvm.Cond.code M4_ jdk_52_method_4_code 3 none :: ws) R_rmPut #[(.ref ba), (.int (Int32.ofNat j)), (.int ch)] h0 (Q_rmPut Z ba ch kb us n j h0 n0) := by
  refine MetFree.of_bodySF (plainFor_of_name pn_java_lang_StringUTF16) hisR ?_
  intro p e s m args below meth c s₁ Bd hml0 hP hK
  obtain ⟨rfl, hZ, hh⟩ := hP
  have hx := Bd.exec
  have hy := Bd.bytes
  have hml : c.maxLocals = 3 := hml0
  have hown : s.vm.findClass "java/lang/StringUTF16" = some m.cls := findClass_of_methodNamed Bd.named
  have hnm := (name_of_methodNamed Bd.named Bd.method).1
  have X0 : Stand p l e R_rmPut s m #[(.ref ba), (.int (Int32.ofNat j)), (.int ch)] below meth c s₁ [] 0 0 := Stand.of_body Bd
  have e0 : s₁.heap = h0 := by rw [← hh, Bd.state]; rfl
  have N0 := Fr.nil n0
  have pre0 := own_pre (p := p) (e := e) (below := below) (T := s₁) (ef_rmPut m ba (Int32.ofNat j) ch)
  have lt_I4 : @LT.lt Nat _ ba h0.size := I4.lt
  obtain ⟨T1, X1, e1, st1⟩ := getS2 X0 hx hZ hown (host := "") (Or.inl (own_m hw 114 rfl)) Via.refl e0 (I1.ext OX.2) (g := (mkF m 0 #[.val (.ref ba), .val (.int (Int32.ofNat j)), .val (.int ch)] [])) rfl (dd hy dJ52_4_0)
  obtain ⟨T2, X2, e2, st2⟩ := getS2 X1 hx hZ hown (host := "") (Or.inl (own_m hw 115 rfl)) Via.refl e1 (I2.ext OX.2) (g := (mkF m 38 #[.val (.ref ba), .val (.int ((Int32.ofNat (2 * j)) + (1 : Int32))), .val (.int ch)] [(.int ch), (.int (Int32.ofNat (2 * j))), (.ref ba)])) rfl (dd hy dJ52_4_38)
  obtain ⟨cl3, Ar3, q3, S3, M3, H3, G3⟩ := id I4
  have hin3 : ¬ ((Int32.ofNat (2 * j)) < 0 ∨ cl3.slots.size ≤ ((Int32.ofNat (2 * j))).toNatClampNeg) := inb_of S3 (own_in (by omega) (by omega))
  obtain ⟨T4, h4, X4, e4, W4, st4⟩ := stB X2 hx hZ e2 Ar3 (j := (Int32.ofNat (2 * j))) hin3 (g := (mkF m 43 #[.val (.ref ba), .val (.int ((Int32.ofNat (2 * j)) + (1 : Int32))), .val (.int ch)] [(.int (own_lo (ch >>> ((0 : Int32) &&& 31)))), (.int (Int32.ofNat (2 * j))), (.ref ba)])) rfl rfl (dd hy dJ52_4_43)
  have z5 : h0.size ≤ h4.size := Nat.le_of_eq W4.size.symm
  have V4 : Arv Z h4 ba kb .byte (Int32.ofNat (2 * n)) (us.set (2 * j) (.int (own_lo (ch >>> ((0 : Int32) &&& 31))))) v0_ := by
    have q : Arv Z h4 ba kb .byte (Int32.ofNat (2 * n)) (us.set (2 * j) (.int (nar .byte (own_lo (ch >>> ((0 : Int32) &&& 31)))))) v0_ := Arv.set Ar3 q3 S3 M3 H3 G3 (fits_nar_byte _) W4 ((2 * j)) (own_tn (by omega)) (by first | omega | (simp only [List.length_set]; omega))
    rw [own_lolo] at q
    exact q
  have N4 := Fr.snoc X4 N0 (show n0 ≤ ba by omega)
  have O6 : Old Z n0 h4 := (OX.wr W4 (show n0 ≤ ba by omega))
  obtain ⟨T7, X7, e7, st7⟩ := getS2 X4 hx hZ hown (host := "") (Or.inl (own_m hw 116 rfl)) Via.refl e4 (I3.ext O6.2) (g := (mkF m 47 #[.val (.ref ba), .val (.int (Int32.ofNat (2 * j + 1))), .val (.int ch)] [(.int ch), (.int (Int32.ofNat (2 * j + 1))), (.ref ba)])) rfl (dd hy dJ52_4_47)
  obtain ⟨cl8, Ar8, q8, S8, M8, H8, G8⟩ := id V4
  have hin8 : ¬ ((Int32.ofNat (2 * j + 1)) < 0 ∨ cl8.slots.size ≤ ((Int32.ofNat (2 * j + 1))).toNatClampNeg) := inb_of S8 (own_in (by omega) (by omega))
  obtain ⟨T9, h9, X9, e9, W9, st9⟩ := stB X7 hx hZ e7 Ar8 (j := (Int32.ofNat (2 * j + 1))) hin8 (g := (mkF m 52 #[.val (.ref ba), .val (.int (Int32.ofNat (2 * j + 1))), .val (.int ch)] [(.int (own_lo (ch >>> ((8 : Int32) &&& 31)))), (.int (Int32.ofNat (2 * j + 1))), (.ref ba)])) rfl rfl (dd hy dJ52_4_52)
  have z10 : h4.size ≤ h9.size := Nat.le_of_eq W9.size.symm
  have V9 : Arv Z h9 ba kb .byte (Int32.ofNat (2 * n)) ((us.set (2 * j) (.int (own_lo (ch >>> ((0 : Int32) &&& 31))))).set (2 * j + 1) (.int (own_lo (ch >>> ((8 : Int32) &&& 31))))) v0_ := by
    have q : Arv Z h9 ba kb .byte (Int32.ofNat (2 * n)) ((us.set (2 * j) (.int (own_lo (ch >>> ((0 : Int32) &&& 31))))).set (2 * j + 1) (.int (nar .byte (own_lo (ch >>> ((8 : Int32) &&& 31)))))) v0_ := Arv.set Ar8 q8 S8 M8 H8 G8 (fits_nar_byte _) W9 ((2 * j + 1)) (own_tn (by omega)) (by first | omega | (simp only [List.length_set]; omega))
    rw [own_lolo] at q
    exact q
  have N9 := Fr.snoc X9 N4 (show n0 ≤ ba by omega)
  have s11 : ∀ t_, Steps p.tables e below (T9.setTop (mkF m 53 #[.val (.ref ba), .val (.int (Int32.ofNat (2 * j + 1))), .val (.int ch)] [])) t_ → Steps _ _ _ _ t_ := fun t_ k_ => pre0 t_ (by
    refine st1 _ ?_
    refine XS.ifYes X1.here hx rfl (pc0 := 3) (pc' := 28) rfl (dd hy dJ52_4_3) rfl ((if0 _ _).trans (feq (by decide : ¬ ((1 : Int32) = (0 : Int32)))).2) (by decide) (by decide) ?_
    show Steps _ _ _ (T1.setTop (mkF m 28 #[.val (.ref ba), .val (.int (Int32.ofNat j)), .val (.int ch)] [])) _
    refine XS.iloadN X1.here hx rfl (dd hy dJ52_4_28) rfl ?_
    refine XS.iconst X1.here hx rfl (dd hy dJ52_4_29) ?_
    refine XS.ishl X1.here hx rfl (dd hy dJ52_4_30) rfl ?_
    show Steps _ _ _ (T1.setTop (mkF m 31 #[.val (.ref ba), .val (.int (Int32.ofNat j)), .val (.int ch)] [(.int ((Int32.ofNat j) <<< ((1 : Int32) &&& 31)))])) _
    refine castTop (g' := (mkF m 31 #[.val (.ref ba), .val (.int (Int32.ofNat j)), .val (.int ch)] [(.int (Int32.ofNat (2 * j)))])) (by rw [own_shl1 (by omega)]) ?_
    show Steps _ _ _ (T1.setTop (mkF m 31 #[.val (.ref ba), .val (.int (Int32.ofNat j)), .val (.int ch)] [(.int (Int32.ofNat (2 * j)))])) _
    refine XS.istoreN X1.here hx rfl (dd hy dJ52_4_31) rfl (l' := #[.val (.ref ba), .val (.int (Int32.ofNat (2 * j))), .val (.int ch)]) rfl ?_
    refine XS.aloadN X1.here hx rfl (dd hy dJ52_4_32) rfl rfl ?_
    refine XS.iloadN X1.here hx rfl (dd hy dJ52_4_33) rfl ?_
    refine XS.iinc X1.here hx rfl (dd hy dJ52_4_34) rfl (l' := #[.val (.ref ba), .val (.int ((Int32.ofNat (2 * j)) + (1 : Int32))), .val (.int ch)]) rfl ?_
    refine XS.iloadN X1.here hx rfl (dd hy dJ52_4_37) rfl ?_
    refine st2 _ ?_
    show Steps _ _ _ (T2.setTop (mkF m 41 #[.val (.ref ba), .val (.int ((Int32.ofNat (2 * j)) + (1 : Int32))), .val (.int ch)] [(.int (0 : Int32)), (.int ch), (.int (Int32.ofNat (2 * j))), (.ref ba)])) _
    refine XS.ishr X2.here hx rfl (dd hy dJ52_4_41) rfl ?_
    refine XS.i2b X2.here hx rfl (dd hy dJ52_4_42) rfl ?_
    refine st4 _ ?_
    show Steps _ _ _ (T4.setTop (mkF m 44 #[.val (.ref ba), .val (.int ((Int32.ofNat (2 * j)) + (1 : Int32))), .val (.int ch)] [])) _
    refine castTop (g' := (mkF m 44 #[.val (.ref ba), .val (.int (Int32.ofNat (2 * j + 1))), .val (.int ch)] [])) (by rw [← own_up]) ?_
    show Steps _ _ _ (T4.setTop (mkF m 44 #[.val (.ref ba), .val (.int (Int32.ofNat (2 * j + 1))), .val (.int ch)] [])) _
    refine XS.aloadN X4.here hx rfl (dd hy dJ52_4_44) rfl rfl ?_
    refine XS.iloadN X4.here hx rfl (dd hy dJ52_4_45) rfl ?_
    refine XS.iloadN X4.here hx rfl (dd hy dJ52_4_46) rfl ?_
    refine st7 _ ?_
    refine XS.ishr X7.here hx rfl (dd hy dJ52_4_50) rfl ?_
    refine XS.i2b X7.here hx rfl (dd hy dJ52_4_51) rfl ?_
    show Steps _ _ _ (T7.setTop (mkF m 52 #[.val (.ref ba), .val (.int (Int32.ofNat (2 * j + 1))), .val (.int ch)] [(.int (own_lo (ch >>> ((8 : Int32) &&& 31)))), (.int (Int32.ofNat (2 * j + 1))), (.ref ba)])) _
    refine st9 _ ?_
    exact k_)
  obtain ⟨fs, hr, hrun, hended, hW, hsame⟩ := X9.leave (v := none) (fun _ => rfl)
  refine ⟨_, _, s11 _ ?_, hrun, hended, _, _, rfl, ?_, ⟨_, rfl⟩, hW, hsame.mono (by decide) (by decide)⟩
  · exact X9.returnOut hx Bd.returns (dd hy dJ52_4_53) hr
  · show Q_rmPut Z _ _ _ _ _ _ h0 n0 _ T9.heap _
    rw [e9]
    exact ⟨rfl, N9, (((Keep.refl h0 [ba]).wr W4 (Or.inl (by simp))).wr W9 (Or.inl (by simp))), V9⟩
theorem dJ52_5_0 : decode CJ52_5 0 = .ok (.getstatic 44, 3) := by decide +kernel
theorem dJ52_5_3 : decode CJ52_5 3 = .ok (.ifCond .ne 25, 3) := by decide +kernel
theorem dJ52_5_28 : decode CJ52_5 28 = .ok (.iload_n 1, 1) := by decide +kernel
theorem dJ52_5_29 : decode CJ52_5 29 = .ok (.iconst 1, 1) := by decide +kernel
theorem dJ52_5_30 : decode CJ52_5 30 = .ok (.ishl, 1) := by decide +kernel
theorem dJ52_5_31 : decode CJ52_5 31 = .ok (.istore_n 1, 1) := by decide +kernel
theorem dJ52_5_32 : decode CJ52_5 32 = .ok (.aload_n 0, 1) := by decide +kernel
theorem dJ52_5_33 : decode CJ52_5 33 = .ok (.iload_n 1, 1) := by decide +kernel
theorem dJ52_5_34 : decode CJ52_5 34 = .ok (.iinc 1 1, 3) := by decide +kernel
theorem dJ52_5_37 : decode CJ52_5 37 = .ok (.baload, 1) := by decide +kernel
theorem dJ52_5_38 : decode CJ52_5 38 = .ok (.sipush 255, 3) := by decide +kernel
theorem dJ52_5_41 : decode CJ52_5 41 = .ok (.iand, 1) := by decide +kernel
theorem dJ52_5_42 : decode CJ52_5 42 = .ok (.getstatic 59, 3) := by decide +kernel
theorem dJ52_5_45 : decode CJ52_5 45 = .ok (.ishl, 1) := by decide +kernel
theorem dJ52_5_46 : decode CJ52_5 46 = .ok (.aload_n 0, 1) := by decide +kernel
theorem dJ52_5_47 : decode CJ52_5 47 = .ok (.iload_n 1, 1) := by decide +kernel
theorem dJ52_5_48 : decode CJ52_5 48 = .ok (.baload, 1) := by decide +kernel
theorem dJ52_5_49 : decode CJ52_5 49 = .ok (.sipush 255, 3) := by decide +kernel
theorem dJ52_5_52 : decode CJ52_5 52 = .ok (.iand, 1) := by decide +kernel
theorem dJ52_5_53 : decode CJ52_5 53 = .ok (.getstatic 63, 3) := by decide +kernel
theorem dJ52_5_56 : decode CJ52_5 56 = .ok (.ishl, 1) := by decide +kernel
theorem dJ52_5_57 : decode CJ52_5 57 = .ok (.ior, 1) := by decide +kernel
theorem dJ52_5_58 : decode CJ52_5 58 = .ok (.i2c, 1) := by decide +kernel
theorem dJ52_5_59 : decode CJ52_5 59 = .ok (.ireturn, 1) := by decide +kernel
theorem ef_rmGet (m : MethodId) (x0 : Addr) (x1 : Int32) : entryFrame m #[(.ref x0), (.int x1)] 2 = mkF m 0 #[.val (.ref x0), .val (.int x1)] [] := by first | (simp [entryFrame, mkF, argsToLocals, Value.category]; done) | rfl
abbrev R_rmGet : Room := ({ frames := 0, cells := 0, slots := 0, locals := 0 } : Room)
def Q_rmGet (Z : State) (ba : Addr) (kb : ClassId) (us : List Value) (n : Nat) (j : Nat) (ch : Int32) (h0 : Heap) (n0 : Nat) (v : Option Value) (h : Heap) (L : List Loc) : Prop := (v = some (.int ch)) ∧ (Fr n0 L) ∧ (h = h0)
set_option maxRecDepth 65536 in
set_option maxHeartbeats 40000000 in
theorem rmGet (l : Launch) (Z : State) (a0 : Array Value) (hw : HW Z a0) (ws : List Jvm.Cond) (ba : Addr) (kb : ClassId) (us : List Value) (n : Nat) (j : Nat) (ch : Int32) (h0 : Heap) (n0 : Nat) (Z0 : n0 ≤ h0.size) (I1 : Sta Z Z.heap cU cD "Z" (.int (1 : Int32))) (I2 : Sta Z Z.heap cU cH "I" (.int (0 : Int32))) (I3 : Sta Z Z.heap cU cL "I" (.int (8 : Int32))) (OX : Old Z n0 h0) (I4 : Arv Z h0 ba kb .byte (Int32.ofNat (2 * n)) us v0_) (hb : n ≤ 15) (hj : j < n) (hu0 : us.getD (2 * j) (.int (0 : Int32)) = .int (own_lo (ch >>> ((0 : Int32) &&& 31)))) (hu1 : us.getD (2 * j + 1) (.int (0 : Int32)) = .int (own_lo (ch >>> ((8 : Int32) &&& 31)))) (hc0 : ¬ (ch < (0 : Int32))) (hc1 : ¬ ((65535 : Int32) < ch)) :
    MF l Z M5_ (Jvm.Cond.code M5_ jdk_52_method_5_code 2 (some .char) :: ws) R_rmGet #[(.ref ba), (.int (Int32.ofNat j))] h0 (Q_rmGet Z ba kb us n j ch h0 n0) := by
  refine MetFree.of_bodySF (plainFor_of_name pn_java_lang_StringUTF16) hisR ?_
  intro p e s m args below meth c s₁ Bd hml0 hP hK
  obtain ⟨rfl, hZ, hh⟩ := hP
  have hx := Bd.exec
  have hy := Bd.bytes
  have hml : c.maxLocals = 2 := hml0
  have hown : s.vm.findClass "java/lang/StringUTF16" = some m.cls := findClass_of_methodNamed Bd.named
  have hnm := (name_of_methodNamed Bd.named Bd.method).1
  have X0 : Stand p l e R_rmGet s m #[(.ref ba), (.int (Int32.ofNat j))] below meth c s₁ [] 0 0 := Stand.of_body Bd
  have e0 : s₁.heap = h0 := by rw [← hh, Bd.state]; rfl
  have N0 := Fr.nil n0
  have pre0 := own_pre (p := p) (e := e) (below := below) (T := s₁) (ef_rmGet m ba (Int32.ofNat j))
  have lt_I4 : @LT.lt Nat _ ba h0.size := I4.lt
  obtain ⟨T1, X1, e1, st1⟩ := getS2 X0 hx hZ hown (host := "") (Or.inl (own_m hw 114 rfl)) Via.refl e0 (I1.ext OX.2) (g := (mkF m 0 #[.val (.ref ba), .val (.int (Int32.ofNat j))] [])) rfl (dd hy dJ52_5_0)
  obtain ⟨cl2, Ar2, -, S2, M2, H2, -⟩ := id I4
  have hin2 : ¬ ((Int32.ofNat (2 * j)) < 0 ∨ cl2.slots.size ≤ ((Int32.ofNat (2 * j))).toNatClampNeg) := inb_of S2 (own_in (by omega) (by omega))
  have hat2 : cl2.slots[((Int32.ofNat (2 * j))).toNatClampNeg]? = some (.int (own_lo (ch >>> ((0 : Int32) &&& 31)))) := H2.at hin2 (by rw [own_tn (by omega)]; exact hu0)
  obtain ⟨T3, X3, e3, st3⟩ := getS2 X1 hx hZ hown (host := "") (Or.inl (own_m hw 115 rfl)) Via.refl e1 (I2.ext OX.2) (g := (mkF m 42 #[.val (.ref ba), .val (.int (Int32.ofNat (2 * j + 1)))] [(.int ((own_lo (ch >>> ((0 : Int32) &&& 31))) &&& (255 : Int32)))])) rfl (dd hy dJ52_5_42)
  obtain ⟨cl4, Ar4, -, S4, M4, H4, -⟩ := id I4
  have hin4 : ¬ ((Int32.ofNat (2 * j + 1)) < 0 ∨ cl4.slots.size ≤ ((Int32.ofNat (2 * j + 1))).toNatClampNeg) := inb_of S4 (own_in (by omega) (by omega))
  have hat4 : cl4.slots[((Int32.ofNat (2 * j + 1))).toNatClampNeg]? = some (.int (own_lo (ch >>> ((8 : Int32) &&& 31)))) := H4.at hin4 (by rw [own_tn (by omega)]; exact hu1)
  obtain ⟨T5, X5, e5, st5⟩ := getS2 X3 hx hZ hown (host := "") (Or.inl (own_m hw 116 rfl)) Via.refl e3 (I3.ext OX.2) (g := (mkF m 53 #[.val (.ref ba), .val (.int (Int32.ofNat (2 * j + 1)))] [(.int ((own_lo (ch >>> ((8 : Int32) &&& 31))) &&& (255 : Int32))), (.int (((own_lo (ch >>> ((0 : Int32) &&& 31))) &&& (255 : Int32)) <<< ((0 : Int32) &&& 31)))])) rfl (dd hy dJ52_5_53)
  have s6 : ∀ t_, Steps p.tables e below (T5.setTop (mkF m 59 #[.val (.ref ba), .val (.int (Int32.ofNat (2 * j + 1)))] [(.int (i2c ((((own_lo (ch >>> ((0 : Int32) &&& 31))) &&& (255 : Int32)) <<< ((0 : Int32) &&& 31)) ||| (((own_lo (ch >>> ((8 : Int32) &&& 31))) &&& (255 : Int32)) <<< ((8 : Int32) &&& 31)))))])) t_ → Steps _ _ _ _ t_ := fun t_ k_ => pre0 t_ (by
    refine st1 _ ?_
    refine XS.ifYes X1.here hx rfl (pc0 := 3) (pc' := 28) rfl (dd hy dJ52_5_3) rfl ((if0 _ _).trans (feq (by decide : ¬ ((1 : Int32) = (0 : Int32)))).2) (by decide) (by decide) ?_
    show Steps _ _ _ (T1.setTop (mkF m 28 #[.val (.ref ba), .val (.int (Int32.ofNat j))] [])) _
    refine XS.iloadN X1.here hx rfl (dd hy dJ52_5_28) rfl ?_
    refine XS.iconst X1.here hx rfl (dd hy dJ52_5_29) ?_
    refine XS.ishl X1.here hx rfl (dd hy dJ52_5_30) rfl ?_
    show Steps _ _ _ (T1.setTop (mkF m 31 #[.val (.ref ba), .val (.int (Int32.ofNat j))] [(.int ((Int32.ofNat j) <<< ((1 : Int32) &&& 31)))])) _
    refine castTop (g' := (mkF m 31 #[.val (.ref ba), .val (.int (Int32.ofNat j))] [(.int (Int32.ofNat (2 * j)))])) (by rw [own_shl1 (by omega)]) ?_
    show Steps _ _ _ (T1.setTop (mkF m 31 #[.val (.ref ba), .val (.int (Int32.ofNat j))] [(.int (Int32.ofNat (2 * j)))])) _
    refine XS.istoreN X1.here hx rfl (dd hy dJ52_5_31) rfl (l' := #[.val (.ref ba), .val (.int (Int32.ofNat (2 * j)))]) rfl ?_
    refine XS.aloadN X1.here hx rfl (dd hy dJ52_5_32) rfl rfl ?_
    refine XS.iloadN X1.here hx rfl (dd hy dJ52_5_33) rfl ?_
    refine XS.iinc X1.here hx rfl (dd hy dJ52_5_34) rfl (l' := #[.val (.ref ba), .val (.int ((Int32.ofNat (2 * j)) + (1 : Int32)))]) rfl ?_
    show Steps _ _ _ (T1.setTop (mkF m 37 #[.val (.ref ba), .val (.int ((Int32.ofNat (2 * j)) + (1 : Int32)))] [(.int (Int32.ofNat (2 * j))), (.ref ba)])) _
    refine castTop (g' := (mkF m 37 #[.val (.ref ba), .val (.int (Int32.ofNat (2 * j + 1)))] [(.int (Int32.ofNat (2 * j))), (.ref ba)])) (by rw [← own_up]) ?_
    show Steps _ _ _ (T1.setTop (mkF m 37 #[.val (.ref ba), .val (.int (Int32.ofNat (2 * j + 1)))] [(.int (Int32.ofNat (2 * j))), (.ref ba)])) _
    refine X1.baloadBytes hx (j := (Int32.ofNat (2 * j))) (v := (.int (own_lo (ch >>> ((0 : Int32) &&& 31))))) (by rw [e1]; exact Ar2.1) (State.isArrayOf_alike hZ.alike Ar2.2.1) Ar2.2.2 hin2 hat2 (g := (mkF m 37 #[.val (.ref ba), .val (.int (Int32.ofNat (2 * j + 1)))] [(.int (Int32.ofNat (2 * j))), (.ref ba)])) rfl rfl (dd hy dJ52_5_37) _ ?_
    refine XS.sipush X1.here hx rfl (dd hy dJ52_5_38) ?_
    refine XS.iand X1.here hx rfl (dd hy dJ52_5_41) rfl ?_
    refine st3 _ ?_
    refine XS.ishl X3.here hx rfl (dd hy dJ52_5_45) rfl ?_
    refine XS.aloadN X3.here hx rfl (dd hy dJ52_5_46) rfl rfl ?_
    show Steps _ _ _ (T3.setTop (mkF m 47 #[.val (.ref ba), .val (.int (Int32.ofNat (2 * j + 1)))] [(.ref ba), (.int (((own_lo (ch >>> ((0 : Int32) &&& 31))) &&& (255 : Int32)) <<< ((0 : Int32) &&& 31)))])) _
    refine XS.iloadN X3.here hx rfl (dd hy dJ52_5_47) rfl ?_
    refine X3.baloadBytes hx (j := (Int32.ofNat (2 * j + 1))) (v := (.int (own_lo (ch >>> ((8 : Int32) &&& 31))))) (by rw [e3]; exact Ar4.1) (State.isArrayOf_alike hZ.alike Ar4.2.1) Ar4.2.2 hin4 hat4 (g := (mkF m 48 #[.val (.ref ba), .val (.int (Int32.ofNat (2 * j + 1)))] [(.int (Int32.ofNat (2 * j + 1))), (.ref ba), (.int (((own_lo (ch >>> ((0 : Int32) &&& 31))) &&& (255 : Int32)) <<< ((0 : Int32) &&& 31)))])) rfl rfl (dd hy dJ52_5_48) _ ?_
    refine XS.sipush X3.here hx rfl (dd hy dJ52_5_49) ?_
    refine XS.iand X3.here hx rfl (dd hy dJ52_5_52) rfl ?_
    refine st5 _ ?_
    refine XS.ishl X5.here hx rfl (dd hy dJ52_5_56) rfl ?_
    show Steps _ _ _ (T5.setTop (mkF m 57 #[.val (.ref ba), .val (.int (Int32.ofNat (2 * j + 1)))] [(.int (((own_lo (ch >>> ((8 : Int32) &&& 31))) &&& (255 : Int32)) <<< ((8 : Int32) &&& 31))), (.int (((own_lo (ch >>> ((0 : Int32) &&& 31))) &&& (255 : Int32)) <<< ((0 : Int32) &&& 31)))])) _
    refine XS.ior X5.here hx rfl (dd hy dJ52_5_57) rfl ?_
    refine XS.i2c X5.here hx rfl (dd hy dJ52_5_58) rfl ?_
    exact k_)
  obtain ⟨fs, hr, hrun, hended, hW, hsame⟩ := X5.leave (v := some (.int (nar .char (i2c ((((own_lo (ch >>> ((0 : Int32) &&& 31))) &&& (255 : Int32)) <<< ((0 : Int32) &&& 31)) ||| (((own_lo (ch >>> ((8 : Int32) &&& 31))) &&& (255 : Int32)) <<< ((8 : Int32) &&& 31))))))) (fun h => by rw [Bd.returns] at h; cases h)
  refine ⟨_, _, s6 _ ?_, hrun, hended, _, _, rfl, ?_, ⟨_, rfl⟩, hW, hsame.mono (by decide) (by decide)⟩
  · exact retN X5 hx (t := .char) Bd.returns (by simp) (dd hy dJ52_5_59) hr
  · show Q_rmGet Z _ _ _ _ _ _ h0 n0 _ T5.heap _
    rw [e5]
    exact ⟨(by rw [own_pair hc0 hc1, own_narc hc0 hc1]), N0, rfl⟩
theorem dJ52_14_0 : decode CJ52_14 0 = .ok (.iload_n 2, 1) := by decide +kernel
theorem pd__I__B : parseMethodDescriptor "(I)[B" = some ⟨[.int], some (.array .byte)⟩ := by decide +kernel
theorem dJ52_14_1 : decode CJ52_14 1 = .ok (.invokestatic 107, 3) := by decide +kernel
theorem dJ52_14_4 : decode CJ52_14 4 = .ok (.astore_n 3, 1) := by decide +kernel
theorem dJ52_14_5 : decode CJ52_14 5 = .ok (.iconst 0, 1) := by decide +kernel
theorem dJ52_14_6 : decode CJ52_14 6 = .ok (.istore 4, 2) := by decide +kernel
theorem dJ52_14_8 : decode CJ52_14 8 = .ok (.iload 4, 2) := by decide +kernel
theorem dJ52_14_10 : decode CJ52_14 10 = .ok (.iload_n 2, 1) := by decide +kernel
theorem dJ52_14_11 : decode CJ52_14 11 = .ok (.if_icmp .ge 21, 3) := by decide +kernel
theorem dJ52_14_14 : decode CJ52_14 14 = .ok (.aload_n 3, 1) := by decide +kernel
theorem dJ52_14_15 : decode CJ52_14 15 = .ok (.iload 4, 2) := by decide +kernel
theorem dJ52_14_17 : decode CJ52_14 17 = .ok (.aload_n 0, 1) := by decide +kernel
theorem dJ52_14_18 : decode CJ52_14 18 = .ok (.iload_n 1, 1) := by decide +kernel
theorem dJ52_14_19 : decode CJ52_14 19 = .ok (.caload, 1) := by decide +kernel
theorem pd___BII_V : parseMethodDescriptor "([BII)V" = some ⟨[(.array .byte), .int, .int], none⟩ := by decide +kernel
theorem dJ52_14_20 : decode CJ52_14 20 = .ok (.invokestatic 111, 3) := by decide +kernel
theorem dJ52_14_23 : decode CJ52_14 23 = .ok (.iinc 1 1, 3) := by decide +kernel
theorem dJ52_14_26 : decode CJ52_14 26 = .ok (.iinc 4 1, 3) := by decide +kernel
theorem dJ52_14_29 : decode CJ52_14 29 = .ok (.goto (-21), 3) := by decide +kernel
theorem dJ52_14_32 : decode CJ52_14 32 = .ok (.aload_n 3, 1) := by decide +kernel
theorem dJ52_14_33 : decode CJ52_14 33 = .ok (.areturn, 1) := by decide +kernel
theorem ef_rmTo (m : MethodId) (x0 : Addr) (x1 : Int32) (x2 : Int32) : entryFrame m #[(.ref x0), (.int x1), (.int x2)] 5 = mkF m 0 #[.val (.ref x0), .val (.int x1), .val (.int x2), .unset, .unset] [] := by first | (simp [entryFrame, mkF, argsToLocals, Value.category]; done) | rfl
abbrev R_rmTo : Room := ({ frames := 2, cells := 1, slots := 30, locals := 24 } : Room)
def Q_rmTo (Z : State) (ca : Addr) (cs : List Int32) (kc : ClassId) (n : Nat) (h0 : Heap) (n0 : Nat) (v : Option Value) (h : Heap) (L : List Loc) : Prop := ∃ (b : Addr), ∃ (kb : ClassId), (v = some (.ref b)) ∧ (Fr n0 L) ∧ (Keep h0 h []) ∧ (Arv Z h b kb .byte (Int32.ofNat (2 * n)) (own_wide cs) v0_) ∧ (h0.size ≤ b)
set_option maxRecDepth 65536 in
set_option maxHeartbeats 40000000 in
theorem rmTo (l : Launch) (Z : State) (a0 : Array Value) (hw : HW Z a0) (ws : List Jvm.Cond) (ca : Addr) (cs : List Int32) (kc : ClassId) (n : Nat) (h0 : Heap) (n0 : Nat) (Z0 : n0 ≤ h0.size) (I1 : Sta Z Z.heap cU cD "Z" (.int (1 : Int32))) (I2 : Sta Z Z.heap cU cH "I" (.int (0 : Int32))) (I3 : Sta Z Z.heap cU cL "I" (.int (8 : Int32))) (OX : Old Z n0 h0) (I4 : Arv Z h0 ca kc .char (Int32.ofNat n) (cs.map Value.int) v0_) (hn : cs.length = n) (hb : n ≤ 15) :
    MF l Z M6_ (Jvm.Cond.code M6_ jdk_52_method_14_code 5 (some (.array .byte)) :: ws) R_rmTo #[(.ref ca), (.int (0 : Int32)), (.int (Int32.ofNat n))] h0 (Q_rmTo Z ca cs kc n h0 n0) := by
  refine MetFree.of_bodySF (plainFor_of_name pn_java_lang_StringUTF16) hisR ?_
  intro p e s m args below meth c s₁ Bd hml0 hP hK
  obtain ⟨rfl, hZ, hh⟩ := hP
  have hx := Bd.exec
  have hy := Bd.bytes
  have hml : c.maxLocals = 5 := hml0
  have hown : s.vm.findClass "java/lang/StringUTF16" = some m.cls := findClass_of_methodNamed Bd.named
  have hnm := (name_of_methodNamed Bd.named Bd.method).1
  have X0 : Stand p l e R_rmTo s m #[(.ref ca), (.int (0 : Int32)), (.int (Int32.ofNat n))] below meth c s₁ [] 0 0 := Stand.of_body Bd
  have e0 : s₁.heap = h0 := by rw [← hh, Bd.state]; rfl
  have N0 := Fr.nil n0
  have pre0 := own_pre (p := p) (e := e) (below := below) (T := s₁) (ef_rmTo m ca (0 : Int32) (Int32.ofNat n))
  have lt_I4 : @LT.lt Nat _ ca h0.size := I4.lt
  have Zc1 : n0 ≤ h0.size := by omega
  obtain ⟨_, _, ⟨T2, L2, k2, n2⟩, -, X2, ⟨Lc2, hQ2, l2, y2, z2⟩, st2⟩ := Jvm.LawKit.callS X0 hx (y := M3_) hown (mvT hZ (own_m hw 104 rfl)) (mvT hZ (own_m hw 105 rfl)) (mvT hZ (own_m hw 58 rfl)) (mvT hZ (own_m hw 106 rfl)) (by decide) (backOf (W := 0) (rmNBF l Z a0 hw [] n h0 n0 Zc1 hb) hZ (own_m hw 106 rfl) (own_m hw 58 rfl) (by decide) (by decide)) (g := (mkF m 1 #[.val (.ref ca), .val (.int (0 : Int32)), .val (.int (Int32.ofNat n)), .unset, .unset] [(.int (Int32.ofNat n))])) rfl (by rw [hml]; rfl) (argsL := [(.int (Int32.ofNat n))]) (rest := []) (lenOf pd__I__B rfl) rfl (by show 2 * 0 + _ ≤ _; exact Nat.le_of_eq rfl) (dd hy dJ52_14_1) (fun _ _ => ⟨rfl, e0, (by decide : 0 + 1 ≤ _), (by decide : 0 + 30 ≤ _)⟩)
  dsimp only [Pt.U, Pt.locs, Pt.cells, Pt.slots] at X2 l2 y2 z2 st2 hQ2
  subst l2 y2 z2
  obtain ⟨b_2, kb_2, rfl, N2q, K2, Fq2_0, P2_0⟩ := hQ2
  have N2 := Fr.app N0 N2q
  obtain ⟨h2, e2⟩ : ∃ z, T2.heap = z := ⟨_, rfl⟩
  rw [e2] at K2 Fq2_0
  have z3 : h0.size ≤ h2.size := K2.1
  have lt2_0 : @LT.lt Nat _ b_2 h2.size := Fq2_0.lt
  have s4 : ∀ t_, Steps p.tables e below (T2.setTop (mkF m 8 #[.val (.ref ca), .val (.int (0 : Int32)), .val (.int (Int32.ofNat n)), .val (.ref b_2), .val (.int (0 : Int32))] [])) t_ → Steps _ _ _ _ t_ := fun t_ k_ => pre0 t_ (by
    refine XS.iloadN X0.here hx rfl (dd hy dJ52_14_0) rfl ?_
    refine st2 _ ?_
    show Steps _ _ _ (T2.setTop (mkF m 4 #[.val (.ref ca), .val (.int (0 : Int32)), .val (.int (Int32.ofNat n)), .unset, .unset] [(.ref b_2)])) _
    refine XS.astoreN X2.here hx rfl (dd hy dJ52_14_4) rfl rfl (l' := #[.val (.ref ca), .val (.int (0 : Int32)), .val (.int (Int32.ofNat n)), .val (.ref b_2), .unset]) rfl ?_
    refine XS.iconst X2.here hx rfl (dd hy dJ52_14_5) ?_
    refine XS.istore X2.here hx rfl (dd hy dJ52_14_6) rfl (l' := #[.val (.ref ca), .val (.int (0 : Int32)), .val (.int (Int32.ofNat n)), .val (.ref b_2), .val (.int (0 : Int32))]) rfl ?_
    exact k_)
  have lp5 : ∀ (k_ : Nat) (j : Nat) (T_ : State) (lo_ : List Loc) (hh5 : Heap), j + k_ = n → Stand p l e R_rmTo s m #[(.ref ca), (.int (0 : Int32)), (.int (Int32.ofNat n))] below meth c T_ lo_ 1 30 → T_.heap = hh5 → Fr n0 lo_ → Keep h2 hh5 [b_2] → Arv Z hh5 b_2 kb_2 .byte (Int32.ofNat (2 * n)) (own_mix (own_wide cs) (List.replicate (2 * n) (.int (0 : Int32))) (2 * j)) v0_ → ∃ (T' : State) (lo' : List Loc) (hx_ : Heap) (fe_ : JFrame), Stand p l e R_rmTo s m #[(.ref ca), (.int (0 : Int32)), (.int (Int32.ofNat n))] below meth c T' lo' 1 30 ∧ T'.heap = hx_ ∧ Fr n0 lo' ∧ Keep h2 hx_ [b_2] ∧ ((fe_ = (mkF m 32 #[.val (.ref ca), .val (.int (Int32.ofNat n)), .val (.int (Int32.ofNat n)), .val (.ref b_2), .val (.int (Int32.ofNat n))] []) ∧ Arv Z hx_ b_2 kb_2 .byte (Int32.ofNat (2 * n)) (own_mix (own_wide cs) (List.replicate (2 * n) (.int (0 : Int32))) (2 * n)) v0_)) ∧ ∀ t_, Steps p.tables e below (T'.setTop fe_) t_ → Steps p.tables e below (T_.setTop (mkF m 8 #[.val (.ref ca), .val (.int (Int32.ofNat j)), .val (.int (Int32.ofNat n)), .val (.ref b_2), .val (.int (Int32.ofNat j))] [])) t_ := by
    intro k_
    induction k_ with
    | zero => 
      intro j T_ lo_ hh5 hm_ X_ e_ N_ K_ F_0
      have zk_ : h2.size ≤ hh5.size := K_.1
      have s6 : ∀ t_, Steps p.tables e below (T_.setTop (mkF m 32 #[.val (.ref ca), .val (.int (Int32.ofNat j)), .val (.int (Int32.ofNat n)), .val (.ref b_2), .val (.int (Int32.ofNat j))] [])) t_ → Steps p.tables e below (T_.setTop (mkF m 8 #[.val (.ref ca), .val (.int (Int32.ofNat j)), .val (.int (Int32.ofNat n)), .val (.ref b_2), .val (.int (Int32.ofNat j))] [])) t_ := fun t_ k_ => (fun _ k_ => k_) t_ (by
        refine XS.iload X_.here hx rfl (dd hy dJ52_14_8) rfl ?_
        refine XS.iloadN X_.here hx rfl (dd hy dJ52_14_10) rfl ?_
        refine XS.icmpYes X_.here hx rfl (pc0 := 11) (pc' := 32) rfl (dd hy dJ52_14_11) rfl (flt (own_nlt (by omega) (by omega))).2.1 (by decide) (by decide) ?_
        show Steps _ _ _ (T_.setTop (mkF m 32 #[.val (.ref ca), .val (.int (Int32.ofNat j)), .val (.int (Int32.ofNat n)), .val (.ref b_2), .val (.int (Int32.ofNat j))] [])) _
        exact k_)
      exact ⟨T_, _, _, _, X_, e_, N_, ((Keep.refl h2 [b_2]).trans K_ (allS (Or.inl (by simp)) all0)), ⟨(by rw [show j = n by omega]), (by obtain rfl : j = n := (by omega); exact F_0)⟩, s6⟩
    | succ k_ ih => 
      intro j T_ lo_ hh5 hm_ X_ e_ N_ K_ F_0
      have zk_ : h2.size ≤ hh5.size := K_.1
      have f7 : Arv Z hh5 ca kc .char (Int32.ofNat n) (cs.map Value.int) v0_ := ((I4.keep K2 nin0).keep K_ (ninS (show @Ne Nat ca b_2 by omega) nin0))
      obtain ⟨cl8, Ar8, -, S8, M8, H8, -⟩ := id f7
      have hin8 : ¬ ((Int32.ofNat j) < 0 ∨ cl8.slots.size ≤ ((Int32.ofNat j)).toNatClampNeg) := inb_of S8 (own_in (by omega) (by omega))
      have hat8 : cl8.slots[((Int32.ofNat j)).toNatClampNeg]? = some (.int (cs.getD j 0)) := H8.at hin8 (own_getc cs j _ (by omega) (by omega))
      have O9 : Old Z n0 hh5 := ((OX.keep K2 all0).keep K_ (allS (show n0 ≤ b_2 by omega) all0))
      have Zc10 : n0 ≤ hh5.size := by omega
      obtain ⟨_, _, ⟨T11, L11, k11, n11⟩, -, X11, ⟨Lc11, hQ11, l11, y11, z11⟩, st11⟩ := Jvm.LawKit.callS X_ hx (y := M4_) hown (mvT hZ (own_m hw 111 rfl)) (mvT hZ (own_m hw 112 rfl)) (mvT hZ (own_m hw 58 rfl)) (mvT hZ (own_m hw 113 rfl)) (by decide) (backOf (W := 0) (rmPut l Z a0 hw [] b_2 (cs.getD j 0) kb_2 (own_mix (own_wide cs) (List.replicate (2 * n) (.int (0 : Int32))) (2 * j)) n j hh5 n0 Zc10 I1 I2 I3 O9 F_0 hb (by first | assumption | omega | rfl | decide) (by rw [own_mixl _ _ _ (by rw [own_widel]; simp; omega)]; simp) (by first | assumption | omega | rfl | decide)) hZ (own_m hw 113 rfl) (own_m hw 58 rfl) (by decide) (by decide)) (g := (mkF m 20 #[.val (.ref ca), .val (.int (Int32.ofNat j)), .val (.int (Int32.ofNat n)), .val (.ref b_2), .val (.int (Int32.ofNat j))] [(.int (cs.getD j 0)), (.int (Int32.ofNat j)), (.ref b_2)])) rfl (by rw [hml]; rfl) (argsL := [(.ref b_2), (.int (Int32.ofNat j)), (.int (cs.getD j 0))]) (rest := []) (lenOf pd___BII_V rfl) rfl (by show 2 * 0 + _ ≤ _; exact Nat.le_of_eq rfl) (dd hy dJ52_14_20) (fun _ _ => ⟨rfl, e_, (by decide : 1 + 0 ≤ _), (by decide : 30 + 0 ≤ _)⟩)
      dsimp only [Pt.U, Pt.locs, Pt.cells, Pt.slots] at X11 l11 y11 z11 st11 hQ11
      subst l11 y11 z11
      obtain ⟨rfl, N11q, K11, Fq11_0⟩ := hQ11
      have N11 := Fr.app N_ N11q
      obtain ⟨h11, e11⟩ : ∃ z, T11.heap = z := ⟨_, rfl⟩
      rw [e11] at K11 Fq11_0
      have z12 : hh5.size ≤ h11.size := K11.1
      have lt11_0 : @LT.lt Nat _ b_2 h11.size := Fq11_0.lt
      have V13 : Arv Z h11 b_2 kb_2 .byte (Int32.ofNat (2 * n)) (own_mix (own_wide cs) (List.replicate (2 * n) (.int (0 : Int32))) (2 * (j + 1))) v0_ := by have q := Fq11_0; rw [own_mixw cs _ j (by simp; omega) (by omega)] at q; exact q
      have s14 : ∀ t_, Steps p.tables e below (T11.setTop (mkF m 8 #[.val (.ref ca), .val (.int ((Int32.ofNat j) + (1 : Int32))), .val (.int (Int32.ofNat n)), .val (.ref b_2), .val (.int ((Int32.ofNat j) + (1 : Int32)))] [])) t_ → Steps p.tables e below (T_.setTop (mkF m 8 #[.val (.ref ca), .val (.int (Int32.ofNat j)), .val (.int (Int32.ofNat n)), .val (.ref b_2), .val (.int (Int32.ofNat j))] [])) t_ := fun t_ k_ => (fun _ k_ => k_) t_ (by
        refine XS.iload X_.here hx rfl (dd hy dJ52_14_8) rfl ?_
        refine XS.iloadN X_.here hx rfl (dd hy dJ52_14_10) rfl ?_
        refine XS.icmpNo X_.here hx rfl (dd hy dJ52_14_11) rfl (tlt (own_lt (by omega) (by omega))).2.1 ?_
        show Steps _ _ _ (T_.setTop (mkF m 14 #[.val (.ref ca), .val (.int (Int32.ofNat j)), .val (.int (Int32.ofNat n)), .val (.ref b_2), .val (.int (Int32.ofNat j))] [])) _
        refine XS.aloadN X_.here hx rfl (dd hy dJ52_14_14) rfl rfl ?_
        refine XS.iload X_.here hx rfl (dd hy dJ52_14_15) rfl ?_
        refine XS.aloadN X_.here hx rfl (dd hy dJ52_14_17) rfl rfl ?_
        refine XS.iloadN X_.here hx rfl (dd hy dJ52_14_18) rfl ?_
        refine X_.caload hx (j := (Int32.ofNat j)) (v := (.int (cs.getD j 0))) (by rw [e_]; exact Ar8.1) (State.isArrayOf_alike hZ.alike Ar8.2.1) Ar8.2.2 hin8 hat8 (g := (mkF m 19 #[.val (.ref ca), .val (.int (Int32.ofNat j)), .val (.int (Int32.ofNat n)), .val (.ref b_2), .val (.int (Int32.ofNat j))] [(.int (Int32.ofNat j)), (.ref ca), (.int (Int32.ofNat j)), (.ref b_2)])) rfl rfl (dd hy dJ52_14_19) _ ?_
        refine st11 _ ?_
        show Steps _ _ _ (T11.setTop (mkF m 23 #[.val (.ref ca), .val (.int (Int32.ofNat j)), .val (.int (Int32.ofNat n)), .val (.ref b_2), .val (.int (Int32.ofNat j))] [])) _
        refine XS.iinc X11.here hx rfl (dd hy dJ52_14_23) rfl (l' := #[.val (.ref ca), .val (.int ((Int32.ofNat j) + (1 : Int32))), .val (.int (Int32.ofNat n)), .val (.ref b_2), .val (.int (Int32.ofNat j))]) rfl ?_
        refine XS.iinc X11.here hx rfl (dd hy dJ52_14_26) rfl (l' := #[.val (.ref ca), .val (.int ((Int32.ofNat j) + (1 : Int32))), .val (.int (Int32.ofNat n)), .val (.ref b_2), .val (.int ((Int32.ofNat j) + (1 : Int32)))]) rfl ?_
        refine XS.goto X11.here hx rfl (pc0 := 29) (pc' := 8) rfl (dd hy dJ52_14_29) (by decide) (by decide) ?_
        exact k_)
      obtain ⟨T15, lo15, h15, fe15, X15, e15, N15, K15, A15, st15⟩ := ih (j + 1) T11 _ h11 (by omega) X11 e11 N11 (((Keep.refl h2 [b_2]).trans K_ (allS (Or.inl (by simp)) all0)).trans K11 (allS (Or.inl (by simp)) all0)) V13 
      exact ⟨T15, lo15, h15, fe15, X15, e15, N15, K15, A15, fun t_ k_ => s14 t_ (castTop (by rw [own_up]) (st15 t_ k_))⟩
  obtain ⟨T16, lo16, h16, fe16, X16, e16, N16, K16, A16, st16⟩ := lp5 n 0 T2 _ h2 (by omega) X2 e2 N2 (Keep.refl _ _) (by rw [show 2 * 0 = 0 from rfl, own_mix0]; exact Fq2_0) 
  have z17 : h2.size ≤ h16.size := K16.1
  obtain ⟨rfl, G16_0⟩ := A16
  have s18 : ∀ t_, Steps p.tables e below (T16.setTop (mkF m 32 #[.val (.ref ca), .val (.int (Int32.ofNat n)), .val (.int (Int32.ofNat n)), .val (.ref b_2), .val (.int (Int32.ofNat n))] [])) t_ → Steps p.tables e below (s₁.setTop (entryFrame m #[(.ref ca), (.int (0 : Int32)), (.int (Int32.ofNat n))] 5)) t_ := fun t_ k_ => s4 t_ (st16 t_ k_)
  have s19 : ∀ t_, Steps p.tables e below (T16.setTop (mkF m 33 #[.val (.ref ca), .val (.int (Int32.ofNat n)), .val (.int (Int32.ofNat n)), .val (.ref b_2), .val (.int (Int32.ofNat n))] [(.ref b_2)])) t_ → Steps _ _ _ _ t_ := fun t_ k_ => s18 t_ (by
    refine XS.aloadN X16.here hx rfl (dd hy dJ52_14_32) rfl rfl ?_
    exact k_)
  obtain ⟨fs, hr, hrun, hended, hW, hsame⟩ := X16.leave (v := some (.ref b_2)) (fun h => by rw [Bd.returns] at h; cases h)
  refine ⟨_, _, s19 _ ?_, hrun, hended, _, _, rfl, ?_, ⟨_, rfl⟩, hW, hsame.mono (by decide) (by decide)⟩
  · jvm_step X16.here [X16.here.top, hx, (dd hy dJ52_14_33), X16.method', Bd.returns, Value.isRef, FieldType.isReference]
    first | (intro acts; rw [hr _ acts rfl rfl rfl]) | rw [hr _ _ rfl rfl rfl]
    exact Steps.refl _
  · show Q_rmTo Z _ _ _ _ h0 n0 _ T16.heap _
    rw [e16]
    exact ⟨b_2, kb_2, rfl, N16, (((Keep.refl h0 []).trans K2 all0).trans K16 (allS (Or.inr (show h0.size ≤ b_2 by omega)) all0)), (by have q := G16_0; rw [own_mixn _ _ (2 * n) (by rw [own_widel]; omega) (by simp)] at q; exact q), by omega⟩
theorem dJ52_16_0 : decode CJ52_16 0 = .ok (.iload_n 2, 1) := by decide +kernel
theorem dJ52_16_1 : decode CJ52_16 1 = .ok (.newarray .byte, 2) := by decide +kernel
theorem dJ52_16_3 : decode CJ52_16 3 = .ok (.astore_n 3, 1) := by decide +kernel
theorem dJ52_16_4 : decode CJ52_16 4 = .ok (.aload_n 0, 1) := by decide +kernel
theorem dJ52_16_5 : decode CJ52_16 5 = .ok (.iload_n 1, 1) := by decide +kernel
theorem dJ52_16_6 : decode CJ52_16 6 = .ok (.aload_n 3, 1) := by decide +kernel
theorem dJ52_16_7 : decode CJ52_16 7 = .ok (.iconst 0, 1) := by decide +kernel
theorem dJ52_16_8 : decode CJ52_16 8 = .ok (.iload_n 2, 1) := by decide +kernel
theorem pd___CI_BII_I : parseMethodDescriptor "([CI[BII)I" = some ⟨[(.array .char), .int, (.array .byte), .int, .int], some .int⟩ := by decide +kernel
theorem dJ52_16_9 : decode CJ52_16 9 = .ok (.invokestatic 115, 3) := by decide +kernel
theorem dJ52_16_12 : decode CJ52_16 12 = .ok (.istore 4, 2) := by decide +kernel
theorem dJ52_16_14 : decode CJ52_16 14 = .ok (.iload 4, 2) := by decide +kernel
theorem dJ52_16_16 : decode CJ52_16 16 = .ok (.iload_n 2, 1) := by decide +kernel
theorem dJ52_16_17 : decode CJ52_16 17 = .ok (.if_icmp .eq 40, 3) := by decide +kernel
theorem dJ52_16_57 : decode CJ52_16 57 = .ok (.aload_n 3, 1) := by decide +kernel
theorem dJ52_16_58 : decode CJ52_16 58 = .ok (.areturn, 1) := by decide +kernel
theorem dJ52_16_20 : decode CJ52_16 20 = .ok (.aload_n 0, 1) := by decide +kernel
theorem dJ52_16_21 : decode CJ52_16 21 = .ok (.iload_n 1, 1) := by decide +kernel
theorem dJ52_16_22 : decode CJ52_16 22 = .ok (.iload_n 2, 1) := by decide +kernel
theorem pd___CII__B : parseMethodDescriptor "([CII)[B" = some ⟨[(.array .char), .int, .int], some (.array .byte)⟩ := by decide +kernel
theorem dJ52_16_23 : decode CJ52_16 23 = .ok (.invokestatic 119, 3) := by decide +kernel
theorem dJ52_16_26 : decode CJ52_16 26 = .ok (.astore 5, 2) := by decide +kernel
theorem dJ52_16_28 : decode CJ52_16 28 = .ok (.aload 5, 2) := by decide +kernel
theorem dJ52_16_30 : decode CJ52_16 30 = .ok (.iload 4, 2) := by decide +kernel
theorem pd___BI_C : parseMethodDescriptor "([BI)C" = some ⟨[(.array .byte), .int], some .char⟩ := by decide +kernel
theorem dJ52_16_32 : decode CJ52_16 32 = .ok (.invokestatic 71, 3) := by decide +kernel
theorem dJ52_16_35 : decode CJ52_16 35 = .ok (.sipush 255, 3) := by decide +kernel
theorem dJ52_16_38 : decode CJ52_16 38 = .ok (.if_icmp .gt 16, 3) := by decide +kernel
theorem dJ52_16_54 : decode CJ52_16 54 = .ok (.aload 5, 2) := by decide +kernel
theorem dJ52_16_56 : decode CJ52_16 56 = .ok (.areturn, 1) := by decide +kernel
theorem ef_rmComp (m : MethodId) (x0 : Addr) (x1 : Int32) (x2 : Int32) : entryFrame m #[(.ref x0), (.int x1), (.int x2)] 6 = mkF m 0 #[.val (.ref x0), .val (.int x1), .val (.int x2), .unset, .unset, .unset] [] := by first | (simp [entryFrame, mkF, argsToLocals, Value.category]; done) | rfl
abbrev R_rmComp : Room := ({ frames := 3, cells := 2, slots := 45, locals := 40 } : Room)
def Q_rmComp (Z : State) (ca : Addr) (cs : List Int32) (kc : ClassId) (n : Nat) (h0 : Heap) (n0 : Nat) (v : Option Value) (h : Heap) (L : List Loc) : Prop := ∃ (b : Addr), ∃ (kb : ClassId), (v = some (.ref b)) ∧ (Fr n0 L) ∧ (Keep h0 h []) ∧ (Arv Z h b kb .byte (Int32.ofNat (own_enl cs)) (own_enc cs) v0_) ∧ (h0.size ≤ b)
set_option maxRecDepth 65536 in
set_option maxHeartbeats 40000000 in
theorem rmComp (l : Launch) (Z : State) (a0 : Array Value) (hw : HW Z a0) (ws : List Jvm.Cond) (ca : Addr) (cs : List Int32) (kc : ClassId) (n : Nat) (h0 : Heap) (n0 : Nat) (Z0 : n0 ≤ h0.size) (I1 : Sta Z Z.heap cU cD "Z" (.int (1 : Int32))) (I2 : Sta Z Z.heap cU cH "I" (.int (0 : Int32))) (I3 : Sta Z Z.heap cU cL "I" (.int (8 : Int32))) (OX : Old Z n0 h0) (I4 : Arv Z h0 ca kc .char (Int32.ofNat n) (cs.map Value.int) v0_) (hn : cs.length = n) (hb : n ≤ 15) (hchs : own_chs cs) :
    MF l Z M7_ (Jvm.Cond.code M7_ jdk_52_method_16_code 6 (some (.array .byte)) :: ws) R_rmComp #[(.ref ca), (.int (0 : Int32)), (.int (Int32.ofNat n))] h0 (Q_rmComp Z ca cs kc n h0 n0) := by
  refine MetFree.of_bodySF (plainFor_of_name pn_java_lang_StringUTF16) hisR ?_
  intro p e s m args below meth c s₁ Bd hml0 hP hK
  obtain ⟨rfl, hZ, hh⟩ := hP
  have hx := Bd.exec
  have hy := Bd.bytes
  have hml : c.maxLocals = 6 := hml0
  have hown : s.vm.findClass "java/lang/StringUTF16" = some m.cls := findClass_of_methodNamed Bd.named
  have hnm := (name_of_methodNamed Bd.named Bd.method).1
  have X0 : Stand p l e R_rmComp s m #[(.ref ca), (.int (0 : Int32)), (.int (Int32.ofNat n))] below meth c s₁ [] 0 0 := Stand.of_body Bd
  have e0 : s₁.heap = h0 := by rw [← hh, Bd.state]; rfl
  have N0 := Fr.nil n0
  have pre0 := own_pre (p := p) (e := e) (below := below) (T := s₁) (ef_rmComp m ca (0 : Int32) (Int32.ofNat n))
  have lt_I4 : @LT.lt Nat _ ca h0.size := I4.lt
  by_cases h1 : own_lat cs
  · have s2 : ∀ t_, Steps p.tables e below (s₁.setTop (mkF m 0 #[.val (.ref ca), .val (.int (0 : Int32)), .val (.int (Int32.ofNat n)), .unset, .unset, .unset] [])) t_ → Steps p.tables e below (s₁.setTop (entryFrame m #[(.ref ca), (.int (0 : Int32)), (.int (Int32.ofNat n))] 6)) t_ := fun t_ k_ => pre0 t_ (castTop (by rfl) k_)
    obtain ⟨T3, h3, k3, X3, e3, E3, A3, st3⟩ := newP X0 hx hZ (own_m hw 19 rfl) e0 (g := (mkF m 1 #[.val (.ref ca), .val (.int (0 : Int32)), .val (.int (Int32.ofNat n)), .unset, .unset, .unset] [(.int (Int32.ofNat n))])) rfl (dd hy dJ52_16_1) rfl (own_nn (by omega)) (cap := 15) (by rw [own_tn (by omega)]; omega) (by decide) (by decide) (by decide)
    obtain ⟨b3, g3⟩ : ∃ z, z = h0.size := ⟨_, rfl⟩
    rw [← g3] at A3 st3
    have z4 : h0.size ≤ h3.size := E3.1
    have l3 : b3 < h3.size := A3.lt
    have V3 : Arv Z h3 b3 k3 .byte (Int32.ofNat n) (List.replicate n (.int (0 : Int32))) v0_ := (Arv.new A3 (own_nn (by omega))).pad (pad_rep [] _ n)
    have f5 : Arv Z h3 ca kc .char (Int32.ofNat n) (cs.map Value.int) v0_ := (I4.ext E3)
    have Zc6 : n0 ≤ h3.size := by omega
    obtain ⟨_, _, ⟨T7, L7, k7, n7⟩, -, X7, ⟨Lc7, hQ7, l7, y7, z7⟩, st7⟩ := Jvm.LawKit.callS X3 hx (y := M0_) hown (mvT hZ (own_m hw 60 rfl)) (mvT hZ (own_m hw 61 rfl)) (mvT hZ (own_m hw 58 rfl)) (mvT hZ (own_m hw 62 rfl)) (by decide) (backOf (W := 0) (rmCmpL l Z a0 hw [] ca b3 cs kc n k3 (List.replicate n (.int (0 : Int32))) h3 n0 Zc6 f5 V3 hn hb (by simp) (by first | assumption | omega | rfl | decide) (by first | assumption | omega | rfl | decide) (by first | assumption | omega | rfl | decide)) hZ (own_m hw 62 rfl) (own_m hw 58 rfl) (by decide) (by decide)) (g := (mkF m 9 #[.val (.ref ca), .val (.int (0 : Int32)), .val (.int (Int32.ofNat n)), .val (.ref b3), .unset, .unset] [(.int (Int32.ofNat n)), (.int (0 : Int32)), (.ref b3), (.int (0 : Int32)), (.ref ca)])) rfl (by rw [hml]; rfl) (argsL := [(.ref ca), (.int (0 : Int32)), (.ref b3), (.int (0 : Int32)), (.int (Int32.ofNat n))]) (rest := []) (lenOf pd___CI_BII_I rfl) rfl (by show 2 * 0 + _ ≤ _; exact Nat.le_of_eq rfl) (dd hy dJ52_16_9) (fun _ _ => ⟨rfl, e3, (by decide : 1 + 0 ≤ _), (by decide : 15 + 0 ≤ _)⟩)
    dsimp only [Pt.U, Pt.locs, Pt.cells, Pt.slots] at X7 l7 y7 z7 st7 hQ7
    subst l7 y7 z7
    obtain ⟨rfl, N7q, K7, Fq7_0⟩ := hQ7
    have N7 := Fr.app N0 N7q
    obtain ⟨h7, e7⟩ : ∃ z, T7.heap = z := ⟨_, rfl⟩
    rw [e7] at K7 Fq7_0
    have z8 : h3.size ≤ h7.size := K7.1
    have lt7_0 : @LT.lt Nat _ b3 h7.size := Fq7_0.lt
    have s9 : ∀ t_, Steps p.tables e below (T7.setTop (mkF m 58 #[.val (.ref ca), .val (.int (0 : Int32)), .val (.int (Int32.ofNat n)), .val (.ref b3), .val (.int (Int32.ofNat n)), .unset] [(.ref b3)])) t_ → Steps _ _ _ _ t_ := fun t_ k_ => s2 t_ (by
      refine XS.iloadN X0.here hx rfl (dd hy dJ52_16_0) rfl ?_
      refine st3 _ ?_
      refine XS.astoreN X3.here hx rfl (dd hy dJ52_16_3) rfl rfl (l' := #[.val (.ref ca), .val (.int (0 : Int32)), .val (.int (Int32.ofNat n)), .val (.ref b3), .unset, .unset]) rfl ?_
      refine XS.aloadN X3.here hx rfl (dd hy dJ52_16_4) rfl rfl ?_
      refine XS.iloadN X3.here hx rfl (dd hy dJ52_16_5) rfl ?_
      refine XS.aloadN X3.here hx rfl (dd hy dJ52_16_6) rfl rfl ?_
      show Steps _ _ _ (T3.setTop (mkF m 7 #[.val (.ref ca), .val (.int (0 : Int32)), .val (.int (Int32.ofNat n)), .val (.ref b3), .unset, .unset] [(.ref b3), (.int (0 : Int32)), (.ref ca)])) _
      refine XS.iconst X3.here hx rfl (dd hy dJ52_16_7) ?_
      refine XS.iloadN X3.here hx rfl (dd hy dJ52_16_8) rfl ?_
      refine st7 _ ?_
      show Steps _ _ _ (T7.setTop (mkF m 12 #[.val (.ref ca), .val (.int (0 : Int32)), .val (.int (Int32.ofNat n)), .val (.ref b3), .unset, .unset] [(.int (Int32.ofNat n))])) _
      refine XS.istore X7.here hx rfl (dd hy dJ52_16_12) rfl (l' := #[.val (.ref ca), .val (.int (0 : Int32)), .val (.int (Int32.ofNat n)), .val (.ref b3), .val (.int (Int32.ofNat n)), .unset]) rfl ?_
      refine XS.iload X7.here hx rfl (dd hy dJ52_16_14) rfl ?_
      refine XS.iloadN X7.here hx rfl (dd hy dJ52_16_16) rfl ?_
      refine XS.icmpYes X7.here hx rfl (pc0 := 17) (pc' := 57) rfl (dd hy dJ52_16_17) rfl (teq rfl).1 (by decide) (by decide) ?_
      show Steps _ _ _ (T7.setTop (mkF m 57 #[.val (.ref ca), .val (.int (0 : Int32)), .val (.int (Int32.ofNat n)), .val (.ref b3), .val (.int (Int32.ofNat n)), .unset] [])) _
      refine XS.aloadN X7.here hx rfl (dd hy dJ52_16_57) rfl rfl ?_
      exact k_)
    obtain ⟨fs, hr, hrun, hended, hW, hsame⟩ := X7.leave (v := some (.ref b3)) (fun h => by rw [Bd.returns] at h; cases h)
    refine ⟨_, _, s9 _ ?_, hrun, hended, _, _, rfl, ?_, ⟨_, rfl⟩, hW, hsame.mono (by decide) (by decide)⟩
    · jvm_step X7.here [X7.here.top, hx, (dd hy dJ52_16_58), X7.method', Bd.returns, Value.isRef, FieldType.isReference]
      first | (intro acts; rw [hr _ acts rfl rfl rfl]) | rw [hr _ _ rfl rfl rfl]
      exact Steps.refl _
    · show Q_rmComp Z _ _ _ _ h0 n0 _ T7.heap _
      rw [e7]
      exact ⟨b3, k3, rfl, N7, (((Keep.refl h0 []).ext E3).trans K7 (allS (Or.inr (show h0.size ≤ b3 by omega)) all0)), (own_fixL h1 Fq7_0 hn (by simp)), by omega⟩
  · have s10 : ∀ t_, Steps p.tables e below (s₁.setTop (mkF m 0 #[.val (.ref ca), .val (.int (0 : Int32)), .val (.int (Int32.ofNat n)), .unset, .unset, .unset] [])) t_ → Steps p.tables e below (s₁.setTop (entryFrame m #[(.ref ca), (.int (0 : Int32)), (.int (Int32.ofNat n))] 6)) t_ := fun t_ k_ => pre0 t_ (castTop (by rfl) k_)
    obtain ⟨i_, hi_, hbad_, hpre_⟩ := own_first h1
    rw [hn] at hi_
    obtain ⟨T11, h11, k11, X11, e11, E11, A11, st11⟩ := newP X0 hx hZ (own_m hw 19 rfl) e0 (g := (mkF m 1 #[.val (.ref ca), .val (.int (0 : Int32)), .val (.int (Int32.ofNat n)), .unset, .unset, .unset] [(.int (Int32.ofNat n))])) rfl (dd hy dJ52_16_1) rfl (own_nn (by omega)) (cap := 15) (by rw [own_tn (by omega)]; omega) (by decide) (by decide) (by decide)
    obtain ⟨b11, g11⟩ : ∃ z, z = h0.size := ⟨_, rfl⟩
    rw [← g11] at A11 st11
    have z12 : h0.size ≤ h11.size := E11.1
    have l11 : b11 < h11.size := A11.lt
    have V11 : Arv Z h11 b11 k11 .byte (Int32.ofNat n) (List.replicate n (.int (0 : Int32))) v0_ := (Arv.new A11 (own_nn (by omega))).pad (pad_rep [] _ n)
    have f13 : Arv Z h11 ca kc .char (Int32.ofNat n) (cs.map Value.int) v0_ := (I4.ext E11)
    have Zc14 : n0 ≤ h11.size := by omega
    obtain ⟨_, _, ⟨T15, L15, k15, n15⟩, -, X15, ⟨Lc15, hQ15, l15, y15, z15⟩, st15⟩ := Jvm.LawKit.callS X11 hx (y := M0_) hown (mvT hZ (own_m hw 60 rfl)) (mvT hZ (own_m hw 61 rfl)) (mvT hZ (own_m hw 58 rfl)) (mvT hZ (own_m hw 62 rfl)) (by decide) (backOf (W := 0) (rmCmpW l Z a0 hw [] ca b11 cs kc n k11 (List.replicate n (.int (0 : Int32))) i_ h11 n0 Zc14 f13 V11 hn hb (by simp) (by first | assumption | omega | rfl | decide) (by first | assumption | omega | rfl | decide) hi_ hbad_ hpre_) hZ (own_m hw 62 rfl) (own_m hw 58 rfl) (by decide) (by decide)) (g := (mkF m 9 #[.val (.ref ca), .val (.int (0 : Int32)), .val (.int (Int32.ofNat n)), .val (.ref b11), .unset, .unset] [(.int (Int32.ofNat n)), (.int (0 : Int32)), (.ref b11), (.int (0 : Int32)), (.ref ca)])) rfl (by rw [hml]; rfl) (argsL := [(.ref ca), (.int (0 : Int32)), (.ref b11), (.int (0 : Int32)), (.int (Int32.ofNat n))]) (rest := []) (lenOf pd___CI_BII_I rfl) rfl (by show 2 * 0 + _ ≤ _; exact Nat.le_of_eq rfl) (dd hy dJ52_16_9) (fun _ _ => ⟨rfl, e11, (by decide : 1 + 0 ≤ _), (by decide : 15 + 0 ≤ _)⟩)
    dsimp only [Pt.U, Pt.locs, Pt.cells, Pt.slots] at X15 l15 y15 z15 st15 hQ15
    subst l15 y15 z15
    obtain ⟨rfl, N15q, K15, Fq15_0⟩ := hQ15
    have N15 := Fr.app N0 N15q
    obtain ⟨h15, e15⟩ : ∃ z, T15.heap = z := ⟨_, rfl⟩
    rw [e15] at K15 Fq15_0
    have z16 : h11.size ≤ h15.size := K15.1
    have lt15_0 : @LT.lt Nat _ b11 h15.size := Fq15_0.lt
    have O17 : Old Z n0 h15 := ((OX.ext E11).keep K15 (allS (show n0 ≤ b11 by omega) all0))
    have f18 : Arv Z h15 ca kc .char (Int32.ofNat n) (cs.map Value.int) v0_ := (f13.keep K15 (ninS (show @Ne Nat ca b11 by omega) nin0))
    have Zc19 : n0 ≤ h15.size := by omega
    obtain ⟨_, _, ⟨T20, L20, k20, n20⟩, -, X20, ⟨Lc20, hQ20, l20, y20, z20⟩, st20⟩ := Jvm.LawKit.callS X15 hx (y := M6_) hown (mvT hZ (own_m hw 101 rfl)) (mvT hZ (own_m hw 102 rfl)) (mvT hZ (own_m hw 58 rfl)) (mvT hZ (own_m hw 103 rfl)) (by decide) (backOf (W := 0) (rmTo l Z a0 hw [] ca cs kc n h15 n0 Zc19 I1 I2 I3 O17 f18 hn hb) hZ (own_m hw 103 rfl) (own_m hw 58 rfl) (by decide) (by decide)) (g := (mkF m 23 #[.val (.ref ca), .val (.int (0 : Int32)), .val (.int (Int32.ofNat n)), .val (.ref b11), .val (.int (Int32.ofNat i_)), .unset] [(.int (Int32.ofNat n)), (.int (0 : Int32)), (.ref ca)])) rfl (by rw [hml]; rfl) (argsL := [(.ref ca), (.int (0 : Int32)), (.int (Int32.ofNat n))]) (rest := []) (lenOf pd___CII__B rfl) rfl (by show 2 * 0 + _ ≤ _; exact Nat.le_of_eq rfl) (dd hy dJ52_16_23) (fun _ _ => ⟨rfl, e15, (by decide : 1 + 1 ≤ _), (by decide : 15 + 30 ≤ _)⟩)
    dsimp only [Pt.U, Pt.locs, Pt.cells, Pt.slots] at X20 l20 y20 z20 st20 hQ20
    subst l20 y20 z20
    obtain ⟨b_20, kb_20, rfl, N20q, K20, Fq20_0, P20_0⟩ := hQ20
    have N20 := Fr.app N15 N20q
    obtain ⟨h20, e20⟩ : ∃ z, T20.heap = z := ⟨_, rfl⟩
    rw [e20] at K20 Fq20_0
    have z21 : h15.size ≤ h20.size := K20.1
    have lt20_0 : @LT.lt Nat _ b_20 h20.size := Fq20_0.lt
    have O22 : Old Z n0 h20 := (O17.keep K20 all0)
    have Zc23 : n0 ≤ h20.size := by omega
    obtain ⟨_, _, ⟨T24, L24, k24, n24⟩, -, X24, ⟨Lc24, hQ24, l24, y24, z24⟩, st24⟩ := Jvm.LawKit.callS X20 hx (y := M5_) hown (mvT hZ (own_m hw 117 rfl)) (mvT hZ (own_m hw 118 rfl)) (mvT hZ (own_m hw 58 rfl)) (mvT hZ (own_m hw 119 rfl)) (by decide) (backOf (W := 0) (rmGet l Z a0 hw [] b_20 kb_20 (own_wide cs) n i_ (cs.getD i_ 0) h20 n0 Zc23 I1 I2 I3 O22 Fq20_0 hb hi_ (own_wide0 _ cs i_ (by omega)) (own_wide1 _ cs i_ (by omega)) (hchs _ (own_mem cs i_ (by omega))).1 (hchs _ (own_mem cs i_ (by omega))).2) hZ (own_m hw 119 rfl) (own_m hw 58 rfl) (by decide) (by decide)) (g := (mkF m 32 #[.val (.ref ca), .val (.int (0 : Int32)), .val (.int (Int32.ofNat n)), .val (.ref b11), .val (.int (Int32.ofNat i_)), .val (.ref b_20)] [(.int (Int32.ofNat i_)), (.ref b_20)])) rfl (by rw [hml]; rfl) (argsL := [(.ref b_20), (.int (Int32.ofNat i_))]) (rest := []) (lenOf pd___BI_C rfl) rfl (by show 2 * 0 + _ ≤ _; exact Nat.le_of_eq rfl) (dd hy dJ52_16_32) (fun _ _ => ⟨rfl, e20, (by decide : 2 + 0 ≤ _), (by decide : 45 + 0 ≤ _)⟩)
    dsimp only [Pt.U, Pt.locs, Pt.cells, Pt.slots] at X24 l24 y24 z24 st24 hQ24
    subst l24 y24 z24
    obtain ⟨rfl, N24q, e24⟩ := hQ24
    have N24 := Fr.app N20 N24q
    have s25 : ∀ t_, Steps p.tables e below (T24.setTop (mkF m 56 #[.val (.ref ca), .val (.int (0 : Int32)), .val (.int (Int32.ofNat n)), .val (.ref b11), .val (.int (Int32.ofNat i_)), .val (.ref b_20)] [(.ref b_20)])) t_ → Steps _ _ _ _ t_ := fun t_ k_ => s10 t_ (by
      refine XS.iloadN X0.here hx rfl (dd hy dJ52_16_0) rfl ?_
      refine st11 _ ?_
      refine XS.astoreN X11.here hx rfl (dd hy dJ52_16_3) rfl rfl (l' := #[.val (.ref ca), .val (.int (0 : Int32)), .val (.int (Int32.ofNat n)), .val (.ref b11), .unset, .unset]) rfl ?_
      refine XS.aloadN X11.here hx rfl (dd hy dJ52_16_4) rfl rfl ?_
      refine XS.iloadN X11.here hx rfl (dd hy dJ52_16_5) rfl ?_
      refine XS.aloadN X11.here hx rfl (dd hy dJ52_16_6) rfl rfl ?_
      show Steps _ _ _ (T11.setTop (mkF m 7 #[.val (.ref ca), .val (.int (0 : Int32)), .val (.int (Int32.ofNat n)), .val (.ref b11), .unset, .unset] [(.ref b11), (.int (0 : Int32)), (.ref ca)])) _
      refine XS.iconst X11.here hx rfl (dd hy dJ52_16_7) ?_
      refine XS.iloadN X11.here hx rfl (dd hy dJ52_16_8) rfl ?_
      refine st15 _ ?_
      show Steps _ _ _ (T15.setTop (mkF m 12 #[.val (.ref ca), .val (.int (0 : Int32)), .val (.int (Int32.ofNat n)), .val (.ref b11), .unset, .unset] [(.int (Int32.ofNat i_))])) _
      refine XS.istore X15.here hx rfl (dd hy dJ52_16_12) rfl (l' := #[.val (.ref ca), .val (.int (0 : Int32)), .val (.int (Int32.ofNat n)), .val (.ref b11), .val (.int (Int32.ofNat i_)), .unset]) rfl ?_
      refine XS.iload X15.here hx rfl (dd hy dJ52_16_14) rfl ?_
      refine XS.iloadN X15.here hx rfl (dd hy dJ52_16_16) rfl ?_
      refine XS.icmpNo X15.here hx rfl (dd hy dJ52_16_17) rfl (feq (fun e => by have := own_inj (by omega) (by omega) e; omega)).1 ?_
      show Steps _ _ _ (T15.setTop (mkF m 20 #[.val (.ref ca), .val (.int (0 : Int32)), .val (.int (Int32.ofNat n)), .val (.ref b11), .val (.int (Int32.ofNat i_)), .unset] [])) _
      refine XS.aloadN X15.here hx rfl (dd hy dJ52_16_20) rfl rfl ?_
      refine XS.iloadN X15.here hx rfl (dd hy dJ52_16_21) rfl ?_
      refine XS.iloadN X15.here hx rfl (dd hy dJ52_16_22) rfl ?_
      refine st20 _ ?_
      show Steps _ _ _ (T20.setTop (mkF m 26 #[.val (.ref ca), .val (.int (0 : Int32)), .val (.int (Int32.ofNat n)), .val (.ref b11), .val (.int (Int32.ofNat i_)), .unset] [(.ref b_20)])) _
      refine XS.astore X20.here hx rfl (dd hy dJ52_16_26) rfl rfl (l' := #[.val (.ref ca), .val (.int (0 : Int32)), .val (.int (Int32.ofNat n)), .val (.ref b11), .val (.int (Int32.ofNat i_)), .val (.ref b_20)]) rfl ?_
      refine XS.aload X20.here hx rfl (dd hy dJ52_16_28) rfl rfl ?_
      refine XS.iload X20.here hx rfl (dd hy dJ52_16_30) rfl ?_
      refine st24 _ ?_
      show Steps _ _ _ (T24.setTop (mkF m 35 #[.val (.ref ca), .val (.int (0 : Int32)), .val (.int (Int32.ofNat n)), .val (.ref b11), .val (.int (Int32.ofNat i_)), .val (.ref b_20)] [(.int (cs.getD i_ 0))])) _
      refine XS.sipush X24.here hx rfl (dd hy dJ52_16_35) ?_
      refine XS.icmpYes X24.here hx rfl (pc0 := 38) (pc' := 54) rfl (dd hy dJ52_16_38) rfl (tlt hbad_).2.2.1 (by decide) (by decide) ?_
      show Steps _ _ _ (T24.setTop (mkF m 54 #[.val (.ref ca), .val (.int (0 : Int32)), .val (.int (Int32.ofNat n)), .val (.ref b11), .val (.int (Int32.ofNat i_)), .val (.ref b_20)] [])) _
      refine XS.aload X24.here hx rfl (dd hy dJ52_16_54) rfl rfl ?_
      exact k_)
    obtain ⟨fs, hr, hrun, hended, hW, hsame⟩ := X24.leave (v := some (.ref b_20)) (fun h => by rw [Bd.returns] at h; cases h)
    refine ⟨_, _, s25 _ ?_, hrun, hended, _, _, rfl, ?_, ⟨_, rfl⟩, hW, hsame.mono (by decide) (by decide)⟩
    · jvm_step X24.here [X24.here.top, hx, (dd hy dJ52_16_56), X24.method', Bd.returns, Value.isRef, FieldType.isReference]
      first | (intro acts; rw [hr _ acts rfl rfl rfl]) | rw [hr _ _ rfl rfl rfl]
      exact Steps.refl _
    · show Q_rmComp Z _ _ _ _ h0 n0 _ T24.heap _
      rw [e24]
      exact ⟨b_20, kb_20, rfl, N24, ((((Keep.refl h0 []).ext E11).trans K15 (allS (Or.inr (show h0.size ≤ b11 by omega)) all0)).trans K20 all0), (own_fixW h1 Fq20_0 hn), by omega⟩
theorem pn_java_lang_String : plainName "java/lang/String" = true := by first | (simp [plainName, overriddenIn]; done) | decide +kernel
theorem dJ42_149_0 : decode CJ42_149 0 = .ok (.aload_n 0, 1) := by decide +kernel
theorem dJ42_149_1 : decode CJ42_149 1 = .ok (.invokespecial 1, 3) := by decide +kernel
theorem dJ42_149_4 : decode CJ42_149 4 = .ok (.iload_n 3, 1) := by decide +kernel
theorem dJ42_149_5 : decode CJ42_149 5 = .ok (.ifCond .ne 22, 3) := by decide +kernel
theorem dJ42_149_8 : decode CJ42_149 8 = .ok (.aload_n 0, 1) := by decide +kernel
theorem dJ42_149_9 : decode CJ42_149 9 = .ok (.ldc 7, 2) := by decide +kernel
theorem dJ42_149_11 : decode CJ42_149 11 = .ok (.getfield 9, 3) := by decide +kernel
theorem dJ42_149_14 : decode CJ42_149 14 = .ok (.putfield 9, 3) := by decide +kernel
theorem dJ42_149_17 : decode CJ42_149 17 = .ok (.aload_n 0, 1) := by decide +kernel
theorem dJ42_149_18 : decode CJ42_149 18 = .ok (.ldc 7, 2) := by decide +kernel
theorem dJ42_149_20 : decode CJ42_149 20 = .ok (.getfield 15, 3) := by decide +kernel
theorem dJ42_149_23 : decode CJ42_149 23 = .ok (.putfield 15, 3) := by decide +kernel
theorem dJ42_149_26 : decode CJ42_149 26 = .ok (.return_, 1) := by decide +kernel
theorem dJ42_149_27 : decode CJ42_149 27 = .ok (.getstatic 38, 3) := by decide +kernel
theorem dJ42_149_30 : decode CJ42_149 30 = .ok (.ifCond .eq 28, 3) := by decide +kernel
theorem dJ42_149_33 : decode CJ42_149 33 = .ok (.aload_n 1, 1) := by decide +kernel
theorem dJ42_149_34 : decode CJ42_149 34 = .ok (.iload_n 2, 1) := by decide +kernel
theorem dJ42_149_35 : decode CJ42_149 35 = .ok (.iload_n 3, 1) := by decide +kernel
theorem dJ42_149_36 : decode CJ42_149 36 = .ok (.invokestatic 177, 3) := by decide +kernel
theorem dJ42_149_39 : decode CJ42_149 39 = .ok (.astore 5, 2) := by decide +kernel
theorem dJ42_149_41 : decode CJ42_149 41 = .ok (.aload_n 0, 1) := by decide +kernel
theorem dJ42_149_42 : decode CJ42_149 42 = .ok (.aload 5, 2) := by decide +kernel
theorem dJ42_149_44 : decode CJ42_149 44 = .ok (.iload_n 3, 1) := by decide +kernel
theorem pd___BI_B : parseMethodDescriptor "([BI)B" = some ⟨[(.array .byte), .int], some .byte⟩ := by decide +kernel
theorem dJ42_149_45 : decode CJ42_149 45 = .ok (.invokestatic 47, 3) := by decide +kernel
theorem dJ42_149_48 : decode CJ42_149 48 = .ok (.putfield 15, 3) := by decide +kernel
theorem dJ42_149_51 : decode CJ42_149 51 = .ok (.aload_n 0, 1) := by decide +kernel
theorem dJ42_149_52 : decode CJ42_149 52 = .ok (.aload 5, 2) := by decide +kernel
theorem dJ42_149_54 : decode CJ42_149 54 = .ok (.putfield 9, 3) := by decide +kernel
theorem dJ42_149_57 : decode CJ42_149 57 = .ok (.return_, 1) := by decide +kernel
theorem ef_rmIni4 (m : MethodId) (x0 : Addr) (x1 : Addr) (x2 : Int32) (x3 : Int32) : entryFrame m #[(.ref x0), (.ref x1), (.int x2), (.int x3), .null] 6 = mkF m 0 #[.val (.ref x0), .val (.ref x1), .val (.int x2), .val (.int x3), .val .null, .unset] [] := by first | (simp [entryFrame, mkF, argsToLocals, Value.category]; done) | rfl
abbrev R_rmIni4 : Room := ({ frames := 4, cells := 4, slots := 45, locals := 57 } : Room)
def Q_rmIni4 (Z : State) (a : Addr) (ca : Addr) (cst : Int32) (cs : List Int32) (kc : ClassId) (n : Nat) (h0 : Heap) (n0 : Nat) (v : Option Value) (h : Heap) (L : List Loc) : Prop := ∃ (b : Addr), ∃ (kb : ClassId), (v = none) ∧ (Fr n0 L) ∧ (Keep h0 h [a]) ∧ (Exa Z h a cS) ∧ (Fld Z h a cS "value" "[B" (.ref b)) ∧ (Fld Z h a cS "coder" "B" (.int (own_cod cs))) ∧ (Arv Z h b kb .byte (Int32.ofNat (own_enl cs)) (own_enc cs) v0_)
set_option maxRecDepth 65536 in
set_option maxHeartbeats 40000000 in
theorem rmIni4 (l : Launch) (Z : State) (a0 : Array Value) (hw : HW Z a0) (ws : List Jvm.Cond) (a : Addr) (ca : Addr) (cst : Int32) (cs : List Int32) (kc : ClassId) (n : Nat) (h0 : Heap) (n0 : Nat) (Z0 : n0 ≤ h0.size) (I1 : Sta Z Z.heap cS cC "Z" (.int cst)) (I2 : Sta Z Z.heap cU cD "Z" (.int (1 : Int32))) (I3 : Sta Z Z.heap cU cH "I" (.int (0 : Int32))) (I4 : Sta Z Z.heap cU cL "I" (.int (8 : Int32))) (OX : Old Z n0 h0) (hcst : ¬ (cst = (0 : Int32))) (I5 : Exa Z h0 a cS) (I6 : Fld Z h0 a cS "value" "[B" .null) (I7 : Fld Z h0 a cS "coder" "B" (.int (0 : Int32))) (I8 : Arv Z h0 ca kc .char (Int32.ofNat n) (cs.map Value.int) v0_) (hn : cs.length = n) (hb : n ≤ 15) (hchs : own_chs cs) (ga : n0 ≤ a) (hac : @Ne Nat a ca) :
    MetFree l M8_ (head1 (Jvm.Cond.code M8_ jdk_42_method_149_code 6 none :: ws) R_rmIni4) (fun ar_ U => ar_ = #[(.ref a), (.ref ca), (.int (0 : Int32)), (.int (Int32.ofNat n)), .null] ∧ Z.Warmed39 U.vm ∧ U.heap = h0 ∧ CHv Z ELs U.vm h0) (fun _ _ _ _ _ => True) (fun _ U oc_ U' => ∃ v L, oc_ = .returned v ∧ Q_rmIni4 Z a ca cst cs kc n h0 n0 v U'.heap L ∧ CHr Z ELs U.vm U.heap U'.vm U'.heap ∧ ReturnedEndW U oc_ U' L R_rmIni4.cells R_rmIni4.slots) := by
  refine MetFree.of_bodySF (plainFor_of_name pn_java_lang_String) hisR ?_
  intro p e s m args below meth c s₁ Bd hml0 hP hK
  obtain ⟨rfl, hZ, hh, hCH⟩ := hP
  have hx := Bd.exec
  have hy := Bd.bytes
  have hml : c.maxLocals = 6 := hml0
  have hown : s.vm.findClass "java/lang/String" = some m.cls := findClass_of_methodNamed Bd.named
  have hnm := (name_of_methodNamed Bd.named Bd.method).1
  have X0 : Stand p l e R_rmIni4 (s.setVm s.vm) m #[(.ref a), (.ref ca), (.int (0 : Int32)), (.int (Int32.ofNat n)), .null] below meth c s₁ [] 0 0 := Stand.of_body Bd
  have e0 : s₁.heap = h0 := by rw [← hh, Bd.state]; rfl
  have N0 := Fr.nil n0
  have pre0 := own_pre (p := p) (e := e) (below := below) (T := s₁) (ef_rmIni4 m a ca (0 : Int32) (Int32.ofNat n))
  have hEL : EW Z a0 ELs := own_EW hw
  have wS : ∀ a ∈ Bundle.stringAtoms, a.before a0 Z = true := own_wS hw
  have hS : s.Since s.vm s.heap.size := (State.WarmedH.refl s).since _
  have hk : s.heap.size ≤ h0.size := by rw [hh]; exact Nat.le_refl _
  have CR : CHr Z ELs s.vm h0 s.vm h0 := CHr.refl hCH
  have lt_I5 : @LT.lt Nat _ a h0.size := I5.lt
  have lt_I8 : @LT.lt Nat _ ca h0.size := I8.lt
  obtain ⟨T1, X1, e1, st1⟩ := initO X0 hx hZ hown (own_m hw 15 rfl) (own_m hw 16 rfl) (own_m hw 17 rfl) e0 (g := (mkF m 1 #[.val (.ref a), .val (.ref ca), .val (.int (0 : Int32)), .val (.int (Int32.ofNat n)), .val .null, .unset] [(.ref a)])) rfl (by rw [hml]; rfl) rfl (dd hy dJ42_149_1) (by decide) (W := 0) (by show 2 * 0 + _ ≤ _; exact Nat.le_of_eq rfl) (by decide)
  have s2 : ∀ t_, Steps p.tables e below (T1.setTop (mkF m 5 #[.val (.ref a), .val (.ref ca), .val (.int (0 : Int32)), .val (.int (Int32.ofNat n)), .val .null, .unset] [(.int (Int32.ofNat n))])) t_ → Steps _ _ _ _ t_ := fun t_ k_ => pre0 t_ (by
    refine XS.aloadN X0.here hx rfl (dd hy dJ42_149_0) rfl rfl ?_
    refine st1 _ ?_
    show Steps _ _ _ (T1.setTop (mkF m 4 #[.val (.ref a), .val (.ref ca), .val (.int (0 : Int32)), .val (.int (Int32.ofNat n)), .val .null, .unset] [])) _
    refine XS.iloadN X1.here hx rfl (dd hy dJ42_149_4) rfl ?_
    exact k_)
  by_cases h3 : (Int32.ofNat n) = (0 : Int32)
  · have s5 : ∀ t_, Steps p.tables e below (T1.setTop (mkF m 9 #[.val (.ref a), .val (.ref ca), .val (.int (0 : Int32)), .val (.int (Int32.ofNat n)), .val .null, .unset] [(.ref a)])) t_ → Steps _ _ _ _ t_ := fun t_ k_ => s2 t_ (by
      refine XS.ifNo X1.here hx rfl (dd hy dJ42_149_5) rfl ((if0 _ _).trans (teq h3).2) ?_
      show Steps _ _ _ (T1.setTop (mkF m 8 #[.val (.ref a), .val (.ref ca), .val (.int (0 : Int32)), .val (.int (Int32.ofNat n)), .val .null, .unset] [])) _
      refine XS.aloadN X1.here hx rfl (dd hy dJ42_149_8) rfl rfl ?_
      exact k_)
    obtain ⟨a4, T4, h4, k4, b4, kk4, X4, e4, E4, hS, hk, hZ, hown, Ex4, Fc4, Fv4, Av4, la4, lb4, Cp4, Li4, Sa4, st4⟩ := ldcCH X1 hx hZ hown (own_m hw 18 rfl) wS e1 hS hk hEL (List.mem_of_getElem? (i := 4) rfl) CR.1 (vs := []) (z := (0 : Int32)) ⟨by decide, by decide⟩ (by decide) rfl (g := (mkF m 9 #[.val (.ref a), .val (.ref ca), .val (.int (0 : Int32)), .val (.int (Int32.ofNat n)), .val .null, .unset] [(.ref a)])) rfl (dd hy dJ42_149_9) (n := 0) (by decide) (by decide) (by decide) (by decide)
    have z6 : h0.size ≤ h4.size := E4.1
    have CR := CR.trans Cp4
    have la4 : @LT.lt Nat _ a4 h4.size := la4
    have lb4 : @LT.lt Nat _ b4 h4.size := lb4
    obtain ⟨T7, X7, e7, st7⟩ := getF X4 hx hZ hown (host := "") (Or.inl (own_m hw 24 rfl)) Via.refl e4 Fv4 (g := (mkF m 11 #[.val (.ref a), .val (.ref ca), .val (.int (0 : Int32)), .val (.int (Int32.ofNat n)), .val .null, .unset] [(.ref a4), (.ref a)])) rfl rfl (dd hy dJ42_149_11)
    have f8 : Exa Z h4 a cS := (I5.ext E4)
    have f9 : Fld Z h4 a cS "value" "[B" .null := (I6.ext E4)
    obtain ⟨T10, h10, X10, e10, W10, st10⟩ := putF X7 hx hZ hown (host := "") (Or.inl (own_m hw 24 rfl)) Via.refl e7 f9 f8 (Or.inr ⟨(own_m hw 20 rfl), rfl, hnm⟩) (own_m hw 6 rfl) (ty := (.array .byte)) (by decide) rfl rfl (g := (mkF m 14 #[.val (.ref a), .val (.ref ca), .val (.int (0 : Int32)), .val (.int (Int32.ofNat n)), .val .null, .unset] [(.ref b4), (.ref a)])) rfl rfl (dd hy dJ42_149_14)
    have Sf12 : Safe Z ELs T4.vm h4 a := own_safeN hZ.alike f8 f9
    have z11 : h4.size ≤ h10.size := Nat.le_of_eq W10.size.symm
    have Cp11 : CHr Z ELs T4.vm h4 T4.vm h10 := CHr.wr W10 Sf12 CR.1
    have hk := Nat.le_trans hk z11
    have CR := CR.trans Cp11
    have F10 : Fld Z h10 a cS "value" "[B" (.ref b4) := f9.same W10
    have N10 := Fr.snoc X10 N0 (show n0 ≤ a by omega)
    have s14 : ∀ t_, Steps p.tables e below (T10.setTop (mkF m 18 #[.val (.ref a), .val (.ref ca), .val (.int (0 : Int32)), .val (.int (Int32.ofNat n)), .val .null, .unset] [(.ref a)])) t_ → Steps _ _ _ _ t_ := fun t_ k_ => s5 t_ (by
      refine st4 _ ?_
      show Steps _ _ _ (T4.setTop (mkF m 11 #[.val (.ref a), .val (.ref ca), .val (.int (0 : Int32)), .val (.int (Int32.ofNat n)), .val .null, .unset] [(.ref a4), (.ref a)])) _
      refine st7 _ ?_
      refine st10 _ ?_
      refine XS.aloadN X10.here hx rfl (dd hy dJ42_149_17) rfl rfl ?_
      exact k_)
    obtain ⟨a13, T13, h13, k13, b13, kk13, X13, e13, E13, hS, hk, hZ, hown, Ex13, Fc13, Fv13, Av13, la13, lb13, Cp13, Li13, Sa13, st13⟩ := ldcCH X10 hx hZ hown (own_m hw 18 rfl) wS e10 hS hk hEL (List.mem_of_getElem? (i := 4) rfl) CR.1 (vs := []) (z := (0 : Int32)) ⟨by decide, by decide⟩ (by decide) rfl (g := (mkF m 18 #[.val (.ref a), .val (.ref ca), .val (.int (0 : Int32)), .val (.int (Int32.ofNat n)), .val .null, .unset] [(.ref a)])) rfl (dd hy dJ42_149_18) (n := 0) (by decide) (by decide) (by decide) (by decide)
    have z15 : h10.size ≤ h13.size := E13.1
    have CR := CR.trans Cp13
    have la13 : @LT.lt Nat _ a13 h13.size := la13
    have lb13 : @LT.lt Nat _ b13 h13.size := lb13
    obtain ⟨T16, X16, e16, st16⟩ := getF X13 hx hZ hown (host := "") (Or.inl (own_m hw 25 rfl)) Via.refl e13 Fc13 (g := (mkF m 20 #[.val (.ref a), .val (.ref ca), .val (.int (0 : Int32)), .val (.int (Int32.ofNat n)), .val .null, .unset] [(.ref a13), (.ref a)])) rfl rfl (dd hy dJ42_149_20)
    have f17 : Exa Z h13 a cS := ((f8.wr W10).ext E13)
    have f18 : Fld Z h13 a cS "coder" "B" (.int (0 : Int32)) := (((I7.ext E4).other W10 (Or.inr (slot_ne (Or.inr (own_m hw 21 rfl)) (Or.inr (own_m hw 20 rfl)) (by decide) (t := .byte) (t' := (.array .byte)) (by decide) (by decide)))).ext E13)
    obtain ⟨T19, h19, X19, e19, W19, st19⟩ := putFN X16 hx hZ hown (own_m hw 25 rfl) Via.refl e16 f18 f17 (Or.inr ⟨(own_m hw 21 rfl), rfl, hnm⟩) (own_m hw 6 rfl) (ty := .byte) (v' := (.int (0 : Int32))) (by decide) rfl rfl (g := (mkF m 23 #[.val (.ref a), .val (.ref ca), .val (.int (0 : Int32)), .val (.int (Int32.ofNat n)), .val .null, .unset] [(.int (0 : Int32)), (.ref a)])) rfl rfl (dd hy dJ42_149_23)
    have Sf21 : Safe Z ELs T13.vm h13 a := (Cp13.safe (show @LT.lt Nat _ a h10.size by omega) (Cp11.safe (show @LT.lt Nat _ a h4.size by omega) Sf12))
    have z20 : h13.size ≤ h19.size := Nat.le_of_eq W19.size.symm
    have Cp20 : CHr Z ELs T13.vm h13 T13.vm h19 := CHr.wr W19 Sf21 CR.1
    have hk := Nat.le_trans hk z20
    have CR := CR.trans Cp20
    have F19 : Fld Z h19 a cS "coder" "B" (.int (0 : Int32)) := f18.same W19
    have N19 := Fr.snoc X19 N10 (show n0 ≤ a by omega)
    have s22 : ∀ t_, Steps p.tables e below (T19.setTop (mkF m 26 #[.val (.ref a), .val (.ref ca), .val (.int (0 : Int32)), .val (.int (Int32.ofNat n)), .val .null, .unset] [])) t_ → Steps _ _ _ _ t_ := fun t_ k_ => s14 t_ (by
      refine st13 _ ?_
      show Steps _ _ _ (T13.setTop (mkF m 20 #[.val (.ref a), .val (.ref ca), .val (.int (0 : Int32)), .val (.int (Int32.ofNat n)), .val .null, .unset] [(.ref a13), (.ref a)])) _
      refine st16 _ ?_
      refine st19 _ ?_
      exact k_)
    obtain ⟨fs, hr, hrun, hended, hREW⟩ := X19.leaveW hS (by first | exact Nat.le_refl _ | (rw [e19]; exact hk)) (v := none) (fun _ => rfl)
    have hnil : cs = [] := List.eq_nil_of_length_eq_zero (hn.trans (own_inj (n := 0) (by omega) (by decide) h3))
    have F23 : Fld Z h19 a cS "coder" "B" (.int (own_cod cs)) := by have q := F19; rw [← own_cod0 (cs := cs) (by rw [hnil]; exact own_lat0)] at q; exact q
    have f24 : Arv Z h19 b4 kk4 .byte (0 : Int32) [] v0_ := (((Av4.other W10 (Ne.symm (Exa.neArv f8 Av4 (own_m hw 6 rfl)))).ext E13).other W19 (Ne.symm (Exa.neArv f17 ((Av4.other W10 (Ne.symm (Exa.neArv f8 Av4 (own_m hw 6 rfl)))).ext E13) (own_m hw 6 rfl))))
    have f25 : Exa Z h19 a cS := (f17.wr W19)
    have f26 : Fld Z h19 a cS "value" "[B" (.ref b4) := ((F10.ext E13).other W19 (Or.inr (slot_ne (Or.inr (own_m hw 20 rfl)) (Or.inr (own_m hw 21 rfl)) (by decide) (t := (.array .byte)) (t' := .byte) (by decide) (by decide))))
    refine ⟨_, _, s22 _ ?_, hrun, hended, _, _, rfl, ?_, (by show CHr Z ELs s.vm s.heap T19.vm T19.heap; rw [hh, e19]; exact CR.trans (CHv.at X19 hZ hEL CR.1)), hREW.1, hREW.2.1, hREW.2.2.1, hREW.2.2.2.mono (by decide) (by decide)⟩
    · exact X19.returnOut hx Bd.returns (dd hy dJ42_149_26) hr
    · show Q_rmIni4 Z _ _ _ _ _ _ h0 n0 _ T19.heap _
      rw [e19]
      exact ⟨b4, kk4, rfl, N19, (((((Keep.refl h0 [a]).ext E4).wr W10 (Or.inl (by simp))).ext E13).wr W19 (Or.inl (by simp))), f25, f26, F23, (own_fix0 hnil f24)⟩
  · obtain ⟨T27, X27, e27, st27⟩ := getS2 X1 hx hZ hown (host := "") (Or.inl (own_m hw 51 rfl)) Via.refl e1 (I1.ext OX.2) (g := (mkF m 27 #[.val (.ref a), .val (.ref ca), .val (.int (0 : Int32)), .val (.int (Int32.ofNat n)), .val .null, .unset] [])) rfl (dd hy dJ42_149_27)
    have Zc28 : n0 ≤ h0.size := by omega
    obtain ⟨_, _, ⟨T29, L29, k29, n29⟩, -, X29, ⟨Lc29, hQ29, l29, y29, z29⟩, st29⟩ := Jvm.LawKit.callS X27 hx (y := M7_) hown (mvT hZ (own_m hw 56 rfl)) (mvT hZ (own_m hw 57 rfl)) (mvT hZ (own_m hw 58 rfl)) (mvT hZ (own_m hw 59 rfl)) (by decide) (backOf (W := 0) (rmComp l Z a0 hw [] ca cs kc n h0 n0 Zc28 I2 I3 I4 OX I8 hn hb hchs) hZ (own_m hw 59 rfl) (own_m hw 58 rfl) (by decide) (by decide)) (g := (mkF m 36 #[.val (.ref a), .val (.ref ca), .val (.int (0 : Int32)), .val (.int (Int32.ofNat n)), .val .null, .unset] [(.int (Int32.ofNat n)), (.int (0 : Int32)), (.ref ca)])) rfl (by rw [hml]; rfl) (argsL := [(.ref ca), (.int (0 : Int32)), (.int (Int32.ofNat n))]) (rest := []) (lenOf pd___CII__B rfl) rfl (by show 2 * 0 + _ ≤ _; exact Nat.le_of_eq rfl) (dd hy dJ42_149_36) (fun _ _ => ⟨rfl, e27, (by decide : 0 + 2 ≤ _), (by decide : 0 + 45 ≤ _)⟩)
    dsimp only [Pt.U, Pt.locs, Pt.cells, Pt.slots] at X29 l29 y29 z29 st29 hQ29
    subst l29 y29 z29
    obtain ⟨b_29, kb_29, rfl, N29q, K29, Fq29_0, P29_0⟩ := hQ29
    have N29 := Fr.app N0 N29q
    obtain ⟨h29, e29⟩ : ∃ z, T29.heap = z := ⟨_, rfl⟩
    rw [e29] at K29 Fq29_0
    have z30 : h0.size ≤ h29.size := K29.1
    have Cp30 : CHr Z ELs s.vm h0 s.vm h29 := CHr.keep K29 sf0 CR.1
    have hk := Nat.le_trans hk z30
    have CR := CR.trans Cp30
    have lt29_0 : @LT.lt Nat _ b_29 h29.size := Fq29_0.lt
    have Zc31 : n0 ≤ h29.size := by omega
    obtain ⟨_, _, ⟨T32, L32, k32, n32⟩, -, X32, ⟨Lc32, hQ32, l32, y32, z32⟩, st32⟩ := Jvm.LawKit.callS X29 hx (y := M1_) hown (mvT hZ (own_m hw 63 rfl)) (mvT hZ (own_m hw 64 rfl)) (mvT hZ (own_m hw 58 rfl)) (mvT hZ (own_m hw 65 rfl)) (by decide) (backOf (W := 1) (rmCod l Z a0 hw [] b_29 (Int32.ofNat n) kb_29 (Int32.ofNat (own_enl cs)) (own_enc cs) h29 n0 Zc31 Fq29_0) hZ (own_m hw 65 rfl) (own_m hw 58 rfl) (by decide) (by decide)) (g := (mkF m 45 #[.val (.ref a), .val (.ref ca), .val (.int (0 : Int32)), .val (.int (Int32.ofNat n)), .val .null, .val (.ref b_29)] [(.int (Int32.ofNat n)), (.ref b_29), (.ref a)])) rfl (by rw [hml]; rfl) (argsL := [(.ref b_29), (.int (Int32.ofNat n))]) (rest := [(.ref a)]) (lenOf pd___BI_B rfl) rfl (by show 2 * 0 + _ ≤ _; exact Nat.le_of_eq rfl) (dd hy dJ42_149_45) (fun _ _ => ⟨rfl, e29, (by decide : 2 + 0 ≤ _), (by decide : 45 + 0 ≤ _)⟩)
    dsimp only [Pt.U, Pt.locs, Pt.cells, Pt.slots] at X32 l32 y32 z32 st32 hQ32
    subst l32 y32 z32
    obtain ⟨rfl, N32q, e32⟩ := hQ32
    have N32 := Fr.app N29 N32q
    have f33 : Exa Z h29 a cS := (I5.keep K29)
    have f34 : Fld Z h29 a cS "coder" "B" (.int (0 : Int32)) := (I7.keep K29 nin0)
    obtain ⟨T35, h35, X35, e35, W35, st35⟩ := putFN X32 hx hZ hown (own_m hw 25 rfl) Via.refl e32 f34 f33 (Or.inr ⟨(own_m hw 21 rfl), rfl, hnm⟩) (own_m hw 6 rfl) (ty := .byte) (v' := (.int (own_cod cs))) (by decide) (own_cnar cs) (own_cfit cs) (g := (mkF m 48 #[.val (.ref a), .val (.ref ca), .val (.int (0 : Int32)), .val (.int (Int32.ofNat n)), .val .null, .val (.ref b_29)] [(.int (own_cod cs)), (.ref a)])) rfl rfl (dd hy dJ42_149_48)
    have f38 : Fld Z h29 a cS "value" "[B" .null := (I6.keep K29 nin0)
    have Sf37 : Safe Z ELs s.vm h29 a := own_safeN hZ.alike f33 f38
    have z36 : h29.size ≤ h35.size := Nat.le_of_eq W35.size.symm
    have Cp36 : CHr Z ELs s.vm h29 s.vm h35 := CHr.wr W35 Sf37 CR.1
    have hk := Nat.le_trans hk z36
    have CR := CR.trans Cp36
    have F35 : Fld Z h35 a cS "coder" "B" (.int (own_cod cs)) := f34.same W35
    have N35 := Fr.snoc X35 N32 (show n0 ≤ a by omega)
    have f39 : Exa Z h35 a cS := (f33.wr W35)
    have f40 : Fld Z h35 a cS "value" "[B" .null := (f38.other W35 (Or.inr (slot_ne (Or.inr (own_m hw 20 rfl)) (Or.inr (own_m hw 21 rfl)) (by decide) (t := (.array .byte)) (t' := .byte) (by decide) (by decide))))
    obtain ⟨T41, h41, X41, e41, W41, st41⟩ := putF X35 hx hZ hown (host := "") (Or.inl (own_m hw 24 rfl)) Via.refl e35 f40 f39 (Or.inr ⟨(own_m hw 20 rfl), rfl, hnm⟩) (own_m hw 6 rfl) (ty := (.array .byte)) (by decide) rfl rfl (g := (mkF m 54 #[.val (.ref a), .val (.ref ca), .val (.int (0 : Int32)), .val (.int (Int32.ofNat n)), .val .null, .val (.ref b_29)] [(.ref b_29), (.ref a)])) rfl rfl (dd hy dJ42_149_54)
    have Sf43 : Safe Z ELs s.vm h35 a := (Cp36.safe (show @LT.lt Nat _ a h29.size by omega) Sf37)
    have z42 : h35.size ≤ h41.size := Nat.le_of_eq W41.size.symm
    have Cp42 : CHr Z ELs s.vm h35 s.vm h41 := CHr.wr W41 Sf43 CR.1
    have hk := Nat.le_trans hk z42
    have CR := CR.trans Cp42
    have F41 : Fld Z h41 a cS "value" "[B" (.ref b_29) := f40.same W41
    have N41 := Fr.snoc X41 N35 (show n0 ≤ a by omega)
    have s44 : ∀ t_, Steps p.tables e below (T41.setTop (mkF m 57 #[.val (.ref a), .val (.ref ca), .val (.int (0 : Int32)), .val (.int (Int32.ofNat n)), .val .null, .val (.ref b_29)] [])) t_ → Steps _ _ _ _ t_ := fun t_ k_ => s2 t_ (by
      refine XS.ifYes X1.here hx rfl (pc0 := 5) (pc' := 27) rfl (dd hy dJ42_149_5) rfl ((if0 _ _).trans (feq h3).2) (by decide) (by decide) ?_
      show Steps _ _ _ (T1.setTop (mkF m 27 #[.val (.ref a), .val (.ref ca), .val (.int (0 : Int32)), .val (.int (Int32.ofNat n)), .val .null, .unset] [])) _
      refine st27 _ ?_
      refine XS.ifNo X27.here hx rfl (dd hy dJ42_149_30) rfl ((if0 _ _).trans (feq hcst).1) ?_
      show Steps _ _ _ (T27.setTop (mkF m 33 #[.val (.ref a), .val (.ref ca), .val (.int (0 : Int32)), .val (.int (Int32.ofNat n)), .val .null, .unset] [])) _
      refine XS.aloadN X27.here hx rfl (dd hy dJ42_149_33) rfl rfl ?_
      refine XS.iloadN X27.here hx rfl (dd hy dJ42_149_34) rfl ?_
      refine XS.iloadN X27.here hx rfl (dd hy dJ42_149_35) rfl ?_
      refine st29 _ ?_
      show Steps _ _ _ (T29.setTop (mkF m 39 #[.val (.ref a), .val (.ref ca), .val (.int (0 : Int32)), .val (.int (Int32.ofNat n)), .val .null, .unset] [(.ref b_29)])) _
      refine XS.astore X29.here hx rfl (dd hy dJ42_149_39) rfl rfl (l' := #[.val (.ref a), .val (.ref ca), .val (.int (0 : Int32)), .val (.int (Int32.ofNat n)), .val .null, .val (.ref b_29)]) rfl ?_
      refine XS.aloadN X29.here hx rfl (dd hy dJ42_149_41) rfl rfl ?_
      refine XS.aload X29.here hx rfl (dd hy dJ42_149_42) rfl rfl ?_
      refine XS.iloadN X29.here hx rfl (dd hy dJ42_149_44) rfl ?_
      refine st32 _ ?_
      show Steps _ _ _ (T32.setTop (mkF m 48 #[.val (.ref a), .val (.ref ca), .val (.int (0 : Int32)), .val (.int (Int32.ofNat n)), .val .null, .val (.ref b_29)] [(.int (nar .byte (own_lo (ushr ((Int32.ofNat n) - (Int32.ofNat (own_enl cs))) (31 : Int32))))), (.ref a)])) _
      refine castTop (g' := (mkF m 48 #[.val (.ref a), .val (.ref ca), .val (.int (0 : Int32)), .val (.int (Int32.ofNat n)), .val .null, .val (.ref b_29)] [(.int (own_cod cs)), (.ref a)])) (by rw [own_codl hn (own_pos h3) (by omega)]) ?_
      show Steps _ _ _ (T32.setTop (mkF m 48 #[.val (.ref a), .val (.ref ca), .val (.int (0 : Int32)), .val (.int (Int32.ofNat n)), .val .null, .val (.ref b_29)] [(.int (own_cod cs)), (.ref a)])) _
      refine st35 _ ?_
      refine XS.aloadN X35.here hx rfl (dd hy dJ42_149_51) rfl rfl ?_
      refine XS.aload X35.here hx rfl (dd hy dJ42_149_52) rfl rfl ?_
      refine st41 _ ?_
      exact k_)
    obtain ⟨fs, hr, hrun, hended, hREW⟩ := X41.leaveW hS (by first | exact Nat.le_refl _ | (rw [e41]; exact hk)) (v := none) (fun _ => rfl)
    have f45 : Arv Z h41 b_29 kb_29 .byte (Int32.ofNat (own_enl cs)) (own_enc cs) v0_ := ((Fq29_0.other W35 (show @Ne Nat b_29 a by omega)).other W41 (show @Ne Nat b_29 a by omega))
    have f46 : Exa Z h41 a cS := (f39.wr W41)
    have f47 : Fld Z h41 a cS "coder" "B" (.int (own_cod cs)) := (F35.other W41 (Or.inr (slot_ne (Or.inr (own_m hw 21 rfl)) (Or.inr (own_m hw 20 rfl)) (by decide) (t := .byte) (t' := (.array .byte)) (by decide) (by decide))))
    refine ⟨_, _, s44 _ ?_, hrun, hended, _, _, rfl, ?_, (by show CHr Z ELs s.vm s.heap T41.vm T41.heap; rw [hh, e41]; exact CR.trans (CHv.at X41 hZ hEL CR.1)), hREW.1, hREW.2.1, hREW.2.2.1, hREW.2.2.2.mono (by decide) (by decide)⟩
    · exact X41.returnOut hx Bd.returns (dd hy dJ42_149_57) hr
    · show Q_rmIni4 Z _ _ _ _ _ _ h0 n0 _ T41.heap _
      rw [e41]
      exact ⟨b_29, kb_29, rfl, N41, ((((Keep.refl h0 [a]).trans K29 all0).wr W35 (Or.inl (by simp))).wr W41 (Or.inl (by simp))), f46, F41, f47, f45⟩
theorem dJ42_3_0 : decode CJ42_3 0 = .ok (.aload_n 0, 1) := by decide +kernel
theorem dJ42_3_1 : decode CJ42_3 1 = .ok (.aload_n 1, 1) := by decide +kernel
theorem dJ42_3_2 : decode CJ42_3 2 = .ok (.iconst 0, 1) := by decide +kernel
theorem dJ42_3_3 : decode CJ42_3 3 = .ok (.aload_n 1, 1) := by decide +kernel
theorem dJ42_3_4 : decode CJ42_3 4 = .ok (.arraylength, 1) := by decide +kernel
theorem dJ42_3_5 : decode CJ42_3 5 = .ok (.aconst_null, 1) := by decide +kernel
theorem pd___CIILjava_lang_Void__V : parseMethodDescriptor "([CIILjava/lang/Void;)V" = some ⟨[(.array .char), .int, .int, (.object "java/lang/Void")], none⟩ := by decide +kernel
theorem dJ42_3_6 : decode CJ42_3 6 = .ok (.invokespecial 27, 3) := by decide +kernel
theorem dJ42_3_9 : decode CJ42_3 9 = .ok (.return_, 1) := by decide +kernel
theorem ef_rmIni1 (m : MethodId) (x0 : Addr) (x1 : Addr) : entryFrame m #[(.ref x0), (.ref x1)] 2 = mkF m 0 #[.val (.ref x0), .val (.ref x1)] [] := by first | (simp [entryFrame, mkF, argsToLocals, Value.category]; done) | rfl
abbrev R_rmIni1 : Room := ({ frames := 5, cells := 4, slots := 45, locals := 74 } : Room)
def Q_rmIni1 (Z : State) (a : Addr) (ca : Addr) (cst : Int32) (cs : List Int32) (kc : ClassId) (n : Nat) (h0 : Heap) (n0 : Nat) (v : Option Value) (h : Heap) (L : List Loc) : Prop := ∃ (b : Addr), ∃ (kb : ClassId), (v = none) ∧ (Fr n0 L) ∧ (Keep h0 h [a]) ∧ (Exa Z h a cS) ∧ (Fld Z h a cS "value" "[B" (.ref b)) ∧ (Fld Z h a cS "coder" "B" (.int (own_cod cs))) ∧ (Arv Z h b kb .byte (Int32.ofNat (own_enl cs)) (own_enc cs) v0_)
set_option maxRecDepth 65536 in
set_option maxHeartbeats 40000000 in
theorem rmIni1 (l : Launch) (Z : State) (a0 : Array Value) (hw : HW Z a0) (ws : List Jvm.Cond) (a : Addr) (ca : Addr) (cst : Int32) (cs : List Int32) (kc : ClassId) (n : Nat) (h0 : Heap) (n0 : Nat) (Z0 : n0 ≤ h0.size) (I1 : Sta Z Z.heap cS cC "Z" (.int cst)) (I2 : Sta Z Z.heap cU cD "Z" (.int (1 : Int32))) (I3 : Sta Z Z.heap cU cH "I" (.int (0 : Int32))) (I4 : Sta Z Z.heap cU cL "I" (.int (8 : Int32))) (OX : Old Z n0 h0) (hcst : ¬ (cst = (0 : Int32))) (I5 : Exa Z h0 a cS) (I6 : Fld Z h0 a cS "value" "[B" .null) (I7 : Fld Z h0 a cS "coder" "B" (.int (0 : Int32))) (I8 : Arv Z h0 ca kc .char (Int32.ofNat n) (cs.map Value.int) v0_) (hn : cs.length = n) (hb : n ≤ 15) (hchs : own_chs cs) (ga : n0 ≤ a) (hac : @Ne Nat a ca) :
    MetFree l M9_ (head1 (Jvm.Cond.code M9_ jdk_42_method_3_code 2 none :: ws) R_rmIni1) (fun ar_ U => ar_ = #[(.ref a), (.ref ca)] ∧ Z.Warmed39 U.vm ∧ U.heap = h0 ∧ CHv Z ELs U.vm h0) (fun _ _ _ _ _ => True) (fun _ U oc_ U' => ∃ v L, oc_ = .returned v ∧ Q_rmIni1 Z a ca cst cs kc n h0 n0 v U'.heap L ∧ CHr Z ELs U.vm U.heap U'.vm U'.heap ∧ ReturnedEndW U oc_ U' L R_rmIni1.cells R_rmIni1.slots) := by
  refine MetFree.of_bodySF (plainFor_of_name pn_java_lang_String) hisR ?_
  intro p e s m args below meth c s₁ Bd hml0 hP hK
  obtain ⟨rfl, hZ, hh, hCH⟩ := hP
  have hx := Bd.exec
  have hy := Bd.bytes
  have hml : c.maxLocals = 2 := hml0
  have hown : s.vm.findClass "java/lang/String" = some m.cls := findClass_of_methodNamed Bd.named
  have hnm := (name_of_methodNamed Bd.named Bd.method).1
  have X0 : Stand p l e R_rmIni1 (s.setVm s.vm) m #[(.ref a), (.ref ca)] below meth c s₁ [] 0 0 := Stand.of_body Bd
  have e0 : s₁.heap = h0 := by rw [← hh, Bd.state]; rfl
  have N0 := Fr.nil n0
  have pre0 := own_pre (p := p) (e := e) (below := below) (T := s₁) (ef_rmIni1 m a ca)
  have hEL : EW Z a0 ELs := own_EW hw
  have wS : ∀ a ∈ Bundle.stringAtoms, a.before a0 Z = true := own_wS hw
  have hS : s.Since s.vm s.heap.size := (State.WarmedH.refl s).since _
  have hk : s.heap.size ≤ h0.size := by rw [hh]; exact Nat.le_refl _
  have CR : CHr Z ELs s.vm h0 s.vm h0 := CHr.refl hCH
  have lt_I5 : @LT.lt Nat _ a h0.size := I5.lt
  have lt_I8 : @LT.lt Nat _ ca h0.size := I8.lt
  obtain ⟨cl1, Ar1, -, S1, M1, -, -⟩ := id I8
  have Zc2 : n0 ≤ h0.size := by omega
  have s4 : ∀ t_, Steps p.tables e below (s₁.setTop (mkF m 6 #[.val (.ref a), .val (.ref ca)] [.null, (.int (Int32.ofNat n)), (.int (0 : Int32)), (.ref ca), (.ref a)])) t_ → Steps _ _ _ _ t_ := fun t_ k_ => pre0 t_ (by
    refine XS.aloadN X0.here hx rfl (dd hy dJ42_3_0) rfl rfl ?_
    refine XS.aloadN X0.here hx rfl (dd hy dJ42_3_1) rfl rfl ?_
    refine XS.iconst X0.here hx rfl (dd hy dJ42_3_2) ?_
    refine XS.aloadN X0.here hx rfl (dd hy dJ42_3_3) rfl rfl ?_
    refine X0.arraylength hx (by rw [e0]; exact Ar1.1) (State.isArrayOf_alike hZ.alike Ar1.2.1) (g := (mkF m 4 #[.val (.ref a), .val (.ref ca)] [(.ref ca), (.int (0 : Int32)), (.ref ca), (.ref a)])) rfl rfl (dd hy dJ42_3_4) _ ?_
    rw [len_of S1 M1]
    show Steps _ _ _ (s₁.setTop (mkF m 5 #[.val (.ref a), .val (.ref ca)] [(.int (Int32.ofNat n)), (.int (0 : Int32)), (.ref ca), (.ref a)])) _
    refine XS.aconstNull X0.here hx rfl (dd hy dJ42_3_5) ?_
    exact k_)
  obtain ⟨_, _, ⟨T3, L3, k3, n3⟩, -, Xr3, hSr3, hg3, ⟨Lc3, hQ3, l3, y3, z3, Cp3⟩, st3⟩ := X0.specialBackS hx (y := M8_) rfl hown (mvT hZ (own_m hw 11 rfl)) (mvT hZ (own_m hw 12 rfl)) (mvT hZ (own_m hw 14 rfl)) (by decide) (backOfSH (s := s) (vm0 := s.vm) (W := 0) (rmIni4 l Z a0 hw [] a ca cst cs kc n h0 n0 Zc2 I1 I2 I3 I4 OX hcst I5 I6 I7 I8 hn hb hchs ga hac) hZ (own_m hw 14 rfl) (own_m hw 7 rfl) (by decide) (by decide) hEL CR.1) (g := (mkF m 6 #[.val (.ref a), .val (.ref ca)] [.null, (.int (Int32.ofNat n)), (.int (0 : Int32)), (.ref ca), (.ref a)])) rfl (by rw [hml]; rfl) (Steps.refl _) (a := a) (argsL := [(.ref ca), (.int (0 : Int32)), (.int (Int32.ofNat n)), .null]) (rest := []) (lenOf pd___CIILjava_lang_Void__V rfl) rfl (by show 2 * 0 + _ ≤ _; exact Nat.le_of_eq rfl) (dd hy dJ42_3_6) (fun _ _ => ⟨rfl, e0, (by decide : 0 + 4 ≤ _), (by decide : 0 + 45 ≤ _)⟩)
  dsimp only [Pt.U, Pt.locs, Pt.cells, Pt.slots] at Xr3 hSr3 hg3 l3 y3 z3 st3 hQ3 Cp3
  subst l3 y3 z3
  obtain ⟨X3, hS, hZ, hown⟩ := rebS (own := "java/lang/String") hS (by first | exact Nat.le_refl _ | (rw [e0]; exact hk)) Xr3 hSr3 hg3 hZ hown
  obtain ⟨b_3, kb_3, rfl, N3q, K3, Fq3_0, Fq3_1, Fq3_2, Fq3_3⟩ := hQ3
  have N3 := Fr.app N0 N3q
  obtain ⟨h3, e3⟩ : ∃ z, T3.heap = z := ⟨_, rfl⟩
  rw [e3] at K3 Fq3_0 Fq3_1 Fq3_2 Fq3_3 Cp3
  have hk : T3.heap.size ≤ h3.size := Nat.le_of_eq (congrArg Array.size e3)
  have z5 : h0.size ≤ h3.size := K3.1
  have CR := CR.trans Cp3
  have lt3_0 : @LT.lt Nat _ a h3.size := Fq3_0.lt
  have lt3_3 : @LT.lt Nat _ b_3 h3.size := Fq3_3.lt
  have s6 : ∀ t_, Steps p.tables e below (T3.setTop (mkF m 9 #[.val (.ref a), .val (.ref ca)] [])) t_ → Steps _ _ _ _ t_ := fun t_ k_ => s4 t_ (by
    refine st3.trans ?_
    show Steps _ _ _ (T3.setTop (mkF m 9 #[.val (.ref a), .val (.ref ca)] [])) _
    exact k_)
  obtain ⟨fs, hr, hrun, hended, hREW⟩ := X3.leaveW hS (by first | exact Nat.le_refl _ | (rw [e3]; exact hk)) (v := none) (fun _ => rfl)
  refine ⟨_, _, s6 _ ?_, hrun, hended, _, _, rfl, ?_, (by show CHr Z ELs s.vm s.heap T3.vm T3.heap; rw [hh, e3]; exact CR.trans (CHv.at X3 hZ hEL CR.1)), hREW.1, hREW.2.1, hREW.2.2.1, hREW.2.2.2.mono (by decide) (by decide)⟩
  · exact X3.returnOut hx Bd.returns (dd hy dJ42_3_9) hr
  · show Q_rmIni1 Z _ _ _ _ _ _ h0 n0 _ T3.heap _
    rw [e3]
    exact ⟨b_3, kb_3, rfl, N3, ((Keep.refl h0 [a]).trans K3 (allS (Or.inl (by simp)) all0)), Fq3_0, Fq3_1, Fq3_2, Fq3_3⟩
theorem dJ42_152_0 : decode CJ42_152 0 = .ok (.getstatic 38, 3) := by decide +kernel
theorem dJ42_152_3 : decode CJ42_152 3 = .ok (.ifCond .eq 10, 3) := by decide +kernel
theorem dJ42_152_6 : decode CJ42_152 6 = .ok (.aload_n 0, 1) := by decide +kernel
theorem dJ42_152_7 : decode CJ42_152 7 = .ok (.getfield 15, 3) := by decide +kernel
theorem dJ42_152_10 : decode CJ42_152 10 = .ok (.goto 4, 3) := by decide +kernel
theorem dJ42_152_14 : decode CJ42_152 14 = .ok (.ireturn, 1) := by decide +kernel
theorem ef_rmCdr (m : MethodId) (x0 : Addr) : entryFrame m #[(.ref x0)] 1 = mkF m 0 #[.val (.ref x0)] [] := by first | (simp [entryFrame, mkF, argsToLocals, Value.category]; done) | rfl
abbrev R_rmCdr : Room := ({ frames := 0, cells := 0, slots := 0, locals := 0 } : Room)
def Q_rmCdr (Z : State) (a : Addr) (cst : Int32) (cs : List Int32) (h0 : Heap) (n0 : Nat) (v : Option Value) (h : Heap) (L : List Loc) : Prop := (v = some (.int (own_cod cs))) ∧ (Fr n0 L) ∧ (h = h0)
set_option maxRecDepth 65536 in
set_option maxHeartbeats 40000000 in
theorem rmCdr (l : Launch) (Z : State) (a0 : Array Value) (hw : HW Z a0) (ws : List Jvm.Cond) (a : Addr) (cst : Int32) (cs : List Int32) (h0 : Heap) (n0 : Nat) (Z0 : n0 ≤ h0.size) (I1 : Sta Z Z.heap cS cC "Z" (.int cst)) (OX : Old Z n0 h0) (hcst : ¬ (cst = (0 : Int32))) (I2 : Fld Z h0 a cS "coder" "B" (.int (own_cod cs))) :
    MF l Z M10_ (Jvm.Cond.code M10_ jdk_42_method_152_code 1 (some .byte) :: ws) R_rmCdr #[(.ref a)] h0 (Q_rmCdr Z a cst cs h0 n0) := by
  refine MetFree.of_bodySF (plainFor_of_name pn_java_lang_String) hisR ?_
  intro p e s m args below meth c s₁ Bd hml0 hP hK
  obtain ⟨rfl, hZ, hh⟩ := hP
  have hx := Bd.exec
  have hy := Bd.bytes
  have hml : c.maxLocals = 1 := hml0
  have hown : s.vm.findClass "java/lang/String" = some m.cls := findClass_of_methodNamed Bd.named
  have hnm := (name_of_methodNamed Bd.named Bd.method).1
  have X0 : Stand p l e R_rmCdr s m #[(.ref a)] below meth c s₁ [] 0 0 := Stand.of_body Bd
  have e0 : s₁.heap = h0 := by rw [← hh, Bd.state]; rfl
  have N0 := Fr.nil n0
  have pre0 := own_pre (p := p) (e := e) (below := below) (T := s₁) (ef_rmCdr m a)
  have lt_I2 : @LT.lt Nat _ a h0.size := I2.lt
  obtain ⟨T1, X1, e1, st1⟩ := getS2 X0 hx hZ hown (host := "") (Or.inl (own_m hw 51 rfl)) Via.refl e0 (I1.ext OX.2) (g := (mkF m 0 #[.val (.ref a)] [])) rfl (dd hy dJ42_152_0)
  obtain ⟨T2, X2, e2, st2⟩ := getF X1 hx hZ hown (host := "") (Or.inl (own_m hw 25 rfl)) Via.refl e1 I2 (g := (mkF m 7 #[.val (.ref a)] [(.ref a)])) rfl rfl (dd hy dJ42_152_7)
  have s3 : ∀ t_, Steps p.tables e below (T2.setTop (mkF m 14 #[.val (.ref a)] [(.int (own_cod cs))])) t_ → Steps _ _ _ _ t_ := fun t_ k_ => pre0 t_ (by
    refine st1 _ ?_
    refine XS.ifNo X1.here hx rfl (dd hy dJ42_152_3) rfl ((if0 _ _).trans (feq hcst).1) ?_
    show Steps _ _ _ (T1.setTop (mkF m 6 #[.val (.ref a)] [])) _
    refine XS.aloadN X1.here hx rfl (dd hy dJ42_152_6) rfl rfl ?_
    refine st2 _ ?_
    refine XS.goto X2.here hx rfl (pc0 := 10) (pc' := 14) rfl (dd hy dJ42_152_10) (by decide) (by decide) ?_
    exact k_)
  obtain ⟨fs, hr, hrun, hended, hW, hsame⟩ := X2.leave (v := some (.int (nar .byte (own_cod cs)))) (fun h => by rw [Bd.returns] at h; cases h)
  refine ⟨_, _, s3 _ ?_, hrun, hended, _, _, rfl, ?_, ⟨_, rfl⟩, hW, hsame.mono (by decide) (by decide)⟩
  · exact retN X2 hx (t := .byte) Bd.returns (by simp) (dd hy dJ42_152_14) hr
  · show Q_rmCdr Z _ _ _ h0 n0 _ T2.heap _
    rw [e2]
    exact ⟨(by rw [own_cnarb]), N0, rfl⟩
theorem dJ42_54_0 : decode CJ42_54 0 = .ok (.aload_n 0, 1) := by decide +kernel
theorem dJ42_54_1 : decode CJ42_54 1 = .ok (.getfield 9, 3) := by decide +kernel
theorem dJ42_54_4 : decode CJ42_54 4 = .ok (.arraylength, 1) := by decide +kernel
theorem dJ42_54_5 : decode CJ42_54 5 = .ok (.aload_n 0, 1) := by decide +kernel
theorem pd___B : parseMethodDescriptor "()B" = some ⟨[], some .byte⟩ := by decide +kernel
theorem dJ42_54_6 : decode CJ42_54 6 = .ok (.invokevirtual 335, 3) := by decide +kernel
theorem dJ42_54_9 : decode CJ42_54 9 = .ok (.ishr, 1) := by decide +kernel
theorem dJ42_54_10 : decode CJ42_54 10 = .ok (.ireturn, 1) := by decide +kernel
theorem ef_rmLen (m : MethodId) (x0 : Addr) : entryFrame m #[(.ref x0)] 1 = mkF m 0 #[.val (.ref x0)] [] := by first | (simp [entryFrame, mkF, argsToLocals, Value.category]; done) | rfl
abbrev R_rmLen : Room := ({ frames := 1, cells := 0, slots := 0, locals := 13 } : Room)
def Q_rmLen (Z : State) (a : Addr) (cst : Int32) (b : Addr) (kb : ClassId) (cs : List Int32) (h0 : Heap) (n0 : Nat) (v : Option Value) (h : Heap) (L : List Loc) : Prop := (v = some (.int (Int32.ofNat cs.length))) ∧ (Fr n0 L) ∧ (h = h0)
set_option maxRecDepth 65536 in
set_option maxHeartbeats 40000000 in
theorem rmLen (l : Launch) (Z : State) (a0 : Array Value) (hw : HW Z a0) (ws : List Jvm.Cond) (a : Addr) (cst : Int32) (b : Addr) (kb : ClassId) (cs : List Int32) (h0 : Heap) (n0 : Nat) (Z0 : n0 ≤ h0.size) (I1 : Sta Z Z.heap cS cC "Z" (.int cst)) (OX : Old Z n0 h0) (hcst : ¬ (cst = (0 : Int32))) (I2 : Exa Z h0 a cS) (I3 : Fld Z h0 a cS "value" "[B" (.ref b)) (I4 : Fld Z h0 a cS "coder" "B" (.int (own_cod cs))) (I5 : Arv Z h0 b kb .byte (Int32.ofNat (own_enl cs)) (own_enc cs) v0_) (hb : cs.length ≤ 16) :
    MF l Z M11_ (Jvm.Cond.code M11_ jdk_42_method_54_code 1 (some .int) :: ws) R_rmLen #[(.ref a)] h0 (Q_rmLen Z a cst b kb cs h0 n0) := by
  refine MetFree.of_bodySF (plainFor_of_name pn_java_lang_String) hisR ?_
  intro p e s m args below meth c s₁ Bd hml0 hP hK
  obtain ⟨rfl, hZ, hh⟩ := hP
  have hx := Bd.exec
  have hy := Bd.bytes
  have hml : c.maxLocals = 1 := hml0
  have hown : s.vm.findClass "java/lang/String" = some m.cls := findClass_of_methodNamed Bd.named
  have hnm := (name_of_methodNamed Bd.named Bd.method).1
  have X0 : Stand p l e R_rmLen s m #[(.ref a)] below meth c s₁ [] 0 0 := Stand.of_body Bd
  have e0 : s₁.heap = h0 := by rw [← hh, Bd.state]; rfl
  have N0 := Fr.nil n0
  have pre0 := own_pre (p := p) (e := e) (below := below) (T := s₁) (ef_rmLen m a)
  have lt_I2 : @LT.lt Nat _ a h0.size := I2.lt
  have lt_I5 : @LT.lt Nat _ b h0.size := I5.lt
  obtain ⟨T1, X1, e1, st1⟩ := getF X0 hx hZ hown (host := "") (Or.inl (own_m hw 24 rfl)) Via.refl e0 I3 (g := (mkF m 1 #[.val (.ref a)] [(.ref a)])) rfl rfl (dd hy dJ42_54_1)
  obtain ⟨cl2, Ar2, -, S2, M2, -, -⟩ := id I5
  have Zc3 : n0 ≤ h0.size := by omega
  obtain ⟨cq4, kq4, q4a, q4b, q4c⟩ := isOf hZ e1 I2
  obtain ⟨_, _, ⟨T4, L4, k4, n4⟩, -, X4, ⟨Lc4, hQ4, l4, y4, z4⟩, st4⟩ := X1.virtualBack hx (y := M10_) (z := M10_) hown (mvT hZ (own_m hw 46 rfl)) (mvT hZ (own_m hw 47 rfl)) (notFace_of_selects (args := #[]) (mvT hZ (own_m hw 49 rfl))) (mvT hZ (own_m hw 49 rfl)) (mvT hZ (own_m hw 48 rfl)) (by decide) (backOf (W := 1) (rmCdr l Z a0 hw [] a cst cs h0 n0 Zc3 I1 OX hcst I4) hZ (own_m hw 50 rfl) (own_m hw 7 rfl) (by decide) (by decide)) q4a q4c (g := (mkF m 6 #[.val (.ref a)] [(.ref a), (.int (Int32.ofNat (own_enl cs)))])) rfl (by rw [hml]; rfl) (Steps.refl _) (argsL := []) (rest := [(.int (Int32.ofNat (own_enl cs)))]) (lenOf pd___B rfl) rfl (by show 2 * 0 + _ ≤ _; exact Nat.le_of_eq rfl) (dd hy dJ42_54_6) (fun _ _ => ⟨rfl, e1, (by decide : 0 + 0 ≤ _), (by decide : 0 + 0 ≤ _)⟩)
  dsimp only [Pt.U, Pt.locs, Pt.cells, Pt.slots] at X4 l4 y4 z4 st4 hQ4
  subst l4 y4 z4
  obtain ⟨rfl, N4q, e4⟩ := hQ4
  have N4 := Fr.app N0 N4q
  have s5 : ∀ t_, Steps p.tables e below (T4.setTop (mkF m 10 #[.val (.ref a)] [(.int ((Int32.ofNat (own_enl cs)) >>> ((own_cod cs) &&& 31)))])) t_ → Steps _ _ _ _ t_ := fun t_ k_ => pre0 t_ (by
    refine XS.aloadN X0.here hx rfl (dd hy dJ42_54_0) rfl rfl ?_
    refine st1 _ ?_
    refine X1.arraylength hx (by rw [e1]; exact Ar2.1) (State.isArrayOf_alike hZ.alike Ar2.2.1) (g := (mkF m 4 #[.val (.ref a)] [(.ref b)])) rfl rfl (dd hy dJ42_54_4) _ ?_
    rw [len_of S2 M2]
    show Steps _ _ _ (T1.setTop (mkF m 5 #[.val (.ref a)] [(.int (Int32.ofNat (own_enl cs)))])) _
    refine XS.aloadN X1.here hx rfl (dd hy dJ42_54_5) rfl rfl ?_
    refine st4.trans ?_
    show Steps _ _ _ (T4.setTop (mkF m 9 #[.val (.ref a)] [(.int (own_cod cs)), (.int (Int32.ofNat (own_enl cs)))])) _
    refine XS.ishr X4.here hx rfl (dd hy dJ42_54_9) rfl ?_
    exact k_)
  obtain ⟨fs, hr, hrun, hended, hW, hsame⟩ := X4.leave (v := some (.int ((Int32.ofNat (own_enl cs)) >>> ((own_cod cs) &&& 31)))) (fun h => by rw [Bd.returns] at h; cases h)
  refine ⟨_, _, s5 _ ?_, hrun, hended, _, _, rfl, ?_, ⟨_, rfl⟩, hW, hsame.mono (by decide) (by decide)⟩
  · exact retI X4 hx Bd.returns (dd hy dJ42_54_10) hr
  · show Q_rmLen Z _ _ _ _ _ h0 n0 _ T4.heap _
    rw [e4]
    exact ⟨(by rw [own_lenq cs (by omega)]), N4, rfl⟩
theorem dJ42_154_0 : decode CJ42_154 0 = .ok (.getstatic 38, 3) := by decide +kernel
theorem dJ42_154_3 : decode CJ42_154 3 = .ok (.ifCond .eq 14, 3) := by decide +kernel
theorem dJ42_154_6 : decode CJ42_154 6 = .ok (.aload_n 0, 1) := by decide +kernel
theorem dJ42_154_7 : decode CJ42_154 7 = .ok (.getfield 15, 3) := by decide +kernel
theorem dJ42_154_10 : decode CJ42_154 10 = .ok (.ifCond .ne 7, 3) := by decide +kernel
theorem dJ42_154_13 : decode CJ42_154 13 = .ok (.iconst 1, 1) := by decide +kernel
theorem dJ42_154_14 : decode CJ42_154 14 = .ok (.goto 4, 3) := by decide +kernel
theorem dJ42_154_18 : decode CJ42_154 18 = .ok (.ireturn, 1) := by decide +kernel
theorem dJ42_154_17 : decode CJ42_154 17 = .ok (.iconst 0, 1) := by decide +kernel
theorem ef_rmIsL (m : MethodId) (x0 : Addr) : entryFrame m #[(.ref x0)] 1 = mkF m 0 #[.val (.ref x0)] [] := by first | (simp [entryFrame, mkF, argsToLocals, Value.category]; done) | rfl
abbrev R_rmIsL : Room := ({ frames := 0, cells := 0, slots := 0, locals := 0 } : Room)
def Q_rmIsL (Z : State) (a : Addr) (cst : Int32) (cs : List Int32) (h0 : Heap) (n0 : Nat) (v : Option Value) (h : Heap) (L : List Loc) : Prop := (v = some (.int (if own_cod cs = (0 : Int32) then (1 : Int32) else (0 : Int32)))) ∧ (Fr n0 L) ∧ (h = h0)
set_option maxRecDepth 65536 in
set_option maxHeartbeats 40000000 in
theorem rmIsL (l : Launch) (Z : State) (a0 : Array Value) (hw : HW Z a0) (ws : List Jvm.Cond) (a : Addr) (cst : Int32) (cs : List Int32) (h0 : Heap) (n0 : Nat) (Z0 : n0 ≤ h0.size) (I1 : Sta Z Z.heap cS cC "Z" (.int cst)) (OX : Old Z n0 h0) (hcst : ¬ (cst = (0 : Int32))) (I2 : Fld Z h0 a cS "coder" "B" (.int (own_cod cs))) :
    MF l Z M12_ (Jvm.Cond.code M12_ jdk_42_method_154_code 1 (some .boolean) :: ws) R_rmIsL #[(.ref a)] h0 (Q_rmIsL Z a cst cs h0 n0) := by
  refine MetFree.of_bodySF (plainFor_of_name pn_java_lang_String) hisR ?_
  intro p e s m args below meth c s₁ Bd hml0 hP hK
  obtain ⟨rfl, hZ, hh⟩ := hP
  have hx := Bd.exec
  have hy := Bd.bytes
  have hml : c.maxLocals = 1 := hml0
  have hown : s.vm.findClass "java/lang/String" = some m.cls := findClass_of_methodNamed Bd.named
  have hnm := (name_of_methodNamed Bd.named Bd.method).1
  have X0 : Stand p l e R_rmIsL s m #[(.ref a)] below meth c s₁ [] 0 0 := Stand.of_body Bd
  have e0 : s₁.heap = h0 := by rw [← hh, Bd.state]; rfl
  have N0 := Fr.nil n0
  have pre0 := own_pre (p := p) (e := e) (below := below) (T := s₁) (ef_rmIsL m a)
  have lt_I2 : @LT.lt Nat _ a h0.size := I2.lt
  obtain ⟨T1, X1, e1, st1⟩ := getS2 X0 hx hZ hown (host := "") (Or.inl (own_m hw 51 rfl)) Via.refl e0 (I1.ext OX.2) (g := (mkF m 0 #[.val (.ref a)] [])) rfl (dd hy dJ42_154_0)
  obtain ⟨T2, X2, e2, st2⟩ := getF X1 hx hZ hown (host := "") (Or.inl (own_m hw 25 rfl)) Via.refl e1 I2 (g := (mkF m 7 #[.val (.ref a)] [(.ref a)])) rfl rfl (dd hy dJ42_154_7)
  have s3 : ∀ t_, Steps p.tables e below (T2.setTop (mkF m 10 #[.val (.ref a)] [(.int (own_cod cs))])) t_ → Steps _ _ _ _ t_ := fun t_ k_ => pre0 t_ (by
    refine st1 _ ?_
    refine XS.ifNo X1.here hx rfl (dd hy dJ42_154_3) rfl ((if0 _ _).trans (feq hcst).1) ?_
    show Steps _ _ _ (T1.setTop (mkF m 6 #[.val (.ref a)] [])) _
    refine XS.aloadN X1.here hx rfl (dd hy dJ42_154_6) rfl rfl ?_
    refine st2 _ ?_
    exact k_)
  by_cases h4 : (own_cod cs) = (0 : Int32)
  · have s5 : ∀ t_, Steps p.tables e below (T2.setTop (mkF m 18 #[.val (.ref a)] [(.int (1 : Int32))])) t_ → Steps _ _ _ _ t_ := fun t_ k_ => s3 t_ (by
      refine XS.ifNo X2.here hx rfl (dd hy dJ42_154_10) rfl ((if0 _ _).trans (teq h4).2) ?_
      show Steps _ _ _ (T2.setTop (mkF m 13 #[.val (.ref a)] [])) _
      refine XS.iconst X2.here hx rfl (dd hy dJ42_154_13) ?_
      refine XS.goto X2.here hx rfl (pc0 := 14) (pc' := 18) rfl (dd hy dJ42_154_14) (by decide) (by decide) ?_
      exact k_)
    obtain ⟨fs, hr, hrun, hended, hW, hsame⟩ := X2.leave (v := some (.int (1 : Int32))) (fun h => by rw [Bd.returns] at h; cases h)
    refine ⟨_, _, s5 _ ?_, hrun, hended, _, _, rfl, ?_, ⟨_, rfl⟩, hW, hsame.mono (by decide) (by decide)⟩
    · exact retN X2 hx (t := .boolean) Bd.returns (by simp) (dd hy dJ42_154_18) hr
    · show Q_rmIsL Z _ _ _ h0 n0 _ T2.heap _
      rw [e2]
      exact ⟨(by first | rfl | (simp only [if_pos h4]; done) | (simp only [if_pos h4]; rfl) | (simp only [if_pos h4, own_narb]; done)), N0, rfl⟩
  · have s6 : ∀ t_, Steps p.tables e below (T2.setTop (mkF m 18 #[.val (.ref a)] [(.int (0 : Int32))])) t_ → Steps _ _ _ _ t_ := fun t_ k_ => s3 t_ (by
      refine XS.ifYes X2.here hx rfl (pc0 := 10) (pc' := 17) rfl (dd hy dJ42_154_10) rfl ((if0 _ _).trans (feq h4).2) (by decide) (by decide) ?_
      show Steps _ _ _ (T2.setTop (mkF m 17 #[.val (.ref a)] [])) _
      refine XS.iconst X2.here hx rfl (dd hy dJ42_154_17) ?_
      exact k_)
    obtain ⟨fs, hr, hrun, hended, hW, hsame⟩ := X2.leave (v := some (.int (0 : Int32))) (fun h => by rw [Bd.returns] at h; cases h)
    refine ⟨_, _, s6 _ ?_, hrun, hended, _, _, rfl, ?_, ⟨_, rfl⟩, hW, hsame.mono (by decide) (by decide)⟩
    · exact retN X2 hx (t := .boolean) Bd.returns (by simp) (dd hy dJ42_154_18) hr
    · show Q_rmIsL Z _ _ _ h0 n0 _ T2.heap _
      rw [e2]
      exact ⟨(by first | rfl | (simp only [if_neg h4]; done) | (simp only [if_neg h4]; rfl) | (simp only [if_neg h4, own_narb]; done)), N0, rfl⟩
theorem pn_jdk_internal_util_Preconditions : plainName "jdk/internal/util/Preconditions" = true := by first | (simp [plainName, overriddenIn]; done) | decide +kernel
theorem dJ41_11_0 : decode CJ41_11 0 = .ok (.iload_n 0, 1) := by decide +kernel
theorem dJ41_11_1 : decode CJ41_11 1 = .ok (.ifCond .lt 8, 3) := by decide +kernel
theorem dJ41_11_4 : decode CJ41_11 4 = .ok (.iload_n 0, 1) := by decide +kernel
theorem dJ41_11_5 : decode CJ41_11 5 = .ok (.iload_n 1, 1) := by decide +kernel
theorem dJ41_11_6 : decode CJ41_11 6 = .ok (.if_icmp .lt 10, 3) := by decide +kernel
theorem dJ41_11_16 : decode CJ41_11 16 = .ok (.iload_n 0, 1) := by decide +kernel
theorem dJ41_11_17 : decode CJ41_11 17 = .ok (.ireturn, 1) := by decide +kernel
theorem ef_rmPCk (m : MethodId) (x0 : Int32) (x1 : Int32) (x2 : Value) (hr_x2 : x2.isRef = true) : entryFrame m #[(.int x0), (.int x1), x2] 3 = mkF m 0 #[.val (.int x0), .val (.int x1), .val x2] [] := by first | (simp [entryFrame, mkF, argsToLocals, Value.category]; done) | rfl | (cases x2 <;> simp [Value.isRef] at hr_x2 <;> rfl)
abbrev R_rmPCk : Room := ({ frames := 0, cells := 0, slots := 0, locals := 0 } : Room)
def Q_rmPCk (Z : State) (fmt : Value) (i : Nat) (n : Nat) (h0 : Heap) (n0 : Nat) (v : Option Value) (h : Heap) (L : List Loc) : Prop := (v = some (.int (Int32.ofNat i))) ∧ (Fr n0 L) ∧ (h = h0)
set_option maxRecDepth 65536 in
set_option maxHeartbeats 40000000 in
theorem rmPCk (l : Launch) (Z : State) (a0 : Array Value) (hw : HW Z a0) (ws : List Jvm.Cond) (fmt : Value) (i : Nat) (n : Nat) (h0 : Heap) (n0 : Nat) (Z0 : n0 ≤ h0.size) (hfmt : fmt.isRef = true) (hin : i < n) (hn8 : n ≤ 8000) :
    MF l Z M13_ (Jvm.Cond.code M13_ jdk_41_method_11_code 3 (some .int) :: ws) R_rmPCk #[(.int (Int32.ofNat i)), (.int (Int32.ofNat n)), fmt] h0 (Q_rmPCk Z fmt i n h0 n0) := by
  refine MetFree.of_bodySF (plainFor_of_name pn_jdk_internal_util_Preconditions) hisR ?_
  intro p e s m args below meth c s₁ Bd hml0 hP hK
  obtain ⟨rfl, hZ, hh⟩ := hP
  have hx := Bd.exec
  have hy := Bd.bytes
  have hml : c.maxLocals = 3 := hml0
  have hown : s.vm.findClass "jdk/internal/util/Preconditions" = some m.cls := findClass_of_methodNamed Bd.named
  have hnm := (name_of_methodNamed Bd.named Bd.method).1
  have X0 : Stand p l e R_rmPCk s m #[(.int (Int32.ofNat i)), (.int (Int32.ofNat n)), fmt] below meth c s₁ [] 0 0 := Stand.of_body Bd
  have e0 : s₁.heap = h0 := by rw [← hh, Bd.state]; rfl
  have N0 := Fr.nil n0
  have pre0 := own_pre (p := p) (e := e) (below := below) (T := s₁) (ef_rmPCk m (Int32.ofNat i) (Int32.ofNat n) fmt hfmt)
  have s1 : ∀ t_, Steps p.tables e below (s₁.setTop (mkF m 17 #[.val (.int (Int32.ofNat i)), .val (.int (Int32.ofNat n)), .val fmt] [(.int (Int32.ofNat i))])) t_ → Steps _ _ _ _ t_ := fun t_ k_ => pre0 t_ (by
    refine XS.iloadN X0.here hx rfl (dd hy dJ41_11_0) rfl ?_
    refine XS.ifNo X0.here hx rfl (dd hy dJ41_11_1) rfl ((if0 _ _).trans (flt (own_nn (by omega))).1) ?_
    show Steps _ _ _ (s₁.setTop (mkF m 4 #[.val (.int (Int32.ofNat i)), .val (.int (Int32.ofNat n)), .val fmt] [])) _
    refine XS.iloadN X0.here hx rfl (dd hy dJ41_11_4) rfl ?_
    refine XS.iloadN X0.here hx rfl (dd hy dJ41_11_5) rfl ?_
    refine XS.icmpYes X0.here hx rfl (pc0 := 6) (pc' := 16) rfl (dd hy dJ41_11_6) rfl (tlt (own_lt (by omega) (by omega))).1 (by decide) (by decide) ?_
    show Steps _ _ _ (s₁.setTop (mkF m 16 #[.val (.int (Int32.ofNat i)), .val (.int (Int32.ofNat n)), .val fmt] [])) _
    refine XS.iloadN X0.here hx rfl (dd hy dJ41_11_16) rfl ?_
    exact k_)
  obtain ⟨fs, hr, hrun, hended, hW, hsame⟩ := X0.leave (v := some (.int (Int32.ofNat i))) (fun h => by rw [Bd.returns] at h; cases h)
  refine ⟨_, _, s1 _ ?_, hrun, hended, _, _, rfl, ?_, ⟨_, rfl⟩, hW, hsame.mono (by decide) (by decide)⟩
  · exact retI X0 hx Bd.returns (dd hy dJ41_11_17) hr
  · show Q_rmPCk Z _ _ _ h0 n0 _ s₁.heap _
    rw [e0]
    exact ⟨rfl, N0, rfl⟩
theorem dJ42_155_0 : decode CJ42_155 0 = .ok (.iload_n 0, 1) := by decide +kernel
theorem dJ42_155_1 : decode CJ42_155 1 = .ok (.iload_n 1, 1) := by decide +kernel
theorem dJ42_155_2 : decode CJ42_155 2 = .ok (.getstatic 1053, 3) := by decide +kernel
theorem pd__IILjava_util_function_BiFunction__I : parseMethodDescriptor "(IILjava/util/function/BiFunction;)I" = some ⟨[.int, .int, (.object "java/util/function/BiFunction")], some .int⟩ := by decide +kernel
theorem dJ42_155_5 : decode CJ42_155 5 = .ok (.invokestatic 1059, 3) := by decide +kernel
theorem dJ42_155_8 : decode CJ42_155 8 = .ok (.pop, 1) := by decide +kernel
theorem dJ42_155_9 : decode CJ42_155 9 = .ok (.return_, 1) := by decide +kernel
theorem ef_rmSCk (m : MethodId) (x0 : Int32) (x1 : Int32) : entryFrame m #[(.int x0), (.int x1)] 2 = mkF m 0 #[.val (.int x0), .val (.int x1)] [] := by first | (simp [entryFrame, mkF, argsToLocals, Value.category]; done) | rfl
abbrev R_rmSCk : Room := ({ frames := 1, cells := 0, slots := 0, locals := 14 } : Room)
def Q_rmSCk (Z : State) (i : Nat) (n : Nat) (fmt : Value) (h0 : Heap) (n0 : Nat) (v : Option Value) (h : Heap) (L : List Loc) : Prop := (v = none) ∧ (Fr n0 L) ∧ (h = h0)
set_option maxRecDepth 65536 in
set_option maxHeartbeats 40000000 in
theorem rmSCk (l : Launch) (Z : State) (a0 : Array Value) (hw : HW Z a0) (ws : List Jvm.Cond) (i : Nat) (n : Nat) (fmt : Value) (h0 : Heap) (n0 : Nat) (Z0 : n0 ≤ h0.size) (hfmt : fmt.isRef = true) (I1 : Sta Z Z.heap cP cG cF fmt) (OX : Old Z n0 h0) (hin : i < n) (hn8 : n ≤ 8000) :
    MF l Z M14_ (Jvm.Cond.code M14_ jdk_42_method_155_code 2 none :: ws) R_rmSCk #[(.int (Int32.ofNat i)), (.int (Int32.ofNat n))] h0 (Q_rmSCk Z i n fmt h0 n0) := by
  refine MetFree.of_bodySF (plainFor_of_name pn_java_lang_String) hisR ?_
  intro p e s m args below meth c s₁ Bd hml0 hP hK
  obtain ⟨rfl, hZ, hh⟩ := hP
  have hx := Bd.exec
  have hy := Bd.bytes
  have hml : c.maxLocals = 2 := hml0
  have hown : s.vm.findClass "java/lang/String" = some m.cls := findClass_of_methodNamed Bd.named
  have hnm := (name_of_methodNamed Bd.named Bd.method).1
  have X0 : Stand p l e R_rmSCk s m #[(.int (Int32.ofNat i)), (.int (Int32.ofNat n))] below meth c s₁ [] 0 0 := Stand.of_body Bd
  have e0 : s₁.heap = h0 := by rw [← hh, Bd.state]; rfl
  have N0 := Fr.nil n0
  have pre0 := own_pre (p := p) (e := e) (below := below) (T := s₁) (ef_rmSCk m (Int32.ofNat i) (Int32.ofNat n))
  obtain ⟨T1, X1, e1, st1⟩ := getS2 X0 hx hZ hown (host := "") (Or.inl (own_m hw 84 rfl)) Via.refl e0 (I1.ext OX.2) (g := (mkF m 2 #[.val (.int (Int32.ofNat i)), .val (.int (Int32.ofNat n))] [(.int (Int32.ofNat n)), (.int (Int32.ofNat i))])) rfl (dd hy dJ42_155_2)
  have Zc2 : n0 ≤ h0.size := by omega
  obtain ⟨_, _, ⟨T3, L3, k3, n3⟩, -, X3, ⟨Lc3, hQ3, l3, y3, z3⟩, st3⟩ := Jvm.LawKit.callS X1 hx (y := M13_) hown (mvT hZ (own_m hw 86 rfl)) (mvT hZ (own_m hw 87 rfl)) (mvT hZ (own_m hw 85 rfl)) (mvT hZ (own_m hw 88 rfl)) (by decide) (backOf (W := 0) (rmPCk l Z a0 hw [] fmt i n h0 n0 Zc2 hfmt hin hn8) hZ (own_m hw 88 rfl) (own_m hw 85 rfl) (by decide) (by decide)) (g := (mkF m 5 #[.val (.int (Int32.ofNat i)), .val (.int (Int32.ofNat n))] [fmt, (.int (Int32.ofNat n)), (.int (Int32.ofNat i))])) rfl (by rw [hml]; rfl) (argsL := [(.int (Int32.ofNat i)), (.int (Int32.ofNat n)), fmt]) (rest := []) (lenOf pd__IILjava_util_function_BiFunction__I rfl) rfl (by show 2 * 0 + _ ≤ _; exact Nat.le_of_eq rfl) (dd hy dJ42_155_5) (fun _ _ => ⟨rfl, e1, (by decide : 0 + 0 ≤ _), (by decide : 0 + 0 ≤ _)⟩)
  dsimp only [Pt.U, Pt.locs, Pt.cells, Pt.slots] at X3 l3 y3 z3 st3 hQ3
  subst l3 y3 z3
  obtain ⟨rfl, N3q, e3⟩ := hQ3
  have N3 := Fr.app N0 N3q
  have s4 : ∀ t_, Steps p.tables e below (T3.setTop (mkF m 9 #[.val (.int (Int32.ofNat i)), .val (.int (Int32.ofNat n))] [])) t_ → Steps _ _ _ _ t_ := fun t_ k_ => pre0 t_ (by
    refine XS.iloadN X0.here hx rfl (dd hy dJ42_155_0) rfl ?_
    refine XS.iloadN X0.here hx rfl (dd hy dJ42_155_1) rfl ?_
    refine st1 _ ?_
    refine st3 _ ?_
    show Steps _ _ _ (T3.setTop (mkF m 8 #[.val (.int (Int32.ofNat i)), .val (.int (Int32.ofNat n))] [(.int (Int32.ofNat i))])) _
    refine XS.pop X3.here hx rfl (dd hy dJ42_155_8) rfl rfl ?_
    exact k_)
  obtain ⟨fs, hr, hrun, hended, hW, hsame⟩ := X3.leave (v := none) (fun _ => rfl)
  refine ⟨_, _, s4 _ ?_, hrun, hended, _, _, rfl, ?_, ⟨_, rfl⟩, hW, hsame.mono (by decide) (by decide)⟩
  · exact X3.returnOut hx Bd.returns (dd hy dJ42_155_9) hr
  · show Q_rmSCk Z _ _ _ h0 n0 _ T3.heap _
    rw [e3]
    exact ⟨rfl, N3, rfl⟩
theorem pn_java_lang_StringLatin1 : plainName "java/lang/StringLatin1" = true := by first | (simp [plainName, overriddenIn]; done) | decide +kernel
theorem dJ43_2_0 : decode CJ43_2 0 = .ok (.iload_n 1, 1) := by decide +kernel
theorem dJ43_2_1 : decode CJ43_2 1 = .ok (.aload_n 0, 1) := by decide +kernel
theorem dJ43_2_2 : decode CJ43_2 2 = .ok (.arraylength, 1) := by decide +kernel
theorem pd__II_V : parseMethodDescriptor "(II)V" = some ⟨[.int, .int], none⟩ := by decide +kernel
theorem dJ43_2_3 : decode CJ43_2 3 = .ok (.invokestatic 9, 3) := by decide +kernel
theorem dJ43_2_6 : decode CJ43_2 6 = .ok (.aload_n 0, 1) := by decide +kernel
theorem dJ43_2_7 : decode CJ43_2 7 = .ok (.iload_n 1, 1) := by decide +kernel
theorem dJ43_2_8 : decode CJ43_2 8 = .ok (.baload, 1) := by decide +kernel
theorem dJ43_2_9 : decode CJ43_2 9 = .ok (.sipush 255, 3) := by decide +kernel
theorem dJ43_2_12 : decode CJ43_2 12 = .ok (.iand, 1) := by decide +kernel
theorem dJ43_2_13 : decode CJ43_2 13 = .ok (.i2c, 1) := by decide +kernel
theorem dJ43_2_14 : decode CJ43_2 14 = .ok (.ireturn, 1) := by decide +kernel
theorem ef_rmLCh (m : MethodId) (x0 : Addr) (x1 : Int32) : entryFrame m #[(.ref x0), (.int x1)] 2 = mkF m 0 #[.val (.ref x0), .val (.int x1)] [] := by first | (simp [entryFrame, mkF, argsToLocals, Value.category]; done) | rfl
abbrev R_rmLCh : Room := ({ frames := 2, cells := 0, slots := 0, locals := 27 } : Room)
def Q_rmLCh (Z : State) (b : Addr) (kb : ClassId) (cs : List Int32) (i : Nat) (fmt : Value) (h0 : Heap) (n0 : Nat) (v : Option Value) (h : Heap) (L : List Loc) : Prop := (v = some (.int (cs.getD i 0))) ∧ (Fr n0 L) ∧ (h = h0)
set_option maxRecDepth 65536 in
set_option maxHeartbeats 40000000 in
theorem rmLCh (l : Launch) (Z : State) (a0 : Array Value) (hw : HW Z a0) (ws : List Jvm.Cond) (b : Addr) (kb : ClassId) (cs : List Int32) (i : Nat) (fmt : Value) (h0 : Heap) (n0 : Nat) (Z0 : n0 ≤ h0.size) (hfmt : fmt.isRef = true) (I1 : Sta Z Z.heap cP cG cF fmt) (OX : Old Z n0 h0) (I2 : Arv Z h0 b kb .byte (Int32.ofNat cs.length) (own_enc cs) v0_) (hb : cs.length ≤ 16) (hi : i < cs.length) (hlat : own_lat cs) (hchs : own_chs cs) :
    MF l Z M15_ (Jvm.Cond.code M15_ jdk_43_method_2_code 2 (some .char) :: ws) R_rmLCh #[(.ref b), (.int (Int32.ofNat i))] h0 (Q_rmLCh Z b kb cs i fmt h0 n0) := by
  refine MetFree.of_bodySF (plainFor_of_name pn_java_lang_StringLatin1) hisR ?_
  intro p e s m args below meth c s₁ Bd hml0 hP hK
  obtain ⟨rfl, hZ, hh⟩ := hP
  have hx := Bd.exec
  have hy := Bd.bytes
  have hml : c.maxLocals = 2 := hml0
  have hown : s.vm.findClass "java/lang/StringLatin1" = some m.cls := findClass_of_methodNamed Bd.named
  have hnm := (name_of_methodNamed Bd.named Bd.method).1
  have X0 : Stand p l e R_rmLCh s m #[(.ref b), (.int (Int32.ofNat i))] below meth c s₁ [] 0 0 := Stand.of_body Bd
  have e0 : s₁.heap = h0 := by rw [← hh, Bd.state]; rfl
  have N0 := Fr.nil n0
  have pre0 := own_pre (p := p) (e := e) (below := below) (T := s₁) (ef_rmLCh m b (Int32.ofNat i))
  have lt_I2 : @LT.lt Nat _ b h0.size := I2.lt
  obtain ⟨cl1, Ar1, -, S1, M1, -, -⟩ := id I2
  have Zc2 : n0 ≤ h0.size := by omega
  obtain ⟨_, _, ⟨T3, L3, k3, n3⟩, -, X3, ⟨Lc3, hQ3, l3, y3, z3⟩, st3⟩ := Jvm.LawKit.callS X0 hx (y := M14_) hown (mvT hZ (own_m hw 81 rfl)) (mvT hZ (own_m hw 82 rfl)) (mvT hZ (own_m hw 7 rfl)) (mvT hZ (own_m hw 83 rfl)) (by decide) (backOf (W := 0) (rmSCk l Z a0 hw [] i cs.length fmt h0 n0 Zc2 hfmt I1 OX hi (by first | assumption | omega | rfl | decide)) hZ (own_m hw 83 rfl) (own_m hw 7 rfl) (by decide) (by decide)) (g := (mkF m 3 #[.val (.ref b), .val (.int (Int32.ofNat i))] [(.int (Int32.ofNat cs.length)), (.int (Int32.ofNat i))])) rfl (by rw [hml]; rfl) (argsL := [(.int (Int32.ofNat i)), (.int (Int32.ofNat cs.length))]) (rest := []) (lenOf pd__II_V rfl) rfl (by show 2 * 0 + _ ≤ _; exact Nat.le_of_eq rfl) (dd hy dJ43_2_3) (fun _ _ => ⟨rfl, e0, (by decide : 0 + 0 ≤ _), (by decide : 0 + 0 ≤ _)⟩)
  dsimp only [Pt.U, Pt.locs, Pt.cells, Pt.slots] at X3 l3 y3 z3 st3 hQ3
  subst l3 y3 z3
  obtain ⟨rfl, N3q, e3⟩ := hQ3
  have N3 := Fr.app N0 N3q
  obtain ⟨cl4, Ar4, -, S4, M4, H4, -⟩ := id I2
  have hin4 : ¬ ((Int32.ofNat i) < 0 ∨ cl4.slots.size ≤ ((Int32.ofNat i)).toNatClampNeg) := inb_of S4 (own_in hi (by omega))
  have hat4 : cl4.slots[((Int32.ofNat i)).toNatClampNeg]? = some (.int (own_lo (cs.getD i 0))) := H4.at hin4 (own_geth cs i _ hlat hi (by omega))
  have s5 : ∀ t_, Steps p.tables e below (T3.setTop (mkF m 14 #[.val (.ref b), .val (.int (Int32.ofNat i))] [(.int (i2c ((own_lo (cs.getD i 0)) &&& (255 : Int32))))])) t_ → Steps _ _ _ _ t_ := fun t_ k_ => pre0 t_ (by
    refine XS.iloadN X0.here hx rfl (dd hy dJ43_2_0) rfl ?_
    refine XS.aloadN X0.here hx rfl (dd hy dJ43_2_1) rfl rfl ?_
    refine X0.arraylength hx (by rw [e0]; exact Ar1.1) (State.isArrayOf_alike hZ.alike Ar1.2.1) (g := (mkF m 2 #[.val (.ref b), .val (.int (Int32.ofNat i))] [(.ref b), (.int (Int32.ofNat i))])) rfl rfl (dd hy dJ43_2_2) _ ?_
    rw [len_of S1 M1]
    show Steps _ _ _ (s₁.setTop (mkF m 3 #[.val (.ref b), .val (.int (Int32.ofNat i))] [(.int (Int32.ofNat cs.length)), (.int (Int32.ofNat i))])) _
    refine st3 _ ?_
    show Steps _ _ _ (T3.setTop (mkF m 6 #[.val (.ref b), .val (.int (Int32.ofNat i))] [])) _
    refine XS.aloadN X3.here hx rfl (dd hy dJ43_2_6) rfl rfl ?_
    refine XS.iloadN X3.here hx rfl (dd hy dJ43_2_7) rfl ?_
    refine X3.baloadBytes hx (j := (Int32.ofNat i)) (v := (.int (own_lo (cs.getD i 0)))) (by rw [e3]; exact Ar4.1) (State.isArrayOf_alike hZ.alike Ar4.2.1) Ar4.2.2 hin4 hat4 (g := (mkF m 8 #[.val (.ref b), .val (.int (Int32.ofNat i))] [(.int (Int32.ofNat i)), (.ref b)])) rfl rfl (dd hy dJ43_2_8) _ ?_
    refine XS.sipush X3.here hx rfl (dd hy dJ43_2_9) ?_
    refine XS.iand X3.here hx rfl (dd hy dJ43_2_12) rfl ?_
    refine XS.i2c X3.here hx rfl (dd hy dJ43_2_13) rfl ?_
    show Steps _ _ _ (T3.setTop (mkF m 14 #[.val (.ref b), .val (.int (Int32.ofNat i))] [(.int (i2c ((own_lo (cs.getD i 0)) &&& (255 : Int32))))])) _
    exact k_)
  obtain ⟨fs, hr, hrun, hended, hW, hsame⟩ := X3.leave (v := some (.int (nar .char (i2c ((own_lo (cs.getD i 0)) &&& (255 : Int32)))))) (fun h => by rw [Bd.returns] at h; cases h)
  refine ⟨_, _, s5 _ ?_, hrun, hended, _, _, rfl, ?_, ⟨_, rfl⟩, hW, hsame.mono (by decide) (by decide)⟩
  · exact retN X3 hx (t := .char) Bd.returns (by simp) (dd hy dJ43_2_14) hr
  · show Q_rmLCh Z _ _ _ _ _ h0 n0 _ T3.heap _
    rw [e3]
    exact ⟨(by rw [own_chr (hchs _ (own_mem cs i hi)).1 (hlat _ (own_mem cs i hi))]), N3, rfl⟩
theorem dJ42_56_0 : decode CJ42_56 0 = .ok (.aload_n 0, 1) := by decide +kernel
theorem pd___Z : parseMethodDescriptor "()Z" = some ⟨[], some .boolean⟩ := by decide +kernel
theorem dJ42_56_1 : decode CJ42_56 1 = .ok (.invokevirtual 492, 3) := by decide +kernel
theorem dJ42_56_4 : decode CJ42_56 4 = .ok (.ifCond .eq 12, 3) := by decide +kernel
theorem dJ42_56_7 : decode CJ42_56 7 = .ok (.aload_n 0, 1) := by decide +kernel
theorem dJ42_56_8 : decode CJ42_56 8 = .ok (.getfield 9, 3) := by decide +kernel
theorem dJ42_56_11 : decode CJ42_56 11 = .ok (.iload_n 1, 1) := by decide +kernel
theorem dJ42_56_12 : decode CJ42_56 12 = .ok (.invokestatic 495, 3) := by decide +kernel
theorem dJ42_56_15 : decode CJ42_56 15 = .ok (.ireturn, 1) := by decide +kernel
theorem ef_rmChA (m : MethodId) (x0 : Addr) (x1 : Int32) : entryFrame m #[(.ref x0), (.int x1)] 2 = mkF m 0 #[.val (.ref x0), .val (.int x1)] [] := by first | (simp [entryFrame, mkF, argsToLocals, Value.category]; done) | rfl
abbrev R_rmChA : Room := ({ frames := 3, cells := 0, slots := 0, locals := 40 } : Room)
def Q_rmChA (Z : State) (a : Addr) (cst : Int32) (b : Addr) (kb : ClassId) (cs : List Int32) (i : Nat) (fmt : Value) (h0 : Heap) (n0 : Nat) (v : Option Value) (h : Heap) (L : List Loc) : Prop := (v = some (.int (cs.getD i 0))) ∧ (Fr n0 L) ∧ (h = h0)
set_option maxRecDepth 65536 in
set_option maxHeartbeats 40000000 in
theorem rmChA (l : Launch) (Z : State) (a0 : Array Value) (hw : HW Z a0) (ws : List Jvm.Cond) (a : Addr) (cst : Int32) (b : Addr) (kb : ClassId) (cs : List Int32) (i : Nat) (fmt : Value) (h0 : Heap) (n0 : Nat) (Z0 : n0 ≤ h0.size) (I1 : Sta Z Z.heap cS cC "Z" (.int cst)) (hfmt : fmt.isRef = true) (I2 : Sta Z Z.heap cP cG cF fmt) (OX : Old Z n0 h0) (hcst : ¬ (cst = (0 : Int32))) (I3 : Exa Z h0 a cS) (I4 : Fld Z h0 a cS "value" "[B" (.ref b)) (I5 : Fld Z h0 a cS "coder" "B" (.int (own_cod cs))) (I6 : Arv Z h0 b kb .byte (Int32.ofNat (own_enl cs)) (own_enc cs) v0_) (hb : cs.length ≤ 16) (hi : i < cs.length) (hchs : own_chs cs) (hlat : own_lat cs) :
    MF l Z M16_ (Jvm.Cond.code M16_ jdk_42_method_56_code 2 (some .char) :: ws) R_rmChA #[(.ref a), (.int (Int32.ofNat i))] h0 (Q_rmChA Z a cst b kb cs i fmt h0 n0) := by
  refine MetFree.of_bodySF (plainFor_of_name pn_java_lang_String) hisR ?_
  intro p e s m args below meth c s₁ Bd hml0 hP hK
  obtain ⟨rfl, hZ, hh⟩ := hP
  have hx := Bd.exec
  have hy := Bd.bytes
  have hml : c.maxLocals = 2 := hml0
  have hown : s.vm.findClass "java/lang/String" = some m.cls := findClass_of_methodNamed Bd.named
  have hnm := (name_of_methodNamed Bd.named Bd.method).1
  have X0 : Stand p l e R_rmChA s m #[(.ref a), (.int (Int32.ofNat i))] below meth c s₁ [] 0 0 := Stand.of_body Bd
  have e0 : s₁.heap = h0 := by rw [← hh, Bd.state]; rfl
  have N0 := Fr.nil n0
  have pre0 := own_pre (p := p) (e := e) (below := below) (T := s₁) (ef_rmChA m a (Int32.ofNat i))
  have lt_I3 : @LT.lt Nat _ a h0.size := I3.lt
  have lt_I6 : @LT.lt Nat _ b h0.size := I6.lt
  have Zc1 : n0 ≤ h0.size := by omega
  obtain ⟨cq2, kq2, q2a, q2b, q2c⟩ := isOf hZ e0 I3
  obtain ⟨_, _, ⟨T2, L2, k2, n2⟩, -, X2, ⟨Lc2, hQ2, l2, y2, z2⟩, st2⟩ := X0.virtualBack hx (y := M12_) (z := M12_) hown (mvT hZ (own_m hw 72 rfl)) (mvT hZ (own_m hw 73 rfl)) (notFace_of_selects (args := #[]) (mvT hZ (own_m hw 75 rfl))) (mvT hZ (own_m hw 75 rfl)) (mvT hZ (own_m hw 74 rfl)) (by decide) (backOf (W := 0) (rmIsL l Z a0 hw [] a cst cs h0 n0 Zc1 I1 OX hcst I5) hZ (own_m hw 76 rfl) (own_m hw 7 rfl) (by decide) (by decide)) q2a q2c (g := (mkF m 1 #[.val (.ref a), .val (.int (Int32.ofNat i))] [(.ref a)])) rfl (by rw [hml]; rfl) (Steps.refl _) (argsL := []) (rest := []) (lenOf pd___Z rfl) rfl (by show 2 * 0 + _ ≤ _; exact Nat.le_of_eq rfl) (dd hy dJ42_56_1) (fun _ _ => ⟨rfl, e0, (by decide : 0 + 0 ≤ _), (by decide : 0 + 0 ≤ _)⟩)
  dsimp only [Pt.U, Pt.locs, Pt.cells, Pt.slots] at X2 l2 y2 z2 st2 hQ2
  subst l2 y2 z2
  obtain ⟨rfl, N2q, e2⟩ := hQ2
  have N2 := Fr.app N0 N2q
  obtain ⟨T3, X3, e3, st3⟩ := getF X2 hx hZ hown (host := "") (Or.inl (own_m hw 24 rfl)) Via.refl e2 I4 (g := (mkF m 8 #[.val (.ref a), .val (.int (Int32.ofNat i))] [(.ref a)])) rfl rfl (dd hy dJ42_56_8)
  have V4 : Arv Z h0 b kb .byte (Int32.ofNat cs.length) (own_enc cs) v0_ := by have q := I6; rw [own_enl, if_pos hlat] at q; exact q
  have Zc5 : n0 ≤ h0.size := by omega
  obtain ⟨_, _, ⟨T6, L6, k6, n6⟩, -, X6, ⟨Lc6, hQ6, l6, y6, z6⟩, st6⟩ := Jvm.LawKit.callS X3 hx (y := M15_) hown (mvT hZ (own_m hw 77 rfl)) (mvT hZ (own_m hw 78 rfl)) (mvT hZ (own_m hw 79 rfl)) (mvT hZ (own_m hw 80 rfl)) (by decide) (backOf (W := 0) (rmLCh l Z a0 hw [] b kb cs i fmt h0 n0 Zc5 hfmt I2 OX V4 hb hi hlat hchs) hZ (own_m hw 80 rfl) (own_m hw 79 rfl) (by decide) (by decide)) (g := (mkF m 12 #[.val (.ref a), .val (.int (Int32.ofNat i))] [(.int (Int32.ofNat i)), (.ref b)])) rfl (by rw [hml]; rfl) (argsL := [(.ref b), (.int (Int32.ofNat i))]) (rest := []) (lenOf pd___BI_C rfl) rfl (by show 2 * 0 + _ ≤ _; exact Nat.le_of_eq rfl) (dd hy dJ42_56_12) (fun _ _ => ⟨rfl, e3, (by decide : 0 + 0 ≤ _), (by decide : 0 + 0 ≤ _)⟩)
  dsimp only [Pt.U, Pt.locs, Pt.cells, Pt.slots] at X6 l6 y6 z6 st6 hQ6
  subst l6 y6 z6
  obtain ⟨rfl, N6q, e6⟩ := hQ6
  have N6 := Fr.app N2 N6q
  have s7 : ∀ t_, Steps p.tables e below (T6.setTop (mkF m 15 #[.val (.ref a), .val (.int (Int32.ofNat i))] [(.int (cs.getD i 0))])) t_ → Steps _ _ _ _ t_ := fun t_ k_ => pre0 t_ (by
    refine XS.aloadN X0.here hx rfl (dd hy dJ42_56_0) rfl rfl ?_
    refine st2.trans ?_
    show Steps _ _ _ (T2.setTop (mkF m 4 #[.val (.ref a), .val (.int (Int32.ofNat i))] [(.int (if own_cod cs = (0 : Int32) then (1 : Int32) else (0 : Int32)))])) _
    refine castTop (g' := (mkF m 4 #[.val (.ref a), .val (.int (Int32.ofNat i))] [(.int (1 : Int32))])) (by rw [if_pos (own_cod0 hlat)]) ?_
    show Steps _ _ _ (T2.setTop (mkF m 4 #[.val (.ref a), .val (.int (Int32.ofNat i))] [(.int (1 : Int32))])) _
    refine XS.ifNo X2.here hx rfl (dd hy dJ42_56_4) rfl ((if0 _ _).trans (feq (by decide : ¬ ((1 : Int32) = (0 : Int32)))).1) ?_
    show Steps _ _ _ (T2.setTop (mkF m 7 #[.val (.ref a), .val (.int (Int32.ofNat i))] [])) _
    refine XS.aloadN X2.here hx rfl (dd hy dJ42_56_7) rfl rfl ?_
    refine st3 _ ?_
    refine XS.iloadN X3.here hx rfl (dd hy dJ42_56_11) rfl ?_
    refine st6 _ ?_
    show Steps _ _ _ (T6.setTop (mkF m 15 #[.val (.ref a), .val (.int (Int32.ofNat i))] [(.int (cs.getD i 0))])) _
    exact k_)
  obtain ⟨fs, hr, hrun, hended, hW, hsame⟩ := X6.leave (v := some (.int (nar .char (cs.getD i 0)))) (fun h => by rw [Bd.returns] at h; cases h)
  refine ⟨_, _, s7 _ ?_, hrun, hended, _, _, rfl, ?_, ⟨_, rfl⟩, hW, hsame.mono (by decide) (by decide)⟩
  · exact retN X6 hx (t := .char) Bd.returns (by simp) (dd hy dJ42_56_15) hr
  · show Q_rmChA Z _ _ _ _ _ _ _ h0 n0 _ T6.heap _
    rw [e6]
    exact ⟨(by rw [own_narc (hchs _ (own_mem cs i hi)).1 (hchs _ (own_mem cs i hi)).2]), N6, rfl⟩
theorem pn_jdk_internal_util_ArraysSupport : plainName "jdk/internal/util/ArraysSupport" = true := by first | (simp [plainName, overriddenIn]; done) | decide +kernel
theorem dJ48_14_0 : decode CJ48_14 0 = .ok (.iconst 0, 1) := by decide +kernel
theorem dJ48_14_1 : decode CJ48_14 1 = .ok (.istore 5, 2) := by decide +kernel
theorem dJ48_14_3 : decode CJ48_14 3 = .ok (.iload 4, 2) := by decide +kernel
theorem dJ48_14_5 : decode CJ48_14 5 = .ok (.bipush 7, 2) := by decide +kernel
theorem dJ48_14_7 : decode CJ48_14 7 = .ok (.if_icmp .le 63, 3) := by decide +kernel
theorem dJ48_14_70 : decode CJ48_14 70 = .ok (.iload 5, 2) := by decide +kernel
theorem dJ48_14_72 : decode CJ48_14 72 = .ok (.iload 4, 2) := by decide +kernel
theorem dJ48_14_74 : decode CJ48_14 74 = .ok (.if_icmp .ge 27, 3) := by decide +kernel
theorem dJ48_14_77 : decode CJ48_14 77 = .ok (.aload_n 0, 1) := by decide +kernel
theorem dJ48_14_78 : decode CJ48_14 78 = .ok (.iload_n 1, 1) := by decide +kernel
theorem dJ48_14_79 : decode CJ48_14 79 = .ok (.iload 5, 2) := by decide +kernel
theorem dJ48_14_81 : decode CJ48_14 81 = .ok (.iadd, 1) := by decide +kernel
theorem dJ48_14_82 : decode CJ48_14 82 = .ok (.baload, 1) := by decide +kernel
theorem dJ48_14_83 : decode CJ48_14 83 = .ok (.aload_n 2, 1) := by decide +kernel
theorem dJ48_14_84 : decode CJ48_14 84 = .ok (.iload_n 3, 1) := by decide +kernel
theorem dJ48_14_85 : decode CJ48_14 85 = .ok (.iload 5, 2) := by decide +kernel
theorem dJ48_14_87 : decode CJ48_14 87 = .ok (.iadd, 1) := by decide +kernel
theorem dJ48_14_88 : decode CJ48_14 88 = .ok (.baload, 1) := by decide +kernel
theorem dJ48_14_89 : decode CJ48_14 89 = .ok (.if_icmp .eq 6, 3) := by decide +kernel
theorem dJ48_14_95 : decode CJ48_14 95 = .ok (.iinc 5 1, 3) := by decide +kernel
theorem dJ48_14_98 : decode CJ48_14 98 = .ok (.goto (-28), 3) := by decide +kernel
theorem dJ48_14_101 : decode CJ48_14 101 = .ok (.iconst (-1), 1) := by decide +kernel
theorem dJ48_14_102 : decode CJ48_14 102 = .ok (.ireturn, 1) := by decide +kernel
theorem dJ48_14_92 : decode CJ48_14 92 = .ok (.iload 5, 2) := by decide +kernel
theorem dJ48_14_94 : decode CJ48_14 94 = .ok (.ireturn, 1) := by decide +kernel
theorem ef_rmMis (m : MethodId) (x0 : Addr) (x1 : Int32) (x2 : Addr) (x3 : Int32) (x4 : Int32) : entryFrame m #[(.ref x0), (.int x1), (.ref x2), (.int x3), (.int x4)] 8 = mkF m 0 #[.val (.ref x0), .val (.int x1), .val (.ref x2), .val (.int x3), .val (.int x4), .unset, .unset, .unset] [] := by first | (simp [entryFrame, mkF, argsToLocals, Value.category]; done) | rfl
abbrev R_rmMis : Room := ({ frames := 0, cells := 0, slots := 0, locals := 0 } : Room)
def Q_rmMis (Z : State) (b : Addr) (pb : Addr) (kb : ClassId) (cs : List Int32) (kp : ClassId) (ps : List Int32) (o : Nat) (h0 : Heap) (n0 : Nat) (v : Option Value) (h : Heap) (L : List Loc) : Prop := ∃ (rv : Int32), (v = some (.int rv)) ∧ (Fr n0 L) ∧ (h = h0) ∧ ((rv < (0 : Int32)) ↔ (∀ i, i < ps.length → cs.getD (o + i) 0 = ps.getD i 0))
set_option maxRecDepth 65536 in
set_option maxHeartbeats 40000000 in
theorem rmMis (l : Launch) (Z : State) (a0 : Array Value) (hw : HW Z a0) (ws : List Jvm.Cond) (b : Addr) (pb : Addr) (kb : ClassId) (cs : List Int32) (kp : ClassId) (ps : List Int32) (o : Nat) (h0 : Heap) (n0 : Nat) (Z0 : n0 ≤ h0.size) (I1 : Arv Z h0 b kb .byte (Int32.ofNat cs.length) (own_enc cs) v0_) (I2 : Arv Z h0 pb kp .byte (Int32.ofNat ps.length) (own_enc ps) v0_) (hlat : own_lat cs) (hb : cs.length ≤ 15) (hchs : own_chs cs) (hlp : own_lat ps) (hcp : own_chs ps) (hp7 : ps.length ≤ 7) (hop : o + ps.length ≤ cs.length) :
    MF l Z M17_ (Jvm.Cond.code M17_ jdk_48_method_14_code 8 (some .int) :: ws) R_rmMis #[(.ref b), (.int (Int32.ofNat o)), (.ref pb), (.int (0 : Int32)), (.int (Int32.ofNat ps.length))] h0 (Q_rmMis Z b pb kb cs kp ps o h0 n0) := by
  refine MetFree.of_bodySF (plainFor_of_name pn_jdk_internal_util_ArraysSupport) hisR ?_
  intro p e s m args below meth c s₁ Bd hml0 hP hK
  obtain ⟨rfl, hZ, hh⟩ := hP
  have hx := Bd.exec
  have hy := Bd.bytes
  have hml : c.maxLocals = 8 := hml0
  have hown : s.vm.findClass "jdk/internal/util/ArraysSupport" = some m.cls := findClass_of_methodNamed Bd.named
  have hnm := (name_of_methodNamed Bd.named Bd.method).1
  have X0 : Stand p l e R_rmMis s m #[(.ref b), (.int (Int32.ofNat o)), (.ref pb), (.int (0 : Int32)), (.int (Int32.ofNat ps.length))] below meth c s₁ [] 0 0 := Stand.of_body Bd
  have e0 : s₁.heap = h0 := by rw [← hh, Bd.state]; rfl
  have N0 := Fr.nil n0
  have pre0 := own_pre (p := p) (e := e) (below := below) (T := s₁) (ef_rmMis m b (Int32.ofNat o) pb (0 : Int32) (Int32.ofNat ps.length))
  have lt_I1 : @LT.lt Nat _ b h0.size := I1.lt
  have lt_I2 : @LT.lt Nat _ pb h0.size := I2.lt
  have s1 : ∀ t_, Steps p.tables e below (s₁.setTop (mkF m 70 #[.val (.ref b), .val (.int (Int32.ofNat o)), .val (.ref pb), .val (.int (0 : Int32)), .val (.int (Int32.ofNat ps.length)), .val (.int (0 : Int32)), .unset, .unset] [])) t_ → Steps _ _ _ _ t_ := fun t_ k_ => pre0 t_ (by
    refine XS.iconst X0.here hx rfl (dd hy dJ48_14_0) ?_
    refine XS.istore X0.here hx rfl (dd hy dJ48_14_1) rfl (l' := #[.val (.ref b), .val (.int (Int32.ofNat o)), .val (.ref pb), .val (.int (0 : Int32)), .val (.int (Int32.ofNat ps.length)), .val (.int (0 : Int32)), .unset, .unset]) rfl ?_
    refine XS.iload X0.here hx rfl (dd hy dJ48_14_3) rfl ?_
    refine XS.bipush X0.here hx rfl (dd hy dJ48_14_5) ?_
    refine XS.icmpYes X0.here hx rfl (pc0 := 7) (pc' := 70) rfl (dd hy dJ48_14_7) rfl (flt (show ¬ ((7 : Int32) < (Int32.ofNat ps.length)) from own_nlt (i := 7) (by omega) (by decide))).2.2.2 (by decide) (by decide) ?_
    show Steps _ _ _ (s₁.setTop (mkF m 70 #[.val (.ref b), .val (.int (Int32.ofNat o)), .val (.ref pb), .val (.int (0 : Int32)), .val (.int (Int32.ofNat ps.length)), .val (.int (0 : Int32)), .unset, .unset] [])) _
    exact k_)
  have lp2 : ∀ (k_ : Nat) (j : Nat) (T_ : State) (lo_ : List Loc), j + k_ = ps.length → Stand p l e R_rmMis s m #[(.ref b), (.int (Int32.ofNat o)), (.ref pb), (.int (0 : Int32)), (.int (Int32.ofNat ps.length))] below meth c T_ lo_ 0 0 → T_.heap = h0 → Fr n0 lo_ → (∀ i, i < j → cs.getD (o + i) 0 = ps.getD i 0) → ∃ (T' : State) (lo' : List Loc) (fe_ : JFrame), Stand p l e R_rmMis s m #[(.ref b), (.int (Int32.ofNat o)), (.ref pb), (.int (0 : Int32)), (.int (Int32.ofNat ps.length))] below meth c T' lo' 0 0 ∧ T'.heap = h0 ∧ Fr n0 lo' ∧ ((fe_ = (mkF m 101 #[.val (.ref b), .val (.int (Int32.ofNat o)), .val (.ref pb), .val (.int (0 : Int32)), .val (.int (Int32.ofNat ps.length)), .val (.int (Int32.ofNat ps.length)), .unset, .unset] []) ∧ (∀ i, i < ps.length → cs.getD (o + i) 0 = ps.getD i 0)) ∨ (∃ (jj : Nat), fe_ = (mkF m 92 #[.val (.ref b), .val (.int (Int32.ofNat o)), .val (.ref pb), .val (.int (0 : Int32)), .val (.int (Int32.ofNat ps.length)), .val (.int (Int32.ofNat jj)), .unset, .unset] []) ∧ (¬ (∀ i, i < ps.length → cs.getD (o + i) 0 = ps.getD i 0)) ∧ (jj < ps.length))) ∧ ∀ t_, Steps p.tables e below (T'.setTop fe_) t_ → Steps p.tables e below (T_.setTop (mkF m 70 #[.val (.ref b), .val (.int (Int32.ofNat o)), .val (.ref pb), .val (.int (0 : Int32)), .val (.int (Int32.ofNat ps.length)), .val (.int (Int32.ofNat j)), .unset, .unset] [])) t_ := by
    intro k_
    induction k_ with
    | zero => 
      intro j T_ lo_ hm_ X_ e_ N_ hp
      have s3 : ∀ t_, Steps p.tables e below (T_.setTop (mkF m 101 #[.val (.ref b), .val (.int (Int32.ofNat o)), .val (.ref pb), .val (.int (0 : Int32)), .val (.int (Int32.ofNat ps.length)), .val (.int (Int32.ofNat j)), .unset, .unset] [])) t_ → Steps p.tables e below (T_.setTop (mkF m 70 #[.val (.ref b), .val (.int (Int32.ofNat o)), .val (.ref pb), .val (.int (0 : Int32)), .val (.int (Int32.ofNat ps.length)), .val (.int (Int32.ofNat j)), .unset, .unset] [])) t_ := fun t_ k_ => (fun _ k_ => k_) t_ (by
        refine XS.iload X_.here hx rfl (dd hy dJ48_14_70) rfl ?_
        refine XS.iload X_.here hx rfl (dd hy dJ48_14_72) rfl ?_
        refine XS.icmpYes X_.here hx rfl (pc0 := 74) (pc' := 101) rfl (dd hy dJ48_14_74) rfl (flt (own_nlt (by omega) (by omega))).2.1 (by decide) (by decide) ?_
        show Steps _ _ _ (T_.setTop (mkF m 101 #[.val (.ref b), .val (.int (Int32.ofNat o)), .val (.ref pb), .val (.int (0 : Int32)), .val (.int (Int32.ofNat ps.length)), .val (.int (Int32.ofNat j)), .unset, .unset] [])) _
        exact k_)
      exact ⟨T_, _, _, X_, e_, N_, (Or.inl ⟨(by rw [show j = ps.length by omega]), (fun i hi => hp i (by omega))⟩), s3⟩
    | succ k_ ih => 
      intro j T_ lo_ hm_ X_ e_ N_ hp
      obtain ⟨cl4, Ar4, -, S4, M4, H4, -⟩ := id I1
      have hin4 : ¬ ((Int32.ofNat (o + j)) < 0 ∨ cl4.slots.size ≤ ((Int32.ofNat (o + j))).toNatClampNeg) := inb_of S4 (own_in (by omega) (by omega))
      have hat4 : cl4.slots[((Int32.ofNat (o + j))).toNatClampNeg]? = some (.int (own_lo (cs.getD (o + j) 0))) := H4.at hin4 (own_geth cs (o + j) _ hlat (by omega) (by omega))
      obtain ⟨cl5, Ar5, -, S5, M5, H5, -⟩ := id I2
      have hin5 : ¬ ((Int32.ofNat j) < 0 ∨ cl5.slots.size ≤ ((Int32.ofNat j)).toNatClampNeg) := inb_of S5 (own_in (by omega) (by omega))
      have hat5 : cl5.slots[((Int32.ofNat j)).toNatClampNeg]? = some (.int (own_lo (ps.getD j 0))) := H5.at hin5 (own_geth ps j _ hlp (by omega) (by omega))
      have s6 : ∀ t_, Steps p.tables e below (T_.setTop (mkF m 89 #[.val (.ref b), .val (.int (Int32.ofNat o)), .val (.ref pb), .val (.int (0 : Int32)), .val (.int (Int32.ofNat ps.length)), .val (.int (Int32.ofNat j)), .unset, .unset] [(.int (own_lo (ps.getD j 0))), (.int (own_lo (cs.getD (o + j) 0)))])) t_ → Steps p.tables e below (T_.setTop (mkF m 70 #[.val (.ref b), .val (.int (Int32.ofNat o)), .val (.ref pb), .val (.int (0 : Int32)), .val (.int (Int32.ofNat ps.length)), .val (.int (Int32.ofNat j)), .unset, .unset] [])) t_ := fun t_ k_ => (fun _ k_ => k_) t_ (by
        refine XS.iload X_.here hx rfl (dd hy dJ48_14_70) rfl ?_
        refine XS.iload X_.here hx rfl (dd hy dJ48_14_72) rfl ?_
        refine XS.icmpNo X_.here hx rfl (dd hy dJ48_14_74) rfl (tlt (own_lt (by omega) (by omega))).2.1 ?_
        show Steps _ _ _ (T_.setTop (mkF m 77 #[.val (.ref b), .val (.int (Int32.ofNat o)), .val (.ref pb), .val (.int (0 : Int32)), .val (.int (Int32.ofNat ps.length)), .val (.int (Int32.ofNat j)), .unset, .unset] [])) _
        refine XS.aloadN X_.here hx rfl (dd hy dJ48_14_77) rfl rfl ?_
        refine XS.iloadN X_.here hx rfl (dd hy dJ48_14_78) rfl ?_
        refine XS.iload X_.here hx rfl (dd hy dJ48_14_79) rfl ?_
        refine XS.iadd X_.here hx rfl (dd hy dJ48_14_81) rfl ?_
        show Steps _ _ _ (T_.setTop (mkF m 82 #[.val (.ref b), .val (.int (Int32.ofNat o)), .val (.ref pb), .val (.int (0 : Int32)), .val (.int (Int32.ofNat ps.length)), .val (.int (Int32.ofNat j)), .unset, .unset] [(.int ((Int32.ofNat o) + (Int32.ofNat j))), (.ref b)])) _
        refine castTop (g' := (mkF m 82 #[.val (.ref b), .val (.int (Int32.ofNat o)), .val (.ref pb), .val (.int (0 : Int32)), .val (.int (Int32.ofNat ps.length)), .val (.int (Int32.ofNat j)), .unset, .unset] [(.int (Int32.ofNat (o + j))), (.ref b)])) (by rw [own_addn]) ?_
        show Steps _ _ _ (T_.setTop (mkF m 82 #[.val (.ref b), .val (.int (Int32.ofNat o)), .val (.ref pb), .val (.int (0 : Int32)), .val (.int (Int32.ofNat ps.length)), .val (.int (Int32.ofNat j)), .unset, .unset] [(.int (Int32.ofNat (o + j))), (.ref b)])) _
        refine X_.baloadBytes hx (j := (Int32.ofNat (o + j))) (v := (.int (own_lo (cs.getD (o + j) 0)))) (by rw [e_]; exact Ar4.1) (State.isArrayOf_alike hZ.alike Ar4.2.1) Ar4.2.2 hin4 hat4 (g := (mkF m 82 #[.val (.ref b), .val (.int (Int32.ofNat o)), .val (.ref pb), .val (.int (0 : Int32)), .val (.int (Int32.ofNat ps.length)), .val (.int (Int32.ofNat j)), .unset, .unset] [(.int (Int32.ofNat (o + j))), (.ref b)])) rfl rfl (dd hy dJ48_14_82) _ ?_
        refine XS.aloadN X_.here hx rfl (dd hy dJ48_14_83) rfl rfl ?_
        refine XS.iloadN X_.here hx rfl (dd hy dJ48_14_84) rfl ?_
        refine XS.iload X_.here hx rfl (dd hy dJ48_14_85) rfl ?_
        refine XS.iadd X_.here hx rfl (dd hy dJ48_14_87) rfl ?_
        show Steps _ _ _ (T_.setTop (mkF m 88 #[.val (.ref b), .val (.int (Int32.ofNat o)), .val (.ref pb), .val (.int (0 : Int32)), .val (.int (Int32.ofNat ps.length)), .val (.int (Int32.ofNat j)), .unset, .unset] [(.int ((0 : Int32) + (Int32.ofNat j))), (.ref pb), (.int (own_lo (cs.getD (o + j) 0)))])) _
        refine castTop (g' := (mkF m 88 #[.val (.ref b), .val (.int (Int32.ofNat o)), .val (.ref pb), .val (.int (0 : Int32)), .val (.int (Int32.ofNat ps.length)), .val (.int (Int32.ofNat j)), .unset, .unset] [(.int (Int32.ofNat j)), (.ref pb), (.int (own_lo (cs.getD (o + j) 0)))])) (by rw [Int32.zero_add]) ?_
        show Steps _ _ _ (T_.setTop (mkF m 88 #[.val (.ref b), .val (.int (Int32.ofNat o)), .val (.ref pb), .val (.int (0 : Int32)), .val (.int (Int32.ofNat ps.length)), .val (.int (Int32.ofNat j)), .unset, .unset] [(.int (Int32.ofNat j)), (.ref pb), (.int (own_lo (cs.getD (o + j) 0)))])) _
        refine X_.baloadBytes hx (j := (Int32.ofNat j)) (v := (.int (own_lo (ps.getD j 0)))) (by rw [e_]; exact Ar5.1) (State.isArrayOf_alike hZ.alike Ar5.2.1) Ar5.2.2 hin5 hat5 (g := (mkF m 88 #[.val (.ref b), .val (.int (Int32.ofNat o)), .val (.ref pb), .val (.int (0 : Int32)), .val (.int (Int32.ofNat ps.length)), .val (.int (Int32.ofNat j)), .unset, .unset] [(.int (Int32.ofNat j)), (.ref pb), (.int (own_lo (cs.getD (o + j) 0)))])) rfl rfl (dd hy dJ48_14_88) _ ?_
        exact k_)
      by_cases h7 : (own_lo (cs.getD (o + j) 0)) = (own_lo (ps.getD j 0))
      · have s8 : ∀ t_, Steps p.tables e below (T_.setTop (mkF m 70 #[.val (.ref b), .val (.int (Int32.ofNat o)), .val (.ref pb), .val (.int (0 : Int32)), .val (.int (Int32.ofNat ps.length)), .val (.int ((Int32.ofNat j) + (1 : Int32))), .unset, .unset] [])) t_ → Steps _ _ _ _ t_ := fun t_ k_ => s6 t_ (by
          refine XS.icmpYes X_.here hx rfl (pc0 := 89) (pc' := 95) rfl (dd hy dJ48_14_89) rfl (teq h7).1 (by decide) (by decide) ?_
          show Steps _ _ _ (T_.setTop (mkF m 95 #[.val (.ref b), .val (.int (Int32.ofNat o)), .val (.ref pb), .val (.int (0 : Int32)), .val (.int (Int32.ofNat ps.length)), .val (.int (Int32.ofNat j)), .unset, .unset] [])) _
          refine XS.iinc X_.here hx rfl (dd hy dJ48_14_95) rfl (l' := #[.val (.ref b), .val (.int (Int32.ofNat o)), .val (.ref pb), .val (.int (0 : Int32)), .val (.int (Int32.ofNat ps.length)), .val (.int ((Int32.ofNat j) + (1 : Int32))), .unset, .unset]) rfl ?_
          refine XS.goto X_.here hx rfl (pc0 := 98) (pc' := 70) rfl (dd hy dJ48_14_98) (by decide) (by decide) ?_
          exact k_)
        obtain ⟨T9, lo9, fe9, X9, e9, N9, A9, st9⟩ := ih (j + 1) T_ _  (by omega) X_ e_ N_   (fun i hi => by rcases Nat.lt_succ_iff_lt_or_eq.mp hi with q | q; exact hp i q; rw [q]; exact own_lo_inj (hchs _ (own_mem cs (o + j) (by omega))).1 (hlat _ (own_mem cs (o + j) (by omega))) (hcp _ (own_mem ps j (by omega))).1 (hlp _ (own_mem ps j (by omega))) h7)
        exact ⟨T9, lo9, fe9, X9, e9, N9, A9, fun t_ k_ => s8 t_ (castTop (by rw [own_up]) (st9 t_ k_))⟩
      · have s10 : ∀ t_, Steps p.tables e below (T_.setTop (mkF m 92 #[.val (.ref b), .val (.int (Int32.ofNat o)), .val (.ref pb), .val (.int (0 : Int32)), .val (.int (Int32.ofNat ps.length)), .val (.int (Int32.ofNat j)), .unset, .unset] [])) t_ → Steps _ _ _ _ t_ := fun t_ k_ => s6 t_ (by
          refine XS.icmpNo X_.here hx rfl (dd hy dJ48_14_89) rfl (feq h7).1 ?_
          show Steps _ _ _ (T_.setTop (mkF m 92 #[.val (.ref b), .val (.int (Int32.ofNat o)), .val (.ref pb), .val (.int (0 : Int32)), .val (.int (Int32.ofNat ps.length)), .val (.int (Int32.ofNat j)), .unset, .unset] [])) _
          exact k_)
        exact ⟨T_, _, _, X_, e_, N_, (Or.inr ⟨j, rfl, (fun q => h7 (by rw [q j (by omega)])), (by omega)⟩), s10⟩
  obtain ⟨T11, lo11, fe11, X11, e11, N11, A11, st11⟩ := lp2 ps.length 0 s₁ _  (by omega) X0 e0 N0   (fun i hi => absurd hi (Nat.not_lt_zero i))
  rcases A11 with ⟨rfl, J11_0⟩ | ⟨jj_11, rfl, J11_0, J11_1⟩
  · have s12 : ∀ t_, Steps p.tables e below (T11.setTop (mkF m 101 #[.val (.ref b), .val (.int (Int32.ofNat o)), .val (.ref pb), .val (.int (0 : Int32)), .val (.int (Int32.ofNat ps.length)), .val (.int (Int32.ofNat ps.length)), .unset, .unset] [])) t_ → Steps p.tables e below (s₁.setTop (entryFrame m #[(.ref b), (.int (Int32.ofNat o)), (.ref pb), (.int (0 : Int32)), (.int (Int32.ofNat ps.length))] 8)) t_ := fun t_ k_ => s1 t_ (st11 t_ k_)
    have s13 : ∀ t_, Steps p.tables e below (T11.setTop (mkF m 102 #[.val (.ref b), .val (.int (Int32.ofNat o)), .val (.ref pb), .val (.int (0 : Int32)), .val (.int (Int32.ofNat ps.length)), .val (.int (Int32.ofNat ps.length)), .unset, .unset] [(.int (-1 : Int32))])) t_ → Steps _ _ _ _ t_ := fun t_ k_ => s12 t_ (by
      refine XS.iconst X11.here hx rfl (dd hy dJ48_14_101) ?_
      exact k_)
    obtain ⟨fs, hr, hrun, hended, hW, hsame⟩ := X11.leave (v := some (.int (-1 : Int32))) (fun h => by rw [Bd.returns] at h; cases h)
    refine ⟨_, _, s13 _ ?_, hrun, hended, _, _, rfl, ?_, ⟨_, rfl⟩, hW, hsame.mono (by decide) (by decide)⟩
    · exact retI X11 hx Bd.returns (dd hy dJ48_14_102) hr
    · show Q_rmMis Z _ _ _ _ _ _ _ h0 n0 _ T11.heap _
      rw [e11]
      exact ⟨(-1 : Int32), rfl, N11, rfl, ⟨fun _ => J11_0, fun _ => by decide⟩⟩
  · have s14 : ∀ t_, Steps p.tables e below (T11.setTop (mkF m 92 #[.val (.ref b), .val (.int (Int32.ofNat o)), .val (.ref pb), .val (.int (0 : Int32)), .val (.int (Int32.ofNat ps.length)), .val (.int (Int32.ofNat jj_11)), .unset, .unset] [])) t_ → Steps p.tables e below (s₁.setTop (entryFrame m #[(.ref b), (.int (Int32.ofNat o)), (.ref pb), (.int (0 : Int32)), (.int (Int32.ofNat ps.length))] 8)) t_ := fun t_ k_ => s1 t_ (st11 t_ k_)
    have s15 : ∀ t_, Steps p.tables e below (T11.setTop (mkF m 94 #[.val (.ref b), .val (.int (Int32.ofNat o)), .val (.ref pb), .val (.int (0 : Int32)), .val (.int (Int32.ofNat ps.length)), .val (.int (Int32.ofNat jj_11)), .unset, .unset] [(.int (Int32.ofNat jj_11))])) t_ → Steps _ _ _ _ t_ := fun t_ k_ => s14 t_ (by
      refine XS.iload X11.here hx rfl (dd hy dJ48_14_92) rfl ?_
      exact k_)
    obtain ⟨fs, hr, hrun, hended, hW, hsame⟩ := X11.leave (v := some (.int (Int32.ofNat jj_11))) (fun h => by rw [Bd.returns] at h; cases h)
    refine ⟨_, _, s15 _ ?_, hrun, hended, _, _, rfl, ?_, ⟨_, rfl⟩, hW, hsame.mono (by decide) (by decide)⟩
    · exact retI X11 hx Bd.returns (dd hy dJ48_14_94) hr
    · show Q_rmMis Z _ _ _ _ _ _ _ h0 n0 _ T11.heap _
      rw [e11]
      exact ⟨(Int32.ofNat jj_11), rfl, N11, rfl, ⟨fun q => absurd q (own_nn (by omega)), fun q => absurd q J11_0⟩⟩
theorem dJ42_75_0 : decode CJ42_75 0 = .ok (.iload_n 2, 1) := by decide +kernel
theorem dJ42_75_1 : decode CJ42_75 1 = .ok (.ifCond .lt 16, 3) := by decide +kernel
theorem dJ42_75_4 : decode CJ42_75 4 = .ok (.iload_n 2, 1) := by decide +kernel
theorem dJ42_75_5 : decode CJ42_75 5 = .ok (.aload_n 0, 1) := by decide +kernel
theorem pd___I : parseMethodDescriptor "()I" = some ⟨[], some .int⟩ := by decide +kernel
theorem dJ42_75_6 : decode CJ42_75 6 = .ok (.invokevirtual 505, 3) := by decide +kernel
theorem dJ42_75_9 : decode CJ42_75 9 = .ok (.aload_n 1, 1) := by decide +kernel
theorem dJ42_75_10 : decode CJ42_75 10 = .ok (.invokevirtual 505, 3) := by decide +kernel
theorem dJ42_75_13 : decode CJ42_75 13 = .ok (.isub, 1) := by decide +kernel
theorem dJ42_75_14 : decode CJ42_75 14 = .ok (.if_icmp .le 5, 3) := by decide +kernel
theorem dJ42_75_19 : decode CJ42_75 19 = .ok (.aload_n 0, 1) := by decide +kernel
theorem dJ42_75_20 : decode CJ42_75 20 = .ok (.getfield 9, 3) := by decide +kernel
theorem dJ42_75_23 : decode CJ42_75 23 = .ok (.astore_n 3, 1) := by decide +kernel
theorem dJ42_75_24 : decode CJ42_75 24 = .ok (.aload_n 1, 1) := by decide +kernel
theorem dJ42_75_25 : decode CJ42_75 25 = .ok (.getfield 9, 3) := by decide +kernel
theorem dJ42_75_28 : decode CJ42_75 28 = .ok (.astore 4, 2) := by decide +kernel
theorem dJ42_75_30 : decode CJ42_75 30 = .ok (.iconst 0, 1) := by decide +kernel
theorem dJ42_75_31 : decode CJ42_75 31 = .ok (.istore 5, 2) := by decide +kernel
theorem dJ42_75_33 : decode CJ42_75 33 = .ok (.aload 4, 2) := by decide +kernel
theorem dJ42_75_35 : decode CJ42_75 35 = .ok (.arraylength, 1) := by decide +kernel
theorem dJ42_75_36 : decode CJ42_75 36 = .ok (.istore 6, 2) := by decide +kernel
theorem dJ42_75_38 : decode CJ42_75 38 = .ok (.aload_n 0, 1) := by decide +kernel
theorem dJ42_75_39 : decode CJ42_75 39 = .ok (.invokevirtual 335, 3) := by decide +kernel
theorem dJ42_75_42 : decode CJ42_75 42 = .ok (.istore 7, 2) := by decide +kernel
theorem dJ42_75_44 : decode CJ42_75 44 = .ok (.iload 7, 2) := by decide +kernel
theorem dJ42_75_46 : decode CJ42_75 46 = .ok (.aload_n 1, 1) := by decide +kernel
theorem dJ42_75_47 : decode CJ42_75 47 = .ok (.invokevirtual 335, 3) := by decide +kernel
theorem dJ42_75_50 : decode CJ42_75 50 = .ok (.if_icmp .ne 32, 3) := by decide +kernel
theorem dJ42_75_53 : decode CJ42_75 53 = .ok (.iload 7, 2) := by decide +kernel
theorem dJ42_75_55 : decode CJ42_75 55 = .ok (.iconst 1, 1) := by decide +kernel
theorem dJ42_75_56 : decode CJ42_75 56 = .ok (.if_icmp .ne 7, 3) := by decide +kernel
theorem dJ42_75_63 : decode CJ42_75 63 = .ok (.aload_n 3, 1) := by decide +kernel
theorem dJ42_75_64 : decode CJ42_75 64 = .ok (.iload_n 2, 1) := by decide +kernel
theorem dJ42_75_65 : decode CJ42_75 65 = .ok (.aload 4, 2) := by decide +kernel
theorem dJ42_75_67 : decode CJ42_75 67 = .ok (.iconst 0, 1) := by decide +kernel
theorem dJ42_75_68 : decode CJ42_75 68 = .ok (.iload 6, 2) := by decide +kernel
theorem pd___BI_BII_I : parseMethodDescriptor "([BI[BII)I" = some ⟨[(.array .byte), .int, (.array .byte), .int, .int], some .int⟩ := by decide +kernel
theorem dJ42_75_70 : decode CJ42_75 70 = .ok (.invokestatic 607, 3) := by decide +kernel
theorem dJ42_75_73 : decode CJ42_75 73 = .ok (.ifCond .ge 7, 3) := by decide +kernel
theorem dJ42_75_76 : decode CJ42_75 76 = .ok (.iconst 1, 1) := by decide +kernel
theorem dJ42_75_77 : decode CJ42_75 77 = .ok (.goto 4, 3) := by decide +kernel
theorem dJ42_75_81 : decode CJ42_75 81 = .ok (.ireturn, 1) := by decide +kernel
theorem dJ42_75_80 : decode CJ42_75 80 = .ok (.iconst 0, 1) := by decide +kernel
theorem dJ42_75_82 : decode CJ42_75 82 = .ok (.iload 7, 2) := by decide +kernel
theorem dJ42_75_84 : decode CJ42_75 84 = .ok (.ifCond .ne 5, 3) := by decide +kernel
theorem dJ42_75_89 : decode CJ42_75 89 = .ok (.iload 5, 2) := by decide +kernel
theorem dJ42_75_91 : decode CJ42_75 91 = .ok (.iload 6, 2) := by decide +kernel
theorem dJ42_75_93 : decode CJ42_75 93 = .ok (.if_icmp .ge 28, 3) := by decide +kernel
theorem dJ42_75_96 : decode CJ42_75 96 = .ok (.aload_n 3, 1) := by decide +kernel
theorem dJ42_75_97 : decode CJ42_75 97 = .ok (.iload_n 2, 1) := by decide +kernel
theorem dJ42_75_98 : decode CJ42_75 98 = .ok (.iinc 2 1, 3) := by decide +kernel
theorem dJ42_75_101 : decode CJ42_75 101 = .ok (.invokestatic 360, 3) := by decide +kernel
theorem dJ42_75_104 : decode CJ42_75 104 = .ok (.aload 4, 2) := by decide +kernel
theorem dJ42_75_106 : decode CJ42_75 106 = .ok (.iload 5, 2) := by decide +kernel
theorem dJ42_75_108 : decode CJ42_75 108 = .ok (.iinc 5 1, 3) := by decide +kernel
theorem dJ42_75_111 : decode CJ42_75 111 = .ok (.baload, 1) := by decide +kernel
theorem dJ42_75_112 : decode CJ42_75 112 = .ok (.sipush 255, 3) := by decide +kernel
theorem dJ42_75_115 : decode CJ42_75 115 = .ok (.iand, 1) := by decide +kernel
theorem dJ42_75_116 : decode CJ42_75 116 = .ok (.if_icmp .eq (-27), 3) := by decide +kernel
theorem dJ42_75_121 : decode CJ42_75 121 = .ok (.iconst 1, 1) := by decide +kernel
theorem dJ42_75_122 : decode CJ42_75 122 = .ok (.ireturn, 1) := by decide +kernel
theorem dJ42_75_119 : decode CJ42_75 119 = .ok (.iconst 0, 1) := by decide +kernel
theorem dJ42_75_120 : decode CJ42_75 120 = .ok (.ireturn, 1) := by decide +kernel
theorem ef_rmSW (m : MethodId) (x0 : Addr) (x1 : Addr) (x2 : Int32) : entryFrame m #[(.ref x0), (.ref x1), (.int x2)] 8 = mkF m 0 #[.val (.ref x0), .val (.ref x1), .val (.int x2), .unset, .unset, .unset, .unset, .unset] [] := by first | (simp [entryFrame, mkF, argsToLocals, Value.category]; done) | rfl
abbrev R_rmSW : Room := ({ frames := 2, cells := 0, slots := 0, locals := 27 } : Room)
def Q_rmSW (Z : State) (a : Addr) (pa : Addr) (cst : Int32) (b : Addr) (kb : ClassId) (cs : List Int32) (pb : Addr) (kp : ClassId) (ps : List Int32) (o : Nat) (h0 : Heap) (n0 : Nat) (v : Option Value) (h : Heap) (L : List Loc) : Prop := (v = some (.int (if own_at ps cs o then (1 : Int32) else (0 : Int32)))) ∧ (Fr n0 L) ∧ (h = h0)
set_option maxRecDepth 65536 in
set_option maxHeartbeats 40000000 in
theorem rmSW (l : Launch) (Z : State) (a0 : Array Value) (hw : HW Z a0) (ws : List Jvm.Cond) (a : Addr) (pa : Addr) (cst : Int32) (b : Addr) (kb : ClassId) (cs : List Int32) (pb : Addr) (kp : ClassId) (ps : List Int32) (o : Nat) (h0 : Heap) (n0 : Nat) (Z0 : n0 ≤ h0.size) (I1 : Sta Z Z.heap cS cC "Z" (.int cst)) (I2 : Sta Z Z.heap cU cD "Z" (.int (1 : Int32))) (I3 : Sta Z Z.heap cU cH "I" (.int (0 : Int32))) (I4 : Sta Z Z.heap cU cL "I" (.int (8 : Int32))) (OX : Old Z n0 h0) (hcst : ¬ (cst = (0 : Int32))) (I5 : Exa Z h0 a cS) (I6 : Fld Z h0 a cS "value" "[B" (.ref b)) (I7 : Fld Z h0 a cS "coder" "B" (.int (own_cod cs))) (I8 : Arv Z h0 b kb .byte (Int32.ofNat (own_enl cs)) (own_enc cs) v0_) (I9 : Exa Z h0 pa cS) (I10 : Fld Z h0 pa cS "value" "[B" (.ref pb)) (I11 : Fld Z h0 pa cS "coder" "B" (.int (own_cod ps))) (I12 : Arv Z h0 pb kp .byte (Int32.ofNat (own_enl ps)) (own_enc ps) v0_) (hb : cs.length ≤ 15) (hchs : own_chs cs) (hlp : own_lat ps) (hcp : own_chs ps) (hp7 : ps.length ≤ 7) (hop : o + ps.length ≤ cs.length) :
    MF l Z M18_ (Jvm.Cond.code M18_ jdk_42_method_75_code 8 (some .boolean) :: ws) R_rmSW #[(.ref a), (.ref pa), (.int (Int32.ofNat o))] h0 (Q_rmSW Z a pa cst b kb cs pb kp ps o h0 n0) := by
  refine MetFree.of_bodySF (plainFor_of_name pn_java_lang_String) hisR ?_
  intro p e s m args below meth c s₁ Bd hml0 hP hK
  obtain ⟨rfl, hZ, hh⟩ := hP
  have hx := Bd.exec
  have hy := Bd.bytes
  have hml : c.maxLocals = 8 := hml0
  have hown : s.vm.findClass "java/lang/String" = some m.cls := findClass_of_methodNamed Bd.named
  have hnm := (name_of_methodNamed Bd.named Bd.method).1
  have X0 : Stand p l e R_rmSW s m #[(.ref a), (.ref pa), (.int (Int32.ofNat o))] below meth c s₁ [] 0 0 := Stand.of_body Bd
  have e0 : s₁.heap = h0 := by rw [← hh, Bd.state]; rfl
  have N0 := Fr.nil n0
  have pre0 := own_pre (p := p) (e := e) (below := below) (T := s₁) (ef_rmSW m a pa (Int32.ofNat o))
  have lt_I5 : @LT.lt Nat _ a h0.size := I5.lt
  have lt_I8 : @LT.lt Nat _ b h0.size := I8.lt
  have lt_I9 : @LT.lt Nat _ pa h0.size := I9.lt
  have lt_I12 : @LT.lt Nat _ pb h0.size := I12.lt
  by_cases h1 : own_lat cs
  · have s2 : ∀ t_, Steps p.tables e below (s₁.setTop (mkF m 0 #[.val (.ref a), .val (.ref pa), .val (.int (Int32.ofNat o)), .unset, .unset, .unset, .unset, .unset] [])) t_ → Steps p.tables e below (s₁.setTop (entryFrame m #[(.ref a), (.ref pa), (.int (Int32.ofNat o))] 8)) t_ := fun t_ k_ => pre0 t_ (castTop (by rfl) k_)
    have Zc3 : n0 ≤ h0.size := by omega
    obtain ⟨cq4, kq4, q4a, q4b, q4c⟩ := isOf hZ e0 I5
    obtain ⟨_, _, ⟨T4, L4, k4, n4⟩, -, X4, ⟨Lc4, hQ4, l4, y4, z4⟩, st4⟩ := X0.virtualBack hx (y := M11_) (z := M11_) hown (mvT hZ (own_m hw 41 rfl)) (mvT hZ (own_m hw 42 rfl)) (notFace_of_selects (args := #[]) (mvT hZ (own_m hw 44 rfl))) (mvT hZ (own_m hw 44 rfl)) (mvT hZ (own_m hw 43 rfl)) (by decide) (backOf (W := 1) (rmLen l Z a0 hw [] a cst b kb cs h0 n0 Zc3 I1 OX hcst I5 I6 I7 I8 (by omega)) hZ (own_m hw 45 rfl) (own_m hw 7 rfl) (by decide) (by decide)) q4a q4c (g := (mkF m 6 #[.val (.ref a), .val (.ref pa), .val (.int (Int32.ofNat o)), .unset, .unset, .unset, .unset, .unset] [(.ref a), (.int (Int32.ofNat o))])) rfl (by rw [hml]; rfl) (Steps.refl _) (argsL := []) (rest := [(.int (Int32.ofNat o))]) (lenOf pd___I rfl) rfl (by show 2 * 0 + _ ≤ _; exact Nat.le_of_eq rfl) (dd hy dJ42_75_6) (fun _ _ => ⟨rfl, e0, (by decide : 0 + 0 ≤ _), (by decide : 0 + 0 ≤ _)⟩)
    dsimp only [Pt.U, Pt.locs, Pt.cells, Pt.slots] at X4 l4 y4 z4 st4 hQ4
    subst l4 y4 z4
    obtain ⟨rfl, N4q, e4⟩ := hQ4
    have N4 := Fr.app N0 N4q
    have Zc5 : n0 ≤ h0.size := by omega
    obtain ⟨cq6, kq6, q6a, q6b, q6c⟩ := isOf hZ e4 I9
    obtain ⟨_, _, ⟨T6, L6, k6, n6⟩, -, X6, ⟨Lc6, hQ6, l6, y6, z6⟩, st6⟩ := X4.virtualBack hx (y := M11_) (z := M11_) hown (mvT hZ (own_m hw 41 rfl)) (mvT hZ (own_m hw 42 rfl)) (notFace_of_selects (args := #[]) (mvT hZ (own_m hw 44 rfl))) (mvT hZ (own_m hw 44 rfl)) (mvT hZ (own_m hw 43 rfl)) (by decide) (backOf (W := 2) (rmLen l Z a0 hw [] pa cst pb kp ps h0 n0 Zc5 I1 OX hcst I9 I10 I11 I12 (by omega)) hZ (own_m hw 45 rfl) (own_m hw 7 rfl) (by decide) (by decide)) q6a q6c (g := (mkF m 10 #[.val (.ref a), .val (.ref pa), .val (.int (Int32.ofNat o)), .unset, .unset, .unset, .unset, .unset] [(.ref pa), (.int (Int32.ofNat cs.length)), (.int (Int32.ofNat o))])) rfl (by rw [hml]; rfl) (Steps.refl _) (argsL := []) (rest := [(.int (Int32.ofNat cs.length)), (.int (Int32.ofNat o))]) (lenOf pd___I rfl) rfl (by show 2 * 0 + _ ≤ _; exact Nat.le_of_eq rfl) (dd hy dJ42_75_10) (fun _ _ => ⟨rfl, e4, (by decide : 0 + 0 ≤ _), (by decide : 0 + 0 ≤ _)⟩)
    dsimp only [Pt.U, Pt.locs, Pt.cells, Pt.slots] at X6 l6 y6 z6 st6 hQ6
    subst l6 y6 z6
    obtain ⟨rfl, N6q, e6⟩ := hQ6
    have N6 := Fr.app N4 N6q
    obtain ⟨T7, X7, e7, st7⟩ := getF X6 hx hZ hown (host := "") (Or.inl (own_m hw 24 rfl)) Via.refl e6 I6 (g := (mkF m 20 #[.val (.ref a), .val (.ref pa), .val (.int (Int32.ofNat o)), .unset, .unset, .unset, .unset, .unset] [(.ref a)])) rfl rfl (dd hy dJ42_75_20)
    obtain ⟨T8, X8, e8, st8⟩ := getF X7 hx hZ hown (host := "") (Or.inl (own_m hw 24 rfl)) Via.refl e7 I10 (g := (mkF m 25 #[.val (.ref a), .val (.ref pa), .val (.int (Int32.ofNat o)), .val (.ref b), .unset, .unset, .unset, .unset] [(.ref pa)])) rfl rfl (dd hy dJ42_75_25)
    have V9 : Arv Z h0 pb kp .byte (Int32.ofNat ps.length) (own_enc ps) v0_ := own_tolat hlp I12
    obtain ⟨cl10, Ar10, -, S10, M10, -, -⟩ := id V9
    have Zc11 : n0 ≤ h0.size := by omega
    obtain ⟨cq12, kq12, q12a, q12b, q12c⟩ := isOf hZ e8 I5
    obtain ⟨_, _, ⟨T12, L12, k12, n12⟩, -, X12, ⟨Lc12, hQ12, l12, y12, z12⟩, st12⟩ := X8.virtualBack hx (y := M10_) (z := M10_) hown (mvT hZ (own_m hw 46 rfl)) (mvT hZ (own_m hw 47 rfl)) (notFace_of_selects (args := #[]) (mvT hZ (own_m hw 49 rfl))) (mvT hZ (own_m hw 49 rfl)) (mvT hZ (own_m hw 48 rfl)) (by decide) (backOf (W := 0) (rmCdr l Z a0 hw [] a cst cs h0 n0 Zc11 I1 OX hcst I7) hZ (own_m hw 50 rfl) (own_m hw 7 rfl) (by decide) (by decide)) q12a q12c (g := (mkF m 39 #[.val (.ref a), .val (.ref pa), .val (.int (Int32.ofNat o)), .val (.ref b), .val (.ref pb), .val (.int (0 : Int32)), .val (.int (Int32.ofNat ps.length)), .unset] [(.ref a)])) rfl (by rw [hml]; rfl) (Steps.refl _) (argsL := []) (rest := []) (lenOf pd___B rfl) rfl (by show 2 * 0 + _ ≤ _; exact Nat.le_of_eq rfl) (dd hy dJ42_75_39) (fun _ _ => ⟨rfl, e8, (by decide : 0 + 0 ≤ _), (by decide : 0 + 0 ≤ _)⟩)
    dsimp only [Pt.U, Pt.locs, Pt.cells, Pt.slots] at X12 l12 y12 z12 st12 hQ12
    subst l12 y12 z12
    obtain ⟨rfl, N12q, e12⟩ := hQ12
    have N12 := Fr.app N6 N12q
    have Zc13 : n0 ≤ h0.size := by omega
    obtain ⟨cq14, kq14, q14a, q14b, q14c⟩ := isOf hZ e12 I9
    obtain ⟨_, _, ⟨T14, L14, k14, n14⟩, -, X14, ⟨Lc14, hQ14, l14, y14, z14⟩, st14⟩ := X12.virtualBack hx (y := M10_) (z := M10_) hown (mvT hZ (own_m hw 46 rfl)) (mvT hZ (own_m hw 47 rfl)) (notFace_of_selects (args := #[]) (mvT hZ (own_m hw 49 rfl))) (mvT hZ (own_m hw 49 rfl)) (mvT hZ (own_m hw 48 rfl)) (by decide) (backOf (W := 1) (rmCdr l Z a0 hw [] pa cst ps h0 n0 Zc13 I1 OX hcst I11) hZ (own_m hw 50 rfl) (own_m hw 7 rfl) (by decide) (by decide)) q14a q14c (g := (mkF m 47 #[.val (.ref a), .val (.ref pa), .val (.int (Int32.ofNat o)), .val (.ref b), .val (.ref pb), .val (.int (0 : Int32)), .val (.int (Int32.ofNat ps.length)), .val (.int (own_cod cs))] [(.ref pa), (.int (own_cod cs))])) rfl (by rw [hml]; rfl) (Steps.refl _) (argsL := []) (rest := [(.int (own_cod cs))]) (lenOf pd___B rfl) rfl (by show 2 * 0 + _ ≤ _; exact Nat.le_of_eq rfl) (dd hy dJ42_75_47) (fun _ _ => ⟨rfl, e12, (by decide : 0 + 0 ≤ _), (by decide : 0 + 0 ≤ _)⟩)
    dsimp only [Pt.U, Pt.locs, Pt.cells, Pt.slots] at X14 l14 y14 z14 st14 hQ14
    subst l14 y14 z14
    obtain ⟨rfl, N14q, e14⟩ := hQ14
    have N14 := Fr.app N12 N14q
    have V15 : Arv Z h0 b kb .byte (Int32.ofNat cs.length) (own_enc cs) v0_ := own_tolat h1 I8
    have Zc16 : n0 ≤ h0.size := by omega
    obtain ⟨_, _, ⟨T17, L17, k17, n17⟩, -, X17, ⟨Lc17, hQ17, l17, y17, z17⟩, st17⟩ := Jvm.LawKit.callS X14 hx (y := M17_) hown (mvT hZ (own_m hw 89 rfl)) (mvT hZ (own_m hw 90 rfl)) (mvT hZ (own_m hw 91 rfl)) (mvT hZ (own_m hw 92 rfl)) (by decide) (backOf (W := 0) (rmMis l Z a0 hw [] b pb kb cs kp ps o h0 n0 Zc16 V15 V9 h1 hb hchs hlp hcp hp7 hop) hZ (own_m hw 92 rfl) (own_m hw 91 rfl) (by decide) (by decide)) (g := (mkF m 70 #[.val (.ref a), .val (.ref pa), .val (.int (Int32.ofNat o)), .val (.ref b), .val (.ref pb), .val (.int (0 : Int32)), .val (.int (Int32.ofNat ps.length)), .val (.int (own_cod cs))] [(.int (Int32.ofNat ps.length)), (.int (0 : Int32)), (.ref pb), (.int (Int32.ofNat o)), (.ref b)])) rfl (by rw [hml]; rfl) (argsL := [(.ref b), (.int (Int32.ofNat o)), (.ref pb), (.int (0 : Int32)), (.int (Int32.ofNat ps.length))]) (rest := []) (lenOf pd___BI_BII_I rfl) rfl (by show 2 * 0 + _ ≤ _; exact Nat.le_of_eq rfl) (dd hy dJ42_75_70) (fun _ _ => ⟨rfl, e14, (by decide : 0 + 0 ≤ _), (by decide : 0 + 0 ≤ _)⟩)
    dsimp only [Pt.U, Pt.locs, Pt.cells, Pt.slots] at X17 l17 y17 z17 st17 hQ17
    subst l17 y17 z17
    obtain ⟨rv_17, rfl, N17q, e17, P17_0⟩ := hQ17
    have N17 := Fr.app N14 N17q
    have s18 : ∀ t_, Steps p.tables e below (T17.setTop (mkF m 73 #[.val (.ref a), .val (.ref pa), .val (.int (Int32.ofNat o)), .val (.ref b), .val (.ref pb), .val (.int (0 : Int32)), .val (.int (Int32.ofNat ps.length)), .val (.int (own_cod cs))] [(.int rv_17)])) t_ → Steps _ _ _ _ t_ := fun t_ k_ => s2 t_ (by
      refine XS.iloadN X0.here hx rfl (dd hy dJ42_75_0) rfl ?_
      refine XS.ifNo X0.here hx rfl (dd hy dJ42_75_1) rfl ((if0 _ _).trans (flt (own_nn (by omega))).1) ?_
      show Steps _ _ _ (s₁.setTop (mkF m 4 #[.val (.ref a), .val (.ref pa), .val (.int (Int32.ofNat o)), .unset, .unset, .unset, .unset, .unset] [])) _
      refine XS.iloadN X0.here hx rfl (dd hy dJ42_75_4) rfl ?_
      refine XS.aloadN X0.here hx rfl (dd hy dJ42_75_5) rfl rfl ?_
      refine st4.trans ?_
      show Steps _ _ _ (T4.setTop (mkF m 9 #[.val (.ref a), .val (.ref pa), .val (.int (Int32.ofNat o)), .unset, .unset, .unset, .unset, .unset] [(.int (Int32.ofNat cs.length)), (.int (Int32.ofNat o))])) _
      refine XS.aloadN X4.here hx rfl (dd hy dJ42_75_9) rfl rfl ?_
      refine st6.trans ?_
      show Steps _ _ _ (T6.setTop (mkF m 13 #[.val (.ref a), .val (.ref pa), .val (.int (Int32.ofNat o)), .unset, .unset, .unset, .unset, .unset] [(.int (Int32.ofNat ps.length)), (.int (Int32.ofNat cs.length)), (.int (Int32.ofNat o))])) _
      refine XS.isub X6.here hx rfl (dd hy dJ42_75_13) rfl ?_
      show Steps _ _ _ (T6.setTop (mkF m 14 #[.val (.ref a), .val (.ref pa), .val (.int (Int32.ofNat o)), .unset, .unset, .unset, .unset, .unset] [(.int ((Int32.ofNat cs.length) - (Int32.ofNat ps.length))), (.int (Int32.ofNat o))])) _
      refine castTop (g' := (mkF m 14 #[.val (.ref a), .val (.ref pa), .val (.int (Int32.ofNat o)), .unset, .unset, .unset, .unset, .unset] [(.int (Int32.ofNat (cs.length - ps.length))), (.int (Int32.ofNat o))])) (by rw [own_subn (by omega)]) ?_
      show Steps _ _ _ (T6.setTop (mkF m 14 #[.val (.ref a), .val (.ref pa), .val (.int (Int32.ofNat o)), .unset, .unset, .unset, .unset, .unset] [(.int (Int32.ofNat (cs.length - ps.length))), (.int (Int32.ofNat o))])) _
      refine XS.icmpYes X6.here hx rfl (pc0 := 14) (pc' := 19) rfl (dd hy dJ42_75_14) rfl (flt (own_nlt (by omega) (by omega))).2.2.2 (by decide) (by decide) ?_
      show Steps _ _ _ (T6.setTop (mkF m 19 #[.val (.ref a), .val (.ref pa), .val (.int (Int32.ofNat o)), .unset, .unset, .unset, .unset, .unset] [])) _
      refine XS.aloadN X6.here hx rfl (dd hy dJ42_75_19) rfl rfl ?_
      refine st7 _ ?_
      refine XS.astoreN X7.here hx rfl (dd hy dJ42_75_23) rfl rfl (l' := #[.val (.ref a), .val (.ref pa), .val (.int (Int32.ofNat o)), .val (.ref b), .unset, .unset, .unset, .unset]) rfl ?_
      refine XS.aloadN X7.here hx rfl (dd hy dJ42_75_24) rfl rfl ?_
      refine st8 _ ?_
      refine XS.astore X8.here hx rfl (dd hy dJ42_75_28) rfl rfl (l' := #[.val (.ref a), .val (.ref pa), .val (.int (Int32.ofNat o)), .val (.ref b), .val (.ref pb), .unset, .unset, .unset]) rfl ?_
      show Steps _ _ _ (T8.setTop (mkF m 30 #[.val (.ref a), .val (.ref pa), .val (.int (Int32.ofNat o)), .val (.ref b), .val (.ref pb), .unset, .unset, .unset] [])) _
      refine XS.iconst X8.here hx rfl (dd hy dJ42_75_30) ?_
      refine XS.istore X8.here hx rfl (dd hy dJ42_75_31) rfl (l' := #[.val (.ref a), .val (.ref pa), .val (.int (Int32.ofNat o)), .val (.ref b), .val (.ref pb), .val (.int (0 : Int32)), .unset, .unset]) rfl ?_
      refine XS.aload X8.here hx rfl (dd hy dJ42_75_33) rfl rfl ?_
      refine X8.arraylength hx (by rw [e8]; exact Ar10.1) (State.isArrayOf_alike hZ.alike Ar10.2.1) (g := (mkF m 35 #[.val (.ref a), .val (.ref pa), .val (.int (Int32.ofNat o)), .val (.ref b), .val (.ref pb), .val (.int (0 : Int32)), .unset, .unset] [(.ref pb)])) rfl rfl (dd hy dJ42_75_35) _ ?_
      rw [len_of S10 M10]
      show Steps _ _ _ (T8.setTop (mkF m 36 #[.val (.ref a), .val (.ref pa), .val (.int (Int32.ofNat o)), .val (.ref b), .val (.ref pb), .val (.int (0 : Int32)), .unset, .unset] [(.int (Int32.ofNat ps.length))])) _
      refine XS.istore X8.here hx rfl (dd hy dJ42_75_36) rfl (l' := #[.val (.ref a), .val (.ref pa), .val (.int (Int32.ofNat o)), .val (.ref b), .val (.ref pb), .val (.int (0 : Int32)), .val (.int (Int32.ofNat ps.length)), .unset]) rfl ?_
      refine XS.aloadN X8.here hx rfl (dd hy dJ42_75_38) rfl rfl ?_
      refine st12.trans ?_
      show Steps _ _ _ (T12.setTop (mkF m 42 #[.val (.ref a), .val (.ref pa), .val (.int (Int32.ofNat o)), .val (.ref b), .val (.ref pb), .val (.int (0 : Int32)), .val (.int (Int32.ofNat ps.length)), .unset] [(.int (own_cod cs))])) _
      refine XS.istore X12.here hx rfl (dd hy dJ42_75_42) rfl (l' := #[.val (.ref a), .val (.ref pa), .val (.int (Int32.ofNat o)), .val (.ref b), .val (.ref pb), .val (.int (0 : Int32)), .val (.int (Int32.ofNat ps.length)), .val (.int (own_cod cs))]) rfl ?_
      refine XS.iload X12.here hx rfl (dd hy dJ42_75_44) rfl ?_
      refine XS.aloadN X12.here hx rfl (dd hy dJ42_75_46) rfl rfl ?_
      refine st14.trans ?_
      show Steps _ _ _ (T14.setTop (mkF m 50 #[.val (.ref a), .val (.ref pa), .val (.int (Int32.ofNat o)), .val (.ref b), .val (.ref pb), .val (.int (0 : Int32)), .val (.int (Int32.ofNat ps.length)), .val (.int (own_cod cs))] [(.int (own_cod ps)), (.int (own_cod cs))])) _
      refine XS.icmpNo X14.here hx rfl (dd hy dJ42_75_50) rfl (teq ((own_cod0 h1).trans (own_cod0 hlp).symm)).2 ?_
      show Steps _ _ _ (T14.setTop (mkF m 53 #[.val (.ref a), .val (.ref pa), .val (.int (Int32.ofNat o)), .val (.ref b), .val (.ref pb), .val (.int (0 : Int32)), .val (.int (Int32.ofNat ps.length)), .val (.int (own_cod cs))] [])) _
      refine XS.iload X14.here hx rfl (dd hy dJ42_75_53) rfl ?_
      refine XS.iconst X14.here hx rfl (dd hy dJ42_75_55) ?_
      refine XS.icmpYes X14.here hx rfl (pc0 := 56) (pc' := 63) rfl (dd hy dJ42_75_56) rfl (feq (fun e => absurd ((own_cod0 h1).symm.trans e) (by decide))).2 (by decide) (by decide) ?_
      show Steps _ _ _ (T14.setTop (mkF m 63 #[.val (.ref a), .val (.ref pa), .val (.int (Int32.ofNat o)), .val (.ref b), .val (.ref pb), .val (.int (0 : Int32)), .val (.int (Int32.ofNat ps.length)), .val (.int (own_cod cs))] [])) _
      refine XS.aloadN X14.here hx rfl (dd hy dJ42_75_63) rfl rfl ?_
      refine XS.iloadN X14.here hx rfl (dd hy dJ42_75_64) rfl ?_
      refine XS.aload X14.here hx rfl (dd hy dJ42_75_65) rfl rfl ?_
      refine XS.iconst X14.here hx rfl (dd hy dJ42_75_67) ?_
      refine XS.iload X14.here hx rfl (dd hy dJ42_75_68) rfl ?_
      refine st17 _ ?_
      show Steps _ _ _ (T17.setTop (mkF m 73 #[.val (.ref a), .val (.ref pa), .val (.int (Int32.ofNat o)), .val (.ref b), .val (.ref pb), .val (.int (0 : Int32)), .val (.int (Int32.ofNat ps.length)), .val (.int (own_cod cs))] [(.int rv_17)])) _
      exact k_)
    by_cases h19 : rv_17 < (0 : Int32)
    · have s20 : ∀ t_, Steps p.tables e below (T17.setTop (mkF m 81 #[.val (.ref a), .val (.ref pa), .val (.int (Int32.ofNat o)), .val (.ref b), .val (.ref pb), .val (.int (0 : Int32)), .val (.int (Int32.ofNat ps.length)), .val (.int (own_cod cs))] [(.int (1 : Int32))])) t_ → Steps _ _ _ _ t_ := fun t_ k_ => s18 t_ (by
        refine XS.ifNo X17.here hx rfl (dd hy dJ42_75_73) rfl ((if0 _ _).trans (tlt h19).2.1) ?_
        show Steps _ _ _ (T17.setTop (mkF m 76 #[.val (.ref a), .val (.ref pa), .val (.int (Int32.ofNat o)), .val (.ref b), .val (.ref pb), .val (.int (0 : Int32)), .val (.int (Int32.ofNat ps.length)), .val (.int (own_cod cs))] [])) _
        refine XS.iconst X17.here hx rfl (dd hy dJ42_75_76) ?_
        refine XS.goto X17.here hx rfl (pc0 := 77) (pc' := 81) rfl (dd hy dJ42_75_77) (by decide) (by decide) ?_
        exact k_)
      obtain ⟨fs, hr, hrun, hended, hW, hsame⟩ := X17.leave (v := some (.int (1 : Int32))) (fun h => by rw [Bd.returns] at h; cases h)
      refine ⟨_, _, s20 _ ?_, hrun, hended, _, _, rfl, ?_, ⟨_, rfl⟩, hW, hsame.mono (by decide) (by decide)⟩
      · exact retN X17 hx (t := .boolean) Bd.returns (by simp) (dd hy dJ42_75_81) hr
      · show Q_rmSW Z _ _ _ _ _ _ _ _ _ _ h0 n0 _ T17.heap _
        rw [e17]
        exact ⟨(by rw [if_pos ⟨hop, P17_0.mp h19⟩]), N17, rfl⟩
    · have s21 : ∀ t_, Steps p.tables e below (T17.setTop (mkF m 81 #[.val (.ref a), .val (.ref pa), .val (.int (Int32.ofNat o)), .val (.ref b), .val (.ref pb), .val (.int (0 : Int32)), .val (.int (Int32.ofNat ps.length)), .val (.int (own_cod cs))] [(.int (0 : Int32))])) t_ → Steps _ _ _ _ t_ := fun t_ k_ => s18 t_ (by
        refine XS.ifYes X17.here hx rfl (pc0 := 73) (pc' := 80) rfl (dd hy dJ42_75_73) rfl ((if0 _ _).trans (flt h19).2.1) (by decide) (by decide) ?_
        show Steps _ _ _ (T17.setTop (mkF m 80 #[.val (.ref a), .val (.ref pa), .val (.int (Int32.ofNat o)), .val (.ref b), .val (.ref pb), .val (.int (0 : Int32)), .val (.int (Int32.ofNat ps.length)), .val (.int (own_cod cs))] [])) _
        refine XS.iconst X17.here hx rfl (dd hy dJ42_75_80) ?_
        exact k_)
      obtain ⟨fs, hr, hrun, hended, hW, hsame⟩ := X17.leave (v := some (.int (0 : Int32))) (fun h => by rw [Bd.returns] at h; cases h)
      refine ⟨_, _, s21 _ ?_, hrun, hended, _, _, rfl, ?_, ⟨_, rfl⟩, hW, hsame.mono (by decide) (by decide)⟩
      · exact retN X17 hx (t := .boolean) Bd.returns (by simp) (dd hy dJ42_75_81) hr
      · show Q_rmSW Z _ _ _ _ _ _ _ _ _ _ h0 n0 _ T17.heap _
        rw [e17]
        exact ⟨(by rw [if_neg (fun q => h19 (P17_0.mpr q.2))]), N17, rfl⟩
  · have s22 : ∀ t_, Steps p.tables e below (s₁.setTop (mkF m 0 #[.val (.ref a), .val (.ref pa), .val (.int (Int32.ofNat o)), .unset, .unset, .unset, .unset, .unset] [])) t_ → Steps p.tables e below (s₁.setTop (entryFrame m #[(.ref a), (.ref pa), (.int (Int32.ofNat o))] 8)) t_ := fun t_ k_ => pre0 t_ (castTop (by rfl) k_)
    have Zc23 : n0 ≤ h0.size := by omega
    obtain ⟨cq24, kq24, q24a, q24b, q24c⟩ := isOf hZ e0 I5
    obtain ⟨_, _, ⟨T24, L24, k24, n24⟩, -, X24, ⟨Lc24, hQ24, l24, y24, z24⟩, st24⟩ := X0.virtualBack hx (y := M11_) (z := M11_) hown (mvT hZ (own_m hw 41 rfl)) (mvT hZ (own_m hw 42 rfl)) (notFace_of_selects (args := #[]) (mvT hZ (own_m hw 44 rfl))) (mvT hZ (own_m hw 44 rfl)) (mvT hZ (own_m hw 43 rfl)) (by decide) (backOf (W := 1) (rmLen l Z a0 hw [] a cst b kb cs h0 n0 Zc23 I1 OX hcst I5 I6 I7 I8 (by omega)) hZ (own_m hw 45 rfl) (own_m hw 7 rfl) (by decide) (by decide)) q24a q24c (g := (mkF m 6 #[.val (.ref a), .val (.ref pa), .val (.int (Int32.ofNat o)), .unset, .unset, .unset, .unset, .unset] [(.ref a), (.int (Int32.ofNat o))])) rfl (by rw [hml]; rfl) (Steps.refl _) (argsL := []) (rest := [(.int (Int32.ofNat o))]) (lenOf pd___I rfl) rfl (by show 2 * 0 + _ ≤ _; exact Nat.le_of_eq rfl) (dd hy dJ42_75_6) (fun _ _ => ⟨rfl, e0, (by decide : 0 + 0 ≤ _), (by decide : 0 + 0 ≤ _)⟩)
    dsimp only [Pt.U, Pt.locs, Pt.cells, Pt.slots] at X24 l24 y24 z24 st24 hQ24
    subst l24 y24 z24
    obtain ⟨rfl, N24q, e24⟩ := hQ24
    have N24 := Fr.app N0 N24q
    have Zc25 : n0 ≤ h0.size := by omega
    obtain ⟨cq26, kq26, q26a, q26b, q26c⟩ := isOf hZ e24 I9
    obtain ⟨_, _, ⟨T26, L26, k26, n26⟩, -, X26, ⟨Lc26, hQ26, l26, y26, z26⟩, st26⟩ := X24.virtualBack hx (y := M11_) (z := M11_) hown (mvT hZ (own_m hw 41 rfl)) (mvT hZ (own_m hw 42 rfl)) (notFace_of_selects (args := #[]) (mvT hZ (own_m hw 44 rfl))) (mvT hZ (own_m hw 44 rfl)) (mvT hZ (own_m hw 43 rfl)) (by decide) (backOf (W := 2) (rmLen l Z a0 hw [] pa cst pb kp ps h0 n0 Zc25 I1 OX hcst I9 I10 I11 I12 (by omega)) hZ (own_m hw 45 rfl) (own_m hw 7 rfl) (by decide) (by decide)) q26a q26c (g := (mkF m 10 #[.val (.ref a), .val (.ref pa), .val (.int (Int32.ofNat o)), .unset, .unset, .unset, .unset, .unset] [(.ref pa), (.int (Int32.ofNat cs.length)), (.int (Int32.ofNat o))])) rfl (by rw [hml]; rfl) (Steps.refl _) (argsL := []) (rest := [(.int (Int32.ofNat cs.length)), (.int (Int32.ofNat o))]) (lenOf pd___I rfl) rfl (by show 2 * 0 + _ ≤ _; exact Nat.le_of_eq rfl) (dd hy dJ42_75_10) (fun _ _ => ⟨rfl, e24, (by decide : 0 + 0 ≤ _), (by decide : 0 + 0 ≤ _)⟩)
    dsimp only [Pt.U, Pt.locs, Pt.cells, Pt.slots] at X26 l26 y26 z26 st26 hQ26
    subst l26 y26 z26
    obtain ⟨rfl, N26q, e26⟩ := hQ26
    have N26 := Fr.app N24 N26q
    obtain ⟨T27, X27, e27, st27⟩ := getF X26 hx hZ hown (host := "") (Or.inl (own_m hw 24 rfl)) Via.refl e26 I6 (g := (mkF m 20 #[.val (.ref a), .val (.ref pa), .val (.int (Int32.ofNat o)), .unset, .unset, .unset, .unset, .unset] [(.ref a)])) rfl rfl (dd hy dJ42_75_20)
    obtain ⟨T28, X28, e28, st28⟩ := getF X27 hx hZ hown (host := "") (Or.inl (own_m hw 24 rfl)) Via.refl e27 I10 (g := (mkF m 25 #[.val (.ref a), .val (.ref pa), .val (.int (Int32.ofNat o)), .val (.ref b), .unset, .unset, .unset, .unset] [(.ref pa)])) rfl rfl (dd hy dJ42_75_25)
    have V29 : Arv Z h0 pb kp .byte (Int32.ofNat ps.length) (own_enc ps) v0_ := own_tolat hlp I12
    obtain ⟨cl30, Ar30, -, S30, M30, -, -⟩ := id V29
    have Zc31 : n0 ≤ h0.size := by omega
    obtain ⟨cq32, kq32, q32a, q32b, q32c⟩ := isOf hZ e28 I5
    obtain ⟨_, _, ⟨T32, L32, k32, n32⟩, -, X32, ⟨Lc32, hQ32, l32, y32, z32⟩, st32⟩ := X28.virtualBack hx (y := M10_) (z := M10_) hown (mvT hZ (own_m hw 46 rfl)) (mvT hZ (own_m hw 47 rfl)) (notFace_of_selects (args := #[]) (mvT hZ (own_m hw 49 rfl))) (mvT hZ (own_m hw 49 rfl)) (mvT hZ (own_m hw 48 rfl)) (by decide) (backOf (W := 0) (rmCdr l Z a0 hw [] a cst cs h0 n0 Zc31 I1 OX hcst I7) hZ (own_m hw 50 rfl) (own_m hw 7 rfl) (by decide) (by decide)) q32a q32c (g := (mkF m 39 #[.val (.ref a), .val (.ref pa), .val (.int (Int32.ofNat o)), .val (.ref b), .val (.ref pb), .val (.int (0 : Int32)), .val (.int (Int32.ofNat ps.length)), .unset] [(.ref a)])) rfl (by rw [hml]; rfl) (Steps.refl _) (argsL := []) (rest := []) (lenOf pd___B rfl) rfl (by show 2 * 0 + _ ≤ _; exact Nat.le_of_eq rfl) (dd hy dJ42_75_39) (fun _ _ => ⟨rfl, e28, (by decide : 0 + 0 ≤ _), (by decide : 0 + 0 ≤ _)⟩)
    dsimp only [Pt.U, Pt.locs, Pt.cells, Pt.slots] at X32 l32 y32 z32 st32 hQ32
    subst l32 y32 z32
    obtain ⟨rfl, N32q, e32⟩ := hQ32
    have N32 := Fr.app N26 N32q
    have Zc33 : n0 ≤ h0.size := by omega
    obtain ⟨cq34, kq34, q34a, q34b, q34c⟩ := isOf hZ e32 I9
    obtain ⟨_, _, ⟨T34, L34, k34, n34⟩, -, X34, ⟨Lc34, hQ34, l34, y34, z34⟩, st34⟩ := X32.virtualBack hx (y := M10_) (z := M10_) hown (mvT hZ (own_m hw 46 rfl)) (mvT hZ (own_m hw 47 rfl)) (notFace_of_selects (args := #[]) (mvT hZ (own_m hw 49 rfl))) (mvT hZ (own_m hw 49 rfl)) (mvT hZ (own_m hw 48 rfl)) (by decide) (backOf (W := 1) (rmCdr l Z a0 hw [] pa cst ps h0 n0 Zc33 I1 OX hcst I11) hZ (own_m hw 50 rfl) (own_m hw 7 rfl) (by decide) (by decide)) q34a q34c (g := (mkF m 47 #[.val (.ref a), .val (.ref pa), .val (.int (Int32.ofNat o)), .val (.ref b), .val (.ref pb), .val (.int (0 : Int32)), .val (.int (Int32.ofNat ps.length)), .val (.int (own_cod cs))] [(.ref pa), (.int (own_cod cs))])) rfl (by rw [hml]; rfl) (Steps.refl _) (argsL := []) (rest := [(.int (own_cod cs))]) (lenOf pd___B rfl) rfl (by show 2 * 0 + _ ≤ _; exact Nat.le_of_eq rfl) (dd hy dJ42_75_47) (fun _ _ => ⟨rfl, e32, (by decide : 0 + 0 ≤ _), (by decide : 0 + 0 ≤ _)⟩)
    dsimp only [Pt.U, Pt.locs, Pt.cells, Pt.slots] at X34 l34 y34 z34 st34 hQ34
    subst l34 y34 z34
    obtain ⟨rfl, N34q, e34⟩ := hQ34
    have N34 := Fr.app N32 N34q
    have V35 : Arv Z h0 b kb .byte (Int32.ofNat (2 * cs.length)) (own_wide cs) v0_ := own_towide h1 I8
    have s36 : ∀ t_, Steps p.tables e below (T34.setTop (mkF m 89 #[.val (.ref a), .val (.ref pa), .val (.int (Int32.ofNat o)), .val (.ref b), .val (.ref pb), .val (.int (0 : Int32)), .val (.int (Int32.ofNat ps.length)), .val (.int (own_cod cs))] [])) t_ → Steps _ _ _ _ t_ := fun t_ k_ => s22 t_ (by
      refine XS.iloadN X0.here hx rfl (dd hy dJ42_75_0) rfl ?_
      refine XS.ifNo X0.here hx rfl (dd hy dJ42_75_1) rfl ((if0 _ _).trans (flt (own_nn (by omega))).1) ?_
      show Steps _ _ _ (s₁.setTop (mkF m 4 #[.val (.ref a), .val (.ref pa), .val (.int (Int32.ofNat o)), .unset, .unset, .unset, .unset, .unset] [])) _
      refine XS.iloadN X0.here hx rfl (dd hy dJ42_75_4) rfl ?_
      refine XS.aloadN X0.here hx rfl (dd hy dJ42_75_5) rfl rfl ?_
      refine st24.trans ?_
      show Steps _ _ _ (T24.setTop (mkF m 9 #[.val (.ref a), .val (.ref pa), .val (.int (Int32.ofNat o)), .unset, .unset, .unset, .unset, .unset] [(.int (Int32.ofNat cs.length)), (.int (Int32.ofNat o))])) _
      refine XS.aloadN X24.here hx rfl (dd hy dJ42_75_9) rfl rfl ?_
      refine st26.trans ?_
      show Steps _ _ _ (T26.setTop (mkF m 13 #[.val (.ref a), .val (.ref pa), .val (.int (Int32.ofNat o)), .unset, .unset, .unset, .unset, .unset] [(.int (Int32.ofNat ps.length)), (.int (Int32.ofNat cs.length)), (.int (Int32.ofNat o))])) _
      refine XS.isub X26.here hx rfl (dd hy dJ42_75_13) rfl ?_
      show Steps _ _ _ (T26.setTop (mkF m 14 #[.val (.ref a), .val (.ref pa), .val (.int (Int32.ofNat o)), .unset, .unset, .unset, .unset, .unset] [(.int ((Int32.ofNat cs.length) - (Int32.ofNat ps.length))), (.int (Int32.ofNat o))])) _
      refine castTop (g' := (mkF m 14 #[.val (.ref a), .val (.ref pa), .val (.int (Int32.ofNat o)), .unset, .unset, .unset, .unset, .unset] [(.int (Int32.ofNat (cs.length - ps.length))), (.int (Int32.ofNat o))])) (by rw [own_subn (by omega)]) ?_
      show Steps _ _ _ (T26.setTop (mkF m 14 #[.val (.ref a), .val (.ref pa), .val (.int (Int32.ofNat o)), .unset, .unset, .unset, .unset, .unset] [(.int (Int32.ofNat (cs.length - ps.length))), (.int (Int32.ofNat o))])) _
      refine XS.icmpYes X26.here hx rfl (pc0 := 14) (pc' := 19) rfl (dd hy dJ42_75_14) rfl (flt (own_nlt (by omega) (by omega))).2.2.2 (by decide) (by decide) ?_
      show Steps _ _ _ (T26.setTop (mkF m 19 #[.val (.ref a), .val (.ref pa), .val (.int (Int32.ofNat o)), .unset, .unset, .unset, .unset, .unset] [])) _
      refine XS.aloadN X26.here hx rfl (dd hy dJ42_75_19) rfl rfl ?_
      refine st27 _ ?_
      refine XS.astoreN X27.here hx rfl (dd hy dJ42_75_23) rfl rfl (l' := #[.val (.ref a), .val (.ref pa), .val (.int (Int32.ofNat o)), .val (.ref b), .unset, .unset, .unset, .unset]) rfl ?_
      refine XS.aloadN X27.here hx rfl (dd hy dJ42_75_24) rfl rfl ?_
      refine st28 _ ?_
      refine XS.astore X28.here hx rfl (dd hy dJ42_75_28) rfl rfl (l' := #[.val (.ref a), .val (.ref pa), .val (.int (Int32.ofNat o)), .val (.ref b), .val (.ref pb), .unset, .unset, .unset]) rfl ?_
      show Steps _ _ _ (T28.setTop (mkF m 30 #[.val (.ref a), .val (.ref pa), .val (.int (Int32.ofNat o)), .val (.ref b), .val (.ref pb), .unset, .unset, .unset] [])) _
      refine XS.iconst X28.here hx rfl (dd hy dJ42_75_30) ?_
      refine XS.istore X28.here hx rfl (dd hy dJ42_75_31) rfl (l' := #[.val (.ref a), .val (.ref pa), .val (.int (Int32.ofNat o)), .val (.ref b), .val (.ref pb), .val (.int (0 : Int32)), .unset, .unset]) rfl ?_
      refine XS.aload X28.here hx rfl (dd hy dJ42_75_33) rfl rfl ?_
      refine X28.arraylength hx (by rw [e28]; exact Ar30.1) (State.isArrayOf_alike hZ.alike Ar30.2.1) (g := (mkF m 35 #[.val (.ref a), .val (.ref pa), .val (.int (Int32.ofNat o)), .val (.ref b), .val (.ref pb), .val (.int (0 : Int32)), .unset, .unset] [(.ref pb)])) rfl rfl (dd hy dJ42_75_35) _ ?_
      rw [len_of S30 M30]
      show Steps _ _ _ (T28.setTop (mkF m 36 #[.val (.ref a), .val (.ref pa), .val (.int (Int32.ofNat o)), .val (.ref b), .val (.ref pb), .val (.int (0 : Int32)), .unset, .unset] [(.int (Int32.ofNat ps.length))])) _
      refine XS.istore X28.here hx rfl (dd hy dJ42_75_36) rfl (l' := #[.val (.ref a), .val (.ref pa), .val (.int (Int32.ofNat o)), .val (.ref b), .val (.ref pb), .val (.int (0 : Int32)), .val (.int (Int32.ofNat ps.length)), .unset]) rfl ?_
      refine XS.aloadN X28.here hx rfl (dd hy dJ42_75_38) rfl rfl ?_
      refine st32.trans ?_
      show Steps _ _ _ (T32.setTop (mkF m 42 #[.val (.ref a), .val (.ref pa), .val (.int (Int32.ofNat o)), .val (.ref b), .val (.ref pb), .val (.int (0 : Int32)), .val (.int (Int32.ofNat ps.length)), .unset] [(.int (own_cod cs))])) _
      refine XS.istore X32.here hx rfl (dd hy dJ42_75_42) rfl (l' := #[.val (.ref a), .val (.ref pa), .val (.int (Int32.ofNat o)), .val (.ref b), .val (.ref pb), .val (.int (0 : Int32)), .val (.int (Int32.ofNat ps.length)), .val (.int (own_cod cs))]) rfl ?_
      refine XS.iload X32.here hx rfl (dd hy dJ42_75_44) rfl ?_
      refine XS.aloadN X32.here hx rfl (dd hy dJ42_75_46) rfl rfl ?_
      refine st34.trans ?_
      show Steps _ _ _ (T34.setTop (mkF m 50 #[.val (.ref a), .val (.ref pa), .val (.int (Int32.ofNat o)), .val (.ref b), .val (.ref pb), .val (.int (0 : Int32)), .val (.int (Int32.ofNat ps.length)), .val (.int (own_cod cs))] [(.int (own_cod ps)), (.int (own_cod cs))])) _
      refine XS.icmpYes X34.here hx rfl (pc0 := 50) (pc' := 82) rfl (dd hy dJ42_75_50) rfl (feq (fun e => own_cod1 h1 (e.trans (own_cod0 hlp)))).2 (by decide) (by decide) ?_
      show Steps _ _ _ (T34.setTop (mkF m 82 #[.val (.ref a), .val (.ref pa), .val (.int (Int32.ofNat o)), .val (.ref b), .val (.ref pb), .val (.int (0 : Int32)), .val (.int (Int32.ofNat ps.length)), .val (.int (own_cod cs))] [])) _
      refine XS.iload X34.here hx rfl (dd hy dJ42_75_82) rfl ?_
      refine XS.ifYes X34.here hx rfl (pc0 := 84) (pc' := 89) rfl (dd hy dJ42_75_84) rfl ((if0 _ _).trans (feq (own_cod1 h1)).2) (by decide) (by decide) ?_
      show Steps _ _ _ (T34.setTop (mkF m 89 #[.val (.ref a), .val (.ref pa), .val (.int (Int32.ofNat o)), .val (.ref b), .val (.ref pb), .val (.int (0 : Int32)), .val (.int (Int32.ofNat ps.length)), .val (.int (own_cod cs))] [])) _
      exact k_)
    have lp37 : ∀ (k_ : Nat) (j : Nat) (T_ : State) (lo_ : List Loc), j + k_ = ps.length → Stand p l e R_rmSW s m #[(.ref a), (.ref pa), (.int (Int32.ofNat o))] below meth c T_ lo_ 0 0 → T_.heap = h0 → Fr n0 lo_ → (∀ i, i < j → cs.getD (o + i) 0 = ps.getD i 0) → ∃ (T' : State) (lo' : List Loc) (fe_ : JFrame), Stand p l e R_rmSW s m #[(.ref a), (.ref pa), (.int (Int32.ofNat o))] below meth c T' lo' 0 0 ∧ T'.heap = h0 ∧ Fr n0 lo' ∧ ((fe_ = (mkF m 121 #[.val (.ref a), .val (.ref pa), .val (.int (Int32.ofNat (o + ps.length))), .val (.ref b), .val (.ref pb), .val (.int (Int32.ofNat ps.length)), .val (.int (Int32.ofNat ps.length)), .val (.int (own_cod cs))] []) ∧ (∀ i, i < ps.length → cs.getD (o + i) 0 = ps.getD i 0)) ∨ (∃ (jj : Nat), fe_ = (mkF m 119 #[.val (.ref a), .val (.ref pa), .val (.int ((Int32.ofNat (o + jj)) + (1 : Int32))), .val (.ref b), .val (.ref pb), .val (.int ((Int32.ofNat jj) + (1 : Int32))), .val (.int (Int32.ofNat ps.length)), .val (.int (own_cod cs))] []) ∧ (¬ (∀ i, i < ps.length → cs.getD (o + i) 0 = ps.getD i 0)))) ∧ ∀ t_, Steps p.tables e below (T'.setTop fe_) t_ → Steps p.tables e below (T_.setTop (mkF m 89 #[.val (.ref a), .val (.ref pa), .val (.int (Int32.ofNat (o + j))), .val (.ref b), .val (.ref pb), .val (.int (Int32.ofNat j)), .val (.int (Int32.ofNat ps.length)), .val (.int (own_cod cs))] [])) t_ := by
      intro k_
      induction k_ with
      | zero => 
        intro j T_ lo_ hm_ X_ e_ N_ hp
        have s38 : ∀ t_, Steps p.tables e below (T_.setTop (mkF m 121 #[.val (.ref a), .val (.ref pa), .val (.int (Int32.ofNat (o + j))), .val (.ref b), .val (.ref pb), .val (.int (Int32.ofNat j)), .val (.int (Int32.ofNat ps.length)), .val (.int (own_cod cs))] [])) t_ → Steps p.tables e below (T_.setTop (mkF m 89 #[.val (.ref a), .val (.ref pa), .val (.int (Int32.ofNat (o + j))), .val (.ref b), .val (.ref pb), .val (.int (Int32.ofNat j)), .val (.int (Int32.ofNat ps.length)), .val (.int (own_cod cs))] [])) t_ := fun t_ k_ => (fun _ k_ => k_) t_ (by
          refine XS.iload X_.here hx rfl (dd hy dJ42_75_89) rfl ?_
          refine XS.iload X_.here hx rfl (dd hy dJ42_75_91) rfl ?_
          refine XS.icmpYes X_.here hx rfl (pc0 := 93) (pc' := 121) rfl (dd hy dJ42_75_93) rfl (flt (own_nlt (by omega) (by omega))).2.1 (by decide) (by decide) ?_
          show Steps _ _ _ (T_.setTop (mkF m 121 #[.val (.ref a), .val (.ref pa), .val (.int (Int32.ofNat (o + j))), .val (.ref b), .val (.ref pb), .val (.int (Int32.ofNat j)), .val (.int (Int32.ofNat ps.length)), .val (.int (own_cod cs))] [])) _
          exact k_)
        exact ⟨T_, _, _, X_, e_, N_, (Or.inl ⟨(by rw [show j = ps.length by omega]), (fun i hi => hp i (by omega))⟩), s38⟩
      | succ k_ ih => 
        intro j T_ lo_ hm_ X_ e_ N_ hp
        have Zc39 : n0 ≤ h0.size := by omega
        obtain ⟨_, _, ⟨T40, L40, k40, n40⟩, -, X40, ⟨Lc40, hQ40, l40, y40, z40⟩, st40⟩ := Jvm.LawKit.callS X_ hx (y := M5_) hown (mvT hZ (own_m hw 120 rfl)) (mvT hZ (own_m hw 118 rfl)) (mvT hZ (own_m hw 58 rfl)) (mvT hZ (own_m hw 119 rfl)) (by decide) (backOf (W := 0) (rmGet l Z a0 hw [] b kb (own_wide cs) cs.length (o + j) (cs.getD (o + j) 0) h0 n0 Zc39 I2 I3 I4 OX V35 hb (by omega) (own_wide0 _ cs (o + j) (by omega)) (own_wide1 _ cs (o + j) (by omega)) (hchs _ (own_mem cs (o + j) (by omega))).1 (hchs _ (own_mem cs (o + j) (by omega))).2) hZ (own_m hw 119 rfl) (own_m hw 58 rfl) (by decide) (by decide)) (g := (mkF m 101 #[.val (.ref a), .val (.ref pa), .val (.int ((Int32.ofNat (o + j)) + (1 : Int32))), .val (.ref b), .val (.ref pb), .val (.int (Int32.ofNat j)), .val (.int (Int32.ofNat ps.length)), .val (.int (own_cod cs))] [(.int (Int32.ofNat (o + j))), (.ref b)])) rfl (by rw [hml]; rfl) (argsL := [(.ref b), (.int (Int32.ofNat (o + j)))]) (rest := []) (lenOf pd___BI_C rfl) rfl (by show 2 * 0 + _ ≤ _; exact Nat.le_of_eq rfl) (dd hy dJ42_75_101) (fun _ _ => ⟨rfl, e_, (by decide : 0 + 0 ≤ _), (by decide : 0 + 0 ≤ _)⟩)
        dsimp only [Pt.U, Pt.locs, Pt.cells, Pt.slots] at X40 l40 y40 z40 st40 hQ40
        subst l40 y40 z40
        obtain ⟨rfl, N40q, e40⟩ := hQ40
        have N40 := Fr.app N_ N40q
        obtain ⟨cl41, Ar41, -, S41, M41, H41, -⟩ := id V29
        have hin41 : ¬ ((Int32.ofNat j) < 0 ∨ cl41.slots.size ≤ ((Int32.ofNat j)).toNatClampNeg) := inb_of S41 (own_in (by omega) (by omega))
        have hat41 : cl41.slots[((Int32.ofNat j)).toNatClampNeg]? = some (.int (own_lo (ps.getD j 0))) := H41.at hin41 (own_geth ps j _ hlp (by omega) (by omega))
        have s42 : ∀ t_, Steps p.tables e below (T40.setTop (mkF m 116 #[.val (.ref a), .val (.ref pa), .val (.int ((Int32.ofNat (o + j)) + (1 : Int32))), .val (.ref b), .val (.ref pb), .val (.int ((Int32.ofNat j) + (1 : Int32))), .val (.int (Int32.ofNat ps.length)), .val (.int (own_cod cs))] [(.int (ps.getD j 0)), (.int (cs.getD (o + j) 0))])) t_ → Steps p.tables e below (T_.setTop (mkF m 89 #[.val (.ref a), .val (.ref pa), .val (.int (Int32.ofNat (o + j))), .val (.ref b), .val (.ref pb), .val (.int (Int32.ofNat j)), .val (.int (Int32.ofNat ps.length)), .val (.int (own_cod cs))] [])) t_ := fun t_ k_ => (fun _ k_ => k_) t_ (by
          refine XS.iload X_.here hx rfl (dd hy dJ42_75_89) rfl ?_
          refine XS.iload X_.here hx rfl (dd hy dJ42_75_91) rfl ?_
          refine XS.icmpNo X_.here hx rfl (dd hy dJ42_75_93) rfl (tlt (own_lt (by omega) (by omega))).2.1 ?_
          show Steps _ _ _ (T_.setTop (mkF m 96 #[.val (.ref a), .val (.ref pa), .val (.int (Int32.ofNat (o + j))), .val (.ref b), .val (.ref pb), .val (.int (Int32.ofNat j)), .val (.int (Int32.ofNat ps.length)), .val (.int (own_cod cs))] [])) _
          refine XS.aloadN X_.here hx rfl (dd hy dJ42_75_96) rfl rfl ?_
          refine XS.iloadN X_.here hx rfl (dd hy dJ42_75_97) rfl ?_
          refine XS.iinc X_.here hx rfl (dd hy dJ42_75_98) rfl (l' := #[.val (.ref a), .val (.ref pa), .val (.int ((Int32.ofNat (o + j)) + (1 : Int32))), .val (.ref b), .val (.ref pb), .val (.int (Int32.ofNat j)), .val (.int (Int32.ofNat ps.length)), .val (.int (own_cod cs))]) rfl ?_
          refine st40 _ ?_
          show Steps _ _ _ (T40.setTop (mkF m 104 #[.val (.ref a), .val (.ref pa), .val (.int ((Int32.ofNat (o + j)) + (1 : Int32))), .val (.ref b), .val (.ref pb), .val (.int (Int32.ofNat j)), .val (.int (Int32.ofNat ps.length)), .val (.int (own_cod cs))] [(.int (cs.getD (o + j) 0))])) _
          refine XS.aload X40.here hx rfl (dd hy dJ42_75_104) rfl rfl ?_
          refine XS.iload X40.here hx rfl (dd hy dJ42_75_106) rfl ?_
          refine XS.iinc X40.here hx rfl (dd hy dJ42_75_108) rfl (l' := #[.val (.ref a), .val (.ref pa), .val (.int ((Int32.ofNat (o + j)) + (1 : Int32))), .val (.ref b), .val (.ref pb), .val (.int ((Int32.ofNat j) + (1 : Int32))), .val (.int (Int32.ofNat ps.length)), .val (.int (own_cod cs))]) rfl ?_
          refine X40.baloadBytes hx (j := (Int32.ofNat j)) (v := (.int (own_lo (ps.getD j 0)))) (by rw [e40]; exact Ar41.1) (State.isArrayOf_alike hZ.alike Ar41.2.1) Ar41.2.2 hin41 hat41 (g := (mkF m 111 #[.val (.ref a), .val (.ref pa), .val (.int ((Int32.ofNat (o + j)) + (1 : Int32))), .val (.ref b), .val (.ref pb), .val (.int ((Int32.ofNat j) + (1 : Int32))), .val (.int (Int32.ofNat ps.length)), .val (.int (own_cod cs))] [(.int (Int32.ofNat j)), (.ref pb), (.int (cs.getD (o + j) 0))])) rfl rfl (dd hy dJ42_75_111) _ ?_
          refine XS.sipush X40.here hx rfl (dd hy dJ42_75_112) ?_
          refine XS.iand X40.here hx rfl (dd hy dJ42_75_115) rfl ?_
          show Steps _ _ _ (T40.setTop (mkF m 116 #[.val (.ref a), .val (.ref pa), .val (.int ((Int32.ofNat (o + j)) + (1 : Int32))), .val (.ref b), .val (.ref pb), .val (.int ((Int32.ofNat j) + (1 : Int32))), .val (.int (Int32.ofNat ps.length)), .val (.int (own_cod cs))] [(.int ((own_lo (ps.getD j 0)) &&& (255 : Int32))), (.int (cs.getD (o + j) 0))])) _
          refine castTop (g' := (mkF m 116 #[.val (.ref a), .val (.ref pa), .val (.int ((Int32.ofNat (o + j)) + (1 : Int32))), .val (.ref b), .val (.ref pb), .val (.int ((Int32.ofNat j) + (1 : Int32))), .val (.int (Int32.ofNat ps.length)), .val (.int (own_cod cs))] [(.int (ps.getD j 0)), (.int (cs.getD (o + j) 0))])) (by rw [own_lo255 (hcp _ (own_mem ps j (by omega))).1 (hlp _ (own_mem ps j (by omega)))]) ?_
          show Steps _ _ _ (T40.setTop (mkF m 116 #[.val (.ref a), .val (.ref pa), .val (.int ((Int32.ofNat (o + j)) + (1 : Int32))), .val (.ref b), .val (.ref pb), .val (.int ((Int32.ofNat j) + (1 : Int32))), .val (.int (Int32.ofNat ps.length)), .val (.int (own_cod cs))] [(.int (ps.getD j 0)), (.int (cs.getD (o + j) 0))])) _
          exact k_)
        by_cases h43 : (cs.getD (o + j) 0) = (ps.getD j 0)
        · have s44 : ∀ t_, Steps p.tables e below (T40.setTop (mkF m 89 #[.val (.ref a), .val (.ref pa), .val (.int ((Int32.ofNat (o + j)) + (1 : Int32))), .val (.ref b), .val (.ref pb), .val (.int ((Int32.ofNat j) + (1 : Int32))), .val (.int (Int32.ofNat ps.length)), .val (.int (own_cod cs))] [])) t_ → Steps _ _ _ _ t_ := fun t_ k_ => s42 t_ (by
            refine XS.icmpYes X40.here hx rfl (pc0 := 116) (pc' := 89) rfl (dd hy dJ42_75_116) rfl (teq h43).1 (by decide) (by decide) ?_
            show Steps _ _ _ (T40.setTop (mkF m 89 #[.val (.ref a), .val (.ref pa), .val (.int ((Int32.ofNat (o + j)) + (1 : Int32))), .val (.ref b), .val (.ref pb), .val (.int ((Int32.ofNat j) + (1 : Int32))), .val (.int (Int32.ofNat ps.length)), .val (.int (own_cod cs))] [])) _
            exact k_)
          obtain ⟨T45, lo45, fe45, X45, e45, N45, A45, st45⟩ := ih (j + 1) T40 _  (by omega) X40 e40 N40   (fun i hi => by rcases Nat.lt_succ_iff_lt_or_eq.mp hi with q | q; exact hp i q; rw [q]; exact h43)
          exact ⟨T45, lo45, fe45, X45, e45, N45, A45, fun t_ k_ => s44 t_ (castTop (by rw [show o + (j + 1) = (o + j) + 1 from rfl, own_up (o + j), own_up j]) (st45 t_ k_))⟩
        · have s46 : ∀ t_, Steps p.tables e below (T40.setTop (mkF m 119 #[.val (.ref a), .val (.ref pa), .val (.int ((Int32.ofNat (o + j)) + (1 : Int32))), .val (.ref b), .val (.ref pb), .val (.int ((Int32.ofNat j) + (1 : Int32))), .val (.int (Int32.ofNat ps.length)), .val (.int (own_cod cs))] [])) t_ → Steps _ _ _ _ t_ := fun t_ k_ => s42 t_ (by
            refine XS.icmpNo X40.here hx rfl (dd hy dJ42_75_116) rfl (feq h43).1 ?_
            show Steps _ _ _ (T40.setTop (mkF m 119 #[.val (.ref a), .val (.ref pa), .val (.int ((Int32.ofNat (o + j)) + (1 : Int32))), .val (.ref b), .val (.ref pb), .val (.int ((Int32.ofNat j) + (1 : Int32))), .val (.int (Int32.ofNat ps.length)), .val (.int (own_cod cs))] [])) _
            exact k_)
          exact ⟨T40, _, _, X40, e40, N40, (Or.inr ⟨j, rfl, (fun q => h43 (q j (by omega)))⟩), s46⟩
    obtain ⟨T47, lo47, fe47, X47, e47, N47, A47, st47⟩ := lp37 ps.length 0 T34 _  (by omega) X34 e34 N34   (fun i hi => absurd hi (Nat.not_lt_zero i))
    rcases A47 with ⟨rfl, J47_0⟩ | ⟨jj_47, rfl, J47_0⟩
    · have s48 : ∀ t_, Steps p.tables e below (T47.setTop (mkF m 121 #[.val (.ref a), .val (.ref pa), .val (.int (Int32.ofNat (o + ps.length))), .val (.ref b), .val (.ref pb), .val (.int (Int32.ofNat ps.length)), .val (.int (Int32.ofNat ps.length)), .val (.int (own_cod cs))] [])) t_ → Steps p.tables e below (s₁.setTop (entryFrame m #[(.ref a), (.ref pa), (.int (Int32.ofNat o))] 8)) t_ := fun t_ k_ => s36 t_ (st47 t_ k_)
      have s49 : ∀ t_, Steps p.tables e below (T47.setTop (mkF m 122 #[.val (.ref a), .val (.ref pa), .val (.int (Int32.ofNat (o + ps.length))), .val (.ref b), .val (.ref pb), .val (.int (Int32.ofNat ps.length)), .val (.int (Int32.ofNat ps.length)), .val (.int (own_cod cs))] [(.int (1 : Int32))])) t_ → Steps _ _ _ _ t_ := fun t_ k_ => s48 t_ (by
        refine XS.iconst X47.here hx rfl (dd hy dJ42_75_121) ?_
        exact k_)
      obtain ⟨fs, hr, hrun, hended, hW, hsame⟩ := X47.leave (v := some (.int (1 : Int32))) (fun h => by rw [Bd.returns] at h; cases h)
      refine ⟨_, _, s49 _ ?_, hrun, hended, _, _, rfl, ?_, ⟨_, rfl⟩, hW, hsame.mono (by decide) (by decide)⟩
      · exact retN X47 hx (t := .boolean) Bd.returns (by simp) (dd hy dJ42_75_122) hr
      · show Q_rmSW Z _ _ _ _ _ _ _ _ _ _ h0 n0 _ T47.heap _
        rw [e47]
        exact ⟨(by rw [if_pos ⟨hop, J47_0⟩]), N47, rfl⟩
    · have s50 : ∀ t_, Steps p.tables e below (T47.setTop (mkF m 119 #[.val (.ref a), .val (.ref pa), .val (.int ((Int32.ofNat (o + jj_47)) + (1 : Int32))), .val (.ref b), .val (.ref pb), .val (.int ((Int32.ofNat jj_47) + (1 : Int32))), .val (.int (Int32.ofNat ps.length)), .val (.int (own_cod cs))] [])) t_ → Steps p.tables e below (s₁.setTop (entryFrame m #[(.ref a), (.ref pa), (.int (Int32.ofNat o))] 8)) t_ := fun t_ k_ => s36 t_ (st47 t_ k_)
      have s51 : ∀ t_, Steps p.tables e below (T47.setTop (mkF m 120 #[.val (.ref a), .val (.ref pa), .val (.int ((Int32.ofNat (o + jj_47)) + (1 : Int32))), .val (.ref b), .val (.ref pb), .val (.int ((Int32.ofNat jj_47) + (1 : Int32))), .val (.int (Int32.ofNat ps.length)), .val (.int (own_cod cs))] [(.int (0 : Int32))])) t_ → Steps _ _ _ _ t_ := fun t_ k_ => s50 t_ (by
        refine XS.iconst X47.here hx rfl (dd hy dJ42_75_119) ?_
        exact k_)
      obtain ⟨fs, hr, hrun, hended, hW, hsame⟩ := X47.leave (v := some (.int (0 : Int32))) (fun h => by rw [Bd.returns] at h; cases h)
      refine ⟨_, _, s51 _ ?_, hrun, hended, _, _, rfl, ?_, ⟨_, rfl⟩, hW, hsame.mono (by decide) (by decide)⟩
      · exact retN X47 hx (t := .boolean) Bd.returns (by simp) (dd hy dJ42_75_120) hr
      · show Q_rmSW Z _ _ _ _ _ _ _ _ _ _ h0 n0 _ T47.heap _
        rw [e47]
        exact ⟨(by rw [if_neg (fun q => J47_0 q.2)]), N47, rfl⟩
theorem dJ42_75_17 : decode CJ42_75 17 = .ok (.iconst 0, 1) := by decide +kernel
theorem dJ42_75_18 : decode CJ42_75 18 = .ok (.ireturn, 1) := by decide +kernel
theorem ef_rmSWz (m : MethodId) (x0 : Addr) (x1 : Addr) (x2 : Int32) : entryFrame m #[(.ref x0), (.ref x1), (.int x2)] 8 = mkF m 0 #[.val (.ref x0), .val (.ref x1), .val (.int x2), .unset, .unset, .unset, .unset, .unset] [] := by first | (simp [entryFrame, mkF, argsToLocals, Value.category]; done) | rfl
abbrev R_rmSWz : Room := ({ frames := 2, cells := 0, slots := 0, locals := 27 } : Room)
def Q_rmSWz (Z : State) (a : Addr) (pa : Addr) (cst : Int32) (b : Addr) (kb : ClassId) (cs : List Int32) (pb : Addr) (kp : ClassId) (ps : List Int32) (h0 : Heap) (n0 : Nat) (v : Option Value) (h : Heap) (L : List Loc) : Prop := (v = some (.int (0 : Int32))) ∧ (Fr n0 L) ∧ (h = h0)
set_option maxRecDepth 65536 in
set_option maxHeartbeats 40000000 in
theorem rmSWz (l : Launch) (Z : State) (a0 : Array Value) (hw : HW Z a0) (ws : List Jvm.Cond) (a : Addr) (pa : Addr) (cst : Int32) (b : Addr) (kb : ClassId) (cs : List Int32) (pb : Addr) (kp : ClassId) (ps : List Int32) (h0 : Heap) (n0 : Nat) (Z0 : n0 ≤ h0.size) (I1 : Sta Z Z.heap cS cC "Z" (.int cst)) (I2 : Sta Z Z.heap cU cD "Z" (.int (1 : Int32))) (I3 : Sta Z Z.heap cU cH "I" (.int (0 : Int32))) (I4 : Sta Z Z.heap cU cL "I" (.int (8 : Int32))) (OX : Old Z n0 h0) (hcst : ¬ (cst = (0 : Int32))) (I5 : Exa Z h0 a cS) (I6 : Fld Z h0 a cS "value" "[B" (.ref b)) (I7 : Fld Z h0 a cS "coder" "B" (.int (own_cod cs))) (I8 : Arv Z h0 b kb .byte (Int32.ofNat (own_enl cs)) (own_enc cs) v0_) (I9 : Exa Z h0 pa cS) (I10 : Fld Z h0 pa cS "value" "[B" (.ref pb)) (I11 : Fld Z h0 pa cS "coder" "B" (.int (own_cod ps))) (I12 : Arv Z h0 pb kp .byte (Int32.ofNat (own_enl ps)) (own_enc ps) v0_) (hb : cs.length ≤ 15) (hchs : own_chs cs) (hlp : own_lat ps) (hcp : own_chs ps) (hp7 : ps.length ≤ 7) (hlt : cs.length < ps.length) :
    MF l Z M18_ (Jvm.Cond.code M18_ jdk_42_method_75_code 8 (some .boolean) :: ws) R_rmSWz #[(.ref a), (.ref pa), (.int (0 : Int32))] h0 (Q_rmSWz Z a pa cst b kb cs pb kp ps h0 n0) := by
  refine MetFree.of_bodySF (plainFor_of_name pn_java_lang_String) hisR ?_
  intro p e s m args below meth c s₁ Bd hml0 hP hK
  obtain ⟨rfl, hZ, hh⟩ := hP
  have hx := Bd.exec
  have hy := Bd.bytes
  have hml : c.maxLocals = 8 := hml0
  have hown : s.vm.findClass "java/lang/String" = some m.cls := findClass_of_methodNamed Bd.named
  have hnm := (name_of_methodNamed Bd.named Bd.method).1
  have X0 : Stand p l e R_rmSWz s m #[(.ref a), (.ref pa), (.int (0 : Int32))] below meth c s₁ [] 0 0 := Stand.of_body Bd
  have e0 : s₁.heap = h0 := by rw [← hh, Bd.state]; rfl
  have N0 := Fr.nil n0
  have pre0 := own_pre (p := p) (e := e) (below := below) (T := s₁) (ef_rmSWz m a pa (0 : Int32))
  have lt_I5 : @LT.lt Nat _ a h0.size := I5.lt
  have lt_I8 : @LT.lt Nat _ b h0.size := I8.lt
  have lt_I9 : @LT.lt Nat _ pa h0.size := I9.lt
  have lt_I12 : @LT.lt Nat _ pb h0.size := I12.lt
  have Zc1 : n0 ≤ h0.size := by omega
  obtain ⟨cq2, kq2, q2a, q2b, q2c⟩ := isOf hZ e0 I5
  obtain ⟨_, _, ⟨T2, L2, k2, n2⟩, -, X2, ⟨Lc2, hQ2, l2, y2, z2⟩, st2⟩ := X0.virtualBack hx (y := M11_) (z := M11_) hown (mvT hZ (own_m hw 41 rfl)) (mvT hZ (own_m hw 42 rfl)) (notFace_of_selects (args := #[]) (mvT hZ (own_m hw 44 rfl))) (mvT hZ (own_m hw 44 rfl)) (mvT hZ (own_m hw 43 rfl)) (by decide) (backOf (W := 1) (rmLen l Z a0 hw [] a cst b kb cs h0 n0 Zc1 I1 OX hcst I5 I6 I7 I8 (by omega)) hZ (own_m hw 45 rfl) (own_m hw 7 rfl) (by decide) (by decide)) q2a q2c (g := (mkF m 6 #[.val (.ref a), .val (.ref pa), .val (.int (0 : Int32)), .unset, .unset, .unset, .unset, .unset] [(.ref a), (.int (0 : Int32))])) rfl (by rw [hml]; rfl) (Steps.refl _) (argsL := []) (rest := [(.int (0 : Int32))]) (lenOf pd___I rfl) rfl (by show 2 * 0 + _ ≤ _; exact Nat.le_of_eq rfl) (dd hy dJ42_75_6) (fun _ _ => ⟨rfl, e0, (by decide : 0 + 0 ≤ _), (by decide : 0 + 0 ≤ _)⟩)
  dsimp only [Pt.U, Pt.locs, Pt.cells, Pt.slots] at X2 l2 y2 z2 st2 hQ2
  subst l2 y2 z2
  obtain ⟨rfl, N2q, e2⟩ := hQ2
  have N2 := Fr.app N0 N2q
  have Zc3 : n0 ≤ h0.size := by omega
  obtain ⟨cq4, kq4, q4a, q4b, q4c⟩ := isOf hZ e2 I9
  obtain ⟨_, _, ⟨T4, L4, k4, n4⟩, -, X4, ⟨Lc4, hQ4, l4, y4, z4⟩, st4⟩ := X2.virtualBack hx (y := M11_) (z := M11_) hown (mvT hZ (own_m hw 41 rfl)) (mvT hZ (own_m hw 42 rfl)) (notFace_of_selects (args := #[]) (mvT hZ (own_m hw 44 rfl))) (mvT hZ (own_m hw 44 rfl)) (mvT hZ (own_m hw 43 rfl)) (by decide) (backOf (W := 2) (rmLen l Z a0 hw [] pa cst pb kp ps h0 n0 Zc3 I1 OX hcst I9 I10 I11 I12 (by omega)) hZ (own_m hw 45 rfl) (own_m hw 7 rfl) (by decide) (by decide)) q4a q4c (g := (mkF m 10 #[.val (.ref a), .val (.ref pa), .val (.int (0 : Int32)), .unset, .unset, .unset, .unset, .unset] [(.ref pa), (.int (Int32.ofNat cs.length)), (.int (0 : Int32))])) rfl (by rw [hml]; rfl) (Steps.refl _) (argsL := []) (rest := [(.int (Int32.ofNat cs.length)), (.int (0 : Int32))]) (lenOf pd___I rfl) rfl (by show 2 * 0 + _ ≤ _; exact Nat.le_of_eq rfl) (dd hy dJ42_75_10) (fun _ _ => ⟨rfl, e2, (by decide : 0 + 0 ≤ _), (by decide : 0 + 0 ≤ _)⟩)
  dsimp only [Pt.U, Pt.locs, Pt.cells, Pt.slots] at X4 l4 y4 z4 st4 hQ4
  subst l4 y4 z4
  obtain ⟨rfl, N4q, e4⟩ := hQ4
  have N4 := Fr.app N2 N4q
  have s5 : ∀ t_, Steps p.tables e below (T4.setTop (mkF m 18 #[.val (.ref a), .val (.ref pa), .val (.int (0 : Int32)), .unset, .unset, .unset, .unset, .unset] [(.int (0 : Int32))])) t_ → Steps _ _ _ _ t_ := fun t_ k_ => pre0 t_ (by
    refine XS.iloadN X0.here hx rfl (dd hy dJ42_75_0) rfl ?_
    refine XS.ifNo X0.here hx rfl (dd hy dJ42_75_1) rfl ((if0 _ _).trans (flt (by decide : ¬ ((0 : Int32) < (0 : Int32)))).1) ?_
    show Steps _ _ _ (s₁.setTop (mkF m 4 #[.val (.ref a), .val (.ref pa), .val (.int (0 : Int32)), .unset, .unset, .unset, .unset, .unset] [])) _
    refine XS.iloadN X0.here hx rfl (dd hy dJ42_75_4) rfl ?_
    refine XS.aloadN X0.here hx rfl (dd hy dJ42_75_5) rfl rfl ?_
    refine st2.trans ?_
    show Steps _ _ _ (T2.setTop (mkF m 9 #[.val (.ref a), .val (.ref pa), .val (.int (0 : Int32)), .unset, .unset, .unset, .unset, .unset] [(.int (Int32.ofNat cs.length)), (.int (0 : Int32))])) _
    refine XS.aloadN X2.here hx rfl (dd hy dJ42_75_9) rfl rfl ?_
    refine st4.trans ?_
    show Steps _ _ _ (T4.setTop (mkF m 13 #[.val (.ref a), .val (.ref pa), .val (.int (0 : Int32)), .unset, .unset, .unset, .unset, .unset] [(.int (Int32.ofNat ps.length)), (.int (Int32.ofNat cs.length)), (.int (0 : Int32))])) _
    refine XS.isub X4.here hx rfl (dd hy dJ42_75_13) rfl ?_
    refine XS.icmpNo X4.here hx rfl (dd hy dJ42_75_14) rfl (tlt (own_subneg hlt (by omega))).2.2.2 ?_
    show Steps _ _ _ (T4.setTop (mkF m 17 #[.val (.ref a), .val (.ref pa), .val (.int (0 : Int32)), .unset, .unset, .unset, .unset, .unset] [])) _
    refine XS.iconst X4.here hx rfl (dd hy dJ42_75_17) ?_
    exact k_)
  obtain ⟨fs, hr, hrun, hended, hW, hsame⟩ := X4.leave (v := some (.int (0 : Int32))) (fun h => by rw [Bd.returns] at h; cases h)
  refine ⟨_, _, s5 _ ?_, hrun, hended, _, _, rfl, ?_, ⟨_, rfl⟩, hW, hsame.mono (by decide) (by decide)⟩
  · exact retN X4 hx (t := .boolean) Bd.returns (by simp) (dd hy dJ42_75_18) hr
  · show Q_rmSWz Z _ _ _ _ _ _ _ _ _ h0 n0 _ T4.heap _
    rw [e4]
    exact ⟨rfl, N4, rfl⟩
theorem ef_rmSWg (m : MethodId) (x0 : Addr) (x1 : Addr) (x2 : Int32) : entryFrame m #[(.ref x0), (.ref x1), (.int x2)] 8 = mkF m 0 #[.val (.ref x0), .val (.ref x1), .val (.int x2), .unset, .unset, .unset, .unset, .unset] [] := by first | (simp [entryFrame, mkF, argsToLocals, Value.category]; done) | rfl
abbrev R_rmSWg : Room := ({ frames := 0, cells := 0, slots := 0, locals := 0 } : Room)
def Q_rmSWg (Z : State) (a : Addr) (pa : Addr) (tt : Int32) (h0 : Heap) (n0 : Nat) (v : Option Value) (h : Heap) (L : List Loc) : Prop := (v = some (.int (0 : Int32))) ∧ (Fr n0 L) ∧ (h = h0)
set_option maxRecDepth 65536 in
set_option maxHeartbeats 40000000 in
theorem rmSWg (l : Launch) (Z : State) (a0 : Array Value) (hw : HW Z a0) (ws : List Jvm.Cond) (a : Addr) (pa : Addr) (tt : Int32) (h0 : Heap) (n0 : Nat) (Z0 : n0 ≤ h0.size) (htt : tt < (0 : Int32)) :
    MF l Z M18_ (Jvm.Cond.code M18_ jdk_42_method_75_code 8 (some .boolean) :: ws) R_rmSWg #[(.ref a), (.ref pa), (.int tt)] h0 (Q_rmSWg Z a pa tt h0 n0) := by
  refine MetFree.of_bodySF (plainFor_of_name pn_java_lang_String) hisR ?_
  intro p e s m args below meth c s₁ Bd hml0 hP hK
  obtain ⟨rfl, hZ, hh⟩ := hP
  have hx := Bd.exec
  have hy := Bd.bytes
  have hml : c.maxLocals = 8 := hml0
  have hown : s.vm.findClass "java/lang/String" = some m.cls := findClass_of_methodNamed Bd.named
  have hnm := (name_of_methodNamed Bd.named Bd.method).1
  have X0 : Stand p l e R_rmSWg s m #[(.ref a), (.ref pa), (.int tt)] below meth c s₁ [] 0 0 := Stand.of_body Bd
  have e0 : s₁.heap = h0 := by rw [← hh, Bd.state]; rfl
  have N0 := Fr.nil n0
  have pre0 := own_pre (p := p) (e := e) (below := below) (T := s₁) (ef_rmSWg m a pa tt)
  have s1 : ∀ t_, Steps p.tables e below (s₁.setTop (mkF m 18 #[.val (.ref a), .val (.ref pa), .val (.int tt), .unset, .unset, .unset, .unset, .unset] [(.int (0 : Int32))])) t_ → Steps _ _ _ _ t_ := fun t_ k_ => pre0 t_ (by
    refine XS.iloadN X0.here hx rfl (dd hy dJ42_75_0) rfl ?_
    refine XS.ifYes X0.here hx rfl (pc0 := 1) (pc' := 17) rfl (dd hy dJ42_75_1) rfl ((if0 _ _).trans (tlt htt).1) (by decide) (by decide) ?_
    show Steps _ _ _ (s₁.setTop (mkF m 17 #[.val (.ref a), .val (.ref pa), .val (.int tt), .unset, .unset, .unset, .unset, .unset] [])) _
    refine XS.iconst X0.here hx rfl (dd hy dJ42_75_17) ?_
    exact k_)
  obtain ⟨fs, hr, hrun, hended, hW, hsame⟩ := X0.leave (v := some (.int (0 : Int32))) (fun h => by rw [Bd.returns] at h; cases h)
  refine ⟨_, _, s1 _ ?_, hrun, hended, _, _, rfl, ?_, ⟨_, rfl⟩, hW, hsame.mono (by decide) (by decide)⟩
  · exact retN X0 hx (t := .boolean) Bd.returns (by simp) (dd hy dJ42_75_18) hr
  · show Q_rmSWg Z _ _ _ h0 n0 _ s₁.heap _
    rw [e0]
    exact ⟨rfl, N0, rfl⟩
theorem dJ42_76_0 : decode CJ42_76 0 = .ok (.aload_n 0, 1) := by decide +kernel
theorem dJ42_76_1 : decode CJ42_76 1 = .ok (.aload_n 1, 1) := by decide +kernel
theorem dJ42_76_2 : decode CJ42_76 2 = .ok (.iconst 0, 1) := by decide +kernel
theorem pd__Ljava_lang_String_I_Z : parseMethodDescriptor "(Ljava/lang/String;I)Z" = some ⟨[(.object "java/lang/String"), .int], some .boolean⟩ := by decide +kernel
theorem dJ42_76_3 : decode CJ42_76 3 = .ok (.invokevirtual 624, 3) := by decide +kernel
theorem dJ42_76_6 : decode CJ42_76 6 = .ok (.ireturn, 1) := by decide +kernel
theorem ef_rmSW1 (m : MethodId) (x0 : Addr) (x1 : Addr) : entryFrame m #[(.ref x0), (.ref x1)] 2 = mkF m 0 #[.val (.ref x0), .val (.ref x1)] [] := by first | (simp [entryFrame, mkF, argsToLocals, Value.category]; done) | rfl
abbrev R_rmSW1 : Room := ({ frames := 3, cells := 0, slots := 0, locals := 46 } : Room)
def Q_rmSW1 (Z : State) (a : Addr) (pa : Addr) (cst : Int32) (b : Addr) (kb : ClassId) (cs : List Int32) (pb : Addr) (kp : ClassId) (ps : List Int32) (h0 : Heap) (n0 : Nat) (v : Option Value) (h : Heap) (L : List Loc) : Prop := (v = some (.int (if own_at ps cs 0 then (1 : Int32) else (0 : Int32)))) ∧ (Fr n0 L) ∧ (h = h0)
set_option maxRecDepth 65536 in
set_option maxHeartbeats 40000000 in
theorem rmSW1 (l : Launch) (Z : State) (a0 : Array Value) (hw : HW Z a0) (ws : List Jvm.Cond) (a : Addr) (pa : Addr) (cst : Int32) (b : Addr) (kb : ClassId) (cs : List Int32) (pb : Addr) (kp : ClassId) (ps : List Int32) (h0 : Heap) (n0 : Nat) (Z0 : n0 ≤ h0.size) (I1 : Sta Z Z.heap cS cC "Z" (.int cst)) (I2 : Sta Z Z.heap cU cD "Z" (.int (1 : Int32))) (I3 : Sta Z Z.heap cU cH "I" (.int (0 : Int32))) (I4 : Sta Z Z.heap cU cL "I" (.int (8 : Int32))) (OX : Old Z n0 h0) (hcst : ¬ (cst = (0 : Int32))) (I5 : Exa Z h0 a cS) (I6 : Fld Z h0 a cS "value" "[B" (.ref b)) (I7 : Fld Z h0 a cS "coder" "B" (.int (own_cod cs))) (I8 : Arv Z h0 b kb .byte (Int32.ofNat (own_enl cs)) (own_enc cs) v0_) (I9 : Exa Z h0 pa cS) (I10 : Fld Z h0 pa cS "value" "[B" (.ref pb)) (I11 : Fld Z h0 pa cS "coder" "B" (.int (own_cod ps))) (I12 : Arv Z h0 pb kp .byte (Int32.ofNat (own_enl ps)) (own_enc ps) v0_) (hb : cs.length ≤ 15) (hchs : own_chs cs) (hlp : own_lat ps) (hcp : own_chs ps) (hp7 : ps.length ≤ 7) :
    MF l Z M19_ (Jvm.Cond.code M19_ jdk_42_method_76_code 2 (some .boolean) :: ws) R_rmSW1 #[(.ref a), (.ref pa)] h0 (Q_rmSW1 Z a pa cst b kb cs pb kp ps h0 n0) := by
  refine MetFree.of_bodySF (plainFor_of_name pn_java_lang_String) hisR ?_
  intro p e s m args below meth c s₁ Bd hml0 hP hK
  obtain ⟨rfl, hZ, hh⟩ := hP
  have hx := Bd.exec
  have hy := Bd.bytes
  have hml : c.maxLocals = 2 := hml0
  have hown : s.vm.findClass "java/lang/String" = some m.cls := findClass_of_methodNamed Bd.named
  have hnm := (name_of_methodNamed Bd.named Bd.method).1
  have X0 : Stand p l e R_rmSW1 s m #[(.ref a), (.ref pa)] below meth c s₁ [] 0 0 := Stand.of_body Bd
  have e0 : s₁.heap = h0 := by rw [← hh, Bd.state]; rfl
  have N0 := Fr.nil n0
  have pre0 := own_pre (p := p) (e := e) (below := below) (T := s₁) (ef_rmSW1 m a pa)
  have lt_I5 : @LT.lt Nat _ a h0.size := I5.lt
  have lt_I8 : @LT.lt Nat _ b h0.size := I8.lt
  have lt_I9 : @LT.lt Nat _ pa h0.size := I9.lt
  have lt_I12 : @LT.lt Nat _ pb h0.size := I12.lt
  have s1 : ∀ t_, Steps p.tables e below (s₁.setTop (mkF m 3 #[.val (.ref a), .val (.ref pa)] [(.int (0 : Int32)), (.ref pa), (.ref a)])) t_ → Steps _ _ _ _ t_ := fun t_ k_ => pre0 t_ (by
    refine XS.aloadN X0.here hx rfl (dd hy dJ42_76_0) rfl rfl ?_
    refine XS.aloadN X0.here hx rfl (dd hy dJ42_76_1) rfl rfl ?_
    refine XS.iconst X0.here hx rfl (dd hy dJ42_76_2) ?_
    exact k_)
  by_cases h2 : ps.length ≤ cs.length
  · have s3 : ∀ t_, Steps p.tables e below (s₁.setTop (mkF m 3 #[.val (.ref a), .val (.ref pa)] [(.int (0 : Int32)), (.ref pa), (.ref a)])) t_ → Steps p.tables e below (s₁.setTop (entryFrame m #[(.ref a), (.ref pa)] 2)) t_ := fun t_ k_ => s1 t_ (castTop (by rfl) k_)
    have Zc4 : n0 ≤ h0.size := by omega
    obtain ⟨cq5, kq5, q5a, q5b, q5c⟩ := isOf hZ e0 I5
    obtain ⟨_, _, ⟨T5, L5, k5, n5⟩, -, X5, ⟨Lc5, hQ5, l5, y5, z5⟩, st5⟩ := X0.virtualBack hx (y := M18_) (z := M18_) hown (mvT hZ (own_m hw 36 rfl)) (mvT hZ (own_m hw 37 rfl)) (notFace_of_selects (args := #[]) (mvT hZ (own_m hw 39 rfl))) (mvT hZ (own_m hw 39 rfl)) (mvT hZ (own_m hw 38 rfl)) (by decide) (backOf (W := 0) (rmSW l Z a0 hw [] a pa cst b kb cs pb kp ps 0 h0 n0 Zc4 I1 I2 I3 I4 OX hcst I5 I6 I7 I8 I9 I10 I11 I12 hb hchs hlp hcp hp7 (by omega)) hZ (own_m hw 40 rfl) (own_m hw 7 rfl) (by decide) (by decide)) q5a q5c (g := (mkF m 3 #[.val (.ref a), .val (.ref pa)] [(.int (0 : Int32)), (.ref pa), (.ref a)])) rfl (by rw [hml]; rfl) (Steps.refl _) (argsL := [(.ref pa), (.int (0 : Int32))]) (rest := []) (lenOf pd__Ljava_lang_String_I_Z rfl) rfl (by show 2 * 0 + _ ≤ _; exact Nat.le_of_eq rfl) (dd hy dJ42_76_3) (fun _ _ => ⟨rfl, e0, (by decide : 0 + 0 ≤ _), (by decide : 0 + 0 ≤ _)⟩)
    dsimp only [Pt.U, Pt.locs, Pt.cells, Pt.slots] at X5 l5 y5 z5 st5 hQ5
    subst l5 y5 z5
    obtain ⟨rfl, N5q, e5⟩ := hQ5
    have N5 := Fr.app N0 N5q
    have s6 : ∀ t_, Steps p.tables e below (T5.setTop (mkF m 6 #[.val (.ref a), .val (.ref pa)] [(.int (if own_at ps cs 0 then (1 : Int32) else (0 : Int32)))])) t_ → Steps _ _ _ _ t_ := fun t_ k_ => s3 t_ (by
      refine st5.trans ?_
      show Steps _ _ _ (T5.setTop (mkF m 6 #[.val (.ref a), .val (.ref pa)] [(.int (if own_at ps cs 0 then (1 : Int32) else (0 : Int32)))])) _
      exact k_)
    obtain ⟨fs, hr, hrun, hended, hW, hsame⟩ := X5.leave (v := some (.int (nar .boolean (if own_at ps cs 0 then (1 : Int32) else (0 : Int32))))) (fun h => by rw [Bd.returns] at h; cases h)
    refine ⟨_, _, s6 _ ?_, hrun, hended, _, _, rfl, ?_, ⟨_, rfl⟩, hW, hsame.mono (by decide) (by decide)⟩
    · exact retN X5 hx (t := .boolean) Bd.returns (by simp) (dd hy dJ42_76_6) hr
    · show Q_rmSW1 Z _ _ _ _ _ _ _ _ _ h0 n0 _ T5.heap _
      rw [e5]
      exact ⟨(by rw [own_narb]), N5, rfl⟩
  · have s7 : ∀ t_, Steps p.tables e below (s₁.setTop (mkF m 3 #[.val (.ref a), .val (.ref pa)] [(.int (0 : Int32)), (.ref pa), (.ref a)])) t_ → Steps p.tables e below (s₁.setTop (entryFrame m #[(.ref a), (.ref pa)] 2)) t_ := fun t_ k_ => s1 t_ (castTop (by rfl) k_)
    have Zc8 : n0 ≤ h0.size := by omega
    obtain ⟨cq9, kq9, q9a, q9b, q9c⟩ := isOf hZ e0 I5
    obtain ⟨_, _, ⟨T9, L9, k9, n9⟩, -, X9, ⟨Lc9, hQ9, l9, y9, z9⟩, st9⟩ := X0.virtualBack hx (y := M18_) (z := M18_) hown (mvT hZ (own_m hw 36 rfl)) (mvT hZ (own_m hw 37 rfl)) (notFace_of_selects (args := #[]) (mvT hZ (own_m hw 39 rfl))) (mvT hZ (own_m hw 39 rfl)) (mvT hZ (own_m hw 38 rfl)) (by decide) (backOf (W := 0) (rmSWz l Z a0 hw [] a pa cst b kb cs pb kp ps h0 n0 Zc8 I1 I2 I3 I4 OX hcst I5 I6 I7 I8 I9 I10 I11 I12 hb hchs hlp hcp hp7 (by omega)) hZ (own_m hw 40 rfl) (own_m hw 7 rfl) (by decide) (by decide)) q9a q9c (g := (mkF m 3 #[.val (.ref a), .val (.ref pa)] [(.int (0 : Int32)), (.ref pa), (.ref a)])) rfl (by rw [hml]; rfl) (Steps.refl _) (argsL := [(.ref pa), (.int (0 : Int32))]) (rest := []) (lenOf pd__Ljava_lang_String_I_Z rfl) rfl (by show 2 * 0 + _ ≤ _; exact Nat.le_of_eq rfl) (dd hy dJ42_76_3) (fun _ _ => ⟨rfl, e0, (by decide : 0 + 0 ≤ _), (by decide : 0 + 0 ≤ _)⟩)
    dsimp only [Pt.U, Pt.locs, Pt.cells, Pt.slots] at X9 l9 y9 z9 st9 hQ9
    subst l9 y9 z9
    obtain ⟨rfl, N9q, e9⟩ := hQ9
    have N9 := Fr.app N0 N9q
    have s10 : ∀ t_, Steps p.tables e below (T9.setTop (mkF m 6 #[.val (.ref a), .val (.ref pa)] [(.int (0 : Int32))])) t_ → Steps _ _ _ _ t_ := fun t_ k_ => s7 t_ (by
      refine st9.trans ?_
      show Steps _ _ _ (T9.setTop (mkF m 6 #[.val (.ref a), .val (.ref pa)] [(.int (0 : Int32))])) _
      exact k_)
    obtain ⟨fs, hr, hrun, hended, hW, hsame⟩ := X9.leave (v := some (.int (0 : Int32))) (fun h => by rw [Bd.returns] at h; cases h)
    refine ⟨_, _, s10 _ ?_, hrun, hended, _, _, rfl, ?_, ⟨_, rfl⟩, hW, hsame.mono (by decide) (by decide)⟩
    · exact retN X9 hx (t := .boolean) Bd.returns (by simp) (dd hy dJ42_76_6) hr
    · show Q_rmSW1 Z _ _ _ _ _ _ _ _ _ h0 n0 _ T9.heap _
      rw [e9]
      exact ⟨(by rw [if_neg (fun q => h2 (by have := q.1; omega))]), N9, rfl⟩
theorem dJ42_77_0 : decode CJ42_77 0 = .ok (.aload_n 0, 1) := by decide +kernel
theorem dJ42_77_1 : decode CJ42_77 1 = .ok (.aload_n 1, 1) := by decide +kernel
theorem dJ42_77_2 : decode CJ42_77 2 = .ok (.aload_n 0, 1) := by decide +kernel
theorem dJ42_77_3 : decode CJ42_77 3 = .ok (.invokevirtual 505, 3) := by decide +kernel
theorem dJ42_77_6 : decode CJ42_77 6 = .ok (.aload_n 1, 1) := by decide +kernel
theorem dJ42_77_7 : decode CJ42_77 7 = .ok (.invokevirtual 505, 3) := by decide +kernel
theorem dJ42_77_10 : decode CJ42_77 10 = .ok (.isub, 1) := by decide +kernel
theorem dJ42_77_11 : decode CJ42_77 11 = .ok (.invokevirtual 624, 3) := by decide +kernel
theorem dJ42_77_14 : decode CJ42_77 14 = .ok (.ireturn, 1) := by decide +kernel
theorem ef_rmEW (m : MethodId) (x0 : Addr) (x1 : Addr) : entryFrame m #[(.ref x0), (.ref x1)] 2 = mkF m 0 #[.val (.ref x0), .val (.ref x1)] [] := by first | (simp [entryFrame, mkF, argsToLocals, Value.category]; done) | rfl
abbrev R_rmEW : Room := ({ frames := 3, cells := 0, slots := 0, locals := 46 } : Room)
def Q_rmEW (Z : State) (a : Addr) (pa : Addr) (cst : Int32) (b : Addr) (kb : ClassId) (cs : List Int32) (pb : Addr) (kp : ClassId) (ps : List Int32) (h0 : Heap) (n0 : Nat) (v : Option Value) (h : Heap) (L : List Loc) : Prop := (v = some (.int (if own_at ps cs (cs.length - ps.length) then (1 : Int32) else (0 : Int32)))) ∧ (Fr n0 L) ∧ (h = h0)
set_option maxRecDepth 65536 in
set_option maxHeartbeats 40000000 in
theorem rmEW (l : Launch) (Z : State) (a0 : Array Value) (hw : HW Z a0) (ws : List Jvm.Cond) (a : Addr) (pa : Addr) (cst : Int32) (b : Addr) (kb : ClassId) (cs : List Int32) (pb : Addr) (kp : ClassId) (ps : List Int32) (h0 : Heap) (n0 : Nat) (Z0 : n0 ≤ h0.size) (I1 : Sta Z Z.heap cS cC "Z" (.int cst)) (I2 : Sta Z Z.heap cU cD "Z" (.int (1 : Int32))) (I3 : Sta Z Z.heap cU cH "I" (.int (0 : Int32))) (I4 : Sta Z Z.heap cU cL "I" (.int (8 : Int32))) (OX : Old Z n0 h0) (hcst : ¬ (cst = (0 : Int32))) (I5 : Exa Z h0 a cS) (I6 : Fld Z h0 a cS "value" "[B" (.ref b)) (I7 : Fld Z h0 a cS "coder" "B" (.int (own_cod cs))) (I8 : Arv Z h0 b kb .byte (Int32.ofNat (own_enl cs)) (own_enc cs) v0_) (I9 : Exa Z h0 pa cS) (I10 : Fld Z h0 pa cS "value" "[B" (.ref pb)) (I11 : Fld Z h0 pa cS "coder" "B" (.int (own_cod ps))) (I12 : Arv Z h0 pb kp .byte (Int32.ofNat (own_enl ps)) (own_enc ps) v0_) (hb : cs.length ≤ 15) (hchs : own_chs cs) (hlp : own_lat ps) (hcp : own_chs ps) (hp7 : ps.length ≤ 7) :
    MF l Z M20_ (Jvm.Cond.code M20_ jdk_42_method_77_code 2 (some .boolean) :: ws) R_rmEW #[(.ref a), (.ref pa)] h0 (Q_rmEW Z a pa cst b kb cs pb kp ps h0 n0) := by
  refine MetFree.of_bodySF (plainFor_of_name pn_java_lang_String) hisR ?_
  intro p e s m args below meth c s₁ Bd hml0 hP hK
  obtain ⟨rfl, hZ, hh⟩ := hP
  have hx := Bd.exec
  have hy := Bd.bytes
  have hml : c.maxLocals = 2 := hml0
  have hown : s.vm.findClass "java/lang/String" = some m.cls := findClass_of_methodNamed Bd.named
  have hnm := (name_of_methodNamed Bd.named Bd.method).1
  have X0 : Stand p l e R_rmEW s m #[(.ref a), (.ref pa)] below meth c s₁ [] 0 0 := Stand.of_body Bd
  have e0 : s₁.heap = h0 := by rw [← hh, Bd.state]; rfl
  have N0 := Fr.nil n0
  have pre0 := own_pre (p := p) (e := e) (below := below) (T := s₁) (ef_rmEW m a pa)
  have lt_I5 : @LT.lt Nat _ a h0.size := I5.lt
  have lt_I8 : @LT.lt Nat _ b h0.size := I8.lt
  have lt_I9 : @LT.lt Nat _ pa h0.size := I9.lt
  have lt_I12 : @LT.lt Nat _ pb h0.size := I12.lt
  have Zc1 : n0 ≤ h0.size := by omega
  obtain ⟨cq2, kq2, q2a, q2b, q2c⟩ := isOf hZ e0 I5
  obtain ⟨_, _, ⟨T2, L2, k2, n2⟩, -, X2, ⟨Lc2, hQ2, l2, y2, z2⟩, st2⟩ := X0.virtualBack hx (y := M11_) (z := M11_) hown (mvT hZ (own_m hw 41 rfl)) (mvT hZ (own_m hw 42 rfl)) (notFace_of_selects (args := #[]) (mvT hZ (own_m hw 44 rfl))) (mvT hZ (own_m hw 44 rfl)) (mvT hZ (own_m hw 43 rfl)) (by decide) (backOf (W := 2) (rmLen l Z a0 hw [] a cst b kb cs h0 n0 Zc1 I1 OX hcst I5 I6 I7 I8 (by omega)) hZ (own_m hw 45 rfl) (own_m hw 7 rfl) (by decide) (by decide)) q2a q2c (g := (mkF m 3 #[.val (.ref a), .val (.ref pa)] [(.ref a), (.ref pa), (.ref a)])) rfl (by rw [hml]; rfl) (Steps.refl _) (argsL := []) (rest := [(.ref pa), (.ref a)]) (lenOf pd___I rfl) rfl (by show 2 * 0 + _ ≤ _; exact Nat.le_of_eq rfl) (dd hy dJ42_77_3) (fun _ _ => ⟨rfl, e0, (by decide : 0 + 0 ≤ _), (by decide : 0 + 0 ≤ _)⟩)
  dsimp only [Pt.U, Pt.locs, Pt.cells, Pt.slots] at X2 l2 y2 z2 st2 hQ2
  subst l2 y2 z2
  obtain ⟨rfl, N2q, e2⟩ := hQ2
  have N2 := Fr.app N0 N2q
  have Zc3 : n0 ≤ h0.size := by omega
  obtain ⟨cq4, kq4, q4a, q4b, q4c⟩ := isOf hZ e2 I9
  obtain ⟨_, _, ⟨T4, L4, k4, n4⟩, -, X4, ⟨Lc4, hQ4, l4, y4, z4⟩, st4⟩ := X2.virtualBack hx (y := M11_) (z := M11_) hown (mvT hZ (own_m hw 41 rfl)) (mvT hZ (own_m hw 42 rfl)) (notFace_of_selects (args := #[]) (mvT hZ (own_m hw 44 rfl))) (mvT hZ (own_m hw 44 rfl)) (mvT hZ (own_m hw 43 rfl)) (by decide) (backOf (W := 3) (rmLen l Z a0 hw [] pa cst pb kp ps h0 n0 Zc3 I1 OX hcst I9 I10 I11 I12 (by omega)) hZ (own_m hw 45 rfl) (own_m hw 7 rfl) (by decide) (by decide)) q4a q4c (g := (mkF m 7 #[.val (.ref a), .val (.ref pa)] [(.ref pa), (.int (Int32.ofNat cs.length)), (.ref pa), (.ref a)])) rfl (by rw [hml]; rfl) (Steps.refl _) (argsL := []) (rest := [(.int (Int32.ofNat cs.length)), (.ref pa), (.ref a)]) (lenOf pd___I rfl) rfl (by show 2 * 0 + _ ≤ _; exact Nat.le_of_eq rfl) (dd hy dJ42_77_7) (fun _ _ => ⟨rfl, e2, (by decide : 0 + 0 ≤ _), (by decide : 0 + 0 ≤ _)⟩)
  dsimp only [Pt.U, Pt.locs, Pt.cells, Pt.slots] at X4 l4 y4 z4 st4 hQ4
  subst l4 y4 z4
  obtain ⟨rfl, N4q, e4⟩ := hQ4
  have N4 := Fr.app N2 N4q
  have s5 : ∀ t_, Steps p.tables e below (T4.setTop (mkF m 11 #[.val (.ref a), .val (.ref pa)] [(.int ((Int32.ofNat cs.length) - (Int32.ofNat ps.length))), (.ref pa), (.ref a)])) t_ → Steps _ _ _ _ t_ := fun t_ k_ => pre0 t_ (by
    refine XS.aloadN X0.here hx rfl (dd hy dJ42_77_0) rfl rfl ?_
    refine XS.aloadN X0.here hx rfl (dd hy dJ42_77_1) rfl rfl ?_
    refine XS.aloadN X0.here hx rfl (dd hy dJ42_77_2) rfl rfl ?_
    refine st2.trans ?_
    show Steps _ _ _ (T2.setTop (mkF m 6 #[.val (.ref a), .val (.ref pa)] [(.int (Int32.ofNat cs.length)), (.ref pa), (.ref a)])) _
    refine XS.aloadN X2.here hx rfl (dd hy dJ42_77_6) rfl rfl ?_
    refine st4.trans ?_
    show Steps _ _ _ (T4.setTop (mkF m 10 #[.val (.ref a), .val (.ref pa)] [(.int (Int32.ofNat ps.length)), (.int (Int32.ofNat cs.length)), (.ref pa), (.ref a)])) _
    refine XS.isub X4.here hx rfl (dd hy dJ42_77_10) rfl ?_
    exact k_)
  by_cases h6 : ps.length ≤ cs.length
  · have s7 : ∀ t_, Steps p.tables e below (T4.setTop (mkF m 11 #[.val (.ref a), .val (.ref pa)] [(.int ((Int32.ofNat cs.length) - (Int32.ofNat ps.length))), (.ref pa), (.ref a)])) t_ → Steps p.tables e below (s₁.setTop (entryFrame m #[(.ref a), (.ref pa)] 2)) t_ := fun t_ k_ => s5 t_ (castTop (by rfl) k_)
    have Zc8 : n0 ≤ h0.size := by omega
    obtain ⟨cq9, kq9, q9a, q9b, q9c⟩ := isOf hZ e4 I5
    obtain ⟨_, _, ⟨T9, L9, k9, n9⟩, -, X9, ⟨Lc9, hQ9, l9, y9, z9⟩, st9⟩ := X4.virtualBack hx (y := M18_) (z := M18_) hown (mvT hZ (own_m hw 36 rfl)) (mvT hZ (own_m hw 37 rfl)) (notFace_of_selects (args := #[]) (mvT hZ (own_m hw 39 rfl))) (mvT hZ (own_m hw 39 rfl)) (mvT hZ (own_m hw 38 rfl)) (by decide) (backOf (W := 0) (rmSW l Z a0 hw [] a pa cst b kb cs pb kp ps (cs.length - ps.length) h0 n0 Zc8 I1 I2 I3 I4 OX hcst I5 I6 I7 I8 I9 I10 I11 I12 hb hchs hlp hcp hp7 (by omega)) hZ (own_m hw 40 rfl) (own_m hw 7 rfl) (by decide) (by decide)) q9a q9c (g := (mkF m 11 #[.val (.ref a), .val (.ref pa)] [(.int (Int32.ofNat (cs.length - ps.length))), (.ref pa), (.ref a)])) rfl (by rw [hml]; rfl) (Steps.refl _) (argsL := [(.ref pa), (.int (Int32.ofNat (cs.length - ps.length)))]) (rest := []) (lenOf pd__Ljava_lang_String_I_Z rfl) rfl (by show 2 * 0 + _ ≤ _; exact Nat.le_of_eq rfl) (dd hy dJ42_77_11) (fun _ _ => ⟨rfl, e4, (by decide : 0 + 0 ≤ _), (by decide : 0 + 0 ≤ _)⟩)
    dsimp only [Pt.U, Pt.locs, Pt.cells, Pt.slots] at X9 l9 y9 z9 st9 hQ9
    subst l9 y9 z9
    obtain ⟨rfl, N9q, e9⟩ := hQ9
    have N9 := Fr.app N4 N9q
    have s10 : ∀ t_, Steps p.tables e below (T9.setTop (mkF m 14 #[.val (.ref a), .val (.ref pa)] [(.int (if own_at ps cs (cs.length - ps.length) then (1 : Int32) else (0 : Int32)))])) t_ → Steps _ _ _ _ t_ := fun t_ k_ => s7 t_ (by
      show Steps _ _ _ (T4.setTop (mkF m 11 #[.val (.ref a), .val (.ref pa)] [(.int ((Int32.ofNat cs.length) - (Int32.ofNat ps.length))), (.ref pa), (.ref a)])) _
      refine castTop (g' := (mkF m 11 #[.val (.ref a), .val (.ref pa)] [(.int (Int32.ofNat (cs.length - ps.length))), (.ref pa), (.ref a)])) (by rw [own_subn (by omega)]) ?_
      show Steps _ _ _ (T4.setTop (mkF m 11 #[.val (.ref a), .val (.ref pa)] [(.int (Int32.ofNat (cs.length - ps.length))), (.ref pa), (.ref a)])) _
      refine st9.trans ?_
      show Steps _ _ _ (T9.setTop (mkF m 14 #[.val (.ref a), .val (.ref pa)] [(.int (if own_at ps cs (cs.length - ps.length) then (1 : Int32) else (0 : Int32)))])) _
      exact k_)
    obtain ⟨fs, hr, hrun, hended, hW, hsame⟩ := X9.leave (v := some (.int (nar .boolean (if own_at ps cs (cs.length - ps.length) then (1 : Int32) else (0 : Int32))))) (fun h => by rw [Bd.returns] at h; cases h)
    refine ⟨_, _, s10 _ ?_, hrun, hended, _, _, rfl, ?_, ⟨_, rfl⟩, hW, hsame.mono (by decide) (by decide)⟩
    · exact retN X9 hx (t := .boolean) Bd.returns (by simp) (dd hy dJ42_77_14) hr
    · show Q_rmEW Z _ _ _ _ _ _ _ _ _ h0 n0 _ T9.heap _
      rw [e9]
      exact ⟨(by rw [own_narb]), N9, rfl⟩
  · have s11 : ∀ t_, Steps p.tables e below (T4.setTop (mkF m 11 #[.val (.ref a), .val (.ref pa)] [(.int ((Int32.ofNat cs.length) - (Int32.ofNat ps.length))), (.ref pa), (.ref a)])) t_ → Steps p.tables e below (s₁.setTop (entryFrame m #[(.ref a), (.ref pa)] 2)) t_ := fun t_ k_ => s5 t_ (castTop (by rfl) k_)
    have Zc12 : n0 ≤ h0.size := by omega
    obtain ⟨cq13, kq13, q13a, q13b, q13c⟩ := isOf hZ e4 I5
    obtain ⟨_, _, ⟨T13, L13, k13, n13⟩, -, X13, ⟨Lc13, hQ13, l13, y13, z13⟩, st13⟩ := X4.virtualBack hx (y := M18_) (z := M18_) hown (mvT hZ (own_m hw 36 rfl)) (mvT hZ (own_m hw 37 rfl)) (notFace_of_selects (args := #[]) (mvT hZ (own_m hw 39 rfl))) (mvT hZ (own_m hw 39 rfl)) (mvT hZ (own_m hw 38 rfl)) (by decide) (backOf (W := 0) (rmSWg l Z a0 hw [] a pa ((Int32.ofNat cs.length) - (Int32.ofNat ps.length)) h0 n0 Zc12 (own_subneg (by omega) (by omega))) hZ (own_m hw 40 rfl) (own_m hw 7 rfl) (by decide) (by decide)) q13a q13c (g := (mkF m 11 #[.val (.ref a), .val (.ref pa)] [(.int ((Int32.ofNat cs.length) - (Int32.ofNat ps.length))), (.ref pa), (.ref a)])) rfl (by rw [hml]; rfl) (Steps.refl _) (argsL := [(.ref pa), (.int ((Int32.ofNat cs.length) - (Int32.ofNat ps.length)))]) (rest := []) (lenOf pd__Ljava_lang_String_I_Z rfl) rfl (by show 2 * 0 + _ ≤ _; exact Nat.le_of_eq rfl) (dd hy dJ42_77_11) (fun _ _ => ⟨rfl, e4, (by decide : 0 + 0 ≤ _), (by decide : 0 + 0 ≤ _)⟩)
    dsimp only [Pt.U, Pt.locs, Pt.cells, Pt.slots] at X13 l13 y13 z13 st13 hQ13
    subst l13 y13 z13
    obtain ⟨rfl, N13q, e13⟩ := hQ13
    have N13 := Fr.app N4 N13q
    have s14 : ∀ t_, Steps p.tables e below (T13.setTop (mkF m 14 #[.val (.ref a), .val (.ref pa)] [(.int (0 : Int32))])) t_ → Steps _ _ _ _ t_ := fun t_ k_ => s11 t_ (by
      show Steps _ _ _ (T4.setTop (mkF m 11 #[.val (.ref a), .val (.ref pa)] [(.int ((Int32.ofNat cs.length) - (Int32.ofNat ps.length))), (.ref pa), (.ref a)])) _
      refine st13.trans ?_
      show Steps _ _ _ (T13.setTop (mkF m 14 #[.val (.ref a), .val (.ref pa)] [(.int (0 : Int32))])) _
      exact k_)
    obtain ⟨fs, hr, hrun, hended, hW, hsame⟩ := X13.leave (v := some (.int (0 : Int32))) (fun h => by rw [Bd.returns] at h; cases h)
    refine ⟨_, _, s14 _ ?_, hrun, hended, _, _, rfl, ?_, ⟨_, rfl⟩, hW, hsame.mono (by decide) (by decide)⟩
    · exact retN X13 hx (t := .boolean) Bd.returns (by simp) (dd hy dJ42_77_14) hr
    · show Q_rmEW Z _ _ _ _ _ _ _ _ _ h0 n0 _ T13.heap _
      rw [e13]
      exact ⟨(by rw [if_neg (fun q => h6 (by have := q.1; omega))]), N13, rfl⟩
theorem pn_io_dyeline_store_Layout : plainName "io/dyeline/store/Layout" = true := by first | (simp [plainName, overriddenIn]; done) | decide +kernel
theorem dP8_2_0 : decode CP8_2 0 = .ok (.aload_n 0, 1) := by decide +kernel
theorem dP8_2_1 : decode CP8_2 1 = .ok (.ldc 12, 2) := by decide +kernel
theorem pd__Ljava_lang_String__Z : parseMethodDescriptor "(Ljava/lang/String;)Z" = some ⟨[(.object "java/lang/String")], some .boolean⟩ := by decide +kernel
theorem dP8_2_3 : decode CP8_2 3 = .ok (.invokevirtual 14, 3) := by decide +kernel
theorem dP8_2_6 : decode CP8_2 6 = .ok (.ifCond .eq 16, 3) := by decide +kernel
theorem dP8_2_9 : decode CP8_2 9 = .ok (.aload_n 0, 1) := by decide +kernel
theorem dP8_2_10 : decode CP8_2 10 = .ok (.ldc 20, 2) := by decide +kernel
theorem dP8_2_12 : decode CP8_2 12 = .ok (.invokevirtual 22, 3) := by decide +kernel
theorem dP8_2_15 : decode CP8_2 15 = .ok (.ifCond .eq 7, 3) := by decide +kernel
theorem dP8_2_18 : decode CP8_2 18 = .ok (.iconst 1, 1) := by decide +kernel
theorem dP8_2_19 : decode CP8_2 19 = .ok (.goto 4, 3) := by decide +kernel
theorem dP8_2_23 : decode CP8_2 23 = .ok (.ireturn, 1) := by decide +kernel
theorem dP8_2_22 : decode CP8_2 22 = .ok (.iconst 0, 1) := by decide +kernel
theorem ef_rmIDF (m : MethodId) (x0 : Addr) : entryFrame m #[(.ref x0)] 1 = mkF m 0 #[.val (.ref x0)] [] := by first | (simp [entryFrame, mkF, argsToLocals, Value.category]; done) | rfl
abbrev R_rmIDF : Room := ({ frames := 4, cells := 4, slots := 48, locals := 59 } : Room)
def Q_rmIDF (Z : State) (sx : Addr) (cst : Int32) (bs : Addr) (ks : ClassId) (cs : List Int32) (h0 : Heap) (n0 : Nat) (v : Option Value) (h : Heap) (L : List Loc) : Prop := (v = some (.int (if own_at own_tp cs 0 ∧ own_at own_tj cs (cs.length - own_tj.length) then (1 : Int32) else (0 : Int32)))) ∧ (Fr n0 L) ∧ (Keep h0 h [])
set_option maxRecDepth 65536 in
set_option maxHeartbeats 40000000 in
theorem rmIDF (l : Launch) (Z : State) (a0 : Array Value) (hw : HW Z a0) (ws : List Jvm.Cond) (sx : Addr) (cst : Int32) (bs : Addr) (ks : ClassId) (cs : List Int32) (h0 : Heap) (n0 : Nat) (Z0 : n0 ≤ h0.size) (I1 : Sta Z Z.heap cS cC "Z" (.int cst)) (I2 : Sta Z Z.heap cU cD "Z" (.int (1 : Int32))) (I3 : Sta Z Z.heap cU cH "I" (.int (0 : Int32))) (I4 : Sta Z Z.heap cU cL "I" (.int (8 : Int32))) (OX : Old Z n0 h0) (hcst : ¬ (cst = (0 : Int32))) (I5 : Exa Z h0 sx cS) (I6 : Fld Z h0 sx cS "value" "[B" (.ref bs)) (I7 : Fld Z h0 sx cS "coder" "B" (.int (own_cod cs))) (I8 : Arv Z h0 bs ks .byte (Int32.ofNat (own_enl cs)) (own_enc cs) v0_) (hb : cs.length ≤ 15) (hchs : own_chs cs) :
    MetFree l M21_ (head1 (Jvm.Cond.code M21_ prog_8_method_2_code 1 (some .boolean) :: ws) R_rmIDF) (fun ar_ U => ar_ = #[(.ref sx)] ∧ Z.Warmed39 U.vm ∧ U.heap = h0 ∧ CHv Z ELs U.vm h0) (fun _ _ _ _ _ => True) (fun _ U oc_ U' => ∃ v L, oc_ = .returned v ∧ Q_rmIDF Z sx cst bs ks cs h0 n0 v U'.heap L ∧ CHr Z ELs U.vm U.heap U'.vm U'.heap ∧ ReturnedEndW U oc_ U' L R_rmIDF.cells R_rmIDF.slots) := by
  refine MetFree.of_bodySF (plainFor_of_name pn_io_dyeline_store_Layout) hisR ?_
  intro p e s m args below meth c s₁ Bd hml0 hP hK
  obtain ⟨rfl, hZ, hh, hCH⟩ := hP
  have hx := Bd.exec
  have hy := Bd.bytes
  have hml : c.maxLocals = 1 := hml0
  have hown : s.vm.findClass "io/dyeline/store/Layout" = some m.cls := findClass_of_methodNamed Bd.named
  have hnm := (name_of_methodNamed Bd.named Bd.method).1
  have X0 : Stand p l e R_rmIDF (s.setVm s.vm) m #[(.ref sx)] below meth c s₁ [] 0 0 := Stand.of_body Bd
  have e0 : s₁.heap = h0 := by rw [← hh, Bd.state]; rfl
  have N0 := Fr.nil n0
  have pre0 := own_pre (p := p) (e := e) (below := below) (T := s₁) (ef_rmIDF m sx)
  have hEL : EW Z a0 ELs := own_EW hw
  have wS : ∀ a ∈ Bundle.stringAtoms, a.before a0 Z = true := own_wS hw
  have hS : s.Since s.vm s.heap.size := (State.WarmedH.refl s).since _
  have hk : s.heap.size ≤ h0.size := by rw [hh]; exact Nat.le_refl _
  have CR : CHr Z ELs s.vm h0 s.vm h0 := CHr.refl hCH
  have lt_I5 : @LT.lt Nat _ sx h0.size := I5.lt
  have lt_I8 : @LT.lt Nat _ bs h0.size := I8.lt
  have s2 : ∀ t_, Steps p.tables e below (s₁.setTop (mkF m 1 #[.val (.ref sx)] [(.ref sx)])) t_ → Steps _ _ _ _ t_ := fun t_ k_ => pre0 t_ (by
    refine XS.aloadN X0.here hx rfl (dd hy dP8_2_0) rfl rfl ?_
    exact k_)
  obtain ⟨a1, T1, h1, k1, b1, kk1, X1, e1, E1, hS, hk, hZ, hown, Ex1, Fc1, Fv1, Av1, la1, lb1, Cp1, Li1, Sa1, st1⟩ := ldcCH X0 hx hZ hown (own_m hw 30 rfl) wS e0 hS hk hEL (List.mem_of_getElem? (i := 0) rfl) CR.1 (vs := [(.int (112 : Int32)), (.int (97 : Int32)), (.int (114 : Int32)), (.int (116 : Int32)), (.int (45 : Int32))]) (z := (5 : Int32)) ⟨by decide, by decide⟩ (by decide) rfl (g := (mkF m 1 #[.val (.ref sx)] [(.ref sx)])) rfl (dd hy dP8_2_1) (n := 20) (by decide) (by decide) (by decide) (by decide)
  have z3 : h0.size ≤ h1.size := E1.1
  have CR := CR.trans Cp1
  have la1 : @LT.lt Nat _ a1 h1.size := la1
  have lb1 : @LT.lt Nat _ b1 h1.size := lb1
  have Fc4 : Fld Z h1 a1 cS "coder" "B" (.int (own_cod own_tp)) := Fc1
  have Av4 : Arv Z h1 b1 kk1 .byte (Int32.ofNat (own_enl own_tp)) (own_enc own_tp) v0_ := own_tp_lit Av1
  have O5 : Old Z n0 h1 := (OX.ext E1)
  have f6 : Exa Z h1 sx cS := (I5.ext E1)
  have f7 : Fld Z h1 sx cS "value" "[B" (.ref bs) := (I6.ext E1)
  have f8 : Fld Z h1 sx cS "coder" "B" (.int (own_cod cs)) := (I7.ext E1)
  have f9 : Arv Z h1 bs ks .byte (Int32.ofNat (own_enl cs)) (own_enc cs) v0_ := (I8.ext E1)
  have Zc10 : n0 ≤ h1.size := by omega
  obtain ⟨cq11, kq11, q11a, q11b, q11c⟩ := isOf hZ e1 f6
  obtain ⟨_, _, ⟨T11, L11, k11, n11⟩, -, X11, ⟨Lc11, hQ11, l11, y11, z11⟩, st11⟩ := X1.virtualBack hx (y := M19_) (z := M19_) hown (mvT hZ (own_m hw 31 rfl)) (mvT hZ (own_m hw 32 rfl)) (notFace_of_selects (args := #[]) (mvT hZ (own_m hw 34 rfl))) (mvT hZ (own_m hw 34 rfl)) (mvT hZ (own_m hw 33 rfl)) (by decide) (backOf (W := 0) (rmSW1 l Z a0 hw [] sx a1 cst bs ks cs b1 kk1 own_tp h1 n0 Zc10 I1 I2 I3 I4 O5 hcst f6 f7 f8 f9 Ex1 Fv1 Fc4 Av4 hb hchs own_tp_lat own_tp_chs (by decide)) hZ (own_m hw 35 rfl) (own_m hw 7 rfl) (by decide) (by decide)) q11a q11c (g := (mkF m 3 #[.val (.ref sx)] [(.ref a1), (.ref sx)])) rfl (by rw [hml]; rfl) (Steps.refl _) (argsL := [(.ref a1)]) (rest := []) (lenOf pd__Ljava_lang_String__Z rfl) rfl (by show 2 * 0 + _ ≤ _; exact Nat.le_of_eq rfl) (dd hy dP8_2_3) (fun _ _ => ⟨rfl, e1, (by decide : 2 + 0 ≤ _), (by decide : 24 + 0 ≤ _)⟩)
  dsimp only [Pt.U, Pt.locs, Pt.cells, Pt.slots] at X11 l11 y11 z11 st11 hQ11
  subst l11 y11 z11
  obtain ⟨rfl, N11q, e11⟩ := hQ11
  have N11 := Fr.app N0 N11q
  have s12 : ∀ t_, Steps p.tables e below (T11.setTop (mkF m 6 #[.val (.ref sx)] [(.int (if own_at own_tp cs 0 then (1 : Int32) else (0 : Int32)))])) t_ → Steps _ _ _ _ t_ := fun t_ k_ => s2 t_ (by
    refine st1 _ ?_
    show Steps _ _ _ (T1.setTop (mkF m 3 #[.val (.ref sx)] [(.ref a1), (.ref sx)])) _
    refine st11.trans ?_
    show Steps _ _ _ (T11.setTop (mkF m 6 #[.val (.ref sx)] [(.int (if own_at own_tp cs 0 then (1 : Int32) else (0 : Int32)))])) _
    exact k_)
  by_cases h13 : own_at own_tp cs 0
  · have s14 : ∀ t_, Steps p.tables e below (T11.setTop (mkF m 6 #[.val (.ref sx)] [(.int (1 : Int32))])) t_ → Steps p.tables e below (s₁.setTop (entryFrame m #[(.ref sx)] 1)) t_ := fun t_ k_ => s12 t_ (castTop (by simp only [if_pos h13]) k_)
    have s16 : ∀ t_, Steps p.tables e below (T11.setTop (mkF m 10 #[.val (.ref sx)] [(.ref sx)])) t_ → Steps _ _ _ _ t_ := fun t_ k_ => s14 t_ (by
      refine XS.ifNo X11.here hx rfl (dd hy dP8_2_6) rfl ((if0 _ _).trans (feq (by decide : ¬ ((1 : Int32) = (0 : Int32)))).1) ?_
      show Steps _ _ _ (T11.setTop (mkF m 9 #[.val (.ref sx)] [])) _
      refine XS.aloadN X11.here hx rfl (dd hy dP8_2_9) rfl rfl ?_
      exact k_)
    obtain ⟨a15, T15, h15, k15, b15, kk15, X15, e15, E15, hS, hk, hZ, hown, Ex15, Fc15, Fv15, Av15, la15, lb15, Cp15, Li15, Sa15, st15⟩ := ldcCH X11 hx hZ hown (own_m hw 93 rfl) wS e11 hS hk hEL (List.mem_of_getElem? (i := 1) rfl) CR.1 (vs := [(.int (46 : Int32)), (.int (106 : Int32)), (.int (115 : Int32)), (.int (111 : Int32)), (.int (110 : Int32))]) (z := (5 : Int32)) ⟨by decide, by decide⟩ (by decide) rfl (g := (mkF m 10 #[.val (.ref sx)] [(.ref sx)])) rfl (dd hy dP8_2_10) (n := 20) (by decide) (by decide) (by decide) (by decide)
    have z17 : h1.size ≤ h15.size := E15.1
    have CR := CR.trans Cp15
    have la15 : @LT.lt Nat _ a15 h15.size := la15
    have lb15 : @LT.lt Nat _ b15 h15.size := lb15
    have Fc18 : Fld Z h15 a15 cS "coder" "B" (.int (own_cod own_tj)) := Fc15
    have Av18 : Arv Z h15 b15 kk15 .byte (Int32.ofNat (own_enl own_tj)) (own_enc own_tj) v0_ := own_tj_lit Av15
    have O19 : Old Z n0 h15 := (O5.ext E15)
    have f20 : Exa Z h15 sx cS := (f6.ext E15)
    have f21 : Fld Z h15 sx cS "value" "[B" (.ref bs) := (f7.ext E15)
    have f22 : Fld Z h15 sx cS "coder" "B" (.int (own_cod cs)) := (f8.ext E15)
    have f23 : Arv Z h15 bs ks .byte (Int32.ofNat (own_enl cs)) (own_enc cs) v0_ := (f9.ext E15)
    have Zc24 : n0 ≤ h15.size := by omega
    obtain ⟨cq25, kq25, q25a, q25b, q25c⟩ := isOf hZ e15 f20
    obtain ⟨_, _, ⟨T25, L25, k25, n25⟩, -, X25, ⟨Lc25, hQ25, l25, y25, z25⟩, st25⟩ := X15.virtualBack hx (y := M20_) (z := M20_) hown (mvT hZ (own_m hw 94 rfl)) (mvT hZ (own_m hw 95 rfl)) (notFace_of_selects (args := #[]) (mvT hZ (own_m hw 97 rfl))) (mvT hZ (own_m hw 97 rfl)) (mvT hZ (own_m hw 96 rfl)) (by decide) (backOf (W := 0) (rmEW l Z a0 hw [] sx a15 cst bs ks cs b15 kk15 own_tj h15 n0 Zc24 I1 I2 I3 I4 O19 hcst f20 f21 f22 f23 Ex15 Fv15 Fc18 Av18 hb hchs own_tj_lat own_tj_chs (by decide)) hZ (own_m hw 98 rfl) (own_m hw 7 rfl) (by decide) (by decide)) q25a q25c (g := (mkF m 12 #[.val (.ref sx)] [(.ref a15), (.ref sx)])) rfl (by rw [hml]; rfl) (Steps.refl _) (argsL := [(.ref a15)]) (rest := []) (lenOf pd__Ljava_lang_String__Z rfl) rfl (by show 2 * 0 + _ ≤ _; exact Nat.le_of_eq rfl) (dd hy dP8_2_12) (fun _ _ => ⟨rfl, e15, (by decide : 4 + 0 ≤ _), (by decide : 48 + 0 ≤ _)⟩)
    dsimp only [Pt.U, Pt.locs, Pt.cells, Pt.slots] at X25 l25 y25 z25 st25 hQ25
    subst l25 y25 z25
    obtain ⟨rfl, N25q, e25⟩ := hQ25
    have N25 := Fr.app N11 N25q
    have s26 : ∀ t_, Steps p.tables e below (T25.setTop (mkF m 15 #[.val (.ref sx)] [(.int (if own_at own_tj cs (cs.length - own_tj.length) then (1 : Int32) else (0 : Int32)))])) t_ → Steps _ _ _ _ t_ := fun t_ k_ => s16 t_ (by
      refine st15 _ ?_
      show Steps _ _ _ (T15.setTop (mkF m 12 #[.val (.ref sx)] [(.ref a15), (.ref sx)])) _
      refine st25.trans ?_
      show Steps _ _ _ (T25.setTop (mkF m 15 #[.val (.ref sx)] [(.int (if own_at own_tj cs (cs.length - own_tj.length) then (1 : Int32) else (0 : Int32)))])) _
      exact k_)
    by_cases h27 : own_at own_tj cs (cs.length - own_tj.length)
    · have s28 : ∀ t_, Steps p.tables e below (T25.setTop (mkF m 15 #[.val (.ref sx)] [(.int (1 : Int32))])) t_ → Steps p.tables e below (s₁.setTop (entryFrame m #[(.ref sx)] 1)) t_ := fun t_ k_ => s26 t_ (castTop (by simp only [if_pos h27]) k_)
      have s29 : ∀ t_, Steps p.tables e below (T25.setTop (mkF m 23 #[.val (.ref sx)] [(.int (1 : Int32))])) t_ → Steps _ _ _ _ t_ := fun t_ k_ => s28 t_ (by
        refine XS.ifNo X25.here hx rfl (dd hy dP8_2_15) rfl ((if0 _ _).trans (feq (by decide : ¬ ((1 : Int32) = (0 : Int32)))).1) ?_
        show Steps _ _ _ (T25.setTop (mkF m 18 #[.val (.ref sx)] [])) _
        refine XS.iconst X25.here hx rfl (dd hy dP8_2_18) ?_
        refine XS.goto X25.here hx rfl (pc0 := 19) (pc' := 23) rfl (dd hy dP8_2_19) (by decide) (by decide) ?_
        exact k_)
      obtain ⟨fs, hr, hrun, hended, hREW⟩ := X25.leaveW hS (by first | exact Nat.le_refl _ | (rw [e25]; exact hk)) (v := some (.int (1 : Int32))) (fun h => by rw [Bd.returns] at h; cases h)
      refine ⟨_, _, s29 _ ?_, hrun, hended, _, _, rfl, ?_, (by show CHr Z ELs s.vm s.heap T25.vm T25.heap; rw [hh, e25]; exact CR.trans (CHv.at X25 hZ hEL CR.1)), hREW.1, hREW.2.1, hREW.2.2.1, hREW.2.2.2.mono (by decide) (by decide)⟩
      · exact retN X25 hx (t := .boolean) Bd.returns (by simp) (dd hy dP8_2_23) hr
      · show Q_rmIDF Z _ _ _ _ _ h0 n0 _ T25.heap _
        rw [e25]
        exact ⟨(by rw [if_pos ⟨h13, h27⟩]), N25, (((Keep.refl h0 []).ext E1).ext E15)⟩
    · have s30 : ∀ t_, Steps p.tables e below (T25.setTop (mkF m 15 #[.val (.ref sx)] [(.int (0 : Int32))])) t_ → Steps p.tables e below (s₁.setTop (entryFrame m #[(.ref sx)] 1)) t_ := fun t_ k_ => s26 t_ (castTop (by simp only [if_neg h27]) k_)
      have s31 : ∀ t_, Steps p.tables e below (T25.setTop (mkF m 23 #[.val (.ref sx)] [(.int (0 : Int32))])) t_ → Steps _ _ _ _ t_ := fun t_ k_ => s30 t_ (by
        refine XS.ifYes X25.here hx rfl (pc0 := 15) (pc' := 22) rfl (dd hy dP8_2_15) rfl ((if0 _ _).trans (teq (rfl : (0 : Int32) = (0 : Int32))).1) (by decide) (by decide) ?_
        show Steps _ _ _ (T25.setTop (mkF m 22 #[.val (.ref sx)] [])) _
        refine XS.iconst X25.here hx rfl (dd hy dP8_2_22) ?_
        exact k_)
      obtain ⟨fs, hr, hrun, hended, hREW⟩ := X25.leaveW hS (by first | exact Nat.le_refl _ | (rw [e25]; exact hk)) (v := some (.int (0 : Int32))) (fun h => by rw [Bd.returns] at h; cases h)
      refine ⟨_, _, s31 _ ?_, hrun, hended, _, _, rfl, ?_, (by show CHr Z ELs s.vm s.heap T25.vm T25.heap; rw [hh, e25]; exact CR.trans (CHv.at X25 hZ hEL CR.1)), hREW.1, hREW.2.1, hREW.2.2.1, hREW.2.2.2.mono (by decide) (by decide)⟩
      · exact retN X25 hx (t := .boolean) Bd.returns (by simp) (dd hy dP8_2_23) hr
      · show Q_rmIDF Z _ _ _ _ _ h0 n0 _ T25.heap _
        rw [e25]
        exact ⟨(by rw [if_neg (fun q => h27 q.2)]), N25, (((Keep.refl h0 []).ext E1).ext E15)⟩
  · have s32 : ∀ t_, Steps p.tables e below (T11.setTop (mkF m 6 #[.val (.ref sx)] [(.int (0 : Int32))])) t_ → Steps p.tables e below (s₁.setTop (entryFrame m #[(.ref sx)] 1)) t_ := fun t_ k_ => s12 t_ (castTop (by simp only [if_neg h13]) k_)
    have s33 : ∀ t_, Steps p.tables e below (T11.setTop (mkF m 23 #[.val (.ref sx)] [(.int (0 : Int32))])) t_ → Steps _ _ _ _ t_ := fun t_ k_ => s32 t_ (by
      refine XS.ifYes X11.here hx rfl (pc0 := 6) (pc' := 22) rfl (dd hy dP8_2_6) rfl ((if0 _ _).trans (teq (rfl : (0 : Int32) = (0 : Int32))).1) (by decide) (by decide) ?_
      show Steps _ _ _ (T11.setTop (mkF m 22 #[.val (.ref sx)] [])) _
      refine XS.iconst X11.here hx rfl (dd hy dP8_2_22) ?_
      exact k_)
    obtain ⟨fs, hr, hrun, hended, hREW⟩ := X11.leaveW hS (by first | exact Nat.le_refl _ | (rw [e11]; exact hk)) (v := some (.int (0 : Int32))) (fun h => by rw [Bd.returns] at h; cases h)
    refine ⟨_, _, s33 _ ?_, hrun, hended, _, _, rfl, ?_, (by show CHr Z ELs s.vm s.heap T11.vm T11.heap; rw [hh, e11]; exact CR.trans (CHv.at X11 hZ hEL CR.1)), hREW.1, hREW.2.1, hREW.2.2.1, hREW.2.2.2.mono (by decide) (by decide)⟩
    · exact retN X11 hx (t := .boolean) Bd.returns (by simp) (dd hy dP8_2_23) hr
    · show Q_rmIDF Z _ _ _ _ _ h0 n0 _ T11.heap _
      rw [e11]
      exact ⟨(by rw [if_neg (fun q => h13 q.1)]), N11, ((Keep.refl h0 []).ext E1)⟩
theorem pn_io_dyeline_store_LayoutIsDataFilePinLaw : plainName "io/dyeline/store/LayoutIsDataFilePinLaw" = true := by first | (simp [plainName, overriddenIn]; done) | decide +kernel
theorem d2_0 : decode C2 0 = .ok (.iload 4, 2) := by decide +kernel
theorem d2_2 : decode C2 2 = .ok (.bipush 8, 2) := by decide +kernel
theorem d2_4 : decode C2 4 = .ok (.if_icmp .ge 13, 3) := by decide +kernel
theorem d2_7 : decode C2 7 = .ok (.lload_n 0, 1) := by decide +kernel
theorem d2_8 : decode C2 8 = .ok (.bipush 8, 2) := by decide +kernel
theorem d2_10 : decode C2 10 = .ok (.iload 4, 2) := by decide +kernel
theorem d2_12 : decode C2 12 = .ok (.imul, 1) := by decide +kernel
theorem d2_13 : decode C2 13 = .ok (.lushr, 1) := by decide +kernel
theorem d2_14 : decode C2 14 = .ok (.goto 13, 3) := by decide +kernel
theorem d2_17 : decode C2 17 = .ok (.lload_n 2, 1) := by decide +kernel
theorem d2_18 : decode C2 18 = .ok (.bipush 8, 2) := by decide +kernel
theorem d2_20 : decode C2 20 = .ok (.iload 4, 2) := by decide +kernel
theorem d2_22 : decode C2 22 = .ok (.bipush 8, 2) := by decide +kernel
theorem d2_24 : decode C2 24 = .ok (.isub, 1) := by decide +kernel
theorem d2_25 : decode C2 25 = .ok (.imul, 1) := by decide +kernel
theorem d2_26 : decode C2 26 = .ok (.lushr, 1) := by decide +kernel
theorem d2_27 : decode C2 27 = .ok (.lstore 5, 2) := by decide +kernel
theorem d2_29 : decode C2 29 = .ok (.lload 5, 2) := by decide +kernel
theorem d2_31 : decode C2 31 = .ok (.ldc2_w 7, 3) := by decide +kernel
theorem d2_34 : decode C2 34 = .ok (.land, 1) := by decide +kernel
theorem d2_35 : decode C2 35 = .ok (.l2i, 1) := by decide +kernel
theorem d2_36 : decode C2 36 = .ok (.i2c, 1) := by decide +kernel
theorem d2_37 : decode C2 37 = .ok (.ireturn, 1) := by decide +kernel
theorem ef_rmDr (m : MethodId) (x0 : Int64) (x1 : Int64) (x2 : Int32) : entryFrame m #[(.long x0), (.long x1), (.int x2)] 7 = mkF m 0 #[.val (.long x0), .second, .val (.long x1), .second, .val (.int x2), .unset, .unset] [] := by first | (simp [entryFrame, mkF, argsToLocals, Value.category]; done) | rfl
abbrev R_rmDr : Room := ({ frames := 0, cells := 0, slots := 0, locals := 0 } : Room)
def Q_rmDr (Z : State) (xl : Int64) (yl : Int64) (iv : Int32) (h0 : Heap) (n0 : Nat) (v : Option Value) (h : Heap) (L : List Loc) : Prop := ∃ (dv : Int32), (v = some (.int dv)) ∧ (Fr n0 L) ∧ (h = h0) ∧ (¬ (dv < (0 : Int32)) ∧ ¬ ((65535 : Int32) < dv))
set_option maxRecDepth 65536 in
set_option maxHeartbeats 40000000 in
theorem rmDr (l : Launch) (Z : State) (a0 : Array Value) (hw : HW Z a0) (ws : List Jvm.Cond) (xl : Int64) (yl : Int64) (iv : Int32) (h0 : Heap) (n0 : Nat) (Z0 : n0 ≤ h0.size)  :
    MF l Z M22_ (Jvm.Cond.code M22_ method_2_code 7 (some .char) :: ws) R_rmDr #[(.long xl), (.long yl), (.int iv)] h0 (Q_rmDr Z xl yl iv h0 n0) := by
  refine MetFree.of_bodySF (plainFor_of_name pn_io_dyeline_store_LayoutIsDataFilePinLaw) hisR ?_
  intro p e s m args below meth c s₁ Bd hml0 hP hK
  obtain ⟨rfl, hZ, hh⟩ := hP
  have hx := Bd.exec
  have hy := Bd.bytes
  have hml : c.maxLocals = 7 := hml0
  have hown : s.vm.findClass "io/dyeline/store/LayoutIsDataFilePinLaw" = some m.cls := findClass_of_methodNamed Bd.named
  have hnm := (name_of_methodNamed Bd.named Bd.method).1
  have X0 : Stand p l e R_rmDr s m #[(.long xl), (.long yl), (.int iv)] below meth c s₁ [] 0 0 := Stand.of_body Bd
  have e0 : s₁.heap = h0 := by rw [← hh, Bd.state]; rfl
  have N0 := Fr.nil n0
  have pre0 := own_pre (p := p) (e := e) (below := below) (T := s₁) (ef_rmDr m xl yl iv)
  have s1 : ∀ t_, Steps p.tables e below (s₁.setTop (mkF m 4 #[.val (.long xl), .second, .val (.long yl), .second, .val (.int iv), .unset, .unset] [(.int (8 : Int32)), (.int iv)])) t_ → Steps _ _ _ _ t_ := fun t_ k_ => pre0 t_ (by
    refine XS.iload X0.here hx rfl (dd hy d2_0) rfl ?_
    refine XS.bipush X0.here hx rfl (dd hy d2_2) ?_
    exact k_)
  obtain ⟨T2, X2, e2, s2⟩ := seg X0 (fun T' => T'.heap = h0 ∧ ∀ t_, Steps p.tables e below (T'.setTop (mkF m 27 #[.val (.long xl), .second, .val (.long yl), .second, .val (.int iv), .unset, .unset] [(.long (if iv < (8 : Int32) then (ushrJ xl ((8 : Int32) * iv)) else (ushrJ yl ((8 : Int32) * (iv - (8 : Int32))))))])) t_ → Steps p.tables e below (s₁.setTop (entryFrame m #[(.long xl), (.long yl), (.int iv)] 7)) t_) (by
    by_cases h3 : iv < (8 : Int32)
    · have s4 : ∀ t_, Steps p.tables e below (s₁.setTop (mkF m 27 #[.val (.long xl), .second, .val (.long yl), .second, .val (.int iv), .unset, .unset] [(.long (ushrJ xl ((8 : Int32) * iv)))])) t_ → Steps _ _ _ _ t_ := fun t_ k_ => s1 t_ (by
        refine XS.icmpNo X0.here hx rfl (dd hy d2_4) rfl (tlt h3).2.1 ?_
        show Steps _ _ _ (s₁.setTop (mkF m 7 #[.val (.long xl), .second, .val (.long yl), .second, .val (.int iv), .unset, .unset] [])) _
        refine XS.lloadN X0.here hx rfl (dd hy d2_7) rfl ?_
        refine XS.bipush X0.here hx rfl (dd hy d2_8) ?_
        refine XS.iload X0.here hx rfl (dd hy d2_10) rfl ?_
        refine XS.imul X0.here hx rfl (dd hy d2_12) rfl ?_
        refine XS.lushr X0.here hx rfl (dd hy d2_13) rfl ?_
        refine XS.goto X0.here hx rfl (pc0 := 14) (pc' := 27) rfl (dd hy d2_14) (by decide) (by decide) ?_
        show Steps _ _ _ (s₁.setTop (mkF m 27 #[.val (.long xl), .second, .val (.long yl), .second, .val (.int iv), .unset, .unset] [(.long (ushrJ xl ((8 : Int32) * iv)))])) _
        exact k_)
      exact ⟨s₁, X0, e0, fun t_ k_ => s4 t_ (castTop (by simp only [if_pos h3]) k_)⟩
    · have s5 : ∀ t_, Steps p.tables e below (s₁.setTop (mkF m 27 #[.val (.long xl), .second, .val (.long yl), .second, .val (.int iv), .unset, .unset] [(.long (ushrJ yl ((8 : Int32) * (iv - (8 : Int32)))))])) t_ → Steps _ _ _ _ t_ := fun t_ k_ => s1 t_ (by
        refine XS.icmpYes X0.here hx rfl (pc0 := 4) (pc' := 17) rfl (dd hy d2_4) rfl (flt h3).2.1 (by decide) (by decide) ?_
        show Steps _ _ _ (s₁.setTop (mkF m 17 #[.val (.long xl), .second, .val (.long yl), .second, .val (.int iv), .unset, .unset] [])) _
        refine XS.lloadN X0.here hx rfl (dd hy d2_17) rfl ?_
        refine XS.bipush X0.here hx rfl (dd hy d2_18) ?_
        refine XS.iload X0.here hx rfl (dd hy d2_20) rfl ?_
        refine XS.bipush X0.here hx rfl (dd hy d2_22) ?_
        refine XS.isub X0.here hx rfl (dd hy d2_24) rfl ?_
        refine XS.imul X0.here hx rfl (dd hy d2_25) rfl ?_
        show Steps _ _ _ (s₁.setTop (mkF m 26 #[.val (.long xl), .second, .val (.long yl), .second, .val (.int iv), .unset, .unset] [(.int ((8 : Int32) * (iv - (8 : Int32)))), (.long yl)])) _
        refine XS.lushr X0.here hx rfl (dd hy d2_26) rfl ?_
        exact k_)
      exact ⟨s₁, X0, e0, fun t_ k_ => s5 t_ (castTop (by simp only [if_neg h3]) k_)⟩)
  have s6 : ∀ t_, Steps p.tables e below (T2.setTop (mkF m 37 #[.val (.long xl), .second, .val (.long yl), .second, .val (.int iv), .val (.long (if iv < (8 : Int32) then (ushrJ xl ((8 : Int32) * iv)) else (ushrJ yl ((8 : Int32) * (iv - (8 : Int32)))))), .second] [(.int (i2c (((if iv < (8 : Int32) then (ushrJ xl ((8 : Int32) * iv)) else (ushrJ yl ((8 : Int32) * (iv - (8 : Int32))))) &&& (255 : Int64)).toInt32)))])) t_ → Steps _ _ _ _ t_ := fun t_ k_ => s2 t_ (by
    refine XS.lstore X2.here hx rfl (dd hy d2_27) rfl (l' := #[.val (.long xl), .second, .val (.long yl), .second, .val (.int iv), .val (.long (if iv < (8 : Int32) then (ushrJ xl ((8 : Int32) * iv)) else (ushrJ yl ((8 : Int32) * (iv - (8 : Int32)))))), .second]) rfl ?_
    refine XS.lload X2.here hx rfl (dd hy d2_29) rfl ?_
    refine X2.ldc2Long hx hown (mvT hZ (own_m hw 55 rfl)) (g := (mkF m 31 #[.val (.long xl), .second, .val (.long yl), .second, .val (.int iv), .val (.long (if iv < (8 : Int32) then (ushrJ xl ((8 : Int32) * iv)) else (ushrJ yl ((8 : Int32) * (iv - (8 : Int32)))))), .second] [(.long (if iv < (8 : Int32) then (ushrJ xl ((8 : Int32) * iv)) else (ushrJ yl ((8 : Int32) * (iv - (8 : Int32))))))])) rfl (dd hy d2_31) _ ?_
    show Steps _ _ _ (T2.setTop (mkF m 34 #[.val (.long xl), .second, .val (.long yl), .second, .val (.int iv), .val (.long (if iv < (8 : Int32) then (ushrJ xl ((8 : Int32) * iv)) else (ushrJ yl ((8 : Int32) * (iv - (8 : Int32)))))), .second] [(.long (255 : Int64)), (.long (if iv < (8 : Int32) then (ushrJ xl ((8 : Int32) * iv)) else (ushrJ yl ((8 : Int32) * (iv - (8 : Int32))))))])) _
    refine XS.land X2.here hx rfl (dd hy d2_34) rfl ?_
    refine XS.l2i X2.here hx rfl (dd hy d2_35) rfl ?_
    refine XS.i2c X2.here hx rfl (dd hy d2_36) rfl ?_
    exact k_)
  obtain ⟨fs, hr, hrun, hended, hW, hsame⟩ := X2.leave (v := some (.int (nar .char (i2c (((if iv < (8 : Int32) then (ushrJ xl ((8 : Int32) * iv)) else (ushrJ yl ((8 : Int32) * (iv - (8 : Int32))))) &&& (255 : Int64)).toInt32))))) (fun h => by rw [Bd.returns] at h; cases h)
  refine ⟨_, _, s6 _ ?_, hrun, hended, _, _, rfl, ?_, ⟨_, rfl⟩, hW, hsame.mono (by decide) (by decide)⟩
  · exact retN X2 hx (t := .char) Bd.returns (by simp) (dd hy d2_37) hr
  · show Q_rmDr Z _ _ _ h0 n0 _ T2.heap _
    rw [e2]
    exact ⟨_, rfl, N0, rfl, own_rng (q := nar .char (i2c (((if iv < (8 : Int32) then (ushrJ xl ((8 : Int32) * iv)) else (ushrJ yl ((8 : Int32) * (iv - (8 : Int32))))) &&& (255 : Int64)).toInt32))) (z := (i2c (((if iv < (8 : Int32) then (ushrJ xl ((8 : Int32) * iv)) else (ushrJ yl ((8 : Int32) * (iv - (8 : Int32))))) &&& (255 : Int64)).toInt32))) rfl⟩
theorem d3_0 : decode C3 0 = .ok (.aload_n 0, 1) := by decide +kernel
theorem d3_1 : decode C3 1 = .ok (.arraylength, 1) := by decide +kernel
theorem d3_2 : decode C3 2 = .ok (.istore 8, 2) := by decide +kernel
theorem d3_4 : decode C3 4 = .ok (.iload_n 1, 1) := by decide +kernel
theorem d3_5 : decode C3 5 = .ok (.iload 8, 2) := by decide +kernel
theorem d3_7 : decode C3 7 = .ok (.if_icmp .lt 4, 3) := by decide +kernel
theorem d3_10 : decode C3 10 = .ok (.return_, 1) := by decide +kernel
theorem ef_rmPutN (m : MethodId) (x0 : Addr) (x1 : Int32) (x2 : Int32) (x3 : Int32) (x4 : Int64) (x5 : Int64) : entryFrame m #[(.ref x0), (.int x1), (.int x2), (.int x3), (.long x4), (.long x5)] 10 = mkF m 0 #[.val (.ref x0), .val (.int x1), .val (.int x2), .val (.int x3), .val (.long x4), .second, .val (.long x5), .second, .unset, .unset] [] := by first | (simp [entryFrame, mkF, argsToLocals, Value.category]; done) | rfl
abbrev R_rmPutN : Room := ({ frames := 0, cells := 0, slots := 0, locals := 0 } : Room)
def Q_rmPutN (Z : State) (ca : Addr) (pre : Int32) (suf : Int32) (xl : Int64) (yl : Int64) (kc : ClassId) (cs : List Int32) (n : Nat) (i : Nat) (h0 : Heap) (n0 : Nat) (v : Option Value) (h : Heap) (L : List Loc) : Prop := (v = none) ∧ (Fr n0 L) ∧ (h = h0)
set_option maxRecDepth 65536 in
set_option maxHeartbeats 40000000 in
theorem rmPutN (l : Launch) (Z : State) (a0 : Array Value) (hw : HW Z a0) (ws : List Jvm.Cond) (ca : Addr) (pre : Int32) (suf : Int32) (xl : Int64) (yl : Int64) (kc : ClassId) (cs : List Int32) (n : Nat) (i : Nat) (h0 : Heap) (n0 : Nat) (Z0 : n0 ≤ h0.size) (I1 : Arv Z h0 ca kc .char (Int32.ofNat n) (cs.map Value.int) v0_) (hin : n ≤ i) (hi : i ≤ 8000) :
    MF l Z M23_ (Jvm.Cond.code M23_ method_3_code 10 none :: ws) R_rmPutN #[(.ref ca), (.int (Int32.ofNat i)), (.int pre), (.int suf), (.long xl), (.long yl)] h0 (Q_rmPutN Z ca pre suf xl yl kc cs n i h0 n0) := by
  refine MetFree.of_bodySF (plainFor_of_name pn_io_dyeline_store_LayoutIsDataFilePinLaw) hisR ?_
  intro p e s m args below meth c s₁ Bd hml0 hP hK
  obtain ⟨rfl, hZ, hh⟩ := hP
  have hx := Bd.exec
  have hy := Bd.bytes
  have hml : c.maxLocals = 10 := hml0
  have hown : s.vm.findClass "io/dyeline/store/LayoutIsDataFilePinLaw" = some m.cls := findClass_of_methodNamed Bd.named
  have hnm := (name_of_methodNamed Bd.named Bd.method).1
  have X0 : Stand p l e R_rmPutN s m #[(.ref ca), (.int (Int32.ofNat i)), (.int pre), (.int suf), (.long xl), (.long yl)] below meth c s₁ [] 0 0 := Stand.of_body Bd
  have e0 : s₁.heap = h0 := by rw [← hh, Bd.state]; rfl
  have N0 := Fr.nil n0
  have pre0 := own_pre (p := p) (e := e) (below := below) (T := s₁) (ef_rmPutN m ca (Int32.ofNat i) pre suf xl yl)
  have lt_I1 : @LT.lt Nat _ ca h0.size := I1.lt
  obtain ⟨cl1, Ar1, -, S1, M1, -, -⟩ := id I1
  have s2 : ∀ t_, Steps p.tables e below (s₁.setTop (mkF m 10 #[.val (.ref ca), .val (.int (Int32.ofNat i)), .val (.int pre), .val (.int suf), .val (.long xl), .second, .val (.long yl), .second, .val (.int (Int32.ofNat n)), .unset] [])) t_ → Steps _ _ _ _ t_ := fun t_ k_ => pre0 t_ (by
    refine XS.aloadN X0.here hx rfl (dd hy d3_0) rfl rfl ?_
    refine X0.arraylength hx (by rw [e0]; exact Ar1.1) (State.isArrayOf_alike hZ.alike Ar1.2.1) (g := (mkF m 1 #[.val (.ref ca), .val (.int (Int32.ofNat i)), .val (.int pre), .val (.int suf), .val (.long xl), .second, .val (.long yl), .second, .unset, .unset] [(.ref ca)])) rfl rfl (dd hy d3_1) _ ?_
    rw [len_of S1 M1]
    show Steps _ _ _ (s₁.setTop (mkF m 2 #[.val (.ref ca), .val (.int (Int32.ofNat i)), .val (.int pre), .val (.int suf), .val (.long xl), .second, .val (.long yl), .second, .unset, .unset] [(.int (Int32.ofNat n))])) _
    refine XS.istore X0.here hx rfl (dd hy d3_2) rfl (l' := #[.val (.ref ca), .val (.int (Int32.ofNat i)), .val (.int pre), .val (.int suf), .val (.long xl), .second, .val (.long yl), .second, .val (.int (Int32.ofNat n)), .unset]) rfl ?_
    refine XS.iloadN X0.here hx rfl (dd hy d3_4) rfl ?_
    refine XS.iload X0.here hx rfl (dd hy d3_5) rfl ?_
    refine XS.icmpNo X0.here hx rfl (dd hy d3_7) rfl (flt (own_nlt hin hi)).1 ?_
    show Steps _ _ _ (s₁.setTop (mkF m 10 #[.val (.ref ca), .val (.int (Int32.ofNat i)), .val (.int pre), .val (.int suf), .val (.long xl), .second, .val (.long yl), .second, .val (.int (Int32.ofNat n)), .unset] [])) _
    exact k_)
  obtain ⟨fs, hr, hrun, hended, hW, hsame⟩ := X0.leave (v := none) (fun _ => rfl)
  refine ⟨_, _, s2 _ ?_, hrun, hended, _, _, rfl, ?_, ⟨_, rfl⟩, hW, hsame.mono (by decide) (by decide)⟩
  · exact X0.returnOut hx Bd.returns (dd hy d3_10) hr
  · show Q_rmPutN Z _ _ _ _ _ _ _ _ _ h0 n0 _ s₁.heap _
    rw [e0]
    exact ⟨rfl, N0, rfl⟩
theorem d3_11 : decode C3 11 = .ok (.lload 4, 2) := by decide +kernel
theorem d3_13 : decode C3 13 = .ok (.lload 6, 2) := by decide +kernel
theorem d3_15 : decode C3 15 = .ok (.iload_n 1, 1) := by decide +kernel
theorem pd__JJI_C : parseMethodDescriptor "(JJI)C" = some ⟨[.long, .long, .int], some .char⟩ := by decide +kernel
theorem d3_16 : decode C3 16 = .ok (.invokestatic 9, 3) := by decide +kernel
theorem d3_19 : decode C3 19 = .ok (.istore 9, 2) := by decide +kernel
theorem d3_21 : decode C3 21 = .ok (.iload_n 2, 1) := by decide +kernel
theorem d3_22 : decode C3 22 = .ok (.ifCond .eq 16, 3) := by decide +kernel
theorem d3_38 : decode C3 38 = .ok (.iload_n 3, 1) := by decide +kernel
theorem d3_39 : decode C3 39 = .ok (.ifCond .eq 24, 3) := by decide +kernel
theorem d3_63 : decode C3 63 = .ok (.aload_n 0, 1) := by decide +kernel
theorem d3_64 : decode C3 64 = .ok (.iload_n 1, 1) := by decide +kernel
theorem d3_65 : decode C3 65 = .ok (.iload 9, 2) := by decide +kernel
theorem d3_67 : decode C3 67 = .ok (.castore, 1) := by decide +kernel
theorem d3_68 : decode C3 68 = .ok (.return_, 1) := by decide +kernel
theorem d3_42 : decode C3 42 = .ok (.iload_n 1, 1) := by decide +kernel
theorem d3_43 : decode C3 43 = .ok (.iload 8, 2) := by decide +kernel
theorem d3_45 : decode C3 45 = .ok (.iconst 5, 1) := by decide +kernel
theorem d3_46 : decode C3 46 = .ok (.isub, 1) := by decide +kernel
theorem d3_47 : decode C3 47 = .ok (.if_icmp .lt 16, 3) := by decide +kernel
theorem d3_25 : decode C3 25 = .ok (.iload_n 1, 1) := by decide +kernel
theorem d3_26 : decode C3 26 = .ok (.iconst 5, 1) := by decide +kernel
theorem d3_27 : decode C3 27 = .ok (.if_icmp .ge 11, 3) := by decide +kernel
theorem ef_rmPutA5 (m : MethodId) (x0 : Addr) (x1 : Int32) (x2 : Int32) (x3 : Int32) (x4 : Int64) (x5 : Int64) : entryFrame m #[(.ref x0), (.int x1), (.int x2), (.int x3), (.long x4), (.long x5)] 10 = mkF m 0 #[.val (.ref x0), .val (.int x1), .val (.int x2), .val (.int x3), .val (.long x4), .second, .val (.long x5), .second, .unset, .unset] [] := by first | (simp [entryFrame, mkF, argsToLocals, Value.category]; done) | rfl
abbrev R_rmPutA5 : Room := ({ frames := 1, cells := 0, slots := 0, locals := 18 } : Room)
def Q_rmPutA5 (Z : State) (ca : Addr) (pre : Int32) (suf : Int32) (xl : Int64) (yl : Int64) (kc : ClassId) (cs : List Int32) (n : Nat) (i : Nat) (h0 : Heap) (n0 : Nat) (v : Option Value) (h : Heap) (L : List Loc) : Prop := ∃ (ds : List Int32), (v = none) ∧ (Fr n0 L) ∧ (Keep h0 h [ca]) ∧ (Arv Z h ca kc .char (Int32.ofNat n) (ds.map Value.int) v0_) ∧ (ds.length = n) ∧ (own_chs ds)
set_option maxRecDepth 65536 in
set_option maxHeartbeats 40000000 in
theorem rmPutA5 (l : Launch) (Z : State) (a0 : Array Value) (hw : HW Z a0) (ws : List Jvm.Cond) (ca : Addr) (pre : Int32) (suf : Int32) (xl : Int64) (yl : Int64) (kc : ClassId) (cs : List Int32) (n : Nat) (i : Nat) (h0 : Heap) (n0 : Nat) (Z0 : n0 ≤ h0.size) (I1 : Arv Z h0 ca kc .char (Int32.ofNat n) (cs.map Value.int) v0_) (hn : cs.length = n) (hn15 : n ≤ 15) (gc : n0 ≤ ca) (hchs : own_chs cs) (hin : i < n) (hi5 : 5 ≤ i) (hs : i + 5 < n) :
    MF l Z M23_ (Jvm.Cond.code M23_ method_3_code 10 none :: ws) R_rmPutA5 #[(.ref ca), (.int (Int32.ofNat i)), (.int pre), (.int suf), (.long xl), (.long yl)] h0 (Q_rmPutA5 Z ca pre suf xl yl kc cs n i h0 n0) := by
  refine MetFree.of_bodySF (plainFor_of_name pn_io_dyeline_store_LayoutIsDataFilePinLaw) hisR ?_
  intro p e s m args below meth c s₁ Bd hml0 hP hK
  obtain ⟨rfl, hZ, hh⟩ := hP
  have hx := Bd.exec
  have hy := Bd.bytes
  have hml : c.maxLocals = 10 := hml0
  have hown : s.vm.findClass "io/dyeline/store/LayoutIsDataFilePinLaw" = some m.cls := findClass_of_methodNamed Bd.named
  have hnm := (name_of_methodNamed Bd.named Bd.method).1
  have X0 : Stand p l e R_rmPutA5 s m #[(.ref ca), (.int (Int32.ofNat i)), (.int pre), (.int suf), (.long xl), (.long yl)] below meth c s₁ [] 0 0 := Stand.of_body Bd
  have e0 : s₁.heap = h0 := by rw [← hh, Bd.state]; rfl
  have N0 := Fr.nil n0
  have pre0 := own_pre (p := p) (e := e) (below := below) (T := s₁) (ef_rmPutA5 m ca (Int32.ofNat i) pre suf xl yl)
  have lt_I1 : @LT.lt Nat _ ca h0.size := I1.lt
  obtain ⟨cl1, Ar1, -, S1, M1, -, -⟩ := id I1
  have Zc2 : n0 ≤ h0.size := by omega
  obtain ⟨_, _, ⟨T3, L3, k3, n3⟩, -, X3, ⟨Lc3, hQ3, l3, y3, z3⟩, st3⟩ := Jvm.LawKit.callS X0 hx (y := M22_) hown (mvT hZ (own_m hw 52 rfl)) (mvT hZ (own_m hw 53 rfl)) (mvT hZ (own_m hw 3 rfl)) (mvT hZ (own_m hw 54 rfl)) (by decide) (backOf (W := 0) (rmDr l Z a0 hw [] xl yl (Int32.ofNat i) h0 n0 Zc2) hZ (own_m hw 54 rfl) (own_m hw 3 rfl) (by decide) (by decide)) (g := (mkF m 16 #[.val (.ref ca), .val (.int (Int32.ofNat i)), .val (.int pre), .val (.int suf), .val (.long xl), .second, .val (.long yl), .second, .val (.int (Int32.ofNat n)), .unset] [(.int (Int32.ofNat i)), (.long yl), (.long xl)])) rfl (by rw [hml]; rfl) (argsL := [(.long xl), (.long yl), (.int (Int32.ofNat i))]) (rest := []) (lenOf pd__JJI_C rfl) rfl (by show 2 * 0 + _ ≤ _; exact Nat.le_of_eq rfl) (dd hy d3_16) (fun _ _ => ⟨rfl, e0, (by decide : 0 + 0 ≤ _), (by decide : 0 + 0 ≤ _)⟩)
  dsimp only [Pt.U, Pt.locs, Pt.cells, Pt.slots] at X3 l3 y3 z3 st3 hQ3
  subst l3 y3 z3
  obtain ⟨dv_3, rfl, N3q, e3, P3_0⟩ := hQ3
  have N3 := Fr.app N0 N3q
  have s4 : ∀ t_, Steps p.tables e below (T3.setTop (mkF m 22 #[.val (.ref ca), .val (.int (Int32.ofNat i)), .val (.int pre), .val (.int suf), .val (.long xl), .second, .val (.long yl), .second, .val (.int (Int32.ofNat n)), .val (.int dv_3)] [(.int pre)])) t_ → Steps _ _ _ _ t_ := fun t_ k_ => pre0 t_ (by
    refine XS.aloadN X0.here hx rfl (dd hy d3_0) rfl rfl ?_
    refine X0.arraylength hx (by rw [e0]; exact Ar1.1) (State.isArrayOf_alike hZ.alike Ar1.2.1) (g := (mkF m 1 #[.val (.ref ca), .val (.int (Int32.ofNat i)), .val (.int pre), .val (.int suf), .val (.long xl), .second, .val (.long yl), .second, .unset, .unset] [(.ref ca)])) rfl rfl (dd hy d3_1) _ ?_
    rw [len_of S1 M1]
    show Steps _ _ _ (s₁.setTop (mkF m 2 #[.val (.ref ca), .val (.int (Int32.ofNat i)), .val (.int pre), .val (.int suf), .val (.long xl), .second, .val (.long yl), .second, .unset, .unset] [(.int (Int32.ofNat n))])) _
    refine XS.istore X0.here hx rfl (dd hy d3_2) rfl (l' := #[.val (.ref ca), .val (.int (Int32.ofNat i)), .val (.int pre), .val (.int suf), .val (.long xl), .second, .val (.long yl), .second, .val (.int (Int32.ofNat n)), .unset]) rfl ?_
    refine XS.iloadN X0.here hx rfl (dd hy d3_4) rfl ?_
    refine XS.iload X0.here hx rfl (dd hy d3_5) rfl ?_
    refine XS.icmpYes X0.here hx rfl (pc0 := 7) (pc' := 11) rfl (dd hy d3_7) rfl (tlt (own_lt hin (by omega))).1 (by decide) (by decide) ?_
    show Steps _ _ _ (s₁.setTop (mkF m 11 #[.val (.ref ca), .val (.int (Int32.ofNat i)), .val (.int pre), .val (.int suf), .val (.long xl), .second, .val (.long yl), .second, .val (.int (Int32.ofNat n)), .unset] [])) _
    refine XS.lload X0.here hx rfl (dd hy d3_11) rfl ?_
    refine XS.lload X0.here hx rfl (dd hy d3_13) rfl ?_
    refine XS.iloadN X0.here hx rfl (dd hy d3_15) rfl ?_
    refine st3 _ ?_
    show Steps _ _ _ (T3.setTop (mkF m 19 #[.val (.ref ca), .val (.int (Int32.ofNat i)), .val (.int pre), .val (.int suf), .val (.long xl), .second, .val (.long yl), .second, .val (.int (Int32.ofNat n)), .unset] [(.int dv_3)])) _
    refine XS.istore X3.here hx rfl (dd hy d3_19) rfl (l' := #[.val (.ref ca), .val (.int (Int32.ofNat i)), .val (.int pre), .val (.int suf), .val (.long xl), .second, .val (.long yl), .second, .val (.int (Int32.ofNat n)), .val (.int dv_3)]) rfl ?_
    refine XS.iloadN X3.here hx rfl (dd hy d3_21) rfl ?_
    exact k_)
  by_cases h5 : pre = (0 : Int32)
  · have s6 : ∀ t_, Steps p.tables e below (T3.setTop (mkF m 39 #[.val (.ref ca), .val (.int (Int32.ofNat i)), .val (.int pre), .val (.int suf), .val (.long xl), .second, .val (.long yl), .second, .val (.int (Int32.ofNat n)), .val (.int dv_3)] [(.int suf)])) t_ → Steps _ _ _ _ t_ := fun t_ k_ => s4 t_ (by
      refine XS.ifYes X3.here hx rfl (pc0 := 22) (pc' := 38) rfl (dd hy d3_22) rfl ((if0 _ _).trans (teq h5).1) (by decide) (by decide) ?_
      show Steps _ _ _ (T3.setTop (mkF m 38 #[.val (.ref ca), .val (.int (Int32.ofNat i)), .val (.int pre), .val (.int suf), .val (.long xl), .second, .val (.long yl), .second, .val (.int (Int32.ofNat n)), .val (.int dv_3)] [])) _
      refine XS.iloadN X3.here hx rfl (dd hy d3_38) rfl ?_
      exact k_)
    by_cases h7 : suf = (0 : Int32)
    · obtain ⟨cl8, Ar8, q8, S8, M8, H8, G8⟩ := id I1
      have hin8 : ¬ ((Int32.ofNat i) < 0 ∨ cl8.slots.size ≤ ((Int32.ofNat i)).toNatClampNeg) := inb_of S8 (own_in hin (by omega))
      obtain ⟨T9, h9, X9, e9, W9, st9⟩ := stC X3 hx hZ e3 Ar8 (j := (Int32.ofNat i)) hin8 (g := (mkF m 67 #[.val (.ref ca), .val (.int (Int32.ofNat i)), .val (.int pre), .val (.int suf), .val (.long xl), .second, .val (.long yl), .second, .val (.int (Int32.ofNat n)), .val (.int dv_3)] [(.int dv_3), (.int (Int32.ofNat i)), (.ref ca)])) rfl rfl (dd hy d3_67)
      have z10 : h0.size ≤ h9.size := Nat.le_of_eq W9.size.symm
      have V9 : Arv Z h9 ca kc .char (Int32.ofNat n) ((List.set cs i dv_3).map Value.int) v0_ := by
        have q : Arv Z h9 ca kc .char (Int32.ofNat n) (List.set (List.map Value.int cs) i (.int (nar .char dv_3))) v0_ := Arv.set Ar8 q8 S8 M8 H8 G8 (fits_nar_char _) W9 i (own_tn (by omega)) (by rw [List.length_map]; omega)
        rw [show nar .char dv_3 = dv_3 from own_narc P3_0.1 P3_0.2] at q
        rw [List.map_set]
        exact q
      have N9 := Fr.snoc X9 N3 (show n0 ≤ ca by omega)
      have s11 : ∀ t_, Steps p.tables e below (T9.setTop (mkF m 68 #[.val (.ref ca), .val (.int (Int32.ofNat i)), .val (.int pre), .val (.int suf), .val (.long xl), .second, .val (.long yl), .second, .val (.int (Int32.ofNat n)), .val (.int dv_3)] [])) t_ → Steps _ _ _ _ t_ := fun t_ k_ => s6 t_ (by
        refine XS.ifYes X3.here hx rfl (pc0 := 39) (pc' := 63) rfl (dd hy d3_39) rfl ((if0 _ _).trans (teq h7).1) (by decide) (by decide) ?_
        show Steps _ _ _ (T3.setTop (mkF m 63 #[.val (.ref ca), .val (.int (Int32.ofNat i)), .val (.int pre), .val (.int suf), .val (.long xl), .second, .val (.long yl), .second, .val (.int (Int32.ofNat n)), .val (.int dv_3)] [])) _
        refine XS.aloadN X3.here hx rfl (dd hy d3_63) rfl rfl ?_
        refine XS.iloadN X3.here hx rfl (dd hy d3_64) rfl ?_
        refine XS.iload X3.here hx rfl (dd hy d3_65) rfl ?_
        refine st9 _ ?_
        exact k_)
      obtain ⟨fs, hr, hrun, hended, hW, hsame⟩ := X9.leave (v := none) (fun _ => rfl)
      refine ⟨_, _, s11 _ ?_, hrun, hended, _, _, rfl, ?_, ⟨_, rfl⟩, hW, hsame.mono (by decide) (by decide)⟩
      · exact X9.returnOut hx Bd.returns (dd hy d3_68) hr
      · show Q_rmPutA5 Z _ _ _ _ _ _ _ _ _ h0 n0 _ T9.heap _
        rw [e9]
        exact ⟨(List.set cs i dv_3), rfl, N9, ((Keep.refl h0 [ca]).wr W9 (Or.inl (by simp))), V9, (by rw [List.length_set]; exact hn), own_chsset hchs P3_0⟩
    · obtain ⟨cl12, Ar12, q12, S12, M12, H12, G12⟩ := id I1
      have hin12 : ¬ ((Int32.ofNat i) < 0 ∨ cl12.slots.size ≤ ((Int32.ofNat i)).toNatClampNeg) := inb_of S12 (own_in hin (by omega))
      obtain ⟨T13, h13, X13, e13, W13, st13⟩ := stC X3 hx hZ e3 Ar12 (j := (Int32.ofNat i)) hin12 (g := (mkF m 67 #[.val (.ref ca), .val (.int (Int32.ofNat i)), .val (.int pre), .val (.int suf), .val (.long xl), .second, .val (.long yl), .second, .val (.int (Int32.ofNat n)), .val (.int dv_3)] [(.int dv_3), (.int (Int32.ofNat i)), (.ref ca)])) rfl rfl (dd hy d3_67)
      have z14 : h0.size ≤ h13.size := Nat.le_of_eq W13.size.symm
      have V13 : Arv Z h13 ca kc .char (Int32.ofNat n) ((List.set cs i dv_3).map Value.int) v0_ := by
        have q : Arv Z h13 ca kc .char (Int32.ofNat n) (List.set (List.map Value.int cs) i (.int (nar .char dv_3))) v0_ := Arv.set Ar12 q12 S12 M12 H12 G12 (fits_nar_char _) W13 i (own_tn (by omega)) (by rw [List.length_map]; omega)
        rw [show nar .char dv_3 = dv_3 from own_narc P3_0.1 P3_0.2] at q
        rw [List.map_set]
        exact q
      have N13 := Fr.snoc X13 N3 (show n0 ≤ ca by omega)
      have s15 : ∀ t_, Steps p.tables e below (T13.setTop (mkF m 68 #[.val (.ref ca), .val (.int (Int32.ofNat i)), .val (.int pre), .val (.int suf), .val (.long xl), .second, .val (.long yl), .second, .val (.int (Int32.ofNat n)), .val (.int dv_3)] [])) t_ → Steps _ _ _ _ t_ := fun t_ k_ => s6 t_ (by
        refine XS.ifNo X3.here hx rfl (dd hy d3_39) rfl ((if0 _ _).trans (feq h7).1) ?_
        show Steps _ _ _ (T3.setTop (mkF m 42 #[.val (.ref ca), .val (.int (Int32.ofNat i)), .val (.int pre), .val (.int suf), .val (.long xl), .second, .val (.long yl), .second, .val (.int (Int32.ofNat n)), .val (.int dv_3)] [])) _
        refine XS.iloadN X3.here hx rfl (dd hy d3_42) rfl ?_
        refine XS.iload X3.here hx rfl (dd hy d3_43) rfl ?_
        refine XS.iconst X3.here hx rfl (dd hy d3_45) ?_
        refine XS.isub X3.here hx rfl (dd hy d3_46) rfl ?_
        refine XS.icmpYes X3.here hx rfl (pc0 := 47) (pc' := 63) rfl (dd hy d3_47) rfl (tlt (own_m5t hs (by omega))).1 (by decide) (by decide) ?_
        show Steps _ _ _ (T3.setTop (mkF m 63 #[.val (.ref ca), .val (.int (Int32.ofNat i)), .val (.int pre), .val (.int suf), .val (.long xl), .second, .val (.long yl), .second, .val (.int (Int32.ofNat n)), .val (.int dv_3)] [])) _
        refine XS.aloadN X3.here hx rfl (dd hy d3_63) rfl rfl ?_
        refine XS.iloadN X3.here hx rfl (dd hy d3_64) rfl ?_
        refine XS.iload X3.here hx rfl (dd hy d3_65) rfl ?_
        refine st13 _ ?_
        exact k_)
      obtain ⟨fs, hr, hrun, hended, hW, hsame⟩ := X13.leave (v := none) (fun _ => rfl)
      refine ⟨_, _, s15 _ ?_, hrun, hended, _, _, rfl, ?_, ⟨_, rfl⟩, hW, hsame.mono (by decide) (by decide)⟩
      · exact X13.returnOut hx Bd.returns (dd hy d3_68) hr
      · show Q_rmPutA5 Z _ _ _ _ _ _ _ _ _ h0 n0 _ T13.heap _
        rw [e13]
        exact ⟨(List.set cs i dv_3), rfl, N13, ((Keep.refl h0 [ca]).wr W13 (Or.inl (by simp))), V13, (by rw [List.length_set]; exact hn), own_chsset hchs P3_0⟩
  · have s16 : ∀ t_, Steps p.tables e below (T3.setTop (mkF m 39 #[.val (.ref ca), .val (.int (Int32.ofNat i)), .val (.int pre), .val (.int suf), .val (.long xl), .second, .val (.long yl), .second, .val (.int (Int32.ofNat n)), .val (.int dv_3)] [(.int suf)])) t_ → Steps _ _ _ _ t_ := fun t_ k_ => s4 t_ (by
      refine XS.ifNo X3.here hx rfl (dd hy d3_22) rfl ((if0 _ _).trans (feq h5).1) ?_
      show Steps _ _ _ (T3.setTop (mkF m 25 #[.val (.ref ca), .val (.int (Int32.ofNat i)), .val (.int pre), .val (.int suf), .val (.long xl), .second, .val (.long yl), .second, .val (.int (Int32.ofNat n)), .val (.int dv_3)] [])) _
      refine XS.iloadN X3.here hx rfl (dd hy d3_25) rfl ?_
      refine XS.iconst X3.here hx rfl (dd hy d3_26) ?_
      refine XS.icmpYes X3.here hx rfl (pc0 := 27) (pc' := 38) rfl (dd hy d3_27) rfl (flt (show ¬ ((Int32.ofNat i) < (5 : Int32)) from own_nlt (n := 5) hi5 (by omega))).2.1 (by decide) (by decide) ?_
      show Steps _ _ _ (T3.setTop (mkF m 38 #[.val (.ref ca), .val (.int (Int32.ofNat i)), .val (.int pre), .val (.int suf), .val (.long xl), .second, .val (.long yl), .second, .val (.int (Int32.ofNat n)), .val (.int dv_3)] [])) _
      refine XS.iloadN X3.here hx rfl (dd hy d3_38) rfl ?_
      exact k_)
    by_cases h17 : suf = (0 : Int32)
    · obtain ⟨cl18, Ar18, q18, S18, M18, H18, G18⟩ := id I1
      have hin18 : ¬ ((Int32.ofNat i) < 0 ∨ cl18.slots.size ≤ ((Int32.ofNat i)).toNatClampNeg) := inb_of S18 (own_in hin (by omega))
      obtain ⟨T19, h19, X19, e19, W19, st19⟩ := stC X3 hx hZ e3 Ar18 (j := (Int32.ofNat i)) hin18 (g := (mkF m 67 #[.val (.ref ca), .val (.int (Int32.ofNat i)), .val (.int pre), .val (.int suf), .val (.long xl), .second, .val (.long yl), .second, .val (.int (Int32.ofNat n)), .val (.int dv_3)] [(.int dv_3), (.int (Int32.ofNat i)), (.ref ca)])) rfl rfl (dd hy d3_67)
      have z20 : h0.size ≤ h19.size := Nat.le_of_eq W19.size.symm
      have V19 : Arv Z h19 ca kc .char (Int32.ofNat n) ((List.set cs i dv_3).map Value.int) v0_ := by
        have q : Arv Z h19 ca kc .char (Int32.ofNat n) (List.set (List.map Value.int cs) i (.int (nar .char dv_3))) v0_ := Arv.set Ar18 q18 S18 M18 H18 G18 (fits_nar_char _) W19 i (own_tn (by omega)) (by rw [List.length_map]; omega)
        rw [show nar .char dv_3 = dv_3 from own_narc P3_0.1 P3_0.2] at q
        rw [List.map_set]
        exact q
      have N19 := Fr.snoc X19 N3 (show n0 ≤ ca by omega)
      have s21 : ∀ t_, Steps p.tables e below (T19.setTop (mkF m 68 #[.val (.ref ca), .val (.int (Int32.ofNat i)), .val (.int pre), .val (.int suf), .val (.long xl), .second, .val (.long yl), .second, .val (.int (Int32.ofNat n)), .val (.int dv_3)] [])) t_ → Steps _ _ _ _ t_ := fun t_ k_ => s16 t_ (by
        refine XS.ifYes X3.here hx rfl (pc0 := 39) (pc' := 63) rfl (dd hy d3_39) rfl ((if0 _ _).trans (teq h17).1) (by decide) (by decide) ?_
        show Steps _ _ _ (T3.setTop (mkF m 63 #[.val (.ref ca), .val (.int (Int32.ofNat i)), .val (.int pre), .val (.int suf), .val (.long xl), .second, .val (.long yl), .second, .val (.int (Int32.ofNat n)), .val (.int dv_3)] [])) _
        refine XS.aloadN X3.here hx rfl (dd hy d3_63) rfl rfl ?_
        refine XS.iloadN X3.here hx rfl (dd hy d3_64) rfl ?_
        refine XS.iload X3.here hx rfl (dd hy d3_65) rfl ?_
        refine st19 _ ?_
        exact k_)
      obtain ⟨fs, hr, hrun, hended, hW, hsame⟩ := X19.leave (v := none) (fun _ => rfl)
      refine ⟨_, _, s21 _ ?_, hrun, hended, _, _, rfl, ?_, ⟨_, rfl⟩, hW, hsame.mono (by decide) (by decide)⟩
      · exact X19.returnOut hx Bd.returns (dd hy d3_68) hr
      · show Q_rmPutA5 Z _ _ _ _ _ _ _ _ _ h0 n0 _ T19.heap _
        rw [e19]
        exact ⟨(List.set cs i dv_3), rfl, N19, ((Keep.refl h0 [ca]).wr W19 (Or.inl (by simp))), V19, (by rw [List.length_set]; exact hn), own_chsset hchs P3_0⟩
    · obtain ⟨cl22, Ar22, q22, S22, M22, H22, G22⟩ := id I1
      have hin22 : ¬ ((Int32.ofNat i) < 0 ∨ cl22.slots.size ≤ ((Int32.ofNat i)).toNatClampNeg) := inb_of S22 (own_in hin (by omega))
      obtain ⟨T23, h23, X23, e23, W23, st23⟩ := stC X3 hx hZ e3 Ar22 (j := (Int32.ofNat i)) hin22 (g := (mkF m 67 #[.val (.ref ca), .val (.int (Int32.ofNat i)), .val (.int pre), .val (.int suf), .val (.long xl), .second, .val (.long yl), .second, .val (.int (Int32.ofNat n)), .val (.int dv_3)] [(.int dv_3), (.int (Int32.ofNat i)), (.ref ca)])) rfl rfl (dd hy d3_67)
      have z24 : h0.size ≤ h23.size := Nat.le_of_eq W23.size.symm
      have V23 : Arv Z h23 ca kc .char (Int32.ofNat n) ((List.set cs i dv_3).map Value.int) v0_ := by
        have q : Arv Z h23 ca kc .char (Int32.ofNat n) (List.set (List.map Value.int cs) i (.int (nar .char dv_3))) v0_ := Arv.set Ar22 q22 S22 M22 H22 G22 (fits_nar_char _) W23 i (own_tn (by omega)) (by rw [List.length_map]; omega)
        rw [show nar .char dv_3 = dv_3 from own_narc P3_0.1 P3_0.2] at q
        rw [List.map_set]
        exact q
      have N23 := Fr.snoc X23 N3 (show n0 ≤ ca by omega)
      have s25 : ∀ t_, Steps p.tables e below (T23.setTop (mkF m 68 #[.val (.ref ca), .val (.int (Int32.ofNat i)), .val (.int pre), .val (.int suf), .val (.long xl), .second, .val (.long yl), .second, .val (.int (Int32.ofNat n)), .val (.int dv_3)] [])) t_ → Steps _ _ _ _ t_ := fun t_ k_ => s16 t_ (by
        refine XS.ifNo X3.here hx rfl (dd hy d3_39) rfl ((if0 _ _).trans (feq h17).1) ?_
        show Steps _ _ _ (T3.setTop (mkF m 42 #[.val (.ref ca), .val (.int (Int32.ofNat i)), .val (.int pre), .val (.int suf), .val (.long xl), .second, .val (.long yl), .second, .val (.int (Int32.ofNat n)), .val (.int dv_3)] [])) _
        refine XS.iloadN X3.here hx rfl (dd hy d3_42) rfl ?_
        refine XS.iload X3.here hx rfl (dd hy d3_43) rfl ?_
        refine XS.iconst X3.here hx rfl (dd hy d3_45) ?_
        refine XS.isub X3.here hx rfl (dd hy d3_46) rfl ?_
        refine XS.icmpYes X3.here hx rfl (pc0 := 47) (pc' := 63) rfl (dd hy d3_47) rfl (tlt (own_m5t hs (by omega))).1 (by decide) (by decide) ?_
        show Steps _ _ _ (T3.setTop (mkF m 63 #[.val (.ref ca), .val (.int (Int32.ofNat i)), .val (.int pre), .val (.int suf), .val (.long xl), .second, .val (.long yl), .second, .val (.int (Int32.ofNat n)), .val (.int dv_3)] [])) _
        refine XS.aloadN X3.here hx rfl (dd hy d3_63) rfl rfl ?_
        refine XS.iloadN X3.here hx rfl (dd hy d3_64) rfl ?_
        refine XS.iload X3.here hx rfl (dd hy d3_65) rfl ?_
        refine st23 _ ?_
        exact k_)
      obtain ⟨fs, hr, hrun, hended, hW, hsame⟩ := X23.leave (v := none) (fun _ => rfl)
      refine ⟨_, _, s25 _ ?_, hrun, hended, _, _, rfl, ?_, ⟨_, rfl⟩, hW, hsame.mono (by decide) (by decide)⟩
      · exact X23.returnOut hx Bd.returns (dd hy d3_68) hr
      · show Q_rmPutA5 Z _ _ _ _ _ _ _ _ _ h0 n0 _ T23.heap _
        rw [e23]
        exact ⟨(List.set cs i dv_3), rfl, N23, ((Keep.refl h0 [ca]).wr W23 (Or.inl (by simp))), V23, (by rw [List.length_set]; exact hn), own_chsset hchs P3_0⟩
theorem d3_50 : decode C3 50 = .ok (.ldc 23, 2) := by decide +kernel
theorem d3_52 : decode C3 52 = .ok (.iload_n 1, 1) := by decide +kernel
theorem d3_53 : decode C3 53 = .ok (.iload 8, 2) := by decide +kernel
theorem d3_55 : decode C3 55 = .ok (.iconst 5, 1) := by decide +kernel
theorem d3_56 : decode C3 56 = .ok (.isub, 1) := by decide +kernel
theorem d3_57 : decode C3 57 = .ok (.isub, 1) := by decide +kernel
theorem pd__I_C : parseMethodDescriptor "(I)C" = some ⟨[.int], some .char⟩ := by decide +kernel
theorem d3_58 : decode C3 58 = .ok (.invokevirtual 17, 3) := by decide +kernel
theorem d3_61 : decode C3 61 = .ok (.istore 9, 2) := by decide +kernel
theorem ef_rmPutB5 (m : MethodId) (x0 : Addr) (x1 : Int32) (x2 : Int32) (x3 : Int32) (x4 : Int64) (x5 : Int64) : entryFrame m #[(.ref x0), (.int x1), (.int x2), (.int x3), (.long x4), (.long x5)] 10 = mkF m 0 #[.val (.ref x0), .val (.int x1), .val (.int x2), .val (.int x3), .val (.long x4), .second, .val (.long x5), .second, .unset, .unset] [] := by first | (simp [entryFrame, mkF, argsToLocals, Value.category]; done) | rfl
abbrev R_rmPutB5 : Room := ({ frames := 4, cells := 2, slots := 24, locals := 53 } : Room)
def Q_rmPutB5 (Z : State) (ca : Addr) (pre : Int32) (suf : Int32) (xl : Int64) (yl : Int64) (cst : Int32) (kc : ClassId) (cs : List Int32) (n : Nat) (i : Nat) (fmt : Value) (h0 : Heap) (n0 : Nat) (v : Option Value) (h : Heap) (L : List Loc) : Prop := ∃ (ds : List Int32), (v = none) ∧ (Fr n0 L) ∧ (Keep h0 h [ca]) ∧ (Arv Z h ca kc .char (Int32.ofNat n) (ds.map Value.int) v0_) ∧ (ds.length = n) ∧ (own_chs ds)
set_option maxRecDepth 65536 in
set_option maxHeartbeats 40000000 in
theorem rmPutB5 (l : Launch) (Z : State) (a0 : Array Value) (hw : HW Z a0) (ws : List Jvm.Cond) (ca : Addr) (pre : Int32) (suf : Int32) (xl : Int64) (yl : Int64) (cst : Int32) (kc : ClassId) (cs : List Int32) (n : Nat) (i : Nat) (fmt : Value) (h0 : Heap) (n0 : Nat) (Z0 : n0 ≤ h0.size) (I1 : Sta Z Z.heap cS cC "Z" (.int cst)) (hfmt : fmt.isRef = true) (I2 : Sta Z Z.heap cP cG cF fmt) (OX : Old Z n0 h0) (hcst : ¬ (cst = (0 : Int32))) (I3 : Arv Z h0 ca kc .char (Int32.ofNat n) (cs.map Value.int) v0_) (hn : cs.length = n) (hn15 : n ≤ 15) (gc : n0 ≤ ca) (hchs : own_chs cs) (hin : i < n) (hi5 : 5 ≤ i) (hs : n ≤ i + 5) :
    MetFree l M23_ (head1 (Jvm.Cond.code M23_ method_3_code 10 none :: ws) R_rmPutB5) (fun ar_ U => ar_ = #[(.ref ca), (.int (Int32.ofNat i)), (.int pre), (.int suf), (.long xl), (.long yl)] ∧ Z.Warmed39 U.vm ∧ U.heap = h0 ∧ CHv Z ELs U.vm h0) (fun _ _ _ _ _ => True) (fun _ U oc_ U' => ∃ v L, oc_ = .returned v ∧ Q_rmPutB5 Z ca pre suf xl yl cst kc cs n i fmt h0 n0 v U'.heap L ∧ CHr Z ELs U.vm U.heap U'.vm U'.heap ∧ ReturnedEndW U oc_ U' L R_rmPutB5.cells R_rmPutB5.slots) := by
  refine MetFree.of_bodySF (plainFor_of_name pn_io_dyeline_store_LayoutIsDataFilePinLaw) hisR ?_
  intro p e s m args below meth c s₁ Bd hml0 hP hK
  obtain ⟨rfl, hZ, hh, hCH⟩ := hP
  have hx := Bd.exec
  have hy := Bd.bytes
  have hml : c.maxLocals = 10 := hml0
  have hown : s.vm.findClass "io/dyeline/store/LayoutIsDataFilePinLaw" = some m.cls := findClass_of_methodNamed Bd.named
  have hnm := (name_of_methodNamed Bd.named Bd.method).1
  have X0 : Stand p l e R_rmPutB5 (s.setVm s.vm) m #[(.ref ca), (.int (Int32.ofNat i)), (.int pre), (.int suf), (.long xl), (.long yl)] below meth c s₁ [] 0 0 := Stand.of_body Bd
  have e0 : s₁.heap = h0 := by rw [← hh, Bd.state]; rfl
  have N0 := Fr.nil n0
  have pre0 := own_pre (p := p) (e := e) (below := below) (T := s₁) (ef_rmPutB5 m ca (Int32.ofNat i) pre suf xl yl)
  have hEL : EW Z a0 ELs := own_EW hw
  have wS : ∀ a ∈ Bundle.stringAtoms, a.before a0 Z = true := own_wS hw
  have hS : s.Since s.vm s.heap.size := (State.WarmedH.refl s).since _
  have hk : s.heap.size ≤ h0.size := by rw [hh]; exact Nat.le_refl _
  have CR : CHr Z ELs s.vm h0 s.vm h0 := CHr.refl hCH
  have lt_I3 : @LT.lt Nat _ ca h0.size := I3.lt
  obtain ⟨cl1, Ar1, -, S1, M1, -, -⟩ := id I3
  have Zc2 : n0 ≤ h0.size := by omega
  obtain ⟨_, _, ⟨T3, L3, k3, n3⟩, -, X3, ⟨Lc3, hQ3, l3, y3, z3⟩, st3⟩ := Jvm.LawKit.callS X0 hx (y := M22_) hown (mvT hZ (own_m hw 52 rfl)) (mvT hZ (own_m hw 53 rfl)) (mvT hZ (own_m hw 3 rfl)) (mvT hZ (own_m hw 54 rfl)) (by decide) (backOf (W := 0) (rmDr l Z a0 hw [] xl yl (Int32.ofNat i) h0 n0 Zc2) hZ (own_m hw 54 rfl) (own_m hw 3 rfl) (by decide) (by decide)) (g := (mkF m 16 #[.val (.ref ca), .val (.int (Int32.ofNat i)), .val (.int pre), .val (.int suf), .val (.long xl), .second, .val (.long yl), .second, .val (.int (Int32.ofNat n)), .unset] [(.int (Int32.ofNat i)), (.long yl), (.long xl)])) rfl (by rw [hml]; rfl) (argsL := [(.long xl), (.long yl), (.int (Int32.ofNat i))]) (rest := []) (lenOf pd__JJI_C rfl) rfl (by show 2 * 0 + _ ≤ _; exact Nat.le_of_eq rfl) (dd hy d3_16) (fun _ _ => ⟨rfl, e0, (by decide : 0 + 0 ≤ _), (by decide : 0 + 0 ≤ _)⟩)
  dsimp only [Pt.U, Pt.locs, Pt.cells, Pt.slots] at X3 l3 y3 z3 st3 hQ3
  subst l3 y3 z3
  obtain ⟨dv_3, rfl, N3q, e3, P3_0⟩ := hQ3
  have N3 := Fr.app N0 N3q
  have s4 : ∀ t_, Steps p.tables e below (T3.setTop (mkF m 22 #[.val (.ref ca), .val (.int (Int32.ofNat i)), .val (.int pre), .val (.int suf), .val (.long xl), .second, .val (.long yl), .second, .val (.int (Int32.ofNat n)), .val (.int dv_3)] [(.int pre)])) t_ → Steps _ _ _ _ t_ := fun t_ k_ => pre0 t_ (by
    refine XS.aloadN X0.here hx rfl (dd hy d3_0) rfl rfl ?_
    refine X0.arraylength hx (by rw [e0]; exact Ar1.1) (State.isArrayOf_alike hZ.alike Ar1.2.1) (g := (mkF m 1 #[.val (.ref ca), .val (.int (Int32.ofNat i)), .val (.int pre), .val (.int suf), .val (.long xl), .second, .val (.long yl), .second, .unset, .unset] [(.ref ca)])) rfl rfl (dd hy d3_1) _ ?_
    rw [len_of S1 M1]
    show Steps _ _ _ (s₁.setTop (mkF m 2 #[.val (.ref ca), .val (.int (Int32.ofNat i)), .val (.int pre), .val (.int suf), .val (.long xl), .second, .val (.long yl), .second, .unset, .unset] [(.int (Int32.ofNat n))])) _
    refine XS.istore X0.here hx rfl (dd hy d3_2) rfl (l' := #[.val (.ref ca), .val (.int (Int32.ofNat i)), .val (.int pre), .val (.int suf), .val (.long xl), .second, .val (.long yl), .second, .val (.int (Int32.ofNat n)), .unset]) rfl ?_
    refine XS.iloadN X0.here hx rfl (dd hy d3_4) rfl ?_
    refine XS.iload X0.here hx rfl (dd hy d3_5) rfl ?_
    refine XS.icmpYes X0.here hx rfl (pc0 := 7) (pc' := 11) rfl (dd hy d3_7) rfl (tlt (own_lt hin (by omega))).1 (by decide) (by decide) ?_
    show Steps _ _ _ (s₁.setTop (mkF m 11 #[.val (.ref ca), .val (.int (Int32.ofNat i)), .val (.int pre), .val (.int suf), .val (.long xl), .second, .val (.long yl), .second, .val (.int (Int32.ofNat n)), .unset] [])) _
    refine XS.lload X0.here hx rfl (dd hy d3_11) rfl ?_
    refine XS.lload X0.here hx rfl (dd hy d3_13) rfl ?_
    refine XS.iloadN X0.here hx rfl (dd hy d3_15) rfl ?_
    refine st3 _ ?_
    show Steps _ _ _ (T3.setTop (mkF m 19 #[.val (.ref ca), .val (.int (Int32.ofNat i)), .val (.int pre), .val (.int suf), .val (.long xl), .second, .val (.long yl), .second, .val (.int (Int32.ofNat n)), .unset] [(.int dv_3)])) _
    refine XS.istore X3.here hx rfl (dd hy d3_19) rfl (l' := #[.val (.ref ca), .val (.int (Int32.ofNat i)), .val (.int pre), .val (.int suf), .val (.long xl), .second, .val (.long yl), .second, .val (.int (Int32.ofNat n)), .val (.int dv_3)]) rfl ?_
    refine XS.iloadN X3.here hx rfl (dd hy d3_21) rfl ?_
    exact k_)
  by_cases h5 : pre = (0 : Int32)
  · have s6 : ∀ t_, Steps p.tables e below (T3.setTop (mkF m 39 #[.val (.ref ca), .val (.int (Int32.ofNat i)), .val (.int pre), .val (.int suf), .val (.long xl), .second, .val (.long yl), .second, .val (.int (Int32.ofNat n)), .val (.int dv_3)] [(.int suf)])) t_ → Steps _ _ _ _ t_ := fun t_ k_ => s4 t_ (by
      refine XS.ifYes X3.here hx rfl (pc0 := 22) (pc' := 38) rfl (dd hy d3_22) rfl ((if0 _ _).trans (teq h5).1) (by decide) (by decide) ?_
      show Steps _ _ _ (T3.setTop (mkF m 38 #[.val (.ref ca), .val (.int (Int32.ofNat i)), .val (.int pre), .val (.int suf), .val (.long xl), .second, .val (.long yl), .second, .val (.int (Int32.ofNat n)), .val (.int dv_3)] [])) _
      refine XS.iloadN X3.here hx rfl (dd hy d3_38) rfl ?_
      exact k_)
    by_cases h7 : suf = (0 : Int32)
    · obtain ⟨cl8, Ar8, q8, S8, M8, H8, G8⟩ := id I3
      have hin8 : ¬ ((Int32.ofNat i) < 0 ∨ cl8.slots.size ≤ ((Int32.ofNat i)).toNatClampNeg) := inb_of S8 (own_in hin (by omega))
      obtain ⟨T9, h9, X9, e9, W9, st9⟩ := stC X3 hx hZ e3 Ar8 (j := (Int32.ofNat i)) hin8 (g := (mkF m 67 #[.val (.ref ca), .val (.int (Int32.ofNat i)), .val (.int pre), .val (.int suf), .val (.long xl), .second, .val (.long yl), .second, .val (.int (Int32.ofNat n)), .val (.int dv_3)] [(.int dv_3), (.int (Int32.ofNat i)), (.ref ca)])) rfl rfl (dd hy d3_67)
      have z10 : h0.size ≤ h9.size := Nat.le_of_eq W9.size.symm
      have Cp10 : CHr Z ELs s.vm h0 s.vm h9 := CHr.wr W9 (Safe.arv hZ.alike I3 (by decide)) CR.1
      have hk := Nat.le_trans hk z10
      have CR := CR.trans Cp10
      have V9 : Arv Z h9 ca kc .char (Int32.ofNat n) ((List.set cs i dv_3).map Value.int) v0_ := by
        have q : Arv Z h9 ca kc .char (Int32.ofNat n) (List.set (List.map Value.int cs) i (.int (nar .char dv_3))) v0_ := Arv.set Ar8 q8 S8 M8 H8 G8 (fits_nar_char _) W9 i (own_tn (by omega)) (by rw [List.length_map]; omega)
        rw [show nar .char dv_3 = dv_3 from own_narc P3_0.1 P3_0.2] at q
        rw [List.map_set]
        exact q
      have N9 := Fr.snoc X9 N3 (show n0 ≤ ca by omega)
      have s11 : ∀ t_, Steps p.tables e below (T9.setTop (mkF m 68 #[.val (.ref ca), .val (.int (Int32.ofNat i)), .val (.int pre), .val (.int suf), .val (.long xl), .second, .val (.long yl), .second, .val (.int (Int32.ofNat n)), .val (.int dv_3)] [])) t_ → Steps _ _ _ _ t_ := fun t_ k_ => s6 t_ (by
        refine XS.ifYes X3.here hx rfl (pc0 := 39) (pc' := 63) rfl (dd hy d3_39) rfl ((if0 _ _).trans (teq h7).1) (by decide) (by decide) ?_
        show Steps _ _ _ (T3.setTop (mkF m 63 #[.val (.ref ca), .val (.int (Int32.ofNat i)), .val (.int pre), .val (.int suf), .val (.long xl), .second, .val (.long yl), .second, .val (.int (Int32.ofNat n)), .val (.int dv_3)] [])) _
        refine XS.aloadN X3.here hx rfl (dd hy d3_63) rfl rfl ?_
        refine XS.iloadN X3.here hx rfl (dd hy d3_64) rfl ?_
        refine XS.iload X3.here hx rfl (dd hy d3_65) rfl ?_
        refine st9 _ ?_
        exact k_)
      obtain ⟨fs, hr, hrun, hended, hREW⟩ := X9.leaveW hS (by first | exact Nat.le_refl _ | (rw [e9]; exact hk)) (v := none) (fun _ => rfl)
      refine ⟨_, _, s11 _ ?_, hrun, hended, _, _, rfl, ?_, (by show CHr Z ELs s.vm s.heap T9.vm T9.heap; rw [hh, e9]; exact CR.trans (CHv.at X9 hZ hEL CR.1)), hREW.1, hREW.2.1, hREW.2.2.1, hREW.2.2.2.mono (by decide) (by decide)⟩
      · exact X9.returnOut hx Bd.returns (dd hy d3_68) hr
      · show Q_rmPutB5 Z _ _ _ _ _ _ _ _ _ _ _ h0 n0 _ T9.heap _
        rw [e9]
        exact ⟨(List.set cs i dv_3), rfl, N9, ((Keep.refl h0 [ca]).wr W9 (Or.inl (by simp))), V9, (by rw [List.length_set]; exact hn), own_chsset hchs P3_0⟩
    · have s13 : ∀ t_, Steps p.tables e below (T3.setTop (mkF m 50 #[.val (.ref ca), .val (.int (Int32.ofNat i)), .val (.int pre), .val (.int suf), .val (.long xl), .second, .val (.long yl), .second, .val (.int (Int32.ofNat n)), .val (.int dv_3)] [])) t_ → Steps _ _ _ _ t_ := fun t_ k_ => s6 t_ (by
        refine XS.ifNo X3.here hx rfl (dd hy d3_39) rfl ((if0 _ _).trans (feq h7).1) ?_
        show Steps _ _ _ (T3.setTop (mkF m 42 #[.val (.ref ca), .val (.int (Int32.ofNat i)), .val (.int pre), .val (.int suf), .val (.long xl), .second, .val (.long yl), .second, .val (.int (Int32.ofNat n)), .val (.int dv_3)] [])) _
        refine XS.iloadN X3.here hx rfl (dd hy d3_42) rfl ?_
        refine XS.iload X3.here hx rfl (dd hy d3_43) rfl ?_
        refine XS.iconst X3.here hx rfl (dd hy d3_45) ?_
        refine XS.isub X3.here hx rfl (dd hy d3_46) rfl ?_
        refine XS.icmpNo X3.here hx rfl (dd hy d3_47) rfl (flt (own_m5f hs (by omega) (by omega))).1 ?_
        show Steps _ _ _ (T3.setTop (mkF m 50 #[.val (.ref ca), .val (.int (Int32.ofNat i)), .val (.int pre), .val (.int suf), .val (.long xl), .second, .val (.long yl), .second, .val (.int (Int32.ofNat n)), .val (.int dv_3)] [])) _
        exact k_)
      obtain ⟨a12, T12, h12, k12, b12, kk12, X12, e12, E12, hS, hk, hZ, hown, Ex12, Fc12, Fv12, Av12, la12, lb12, Cp12, Li12, Sa12, st12⟩ := ldcCH X3 hx hZ hown (own_m hw 99 rfl) wS e3 hS hk hEL (List.mem_of_getElem? (i := 3) rfl) CR.1 (vs := [(.int (46 : Int32)), (.int (106 : Int32)), (.int (115 : Int32)), (.int (111 : Int32)), (.int (110 : Int32))]) (z := (5 : Int32)) ⟨by decide, by decide⟩ (by decide) rfl (g := (mkF m 50 #[.val (.ref ca), .val (.int (Int32.ofNat i)), .val (.int pre), .val (.int suf), .val (.long xl), .second, .val (.long yl), .second, .val (.int (Int32.ofNat n)), .val (.int dv_3)] [])) rfl (dd hy d3_50) (n := 20) (by decide) (by decide) (by decide) (by decide)
      have z14 : h0.size ≤ h12.size := E12.1
      have CR := CR.trans Cp12
      have la12 : @LT.lt Nat _ a12 h12.size := la12
      have lb12 : @LT.lt Nat _ b12 h12.size := lb12
      have Fc15 : Fld Z h12 a12 cS "coder" "B" (.int (own_cod own_tj)) := Fc12
      have Av15 : Arv Z h12 b12 kk12 .byte (Int32.ofNat (own_enl own_tj)) (own_enc own_tj) v0_ := own_tj_lit Av12
      have O16 : Old Z n0 h12 := (OX.ext E12)
      have Zc17 : n0 ≤ h12.size := by omega
      obtain ⟨cq18, kq18, q18a, q18b, q18c⟩ := isOf hZ e12 Ex12
      obtain ⟨_, _, ⟨T18, L18, k18, n18⟩, -, X18, ⟨Lc18, hQ18, l18, y18, z18⟩, st18⟩ := X12.virtualBack hx (y := M16_) (z := M16_) hown (mvT hZ (own_m hw 67 rfl)) (mvT hZ (own_m hw 68 rfl)) (notFace_of_selects (args := #[]) (mvT hZ (own_m hw 70 rfl))) (mvT hZ (own_m hw 70 rfl)) (mvT hZ (own_m hw 69 rfl)) (by decide) (backOf (W := 0) (rmChA l Z a0 hw [] a12 cst b12 kk12 own_tj (i + 5 - n) fmt h12 n0 Zc17 I1 hfmt I2 O16 hcst Ex12 Fv12 Fc15 Av15 (by decide) (show i + 5 - n < 5 from (by omega)) own_tj_chs own_tj_lat) hZ (own_m hw 71 rfl) (own_m hw 7 rfl) (by decide) (by decide)) q18a q18c (g := (mkF m 58 #[.val (.ref ca), .val (.int (Int32.ofNat i)), .val (.int pre), .val (.int suf), .val (.long xl), .second, .val (.long yl), .second, .val (.int (Int32.ofNat n)), .val (.int dv_3)] [(.int (Int32.ofNat (i + 5 - n))), (.ref a12)])) rfl (by rw [hml]; rfl) (Steps.refl _) (argsL := [(.int (Int32.ofNat (i + 5 - n)))]) (rest := []) (lenOf pd__I_C rfl) rfl (by show 2 * 0 + _ ≤ _; exact Nat.le_of_eq rfl) (dd hy d3_58) (fun _ _ => ⟨rfl, e12, (by decide : 2 + 0 ≤ _), (by decide : 24 + 0 ≤ _)⟩)
      dsimp only [Pt.U, Pt.locs, Pt.cells, Pt.slots] at X18 l18 y18 z18 st18 hQ18
      subst l18 y18 z18
      obtain ⟨rfl, N18q, e18⟩ := hQ18
      have N18 := Fr.app N3 N18q
      have rg19 := own_tj_chs _ (own_mem own_tj (i + 5 - n) (show i + 5 - n < 5 by omega))
      have f20 : Arv Z h12 ca kc .char (Int32.ofNat n) (cs.map Value.int) v0_ := (I3.ext E12)
      obtain ⟨cl21, Ar21, q21, S21, M21, H21, G21⟩ := id f20
      have hin21 : ¬ ((Int32.ofNat i) < 0 ∨ cl21.slots.size ≤ ((Int32.ofNat i)).toNatClampNeg) := inb_of S21 (own_in hin (by omega))
      obtain ⟨T22, h22, X22, e22, W22, st22⟩ := stC X18 hx hZ e18 Ar21 (j := (Int32.ofNat i)) hin21 (g := (mkF m 67 #[.val (.ref ca), .val (.int (Int32.ofNat i)), .val (.int pre), .val (.int suf), .val (.long xl), .second, .val (.long yl), .second, .val (.int (Int32.ofNat n)), .val (.int (own_tj.getD (i + 5 - n) 0))] [(.int (own_tj.getD (i + 5 - n) 0)), (.int (Int32.ofNat i)), (.ref ca)])) rfl rfl (dd hy d3_67)
      have z23 : h12.size ≤ h22.size := Nat.le_of_eq W22.size.symm
      have Cp23 : CHr Z ELs T12.vm h12 T12.vm h22 := CHr.wr W22 (Safe.arv hZ.alike f20 (by decide)) CR.1
      have hk := Nat.le_trans hk z23
      have CR := CR.trans Cp23
      have V22 : Arv Z h22 ca kc .char (Int32.ofNat n) ((List.set cs i (own_tj.getD (i + 5 - n) 0)).map Value.int) v0_ := by
        have q : Arv Z h22 ca kc .char (Int32.ofNat n) (List.set (List.map Value.int cs) i (.int (nar .char (own_tj.getD (i + 5 - n) 0)))) v0_ := Arv.set Ar21 q21 S21 M21 H21 G21 (fits_nar_char _) W22 i (own_tn (by omega)) (by rw [List.length_map]; omega)
        rw [show nar .char (own_tj.getD (i + 5 - n) 0) = (own_tj.getD (i + 5 - n) 0) from own_narc rg19.1 rg19.2] at q
        rw [List.map_set]
        exact q
      have N22 := Fr.snoc X22 N18 (show n0 ≤ ca by omega)
      have s24 : ∀ t_, Steps p.tables e below (T22.setTop (mkF m 68 #[.val (.ref ca), .val (.int (Int32.ofNat i)), .val (.int pre), .val (.int suf), .val (.long xl), .second, .val (.long yl), .second, .val (.int (Int32.ofNat n)), .val (.int (own_tj.getD (i + 5 - n) 0))] [])) t_ → Steps _ _ _ _ t_ := fun t_ k_ => s13 t_ (by
        refine st12 _ ?_
        show Steps _ _ _ (T12.setTop (mkF m 52 #[.val (.ref ca), .val (.int (Int32.ofNat i)), .val (.int pre), .val (.int suf), .val (.long xl), .second, .val (.long yl), .second, .val (.int (Int32.ofNat n)), .val (.int dv_3)] [(.ref a12)])) _
        refine XS.iloadN X12.here hx rfl (dd hy d3_52) rfl ?_
        refine XS.iload X12.here hx rfl (dd hy d3_53) rfl ?_
        refine XS.iconst X12.here hx rfl (dd hy d3_55) ?_
        refine XS.isub X12.here hx rfl (dd hy d3_56) rfl ?_
        refine XS.isub X12.here hx rfl (dd hy d3_57) rfl ?_
        show Steps _ _ _ (T12.setTop (mkF m 58 #[.val (.ref ca), .val (.int (Int32.ofNat i)), .val (.int pre), .val (.int suf), .val (.long xl), .second, .val (.long yl), .second, .val (.int (Int32.ofNat n)), .val (.int dv_3)] [(.int ((Int32.ofNat i) - ((Int32.ofNat n) - (5 : Int32)))), (.ref a12)])) _
        refine castTop (g' := (mkF m 58 #[.val (.ref ca), .val (.int (Int32.ofNat i)), .val (.int pre), .val (.int suf), .val (.long xl), .second, .val (.long yl), .second, .val (.int (Int32.ofNat n)), .val (.int dv_3)] [(.int (Int32.ofNat (i + 5 - n))), (.ref a12)])) (by rw [own_i5n hs (by omega) (by omega)]) ?_
        show Steps _ _ _ (T12.setTop (mkF m 58 #[.val (.ref ca), .val (.int (Int32.ofNat i)), .val (.int pre), .val (.int suf), .val (.long xl), .second, .val (.long yl), .second, .val (.int (Int32.ofNat n)), .val (.int dv_3)] [(.int (Int32.ofNat (i + 5 - n))), (.ref a12)])) _
        refine st18.trans ?_
        show Steps _ _ _ (T18.setTop (mkF m 61 #[.val (.ref ca), .val (.int (Int32.ofNat i)), .val (.int pre), .val (.int suf), .val (.long xl), .second, .val (.long yl), .second, .val (.int (Int32.ofNat n)), .val (.int dv_3)] [(.int (own_tj.getD (i + 5 - n) 0))])) _
        refine XS.istore X18.here hx rfl (dd hy d3_61) rfl (l' := #[.val (.ref ca), .val (.int (Int32.ofNat i)), .val (.int pre), .val (.int suf), .val (.long xl), .second, .val (.long yl), .second, .val (.int (Int32.ofNat n)), .val (.int (own_tj.getD (i + 5 - n) 0))]) rfl ?_
        refine XS.aloadN X18.here hx rfl (dd hy d3_63) rfl rfl ?_
        refine XS.iloadN X18.here hx rfl (dd hy d3_64) rfl ?_
        refine XS.iload X18.here hx rfl (dd hy d3_65) rfl ?_
        refine st22 _ ?_
        exact k_)
      obtain ⟨fs, hr, hrun, hended, hREW⟩ := X22.leaveW hS (by first | exact Nat.le_refl _ | (rw [e22]; exact hk)) (v := none) (fun _ => rfl)
      refine ⟨_, _, s24 _ ?_, hrun, hended, _, _, rfl, ?_, (by show CHr Z ELs s.vm s.heap T22.vm T22.heap; rw [hh, e22]; exact CR.trans (CHv.at X22 hZ hEL CR.1)), hREW.1, hREW.2.1, hREW.2.2.1, hREW.2.2.2.mono (by decide) (by decide)⟩
      · exact X22.returnOut hx Bd.returns (dd hy d3_68) hr
      · show Q_rmPutB5 Z _ _ _ _ _ _ _ _ _ _ _ h0 n0 _ T22.heap _
        rw [e22]
        exact ⟨(List.set cs i (own_tj.getD (i + 5 - n) 0)), rfl, N22, (((Keep.refl h0 [ca]).ext E12).wr W22 (Or.inl (by simp))), V22, (by rw [List.length_set]; exact hn), own_chsset hchs rg19⟩
  · have s25 : ∀ t_, Steps p.tables e below (T3.setTop (mkF m 39 #[.val (.ref ca), .val (.int (Int32.ofNat i)), .val (.int pre), .val (.int suf), .val (.long xl), .second, .val (.long yl), .second, .val (.int (Int32.ofNat n)), .val (.int dv_3)] [(.int suf)])) t_ → Steps _ _ _ _ t_ := fun t_ k_ => s4 t_ (by
      refine XS.ifNo X3.here hx rfl (dd hy d3_22) rfl ((if0 _ _).trans (feq h5).1) ?_
      show Steps _ _ _ (T3.setTop (mkF m 25 #[.val (.ref ca), .val (.int (Int32.ofNat i)), .val (.int pre), .val (.int suf), .val (.long xl), .second, .val (.long yl), .second, .val (.int (Int32.ofNat n)), .val (.int dv_3)] [])) _
      refine XS.iloadN X3.here hx rfl (dd hy d3_25) rfl ?_
      refine XS.iconst X3.here hx rfl (dd hy d3_26) ?_
      refine XS.icmpYes X3.here hx rfl (pc0 := 27) (pc' := 38) rfl (dd hy d3_27) rfl (flt (show ¬ ((Int32.ofNat i) < (5 : Int32)) from own_nlt (n := 5) hi5 (by omega))).2.1 (by decide) (by decide) ?_
      show Steps _ _ _ (T3.setTop (mkF m 38 #[.val (.ref ca), .val (.int (Int32.ofNat i)), .val (.int pre), .val (.int suf), .val (.long xl), .second, .val (.long yl), .second, .val (.int (Int32.ofNat n)), .val (.int dv_3)] [])) _
      refine XS.iloadN X3.here hx rfl (dd hy d3_38) rfl ?_
      exact k_)
    by_cases h26 : suf = (0 : Int32)
    · obtain ⟨cl27, Ar27, q27, S27, M27, H27, G27⟩ := id I3
      have hin27 : ¬ ((Int32.ofNat i) < 0 ∨ cl27.slots.size ≤ ((Int32.ofNat i)).toNatClampNeg) := inb_of S27 (own_in hin (by omega))
      obtain ⟨T28, h28, X28, e28, W28, st28⟩ := stC X3 hx hZ e3 Ar27 (j := (Int32.ofNat i)) hin27 (g := (mkF m 67 #[.val (.ref ca), .val (.int (Int32.ofNat i)), .val (.int pre), .val (.int suf), .val (.long xl), .second, .val (.long yl), .second, .val (.int (Int32.ofNat n)), .val (.int dv_3)] [(.int dv_3), (.int (Int32.ofNat i)), (.ref ca)])) rfl rfl (dd hy d3_67)
      have z29 : h0.size ≤ h28.size := Nat.le_of_eq W28.size.symm
      have Cp29 : CHr Z ELs s.vm h0 s.vm h28 := CHr.wr W28 (Safe.arv hZ.alike I3 (by decide)) CR.1
      have hk := Nat.le_trans hk z29
      have CR := CR.trans Cp29
      have V28 : Arv Z h28 ca kc .char (Int32.ofNat n) ((List.set cs i dv_3).map Value.int) v0_ := by
        have q : Arv Z h28 ca kc .char (Int32.ofNat n) (List.set (List.map Value.int cs) i (.int (nar .char dv_3))) v0_ := Arv.set Ar27 q27 S27 M27 H27 G27 (fits_nar_char _) W28 i (own_tn (by omega)) (by rw [List.length_map]; omega)
        rw [show nar .char dv_3 = dv_3 from own_narc P3_0.1 P3_0.2] at q
        rw [List.map_set]
        exact q
      have N28 := Fr.snoc X28 N3 (show n0 ≤ ca by omega)
      have s30 : ∀ t_, Steps p.tables e below (T28.setTop (mkF m 68 #[.val (.ref ca), .val (.int (Int32.ofNat i)), .val (.int pre), .val (.int suf), .val (.long xl), .second, .val (.long yl), .second, .val (.int (Int32.ofNat n)), .val (.int dv_3)] [])) t_ → Steps _ _ _ _ t_ := fun t_ k_ => s25 t_ (by
        refine XS.ifYes X3.here hx rfl (pc0 := 39) (pc' := 63) rfl (dd hy d3_39) rfl ((if0 _ _).trans (teq h26).1) (by decide) (by decide) ?_
        show Steps _ _ _ (T3.setTop (mkF m 63 #[.val (.ref ca), .val (.int (Int32.ofNat i)), .val (.int pre), .val (.int suf), .val (.long xl), .second, .val (.long yl), .second, .val (.int (Int32.ofNat n)), .val (.int dv_3)] [])) _
        refine XS.aloadN X3.here hx rfl (dd hy d3_63) rfl rfl ?_
        refine XS.iloadN X3.here hx rfl (dd hy d3_64) rfl ?_
        refine XS.iload X3.here hx rfl (dd hy d3_65) rfl ?_
        refine st28 _ ?_
        exact k_)
      obtain ⟨fs, hr, hrun, hended, hREW⟩ := X28.leaveW hS (by first | exact Nat.le_refl _ | (rw [e28]; exact hk)) (v := none) (fun _ => rfl)
      refine ⟨_, _, s30 _ ?_, hrun, hended, _, _, rfl, ?_, (by show CHr Z ELs s.vm s.heap T28.vm T28.heap; rw [hh, e28]; exact CR.trans (CHv.at X28 hZ hEL CR.1)), hREW.1, hREW.2.1, hREW.2.2.1, hREW.2.2.2.mono (by decide) (by decide)⟩
      · exact X28.returnOut hx Bd.returns (dd hy d3_68) hr
      · show Q_rmPutB5 Z _ _ _ _ _ _ _ _ _ _ _ h0 n0 _ T28.heap _
        rw [e28]
        exact ⟨(List.set cs i dv_3), rfl, N28, ((Keep.refl h0 [ca]).wr W28 (Or.inl (by simp))), V28, (by rw [List.length_set]; exact hn), own_chsset hchs P3_0⟩
    · have s32 : ∀ t_, Steps p.tables e below (T3.setTop (mkF m 50 #[.val (.ref ca), .val (.int (Int32.ofNat i)), .val (.int pre), .val (.int suf), .val (.long xl), .second, .val (.long yl), .second, .val (.int (Int32.ofNat n)), .val (.int dv_3)] [])) t_ → Steps _ _ _ _ t_ := fun t_ k_ => s25 t_ (by
        refine XS.ifNo X3.here hx rfl (dd hy d3_39) rfl ((if0 _ _).trans (feq h26).1) ?_
        show Steps _ _ _ (T3.setTop (mkF m 42 #[.val (.ref ca), .val (.int (Int32.ofNat i)), .val (.int pre), .val (.int suf), .val (.long xl), .second, .val (.long yl), .second, .val (.int (Int32.ofNat n)), .val (.int dv_3)] [])) _
        refine XS.iloadN X3.here hx rfl (dd hy d3_42) rfl ?_
        refine XS.iload X3.here hx rfl (dd hy d3_43) rfl ?_
        refine XS.iconst X3.here hx rfl (dd hy d3_45) ?_
        refine XS.isub X3.here hx rfl (dd hy d3_46) rfl ?_
        refine XS.icmpNo X3.here hx rfl (dd hy d3_47) rfl (flt (own_m5f hs (by omega) (by omega))).1 ?_
        show Steps _ _ _ (T3.setTop (mkF m 50 #[.val (.ref ca), .val (.int (Int32.ofNat i)), .val (.int pre), .val (.int suf), .val (.long xl), .second, .val (.long yl), .second, .val (.int (Int32.ofNat n)), .val (.int dv_3)] [])) _
        exact k_)
      obtain ⟨a31, T31, h31, k31, b31, kk31, X31, e31, E31, hS, hk, hZ, hown, Ex31, Fc31, Fv31, Av31, la31, lb31, Cp31, Li31, Sa31, st31⟩ := ldcCH X3 hx hZ hown (own_m hw 99 rfl) wS e3 hS hk hEL (List.mem_of_getElem? (i := 3) rfl) CR.1 (vs := [(.int (46 : Int32)), (.int (106 : Int32)), (.int (115 : Int32)), (.int (111 : Int32)), (.int (110 : Int32))]) (z := (5 : Int32)) ⟨by decide, by decide⟩ (by decide) rfl (g := (mkF m 50 #[.val (.ref ca), .val (.int (Int32.ofNat i)), .val (.int pre), .val (.int suf), .val (.long xl), .second, .val (.long yl), .second, .val (.int (Int32.ofNat n)), .val (.int dv_3)] [])) rfl (dd hy d3_50) (n := 20) (by decide) (by decide) (by decide) (by decide)
      have z33 : h0.size ≤ h31.size := E31.1
      have CR := CR.trans Cp31
      have la31 : @LT.lt Nat _ a31 h31.size := la31
      have lb31 : @LT.lt Nat _ b31 h31.size := lb31
      have Fc34 : Fld Z h31 a31 cS "coder" "B" (.int (own_cod own_tj)) := Fc31
      have Av34 : Arv Z h31 b31 kk31 .byte (Int32.ofNat (own_enl own_tj)) (own_enc own_tj) v0_ := own_tj_lit Av31
      have O35 : Old Z n0 h31 := (OX.ext E31)
      have Zc36 : n0 ≤ h31.size := by omega
      obtain ⟨cq37, kq37, q37a, q37b, q37c⟩ := isOf hZ e31 Ex31
      obtain ⟨_, _, ⟨T37, L37, k37, n37⟩, -, X37, ⟨Lc37, hQ37, l37, y37, z37⟩, st37⟩ := X31.virtualBack hx (y := M16_) (z := M16_) hown (mvT hZ (own_m hw 67 rfl)) (mvT hZ (own_m hw 68 rfl)) (notFace_of_selects (args := #[]) (mvT hZ (own_m hw 70 rfl))) (mvT hZ (own_m hw 70 rfl)) (mvT hZ (own_m hw 69 rfl)) (by decide) (backOf (W := 0) (rmChA l Z a0 hw [] a31 cst b31 kk31 own_tj (i + 5 - n) fmt h31 n0 Zc36 I1 hfmt I2 O35 hcst Ex31 Fv31 Fc34 Av34 (by decide) (show i + 5 - n < 5 from (by omega)) own_tj_chs own_tj_lat) hZ (own_m hw 71 rfl) (own_m hw 7 rfl) (by decide) (by decide)) q37a q37c (g := (mkF m 58 #[.val (.ref ca), .val (.int (Int32.ofNat i)), .val (.int pre), .val (.int suf), .val (.long xl), .second, .val (.long yl), .second, .val (.int (Int32.ofNat n)), .val (.int dv_3)] [(.int (Int32.ofNat (i + 5 - n))), (.ref a31)])) rfl (by rw [hml]; rfl) (Steps.refl _) (argsL := [(.int (Int32.ofNat (i + 5 - n)))]) (rest := []) (lenOf pd__I_C rfl) rfl (by show 2 * 0 + _ ≤ _; exact Nat.le_of_eq rfl) (dd hy d3_58) (fun _ _ => ⟨rfl, e31, (by decide : 2 + 0 ≤ _), (by decide : 24 + 0 ≤ _)⟩)
      dsimp only [Pt.U, Pt.locs, Pt.cells, Pt.slots] at X37 l37 y37 z37 st37 hQ37
      subst l37 y37 z37
      obtain ⟨rfl, N37q, e37⟩ := hQ37
      have N37 := Fr.app N3 N37q
      have rg38 := own_tj_chs _ (own_mem own_tj (i + 5 - n) (show i + 5 - n < 5 by omega))
      have f39 : Arv Z h31 ca kc .char (Int32.ofNat n) (cs.map Value.int) v0_ := (I3.ext E31)
      obtain ⟨cl40, Ar40, q40, S40, M40, H40, G40⟩ := id f39
      have hin40 : ¬ ((Int32.ofNat i) < 0 ∨ cl40.slots.size ≤ ((Int32.ofNat i)).toNatClampNeg) := inb_of S40 (own_in hin (by omega))
      obtain ⟨T41, h41, X41, e41, W41, st41⟩ := stC X37 hx hZ e37 Ar40 (j := (Int32.ofNat i)) hin40 (g := (mkF m 67 #[.val (.ref ca), .val (.int (Int32.ofNat i)), .val (.int pre), .val (.int suf), .val (.long xl), .second, .val (.long yl), .second, .val (.int (Int32.ofNat n)), .val (.int (own_tj.getD (i + 5 - n) 0))] [(.int (own_tj.getD (i + 5 - n) 0)), (.int (Int32.ofNat i)), (.ref ca)])) rfl rfl (dd hy d3_67)
      have z42 : h31.size ≤ h41.size := Nat.le_of_eq W41.size.symm
      have Cp42 : CHr Z ELs T31.vm h31 T31.vm h41 := CHr.wr W41 (Safe.arv hZ.alike f39 (by decide)) CR.1
      have hk := Nat.le_trans hk z42
      have CR := CR.trans Cp42
      have V41 : Arv Z h41 ca kc .char (Int32.ofNat n) ((List.set cs i (own_tj.getD (i + 5 - n) 0)).map Value.int) v0_ := by
        have q : Arv Z h41 ca kc .char (Int32.ofNat n) (List.set (List.map Value.int cs) i (.int (nar .char (own_tj.getD (i + 5 - n) 0)))) v0_ := Arv.set Ar40 q40 S40 M40 H40 G40 (fits_nar_char _) W41 i (own_tn (by omega)) (by rw [List.length_map]; omega)
        rw [show nar .char (own_tj.getD (i + 5 - n) 0) = (own_tj.getD (i + 5 - n) 0) from own_narc rg38.1 rg38.2] at q
        rw [List.map_set]
        exact q
      have N41 := Fr.snoc X41 N37 (show n0 ≤ ca by omega)
      have s43 : ∀ t_, Steps p.tables e below (T41.setTop (mkF m 68 #[.val (.ref ca), .val (.int (Int32.ofNat i)), .val (.int pre), .val (.int suf), .val (.long xl), .second, .val (.long yl), .second, .val (.int (Int32.ofNat n)), .val (.int (own_tj.getD (i + 5 - n) 0))] [])) t_ → Steps _ _ _ _ t_ := fun t_ k_ => s32 t_ (by
        refine st31 _ ?_
        show Steps _ _ _ (T31.setTop (mkF m 52 #[.val (.ref ca), .val (.int (Int32.ofNat i)), .val (.int pre), .val (.int suf), .val (.long xl), .second, .val (.long yl), .second, .val (.int (Int32.ofNat n)), .val (.int dv_3)] [(.ref a31)])) _
        refine XS.iloadN X31.here hx rfl (dd hy d3_52) rfl ?_
        refine XS.iload X31.here hx rfl (dd hy d3_53) rfl ?_
        refine XS.iconst X31.here hx rfl (dd hy d3_55) ?_
        refine XS.isub X31.here hx rfl (dd hy d3_56) rfl ?_
        refine XS.isub X31.here hx rfl (dd hy d3_57) rfl ?_
        show Steps _ _ _ (T31.setTop (mkF m 58 #[.val (.ref ca), .val (.int (Int32.ofNat i)), .val (.int pre), .val (.int suf), .val (.long xl), .second, .val (.long yl), .second, .val (.int (Int32.ofNat n)), .val (.int dv_3)] [(.int ((Int32.ofNat i) - ((Int32.ofNat n) - (5 : Int32)))), (.ref a31)])) _
        refine castTop (g' := (mkF m 58 #[.val (.ref ca), .val (.int (Int32.ofNat i)), .val (.int pre), .val (.int suf), .val (.long xl), .second, .val (.long yl), .second, .val (.int (Int32.ofNat n)), .val (.int dv_3)] [(.int (Int32.ofNat (i + 5 - n))), (.ref a31)])) (by rw [own_i5n hs (by omega) (by omega)]) ?_
        show Steps _ _ _ (T31.setTop (mkF m 58 #[.val (.ref ca), .val (.int (Int32.ofNat i)), .val (.int pre), .val (.int suf), .val (.long xl), .second, .val (.long yl), .second, .val (.int (Int32.ofNat n)), .val (.int dv_3)] [(.int (Int32.ofNat (i + 5 - n))), (.ref a31)])) _
        refine st37.trans ?_
        show Steps _ _ _ (T37.setTop (mkF m 61 #[.val (.ref ca), .val (.int (Int32.ofNat i)), .val (.int pre), .val (.int suf), .val (.long xl), .second, .val (.long yl), .second, .val (.int (Int32.ofNat n)), .val (.int dv_3)] [(.int (own_tj.getD (i + 5 - n) 0))])) _
        refine XS.istore X37.here hx rfl (dd hy d3_61) rfl (l' := #[.val (.ref ca), .val (.int (Int32.ofNat i)), .val (.int pre), .val (.int suf), .val (.long xl), .second, .val (.long yl), .second, .val (.int (Int32.ofNat n)), .val (.int (own_tj.getD (i + 5 - n) 0))]) rfl ?_
        refine XS.aloadN X37.here hx rfl (dd hy d3_63) rfl rfl ?_
        refine XS.iloadN X37.here hx rfl (dd hy d3_64) rfl ?_
        refine XS.iload X37.here hx rfl (dd hy d3_65) rfl ?_
        refine st41 _ ?_
        exact k_)
      obtain ⟨fs, hr, hrun, hended, hREW⟩ := X41.leaveW hS (by first | exact Nat.le_refl _ | (rw [e41]; exact hk)) (v := none) (fun _ => rfl)
      refine ⟨_, _, s43 _ ?_, hrun, hended, _, _, rfl, ?_, (by show CHr Z ELs s.vm s.heap T41.vm T41.heap; rw [hh, e41]; exact CR.trans (CHv.at X41 hZ hEL CR.1)), hREW.1, hREW.2.1, hREW.2.2.1, hREW.2.2.2.mono (by decide) (by decide)⟩
      · exact X41.returnOut hx Bd.returns (dd hy d3_68) hr
      · show Q_rmPutB5 Z _ _ _ _ _ _ _ _ _ _ _ h0 n0 _ T41.heap _
        rw [e41]
        exact ⟨(List.set cs i (own_tj.getD (i + 5 - n) 0)), rfl, N41, (((Keep.refl h0 [ca]).ext E31).wr W41 (Or.inl (by simp))), V41, (by rw [List.length_set]; exact hn), own_chsset hchs rg38⟩
theorem d3_30 : decode C3 30 = .ok (.ldc 15, 2) := by decide +kernel
theorem d3_32 : decode C3 32 = .ok (.iload_n 1, 1) := by decide +kernel
theorem d3_33 : decode C3 33 = .ok (.invokevirtual 17, 3) := by decide +kernel
theorem d3_36 : decode C3 36 = .ok (.istore 9, 2) := by decide +kernel
theorem ef_rmPutA0 (m : MethodId) (x0 : Addr) (x1 : Int32) (x2 : Int32) (x3 : Int32) (x4 : Int64) (x5 : Int64) : entryFrame m #[(.ref x0), (.int x1), (.int x2), (.int x3), (.long x4), (.long x5)] 10 = mkF m 0 #[.val (.ref x0), .val (.int x1), .val (.int x2), .val (.int x3), .val (.long x4), .second, .val (.long x5), .second, .unset, .unset] [] := by first | (simp [entryFrame, mkF, argsToLocals, Value.category]; done) | rfl
abbrev R_rmPutA0 : Room := ({ frames := 4, cells := 2, slots := 24, locals := 53 } : Room)
def Q_rmPutA0 (Z : State) (ca : Addr) (pre : Int32) (suf : Int32) (xl : Int64) (yl : Int64) (cst : Int32) (kc : ClassId) (cs : List Int32) (n : Nat) (i : Nat) (fmt : Value) (h0 : Heap) (n0 : Nat) (v : Option Value) (h : Heap) (L : List Loc) : Prop := ∃ (ds : List Int32), (v = none) ∧ (Fr n0 L) ∧ (Keep h0 h [ca]) ∧ (Arv Z h ca kc .char (Int32.ofNat n) (ds.map Value.int) v0_) ∧ (ds.length = n) ∧ (own_chs ds)
set_option maxRecDepth 65536 in
set_option maxHeartbeats 40000000 in
theorem rmPutA0 (l : Launch) (Z : State) (a0 : Array Value) (hw : HW Z a0) (ws : List Jvm.Cond) (ca : Addr) (pre : Int32) (suf : Int32) (xl : Int64) (yl : Int64) (cst : Int32) (kc : ClassId) (cs : List Int32) (n : Nat) (i : Nat) (fmt : Value) (h0 : Heap) (n0 : Nat) (Z0 : n0 ≤ h0.size) (I1 : Sta Z Z.heap cS cC "Z" (.int cst)) (hfmt : fmt.isRef = true) (I2 : Sta Z Z.heap cP cG cF fmt) (OX : Old Z n0 h0) (hcst : ¬ (cst = (0 : Int32))) (I3 : Arv Z h0 ca kc .char (Int32.ofNat n) (cs.map Value.int) v0_) (hn : cs.length = n) (hn15 : n ≤ 15) (gc : n0 ≤ ca) (hchs : own_chs cs) (hin : i < n) (hi5 : i < 5) (hs : i + 5 < n) :
    MetFree l M23_ (head1 (Jvm.Cond.code M23_ method_3_code 10 none :: ws) R_rmPutA0) (fun ar_ U => ar_ = #[(.ref ca), (.int (Int32.ofNat i)), (.int pre), (.int suf), (.long xl), (.long yl)] ∧ Z.Warmed39 U.vm ∧ U.heap = h0 ∧ CHv Z ELs U.vm h0) (fun _ _ _ _ _ => True) (fun _ U oc_ U' => ∃ v L, oc_ = .returned v ∧ Q_rmPutA0 Z ca pre suf xl yl cst kc cs n i fmt h0 n0 v U'.heap L ∧ CHr Z ELs U.vm U.heap U'.vm U'.heap ∧ ReturnedEndW U oc_ U' L R_rmPutA0.cells R_rmPutA0.slots) := by
  refine MetFree.of_bodySF (plainFor_of_name pn_io_dyeline_store_LayoutIsDataFilePinLaw) hisR ?_
  intro p e s m args below meth c s₁ Bd hml0 hP hK
  obtain ⟨rfl, hZ, hh, hCH⟩ := hP
  have hx := Bd.exec
  have hy := Bd.bytes
  have hml : c.maxLocals = 10 := hml0
  have hown : s.vm.findClass "io/dyeline/store/LayoutIsDataFilePinLaw" = some m.cls := findClass_of_methodNamed Bd.named
  have hnm := (name_of_methodNamed Bd.named Bd.method).1
  have X0 : Stand p l e R_rmPutA0 (s.setVm s.vm) m #[(.ref ca), (.int (Int32.ofNat i)), (.int pre), (.int suf), (.long xl), (.long yl)] below meth c s₁ [] 0 0 := Stand.of_body Bd
  have e0 : s₁.heap = h0 := by rw [← hh, Bd.state]; rfl
  have N0 := Fr.nil n0
  have pre0 := own_pre (p := p) (e := e) (below := below) (T := s₁) (ef_rmPutA0 m ca (Int32.ofNat i) pre suf xl yl)
  have hEL : EW Z a0 ELs := own_EW hw
  have wS : ∀ a ∈ Bundle.stringAtoms, a.before a0 Z = true := own_wS hw
  have hS : s.Since s.vm s.heap.size := (State.WarmedH.refl s).since _
  have hk : s.heap.size ≤ h0.size := by rw [hh]; exact Nat.le_refl _
  have CR : CHr Z ELs s.vm h0 s.vm h0 := CHr.refl hCH
  have lt_I3 : @LT.lt Nat _ ca h0.size := I3.lt
  obtain ⟨cl1, Ar1, -, S1, M1, -, -⟩ := id I3
  have Zc2 : n0 ≤ h0.size := by omega
  obtain ⟨_, _, ⟨T3, L3, k3, n3⟩, -, X3, ⟨Lc3, hQ3, l3, y3, z3⟩, st3⟩ := Jvm.LawKit.callS X0 hx (y := M22_) hown (mvT hZ (own_m hw 52 rfl)) (mvT hZ (own_m hw 53 rfl)) (mvT hZ (own_m hw 3 rfl)) (mvT hZ (own_m hw 54 rfl)) (by decide) (backOf (W := 0) (rmDr l Z a0 hw [] xl yl (Int32.ofNat i) h0 n0 Zc2) hZ (own_m hw 54 rfl) (own_m hw 3 rfl) (by decide) (by decide)) (g := (mkF m 16 #[.val (.ref ca), .val (.int (Int32.ofNat i)), .val (.int pre), .val (.int suf), .val (.long xl), .second, .val (.long yl), .second, .val (.int (Int32.ofNat n)), .unset] [(.int (Int32.ofNat i)), (.long yl), (.long xl)])) rfl (by rw [hml]; rfl) (argsL := [(.long xl), (.long yl), (.int (Int32.ofNat i))]) (rest := []) (lenOf pd__JJI_C rfl) rfl (by show 2 * 0 + _ ≤ _; exact Nat.le_of_eq rfl) (dd hy d3_16) (fun _ _ => ⟨rfl, e0, (by decide : 0 + 0 ≤ _), (by decide : 0 + 0 ≤ _)⟩)
  dsimp only [Pt.U, Pt.locs, Pt.cells, Pt.slots] at X3 l3 y3 z3 st3 hQ3
  subst l3 y3 z3
  obtain ⟨dv_3, rfl, N3q, e3, P3_0⟩ := hQ3
  have N3 := Fr.app N0 N3q
  have s4 : ∀ t_, Steps p.tables e below (T3.setTop (mkF m 22 #[.val (.ref ca), .val (.int (Int32.ofNat i)), .val (.int pre), .val (.int suf), .val (.long xl), .second, .val (.long yl), .second, .val (.int (Int32.ofNat n)), .val (.int dv_3)] [(.int pre)])) t_ → Steps _ _ _ _ t_ := fun t_ k_ => pre0 t_ (by
    refine XS.aloadN X0.here hx rfl (dd hy d3_0) rfl rfl ?_
    refine X0.arraylength hx (by rw [e0]; exact Ar1.1) (State.isArrayOf_alike hZ.alike Ar1.2.1) (g := (mkF m 1 #[.val (.ref ca), .val (.int (Int32.ofNat i)), .val (.int pre), .val (.int suf), .val (.long xl), .second, .val (.long yl), .second, .unset, .unset] [(.ref ca)])) rfl rfl (dd hy d3_1) _ ?_
    rw [len_of S1 M1]
    show Steps _ _ _ (s₁.setTop (mkF m 2 #[.val (.ref ca), .val (.int (Int32.ofNat i)), .val (.int pre), .val (.int suf), .val (.long xl), .second, .val (.long yl), .second, .unset, .unset] [(.int (Int32.ofNat n))])) _
    refine XS.istore X0.here hx rfl (dd hy d3_2) rfl (l' := #[.val (.ref ca), .val (.int (Int32.ofNat i)), .val (.int pre), .val (.int suf), .val (.long xl), .second, .val (.long yl), .second, .val (.int (Int32.ofNat n)), .unset]) rfl ?_
    refine XS.iloadN X0.here hx rfl (dd hy d3_4) rfl ?_
    refine XS.iload X0.here hx rfl (dd hy d3_5) rfl ?_
    refine XS.icmpYes X0.here hx rfl (pc0 := 7) (pc' := 11) rfl (dd hy d3_7) rfl (tlt (own_lt hin (by omega))).1 (by decide) (by decide) ?_
    show Steps _ _ _ (s₁.setTop (mkF m 11 #[.val (.ref ca), .val (.int (Int32.ofNat i)), .val (.int pre), .val (.int suf), .val (.long xl), .second, .val (.long yl), .second, .val (.int (Int32.ofNat n)), .unset] [])) _
    refine XS.lload X0.here hx rfl (dd hy d3_11) rfl ?_
    refine XS.lload X0.here hx rfl (dd hy d3_13) rfl ?_
    refine XS.iloadN X0.here hx rfl (dd hy d3_15) rfl ?_
    refine st3 _ ?_
    show Steps _ _ _ (T3.setTop (mkF m 19 #[.val (.ref ca), .val (.int (Int32.ofNat i)), .val (.int pre), .val (.int suf), .val (.long xl), .second, .val (.long yl), .second, .val (.int (Int32.ofNat n)), .unset] [(.int dv_3)])) _
    refine XS.istore X3.here hx rfl (dd hy d3_19) rfl (l' := #[.val (.ref ca), .val (.int (Int32.ofNat i)), .val (.int pre), .val (.int suf), .val (.long xl), .second, .val (.long yl), .second, .val (.int (Int32.ofNat n)), .val (.int dv_3)]) rfl ?_
    refine XS.iloadN X3.here hx rfl (dd hy d3_21) rfl ?_
    exact k_)
  by_cases h5 : pre = (0 : Int32)
  · have s6 : ∀ t_, Steps p.tables e below (T3.setTop (mkF m 39 #[.val (.ref ca), .val (.int (Int32.ofNat i)), .val (.int pre), .val (.int suf), .val (.long xl), .second, .val (.long yl), .second, .val (.int (Int32.ofNat n)), .val (.int dv_3)] [(.int suf)])) t_ → Steps _ _ _ _ t_ := fun t_ k_ => s4 t_ (by
      refine XS.ifYes X3.here hx rfl (pc0 := 22) (pc' := 38) rfl (dd hy d3_22) rfl ((if0 _ _).trans (teq h5).1) (by decide) (by decide) ?_
      show Steps _ _ _ (T3.setTop (mkF m 38 #[.val (.ref ca), .val (.int (Int32.ofNat i)), .val (.int pre), .val (.int suf), .val (.long xl), .second, .val (.long yl), .second, .val (.int (Int32.ofNat n)), .val (.int dv_3)] [])) _
      refine XS.iloadN X3.here hx rfl (dd hy d3_38) rfl ?_
      exact k_)
    by_cases h7 : suf = (0 : Int32)
    · obtain ⟨cl8, Ar8, q8, S8, M8, H8, G8⟩ := id I3
      have hin8 : ¬ ((Int32.ofNat i) < 0 ∨ cl8.slots.size ≤ ((Int32.ofNat i)).toNatClampNeg) := inb_of S8 (own_in hin (by omega))
      obtain ⟨T9, h9, X9, e9, W9, st9⟩ := stC X3 hx hZ e3 Ar8 (j := (Int32.ofNat i)) hin8 (g := (mkF m 67 #[.val (.ref ca), .val (.int (Int32.ofNat i)), .val (.int pre), .val (.int suf), .val (.long xl), .second, .val (.long yl), .second, .val (.int (Int32.ofNat n)), .val (.int dv_3)] [(.int dv_3), (.int (Int32.ofNat i)), (.ref ca)])) rfl rfl (dd hy d3_67)
      have z10 : h0.size ≤ h9.size := Nat.le_of_eq W9.size.symm
      have Cp10 : CHr Z ELs s.vm h0 s.vm h9 := CHr.wr W9 (Safe.arv hZ.alike I3 (by decide)) CR.1
      have hk := Nat.le_trans hk z10
      have CR := CR.trans Cp10
      have V9 : Arv Z h9 ca kc .char (Int32.ofNat n) ((List.set cs i dv_3).map Value.int) v0_ := by
        have q : Arv Z h9 ca kc .char (Int32.ofNat n) (List.set (List.map Value.int cs) i (.int (nar .char dv_3))) v0_ := Arv.set Ar8 q8 S8 M8 H8 G8 (fits_nar_char _) W9 i (own_tn (by omega)) (by rw [List.length_map]; omega)
        rw [show nar .char dv_3 = dv_3 from own_narc P3_0.1 P3_0.2] at q
        rw [List.map_set]
        exact q
      have N9 := Fr.snoc X9 N3 (show n0 ≤ ca by omega)
      have s11 : ∀ t_, Steps p.tables e below (T9.setTop (mkF m 68 #[.val (.ref ca), .val (.int (Int32.ofNat i)), .val (.int pre), .val (.int suf), .val (.long xl), .second, .val (.long yl), .second, .val (.int (Int32.ofNat n)), .val (.int dv_3)] [])) t_ → Steps _ _ _ _ t_ := fun t_ k_ => s6 t_ (by
        refine XS.ifYes X3.here hx rfl (pc0 := 39) (pc' := 63) rfl (dd hy d3_39) rfl ((if0 _ _).trans (teq h7).1) (by decide) (by decide) ?_
        show Steps _ _ _ (T3.setTop (mkF m 63 #[.val (.ref ca), .val (.int (Int32.ofNat i)), .val (.int pre), .val (.int suf), .val (.long xl), .second, .val (.long yl), .second, .val (.int (Int32.ofNat n)), .val (.int dv_3)] [])) _
        refine XS.aloadN X3.here hx rfl (dd hy d3_63) rfl rfl ?_
        refine XS.iloadN X3.here hx rfl (dd hy d3_64) rfl ?_
        refine XS.iload X3.here hx rfl (dd hy d3_65) rfl ?_
        refine st9 _ ?_
        exact k_)
      obtain ⟨fs, hr, hrun, hended, hREW⟩ := X9.leaveW hS (by first | exact Nat.le_refl _ | (rw [e9]; exact hk)) (v := none) (fun _ => rfl)
      refine ⟨_, _, s11 _ ?_, hrun, hended, _, _, rfl, ?_, (by show CHr Z ELs s.vm s.heap T9.vm T9.heap; rw [hh, e9]; exact CR.trans (CHv.at X9 hZ hEL CR.1)), hREW.1, hREW.2.1, hREW.2.2.1, hREW.2.2.2.mono (by decide) (by decide)⟩
      · exact X9.returnOut hx Bd.returns (dd hy d3_68) hr
      · show Q_rmPutA0 Z _ _ _ _ _ _ _ _ _ _ _ h0 n0 _ T9.heap _
        rw [e9]
        exact ⟨(List.set cs i dv_3), rfl, N9, ((Keep.refl h0 [ca]).wr W9 (Or.inl (by simp))), V9, (by rw [List.length_set]; exact hn), own_chsset hchs P3_0⟩
    · obtain ⟨cl12, Ar12, q12, S12, M12, H12, G12⟩ := id I3
      have hin12 : ¬ ((Int32.ofNat i) < 0 ∨ cl12.slots.size ≤ ((Int32.ofNat i)).toNatClampNeg) := inb_of S12 (own_in hin (by omega))
      obtain ⟨T13, h13, X13, e13, W13, st13⟩ := stC X3 hx hZ e3 Ar12 (j := (Int32.ofNat i)) hin12 (g := (mkF m 67 #[.val (.ref ca), .val (.int (Int32.ofNat i)), .val (.int pre), .val (.int suf), .val (.long xl), .second, .val (.long yl), .second, .val (.int (Int32.ofNat n)), .val (.int dv_3)] [(.int dv_3), (.int (Int32.ofNat i)), (.ref ca)])) rfl rfl (dd hy d3_67)
      have z14 : h0.size ≤ h13.size := Nat.le_of_eq W13.size.symm
      have Cp14 : CHr Z ELs s.vm h0 s.vm h13 := CHr.wr W13 (Safe.arv hZ.alike I3 (by decide)) CR.1
      have hk := Nat.le_trans hk z14
      have CR := CR.trans Cp14
      have V13 : Arv Z h13 ca kc .char (Int32.ofNat n) ((List.set cs i dv_3).map Value.int) v0_ := by
        have q : Arv Z h13 ca kc .char (Int32.ofNat n) (List.set (List.map Value.int cs) i (.int (nar .char dv_3))) v0_ := Arv.set Ar12 q12 S12 M12 H12 G12 (fits_nar_char _) W13 i (own_tn (by omega)) (by rw [List.length_map]; omega)
        rw [show nar .char dv_3 = dv_3 from own_narc P3_0.1 P3_0.2] at q
        rw [List.map_set]
        exact q
      have N13 := Fr.snoc X13 N3 (show n0 ≤ ca by omega)
      have s15 : ∀ t_, Steps p.tables e below (T13.setTop (mkF m 68 #[.val (.ref ca), .val (.int (Int32.ofNat i)), .val (.int pre), .val (.int suf), .val (.long xl), .second, .val (.long yl), .second, .val (.int (Int32.ofNat n)), .val (.int dv_3)] [])) t_ → Steps _ _ _ _ t_ := fun t_ k_ => s6 t_ (by
        refine XS.ifNo X3.here hx rfl (dd hy d3_39) rfl ((if0 _ _).trans (feq h7).1) ?_
        show Steps _ _ _ (T3.setTop (mkF m 42 #[.val (.ref ca), .val (.int (Int32.ofNat i)), .val (.int pre), .val (.int suf), .val (.long xl), .second, .val (.long yl), .second, .val (.int (Int32.ofNat n)), .val (.int dv_3)] [])) _
        refine XS.iloadN X3.here hx rfl (dd hy d3_42) rfl ?_
        refine XS.iload X3.here hx rfl (dd hy d3_43) rfl ?_
        refine XS.iconst X3.here hx rfl (dd hy d3_45) ?_
        refine XS.isub X3.here hx rfl (dd hy d3_46) rfl ?_
        refine XS.icmpYes X3.here hx rfl (pc0 := 47) (pc' := 63) rfl (dd hy d3_47) rfl (tlt (own_m5t hs (by omega))).1 (by decide) (by decide) ?_
        show Steps _ _ _ (T3.setTop (mkF m 63 #[.val (.ref ca), .val (.int (Int32.ofNat i)), .val (.int pre), .val (.int suf), .val (.long xl), .second, .val (.long yl), .second, .val (.int (Int32.ofNat n)), .val (.int dv_3)] [])) _
        refine XS.aloadN X3.here hx rfl (dd hy d3_63) rfl rfl ?_
        refine XS.iloadN X3.here hx rfl (dd hy d3_64) rfl ?_
        refine XS.iload X3.here hx rfl (dd hy d3_65) rfl ?_
        refine st13 _ ?_
        exact k_)
      obtain ⟨fs, hr, hrun, hended, hREW⟩ := X13.leaveW hS (by first | exact Nat.le_refl _ | (rw [e13]; exact hk)) (v := none) (fun _ => rfl)
      refine ⟨_, _, s15 _ ?_, hrun, hended, _, _, rfl, ?_, (by show CHr Z ELs s.vm s.heap T13.vm T13.heap; rw [hh, e13]; exact CR.trans (CHv.at X13 hZ hEL CR.1)), hREW.1, hREW.2.1, hREW.2.2.1, hREW.2.2.2.mono (by decide) (by decide)⟩
      · exact X13.returnOut hx Bd.returns (dd hy d3_68) hr
      · show Q_rmPutA0 Z _ _ _ _ _ _ _ _ _ _ _ h0 n0 _ T13.heap _
        rw [e13]
        exact ⟨(List.set cs i dv_3), rfl, N13, ((Keep.refl h0 [ca]).wr W13 (Or.inl (by simp))), V13, (by rw [List.length_set]; exact hn), own_chsset hchs P3_0⟩
  · have s17 : ∀ t_, Steps p.tables e below (T3.setTop (mkF m 30 #[.val (.ref ca), .val (.int (Int32.ofNat i)), .val (.int pre), .val (.int suf), .val (.long xl), .second, .val (.long yl), .second, .val (.int (Int32.ofNat n)), .val (.int dv_3)] [])) t_ → Steps _ _ _ _ t_ := fun t_ k_ => s4 t_ (by
      refine XS.ifNo X3.here hx rfl (dd hy d3_22) rfl ((if0 _ _).trans (feq h5).1) ?_
      show Steps _ _ _ (T3.setTop (mkF m 25 #[.val (.ref ca), .val (.int (Int32.ofNat i)), .val (.int pre), .val (.int suf), .val (.long xl), .second, .val (.long yl), .second, .val (.int (Int32.ofNat n)), .val (.int dv_3)] [])) _
      refine XS.iloadN X3.here hx rfl (dd hy d3_25) rfl ?_
      refine XS.iconst X3.here hx rfl (dd hy d3_26) ?_
      refine XS.icmpNo X3.here hx rfl (dd hy d3_27) rfl (tlt (show (Int32.ofNat i) < (5 : Int32) from own_lt (n := 5) hi5 (by decide))).2.1 ?_
      show Steps _ _ _ (T3.setTop (mkF m 30 #[.val (.ref ca), .val (.int (Int32.ofNat i)), .val (.int pre), .val (.int suf), .val (.long xl), .second, .val (.long yl), .second, .val (.int (Int32.ofNat n)), .val (.int dv_3)] [])) _
      exact k_)
    obtain ⟨a16, T16, h16, k16, b16, kk16, X16, e16, E16, hS, hk, hZ, hown, Ex16, Fc16, Fv16, Av16, la16, lb16, Cp16, Li16, Sa16, st16⟩ := ldcCH X3 hx hZ hown (own_m hw 66 rfl) wS e3 hS hk hEL (List.mem_of_getElem? (i := 2) rfl) CR.1 (vs := [(.int (112 : Int32)), (.int (97 : Int32)), (.int (114 : Int32)), (.int (116 : Int32)), (.int (45 : Int32))]) (z := (5 : Int32)) ⟨by decide, by decide⟩ (by decide) rfl (g := (mkF m 30 #[.val (.ref ca), .val (.int (Int32.ofNat i)), .val (.int pre), .val (.int suf), .val (.long xl), .second, .val (.long yl), .second, .val (.int (Int32.ofNat n)), .val (.int dv_3)] [])) rfl (dd hy d3_30) (n := 20) (by decide) (by decide) (by decide) (by decide)
    have z18 : h0.size ≤ h16.size := E16.1
    have CR := CR.trans Cp16
    have la16 : @LT.lt Nat _ a16 h16.size := la16
    have lb16 : @LT.lt Nat _ b16 h16.size := lb16
    have Fc19 : Fld Z h16 a16 cS "coder" "B" (.int (own_cod own_tp)) := Fc16
    have Av19 : Arv Z h16 b16 kk16 .byte (Int32.ofNat (own_enl own_tp)) (own_enc own_tp) v0_ := own_tp_lit Av16
    have O20 : Old Z n0 h16 := (OX.ext E16)
    have Zc21 : n0 ≤ h16.size := by omega
    obtain ⟨cq22, kq22, q22a, q22b, q22c⟩ := isOf hZ e16 Ex16
    obtain ⟨_, _, ⟨T22, L22, k22, n22⟩, -, X22, ⟨Lc22, hQ22, l22, y22, z22⟩, st22⟩ := X16.virtualBack hx (y := M16_) (z := M16_) hown (mvT hZ (own_m hw 67 rfl)) (mvT hZ (own_m hw 68 rfl)) (notFace_of_selects (args := #[]) (mvT hZ (own_m hw 70 rfl))) (mvT hZ (own_m hw 70 rfl)) (mvT hZ (own_m hw 69 rfl)) (by decide) (backOf (W := 0) (rmChA l Z a0 hw [] a16 cst b16 kk16 own_tp i fmt h16 n0 Zc21 I1 hfmt I2 O20 hcst Ex16 Fv16 Fc19 Av19 (by decide) (show i < 5 from hi5) own_tp_chs own_tp_lat) hZ (own_m hw 71 rfl) (own_m hw 7 rfl) (by decide) (by decide)) q22a q22c (g := (mkF m 33 #[.val (.ref ca), .val (.int (Int32.ofNat i)), .val (.int pre), .val (.int suf), .val (.long xl), .second, .val (.long yl), .second, .val (.int (Int32.ofNat n)), .val (.int dv_3)] [(.int (Int32.ofNat i)), (.ref a16)])) rfl (by rw [hml]; rfl) (Steps.refl _) (argsL := [(.int (Int32.ofNat i))]) (rest := []) (lenOf pd__I_C rfl) rfl (by show 2 * 0 + _ ≤ _; exact Nat.le_of_eq rfl) (dd hy d3_33) (fun _ _ => ⟨rfl, e16, (by decide : 2 + 0 ≤ _), (by decide : 24 + 0 ≤ _)⟩)
    dsimp only [Pt.U, Pt.locs, Pt.cells, Pt.slots] at X22 l22 y22 z22 st22 hQ22
    subst l22 y22 z22
    obtain ⟨rfl, N22q, e22⟩ := hQ22
    have N22 := Fr.app N3 N22q
    have rg23 := own_tp_chs _ (own_mem own_tp i hi5)
    have s24 : ∀ t_, Steps p.tables e below (T22.setTop (mkF m 39 #[.val (.ref ca), .val (.int (Int32.ofNat i)), .val (.int pre), .val (.int suf), .val (.long xl), .second, .val (.long yl), .second, .val (.int (Int32.ofNat n)), .val (.int (own_tp.getD i 0))] [(.int suf)])) t_ → Steps _ _ _ _ t_ := fun t_ k_ => s17 t_ (by
      refine st16 _ ?_
      show Steps _ _ _ (T16.setTop (mkF m 32 #[.val (.ref ca), .val (.int (Int32.ofNat i)), .val (.int pre), .val (.int suf), .val (.long xl), .second, .val (.long yl), .second, .val (.int (Int32.ofNat n)), .val (.int dv_3)] [(.ref a16)])) _
      refine XS.iloadN X16.here hx rfl (dd hy d3_32) rfl ?_
      refine st22.trans ?_
      show Steps _ _ _ (T22.setTop (mkF m 36 #[.val (.ref ca), .val (.int (Int32.ofNat i)), .val (.int pre), .val (.int suf), .val (.long xl), .second, .val (.long yl), .second, .val (.int (Int32.ofNat n)), .val (.int dv_3)] [(.int (own_tp.getD i 0))])) _
      refine XS.istore X22.here hx rfl (dd hy d3_36) rfl (l' := #[.val (.ref ca), .val (.int (Int32.ofNat i)), .val (.int pre), .val (.int suf), .val (.long xl), .second, .val (.long yl), .second, .val (.int (Int32.ofNat n)), .val (.int (own_tp.getD i 0))]) rfl ?_
      refine XS.iloadN X22.here hx rfl (dd hy d3_38) rfl ?_
      exact k_)
    by_cases h25 : suf = (0 : Int32)
    · have f26 : Arv Z h16 ca kc .char (Int32.ofNat n) (cs.map Value.int) v0_ := (I3.ext E16)
      obtain ⟨cl27, Ar27, q27, S27, M27, H27, G27⟩ := id f26
      have hin27 : ¬ ((Int32.ofNat i) < 0 ∨ cl27.slots.size ≤ ((Int32.ofNat i)).toNatClampNeg) := inb_of S27 (own_in hin (by omega))
      obtain ⟨T28, h28, X28, e28, W28, st28⟩ := stC X22 hx hZ e22 Ar27 (j := (Int32.ofNat i)) hin27 (g := (mkF m 67 #[.val (.ref ca), .val (.int (Int32.ofNat i)), .val (.int pre), .val (.int suf), .val (.long xl), .second, .val (.long yl), .second, .val (.int (Int32.ofNat n)), .val (.int (own_tp.getD i 0))] [(.int (own_tp.getD i 0)), (.int (Int32.ofNat i)), (.ref ca)])) rfl rfl (dd hy d3_67)
      have z29 : h16.size ≤ h28.size := Nat.le_of_eq W28.size.symm
      have Cp29 : CHr Z ELs T16.vm h16 T16.vm h28 := CHr.wr W28 (Safe.arv hZ.alike f26 (by decide)) CR.1
      have hk := Nat.le_trans hk z29
      have CR := CR.trans Cp29
      have V28 : Arv Z h28 ca kc .char (Int32.ofNat n) ((List.set cs i (own_tp.getD i 0)).map Value.int) v0_ := by
        have q : Arv Z h28 ca kc .char (Int32.ofNat n) (List.set (List.map Value.int cs) i (.int (nar .char (own_tp.getD i 0)))) v0_ := Arv.set Ar27 q27 S27 M27 H27 G27 (fits_nar_char _) W28 i (own_tn (by omega)) (by rw [List.length_map]; omega)
        rw [show nar .char (own_tp.getD i 0) = (own_tp.getD i 0) from own_narc rg23.1 rg23.2] at q
        rw [List.map_set]
        exact q
      have N28 := Fr.snoc X28 N22 (show n0 ≤ ca by omega)
      have s30 : ∀ t_, Steps p.tables e below (T28.setTop (mkF m 68 #[.val (.ref ca), .val (.int (Int32.ofNat i)), .val (.int pre), .val (.int suf), .val (.long xl), .second, .val (.long yl), .second, .val (.int (Int32.ofNat n)), .val (.int (own_tp.getD i 0))] [])) t_ → Steps _ _ _ _ t_ := fun t_ k_ => s24 t_ (by
        refine XS.ifYes X22.here hx rfl (pc0 := 39) (pc' := 63) rfl (dd hy d3_39) rfl ((if0 _ _).trans (teq h25).1) (by decide) (by decide) ?_
        show Steps _ _ _ (T22.setTop (mkF m 63 #[.val (.ref ca), .val (.int (Int32.ofNat i)), .val (.int pre), .val (.int suf), .val (.long xl), .second, .val (.long yl), .second, .val (.int (Int32.ofNat n)), .val (.int (own_tp.getD i 0))] [])) _
        refine XS.aloadN X22.here hx rfl (dd hy d3_63) rfl rfl ?_
        refine XS.iloadN X22.here hx rfl (dd hy d3_64) rfl ?_
        refine XS.iload X22.here hx rfl (dd hy d3_65) rfl ?_
        refine st28 _ ?_
        exact k_)
      obtain ⟨fs, hr, hrun, hended, hREW⟩ := X28.leaveW hS (by first | exact Nat.le_refl _ | (rw [e28]; exact hk)) (v := none) (fun _ => rfl)
      refine ⟨_, _, s30 _ ?_, hrun, hended, _, _, rfl, ?_, (by show CHr Z ELs s.vm s.heap T28.vm T28.heap; rw [hh, e28]; exact CR.trans (CHv.at X28 hZ hEL CR.1)), hREW.1, hREW.2.1, hREW.2.2.1, hREW.2.2.2.mono (by decide) (by decide)⟩
      · exact X28.returnOut hx Bd.returns (dd hy d3_68) hr
      · show Q_rmPutA0 Z _ _ _ _ _ _ _ _ _ _ _ h0 n0 _ T28.heap _
        rw [e28]
        exact ⟨(List.set cs i (own_tp.getD i 0)), rfl, N28, (((Keep.refl h0 [ca]).ext E16).wr W28 (Or.inl (by simp))), V28, (by rw [List.length_set]; exact hn), own_chsset hchs rg23⟩
    · have f31 : Arv Z h16 ca kc .char (Int32.ofNat n) (cs.map Value.int) v0_ := (I3.ext E16)
      obtain ⟨cl32, Ar32, q32, S32, M32, H32, G32⟩ := id f31
      have hin32 : ¬ ((Int32.ofNat i) < 0 ∨ cl32.slots.size ≤ ((Int32.ofNat i)).toNatClampNeg) := inb_of S32 (own_in hin (by omega))
      obtain ⟨T33, h33, X33, e33, W33, st33⟩ := stC X22 hx hZ e22 Ar32 (j := (Int32.ofNat i)) hin32 (g := (mkF m 67 #[.val (.ref ca), .val (.int (Int32.ofNat i)), .val (.int pre), .val (.int suf), .val (.long xl), .second, .val (.long yl), .second, .val (.int (Int32.ofNat n)), .val (.int (own_tp.getD i 0))] [(.int (own_tp.getD i 0)), (.int (Int32.ofNat i)), (.ref ca)])) rfl rfl (dd hy d3_67)
      have z34 : h16.size ≤ h33.size := Nat.le_of_eq W33.size.symm
      have Cp34 : CHr Z ELs T16.vm h16 T16.vm h33 := CHr.wr W33 (Safe.arv hZ.alike f31 (by decide)) CR.1
      have hk := Nat.le_trans hk z34
      have CR := CR.trans Cp34
      have V33 : Arv Z h33 ca kc .char (Int32.ofNat n) ((List.set cs i (own_tp.getD i 0)).map Value.int) v0_ := by
        have q : Arv Z h33 ca kc .char (Int32.ofNat n) (List.set (List.map Value.int cs) i (.int (nar .char (own_tp.getD i 0)))) v0_ := Arv.set Ar32 q32 S32 M32 H32 G32 (fits_nar_char _) W33 i (own_tn (by omega)) (by rw [List.length_map]; omega)
        rw [show nar .char (own_tp.getD i 0) = (own_tp.getD i 0) from own_narc rg23.1 rg23.2] at q
        rw [List.map_set]
        exact q
      have N33 := Fr.snoc X33 N22 (show n0 ≤ ca by omega)
      have s35 : ∀ t_, Steps p.tables e below (T33.setTop (mkF m 68 #[.val (.ref ca), .val (.int (Int32.ofNat i)), .val (.int pre), .val (.int suf), .val (.long xl), .second, .val (.long yl), .second, .val (.int (Int32.ofNat n)), .val (.int (own_tp.getD i 0))] [])) t_ → Steps _ _ _ _ t_ := fun t_ k_ => s24 t_ (by
        refine XS.ifNo X22.here hx rfl (dd hy d3_39) rfl ((if0 _ _).trans (feq h25).1) ?_
        show Steps _ _ _ (T22.setTop (mkF m 42 #[.val (.ref ca), .val (.int (Int32.ofNat i)), .val (.int pre), .val (.int suf), .val (.long xl), .second, .val (.long yl), .second, .val (.int (Int32.ofNat n)), .val (.int (own_tp.getD i 0))] [])) _
        refine XS.iloadN X22.here hx rfl (dd hy d3_42) rfl ?_
        refine XS.iload X22.here hx rfl (dd hy d3_43) rfl ?_
        refine XS.iconst X22.here hx rfl (dd hy d3_45) ?_
        refine XS.isub X22.here hx rfl (dd hy d3_46) rfl ?_
        refine XS.icmpYes X22.here hx rfl (pc0 := 47) (pc' := 63) rfl (dd hy d3_47) rfl (tlt (own_m5t hs (by omega))).1 (by decide) (by decide) ?_
        show Steps _ _ _ (T22.setTop (mkF m 63 #[.val (.ref ca), .val (.int (Int32.ofNat i)), .val (.int pre), .val (.int suf), .val (.long xl), .second, .val (.long yl), .second, .val (.int (Int32.ofNat n)), .val (.int (own_tp.getD i 0))] [])) _
        refine XS.aloadN X22.here hx rfl (dd hy d3_63) rfl rfl ?_
        refine XS.iloadN X22.here hx rfl (dd hy d3_64) rfl ?_
        refine XS.iload X22.here hx rfl (dd hy d3_65) rfl ?_
        refine st33 _ ?_
        exact k_)
      obtain ⟨fs, hr, hrun, hended, hREW⟩ := X33.leaveW hS (by first | exact Nat.le_refl _ | (rw [e33]; exact hk)) (v := none) (fun _ => rfl)
      refine ⟨_, _, s35 _ ?_, hrun, hended, _, _, rfl, ?_, (by show CHr Z ELs s.vm s.heap T33.vm T33.heap; rw [hh, e33]; exact CR.trans (CHv.at X33 hZ hEL CR.1)), hREW.1, hREW.2.1, hREW.2.2.1, hREW.2.2.2.mono (by decide) (by decide)⟩
      · exact X33.returnOut hx Bd.returns (dd hy d3_68) hr
      · show Q_rmPutA0 Z _ _ _ _ _ _ _ _ _ _ _ h0 n0 _ T33.heap _
        rw [e33]
        exact ⟨(List.set cs i (own_tp.getD i 0)), rfl, N33, (((Keep.refl h0 [ca]).ext E16).wr W33 (Or.inl (by simp))), V33, (by rw [List.length_set]; exact hn), own_chsset hchs rg23⟩
theorem ef_rmPutB0 (m : MethodId) (x0 : Addr) (x1 : Int32) (x2 : Int32) (x3 : Int32) (x4 : Int64) (x5 : Int64) : entryFrame m #[(.ref x0), (.int x1), (.int x2), (.int x3), (.long x4), (.long x5)] 10 = mkF m 0 #[.val (.ref x0), .val (.int x1), .val (.int x2), .val (.int x3), .val (.long x4), .second, .val (.long x5), .second, .unset, .unset] [] := by first | (simp [entryFrame, mkF, argsToLocals, Value.category]; done) | rfl
abbrev R_rmPutB0 : Room := ({ frames := 4, cells := 4, slots := 48, locals := 53 } : Room)
def Q_rmPutB0 (Z : State) (ca : Addr) (pre : Int32) (suf : Int32) (xl : Int64) (yl : Int64) (cst : Int32) (kc : ClassId) (cs : List Int32) (n : Nat) (i : Nat) (fmt : Value) (h0 : Heap) (n0 : Nat) (v : Option Value) (h : Heap) (L : List Loc) : Prop := ∃ (ds : List Int32), (v = none) ∧ (Fr n0 L) ∧ (Keep h0 h [ca]) ∧ (Arv Z h ca kc .char (Int32.ofNat n) (ds.map Value.int) v0_) ∧ (ds.length = n) ∧ (own_chs ds)
set_option maxRecDepth 65536 in
set_option maxHeartbeats 40000000 in
theorem rmPutB0 (l : Launch) (Z : State) (a0 : Array Value) (hw : HW Z a0) (ws : List Jvm.Cond) (ca : Addr) (pre : Int32) (suf : Int32) (xl : Int64) (yl : Int64) (cst : Int32) (kc : ClassId) (cs : List Int32) (n : Nat) (i : Nat) (fmt : Value) (h0 : Heap) (n0 : Nat) (Z0 : n0 ≤ h0.size) (I1 : Sta Z Z.heap cS cC "Z" (.int cst)) (hfmt : fmt.isRef = true) (I2 : Sta Z Z.heap cP cG cF fmt) (OX : Old Z n0 h0) (hcst : ¬ (cst = (0 : Int32))) (I3 : Arv Z h0 ca kc .char (Int32.ofNat n) (cs.map Value.int) v0_) (hn : cs.length = n) (hn15 : n ≤ 15) (gc : n0 ≤ ca) (hchs : own_chs cs) (hin : i < n) (hi5 : i < 5) (hs : n ≤ i + 5) :
    MetFree l M23_ (head1 (Jvm.Cond.code M23_ method_3_code 10 none :: ws) R_rmPutB0) (fun ar_ U => ar_ = #[(.ref ca), (.int (Int32.ofNat i)), (.int pre), (.int suf), (.long xl), (.long yl)] ∧ Z.Warmed39 U.vm ∧ U.heap = h0 ∧ CHv Z ELs U.vm h0) (fun _ _ _ _ _ => True) (fun _ U oc_ U' => ∃ v L, oc_ = .returned v ∧ Q_rmPutB0 Z ca pre suf xl yl cst kc cs n i fmt h0 n0 v U'.heap L ∧ CHr Z ELs U.vm U.heap U'.vm U'.heap ∧ ReturnedEndW U oc_ U' L R_rmPutB0.cells R_rmPutB0.slots) := by
  refine MetFree.of_bodySF (plainFor_of_name pn_io_dyeline_store_LayoutIsDataFilePinLaw) hisR ?_
  intro p e s m args below meth c s₁ Bd hml0 hP hK
  obtain ⟨rfl, hZ, hh, hCH⟩ := hP
  have hx := Bd.exec
  have hy := Bd.bytes
  have hml : c.maxLocals = 10 := hml0
  have hown : s.vm.findClass "io/dyeline/store/LayoutIsDataFilePinLaw" = some m.cls := findClass_of_methodNamed Bd.named
  have hnm := (name_of_methodNamed Bd.named Bd.method).1
  have X0 : Stand p l e R_rmPutB0 (s.setVm s.vm) m #[(.ref ca), (.int (Int32.ofNat i)), (.int pre), (.int suf), (.long xl), (.long yl)] below meth c s₁ [] 0 0 := Stand.of_body Bd
  have e0 : s₁.heap = h0 := by rw [← hh, Bd.state]; rfl
  have N0 := Fr.nil n0
  have pre0 := own_pre (p := p) (e := e) (below := below) (T := s₁) (ef_rmPutB0 m ca (Int32.ofNat i) pre suf xl yl)
  have hEL : EW Z a0 ELs := own_EW hw
  have wS : ∀ a ∈ Bundle.stringAtoms, a.before a0 Z = true := own_wS hw
  have hS : s.Since s.vm s.heap.size := (State.WarmedH.refl s).since _
  have hk : s.heap.size ≤ h0.size := by rw [hh]; exact Nat.le_refl _
  have CR : CHr Z ELs s.vm h0 s.vm h0 := CHr.refl hCH
  have lt_I3 : @LT.lt Nat _ ca h0.size := I3.lt
  obtain ⟨cl1, Ar1, -, S1, M1, -, -⟩ := id I3
  have Zc2 : n0 ≤ h0.size := by omega
  obtain ⟨_, _, ⟨T3, L3, k3, n3⟩, -, X3, ⟨Lc3, hQ3, l3, y3, z3⟩, st3⟩ := Jvm.LawKit.callS X0 hx (y := M22_) hown (mvT hZ (own_m hw 52 rfl)) (mvT hZ (own_m hw 53 rfl)) (mvT hZ (own_m hw 3 rfl)) (mvT hZ (own_m hw 54 rfl)) (by decide) (backOf (W := 0) (rmDr l Z a0 hw [] xl yl (Int32.ofNat i) h0 n0 Zc2) hZ (own_m hw 54 rfl) (own_m hw 3 rfl) (by decide) (by decide)) (g := (mkF m 16 #[.val (.ref ca), .val (.int (Int32.ofNat i)), .val (.int pre), .val (.int suf), .val (.long xl), .second, .val (.long yl), .second, .val (.int (Int32.ofNat n)), .unset] [(.int (Int32.ofNat i)), (.long yl), (.long xl)])) rfl (by rw [hml]; rfl) (argsL := [(.long xl), (.long yl), (.int (Int32.ofNat i))]) (rest := []) (lenOf pd__JJI_C rfl) rfl (by show 2 * 0 + _ ≤ _; exact Nat.le_of_eq rfl) (dd hy d3_16) (fun _ _ => ⟨rfl, e0, (by decide : 0 + 0 ≤ _), (by decide : 0 + 0 ≤ _)⟩)
  dsimp only [Pt.U, Pt.locs, Pt.cells, Pt.slots] at X3 l3 y3 z3 st3 hQ3
  subst l3 y3 z3
  obtain ⟨dv_3, rfl, N3q, e3, P3_0⟩ := hQ3
  have N3 := Fr.app N0 N3q
  have s4 : ∀ t_, Steps p.tables e below (T3.setTop (mkF m 22 #[.val (.ref ca), .val (.int (Int32.ofNat i)), .val (.int pre), .val (.int suf), .val (.long xl), .second, .val (.long yl), .second, .val (.int (Int32.ofNat n)), .val (.int dv_3)] [(.int pre)])) t_ → Steps _ _ _ _ t_ := fun t_ k_ => pre0 t_ (by
    refine XS.aloadN X0.here hx rfl (dd hy d3_0) rfl rfl ?_
    refine X0.arraylength hx (by rw [e0]; exact Ar1.1) (State.isArrayOf_alike hZ.alike Ar1.2.1) (g := (mkF m 1 #[.val (.ref ca), .val (.int (Int32.ofNat i)), .val (.int pre), .val (.int suf), .val (.long xl), .second, .val (.long yl), .second, .unset, .unset] [(.ref ca)])) rfl rfl (dd hy d3_1) _ ?_
    rw [len_of S1 M1]
    show Steps _ _ _ (s₁.setTop (mkF m 2 #[.val (.ref ca), .val (.int (Int32.ofNat i)), .val (.int pre), .val (.int suf), .val (.long xl), .second, .val (.long yl), .second, .unset, .unset] [(.int (Int32.ofNat n))])) _
    refine XS.istore X0.here hx rfl (dd hy d3_2) rfl (l' := #[.val (.ref ca), .val (.int (Int32.ofNat i)), .val (.int pre), .val (.int suf), .val (.long xl), .second, .val (.long yl), .second, .val (.int (Int32.ofNat n)), .unset]) rfl ?_
    refine XS.iloadN X0.here hx rfl (dd hy d3_4) rfl ?_
    refine XS.iload X0.here hx rfl (dd hy d3_5) rfl ?_
    refine XS.icmpYes X0.here hx rfl (pc0 := 7) (pc' := 11) rfl (dd hy d3_7) rfl (tlt (own_lt hin (by omega))).1 (by decide) (by decide) ?_
    show Steps _ _ _ (s₁.setTop (mkF m 11 #[.val (.ref ca), .val (.int (Int32.ofNat i)), .val (.int pre), .val (.int suf), .val (.long xl), .second, .val (.long yl), .second, .val (.int (Int32.ofNat n)), .unset] [])) _
    refine XS.lload X0.here hx rfl (dd hy d3_11) rfl ?_
    refine XS.lload X0.here hx rfl (dd hy d3_13) rfl ?_
    refine XS.iloadN X0.here hx rfl (dd hy d3_15) rfl ?_
    refine st3 _ ?_
    show Steps _ _ _ (T3.setTop (mkF m 19 #[.val (.ref ca), .val (.int (Int32.ofNat i)), .val (.int pre), .val (.int suf), .val (.long xl), .second, .val (.long yl), .second, .val (.int (Int32.ofNat n)), .unset] [(.int dv_3)])) _
    refine XS.istore X3.here hx rfl (dd hy d3_19) rfl (l' := #[.val (.ref ca), .val (.int (Int32.ofNat i)), .val (.int pre), .val (.int suf), .val (.long xl), .second, .val (.long yl), .second, .val (.int (Int32.ofNat n)), .val (.int dv_3)]) rfl ?_
    refine XS.iloadN X3.here hx rfl (dd hy d3_21) rfl ?_
    exact k_)
  by_cases h5 : pre = (0 : Int32)
  · have s6 : ∀ t_, Steps p.tables e below (T3.setTop (mkF m 39 #[.val (.ref ca), .val (.int (Int32.ofNat i)), .val (.int pre), .val (.int suf), .val (.long xl), .second, .val (.long yl), .second, .val (.int (Int32.ofNat n)), .val (.int dv_3)] [(.int suf)])) t_ → Steps _ _ _ _ t_ := fun t_ k_ => s4 t_ (by
      refine XS.ifYes X3.here hx rfl (pc0 := 22) (pc' := 38) rfl (dd hy d3_22) rfl ((if0 _ _).trans (teq h5).1) (by decide) (by decide) ?_
      show Steps _ _ _ (T3.setTop (mkF m 38 #[.val (.ref ca), .val (.int (Int32.ofNat i)), .val (.int pre), .val (.int suf), .val (.long xl), .second, .val (.long yl), .second, .val (.int (Int32.ofNat n)), .val (.int dv_3)] [])) _
      refine XS.iloadN X3.here hx rfl (dd hy d3_38) rfl ?_
      exact k_)
    by_cases h7 : suf = (0 : Int32)
    · obtain ⟨cl8, Ar8, q8, S8, M8, H8, G8⟩ := id I3
      have hin8 : ¬ ((Int32.ofNat i) < 0 ∨ cl8.slots.size ≤ ((Int32.ofNat i)).toNatClampNeg) := inb_of S8 (own_in hin (by omega))
      obtain ⟨T9, h9, X9, e9, W9, st9⟩ := stC X3 hx hZ e3 Ar8 (j := (Int32.ofNat i)) hin8 (g := (mkF m 67 #[.val (.ref ca), .val (.int (Int32.ofNat i)), .val (.int pre), .val (.int suf), .val (.long xl), .second, .val (.long yl), .second, .val (.int (Int32.ofNat n)), .val (.int dv_3)] [(.int dv_3), (.int (Int32.ofNat i)), (.ref ca)])) rfl rfl (dd hy d3_67)
      have z10 : h0.size ≤ h9.size := Nat.le_of_eq W9.size.symm
      have Cp10 : CHr Z ELs s.vm h0 s.vm h9 := CHr.wr W9 (Safe.arv hZ.alike I3 (by decide)) CR.1
      have hk := Nat.le_trans hk z10
      have CR := CR.trans Cp10
      have V9 : Arv Z h9 ca kc .char (Int32.ofNat n) ((List.set cs i dv_3).map Value.int) v0_ := by
        have q : Arv Z h9 ca kc .char (Int32.ofNat n) (List.set (List.map Value.int cs) i (.int (nar .char dv_3))) v0_ := Arv.set Ar8 q8 S8 M8 H8 G8 (fits_nar_char _) W9 i (own_tn (by omega)) (by rw [List.length_map]; omega)
        rw [show nar .char dv_3 = dv_3 from own_narc P3_0.1 P3_0.2] at q
        rw [List.map_set]
        exact q
      have N9 := Fr.snoc X9 N3 (show n0 ≤ ca by omega)
      have s11 : ∀ t_, Steps p.tables e below (T9.setTop (mkF m 68 #[.val (.ref ca), .val (.int (Int32.ofNat i)), .val (.int pre), .val (.int suf), .val (.long xl), .second, .val (.long yl), .second, .val (.int (Int32.ofNat n)), .val (.int dv_3)] [])) t_ → Steps _ _ _ _ t_ := fun t_ k_ => s6 t_ (by
        refine XS.ifYes X3.here hx rfl (pc0 := 39) (pc' := 63) rfl (dd hy d3_39) rfl ((if0 _ _).trans (teq h7).1) (by decide) (by decide) ?_
        show Steps _ _ _ (T3.setTop (mkF m 63 #[.val (.ref ca), .val (.int (Int32.ofNat i)), .val (.int pre), .val (.int suf), .val (.long xl), .second, .val (.long yl), .second, .val (.int (Int32.ofNat n)), .val (.int dv_3)] [])) _
        refine XS.aloadN X3.here hx rfl (dd hy d3_63) rfl rfl ?_
        refine XS.iloadN X3.here hx rfl (dd hy d3_64) rfl ?_
        refine XS.iload X3.here hx rfl (dd hy d3_65) rfl ?_
        refine st9 _ ?_
        exact k_)
      obtain ⟨fs, hr, hrun, hended, hREW⟩ := X9.leaveW hS (by first | exact Nat.le_refl _ | (rw [e9]; exact hk)) (v := none) (fun _ => rfl)
      refine ⟨_, _, s11 _ ?_, hrun, hended, _, _, rfl, ?_, (by show CHr Z ELs s.vm s.heap T9.vm T9.heap; rw [hh, e9]; exact CR.trans (CHv.at X9 hZ hEL CR.1)), hREW.1, hREW.2.1, hREW.2.2.1, hREW.2.2.2.mono (by decide) (by decide)⟩
      · exact X9.returnOut hx Bd.returns (dd hy d3_68) hr
      · show Q_rmPutB0 Z _ _ _ _ _ _ _ _ _ _ _ h0 n0 _ T9.heap _
        rw [e9]
        exact ⟨(List.set cs i dv_3), rfl, N9, ((Keep.refl h0 [ca]).wr W9 (Or.inl (by simp))), V9, (by rw [List.length_set]; exact hn), own_chsset hchs P3_0⟩
    · have s13 : ∀ t_, Steps p.tables e below (T3.setTop (mkF m 50 #[.val (.ref ca), .val (.int (Int32.ofNat i)), .val (.int pre), .val (.int suf), .val (.long xl), .second, .val (.long yl), .second, .val (.int (Int32.ofNat n)), .val (.int dv_3)] [])) t_ → Steps _ _ _ _ t_ := fun t_ k_ => s6 t_ (by
        refine XS.ifNo X3.here hx rfl (dd hy d3_39) rfl ((if0 _ _).trans (feq h7).1) ?_
        show Steps _ _ _ (T3.setTop (mkF m 42 #[.val (.ref ca), .val (.int (Int32.ofNat i)), .val (.int pre), .val (.int suf), .val (.long xl), .second, .val (.long yl), .second, .val (.int (Int32.ofNat n)), .val (.int dv_3)] [])) _
        refine XS.iloadN X3.here hx rfl (dd hy d3_42) rfl ?_
        refine XS.iload X3.here hx rfl (dd hy d3_43) rfl ?_
        refine XS.iconst X3.here hx rfl (dd hy d3_45) ?_
        refine XS.isub X3.here hx rfl (dd hy d3_46) rfl ?_
        refine XS.icmpNo X3.here hx rfl (dd hy d3_47) rfl (flt (own_m5f hs (by omega) (by omega))).1 ?_
        show Steps _ _ _ (T3.setTop (mkF m 50 #[.val (.ref ca), .val (.int (Int32.ofNat i)), .val (.int pre), .val (.int suf), .val (.long xl), .second, .val (.long yl), .second, .val (.int (Int32.ofNat n)), .val (.int dv_3)] [])) _
        exact k_)
      obtain ⟨a12, T12, h12, k12, b12, kk12, X12, e12, E12, hS, hk, hZ, hown, Ex12, Fc12, Fv12, Av12, la12, lb12, Cp12, Li12, Sa12, st12⟩ := ldcCH X3 hx hZ hown (own_m hw 99 rfl) wS e3 hS hk hEL (List.mem_of_getElem? (i := 3) rfl) CR.1 (vs := [(.int (46 : Int32)), (.int (106 : Int32)), (.int (115 : Int32)), (.int (111 : Int32)), (.int (110 : Int32))]) (z := (5 : Int32)) ⟨by decide, by decide⟩ (by decide) rfl (g := (mkF m 50 #[.val (.ref ca), .val (.int (Int32.ofNat i)), .val (.int pre), .val (.int suf), .val (.long xl), .second, .val (.long yl), .second, .val (.int (Int32.ofNat n)), .val (.int dv_3)] [])) rfl (dd hy d3_50) (n := 20) (by decide) (by decide) (by decide) (by decide)
      have z14 : h0.size ≤ h12.size := E12.1
      have CR := CR.trans Cp12
      have la12 : @LT.lt Nat _ a12 h12.size := la12
      have lb12 : @LT.lt Nat _ b12 h12.size := lb12
      have Fc15 : Fld Z h12 a12 cS "coder" "B" (.int (own_cod own_tj)) := Fc12
      have Av15 : Arv Z h12 b12 kk12 .byte (Int32.ofNat (own_enl own_tj)) (own_enc own_tj) v0_ := own_tj_lit Av12
      have O16 : Old Z n0 h12 := (OX.ext E12)
      have Zc17 : n0 ≤ h12.size := by omega
      obtain ⟨cq18, kq18, q18a, q18b, q18c⟩ := isOf hZ e12 Ex12
      obtain ⟨_, _, ⟨T18, L18, k18, n18⟩, -, X18, ⟨Lc18, hQ18, l18, y18, z18⟩, st18⟩ := X12.virtualBack hx (y := M16_) (z := M16_) hown (mvT hZ (own_m hw 67 rfl)) (mvT hZ (own_m hw 68 rfl)) (notFace_of_selects (args := #[]) (mvT hZ (own_m hw 70 rfl))) (mvT hZ (own_m hw 70 rfl)) (mvT hZ (own_m hw 69 rfl)) (by decide) (backOf (W := 0) (rmChA l Z a0 hw [] a12 cst b12 kk12 own_tj (i + 5 - n) fmt h12 n0 Zc17 I1 hfmt I2 O16 hcst Ex12 Fv12 Fc15 Av15 (by decide) (show i + 5 - n < 5 from (by omega)) own_tj_chs own_tj_lat) hZ (own_m hw 71 rfl) (own_m hw 7 rfl) (by decide) (by decide)) q18a q18c (g := (mkF m 58 #[.val (.ref ca), .val (.int (Int32.ofNat i)), .val (.int pre), .val (.int suf), .val (.long xl), .second, .val (.long yl), .second, .val (.int (Int32.ofNat n)), .val (.int dv_3)] [(.int (Int32.ofNat (i + 5 - n))), (.ref a12)])) rfl (by rw [hml]; rfl) (Steps.refl _) (argsL := [(.int (Int32.ofNat (i + 5 - n)))]) (rest := []) (lenOf pd__I_C rfl) rfl (by show 2 * 0 + _ ≤ _; exact Nat.le_of_eq rfl) (dd hy d3_58) (fun _ _ => ⟨rfl, e12, (by decide : 2 + 0 ≤ _), (by decide : 24 + 0 ≤ _)⟩)
      dsimp only [Pt.U, Pt.locs, Pt.cells, Pt.slots] at X18 l18 y18 z18 st18 hQ18
      subst l18 y18 z18
      obtain ⟨rfl, N18q, e18⟩ := hQ18
      have N18 := Fr.app N3 N18q
      have rg19 := own_tj_chs _ (own_mem own_tj (i + 5 - n) (show i + 5 - n < 5 by omega))
      have f20 : Arv Z h12 ca kc .char (Int32.ofNat n) (cs.map Value.int) v0_ := (I3.ext E12)
      obtain ⟨cl21, Ar21, q21, S21, M21, H21, G21⟩ := id f20
      have hin21 : ¬ ((Int32.ofNat i) < 0 ∨ cl21.slots.size ≤ ((Int32.ofNat i)).toNatClampNeg) := inb_of S21 (own_in hin (by omega))
      obtain ⟨T22, h22, X22, e22, W22, st22⟩ := stC X18 hx hZ e18 Ar21 (j := (Int32.ofNat i)) hin21 (g := (mkF m 67 #[.val (.ref ca), .val (.int (Int32.ofNat i)), .val (.int pre), .val (.int suf), .val (.long xl), .second, .val (.long yl), .second, .val (.int (Int32.ofNat n)), .val (.int (own_tj.getD (i + 5 - n) 0))] [(.int (own_tj.getD (i + 5 - n) 0)), (.int (Int32.ofNat i)), (.ref ca)])) rfl rfl (dd hy d3_67)
      have z23 : h12.size ≤ h22.size := Nat.le_of_eq W22.size.symm
      have Cp23 : CHr Z ELs T12.vm h12 T12.vm h22 := CHr.wr W22 (Safe.arv hZ.alike f20 (by decide)) CR.1
      have hk := Nat.le_trans hk z23
      have CR := CR.trans Cp23
      have V22 : Arv Z h22 ca kc .char (Int32.ofNat n) ((List.set cs i (own_tj.getD (i + 5 - n) 0)).map Value.int) v0_ := by
        have q : Arv Z h22 ca kc .char (Int32.ofNat n) (List.set (List.map Value.int cs) i (.int (nar .char (own_tj.getD (i + 5 - n) 0)))) v0_ := Arv.set Ar21 q21 S21 M21 H21 G21 (fits_nar_char _) W22 i (own_tn (by omega)) (by rw [List.length_map]; omega)
        rw [show nar .char (own_tj.getD (i + 5 - n) 0) = (own_tj.getD (i + 5 - n) 0) from own_narc rg19.1 rg19.2] at q
        rw [List.map_set]
        exact q
      have N22 := Fr.snoc X22 N18 (show n0 ≤ ca by omega)
      have s24 : ∀ t_, Steps p.tables e below (T22.setTop (mkF m 68 #[.val (.ref ca), .val (.int (Int32.ofNat i)), .val (.int pre), .val (.int suf), .val (.long xl), .second, .val (.long yl), .second, .val (.int (Int32.ofNat n)), .val (.int (own_tj.getD (i + 5 - n) 0))] [])) t_ → Steps _ _ _ _ t_ := fun t_ k_ => s13 t_ (by
        refine st12 _ ?_
        show Steps _ _ _ (T12.setTop (mkF m 52 #[.val (.ref ca), .val (.int (Int32.ofNat i)), .val (.int pre), .val (.int suf), .val (.long xl), .second, .val (.long yl), .second, .val (.int (Int32.ofNat n)), .val (.int dv_3)] [(.ref a12)])) _
        refine XS.iloadN X12.here hx rfl (dd hy d3_52) rfl ?_
        refine XS.iload X12.here hx rfl (dd hy d3_53) rfl ?_
        refine XS.iconst X12.here hx rfl (dd hy d3_55) ?_
        refine XS.isub X12.here hx rfl (dd hy d3_56) rfl ?_
        refine XS.isub X12.here hx rfl (dd hy d3_57) rfl ?_
        show Steps _ _ _ (T12.setTop (mkF m 58 #[.val (.ref ca), .val (.int (Int32.ofNat i)), .val (.int pre), .val (.int suf), .val (.long xl), .second, .val (.long yl), .second, .val (.int (Int32.ofNat n)), .val (.int dv_3)] [(.int ((Int32.ofNat i) - ((Int32.ofNat n) - (5 : Int32)))), (.ref a12)])) _
        refine castTop (g' := (mkF m 58 #[.val (.ref ca), .val (.int (Int32.ofNat i)), .val (.int pre), .val (.int suf), .val (.long xl), .second, .val (.long yl), .second, .val (.int (Int32.ofNat n)), .val (.int dv_3)] [(.int (Int32.ofNat (i + 5 - n))), (.ref a12)])) (by rw [own_i5n hs (by omega) (by omega)]) ?_
        show Steps _ _ _ (T12.setTop (mkF m 58 #[.val (.ref ca), .val (.int (Int32.ofNat i)), .val (.int pre), .val (.int suf), .val (.long xl), .second, .val (.long yl), .second, .val (.int (Int32.ofNat n)), .val (.int dv_3)] [(.int (Int32.ofNat (i + 5 - n))), (.ref a12)])) _
        refine st18.trans ?_
        show Steps _ _ _ (T18.setTop (mkF m 61 #[.val (.ref ca), .val (.int (Int32.ofNat i)), .val (.int pre), .val (.int suf), .val (.long xl), .second, .val (.long yl), .second, .val (.int (Int32.ofNat n)), .val (.int dv_3)] [(.int (own_tj.getD (i + 5 - n) 0))])) _
        refine XS.istore X18.here hx rfl (dd hy d3_61) rfl (l' := #[.val (.ref ca), .val (.int (Int32.ofNat i)), .val (.int pre), .val (.int suf), .val (.long xl), .second, .val (.long yl), .second, .val (.int (Int32.ofNat n)), .val (.int (own_tj.getD (i + 5 - n) 0))]) rfl ?_
        refine XS.aloadN X18.here hx rfl (dd hy d3_63) rfl rfl ?_
        refine XS.iloadN X18.here hx rfl (dd hy d3_64) rfl ?_
        refine XS.iload X18.here hx rfl (dd hy d3_65) rfl ?_
        refine st22 _ ?_
        exact k_)
      obtain ⟨fs, hr, hrun, hended, hREW⟩ := X22.leaveW hS (by first | exact Nat.le_refl _ | (rw [e22]; exact hk)) (v := none) (fun _ => rfl)
      refine ⟨_, _, s24 _ ?_, hrun, hended, _, _, rfl, ?_, (by show CHr Z ELs s.vm s.heap T22.vm T22.heap; rw [hh, e22]; exact CR.trans (CHv.at X22 hZ hEL CR.1)), hREW.1, hREW.2.1, hREW.2.2.1, hREW.2.2.2.mono (by decide) (by decide)⟩
      · exact X22.returnOut hx Bd.returns (dd hy d3_68) hr
      · show Q_rmPutB0 Z _ _ _ _ _ _ _ _ _ _ _ h0 n0 _ T22.heap _
        rw [e22]
        exact ⟨(List.set cs i (own_tj.getD (i + 5 - n) 0)), rfl, N22, (((Keep.refl h0 [ca]).ext E12).wr W22 (Or.inl (by simp))), V22, (by rw [List.length_set]; exact hn), own_chsset hchs rg19⟩
  · have s26 : ∀ t_, Steps p.tables e below (T3.setTop (mkF m 30 #[.val (.ref ca), .val (.int (Int32.ofNat i)), .val (.int pre), .val (.int suf), .val (.long xl), .second, .val (.long yl), .second, .val (.int (Int32.ofNat n)), .val (.int dv_3)] [])) t_ → Steps _ _ _ _ t_ := fun t_ k_ => s4 t_ (by
      refine XS.ifNo X3.here hx rfl (dd hy d3_22) rfl ((if0 _ _).trans (feq h5).1) ?_
      show Steps _ _ _ (T3.setTop (mkF m 25 #[.val (.ref ca), .val (.int (Int32.ofNat i)), .val (.int pre), .val (.int suf), .val (.long xl), .second, .val (.long yl), .second, .val (.int (Int32.ofNat n)), .val (.int dv_3)] [])) _
      refine XS.iloadN X3.here hx rfl (dd hy d3_25) rfl ?_
      refine XS.iconst X3.here hx rfl (dd hy d3_26) ?_
      refine XS.icmpNo X3.here hx rfl (dd hy d3_27) rfl (tlt (show (Int32.ofNat i) < (5 : Int32) from own_lt (n := 5) hi5 (by decide))).2.1 ?_
      show Steps _ _ _ (T3.setTop (mkF m 30 #[.val (.ref ca), .val (.int (Int32.ofNat i)), .val (.int pre), .val (.int suf), .val (.long xl), .second, .val (.long yl), .second, .val (.int (Int32.ofNat n)), .val (.int dv_3)] [])) _
      exact k_)
    obtain ⟨a25, T25, h25, k25, b25, kk25, X25, e25, E25, hS, hk, hZ, hown, Ex25, Fc25, Fv25, Av25, la25, lb25, Cp25, Li25, Sa25, st25⟩ := ldcCH X3 hx hZ hown (own_m hw 66 rfl) wS e3 hS hk hEL (List.mem_of_getElem? (i := 2) rfl) CR.1 (vs := [(.int (112 : Int32)), (.int (97 : Int32)), (.int (114 : Int32)), (.int (116 : Int32)), (.int (45 : Int32))]) (z := (5 : Int32)) ⟨by decide, by decide⟩ (by decide) rfl (g := (mkF m 30 #[.val (.ref ca), .val (.int (Int32.ofNat i)), .val (.int pre), .val (.int suf), .val (.long xl), .second, .val (.long yl), .second, .val (.int (Int32.ofNat n)), .val (.int dv_3)] [])) rfl (dd hy d3_30) (n := 20) (by decide) (by decide) (by decide) (by decide)
    have z27 : h0.size ≤ h25.size := E25.1
    have CR := CR.trans Cp25
    have la25 : @LT.lt Nat _ a25 h25.size := la25
    have lb25 : @LT.lt Nat _ b25 h25.size := lb25
    have Fc28 : Fld Z h25 a25 cS "coder" "B" (.int (own_cod own_tp)) := Fc25
    have Av28 : Arv Z h25 b25 kk25 .byte (Int32.ofNat (own_enl own_tp)) (own_enc own_tp) v0_ := own_tp_lit Av25
    have O29 : Old Z n0 h25 := (OX.ext E25)
    have Zc30 : n0 ≤ h25.size := by omega
    obtain ⟨cq31, kq31, q31a, q31b, q31c⟩ := isOf hZ e25 Ex25
    obtain ⟨_, _, ⟨T31, L31, k31, n31⟩, -, X31, ⟨Lc31, hQ31, l31, y31, z31⟩, st31⟩ := X25.virtualBack hx (y := M16_) (z := M16_) hown (mvT hZ (own_m hw 67 rfl)) (mvT hZ (own_m hw 68 rfl)) (notFace_of_selects (args := #[]) (mvT hZ (own_m hw 70 rfl))) (mvT hZ (own_m hw 70 rfl)) (mvT hZ (own_m hw 69 rfl)) (by decide) (backOf (W := 0) (rmChA l Z a0 hw [] a25 cst b25 kk25 own_tp i fmt h25 n0 Zc30 I1 hfmt I2 O29 hcst Ex25 Fv25 Fc28 Av28 (by decide) (show i < 5 from hi5) own_tp_chs own_tp_lat) hZ (own_m hw 71 rfl) (own_m hw 7 rfl) (by decide) (by decide)) q31a q31c (g := (mkF m 33 #[.val (.ref ca), .val (.int (Int32.ofNat i)), .val (.int pre), .val (.int suf), .val (.long xl), .second, .val (.long yl), .second, .val (.int (Int32.ofNat n)), .val (.int dv_3)] [(.int (Int32.ofNat i)), (.ref a25)])) rfl (by rw [hml]; rfl) (Steps.refl _) (argsL := [(.int (Int32.ofNat i))]) (rest := []) (lenOf pd__I_C rfl) rfl (by show 2 * 0 + _ ≤ _; exact Nat.le_of_eq rfl) (dd hy d3_33) (fun _ _ => ⟨rfl, e25, (by decide : 2 + 0 ≤ _), (by decide : 24 + 0 ≤ _)⟩)
    dsimp only [Pt.U, Pt.locs, Pt.cells, Pt.slots] at X31 l31 y31 z31 st31 hQ31
    subst l31 y31 z31
    obtain ⟨rfl, N31q, e31⟩ := hQ31
    have N31 := Fr.app N3 N31q
    have rg32 := own_tp_chs _ (own_mem own_tp i hi5)
    have s33 : ∀ t_, Steps p.tables e below (T31.setTop (mkF m 39 #[.val (.ref ca), .val (.int (Int32.ofNat i)), .val (.int pre), .val (.int suf), .val (.long xl), .second, .val (.long yl), .second, .val (.int (Int32.ofNat n)), .val (.int (own_tp.getD i 0))] [(.int suf)])) t_ → Steps _ _ _ _ t_ := fun t_ k_ => s26 t_ (by
      refine st25 _ ?_
      show Steps _ _ _ (T25.setTop (mkF m 32 #[.val (.ref ca), .val (.int (Int32.ofNat i)), .val (.int pre), .val (.int suf), .val (.long xl), .second, .val (.long yl), .second, .val (.int (Int32.ofNat n)), .val (.int dv_3)] [(.ref a25)])) _
      refine XS.iloadN X25.here hx rfl (dd hy d3_32) rfl ?_
      refine st31.trans ?_
      show Steps _ _ _ (T31.setTop (mkF m 36 #[.val (.ref ca), .val (.int (Int32.ofNat i)), .val (.int pre), .val (.int suf), .val (.long xl), .second, .val (.long yl), .second, .val (.int (Int32.ofNat n)), .val (.int dv_3)] [(.int (own_tp.getD i 0))])) _
      refine XS.istore X31.here hx rfl (dd hy d3_36) rfl (l' := #[.val (.ref ca), .val (.int (Int32.ofNat i)), .val (.int pre), .val (.int suf), .val (.long xl), .second, .val (.long yl), .second, .val (.int (Int32.ofNat n)), .val (.int (own_tp.getD i 0))]) rfl ?_
      refine XS.iloadN X31.here hx rfl (dd hy d3_38) rfl ?_
      exact k_)
    by_cases h34 : suf = (0 : Int32)
    · have f35 : Arv Z h25 ca kc .char (Int32.ofNat n) (cs.map Value.int) v0_ := (I3.ext E25)
      obtain ⟨cl36, Ar36, q36, S36, M36, H36, G36⟩ := id f35
      have hin36 : ¬ ((Int32.ofNat i) < 0 ∨ cl36.slots.size ≤ ((Int32.ofNat i)).toNatClampNeg) := inb_of S36 (own_in hin (by omega))
      obtain ⟨T37, h37, X37, e37, W37, st37⟩ := stC X31 hx hZ e31 Ar36 (j := (Int32.ofNat i)) hin36 (g := (mkF m 67 #[.val (.ref ca), .val (.int (Int32.ofNat i)), .val (.int pre), .val (.int suf), .val (.long xl), .second, .val (.long yl), .second, .val (.int (Int32.ofNat n)), .val (.int (own_tp.getD i 0))] [(.int (own_tp.getD i 0)), (.int (Int32.ofNat i)), (.ref ca)])) rfl rfl (dd hy d3_67)
      have z38 : h25.size ≤ h37.size := Nat.le_of_eq W37.size.symm
      have Cp38 : CHr Z ELs T25.vm h25 T25.vm h37 := CHr.wr W37 (Safe.arv hZ.alike f35 (by decide)) CR.1
      have hk := Nat.le_trans hk z38
      have CR := CR.trans Cp38
      have V37 : Arv Z h37 ca kc .char (Int32.ofNat n) ((List.set cs i (own_tp.getD i 0)).map Value.int) v0_ := by
        have q : Arv Z h37 ca kc .char (Int32.ofNat n) (List.set (List.map Value.int cs) i (.int (nar .char (own_tp.getD i 0)))) v0_ := Arv.set Ar36 q36 S36 M36 H36 G36 (fits_nar_char _) W37 i (own_tn (by omega)) (by rw [List.length_map]; omega)
        rw [show nar .char (own_tp.getD i 0) = (own_tp.getD i 0) from own_narc rg32.1 rg32.2] at q
        rw [List.map_set]
        exact q
      have N37 := Fr.snoc X37 N31 (show n0 ≤ ca by omega)
      have s39 : ∀ t_, Steps p.tables e below (T37.setTop (mkF m 68 #[.val (.ref ca), .val (.int (Int32.ofNat i)), .val (.int pre), .val (.int suf), .val (.long xl), .second, .val (.long yl), .second, .val (.int (Int32.ofNat n)), .val (.int (own_tp.getD i 0))] [])) t_ → Steps _ _ _ _ t_ := fun t_ k_ => s33 t_ (by
        refine XS.ifYes X31.here hx rfl (pc0 := 39) (pc' := 63) rfl (dd hy d3_39) rfl ((if0 _ _).trans (teq h34).1) (by decide) (by decide) ?_
        show Steps _ _ _ (T31.setTop (mkF m 63 #[.val (.ref ca), .val (.int (Int32.ofNat i)), .val (.int pre), .val (.int suf), .val (.long xl), .second, .val (.long yl), .second, .val (.int (Int32.ofNat n)), .val (.int (own_tp.getD i 0))] [])) _
        refine XS.aloadN X31.here hx rfl (dd hy d3_63) rfl rfl ?_
        refine XS.iloadN X31.here hx rfl (dd hy d3_64) rfl ?_
        refine XS.iload X31.here hx rfl (dd hy d3_65) rfl ?_
        refine st37 _ ?_
        exact k_)
      obtain ⟨fs, hr, hrun, hended, hREW⟩ := X37.leaveW hS (by first | exact Nat.le_refl _ | (rw [e37]; exact hk)) (v := none) (fun _ => rfl)
      refine ⟨_, _, s39 _ ?_, hrun, hended, _, _, rfl, ?_, (by show CHr Z ELs s.vm s.heap T37.vm T37.heap; rw [hh, e37]; exact CR.trans (CHv.at X37 hZ hEL CR.1)), hREW.1, hREW.2.1, hREW.2.2.1, hREW.2.2.2.mono (by decide) (by decide)⟩
      · exact X37.returnOut hx Bd.returns (dd hy d3_68) hr
      · show Q_rmPutB0 Z _ _ _ _ _ _ _ _ _ _ _ h0 n0 _ T37.heap _
        rw [e37]
        exact ⟨(List.set cs i (own_tp.getD i 0)), rfl, N37, (((Keep.refl h0 [ca]).ext E25).wr W37 (Or.inl (by simp))), V37, (by rw [List.length_set]; exact hn), own_chsset hchs rg32⟩
    · have s41 : ∀ t_, Steps p.tables e below (T31.setTop (mkF m 50 #[.val (.ref ca), .val (.int (Int32.ofNat i)), .val (.int pre), .val (.int suf), .val (.long xl), .second, .val (.long yl), .second, .val (.int (Int32.ofNat n)), .val (.int (own_tp.getD i 0))] [])) t_ → Steps _ _ _ _ t_ := fun t_ k_ => s33 t_ (by
        refine XS.ifNo X31.here hx rfl (dd hy d3_39) rfl ((if0 _ _).trans (feq h34).1) ?_
        show Steps _ _ _ (T31.setTop (mkF m 42 #[.val (.ref ca), .val (.int (Int32.ofNat i)), .val (.int pre), .val (.int suf), .val (.long xl), .second, .val (.long yl), .second, .val (.int (Int32.ofNat n)), .val (.int (own_tp.getD i 0))] [])) _
        refine XS.iloadN X31.here hx rfl (dd hy d3_42) rfl ?_
        refine XS.iload X31.here hx rfl (dd hy d3_43) rfl ?_
        refine XS.iconst X31.here hx rfl (dd hy d3_45) ?_
        refine XS.isub X31.here hx rfl (dd hy d3_46) rfl ?_
        refine XS.icmpNo X31.here hx rfl (dd hy d3_47) rfl (flt (own_m5f hs (by omega) (by omega))).1 ?_
        show Steps _ _ _ (T31.setTop (mkF m 50 #[.val (.ref ca), .val (.int (Int32.ofNat i)), .val (.int pre), .val (.int suf), .val (.long xl), .second, .val (.long yl), .second, .val (.int (Int32.ofNat n)), .val (.int (own_tp.getD i 0))] [])) _
        exact k_)
      obtain ⟨a40, T40, h40, k40, b40, kk40, X40, e40, E40, hS, hk, hZ, hown, Ex40, Fc40, Fv40, Av40, la40, lb40, Cp40, Li40, Sa40, st40⟩ := ldcCH X31 hx hZ hown (own_m hw 99 rfl) wS e31 hS hk hEL (List.mem_of_getElem? (i := 3) rfl) CR.1 (vs := [(.int (46 : Int32)), (.int (106 : Int32)), (.int (115 : Int32)), (.int (111 : Int32)), (.int (110 : Int32))]) (z := (5 : Int32)) ⟨by decide, by decide⟩ (by decide) rfl (g := (mkF m 50 #[.val (.ref ca), .val (.int (Int32.ofNat i)), .val (.int pre), .val (.int suf), .val (.long xl), .second, .val (.long yl), .second, .val (.int (Int32.ofNat n)), .val (.int (own_tp.getD i 0))] [])) rfl (dd hy d3_50) (n := 20) (by decide) (by decide) (by decide) (by decide)
      have z42 : h25.size ≤ h40.size := E40.1
      have CR := CR.trans Cp40
      have la40 : @LT.lt Nat _ a40 h40.size := la40
      have lb40 : @LT.lt Nat _ b40 h40.size := lb40
      have Fc43 : Fld Z h40 a40 cS "coder" "B" (.int (own_cod own_tj)) := Fc40
      have Av43 : Arv Z h40 b40 kk40 .byte (Int32.ofNat (own_enl own_tj)) (own_enc own_tj) v0_ := own_tj_lit Av40
      have O44 : Old Z n0 h40 := (O29.ext E40)
      have Zc45 : n0 ≤ h40.size := by omega
      obtain ⟨cq46, kq46, q46a, q46b, q46c⟩ := isOf hZ e40 Ex40
      obtain ⟨_, _, ⟨T46, L46, k46, n46⟩, -, X46, ⟨Lc46, hQ46, l46, y46, z46⟩, st46⟩ := X40.virtualBack hx (y := M16_) (z := M16_) hown (mvT hZ (own_m hw 67 rfl)) (mvT hZ (own_m hw 68 rfl)) (notFace_of_selects (args := #[]) (mvT hZ (own_m hw 70 rfl))) (mvT hZ (own_m hw 70 rfl)) (mvT hZ (own_m hw 69 rfl)) (by decide) (backOf (W := 0) (rmChA l Z a0 hw [] a40 cst b40 kk40 own_tj (i + 5 - n) fmt h40 n0 Zc45 I1 hfmt I2 O44 hcst Ex40 Fv40 Fc43 Av43 (by decide) (show i + 5 - n < 5 from (by omega)) own_tj_chs own_tj_lat) hZ (own_m hw 71 rfl) (own_m hw 7 rfl) (by decide) (by decide)) q46a q46c (g := (mkF m 58 #[.val (.ref ca), .val (.int (Int32.ofNat i)), .val (.int pre), .val (.int suf), .val (.long xl), .second, .val (.long yl), .second, .val (.int (Int32.ofNat n)), .val (.int (own_tp.getD i 0))] [(.int (Int32.ofNat (i + 5 - n))), (.ref a40)])) rfl (by rw [hml]; rfl) (Steps.refl _) (argsL := [(.int (Int32.ofNat (i + 5 - n)))]) (rest := []) (lenOf pd__I_C rfl) rfl (by show 2 * 0 + _ ≤ _; exact Nat.le_of_eq rfl) (dd hy d3_58) (fun _ _ => ⟨rfl, e40, (by decide : 4 + 0 ≤ _), (by decide : 48 + 0 ≤ _)⟩)
      dsimp only [Pt.U, Pt.locs, Pt.cells, Pt.slots] at X46 l46 y46 z46 st46 hQ46
      subst l46 y46 z46
      obtain ⟨rfl, N46q, e46⟩ := hQ46
      have N46 := Fr.app N31 N46q
      have rg47 := own_tj_chs _ (own_mem own_tj (i + 5 - n) (show i + 5 - n < 5 by omega))
      have f48 : Arv Z h40 ca kc .char (Int32.ofNat n) (cs.map Value.int) v0_ := ((I3.ext E25).ext E40)
      obtain ⟨cl49, Ar49, q49, S49, M49, H49, G49⟩ := id f48
      have hin49 : ¬ ((Int32.ofNat i) < 0 ∨ cl49.slots.size ≤ ((Int32.ofNat i)).toNatClampNeg) := inb_of S49 (own_in hin (by omega))
      obtain ⟨T50, h50, X50, e50, W50, st50⟩ := stC X46 hx hZ e46 Ar49 (j := (Int32.ofNat i)) hin49 (g := (mkF m 67 #[.val (.ref ca), .val (.int (Int32.ofNat i)), .val (.int pre), .val (.int suf), .val (.long xl), .second, .val (.long yl), .second, .val (.int (Int32.ofNat n)), .val (.int (own_tj.getD (i + 5 - n) 0))] [(.int (own_tj.getD (i + 5 - n) 0)), (.int (Int32.ofNat i)), (.ref ca)])) rfl rfl (dd hy d3_67)
      have z51 : h40.size ≤ h50.size := Nat.le_of_eq W50.size.symm
      have Cp51 : CHr Z ELs T40.vm h40 T40.vm h50 := CHr.wr W50 (Safe.arv hZ.alike f48 (by decide)) CR.1
      have hk := Nat.le_trans hk z51
      have CR := CR.trans Cp51
      have V50 : Arv Z h50 ca kc .char (Int32.ofNat n) ((List.set cs i (own_tj.getD (i + 5 - n) 0)).map Value.int) v0_ := by
        have q : Arv Z h50 ca kc .char (Int32.ofNat n) (List.set (List.map Value.int cs) i (.int (nar .char (own_tj.getD (i + 5 - n) 0)))) v0_ := Arv.set Ar49 q49 S49 M49 H49 G49 (fits_nar_char _) W50 i (own_tn (by omega)) (by rw [List.length_map]; omega)
        rw [show nar .char (own_tj.getD (i + 5 - n) 0) = (own_tj.getD (i + 5 - n) 0) from own_narc rg47.1 rg47.2] at q
        rw [List.map_set]
        exact q
      have N50 := Fr.snoc X50 N46 (show n0 ≤ ca by omega)
      have s52 : ∀ t_, Steps p.tables e below (T50.setTop (mkF m 68 #[.val (.ref ca), .val (.int (Int32.ofNat i)), .val (.int pre), .val (.int suf), .val (.long xl), .second, .val (.long yl), .second, .val (.int (Int32.ofNat n)), .val (.int (own_tj.getD (i + 5 - n) 0))] [])) t_ → Steps _ _ _ _ t_ := fun t_ k_ => s41 t_ (by
        refine st40 _ ?_
        show Steps _ _ _ (T40.setTop (mkF m 52 #[.val (.ref ca), .val (.int (Int32.ofNat i)), .val (.int pre), .val (.int suf), .val (.long xl), .second, .val (.long yl), .second, .val (.int (Int32.ofNat n)), .val (.int (own_tp.getD i 0))] [(.ref a40)])) _
        refine XS.iloadN X40.here hx rfl (dd hy d3_52) rfl ?_
        refine XS.iload X40.here hx rfl (dd hy d3_53) rfl ?_
        refine XS.iconst X40.here hx rfl (dd hy d3_55) ?_
        refine XS.isub X40.here hx rfl (dd hy d3_56) rfl ?_
        refine XS.isub X40.here hx rfl (dd hy d3_57) rfl ?_
        show Steps _ _ _ (T40.setTop (mkF m 58 #[.val (.ref ca), .val (.int (Int32.ofNat i)), .val (.int pre), .val (.int suf), .val (.long xl), .second, .val (.long yl), .second, .val (.int (Int32.ofNat n)), .val (.int (own_tp.getD i 0))] [(.int ((Int32.ofNat i) - ((Int32.ofNat n) - (5 : Int32)))), (.ref a40)])) _
        refine castTop (g' := (mkF m 58 #[.val (.ref ca), .val (.int (Int32.ofNat i)), .val (.int pre), .val (.int suf), .val (.long xl), .second, .val (.long yl), .second, .val (.int (Int32.ofNat n)), .val (.int (own_tp.getD i 0))] [(.int (Int32.ofNat (i + 5 - n))), (.ref a40)])) (by rw [own_i5n hs (by omega) (by omega)]) ?_
        show Steps _ _ _ (T40.setTop (mkF m 58 #[.val (.ref ca), .val (.int (Int32.ofNat i)), .val (.int pre), .val (.int suf), .val (.long xl), .second, .val (.long yl), .second, .val (.int (Int32.ofNat n)), .val (.int (own_tp.getD i 0))] [(.int (Int32.ofNat (i + 5 - n))), (.ref a40)])) _
        refine st46.trans ?_
        show Steps _ _ _ (T46.setTop (mkF m 61 #[.val (.ref ca), .val (.int (Int32.ofNat i)), .val (.int pre), .val (.int suf), .val (.long xl), .second, .val (.long yl), .second, .val (.int (Int32.ofNat n)), .val (.int (own_tp.getD i 0))] [(.int (own_tj.getD (i + 5 - n) 0))])) _
        refine XS.istore X46.here hx rfl (dd hy d3_61) rfl (l' := #[.val (.ref ca), .val (.int (Int32.ofNat i)), .val (.int pre), .val (.int suf), .val (.long xl), .second, .val (.long yl), .second, .val (.int (Int32.ofNat n)), .val (.int (own_tj.getD (i + 5 - n) 0))]) rfl ?_
        refine XS.aloadN X46.here hx rfl (dd hy d3_63) rfl rfl ?_
        refine XS.iloadN X46.here hx rfl (dd hy d3_64) rfl ?_
        refine XS.iload X46.here hx rfl (dd hy d3_65) rfl ?_
        refine st50 _ ?_
        exact k_)
      obtain ⟨fs, hr, hrun, hended, hREW⟩ := X50.leaveW hS (by first | exact Nat.le_refl _ | (rw [e50]; exact hk)) (v := none) (fun _ => rfl)
      refine ⟨_, _, s52 _ ?_, hrun, hended, _, _, rfl, ?_, (by show CHr Z ELs s.vm s.heap T50.vm T50.heap; rw [hh, e50]; exact CR.trans (CHv.at X50 hZ hEL CR.1)), hREW.1, hREW.2.1, hREW.2.2.1, hREW.2.2.2.mono (by decide) (by decide)⟩
      · exact X50.returnOut hx Bd.returns (dd hy d3_68) hr
      · show Q_rmPutB0 Z _ _ _ _ _ _ _ _ _ _ _ h0 n0 _ T50.heap _
        rw [e50]
        exact ⟨(List.set cs i (own_tj.getD (i + 5 - n) 0)), rfl, N50, ((((Keep.refl h0 [ca]).ext E25).ext E40).wr W50 (Or.inl (by simp))), V50, (by rw [List.length_set]; exact hn), own_chsset hchs rg47⟩
theorem pd___CIZZJJ_V : parseMethodDescriptor "([CIZZJJ)V" = some ⟨[(.array .char), .int, .boolean, .boolean, .long, .long], none⟩ := by decide +kernel
theorem pd___C_V : parseMethodDescriptor "([C)V" = some ⟨[(.array .char)], none⟩ := by decide +kernel
theorem os_rmLaw_287 {z0 : Value} {z2 : Value} {z4 : Value} {z5 : Value} {z6 : Value} {z7 : Value} {z8 : Value} {z9 : Value} {z10 : Value} {sl11_353 : Slot} {v : Addr} (h : One sl11_353) : storeLocals #[.val z0, .second, .val z2, .second, .val z4, .val z5, .val z6, .val z7, .val z8, .val z9, .val z10, sl11_353, .unset, .unset] 11 (.ref v) = some #[.val z0, .second, .val z2, .second, .val z4, .val z5, .val z6, .val z7, .val z8, .val z9, .val z10, .val (.ref v), .unset, .unset] := by
  rcases h with rfl | ⟨w, rfl, hw⟩
  · rfl
  · cases w <;> first | rfl | (simp [Value.category] at hw)
theorem ef_rmLaw (m : MethodId) (x0 : Int64) (x1 : Int64) (x2 : Int32) (x3 : Int32) (x4 : Int32) : entryFrame m #[(.long x0), (.long x1), (.int x2), (.int x3), (.int x4)] maxLocals = mkF m 0 #[.val (.long x0), .second, .val (.long x1), .second, .val (.int x2), .val (.int x3), .val (.int x4), .unset, .unset, .unset, .unset, .unset, .unset, .unset] [] := by first | (simp [entryFrame, mkF, argsToLocals, Value.category, maxLocals]; done) | rfl
def Q_rmLaw (Z : State) (xl : Int64) (yl : Int64) (mode : Int32) (pos : Int32) (zz : Int32) (cst : Int32) (fmt : Value) (h0 : Heap) (n0 : Nat) (v : Option Value) (h : Heap) (L : List Loc) : Prop := v = some (.int 1) ∧ Fr n0 L
set_option maxRecDepth 65536 in
set_option maxHeartbeats 40000000 in
theorem rmLaw (l : Launch) (Z : State) (a0 : Array Value) (hw : HW Z a0) (ws : List Jvm.Cond) (xl : Int64) (yl : Int64) (mode : Int32) (pos : Int32) (zz : Int32) (cst : Int32) (fmt : Value) (h0 : Heap) (n0 : Nat) (Z0 : n0 ≤ h0.size) (I1 : Sta Z Z.heap cS cC "Z" (.int cst)) (I2 : Sta Z Z.heap cU cD "Z" (.int (1 : Int32))) (I3 : Sta Z Z.heap cU cH "I" (.int (0 : Int32))) (I4 : Sta Z Z.heap cU cL "I" (.int (8 : Int32))) (hfmt : fmt.isRef = true) (I5 : Sta Z Z.heap cP cG cF fmt) (OX : Old Z n0 h0) (hcst : ¬ (cst = (0 : Int32))) :
    MetFree l x (head1 (Jvm.Cond.code x code maxLocals ret :: ws) room_1) (fun ar_ U => ar_ = #[(.long xl), (.long yl), (.int mode), (.int pos), (.int zz)] ∧ Z.Warmed39 U.vm ∧ U.heap = h0 ∧ CHv Z ELs U.vm h0) (fun _ _ _ _ _ => True) (fun _ U oc_ U' => ∃ v L, oc_ = .returned v ∧ Q_rmLaw Z xl yl mode pos zz cst fmt h0 n0 v U'.heap L ∧ CHr Z ELs U.vm U.heap U'.vm U'.heap ∧ ReturnedEndW U oc_ U' L room_1.cells room_1.slots) := by
  refine MetFree.of_bodySF (plainFor_of_name pn_io_dyeline_store_LayoutIsDataFilePinLaw) hisR ?_
  intro p e s m args below meth c s₁ Bd hml0 hP hK
  obtain ⟨rfl, hZ, hh, hCH⟩ := hP
  have hx := Bd.exec
  have hy := Bd.bytes
  have hml : c.maxLocals = 14 := hml0
  have hown : s.vm.findClass "io/dyeline/store/LayoutIsDataFilePinLaw" = some m.cls := findClass_of_methodNamed Bd.named
  have hnm := (name_of_methodNamed Bd.named Bd.method).1
  have X0 : Stand p l e room_1 (s.setVm s.vm) m #[(.long xl), (.long yl), (.int mode), (.int pos), (.int zz)] below meth c s₁ [] 0 0 := Stand.of_body Bd
  have e0 : s₁.heap = h0 := by rw [← hh, Bd.state]; rfl
  have N0 := Fr.nil n0
  have pre0 := own_pre (p := p) (e := e) (below := below) (T := s₁) (ef_rmLaw m xl yl mode pos zz)
  have hEL : EW Z a0 ELs := own_EW hw
  have wS : ∀ a ∈ Bundle.stringAtoms, a.before a0 Z = true := own_wS hw
  have hS : s.Since s.vm s.heap.size := (State.WarmedH.refl s).since _
  have hk : s.heap.size ≤ h0.size := by rw [hh]; exact Nat.le_refl _
  have CR : CHr Z ELs s.vm h0 s.vm h0 := CHr.refl hCH
  obtain ⟨nn, hnn, hnl⟩ := own_and15 mode
  obtain ⟨q1, hq1⟩ : ∃ z : Int32, z = (mode &&& (16 : Int32)) := ⟨_, rfl⟩
  have s2 : ∀ t_, Steps p.tables e below (s₁.setTop (mkF m 12 #[.val (.long xl), .second, .val (.long yl), .second, .val (.int mode), .val (.int pos), .val (.int zz), .val (.int (Int32.ofNat nn)), .unset, .unset, .unset, .unset, .unset, .unset] [(.int q1)])) t_ → Steps _ _ _ _ t_ := fun t_ k_ => pre0 t_ (by
    refine XS.iload X0.here hx rfl (dd hy at_0) rfl ?_
    refine XS.bipush X0.here hx rfl (dd hy at_2) ?_
    refine XS.iand X0.here hx rfl (dd hy at_4) rfl ?_
    refine XS.istore X0.here hx rfl (dd hy at_5) rfl (l' := #[.val (.long xl), .second, .val (.long yl), .second, .val (.int mode), .val (.int pos), .val (.int zz), .val (.int (mode &&& (15 : Int32))), .unset, .unset, .unset, .unset, .unset, .unset]) rfl ?_
    refine XS.iload X0.here hx rfl (dd hy at_7) rfl ?_
    refine XS.bipush X0.here hx rfl (dd hy at_9) ?_
    show Steps _ _ _ (s₁.setTop (mkF m 11 #[.val (.long xl), .second, .val (.long yl), .second, .val (.int mode), .val (.int pos), .val (.int zz), .val (.int (mode &&& (15 : Int32))), .unset, .unset, .unset, .unset, .unset, .unset] [(.int (16 : Int32)), (.int mode)])) _
    refine XS.iand X0.here hx rfl (dd hy at_11) rfl ?_
    show Steps p.tables e below (s₁.setTop (mkF m 12 #[.val (.long xl), .second, .val (.long yl), .second, .val (.int mode), .val (.int pos), .val (.int zz), .val (.int (mode &&& (15 : Int32))), .unset, .unset, .unset, .unset, .unset, .unset] [(.int (mode &&& (16 : Int32)))])) t_
    exact castTop (by simp only [hnn, hq1]) k_)
  obtain ⟨q3, hq3⟩ : ∃ z : Int32, z = (if q1 = (0 : Int32) then (0 : Int32) else (1 : Int32)) := ⟨_, rfl⟩
  obtain ⟨T4, X4, e4, s4⟩ := seg X0 (fun T' => T'.heap = h0 ∧ ∀ t_, Steps p.tables e below (T'.setTop (mkF m 20 #[.val (.long xl), .second, .val (.long yl), .second, .val (.int mode), .val (.int pos), .val (.int zz), .val (.int (Int32.ofNat nn)), .unset, .unset, .unset, .unset, .unset, .unset] [(.int q3)])) t_ → Steps p.tables e below (s₁.setTop (entryFrame m #[(.long xl), (.long yl), (.int mode), (.int pos), (.int zz)] maxLocals)) t_) (by
    by_cases h5 : q1 = (0 : Int32)
    · have s6 : ∀ t_, Steps p.tables e below (s₁.setTop (mkF m 20 #[.val (.long xl), .second, .val (.long yl), .second, .val (.int mode), .val (.int pos), .val (.int zz), .val (.int (Int32.ofNat nn)), .unset, .unset, .unset, .unset, .unset, .unset] [(.int (0 : Int32))])) t_ → Steps _ _ _ _ t_ := fun t_ k_ => s2 t_ (by
        refine XS.ifYes X0.here hx rfl (pc0 := 12) (pc' := 19) rfl (dd hy at_12) rfl ((if0 _ _).trans (teq h5).1) (by decide) (by decide) ?_
        show Steps _ _ _ (s₁.setTop (mkF m 19 #[.val (.long xl), .second, .val (.long yl), .second, .val (.int mode), .val (.int pos), .val (.int zz), .val (.int (Int32.ofNat nn)), .unset, .unset, .unset, .unset, .unset, .unset] [])) _
        refine XS.iconst X0.here hx rfl (dd hy at_19) ?_
        exact k_)
      exact ⟨s₁, X0, e0, fun t_ k_ => s6 t_ (castTop (by simp only [hq3, if_pos h5]) k_)⟩
    · have s7 : ∀ t_, Steps p.tables e below (s₁.setTop (mkF m 20 #[.val (.long xl), .second, .val (.long yl), .second, .val (.int mode), .val (.int pos), .val (.int zz), .val (.int (Int32.ofNat nn)), .unset, .unset, .unset, .unset, .unset, .unset] [(.int (1 : Int32))])) t_ → Steps _ _ _ _ t_ := fun t_ k_ => s2 t_ (by
        refine XS.ifNo X0.here hx rfl (dd hy at_12) rfl ((if0 _ _).trans (feq h5).1) ?_
        show Steps _ _ _ (s₁.setTop (mkF m 15 #[.val (.long xl), .second, .val (.long yl), .second, .val (.int mode), .val (.int pos), .val (.int zz), .val (.int (Int32.ofNat nn)), .unset, .unset, .unset, .unset, .unset, .unset] [])) _
        refine XS.iconst X0.here hx rfl (dd hy at_15) ?_
        refine XS.goto X0.here hx rfl (pc0 := 16) (pc' := 20) rfl (dd hy at_16) (by decide) (by decide) ?_
        exact k_)
      exact ⟨s₁, X0, e0, fun t_ k_ => s7 t_ (castTop (by simp only [hq3, if_neg h5]) k_)⟩)
  obtain ⟨q8, hq8⟩ : ∃ z : Int32, z = (mode &&& (32 : Int32)) := ⟨_, rfl⟩
  have s9 : ∀ t_, Steps p.tables e below (T4.setTop (mkF m 27 #[.val (.long xl), .second, .val (.long yl), .second, .val (.int mode), .val (.int pos), .val (.int zz), .val (.int (Int32.ofNat nn)), .val (.int q3), .unset, .unset, .unset, .unset, .unset] [(.int q8)])) t_ → Steps _ _ _ _ t_ := fun t_ k_ => s4 t_ (by
    refine XS.istore X4.here hx rfl (dd hy at_20) rfl (l' := #[.val (.long xl), .second, .val (.long yl), .second, .val (.int mode), .val (.int pos), .val (.int zz), .val (.int (Int32.ofNat nn)), .val (.int q3), .unset, .unset, .unset, .unset, .unset]) rfl ?_
    refine XS.iload X4.here hx rfl (dd hy at_22) rfl ?_
    refine XS.bipush X4.here hx rfl (dd hy at_24) ?_
    refine XS.iand X4.here hx rfl (dd hy at_26) rfl ?_
    show Steps p.tables e below (T4.setTop (mkF m 27 #[.val (.long xl), .second, .val (.long yl), .second, .val (.int mode), .val (.int pos), .val (.int zz), .val (.int (Int32.ofNat nn)), .val (.int q3), .unset, .unset, .unset, .unset, .unset] [(.int (mode &&& (32 : Int32)))])) t_
    exact castTop (by simp only [hq8]) k_)
  obtain ⟨q10, hq10⟩ : ∃ z : Int32, z = (if q8 = (0 : Int32) then (0 : Int32) else (1 : Int32)) := ⟨_, rfl⟩
  obtain ⟨T11, X11, e11, s11⟩ := seg X4 (fun T' => T'.heap = h0 ∧ ∀ t_, Steps p.tables e below (T'.setTop (mkF m 35 #[.val (.long xl), .second, .val (.long yl), .second, .val (.int mode), .val (.int pos), .val (.int zz), .val (.int (Int32.ofNat nn)), .val (.int q3), .unset, .unset, .unset, .unset, .unset] [(.int q10)])) t_ → Steps p.tables e below (s₁.setTop (entryFrame m #[(.long xl), (.long yl), (.int mode), (.int pos), (.int zz)] maxLocals)) t_) (by
    by_cases h12 : q8 = (0 : Int32)
    · have s13 : ∀ t_, Steps p.tables e below (T4.setTop (mkF m 35 #[.val (.long xl), .second, .val (.long yl), .second, .val (.int mode), .val (.int pos), .val (.int zz), .val (.int (Int32.ofNat nn)), .val (.int q3), .unset, .unset, .unset, .unset, .unset] [(.int (0 : Int32))])) t_ → Steps _ _ _ _ t_ := fun t_ k_ => s9 t_ (by
        refine XS.ifYes X4.here hx rfl (pc0 := 27) (pc' := 34) rfl (dd hy at_27) rfl ((if0 _ _).trans (teq h12).1) (by decide) (by decide) ?_
        show Steps _ _ _ (T4.setTop (mkF m 34 #[.val (.long xl), .second, .val (.long yl), .second, .val (.int mode), .val (.int pos), .val (.int zz), .val (.int (Int32.ofNat nn)), .val (.int q3), .unset, .unset, .unset, .unset, .unset] [])) _
        refine XS.iconst X4.here hx rfl (dd hy at_34) ?_
        exact k_)
      exact ⟨T4, X4, e4, fun t_ k_ => s13 t_ (castTop (by simp only [hq10, if_pos h12]) k_)⟩
    · have s14 : ∀ t_, Steps p.tables e below (T4.setTop (mkF m 35 #[.val (.long xl), .second, .val (.long yl), .second, .val (.int mode), .val (.int pos), .val (.int zz), .val (.int (Int32.ofNat nn)), .val (.int q3), .unset, .unset, .unset, .unset, .unset] [(.int (1 : Int32))])) t_ → Steps _ _ _ _ t_ := fun t_ k_ => s9 t_ (by
        refine XS.ifNo X4.here hx rfl (dd hy at_27) rfl ((if0 _ _).trans (feq h12).1) ?_
        show Steps _ _ _ (T4.setTop (mkF m 30 #[.val (.long xl), .second, .val (.long yl), .second, .val (.int mode), .val (.int pos), .val (.int zz), .val (.int (Int32.ofNat nn)), .val (.int q3), .unset, .unset, .unset, .unset, .unset] [])) _
        refine XS.iconst X4.here hx rfl (dd hy at_30) ?_
        refine XS.goto X4.here hx rfl (pc0 := 31) (pc' := 35) rfl (dd hy at_31) (by decide) (by decide) ?_
        exact k_)
      exact ⟨T4, X4, e4, fun t_ k_ => s14 t_ (castTop (by simp only [hq10, if_neg h12]) k_)⟩)
  obtain ⟨T15, h15, k15, X15, e15, E15, A15, st15⟩ := newP X11 hx hZ (own_m hw 0 rfl) e11 (g := (mkF m 39 #[.val (.long xl), .second, .val (.long yl), .second, .val (.int mode), .val (.int pos), .val (.int zz), .val (.int (Int32.ofNat nn)), .val (.int q3), .val (.int q10), .unset, .unset, .unset, .unset] [(.int (Int32.ofNat nn))])) rfl (dd hy at_39) rfl (own_nn (by omega)) (cap := 15) (by rw [own_tn (by omega)]; omega) (by decide) (by decide) (by decide)
  obtain ⟨b15, g15⟩ : ∃ z, z = h0.size := ⟨_, rfl⟩
  rw [← g15] at A15 st15
  have z16 : h0.size ≤ h15.size := E15.1
  have Cp16 : CHr Z ELs s.vm h0 s.vm h15 := CHr.ext E15 CR.1
  have hk := Nat.le_trans hk z16
  have CR := CR.trans Cp16
  have l15 : b15 < h15.size := A15.lt
  have V15 : Arv Z h15 b15 k15 .char (Int32.ofNat nn) ((List.replicate nn (0 : Int32)).map Value.int) v0_ := (Arv.new A15 (own_nn (by omega))).pad (by rw [List.map_replicate]; exact pad_rep [] _ nn)
  obtain ⟨ds0, hds0⟩ : ∃ z : List Int32, z = (List.replicate nn (0 : Int32)) := ⟨_, rfl⟩
  have lds0 : ds0.length = nn := by rw [hds0]; exact List.length_replicate
  have cds0 : own_chs ds0 := by rw [hds0]; exact own_chsrep nn
  have hn8 : nn ≤ 8000 := Nat.le_trans (Nat.le_of_lt hnl) (by decide)
  have V17 : Arv Z h15 b15 k15 .char (Int32.ofNat nn) (ds0.map Value.int) v0_ := by rw [hds0]; exact V15
  have s18 : ∀ t_, Steps p.tables e below (T15.setTop (mkF m 43 #[.val (.long xl), .second, .val (.long yl), .second, .val (.int mode), .val (.int pos), .val (.int zz), .val (.int (Int32.ofNat nn)), .val (.int q3), .val (.int q10), .val (.ref b15), .unset, .unset, .unset] [])) t_ → Steps _ _ _ _ t_ := fun t_ k_ => s11 t_ (by
    refine XS.istore X11.here hx rfl (dd hy at_35) rfl (l' := #[.val (.long xl), .second, .val (.long yl), .second, .val (.int mode), .val (.int pos), .val (.int zz), .val (.int (Int32.ofNat nn)), .val (.int q3), .val (.int q10), .unset, .unset, .unset, .unset]) rfl ?_
    show Steps _ _ _ (T11.setTop (mkF m 37 #[.val (.long xl), .second, .val (.long yl), .second, .val (.int mode), .val (.int pos), .val (.int zz), .val (.int (Int32.ofNat nn)), .val (.int q3), .val (.int q10), .unset, .unset, .unset, .unset] [])) _
    refine XS.iload X11.here hx rfl (dd hy at_37) rfl ?_
    refine st15 _ ?_
    refine XS.astore X15.here hx rfl (dd hy at_41) rfl rfl (l' := #[.val (.long xl), .second, .val (.long yl), .second, .val (.int mode), .val (.int pos), .val (.int zz), .val (.int (Int32.ofNat nn)), .val (.int q3), .val (.int q10), .val (.ref b15), .unset, .unset, .unset]) rfl ?_
    exact k_)
  have bk19 : ∃ (V' : Vm) (k' : Nat) (T' : State) (lo' : List Loc) (hx_ : Heap) (fe_ : JFrame), Stand p l e room_1 (s.setVm V') m #[(.long xl), (.long yl), (.int mode), (.int pos), (.int zz)] below meth c T' lo' (1 + 2 * 1 + 2 * (min 1 nn - min 1 (nn - 5))) 63 ∧ T'.heap = hx_ ∧ Fr n0 lo' ∧ Keep h15 hx_ [b15] ∧ s.Since V' k' ∧ k' ≤ hx_.size ∧ Z.Warmed39 (s.setVm V').vm ∧ (s.setVm V').vm.findClass "io/dyeline/store/LayoutIsDataFilePinLaw" = some m.cls ∧ CHr Z ELs s.vm h15 V' hx_ ∧ ((∃ (ds : List Int32), fe_ = (mkF m 55 #[.val (.long xl), .second, .val (.long yl), .second, .val (.int mode), .val (.int pos), .val (.int zz), .val (.int (Int32.ofNat nn)), .val (.int q3), .val (.int q10), .val (.ref b15), .unset, .unset, .unset] []) ∧ Arv Z hx_ b15 k15 .char (Int32.ofNat nn) (ds.map Value.int) v0_ ∧ (ds.length = nn) ∧ (own_chs ds))) ∧ ∀ t_, Steps p.tables e below (T'.setTop fe_) t_ → Steps p.tables e below (s₁.setTop (entryFrame m #[(.long xl), (.long yl), (.int mode), (.int pos), (.int zz)] maxLocals)) t_ := by
    have s20 : ∀ t_, Steps p.tables e below (T15.setTop (mkF m 52 #[.val (.long xl), .second, .val (.long yl), .second, .val (.int mode), .val (.int pos), .val (.int zz), .val (.int (Int32.ofNat nn)), .val (.int q3), .val (.int q10), .val (.ref b15), .unset, .unset, .unset] [(.long yl), (.long xl), (.int q10), (.int q3), (.int (0 : Int32)), (.ref b15)])) t_ → Steps _ _ _ _ t_ := fun t_ k_ => s18 t_ (by
      refine XS.aload X15.here hx rfl (dd hy at_43) rfl rfl ?_
      refine XS.iconst X15.here hx rfl (dd hy at_45) ?_
      refine XS.iload X15.here hx rfl (dd hy at_46) rfl ?_
      show Steps _ _ _ (T15.setTop (mkF m 48 #[.val (.long xl), .second, .val (.long yl), .second, .val (.int mode), .val (.int pos), .val (.int zz), .val (.int (Int32.ofNat nn)), .val (.int q3), .val (.int q10), .val (.ref b15), .unset, .unset, .unset] [(.int q3), (.int (0 : Int32)), (.ref b15)])) _
      refine XS.iload X15.here hx rfl (dd hy at_48) rfl ?_
      refine XS.lloadN X15.here hx rfl (dd hy at_50) rfl ?_
      refine XS.lloadN X15.here hx rfl (dd hy at_51) rfl ?_
      exact k_)
    by_cases h21 : nn ≤ 0
    · have s22 : ∀ t_, Steps p.tables e below (T15.setTop (mkF m 52 #[.val (.long xl), .second, .val (.long yl), .second, .val (.int mode), .val (.int pos), .val (.int zz), .val (.int (Int32.ofNat nn)), .val (.int q3), .val (.int q10), .val (.ref b15), .unset, .unset, .unset] [(.long yl), (.long xl), (.int q10), (.int q3), (.int (0 : Int32)), (.ref b15)])) t_ → Steps p.tables e below (s₁.setTop (entryFrame m #[(.long xl), (.long yl), (.int mode), (.int pos), (.int zz)] maxLocals)) t_ := fun t_ k_ => s20 t_ (castTop (by rfl) k_)
      have Zc23 : n0 ≤ h15.size := by omega
      obtain ⟨_, _, ⟨T24, L24, k24, n24⟩, -, X24, ⟨Lc24, hQ24, l24, y24, z24⟩, st24⟩ := Jvm.LawKit.callS X15 hx (y := M23_) hown (mvT hZ (own_m hw 1 rfl)) (mvT hZ (own_m hw 2 rfl)) (mvT hZ (own_m hw 3 rfl)) (mvT hZ (own_m hw 4 rfl)) (by decide) (backOf (W := 0) (rmPutN l Z a0 hw [] b15 q3 q10 xl yl k15 ds0 nn 0 h15 n0 Zc23 V17 (by first | assumption | omega | rfl | decide) (by first | assumption | omega | rfl | decide)) hZ (own_m hw 4 rfl) (own_m hw 3 rfl) (by decide) (by decide)) (g := (mkF m 52 #[.val (.long xl), .second, .val (.long yl), .second, .val (.int mode), .val (.int pos), .val (.int zz), .val (.int (Int32.ofNat nn)), .val (.int q3), .val (.int q10), .val (.ref b15), .unset, .unset, .unset] [(.long yl), (.long xl), (.int q10), (.int q3), (.int (0 : Int32)), (.ref b15)])) rfl (by rw [hml]; rfl) (argsL := [(.ref b15), (.int (0 : Int32)), (.int q3), (.int q10), (.long xl), (.long yl)]) (rest := []) (lenOf pd___CIZZJJ_V rfl) rfl (by show 2 * 0 + _ ≤ _; exact Nat.le_of_eq rfl) (dd hy at_52) (fun _ _ => ⟨rfl, e15, (by decide : 1 + 0 ≤ _), (by decide : 15 + 0 ≤ _)⟩)
      dsimp only [Pt.U, Pt.locs, Pt.cells, Pt.slots] at X24 l24 y24 z24 st24 hQ24
      subst l24 y24 z24
      obtain ⟨rfl, N24q, e24⟩ := hQ24
      have N24 := Fr.app N0 N24q
      have s25 : ∀ t_, Steps p.tables e below (T24.setTop (mkF m 55 #[.val (.long xl), .second, .val (.long yl), .second, .val (.int mode), .val (.int pos), .val (.int zz), .val (.int (Int32.ofNat nn)), .val (.int q3), .val (.int q10), .val (.ref b15), .unset, .unset, .unset] [])) t_ → Steps _ _ _ _ t_ := fun t_ k_ => s22 t_ (by
        refine st24 _ ?_
        show Steps _ _ _ (T24.setTop (mkF m 55 #[.val (.long xl), .second, .val (.long yl), .second, .val (.int mode), .val (.int pos), .val (.int zz), .val (.int (Int32.ofNat nn)), .val (.int q3), .val (.int q10), .val (.ref b15), .unset, .unset, .unset] [])) _
        exact k_)
      exact ⟨s.vm, _, T24, _, _, _, X24.more (show 1 ≤ (1 + 2 * 1 + 2 * (min 1 nn - min 1 (nn - 5))) by omega) (by decide), e24, N24, (Keep.refl h15 [b15]), hS, (by first | exact hk | exact Nat.le_refl _ | (rw [← e24]; exact Nat.le_refl _)), hZ, hown, (CHr.refl CR.1), ⟨ds0, rfl, V17, lds0, cds0⟩, s25⟩
    · have s26 : ∀ t_, Steps p.tables e below (T15.setTop (mkF m 52 #[.val (.long xl), .second, .val (.long yl), .second, .val (.int mode), .val (.int pos), .val (.int zz), .val (.int (Int32.ofNat nn)), .val (.int q3), .val (.int q10), .val (.ref b15), .unset, .unset, .unset] [(.long yl), (.long xl), (.int q10), (.int q3), (.int (0 : Int32)), (.ref b15)])) t_ → Steps p.tables e below (s₁.setTop (entryFrame m #[(.long xl), (.long yl), (.int mode), (.int pos), (.int zz)] maxLocals)) t_ := fun t_ k_ => s20 t_ (castTop (by rfl) k_)
      by_cases h27 : 0 + 5 < nn
      · have s28 : ∀ t_, Steps p.tables e below (T15.setTop (mkF m 52 #[.val (.long xl), .second, .val (.long yl), .second, .val (.int mode), .val (.int pos), .val (.int zz), .val (.int (Int32.ofNat nn)), .val (.int q3), .val (.int q10), .val (.ref b15), .unset, .unset, .unset] [(.long yl), (.long xl), (.int q10), (.int q3), (.int (0 : Int32)), (.ref b15)])) t_ → Steps p.tables e below (s₁.setTop (entryFrame m #[(.long xl), (.long yl), (.int mode), (.int pos), (.int zz)] maxLocals)) t_ := fun t_ k_ => s26 t_ (castTop (by rfl) k_)
        have O29 : Old Z n0 h15 := (OX.ext E15)
        have Zc30 : n0 ≤ h15.size := by omega
        obtain ⟨_, _, ⟨T31, L31, k31, n31⟩, -, Xr31, hSr31, hg31, ⟨Lc31, hQ31, l31, y31, z31, Cp31⟩, st31⟩ := callSS X15 hx (y := M23_) hown (mvT hZ (own_m hw 1 rfl)) (mvT hZ (own_m hw 2 rfl)) (mvT hZ (own_m hw 3 rfl)) (mvT hZ (own_m hw 4 rfl)) (by decide) (backOfSH (s := s) (vm0 := s.vm) (W := 0) (rmPutA0 l Z a0 hw [] b15 q3 q10 xl yl cst k15 ds0 nn 0 fmt h15 n0 Zc30 I1 hfmt I5 O29 hcst V17 lds0 (by first | assumption | omega | rfl | decide) (by first | assumption | omega | rfl | decide) cds0 (by first | assumption | omega | rfl | decide) (by first | assumption | omega | rfl | decide) (by first | assumption | omega | rfl | decide)) hZ (own_m hw 4 rfl) (own_m hw 3 rfl) (by decide) (by decide) hEL CR.1) (g := (mkF m 52 #[.val (.long xl), .second, .val (.long yl), .second, .val (.int mode), .val (.int pos), .val (.int zz), .val (.int (Int32.ofNat nn)), .val (.int q3), .val (.int q10), .val (.ref b15), .unset, .unset, .unset] [(.long yl), (.long xl), (.int q10), (.int q3), (.int (0 : Int32)), (.ref b15)])) rfl (by rw [hml]; rfl) (argsL := [(.ref b15), (.int (0 : Int32)), (.int q3), (.int q10), (.long xl), (.long yl)]) (rest := []) (lenOf pd___CIZZJJ_V rfl) rfl (by show 2 * 0 + _ ≤ _; exact Nat.le_of_eq rfl) (dd hy at_52) (fun _ _ => ⟨rfl, e15, (by decide : 1 + 2 ≤ _), (by decide : 15 + 24 ≤ _)⟩)
        dsimp only [Pt.U, Pt.locs, Pt.cells, Pt.slots] at Xr31 hSr31 hg31 l31 y31 z31 st31 hQ31 Cp31
        subst l31 y31 z31
        obtain ⟨X31, hS, hZ, hown⟩ := rebS (own := "io/dyeline/store/LayoutIsDataFilePinLaw") hS (by first | exact Nat.le_refl _ | (rw [e15]; exact hk)) Xr31 hSr31 hg31 hZ hown
        obtain ⟨ds_31, rfl, N31q, K31, Fq31_0, P31_0, P31_1⟩ := hQ31
        have N31 := Fr.app N0 N31q
        obtain ⟨h31, e31⟩ : ∃ z, T31.heap = z := ⟨_, rfl⟩
        rw [e31] at K31 Fq31_0 Cp31
        have hk : T31.heap.size ≤ h31.size := Nat.le_of_eq (congrArg Array.size e31)
        have z32 : h15.size ≤ h31.size := K31.1
        have CR := CR.trans Cp31
        have lt31_0 : @LT.lt Nat _ b15 h31.size := Fq31_0.lt
        have s33 : ∀ t_, Steps p.tables e below (T31.setTop (mkF m 55 #[.val (.long xl), .second, .val (.long yl), .second, .val (.int mode), .val (.int pos), .val (.int zz), .val (.int (Int32.ofNat nn)), .val (.int q3), .val (.int q10), .val (.ref b15), .unset, .unset, .unset] [])) t_ → Steps _ _ _ _ t_ := fun t_ k_ => s28 t_ (by
          refine st31.trans ?_
          show Steps _ _ _ (T31.setTop (mkF m 55 #[.val (.long xl), .second, .val (.long yl), .second, .val (.int mode), .val (.int pos), .val (.int zz), .val (.int (Int32.ofNat nn)), .val (.int q3), .val (.int q10), .val (.ref b15), .unset, .unset, .unset] [])) _
          exact k_)
        exact ⟨T31.vm, _, T31, _, _, _, X31.more (show 3 ≤ (1 + 2 * 1 + 2 * (min 1 nn - min 1 (nn - 5))) by omega) (by decide), e31, N31, ((Keep.refl h15 [b15]).trans K31 (allS (Or.inl (by simp)) all0)), hS, (by first | exact hk | exact Nat.le_refl _ | (rw [← e31]; exact Nat.le_refl _)), hZ, hown, Cp31, ⟨ds_31, rfl, Fq31_0, P31_0, P31_1⟩, s33⟩
      · have s34 : ∀ t_, Steps p.tables e below (T15.setTop (mkF m 52 #[.val (.long xl), .second, .val (.long yl), .second, .val (.int mode), .val (.int pos), .val (.int zz), .val (.int (Int32.ofNat nn)), .val (.int q3), .val (.int q10), .val (.ref b15), .unset, .unset, .unset] [(.long yl), (.long xl), (.int q10), (.int q3), (.int (0 : Int32)), (.ref b15)])) t_ → Steps p.tables e below (s₁.setTop (entryFrame m #[(.long xl), (.long yl), (.int mode), (.int pos), (.int zz)] maxLocals)) t_ := fun t_ k_ => s26 t_ (castTop (by rfl) k_)
        have O35 : Old Z n0 h15 := (OX.ext E15)
        have Zc36 : n0 ≤ h15.size := by omega
        obtain ⟨_, _, ⟨T37, L37, k37, n37⟩, -, Xr37, hSr37, hg37, ⟨Lc37, hQ37, l37, y37, z37, Cp37⟩, st37⟩ := callSS X15 hx (y := M23_) hown (mvT hZ (own_m hw 1 rfl)) (mvT hZ (own_m hw 2 rfl)) (mvT hZ (own_m hw 3 rfl)) (mvT hZ (own_m hw 4 rfl)) (by decide) (backOfSH (s := s) (vm0 := s.vm) (W := 0) (rmPutB0 l Z a0 hw [] b15 q3 q10 xl yl cst k15 ds0 nn 0 fmt h15 n0 Zc36 I1 hfmt I5 O35 hcst V17 lds0 (by first | assumption | omega | rfl | decide) (by first | assumption | omega | rfl | decide) cds0 (by first | assumption | omega | rfl | decide) (by first | assumption | omega | rfl | decide) (by first | assumption | omega | rfl | decide)) hZ (own_m hw 4 rfl) (own_m hw 3 rfl) (by decide) (by decide) hEL CR.1) (g := (mkF m 52 #[.val (.long xl), .second, .val (.long yl), .second, .val (.int mode), .val (.int pos), .val (.int zz), .val (.int (Int32.ofNat nn)), .val (.int q3), .val (.int q10), .val (.ref b15), .unset, .unset, .unset] [(.long yl), (.long xl), (.int q10), (.int q3), (.int (0 : Int32)), (.ref b15)])) rfl (by rw [hml]; rfl) (argsL := [(.ref b15), (.int (0 : Int32)), (.int q3), (.int q10), (.long xl), (.long yl)]) (rest := []) (lenOf pd___CIZZJJ_V rfl) rfl (by show 2 * 0 + _ ≤ _; exact Nat.le_of_eq rfl) (dd hy at_52) (fun _ _ => ⟨rfl, e15, (by decide : 1 + 4 ≤ _), (by decide : 15 + 48 ≤ _)⟩)
        dsimp only [Pt.U, Pt.locs, Pt.cells, Pt.slots] at Xr37 hSr37 hg37 l37 y37 z37 st37 hQ37 Cp37
        subst l37 y37 z37
        obtain ⟨X37, hS, hZ, hown⟩ := rebS (own := "io/dyeline/store/LayoutIsDataFilePinLaw") hS (by first | exact Nat.le_refl _ | (rw [e15]; exact hk)) Xr37 hSr37 hg37 hZ hown
        obtain ⟨ds_37, rfl, N37q, K37, Fq37_0, P37_0, P37_1⟩ := hQ37
        have N37 := Fr.app N0 N37q
        obtain ⟨h37, e37⟩ : ∃ z, T37.heap = z := ⟨_, rfl⟩
        rw [e37] at K37 Fq37_0 Cp37
        have hk : T37.heap.size ≤ h37.size := Nat.le_of_eq (congrArg Array.size e37)
        have z38 : h15.size ≤ h37.size := K37.1
        have CR := CR.trans Cp37
        have lt37_0 : @LT.lt Nat _ b15 h37.size := Fq37_0.lt
        have s39 : ∀ t_, Steps p.tables e below (T37.setTop (mkF m 55 #[.val (.long xl), .second, .val (.long yl), .second, .val (.int mode), .val (.int pos), .val (.int zz), .val (.int (Int32.ofNat nn)), .val (.int q3), .val (.int q10), .val (.ref b15), .unset, .unset, .unset] [])) t_ → Steps _ _ _ _ t_ := fun t_ k_ => s34 t_ (by
          refine st37.trans ?_
          show Steps _ _ _ (T37.setTop (mkF m 55 #[.val (.long xl), .second, .val (.long yl), .second, .val (.int mode), .val (.int pos), .val (.int zz), .val (.int (Int32.ofNat nn)), .val (.int q3), .val (.int q10), .val (.ref b15), .unset, .unset, .unset] [])) _
          exact k_)
        exact ⟨T37.vm, _, T37, _, _, _, X37.more (show 5 ≤ (1 + 2 * 1 + 2 * (min 1 nn - min 1 (nn - 5))) by omega) (by decide), e37, N37, ((Keep.refl h15 [b15]).trans K37 (allS (Or.inl (by simp)) all0)), hS, (by first | exact hk | exact Nat.le_refl _ | (rw [← e37]; exact Nat.le_refl _)), hZ, hown, Cp37, ⟨ds_37, rfl, Fq37_0, P37_0, P37_1⟩, s39⟩
  clear hk
  obtain ⟨V40, k40, T40, lo40, h40, fe40, X40, e40, N40, K40, hS, hk, hZ, hown, Cp40, A40, st40⟩ := bk19
  have z41 : h15.size ≤ h40.size := K40.1
  have CR := CR.trans Cp40
  obtain ⟨ds_40, rfl, G40_0, J40_0, J40_1⟩ := A40
  have s42 : ∀ t_, Steps p.tables e below (T40.setTop (mkF m 55 #[.val (.long xl), .second, .val (.long yl), .second, .val (.int mode), .val (.int pos), .val (.int zz), .val (.int (Int32.ofNat nn)), .val (.int q3), .val (.int q10), .val (.ref b15), .unset, .unset, .unset] [])) t_ → Steps p.tables e below (s₁.setTop (entryFrame m #[(.long xl), (.long yl), (.int mode), (.int pos), (.int zz)] maxLocals)) t_ := st40
  have lt40_0 : @LT.lt Nat _ b15 h40.size := G40_0.lt
  have zz40 : h15.size ≤ h40.size := z41
  have O43 : Old Z n0 h40 := ((OX.ext E15).keep K40 (allS (show n0 ≤ b15 by omega) all0))
  clear z41
  have bk44 : ∃ (V' : Vm) (k' : Nat) (T' : State) (lo' : List Loc) (hx_ : Heap) (fe_ : JFrame), Stand p l e room_1 (s.setVm V') m #[(.long xl), (.long yl), (.int mode), (.int pos), (.int zz)] below meth c T' lo' (1 + 2 * 2 + 2 * (min 2 nn - min 2 (nn - 5))) 111 ∧ T'.heap = hx_ ∧ Fr n0 lo' ∧ Keep h40 hx_ [b15] ∧ s.Since V' k' ∧ k' ≤ hx_.size ∧ Z.Warmed39 (s.setVm V').vm ∧ (s.setVm V').vm.findClass "io/dyeline/store/LayoutIsDataFilePinLaw" = some m.cls ∧ CHr Z ELs V40 h40 V' hx_ ∧ ((∃ (ds : List Int32), fe_ = (mkF m 67 #[.val (.long xl), .second, .val (.long yl), .second, .val (.int mode), .val (.int pos), .val (.int zz), .val (.int (Int32.ofNat nn)), .val (.int q3), .val (.int q10), .val (.ref b15), .unset, .unset, .unset] []) ∧ Arv Z hx_ b15 k15 .char (Int32.ofNat nn) (ds.map Value.int) v0_ ∧ (ds.length = nn) ∧ (own_chs ds))) ∧ ∀ t_, Steps p.tables e below (T'.setTop fe_) t_ → Steps p.tables e below (s₁.setTop (entryFrame m #[(.long xl), (.long yl), (.int mode), (.int pos), (.int zz)] maxLocals)) t_ := by
    have s45 : ∀ t_, Steps p.tables e below (T40.setTop (mkF m 64 #[.val (.long xl), .second, .val (.long yl), .second, .val (.int mode), .val (.int pos), .val (.int zz), .val (.int (Int32.ofNat nn)), .val (.int q3), .val (.int q10), .val (.ref b15), .unset, .unset, .unset] [(.long yl), (.long xl), (.int q10), (.int q3), (.int (1 : Int32)), (.ref b15)])) t_ → Steps _ _ _ _ t_ := fun t_ k_ => s42 t_ (by
      refine XS.aload X40.here hx rfl (dd hy at_55) rfl rfl ?_
      refine XS.iconst X40.here hx rfl (dd hy at_57) ?_
      refine XS.iload X40.here hx rfl (dd hy at_58) rfl ?_
      show Steps _ _ _ (T40.setTop (mkF m 60 #[.val (.long xl), .second, .val (.long yl), .second, .val (.int mode), .val (.int pos), .val (.int zz), .val (.int (Int32.ofNat nn)), .val (.int q3), .val (.int q10), .val (.ref b15), .unset, .unset, .unset] [(.int q3), (.int (1 : Int32)), (.ref b15)])) _
      refine XS.iload X40.here hx rfl (dd hy at_60) rfl ?_
      refine XS.lloadN X40.here hx rfl (dd hy at_62) rfl ?_
      refine XS.lloadN X40.here hx rfl (dd hy at_63) rfl ?_
      exact k_)
    by_cases h46 : nn ≤ 1
    · have s47 : ∀ t_, Steps p.tables e below (T40.setTop (mkF m 64 #[.val (.long xl), .second, .val (.long yl), .second, .val (.int mode), .val (.int pos), .val (.int zz), .val (.int (Int32.ofNat nn)), .val (.int q3), .val (.int q10), .val (.ref b15), .unset, .unset, .unset] [(.long yl), (.long xl), (.int q10), (.int q3), (.int (1 : Int32)), (.ref b15)])) t_ → Steps p.tables e below (s₁.setTop (entryFrame m #[(.long xl), (.long yl), (.int mode), (.int pos), (.int zz)] maxLocals)) t_ := fun t_ k_ => s45 t_ (castTop (by rfl) k_)
      have Zc48 : n0 ≤ h40.size := by omega
      obtain ⟨_, _, ⟨T49, L49, k49, n49⟩, -, X49, ⟨Lc49, hQ49, l49, y49, z49⟩, st49⟩ := Jvm.LawKit.callS X40 hx (y := M23_) hown (mvT hZ (own_m hw 1 rfl)) (mvT hZ (own_m hw 2 rfl)) (mvT hZ (own_m hw 3 rfl)) (mvT hZ (own_m hw 4 rfl)) (by decide) (backOf (W := 0) (rmPutN l Z a0 hw [] b15 q3 q10 xl yl k15 ds_40 nn 1 h40 n0 Zc48 G40_0 (by first | assumption | omega | rfl | decide) (by first | assumption | omega | rfl | decide)) hZ (own_m hw 4 rfl) (own_m hw 3 rfl) (by decide) (by decide)) (g := (mkF m 64 #[.val (.long xl), .second, .val (.long yl), .second, .val (.int mode), .val (.int pos), .val (.int zz), .val (.int (Int32.ofNat nn)), .val (.int q3), .val (.int q10), .val (.ref b15), .unset, .unset, .unset] [(.long yl), (.long xl), (.int q10), (.int q3), (.int (1 : Int32)), (.ref b15)])) rfl (by rw [hml]; rfl) (argsL := [(.ref b15), (.int (1 : Int32)), (.int q3), (.int q10), (.long xl), (.long yl)]) (rest := []) (lenOf pd___CIZZJJ_V rfl) rfl (by show 2 * 0 + _ ≤ _; exact Nat.le_of_eq rfl) (dd hy at_64) (fun _ _ => ⟨rfl, e40, (show (1 + 2 * 1 + 2 * (min 1 nn - min 1 (nn - 5))) + 0 ≤ 32 by omega), (by decide : 63 + 0 ≤ _)⟩)
      dsimp only [Pt.U, Pt.locs, Pt.cells, Pt.slots] at X49 l49 y49 z49 st49 hQ49
      subst l49 y49 z49
      obtain ⟨rfl, N49q, e49⟩ := hQ49
      have N49 := Fr.app N40 N49q
      have s50 : ∀ t_, Steps p.tables e below (T49.setTop (mkF m 67 #[.val (.long xl), .second, .val (.long yl), .second, .val (.int mode), .val (.int pos), .val (.int zz), .val (.int (Int32.ofNat nn)), .val (.int q3), .val (.int q10), .val (.ref b15), .unset, .unset, .unset] [])) t_ → Steps _ _ _ _ t_ := fun t_ k_ => s47 t_ (by
        refine st49 _ ?_
        show Steps _ _ _ (T49.setTop (mkF m 67 #[.val (.long xl), .second, .val (.long yl), .second, .val (.int mode), .val (.int pos), .val (.int zz), .val (.int (Int32.ofNat nn)), .val (.int q3), .val (.int q10), .val (.ref b15), .unset, .unset, .unset] [])) _
        exact k_)
      exact ⟨V40, _, T49, _, _, _, X49.more (show (1 + 2 * 1 + 2 * (min 1 nn - min 1 (nn - 5))) + 0 ≤ (1 + 2 * 2 + 2 * (min 2 nn - min 2 (nn - 5))) by omega) (by decide), e49, N49, (Keep.refl h40 [b15]), hS, (by first | exact hk | exact Nat.le_refl _ | (rw [← e49]; exact Nat.le_refl _)), hZ, hown, (CHr.refl CR.1), ⟨ds_40, rfl, G40_0, J40_0, J40_1⟩, s50⟩
    · have s51 : ∀ t_, Steps p.tables e below (T40.setTop (mkF m 64 #[.val (.long xl), .second, .val (.long yl), .second, .val (.int mode), .val (.int pos), .val (.int zz), .val (.int (Int32.ofNat nn)), .val (.int q3), .val (.int q10), .val (.ref b15), .unset, .unset, .unset] [(.long yl), (.long xl), (.int q10), (.int q3), (.int (1 : Int32)), (.ref b15)])) t_ → Steps p.tables e below (s₁.setTop (entryFrame m #[(.long xl), (.long yl), (.int mode), (.int pos), (.int zz)] maxLocals)) t_ := fun t_ k_ => s45 t_ (castTop (by rfl) k_)
      by_cases h52 : 1 + 5 < nn
      · have s53 : ∀ t_, Steps p.tables e below (T40.setTop (mkF m 64 #[.val (.long xl), .second, .val (.long yl), .second, .val (.int mode), .val (.int pos), .val (.int zz), .val (.int (Int32.ofNat nn)), .val (.int q3), .val (.int q10), .val (.ref b15), .unset, .unset, .unset] [(.long yl), (.long xl), (.int q10), (.int q3), (.int (1 : Int32)), (.ref b15)])) t_ → Steps p.tables e below (s₁.setTop (entryFrame m #[(.long xl), (.long yl), (.int mode), (.int pos), (.int zz)] maxLocals)) t_ := fun t_ k_ => s51 t_ (castTop (by rfl) k_)
        have Zc54 : n0 ≤ h40.size := by omega
        obtain ⟨_, _, ⟨T55, L55, k55, n55⟩, -, Xr55, hSr55, hg55, ⟨Lc55, hQ55, l55, y55, z55, Cp55⟩, st55⟩ := callSS X40 hx (y := M23_) hown (mvT hZ (own_m hw 1 rfl)) (mvT hZ (own_m hw 2 rfl)) (mvT hZ (own_m hw 3 rfl)) (mvT hZ (own_m hw 4 rfl)) (by decide) (backOfSH (s := s) (vm0 := V40) (W := 0) (rmPutA0 l Z a0 hw [] b15 q3 q10 xl yl cst k15 ds_40 nn 1 fmt h40 n0 Zc54 I1 hfmt I5 O43 hcst G40_0 J40_0 (by first | assumption | omega | rfl | decide) (by first | assumption | omega | rfl | decide) J40_1 (by first | assumption | omega | rfl | decide) (by first | assumption | omega | rfl | decide) (by first | assumption | omega | rfl | decide)) hZ (own_m hw 4 rfl) (own_m hw 3 rfl) (by decide) (by decide) hEL CR.1) (g := (mkF m 64 #[.val (.long xl), .second, .val (.long yl), .second, .val (.int mode), .val (.int pos), .val (.int zz), .val (.int (Int32.ofNat nn)), .val (.int q3), .val (.int q10), .val (.ref b15), .unset, .unset, .unset] [(.long yl), (.long xl), (.int q10), (.int q3), (.int (1 : Int32)), (.ref b15)])) rfl (by rw [hml]; rfl) (argsL := [(.ref b15), (.int (1 : Int32)), (.int q3), (.int q10), (.long xl), (.long yl)]) (rest := []) (lenOf pd___CIZZJJ_V rfl) rfl (by show 2 * 0 + _ ≤ _; exact Nat.le_of_eq rfl) (dd hy at_64) (fun _ _ => ⟨rfl, e40, (show (1 + 2 * 1 + 2 * (min 1 nn - min 1 (nn - 5))) + 2 ≤ 32 by omega), (by decide : 63 + 24 ≤ _)⟩)
        dsimp only [Pt.U, Pt.locs, Pt.cells, Pt.slots] at Xr55 hSr55 hg55 l55 y55 z55 st55 hQ55 Cp55
        subst l55 y55 z55
        obtain ⟨X55, hS, hZ, hown⟩ := rebS (own := "io/dyeline/store/LayoutIsDataFilePinLaw") hS (by first | exact Nat.le_refl _ | (rw [e40]; exact hk)) Xr55 hSr55 hg55 hZ hown
        obtain ⟨ds_55, rfl, N55q, K55, Fq55_0, P55_0, P55_1⟩ := hQ55
        have N55 := Fr.app N40 N55q
        obtain ⟨h55, e55⟩ : ∃ z, T55.heap = z := ⟨_, rfl⟩
        rw [e55] at K55 Fq55_0 Cp55
        have hk : T55.heap.size ≤ h55.size := Nat.le_of_eq (congrArg Array.size e55)
        have z56 : h40.size ≤ h55.size := K55.1
        have CR := CR.trans Cp55
        have lt55_0 : @LT.lt Nat _ b15 h55.size := Fq55_0.lt
        have s57 : ∀ t_, Steps p.tables e below (T55.setTop (mkF m 67 #[.val (.long xl), .second, .val (.long yl), .second, .val (.int mode), .val (.int pos), .val (.int zz), .val (.int (Int32.ofNat nn)), .val (.int q3), .val (.int q10), .val (.ref b15), .unset, .unset, .unset] [])) t_ → Steps _ _ _ _ t_ := fun t_ k_ => s53 t_ (by
          refine st55.trans ?_
          show Steps _ _ _ (T55.setTop (mkF m 67 #[.val (.long xl), .second, .val (.long yl), .second, .val (.int mode), .val (.int pos), .val (.int zz), .val (.int (Int32.ofNat nn)), .val (.int q3), .val (.int q10), .val (.ref b15), .unset, .unset, .unset] [])) _
          exact k_)
        exact ⟨T55.vm, _, T55, _, _, _, X55.more (show (1 + 2 * 1 + 2 * (min 1 nn - min 1 (nn - 5))) + 2 ≤ (1 + 2 * 2 + 2 * (min 2 nn - min 2 (nn - 5))) by omega) (by decide), e55, N55, ((Keep.refl h40 [b15]).trans K55 (allS (Or.inl (by simp)) all0)), hS, (by first | exact hk | exact Nat.le_refl _ | (rw [← e55]; exact Nat.le_refl _)), hZ, hown, Cp55, ⟨ds_55, rfl, Fq55_0, P55_0, P55_1⟩, s57⟩
      · have s58 : ∀ t_, Steps p.tables e below (T40.setTop (mkF m 64 #[.val (.long xl), .second, .val (.long yl), .second, .val (.int mode), .val (.int pos), .val (.int zz), .val (.int (Int32.ofNat nn)), .val (.int q3), .val (.int q10), .val (.ref b15), .unset, .unset, .unset] [(.long yl), (.long xl), (.int q10), (.int q3), (.int (1 : Int32)), (.ref b15)])) t_ → Steps p.tables e below (s₁.setTop (entryFrame m #[(.long xl), (.long yl), (.int mode), (.int pos), (.int zz)] maxLocals)) t_ := fun t_ k_ => s51 t_ (castTop (by rfl) k_)
        have Zc59 : n0 ≤ h40.size := by omega
        obtain ⟨_, _, ⟨T60, L60, k60, n60⟩, -, Xr60, hSr60, hg60, ⟨Lc60, hQ60, l60, y60, z60, Cp60⟩, st60⟩ := callSS X40 hx (y := M23_) hown (mvT hZ (own_m hw 1 rfl)) (mvT hZ (own_m hw 2 rfl)) (mvT hZ (own_m hw 3 rfl)) (mvT hZ (own_m hw 4 rfl)) (by decide) (backOfSH (s := s) (vm0 := V40) (W := 0) (rmPutB0 l Z a0 hw [] b15 q3 q10 xl yl cst k15 ds_40 nn 1 fmt h40 n0 Zc59 I1 hfmt I5 O43 hcst G40_0 J40_0 (by first | assumption | omega | rfl | decide) (by first | assumption | omega | rfl | decide) J40_1 (by first | assumption | omega | rfl | decide) (by first | assumption | omega | rfl | decide) (by first | assumption | omega | rfl | decide)) hZ (own_m hw 4 rfl) (own_m hw 3 rfl) (by decide) (by decide) hEL CR.1) (g := (mkF m 64 #[.val (.long xl), .second, .val (.long yl), .second, .val (.int mode), .val (.int pos), .val (.int zz), .val (.int (Int32.ofNat nn)), .val (.int q3), .val (.int q10), .val (.ref b15), .unset, .unset, .unset] [(.long yl), (.long xl), (.int q10), (.int q3), (.int (1 : Int32)), (.ref b15)])) rfl (by rw [hml]; rfl) (argsL := [(.ref b15), (.int (1 : Int32)), (.int q3), (.int q10), (.long xl), (.long yl)]) (rest := []) (lenOf pd___CIZZJJ_V rfl) rfl (by show 2 * 0 + _ ≤ _; exact Nat.le_of_eq rfl) (dd hy at_64) (fun _ _ => ⟨rfl, e40, (show (1 + 2 * 1 + 2 * (min 1 nn - min 1 (nn - 5))) + 4 ≤ 32 by omega), (by decide : 63 + 48 ≤ _)⟩)
        dsimp only [Pt.U, Pt.locs, Pt.cells, Pt.slots] at Xr60 hSr60 hg60 l60 y60 z60 st60 hQ60 Cp60
        subst l60 y60 z60
        obtain ⟨X60, hS, hZ, hown⟩ := rebS (own := "io/dyeline/store/LayoutIsDataFilePinLaw") hS (by first | exact Nat.le_refl _ | (rw [e40]; exact hk)) Xr60 hSr60 hg60 hZ hown
        obtain ⟨ds_60, rfl, N60q, K60, Fq60_0, P60_0, P60_1⟩ := hQ60
        have N60 := Fr.app N40 N60q
        obtain ⟨h60, e60⟩ : ∃ z, T60.heap = z := ⟨_, rfl⟩
        rw [e60] at K60 Fq60_0 Cp60
        have hk : T60.heap.size ≤ h60.size := Nat.le_of_eq (congrArg Array.size e60)
        have z61 : h40.size ≤ h60.size := K60.1
        have CR := CR.trans Cp60
        have lt60_0 : @LT.lt Nat _ b15 h60.size := Fq60_0.lt
        have s62 : ∀ t_, Steps p.tables e below (T60.setTop (mkF m 67 #[.val (.long xl), .second, .val (.long yl), .second, .val (.int mode), .val (.int pos), .val (.int zz), .val (.int (Int32.ofNat nn)), .val (.int q3), .val (.int q10), .val (.ref b15), .unset, .unset, .unset] [])) t_ → Steps _ _ _ _ t_ := fun t_ k_ => s58 t_ (by
          refine st60.trans ?_
          show Steps _ _ _ (T60.setTop (mkF m 67 #[.val (.long xl), .second, .val (.long yl), .second, .val (.int mode), .val (.int pos), .val (.int zz), .val (.int (Int32.ofNat nn)), .val (.int q3), .val (.int q10), .val (.ref b15), .unset, .unset, .unset] [])) _
          exact k_)
        exact ⟨T60.vm, _, T60, _, _, _, X60.more (show (1 + 2 * 1 + 2 * (min 1 nn - min 1 (nn - 5))) + 4 ≤ (1 + 2 * 2 + 2 * (min 2 nn - min 2 (nn - 5))) by omega) (by decide), e60, N60, ((Keep.refl h40 [b15]).trans K60 (allS (Or.inl (by simp)) all0)), hS, (by first | exact hk | exact Nat.le_refl _ | (rw [← e60]; exact Nat.le_refl _)), hZ, hown, Cp60, ⟨ds_60, rfl, Fq60_0, P60_0, P60_1⟩, s62⟩
  clear hk
  obtain ⟨V63, k63, T63, lo63, h63, fe63, X63, e63, N63, K63, hS, hk, hZ, hown, Cp63, A63, st63⟩ := bk44
  have z64 : h40.size ≤ h63.size := K63.1
  have CR := CR.trans Cp63
  obtain ⟨ds_63, rfl, G63_0, J63_0, J63_1⟩ := A63
  have s65 : ∀ t_, Steps p.tables e below (T63.setTop (mkF m 67 #[.val (.long xl), .second, .val (.long yl), .second, .val (.int mode), .val (.int pos), .val (.int zz), .val (.int (Int32.ofNat nn)), .val (.int q3), .val (.int q10), .val (.ref b15), .unset, .unset, .unset] [])) t_ → Steps p.tables e below (s₁.setTop (entryFrame m #[(.long xl), (.long yl), (.int mode), (.int pos), (.int zz)] maxLocals)) t_ := st63
  have lt63_0 : @LT.lt Nat _ b15 h63.size := G63_0.lt
  have zz63 : h15.size ≤ h63.size := Nat.le_trans zz40 z64
  have O66 : Old Z n0 h63 := (O43.keep K63 (allS (show n0 ≤ b15 by omega) all0))
  clear z64 zz40 lt40_0 J40_0 J40_1
  have bk67 : ∃ (V' : Vm) (k' : Nat) (T' : State) (lo' : List Loc) (hx_ : Heap) (fe_ : JFrame), Stand p l e room_1 (s.setVm V') m #[(.long xl), (.long yl), (.int mode), (.int pos), (.int zz)] below meth c T' lo' (1 + 2 * 3 + 2 * (min 3 nn - min 3 (nn - 5))) 159 ∧ T'.heap = hx_ ∧ Fr n0 lo' ∧ Keep h63 hx_ [b15] ∧ s.Since V' k' ∧ k' ≤ hx_.size ∧ Z.Warmed39 (s.setVm V').vm ∧ (s.setVm V').vm.findClass "io/dyeline/store/LayoutIsDataFilePinLaw" = some m.cls ∧ CHr Z ELs V63 h63 V' hx_ ∧ ((∃ (ds : List Int32), fe_ = (mkF m 79 #[.val (.long xl), .second, .val (.long yl), .second, .val (.int mode), .val (.int pos), .val (.int zz), .val (.int (Int32.ofNat nn)), .val (.int q3), .val (.int q10), .val (.ref b15), .unset, .unset, .unset] []) ∧ Arv Z hx_ b15 k15 .char (Int32.ofNat nn) (ds.map Value.int) v0_ ∧ (ds.length = nn) ∧ (own_chs ds))) ∧ ∀ t_, Steps p.tables e below (T'.setTop fe_) t_ → Steps p.tables e below (s₁.setTop (entryFrame m #[(.long xl), (.long yl), (.int mode), (.int pos), (.int zz)] maxLocals)) t_ := by
    have s68 : ∀ t_, Steps p.tables e below (T63.setTop (mkF m 76 #[.val (.long xl), .second, .val (.long yl), .second, .val (.int mode), .val (.int pos), .val (.int zz), .val (.int (Int32.ofNat nn)), .val (.int q3), .val (.int q10), .val (.ref b15), .unset, .unset, .unset] [(.long yl), (.long xl), (.int q10), (.int q3), (.int (2 : Int32)), (.ref b15)])) t_ → Steps _ _ _ _ t_ := fun t_ k_ => s65 t_ (by
      refine XS.aload X63.here hx rfl (dd hy at_67) rfl rfl ?_
      refine XS.iconst X63.here hx rfl (dd hy at_69) ?_
      refine XS.iload X63.here hx rfl (dd hy at_70) rfl ?_
      show Steps _ _ _ (T63.setTop (mkF m 72 #[.val (.long xl), .second, .val (.long yl), .second, .val (.int mode), .val (.int pos), .val (.int zz), .val (.int (Int32.ofNat nn)), .val (.int q3), .val (.int q10), .val (.ref b15), .unset, .unset, .unset] [(.int q3), (.int (2 : Int32)), (.ref b15)])) _
      refine XS.iload X63.here hx rfl (dd hy at_72) rfl ?_
      refine XS.lloadN X63.here hx rfl (dd hy at_74) rfl ?_
      refine XS.lloadN X63.here hx rfl (dd hy at_75) rfl ?_
      exact k_)
    by_cases h69 : nn ≤ 2
    · have s70 : ∀ t_, Steps p.tables e below (T63.setTop (mkF m 76 #[.val (.long xl), .second, .val (.long yl), .second, .val (.int mode), .val (.int pos), .val (.int zz), .val (.int (Int32.ofNat nn)), .val (.int q3), .val (.int q10), .val (.ref b15), .unset, .unset, .unset] [(.long yl), (.long xl), (.int q10), (.int q3), (.int (2 : Int32)), (.ref b15)])) t_ → Steps p.tables e below (s₁.setTop (entryFrame m #[(.long xl), (.long yl), (.int mode), (.int pos), (.int zz)] maxLocals)) t_ := fun t_ k_ => s68 t_ (castTop (by rfl) k_)
      have Zc71 : n0 ≤ h63.size := by omega
      obtain ⟨_, _, ⟨T72, L72, k72, n72⟩, -, X72, ⟨Lc72, hQ72, l72, y72, z72⟩, st72⟩ := Jvm.LawKit.callS X63 hx (y := M23_) hown (mvT hZ (own_m hw 1 rfl)) (mvT hZ (own_m hw 2 rfl)) (mvT hZ (own_m hw 3 rfl)) (mvT hZ (own_m hw 4 rfl)) (by decide) (backOf (W := 0) (rmPutN l Z a0 hw [] b15 q3 q10 xl yl k15 ds_63 nn 2 h63 n0 Zc71 G63_0 (by first | assumption | omega | rfl | decide) (by first | assumption | omega | rfl | decide)) hZ (own_m hw 4 rfl) (own_m hw 3 rfl) (by decide) (by decide)) (g := (mkF m 76 #[.val (.long xl), .second, .val (.long yl), .second, .val (.int mode), .val (.int pos), .val (.int zz), .val (.int (Int32.ofNat nn)), .val (.int q3), .val (.int q10), .val (.ref b15), .unset, .unset, .unset] [(.long yl), (.long xl), (.int q10), (.int q3), (.int (2 : Int32)), (.ref b15)])) rfl (by rw [hml]; rfl) (argsL := [(.ref b15), (.int (2 : Int32)), (.int q3), (.int q10), (.long xl), (.long yl)]) (rest := []) (lenOf pd___CIZZJJ_V rfl) rfl (by show 2 * 0 + _ ≤ _; exact Nat.le_of_eq rfl) (dd hy at_76) (fun _ _ => ⟨rfl, e63, (show (1 + 2 * 2 + 2 * (min 2 nn - min 2 (nn - 5))) + 0 ≤ 32 by omega), (by decide : 111 + 0 ≤ _)⟩)
      dsimp only [Pt.U, Pt.locs, Pt.cells, Pt.slots] at X72 l72 y72 z72 st72 hQ72
      subst l72 y72 z72
      obtain ⟨rfl, N72q, e72⟩ := hQ72
      have N72 := Fr.app N63 N72q
      have s73 : ∀ t_, Steps p.tables e below (T72.setTop (mkF m 79 #[.val (.long xl), .second, .val (.long yl), .second, .val (.int mode), .val (.int pos), .val (.int zz), .val (.int (Int32.ofNat nn)), .val (.int q3), .val (.int q10), .val (.ref b15), .unset, .unset, .unset] [])) t_ → Steps _ _ _ _ t_ := fun t_ k_ => s70 t_ (by
        refine st72 _ ?_
        show Steps _ _ _ (T72.setTop (mkF m 79 #[.val (.long xl), .second, .val (.long yl), .second, .val (.int mode), .val (.int pos), .val (.int zz), .val (.int (Int32.ofNat nn)), .val (.int q3), .val (.int q10), .val (.ref b15), .unset, .unset, .unset] [])) _
        exact k_)
      exact ⟨V63, _, T72, _, _, _, X72.more (show (1 + 2 * 2 + 2 * (min 2 nn - min 2 (nn - 5))) + 0 ≤ (1 + 2 * 3 + 2 * (min 3 nn - min 3 (nn - 5))) by omega) (by decide), e72, N72, (Keep.refl h63 [b15]), hS, (by first | exact hk | exact Nat.le_refl _ | (rw [← e72]; exact Nat.le_refl _)), hZ, hown, (CHr.refl CR.1), ⟨ds_63, rfl, G63_0, J63_0, J63_1⟩, s73⟩
    · have s74 : ∀ t_, Steps p.tables e below (T63.setTop (mkF m 76 #[.val (.long xl), .second, .val (.long yl), .second, .val (.int mode), .val (.int pos), .val (.int zz), .val (.int (Int32.ofNat nn)), .val (.int q3), .val (.int q10), .val (.ref b15), .unset, .unset, .unset] [(.long yl), (.long xl), (.int q10), (.int q3), (.int (2 : Int32)), (.ref b15)])) t_ → Steps p.tables e below (s₁.setTop (entryFrame m #[(.long xl), (.long yl), (.int mode), (.int pos), (.int zz)] maxLocals)) t_ := fun t_ k_ => s68 t_ (castTop (by rfl) k_)
      by_cases h75 : 2 + 5 < nn
      · have s76 : ∀ t_, Steps p.tables e below (T63.setTop (mkF m 76 #[.val (.long xl), .second, .val (.long yl), .second, .val (.int mode), .val (.int pos), .val (.int zz), .val (.int (Int32.ofNat nn)), .val (.int q3), .val (.int q10), .val (.ref b15), .unset, .unset, .unset] [(.long yl), (.long xl), (.int q10), (.int q3), (.int (2 : Int32)), (.ref b15)])) t_ → Steps p.tables e below (s₁.setTop (entryFrame m #[(.long xl), (.long yl), (.int mode), (.int pos), (.int zz)] maxLocals)) t_ := fun t_ k_ => s74 t_ (castTop (by rfl) k_)
        have Zc77 : n0 ≤ h63.size := by omega
        obtain ⟨_, _, ⟨T78, L78, k78, n78⟩, -, Xr78, hSr78, hg78, ⟨Lc78, hQ78, l78, y78, z78, Cp78⟩, st78⟩ := callSS X63 hx (y := M23_) hown (mvT hZ (own_m hw 1 rfl)) (mvT hZ (own_m hw 2 rfl)) (mvT hZ (own_m hw 3 rfl)) (mvT hZ (own_m hw 4 rfl)) (by decide) (backOfSH (s := s) (vm0 := V63) (W := 0) (rmPutA0 l Z a0 hw [] b15 q3 q10 xl yl cst k15 ds_63 nn 2 fmt h63 n0 Zc77 I1 hfmt I5 O66 hcst G63_0 J63_0 (by first | assumption | omega | rfl | decide) (by first | assumption | omega | rfl | decide) J63_1 (by first | assumption | omega | rfl | decide) (by first | assumption | omega | rfl | decide) (by first | assumption | omega | rfl | decide)) hZ (own_m hw 4 rfl) (own_m hw 3 rfl) (by decide) (by decide) hEL CR.1) (g := (mkF m 76 #[.val (.long xl), .second, .val (.long yl), .second, .val (.int mode), .val (.int pos), .val (.int zz), .val (.int (Int32.ofNat nn)), .val (.int q3), .val (.int q10), .val (.ref b15), .unset, .unset, .unset] [(.long yl), (.long xl), (.int q10), (.int q3), (.int (2 : Int32)), (.ref b15)])) rfl (by rw [hml]; rfl) (argsL := [(.ref b15), (.int (2 : Int32)), (.int q3), (.int q10), (.long xl), (.long yl)]) (rest := []) (lenOf pd___CIZZJJ_V rfl) rfl (by show 2 * 0 + _ ≤ _; exact Nat.le_of_eq rfl) (dd hy at_76) (fun _ _ => ⟨rfl, e63, (show (1 + 2 * 2 + 2 * (min 2 nn - min 2 (nn - 5))) + 2 ≤ 32 by omega), (by decide : 111 + 24 ≤ _)⟩)
        dsimp only [Pt.U, Pt.locs, Pt.cells, Pt.slots] at Xr78 hSr78 hg78 l78 y78 z78 st78 hQ78 Cp78
        subst l78 y78 z78
        obtain ⟨X78, hS, hZ, hown⟩ := rebS (own := "io/dyeline/store/LayoutIsDataFilePinLaw") hS (by first | exact Nat.le_refl _ | (rw [e63]; exact hk)) Xr78 hSr78 hg78 hZ hown
        obtain ⟨ds_78, rfl, N78q, K78, Fq78_0, P78_0, P78_1⟩ := hQ78
        have N78 := Fr.app N63 N78q
        obtain ⟨h78, e78⟩ : ∃ z, T78.heap = z := ⟨_, rfl⟩
        rw [e78] at K78 Fq78_0 Cp78
        have hk : T78.heap.size ≤ h78.size := Nat.le_of_eq (congrArg Array.size e78)
        have z79 : h63.size ≤ h78.size := K78.1
        have CR := CR.trans Cp78
        have lt78_0 : @LT.lt Nat _ b15 h78.size := Fq78_0.lt
        have s80 : ∀ t_, Steps p.tables e below (T78.setTop (mkF m 79 #[.val (.long xl), .second, .val (.long yl), .second, .val (.int mode), .val (.int pos), .val (.int zz), .val (.int (Int32.ofNat nn)), .val (.int q3), .val (.int q10), .val (.ref b15), .unset, .unset, .unset] [])) t_ → Steps _ _ _ _ t_ := fun t_ k_ => s76 t_ (by
          refine st78.trans ?_
          show Steps _ _ _ (T78.setTop (mkF m 79 #[.val (.long xl), .second, .val (.long yl), .second, .val (.int mode), .val (.int pos), .val (.int zz), .val (.int (Int32.ofNat nn)), .val (.int q3), .val (.int q10), .val (.ref b15), .unset, .unset, .unset] [])) _
          exact k_)
        exact ⟨T78.vm, _, T78, _, _, _, X78.more (show (1 + 2 * 2 + 2 * (min 2 nn - min 2 (nn - 5))) + 2 ≤ (1 + 2 * 3 + 2 * (min 3 nn - min 3 (nn - 5))) by omega) (by decide), e78, N78, ((Keep.refl h63 [b15]).trans K78 (allS (Or.inl (by simp)) all0)), hS, (by first | exact hk | exact Nat.le_refl _ | (rw [← e78]; exact Nat.le_refl _)), hZ, hown, Cp78, ⟨ds_78, rfl, Fq78_0, P78_0, P78_1⟩, s80⟩
      · have s81 : ∀ t_, Steps p.tables e below (T63.setTop (mkF m 76 #[.val (.long xl), .second, .val (.long yl), .second, .val (.int mode), .val (.int pos), .val (.int zz), .val (.int (Int32.ofNat nn)), .val (.int q3), .val (.int q10), .val (.ref b15), .unset, .unset, .unset] [(.long yl), (.long xl), (.int q10), (.int q3), (.int (2 : Int32)), (.ref b15)])) t_ → Steps p.tables e below (s₁.setTop (entryFrame m #[(.long xl), (.long yl), (.int mode), (.int pos), (.int zz)] maxLocals)) t_ := fun t_ k_ => s74 t_ (castTop (by rfl) k_)
        have Zc82 : n0 ≤ h63.size := by omega
        obtain ⟨_, _, ⟨T83, L83, k83, n83⟩, -, Xr83, hSr83, hg83, ⟨Lc83, hQ83, l83, y83, z83, Cp83⟩, st83⟩ := callSS X63 hx (y := M23_) hown (mvT hZ (own_m hw 1 rfl)) (mvT hZ (own_m hw 2 rfl)) (mvT hZ (own_m hw 3 rfl)) (mvT hZ (own_m hw 4 rfl)) (by decide) (backOfSH (s := s) (vm0 := V63) (W := 0) (rmPutB0 l Z a0 hw [] b15 q3 q10 xl yl cst k15 ds_63 nn 2 fmt h63 n0 Zc82 I1 hfmt I5 O66 hcst G63_0 J63_0 (by first | assumption | omega | rfl | decide) (by first | assumption | omega | rfl | decide) J63_1 (by first | assumption | omega | rfl | decide) (by first | assumption | omega | rfl | decide) (by first | assumption | omega | rfl | decide)) hZ (own_m hw 4 rfl) (own_m hw 3 rfl) (by decide) (by decide) hEL CR.1) (g := (mkF m 76 #[.val (.long xl), .second, .val (.long yl), .second, .val (.int mode), .val (.int pos), .val (.int zz), .val (.int (Int32.ofNat nn)), .val (.int q3), .val (.int q10), .val (.ref b15), .unset, .unset, .unset] [(.long yl), (.long xl), (.int q10), (.int q3), (.int (2 : Int32)), (.ref b15)])) rfl (by rw [hml]; rfl) (argsL := [(.ref b15), (.int (2 : Int32)), (.int q3), (.int q10), (.long xl), (.long yl)]) (rest := []) (lenOf pd___CIZZJJ_V rfl) rfl (by show 2 * 0 + _ ≤ _; exact Nat.le_of_eq rfl) (dd hy at_76) (fun _ _ => ⟨rfl, e63, (show (1 + 2 * 2 + 2 * (min 2 nn - min 2 (nn - 5))) + 4 ≤ 32 by omega), (by decide : 111 + 48 ≤ _)⟩)
        dsimp only [Pt.U, Pt.locs, Pt.cells, Pt.slots] at Xr83 hSr83 hg83 l83 y83 z83 st83 hQ83 Cp83
        subst l83 y83 z83
        obtain ⟨X83, hS, hZ, hown⟩ := rebS (own := "io/dyeline/store/LayoutIsDataFilePinLaw") hS (by first | exact Nat.le_refl _ | (rw [e63]; exact hk)) Xr83 hSr83 hg83 hZ hown
        obtain ⟨ds_83, rfl, N83q, K83, Fq83_0, P83_0, P83_1⟩ := hQ83
        have N83 := Fr.app N63 N83q
        obtain ⟨h83, e83⟩ : ∃ z, T83.heap = z := ⟨_, rfl⟩
        rw [e83] at K83 Fq83_0 Cp83
        have hk : T83.heap.size ≤ h83.size := Nat.le_of_eq (congrArg Array.size e83)
        have z84 : h63.size ≤ h83.size := K83.1
        have CR := CR.trans Cp83
        have lt83_0 : @LT.lt Nat _ b15 h83.size := Fq83_0.lt
        have s85 : ∀ t_, Steps p.tables e below (T83.setTop (mkF m 79 #[.val (.long xl), .second, .val (.long yl), .second, .val (.int mode), .val (.int pos), .val (.int zz), .val (.int (Int32.ofNat nn)), .val (.int q3), .val (.int q10), .val (.ref b15), .unset, .unset, .unset] [])) t_ → Steps _ _ _ _ t_ := fun t_ k_ => s81 t_ (by
          refine st83.trans ?_
          show Steps _ _ _ (T83.setTop (mkF m 79 #[.val (.long xl), .second, .val (.long yl), .second, .val (.int mode), .val (.int pos), .val (.int zz), .val (.int (Int32.ofNat nn)), .val (.int q3), .val (.int q10), .val (.ref b15), .unset, .unset, .unset] [])) _
          exact k_)
        exact ⟨T83.vm, _, T83, _, _, _, X83.more (show (1 + 2 * 2 + 2 * (min 2 nn - min 2 (nn - 5))) + 4 ≤ (1 + 2 * 3 + 2 * (min 3 nn - min 3 (nn - 5))) by omega) (by decide), e83, N83, ((Keep.refl h63 [b15]).trans K83 (allS (Or.inl (by simp)) all0)), hS, (by first | exact hk | exact Nat.le_refl _ | (rw [← e83]; exact Nat.le_refl _)), hZ, hown, Cp83, ⟨ds_83, rfl, Fq83_0, P83_0, P83_1⟩, s85⟩
  clear hk
  obtain ⟨V86, k86, T86, lo86, h86, fe86, X86, e86, N86, K86, hS, hk, hZ, hown, Cp86, A86, st86⟩ := bk67
  have z87 : h63.size ≤ h86.size := K86.1
  have CR := CR.trans Cp86
  obtain ⟨ds_86, rfl, G86_0, J86_0, J86_1⟩ := A86
  have s88 : ∀ t_, Steps p.tables e below (T86.setTop (mkF m 79 #[.val (.long xl), .second, .val (.long yl), .second, .val (.int mode), .val (.int pos), .val (.int zz), .val (.int (Int32.ofNat nn)), .val (.int q3), .val (.int q10), .val (.ref b15), .unset, .unset, .unset] [])) t_ → Steps p.tables e below (s₁.setTop (entryFrame m #[(.long xl), (.long yl), (.int mode), (.int pos), (.int zz)] maxLocals)) t_ := st86
  have lt86_0 : @LT.lt Nat _ b15 h86.size := G86_0.lt
  have zz86 : h15.size ≤ h86.size := Nat.le_trans zz63 z87
  have O89 : Old Z n0 h86 := (O66.keep K86 (allS (show n0 ≤ b15 by omega) all0))
  clear z87 zz63 lt63_0 J63_0 J63_1
  have bk90 : ∃ (V' : Vm) (k' : Nat) (T' : State) (lo' : List Loc) (hx_ : Heap) (fe_ : JFrame), Stand p l e room_1 (s.setVm V') m #[(.long xl), (.long yl), (.int mode), (.int pos), (.int zz)] below meth c T' lo' (1 + 2 * 4 + 2 * (min 4 nn - min 4 (nn - 5))) 207 ∧ T'.heap = hx_ ∧ Fr n0 lo' ∧ Keep h86 hx_ [b15] ∧ s.Since V' k' ∧ k' ≤ hx_.size ∧ Z.Warmed39 (s.setVm V').vm ∧ (s.setVm V').vm.findClass "io/dyeline/store/LayoutIsDataFilePinLaw" = some m.cls ∧ CHr Z ELs V86 h86 V' hx_ ∧ ((∃ (ds : List Int32), fe_ = (mkF m 91 #[.val (.long xl), .second, .val (.long yl), .second, .val (.int mode), .val (.int pos), .val (.int zz), .val (.int (Int32.ofNat nn)), .val (.int q3), .val (.int q10), .val (.ref b15), .unset, .unset, .unset] []) ∧ Arv Z hx_ b15 k15 .char (Int32.ofNat nn) (ds.map Value.int) v0_ ∧ (ds.length = nn) ∧ (own_chs ds))) ∧ ∀ t_, Steps p.tables e below (T'.setTop fe_) t_ → Steps p.tables e below (s₁.setTop (entryFrame m #[(.long xl), (.long yl), (.int mode), (.int pos), (.int zz)] maxLocals)) t_ := by
    have s91 : ∀ t_, Steps p.tables e below (T86.setTop (mkF m 88 #[.val (.long xl), .second, .val (.long yl), .second, .val (.int mode), .val (.int pos), .val (.int zz), .val (.int (Int32.ofNat nn)), .val (.int q3), .val (.int q10), .val (.ref b15), .unset, .unset, .unset] [(.long yl), (.long xl), (.int q10), (.int q3), (.int (3 : Int32)), (.ref b15)])) t_ → Steps _ _ _ _ t_ := fun t_ k_ => s88 t_ (by
      refine XS.aload X86.here hx rfl (dd hy at_79) rfl rfl ?_
      refine XS.iconst X86.here hx rfl (dd hy at_81) ?_
      refine XS.iload X86.here hx rfl (dd hy at_82) rfl ?_
      show Steps _ _ _ (T86.setTop (mkF m 84 #[.val (.long xl), .second, .val (.long yl), .second, .val (.int mode), .val (.int pos), .val (.int zz), .val (.int (Int32.ofNat nn)), .val (.int q3), .val (.int q10), .val (.ref b15), .unset, .unset, .unset] [(.int q3), (.int (3 : Int32)), (.ref b15)])) _
      refine XS.iload X86.here hx rfl (dd hy at_84) rfl ?_
      refine XS.lloadN X86.here hx rfl (dd hy at_86) rfl ?_
      refine XS.lloadN X86.here hx rfl (dd hy at_87) rfl ?_
      exact k_)
    by_cases h92 : nn ≤ 3
    · have s93 : ∀ t_, Steps p.tables e below (T86.setTop (mkF m 88 #[.val (.long xl), .second, .val (.long yl), .second, .val (.int mode), .val (.int pos), .val (.int zz), .val (.int (Int32.ofNat nn)), .val (.int q3), .val (.int q10), .val (.ref b15), .unset, .unset, .unset] [(.long yl), (.long xl), (.int q10), (.int q3), (.int (3 : Int32)), (.ref b15)])) t_ → Steps p.tables e below (s₁.setTop (entryFrame m #[(.long xl), (.long yl), (.int mode), (.int pos), (.int zz)] maxLocals)) t_ := fun t_ k_ => s91 t_ (castTop (by rfl) k_)
      have Zc94 : n0 ≤ h86.size := by omega
      obtain ⟨_, _, ⟨T95, L95, k95, n95⟩, -, X95, ⟨Lc95, hQ95, l95, y95, z95⟩, st95⟩ := Jvm.LawKit.callS X86 hx (y := M23_) hown (mvT hZ (own_m hw 1 rfl)) (mvT hZ (own_m hw 2 rfl)) (mvT hZ (own_m hw 3 rfl)) (mvT hZ (own_m hw 4 rfl)) (by decide) (backOf (W := 0) (rmPutN l Z a0 hw [] b15 q3 q10 xl yl k15 ds_86 nn 3 h86 n0 Zc94 G86_0 (by first | assumption | omega | rfl | decide) (by first | assumption | omega | rfl | decide)) hZ (own_m hw 4 rfl) (own_m hw 3 rfl) (by decide) (by decide)) (g := (mkF m 88 #[.val (.long xl), .second, .val (.long yl), .second, .val (.int mode), .val (.int pos), .val (.int zz), .val (.int (Int32.ofNat nn)), .val (.int q3), .val (.int q10), .val (.ref b15), .unset, .unset, .unset] [(.long yl), (.long xl), (.int q10), (.int q3), (.int (3 : Int32)), (.ref b15)])) rfl (by rw [hml]; rfl) (argsL := [(.ref b15), (.int (3 : Int32)), (.int q3), (.int q10), (.long xl), (.long yl)]) (rest := []) (lenOf pd___CIZZJJ_V rfl) rfl (by show 2 * 0 + _ ≤ _; exact Nat.le_of_eq rfl) (dd hy at_88) (fun _ _ => ⟨rfl, e86, (show (1 + 2 * 3 + 2 * (min 3 nn - min 3 (nn - 5))) + 0 ≤ 32 by omega), (by decide : 159 + 0 ≤ _)⟩)
      dsimp only [Pt.U, Pt.locs, Pt.cells, Pt.slots] at X95 l95 y95 z95 st95 hQ95
      subst l95 y95 z95
      obtain ⟨rfl, N95q, e95⟩ := hQ95
      have N95 := Fr.app N86 N95q
      have s96 : ∀ t_, Steps p.tables e below (T95.setTop (mkF m 91 #[.val (.long xl), .second, .val (.long yl), .second, .val (.int mode), .val (.int pos), .val (.int zz), .val (.int (Int32.ofNat nn)), .val (.int q3), .val (.int q10), .val (.ref b15), .unset, .unset, .unset] [])) t_ → Steps _ _ _ _ t_ := fun t_ k_ => s93 t_ (by
        refine st95 _ ?_
        show Steps _ _ _ (T95.setTop (mkF m 91 #[.val (.long xl), .second, .val (.long yl), .second, .val (.int mode), .val (.int pos), .val (.int zz), .val (.int (Int32.ofNat nn)), .val (.int q3), .val (.int q10), .val (.ref b15), .unset, .unset, .unset] [])) _
        exact k_)
      exact ⟨V86, _, T95, _, _, _, X95.more (show (1 + 2 * 3 + 2 * (min 3 nn - min 3 (nn - 5))) + 0 ≤ (1 + 2 * 4 + 2 * (min 4 nn - min 4 (nn - 5))) by omega) (by decide), e95, N95, (Keep.refl h86 [b15]), hS, (by first | exact hk | exact Nat.le_refl _ | (rw [← e95]; exact Nat.le_refl _)), hZ, hown, (CHr.refl CR.1), ⟨ds_86, rfl, G86_0, J86_0, J86_1⟩, s96⟩
    · have s97 : ∀ t_, Steps p.tables e below (T86.setTop (mkF m 88 #[.val (.long xl), .second, .val (.long yl), .second, .val (.int mode), .val (.int pos), .val (.int zz), .val (.int (Int32.ofNat nn)), .val (.int q3), .val (.int q10), .val (.ref b15), .unset, .unset, .unset] [(.long yl), (.long xl), (.int q10), (.int q3), (.int (3 : Int32)), (.ref b15)])) t_ → Steps p.tables e below (s₁.setTop (entryFrame m #[(.long xl), (.long yl), (.int mode), (.int pos), (.int zz)] maxLocals)) t_ := fun t_ k_ => s91 t_ (castTop (by rfl) k_)
      by_cases h98 : 3 + 5 < nn
      · have s99 : ∀ t_, Steps p.tables e below (T86.setTop (mkF m 88 #[.val (.long xl), .second, .val (.long yl), .second, .val (.int mode), .val (.int pos), .val (.int zz), .val (.int (Int32.ofNat nn)), .val (.int q3), .val (.int q10), .val (.ref b15), .unset, .unset, .unset] [(.long yl), (.long xl), (.int q10), (.int q3), (.int (3 : Int32)), (.ref b15)])) t_ → Steps p.tables e below (s₁.setTop (entryFrame m #[(.long xl), (.long yl), (.int mode), (.int pos), (.int zz)] maxLocals)) t_ := fun t_ k_ => s97 t_ (castTop (by rfl) k_)
        have Zc100 : n0 ≤ h86.size := by omega
        obtain ⟨_, _, ⟨T101, L101, k101, n101⟩, -, Xr101, hSr101, hg101, ⟨Lc101, hQ101, l101, y101, z101, Cp101⟩, st101⟩ := callSS X86 hx (y := M23_) hown (mvT hZ (own_m hw 1 rfl)) (mvT hZ (own_m hw 2 rfl)) (mvT hZ (own_m hw 3 rfl)) (mvT hZ (own_m hw 4 rfl)) (by decide) (backOfSH (s := s) (vm0 := V86) (W := 0) (rmPutA0 l Z a0 hw [] b15 q3 q10 xl yl cst k15 ds_86 nn 3 fmt h86 n0 Zc100 I1 hfmt I5 O89 hcst G86_0 J86_0 (by first | assumption | omega | rfl | decide) (by first | assumption | omega | rfl | decide) J86_1 (by first | assumption | omega | rfl | decide) (by first | assumption | omega | rfl | decide) (by first | assumption | omega | rfl | decide)) hZ (own_m hw 4 rfl) (own_m hw 3 rfl) (by decide) (by decide) hEL CR.1) (g := (mkF m 88 #[.val (.long xl), .second, .val (.long yl), .second, .val (.int mode), .val (.int pos), .val (.int zz), .val (.int (Int32.ofNat nn)), .val (.int q3), .val (.int q10), .val (.ref b15), .unset, .unset, .unset] [(.long yl), (.long xl), (.int q10), (.int q3), (.int (3 : Int32)), (.ref b15)])) rfl (by rw [hml]; rfl) (argsL := [(.ref b15), (.int (3 : Int32)), (.int q3), (.int q10), (.long xl), (.long yl)]) (rest := []) (lenOf pd___CIZZJJ_V rfl) rfl (by show 2 * 0 + _ ≤ _; exact Nat.le_of_eq rfl) (dd hy at_88) (fun _ _ => ⟨rfl, e86, (show (1 + 2 * 3 + 2 * (min 3 nn - min 3 (nn - 5))) + 2 ≤ 32 by omega), (by decide : 159 + 24 ≤ _)⟩)
        dsimp only [Pt.U, Pt.locs, Pt.cells, Pt.slots] at Xr101 hSr101 hg101 l101 y101 z101 st101 hQ101 Cp101
        subst l101 y101 z101
        obtain ⟨X101, hS, hZ, hown⟩ := rebS (own := "io/dyeline/store/LayoutIsDataFilePinLaw") hS (by first | exact Nat.le_refl _ | (rw [e86]; exact hk)) Xr101 hSr101 hg101 hZ hown
        obtain ⟨ds_101, rfl, N101q, K101, Fq101_0, P101_0, P101_1⟩ := hQ101
        have N101 := Fr.app N86 N101q
        obtain ⟨h101, e101⟩ : ∃ z, T101.heap = z := ⟨_, rfl⟩
        rw [e101] at K101 Fq101_0 Cp101
        have hk : T101.heap.size ≤ h101.size := Nat.le_of_eq (congrArg Array.size e101)
        have z102 : h86.size ≤ h101.size := K101.1
        have CR := CR.trans Cp101
        have lt101_0 : @LT.lt Nat _ b15 h101.size := Fq101_0.lt
        have s103 : ∀ t_, Steps p.tables e below (T101.setTop (mkF m 91 #[.val (.long xl), .second, .val (.long yl), .second, .val (.int mode), .val (.int pos), .val (.int zz), .val (.int (Int32.ofNat nn)), .val (.int q3), .val (.int q10), .val (.ref b15), .unset, .unset, .unset] [])) t_ → Steps _ _ _ _ t_ := fun t_ k_ => s99 t_ (by
          refine st101.trans ?_
          show Steps _ _ _ (T101.setTop (mkF m 91 #[.val (.long xl), .second, .val (.long yl), .second, .val (.int mode), .val (.int pos), .val (.int zz), .val (.int (Int32.ofNat nn)), .val (.int q3), .val (.int q10), .val (.ref b15), .unset, .unset, .unset] [])) _
          exact k_)
        exact ⟨T101.vm, _, T101, _, _, _, X101.more (show (1 + 2 * 3 + 2 * (min 3 nn - min 3 (nn - 5))) + 2 ≤ (1 + 2 * 4 + 2 * (min 4 nn - min 4 (nn - 5))) by omega) (by decide), e101, N101, ((Keep.refl h86 [b15]).trans K101 (allS (Or.inl (by simp)) all0)), hS, (by first | exact hk | exact Nat.le_refl _ | (rw [← e101]; exact Nat.le_refl _)), hZ, hown, Cp101, ⟨ds_101, rfl, Fq101_0, P101_0, P101_1⟩, s103⟩
      · have s104 : ∀ t_, Steps p.tables e below (T86.setTop (mkF m 88 #[.val (.long xl), .second, .val (.long yl), .second, .val (.int mode), .val (.int pos), .val (.int zz), .val (.int (Int32.ofNat nn)), .val (.int q3), .val (.int q10), .val (.ref b15), .unset, .unset, .unset] [(.long yl), (.long xl), (.int q10), (.int q3), (.int (3 : Int32)), (.ref b15)])) t_ → Steps p.tables e below (s₁.setTop (entryFrame m #[(.long xl), (.long yl), (.int mode), (.int pos), (.int zz)] maxLocals)) t_ := fun t_ k_ => s97 t_ (castTop (by rfl) k_)
        have Zc105 : n0 ≤ h86.size := by omega
        obtain ⟨_, _, ⟨T106, L106, k106, n106⟩, -, Xr106, hSr106, hg106, ⟨Lc106, hQ106, l106, y106, z106, Cp106⟩, st106⟩ := callSS X86 hx (y := M23_) hown (mvT hZ (own_m hw 1 rfl)) (mvT hZ (own_m hw 2 rfl)) (mvT hZ (own_m hw 3 rfl)) (mvT hZ (own_m hw 4 rfl)) (by decide) (backOfSH (s := s) (vm0 := V86) (W := 0) (rmPutB0 l Z a0 hw [] b15 q3 q10 xl yl cst k15 ds_86 nn 3 fmt h86 n0 Zc105 I1 hfmt I5 O89 hcst G86_0 J86_0 (by first | assumption | omega | rfl | decide) (by first | assumption | omega | rfl | decide) J86_1 (by first | assumption | omega | rfl | decide) (by first | assumption | omega | rfl | decide) (by first | assumption | omega | rfl | decide)) hZ (own_m hw 4 rfl) (own_m hw 3 rfl) (by decide) (by decide) hEL CR.1) (g := (mkF m 88 #[.val (.long xl), .second, .val (.long yl), .second, .val (.int mode), .val (.int pos), .val (.int zz), .val (.int (Int32.ofNat nn)), .val (.int q3), .val (.int q10), .val (.ref b15), .unset, .unset, .unset] [(.long yl), (.long xl), (.int q10), (.int q3), (.int (3 : Int32)), (.ref b15)])) rfl (by rw [hml]; rfl) (argsL := [(.ref b15), (.int (3 : Int32)), (.int q3), (.int q10), (.long xl), (.long yl)]) (rest := []) (lenOf pd___CIZZJJ_V rfl) rfl (by show 2 * 0 + _ ≤ _; exact Nat.le_of_eq rfl) (dd hy at_88) (fun _ _ => ⟨rfl, e86, (show (1 + 2 * 3 + 2 * (min 3 nn - min 3 (nn - 5))) + 4 ≤ 32 by omega), (by decide : 159 + 48 ≤ _)⟩)
        dsimp only [Pt.U, Pt.locs, Pt.cells, Pt.slots] at Xr106 hSr106 hg106 l106 y106 z106 st106 hQ106 Cp106
        subst l106 y106 z106
        obtain ⟨X106, hS, hZ, hown⟩ := rebS (own := "io/dyeline/store/LayoutIsDataFilePinLaw") hS (by first | exact Nat.le_refl _ | (rw [e86]; exact hk)) Xr106 hSr106 hg106 hZ hown
        obtain ⟨ds_106, rfl, N106q, K106, Fq106_0, P106_0, P106_1⟩ := hQ106
        have N106 := Fr.app N86 N106q
        obtain ⟨h106, e106⟩ : ∃ z, T106.heap = z := ⟨_, rfl⟩
        rw [e106] at K106 Fq106_0 Cp106
        have hk : T106.heap.size ≤ h106.size := Nat.le_of_eq (congrArg Array.size e106)
        have z107 : h86.size ≤ h106.size := K106.1
        have CR := CR.trans Cp106
        have lt106_0 : @LT.lt Nat _ b15 h106.size := Fq106_0.lt
        have s108 : ∀ t_, Steps p.tables e below (T106.setTop (mkF m 91 #[.val (.long xl), .second, .val (.long yl), .second, .val (.int mode), .val (.int pos), .val (.int zz), .val (.int (Int32.ofNat nn)), .val (.int q3), .val (.int q10), .val (.ref b15), .unset, .unset, .unset] [])) t_ → Steps _ _ _ _ t_ := fun t_ k_ => s104 t_ (by
          refine st106.trans ?_
          show Steps _ _ _ (T106.setTop (mkF m 91 #[.val (.long xl), .second, .val (.long yl), .second, .val (.int mode), .val (.int pos), .val (.int zz), .val (.int (Int32.ofNat nn)), .val (.int q3), .val (.int q10), .val (.ref b15), .unset, .unset, .unset] [])) _
          exact k_)
        exact ⟨T106.vm, _, T106, _, _, _, X106.more (show (1 + 2 * 3 + 2 * (min 3 nn - min 3 (nn - 5))) + 4 ≤ (1 + 2 * 4 + 2 * (min 4 nn - min 4 (nn - 5))) by omega) (by decide), e106, N106, ((Keep.refl h86 [b15]).trans K106 (allS (Or.inl (by simp)) all0)), hS, (by first | exact hk | exact Nat.le_refl _ | (rw [← e106]; exact Nat.le_refl _)), hZ, hown, Cp106, ⟨ds_106, rfl, Fq106_0, P106_0, P106_1⟩, s108⟩
  clear hk
  obtain ⟨V109, k109, T109, lo109, h109, fe109, X109, e109, N109, K109, hS, hk, hZ, hown, Cp109, A109, st109⟩ := bk90
  have z110 : h86.size ≤ h109.size := K109.1
  have CR := CR.trans Cp109
  obtain ⟨ds_109, rfl, G109_0, J109_0, J109_1⟩ := A109
  have s111 : ∀ t_, Steps p.tables e below (T109.setTop (mkF m 91 #[.val (.long xl), .second, .val (.long yl), .second, .val (.int mode), .val (.int pos), .val (.int zz), .val (.int (Int32.ofNat nn)), .val (.int q3), .val (.int q10), .val (.ref b15), .unset, .unset, .unset] [])) t_ → Steps p.tables e below (s₁.setTop (entryFrame m #[(.long xl), (.long yl), (.int mode), (.int pos), (.int zz)] maxLocals)) t_ := st109
  have lt109_0 : @LT.lt Nat _ b15 h109.size := G109_0.lt
  have zz109 : h15.size ≤ h109.size := Nat.le_trans zz86 z110
  have O112 : Old Z n0 h109 := (O89.keep K109 (allS (show n0 ≤ b15 by omega) all0))
  clear z110 zz86 lt86_0 J86_0 J86_1
  have bk113 : ∃ (V' : Vm) (k' : Nat) (T' : State) (lo' : List Loc) (hx_ : Heap) (fe_ : JFrame), Stand p l e room_1 (s.setVm V') m #[(.long xl), (.long yl), (.int mode), (.int pos), (.int zz)] below meth c T' lo' (1 + 2 * 5 + 2 * (min 5 nn - min 5 (nn - 5))) 255 ∧ T'.heap = hx_ ∧ Fr n0 lo' ∧ Keep h109 hx_ [b15] ∧ s.Since V' k' ∧ k' ≤ hx_.size ∧ Z.Warmed39 (s.setVm V').vm ∧ (s.setVm V').vm.findClass "io/dyeline/store/LayoutIsDataFilePinLaw" = some m.cls ∧ CHr Z ELs V109 h109 V' hx_ ∧ ((∃ (ds : List Int32), fe_ = (mkF m 103 #[.val (.long xl), .second, .val (.long yl), .second, .val (.int mode), .val (.int pos), .val (.int zz), .val (.int (Int32.ofNat nn)), .val (.int q3), .val (.int q10), .val (.ref b15), .unset, .unset, .unset] []) ∧ Arv Z hx_ b15 k15 .char (Int32.ofNat nn) (ds.map Value.int) v0_ ∧ (ds.length = nn) ∧ (own_chs ds))) ∧ ∀ t_, Steps p.tables e below (T'.setTop fe_) t_ → Steps p.tables e below (s₁.setTop (entryFrame m #[(.long xl), (.long yl), (.int mode), (.int pos), (.int zz)] maxLocals)) t_ := by
    have s114 : ∀ t_, Steps p.tables e below (T109.setTop (mkF m 100 #[.val (.long xl), .second, .val (.long yl), .second, .val (.int mode), .val (.int pos), .val (.int zz), .val (.int (Int32.ofNat nn)), .val (.int q3), .val (.int q10), .val (.ref b15), .unset, .unset, .unset] [(.long yl), (.long xl), (.int q10), (.int q3), (.int (4 : Int32)), (.ref b15)])) t_ → Steps _ _ _ _ t_ := fun t_ k_ => s111 t_ (by
      refine XS.aload X109.here hx rfl (dd hy at_91) rfl rfl ?_
      refine XS.iconst X109.here hx rfl (dd hy at_93) ?_
      refine XS.iload X109.here hx rfl (dd hy at_94) rfl ?_
      show Steps _ _ _ (T109.setTop (mkF m 96 #[.val (.long xl), .second, .val (.long yl), .second, .val (.int mode), .val (.int pos), .val (.int zz), .val (.int (Int32.ofNat nn)), .val (.int q3), .val (.int q10), .val (.ref b15), .unset, .unset, .unset] [(.int q3), (.int (4 : Int32)), (.ref b15)])) _
      refine XS.iload X109.here hx rfl (dd hy at_96) rfl ?_
      refine XS.lloadN X109.here hx rfl (dd hy at_98) rfl ?_
      refine XS.lloadN X109.here hx rfl (dd hy at_99) rfl ?_
      exact k_)
    by_cases h115 : nn ≤ 4
    · have s116 : ∀ t_, Steps p.tables e below (T109.setTop (mkF m 100 #[.val (.long xl), .second, .val (.long yl), .second, .val (.int mode), .val (.int pos), .val (.int zz), .val (.int (Int32.ofNat nn)), .val (.int q3), .val (.int q10), .val (.ref b15), .unset, .unset, .unset] [(.long yl), (.long xl), (.int q10), (.int q3), (.int (4 : Int32)), (.ref b15)])) t_ → Steps p.tables e below (s₁.setTop (entryFrame m #[(.long xl), (.long yl), (.int mode), (.int pos), (.int zz)] maxLocals)) t_ := fun t_ k_ => s114 t_ (castTop (by rfl) k_)
      have Zc117 : n0 ≤ h109.size := by omega
      obtain ⟨_, _, ⟨T118, L118, k118, n118⟩, -, X118, ⟨Lc118, hQ118, l118, y118, z118⟩, st118⟩ := Jvm.LawKit.callS X109 hx (y := M23_) hown (mvT hZ (own_m hw 1 rfl)) (mvT hZ (own_m hw 2 rfl)) (mvT hZ (own_m hw 3 rfl)) (mvT hZ (own_m hw 4 rfl)) (by decide) (backOf (W := 0) (rmPutN l Z a0 hw [] b15 q3 q10 xl yl k15 ds_109 nn 4 h109 n0 Zc117 G109_0 (by first | assumption | omega | rfl | decide) (by first | assumption | omega | rfl | decide)) hZ (own_m hw 4 rfl) (own_m hw 3 rfl) (by decide) (by decide)) (g := (mkF m 100 #[.val (.long xl), .second, .val (.long yl), .second, .val (.int mode), .val (.int pos), .val (.int zz), .val (.int (Int32.ofNat nn)), .val (.int q3), .val (.int q10), .val (.ref b15), .unset, .unset, .unset] [(.long yl), (.long xl), (.int q10), (.int q3), (.int (4 : Int32)), (.ref b15)])) rfl (by rw [hml]; rfl) (argsL := [(.ref b15), (.int (4 : Int32)), (.int q3), (.int q10), (.long xl), (.long yl)]) (rest := []) (lenOf pd___CIZZJJ_V rfl) rfl (by show 2 * 0 + _ ≤ _; exact Nat.le_of_eq rfl) (dd hy at_100) (fun _ _ => ⟨rfl, e109, (show (1 + 2 * 4 + 2 * (min 4 nn - min 4 (nn - 5))) + 0 ≤ 32 by omega), (by decide : 207 + 0 ≤ _)⟩)
      dsimp only [Pt.U, Pt.locs, Pt.cells, Pt.slots] at X118 l118 y118 z118 st118 hQ118
      subst l118 y118 z118
      obtain ⟨rfl, N118q, e118⟩ := hQ118
      have N118 := Fr.app N109 N118q
      have s119 : ∀ t_, Steps p.tables e below (T118.setTop (mkF m 103 #[.val (.long xl), .second, .val (.long yl), .second, .val (.int mode), .val (.int pos), .val (.int zz), .val (.int (Int32.ofNat nn)), .val (.int q3), .val (.int q10), .val (.ref b15), .unset, .unset, .unset] [])) t_ → Steps _ _ _ _ t_ := fun t_ k_ => s116 t_ (by
        refine st118 _ ?_
        show Steps _ _ _ (T118.setTop (mkF m 103 #[.val (.long xl), .second, .val (.long yl), .second, .val (.int mode), .val (.int pos), .val (.int zz), .val (.int (Int32.ofNat nn)), .val (.int q3), .val (.int q10), .val (.ref b15), .unset, .unset, .unset] [])) _
        exact k_)
      exact ⟨V109, _, T118, _, _, _, X118.more (show (1 + 2 * 4 + 2 * (min 4 nn - min 4 (nn - 5))) + 0 ≤ (1 + 2 * 5 + 2 * (min 5 nn - min 5 (nn - 5))) by omega) (by decide), e118, N118, (Keep.refl h109 [b15]), hS, (by first | exact hk | exact Nat.le_refl _ | (rw [← e118]; exact Nat.le_refl _)), hZ, hown, (CHr.refl CR.1), ⟨ds_109, rfl, G109_0, J109_0, J109_1⟩, s119⟩
    · have s120 : ∀ t_, Steps p.tables e below (T109.setTop (mkF m 100 #[.val (.long xl), .second, .val (.long yl), .second, .val (.int mode), .val (.int pos), .val (.int zz), .val (.int (Int32.ofNat nn)), .val (.int q3), .val (.int q10), .val (.ref b15), .unset, .unset, .unset] [(.long yl), (.long xl), (.int q10), (.int q3), (.int (4 : Int32)), (.ref b15)])) t_ → Steps p.tables e below (s₁.setTop (entryFrame m #[(.long xl), (.long yl), (.int mode), (.int pos), (.int zz)] maxLocals)) t_ := fun t_ k_ => s114 t_ (castTop (by rfl) k_)
      by_cases h121 : 4 + 5 < nn
      · have s122 : ∀ t_, Steps p.tables e below (T109.setTop (mkF m 100 #[.val (.long xl), .second, .val (.long yl), .second, .val (.int mode), .val (.int pos), .val (.int zz), .val (.int (Int32.ofNat nn)), .val (.int q3), .val (.int q10), .val (.ref b15), .unset, .unset, .unset] [(.long yl), (.long xl), (.int q10), (.int q3), (.int (4 : Int32)), (.ref b15)])) t_ → Steps p.tables e below (s₁.setTop (entryFrame m #[(.long xl), (.long yl), (.int mode), (.int pos), (.int zz)] maxLocals)) t_ := fun t_ k_ => s120 t_ (castTop (by rfl) k_)
        have Zc123 : n0 ≤ h109.size := by omega
        obtain ⟨_, _, ⟨T124, L124, k124, n124⟩, -, Xr124, hSr124, hg124, ⟨Lc124, hQ124, l124, y124, z124, Cp124⟩, st124⟩ := callSS X109 hx (y := M23_) hown (mvT hZ (own_m hw 1 rfl)) (mvT hZ (own_m hw 2 rfl)) (mvT hZ (own_m hw 3 rfl)) (mvT hZ (own_m hw 4 rfl)) (by decide) (backOfSH (s := s) (vm0 := V109) (W := 0) (rmPutA0 l Z a0 hw [] b15 q3 q10 xl yl cst k15 ds_109 nn 4 fmt h109 n0 Zc123 I1 hfmt I5 O112 hcst G109_0 J109_0 (by first | assumption | omega | rfl | decide) (by first | assumption | omega | rfl | decide) J109_1 (by first | assumption | omega | rfl | decide) (by first | assumption | omega | rfl | decide) (by first | assumption | omega | rfl | decide)) hZ (own_m hw 4 rfl) (own_m hw 3 rfl) (by decide) (by decide) hEL CR.1) (g := (mkF m 100 #[.val (.long xl), .second, .val (.long yl), .second, .val (.int mode), .val (.int pos), .val (.int zz), .val (.int (Int32.ofNat nn)), .val (.int q3), .val (.int q10), .val (.ref b15), .unset, .unset, .unset] [(.long yl), (.long xl), (.int q10), (.int q3), (.int (4 : Int32)), (.ref b15)])) rfl (by rw [hml]; rfl) (argsL := [(.ref b15), (.int (4 : Int32)), (.int q3), (.int q10), (.long xl), (.long yl)]) (rest := []) (lenOf pd___CIZZJJ_V rfl) rfl (by show 2 * 0 + _ ≤ _; exact Nat.le_of_eq rfl) (dd hy at_100) (fun _ _ => ⟨rfl, e109, (show (1 + 2 * 4 + 2 * (min 4 nn - min 4 (nn - 5))) + 2 ≤ 32 by omega), (by decide : 207 + 24 ≤ _)⟩)
        dsimp only [Pt.U, Pt.locs, Pt.cells, Pt.slots] at Xr124 hSr124 hg124 l124 y124 z124 st124 hQ124 Cp124
        subst l124 y124 z124
        obtain ⟨X124, hS, hZ, hown⟩ := rebS (own := "io/dyeline/store/LayoutIsDataFilePinLaw") hS (by first | exact Nat.le_refl _ | (rw [e109]; exact hk)) Xr124 hSr124 hg124 hZ hown
        obtain ⟨ds_124, rfl, N124q, K124, Fq124_0, P124_0, P124_1⟩ := hQ124
        have N124 := Fr.app N109 N124q
        obtain ⟨h124, e124⟩ : ∃ z, T124.heap = z := ⟨_, rfl⟩
        rw [e124] at K124 Fq124_0 Cp124
        have hk : T124.heap.size ≤ h124.size := Nat.le_of_eq (congrArg Array.size e124)
        have z125 : h109.size ≤ h124.size := K124.1
        have CR := CR.trans Cp124
        have lt124_0 : @LT.lt Nat _ b15 h124.size := Fq124_0.lt
        have s126 : ∀ t_, Steps p.tables e below (T124.setTop (mkF m 103 #[.val (.long xl), .second, .val (.long yl), .second, .val (.int mode), .val (.int pos), .val (.int zz), .val (.int (Int32.ofNat nn)), .val (.int q3), .val (.int q10), .val (.ref b15), .unset, .unset, .unset] [])) t_ → Steps _ _ _ _ t_ := fun t_ k_ => s122 t_ (by
          refine st124.trans ?_
          show Steps _ _ _ (T124.setTop (mkF m 103 #[.val (.long xl), .second, .val (.long yl), .second, .val (.int mode), .val (.int pos), .val (.int zz), .val (.int (Int32.ofNat nn)), .val (.int q3), .val (.int q10), .val (.ref b15), .unset, .unset, .unset] [])) _
          exact k_)
        exact ⟨T124.vm, _, T124, _, _, _, X124.more (show (1 + 2 * 4 + 2 * (min 4 nn - min 4 (nn - 5))) + 2 ≤ (1 + 2 * 5 + 2 * (min 5 nn - min 5 (nn - 5))) by omega) (by decide), e124, N124, ((Keep.refl h109 [b15]).trans K124 (allS (Or.inl (by simp)) all0)), hS, (by first | exact hk | exact Nat.le_refl _ | (rw [← e124]; exact Nat.le_refl _)), hZ, hown, Cp124, ⟨ds_124, rfl, Fq124_0, P124_0, P124_1⟩, s126⟩
      · have s127 : ∀ t_, Steps p.tables e below (T109.setTop (mkF m 100 #[.val (.long xl), .second, .val (.long yl), .second, .val (.int mode), .val (.int pos), .val (.int zz), .val (.int (Int32.ofNat nn)), .val (.int q3), .val (.int q10), .val (.ref b15), .unset, .unset, .unset] [(.long yl), (.long xl), (.int q10), (.int q3), (.int (4 : Int32)), (.ref b15)])) t_ → Steps p.tables e below (s₁.setTop (entryFrame m #[(.long xl), (.long yl), (.int mode), (.int pos), (.int zz)] maxLocals)) t_ := fun t_ k_ => s120 t_ (castTop (by rfl) k_)
        have Zc128 : n0 ≤ h109.size := by omega
        obtain ⟨_, _, ⟨T129, L129, k129, n129⟩, -, Xr129, hSr129, hg129, ⟨Lc129, hQ129, l129, y129, z129, Cp129⟩, st129⟩ := callSS X109 hx (y := M23_) hown (mvT hZ (own_m hw 1 rfl)) (mvT hZ (own_m hw 2 rfl)) (mvT hZ (own_m hw 3 rfl)) (mvT hZ (own_m hw 4 rfl)) (by decide) (backOfSH (s := s) (vm0 := V109) (W := 0) (rmPutB0 l Z a0 hw [] b15 q3 q10 xl yl cst k15 ds_109 nn 4 fmt h109 n0 Zc128 I1 hfmt I5 O112 hcst G109_0 J109_0 (by first | assumption | omega | rfl | decide) (by first | assumption | omega | rfl | decide) J109_1 (by first | assumption | omega | rfl | decide) (by first | assumption | omega | rfl | decide) (by first | assumption | omega | rfl | decide)) hZ (own_m hw 4 rfl) (own_m hw 3 rfl) (by decide) (by decide) hEL CR.1) (g := (mkF m 100 #[.val (.long xl), .second, .val (.long yl), .second, .val (.int mode), .val (.int pos), .val (.int zz), .val (.int (Int32.ofNat nn)), .val (.int q3), .val (.int q10), .val (.ref b15), .unset, .unset, .unset] [(.long yl), (.long xl), (.int q10), (.int q3), (.int (4 : Int32)), (.ref b15)])) rfl (by rw [hml]; rfl) (argsL := [(.ref b15), (.int (4 : Int32)), (.int q3), (.int q10), (.long xl), (.long yl)]) (rest := []) (lenOf pd___CIZZJJ_V rfl) rfl (by show 2 * 0 + _ ≤ _; exact Nat.le_of_eq rfl) (dd hy at_100) (fun _ _ => ⟨rfl, e109, (show (1 + 2 * 4 + 2 * (min 4 nn - min 4 (nn - 5))) + 4 ≤ 32 by omega), (by decide : 207 + 48 ≤ _)⟩)
        dsimp only [Pt.U, Pt.locs, Pt.cells, Pt.slots] at Xr129 hSr129 hg129 l129 y129 z129 st129 hQ129 Cp129
        subst l129 y129 z129
        obtain ⟨X129, hS, hZ, hown⟩ := rebS (own := "io/dyeline/store/LayoutIsDataFilePinLaw") hS (by first | exact Nat.le_refl _ | (rw [e109]; exact hk)) Xr129 hSr129 hg129 hZ hown
        obtain ⟨ds_129, rfl, N129q, K129, Fq129_0, P129_0, P129_1⟩ := hQ129
        have N129 := Fr.app N109 N129q
        obtain ⟨h129, e129⟩ : ∃ z, T129.heap = z := ⟨_, rfl⟩
        rw [e129] at K129 Fq129_0 Cp129
        have hk : T129.heap.size ≤ h129.size := Nat.le_of_eq (congrArg Array.size e129)
        have z130 : h109.size ≤ h129.size := K129.1
        have CR := CR.trans Cp129
        have lt129_0 : @LT.lt Nat _ b15 h129.size := Fq129_0.lt
        have s131 : ∀ t_, Steps p.tables e below (T129.setTop (mkF m 103 #[.val (.long xl), .second, .val (.long yl), .second, .val (.int mode), .val (.int pos), .val (.int zz), .val (.int (Int32.ofNat nn)), .val (.int q3), .val (.int q10), .val (.ref b15), .unset, .unset, .unset] [])) t_ → Steps _ _ _ _ t_ := fun t_ k_ => s127 t_ (by
          refine st129.trans ?_
          show Steps _ _ _ (T129.setTop (mkF m 103 #[.val (.long xl), .second, .val (.long yl), .second, .val (.int mode), .val (.int pos), .val (.int zz), .val (.int (Int32.ofNat nn)), .val (.int q3), .val (.int q10), .val (.ref b15), .unset, .unset, .unset] [])) _
          exact k_)
        exact ⟨T129.vm, _, T129, _, _, _, X129.more (show (1 + 2 * 4 + 2 * (min 4 nn - min 4 (nn - 5))) + 4 ≤ (1 + 2 * 5 + 2 * (min 5 nn - min 5 (nn - 5))) by omega) (by decide), e129, N129, ((Keep.refl h109 [b15]).trans K129 (allS (Or.inl (by simp)) all0)), hS, (by first | exact hk | exact Nat.le_refl _ | (rw [← e129]; exact Nat.le_refl _)), hZ, hown, Cp129, ⟨ds_129, rfl, Fq129_0, P129_0, P129_1⟩, s131⟩
  clear hk
  obtain ⟨V132, k132, T132, lo132, h132, fe132, X132, e132, N132, K132, hS, hk, hZ, hown, Cp132, A132, st132⟩ := bk113
  have z133 : h109.size ≤ h132.size := K132.1
  have CR := CR.trans Cp132
  obtain ⟨ds_132, rfl, G132_0, J132_0, J132_1⟩ := A132
  have s134 : ∀ t_, Steps p.tables e below (T132.setTop (mkF m 103 #[.val (.long xl), .second, .val (.long yl), .second, .val (.int mode), .val (.int pos), .val (.int zz), .val (.int (Int32.ofNat nn)), .val (.int q3), .val (.int q10), .val (.ref b15), .unset, .unset, .unset] [])) t_ → Steps p.tables e below (s₁.setTop (entryFrame m #[(.long xl), (.long yl), (.int mode), (.int pos), (.int zz)] maxLocals)) t_ := st132
  have lt132_0 : @LT.lt Nat _ b15 h132.size := G132_0.lt
  have zz132 : h15.size ≤ h132.size := Nat.le_trans zz109 z133
  have O135 : Old Z n0 h132 := (O112.keep K132 (allS (show n0 ≤ b15 by omega) all0))
  clear z133 zz109 lt109_0 J109_0 J109_1
  have bk136 : ∃ (V' : Vm) (k' : Nat) (T' : State) (lo' : List Loc) (hx_ : Heap) (fe_ : JFrame), Stand p l e room_1 (s.setVm V') m #[(.long xl), (.long yl), (.int mode), (.int pos), (.int zz)] below meth c T' lo' (1 + 2 * 5 + 2 * (min 6 nn - min 6 (nn - 5))) 279 ∧ T'.heap = hx_ ∧ Fr n0 lo' ∧ Keep h132 hx_ [b15] ∧ s.Since V' k' ∧ k' ≤ hx_.size ∧ Z.Warmed39 (s.setVm V').vm ∧ (s.setVm V').vm.findClass "io/dyeline/store/LayoutIsDataFilePinLaw" = some m.cls ∧ CHr Z ELs V132 h132 V' hx_ ∧ ((∃ (ds : List Int32), fe_ = (mkF m 115 #[.val (.long xl), .second, .val (.long yl), .second, .val (.int mode), .val (.int pos), .val (.int zz), .val (.int (Int32.ofNat nn)), .val (.int q3), .val (.int q10), .val (.ref b15), .unset, .unset, .unset] []) ∧ Arv Z hx_ b15 k15 .char (Int32.ofNat nn) (ds.map Value.int) v0_ ∧ (ds.length = nn) ∧ (own_chs ds))) ∧ ∀ t_, Steps p.tables e below (T'.setTop fe_) t_ → Steps p.tables e below (s₁.setTop (entryFrame m #[(.long xl), (.long yl), (.int mode), (.int pos), (.int zz)] maxLocals)) t_ := by
    have s137 : ∀ t_, Steps p.tables e below (T132.setTop (mkF m 112 #[.val (.long xl), .second, .val (.long yl), .second, .val (.int mode), .val (.int pos), .val (.int zz), .val (.int (Int32.ofNat nn)), .val (.int q3), .val (.int q10), .val (.ref b15), .unset, .unset, .unset] [(.long yl), (.long xl), (.int q10), (.int q3), (.int (5 : Int32)), (.ref b15)])) t_ → Steps _ _ _ _ t_ := fun t_ k_ => s134 t_ (by
      refine XS.aload X132.here hx rfl (dd hy at_103) rfl rfl ?_
      refine XS.iconst X132.here hx rfl (dd hy at_105) ?_
      refine XS.iload X132.here hx rfl (dd hy at_106) rfl ?_
      show Steps _ _ _ (T132.setTop (mkF m 108 #[.val (.long xl), .second, .val (.long yl), .second, .val (.int mode), .val (.int pos), .val (.int zz), .val (.int (Int32.ofNat nn)), .val (.int q3), .val (.int q10), .val (.ref b15), .unset, .unset, .unset] [(.int q3), (.int (5 : Int32)), (.ref b15)])) _
      refine XS.iload X132.here hx rfl (dd hy at_108) rfl ?_
      refine XS.lloadN X132.here hx rfl (dd hy at_110) rfl ?_
      refine XS.lloadN X132.here hx rfl (dd hy at_111) rfl ?_
      exact k_)
    by_cases h138 : nn ≤ 5
    · have s139 : ∀ t_, Steps p.tables e below (T132.setTop (mkF m 112 #[.val (.long xl), .second, .val (.long yl), .second, .val (.int mode), .val (.int pos), .val (.int zz), .val (.int (Int32.ofNat nn)), .val (.int q3), .val (.int q10), .val (.ref b15), .unset, .unset, .unset] [(.long yl), (.long xl), (.int q10), (.int q3), (.int (5 : Int32)), (.ref b15)])) t_ → Steps p.tables e below (s₁.setTop (entryFrame m #[(.long xl), (.long yl), (.int mode), (.int pos), (.int zz)] maxLocals)) t_ := fun t_ k_ => s137 t_ (castTop (by rfl) k_)
      have Zc140 : n0 ≤ h132.size := by omega
      obtain ⟨_, _, ⟨T141, L141, k141, n141⟩, -, X141, ⟨Lc141, hQ141, l141, y141, z141⟩, st141⟩ := Jvm.LawKit.callS X132 hx (y := M23_) hown (mvT hZ (own_m hw 1 rfl)) (mvT hZ (own_m hw 2 rfl)) (mvT hZ (own_m hw 3 rfl)) (mvT hZ (own_m hw 4 rfl)) (by decide) (backOf (W := 0) (rmPutN l Z a0 hw [] b15 q3 q10 xl yl k15 ds_132 nn 5 h132 n0 Zc140 G132_0 (by first | assumption | omega | rfl | decide) (by first | assumption | omega | rfl | decide)) hZ (own_m hw 4 rfl) (own_m hw 3 rfl) (by decide) (by decide)) (g := (mkF m 112 #[.val (.long xl), .second, .val (.long yl), .second, .val (.int mode), .val (.int pos), .val (.int zz), .val (.int (Int32.ofNat nn)), .val (.int q3), .val (.int q10), .val (.ref b15), .unset, .unset, .unset] [(.long yl), (.long xl), (.int q10), (.int q3), (.int (5 : Int32)), (.ref b15)])) rfl (by rw [hml]; rfl) (argsL := [(.ref b15), (.int (5 : Int32)), (.int q3), (.int q10), (.long xl), (.long yl)]) (rest := []) (lenOf pd___CIZZJJ_V rfl) rfl (by show 2 * 0 + _ ≤ _; exact Nat.le_of_eq rfl) (dd hy at_112) (fun _ _ => ⟨rfl, e132, (show (1 + 2 * 5 + 2 * (min 5 nn - min 5 (nn - 5))) + 0 ≤ 32 by omega), (by decide : 255 + 0 ≤ _)⟩)
      dsimp only [Pt.U, Pt.locs, Pt.cells, Pt.slots] at X141 l141 y141 z141 st141 hQ141
      subst l141 y141 z141
      obtain ⟨rfl, N141q, e141⟩ := hQ141
      have N141 := Fr.app N132 N141q
      have s142 : ∀ t_, Steps p.tables e below (T141.setTop (mkF m 115 #[.val (.long xl), .second, .val (.long yl), .second, .val (.int mode), .val (.int pos), .val (.int zz), .val (.int (Int32.ofNat nn)), .val (.int q3), .val (.int q10), .val (.ref b15), .unset, .unset, .unset] [])) t_ → Steps _ _ _ _ t_ := fun t_ k_ => s139 t_ (by
        refine st141 _ ?_
        show Steps _ _ _ (T141.setTop (mkF m 115 #[.val (.long xl), .second, .val (.long yl), .second, .val (.int mode), .val (.int pos), .val (.int zz), .val (.int (Int32.ofNat nn)), .val (.int q3), .val (.int q10), .val (.ref b15), .unset, .unset, .unset] [])) _
        exact k_)
      exact ⟨V132, _, T141, _, _, _, X141.more (show (1 + 2 * 5 + 2 * (min 5 nn - min 5 (nn - 5))) + 0 ≤ (1 + 2 * 5 + 2 * (min 6 nn - min 6 (nn - 5))) by omega) (by decide), e141, N141, (Keep.refl h132 [b15]), hS, (by first | exact hk | exact Nat.le_refl _ | (rw [← e141]; exact Nat.le_refl _)), hZ, hown, (CHr.refl CR.1), ⟨ds_132, rfl, G132_0, J132_0, J132_1⟩, s142⟩
    · have s143 : ∀ t_, Steps p.tables e below (T132.setTop (mkF m 112 #[.val (.long xl), .second, .val (.long yl), .second, .val (.int mode), .val (.int pos), .val (.int zz), .val (.int (Int32.ofNat nn)), .val (.int q3), .val (.int q10), .val (.ref b15), .unset, .unset, .unset] [(.long yl), (.long xl), (.int q10), (.int q3), (.int (5 : Int32)), (.ref b15)])) t_ → Steps p.tables e below (s₁.setTop (entryFrame m #[(.long xl), (.long yl), (.int mode), (.int pos), (.int zz)] maxLocals)) t_ := fun t_ k_ => s137 t_ (castTop (by rfl) k_)
      by_cases h144 : 5 + 5 < nn
      · have s145 : ∀ t_, Steps p.tables e below (T132.setTop (mkF m 112 #[.val (.long xl), .second, .val (.long yl), .second, .val (.int mode), .val (.int pos), .val (.int zz), .val (.int (Int32.ofNat nn)), .val (.int q3), .val (.int q10), .val (.ref b15), .unset, .unset, .unset] [(.long yl), (.long xl), (.int q10), (.int q3), (.int (5 : Int32)), (.ref b15)])) t_ → Steps p.tables e below (s₁.setTop (entryFrame m #[(.long xl), (.long yl), (.int mode), (.int pos), (.int zz)] maxLocals)) t_ := fun t_ k_ => s143 t_ (castTop (by rfl) k_)
        have Zc146 : n0 ≤ h132.size := by omega
        obtain ⟨_, _, ⟨T147, L147, k147, n147⟩, -, X147, ⟨Lc147, hQ147, l147, y147, z147⟩, st147⟩ := Jvm.LawKit.callS X132 hx (y := M23_) hown (mvT hZ (own_m hw 1 rfl)) (mvT hZ (own_m hw 2 rfl)) (mvT hZ (own_m hw 3 rfl)) (mvT hZ (own_m hw 4 rfl)) (by decide) (backOf (W := 0) (rmPutA5 l Z a0 hw [] b15 q3 q10 xl yl k15 ds_132 nn 5 h132 n0 Zc146 G132_0 J132_0 (by first | assumption | omega | rfl | decide) (by first | assumption | omega | rfl | decide) J132_1 (by first | assumption | omega | rfl | decide) (by first | assumption | omega | rfl | decide) (by first | assumption | omega | rfl | decide)) hZ (own_m hw 4 rfl) (own_m hw 3 rfl) (by decide) (by decide)) (g := (mkF m 112 #[.val (.long xl), .second, .val (.long yl), .second, .val (.int mode), .val (.int pos), .val (.int zz), .val (.int (Int32.ofNat nn)), .val (.int q3), .val (.int q10), .val (.ref b15), .unset, .unset, .unset] [(.long yl), (.long xl), (.int q10), (.int q3), (.int (5 : Int32)), (.ref b15)])) rfl (by rw [hml]; rfl) (argsL := [(.ref b15), (.int (5 : Int32)), (.int q3), (.int q10), (.long xl), (.long yl)]) (rest := []) (lenOf pd___CIZZJJ_V rfl) rfl (by show 2 * 0 + _ ≤ _; exact Nat.le_of_eq rfl) (dd hy at_112) (fun _ _ => ⟨rfl, e132, (show (1 + 2 * 5 + 2 * (min 5 nn - min 5 (nn - 5))) + 0 ≤ 32 by omega), (by decide : 255 + 0 ≤ _)⟩)
        dsimp only [Pt.U, Pt.locs, Pt.cells, Pt.slots] at X147 l147 y147 z147 st147 hQ147
        subst l147 y147 z147
        obtain ⟨ds_147, rfl, N147q, K147, Fq147_0, P147_0, P147_1⟩ := hQ147
        have N147 := Fr.app N132 N147q
        obtain ⟨h147, e147⟩ : ∃ z, T147.heap = z := ⟨_, rfl⟩
        rw [e147] at K147 Fq147_0
        have z148 : h132.size ≤ h147.size := K147.1
        have Cp148 : CHr Z ELs V132 h132 V132 h147 := CHr.keep K147 (sfS (Safe.arv hZ.alike G132_0 (by decide)) sf0) CR.1
        have hk := Nat.le_trans hk z148
        have CR := CR.trans Cp148
        have lt147_0 : @LT.lt Nat _ b15 h147.size := Fq147_0.lt
        have s149 : ∀ t_, Steps p.tables e below (T147.setTop (mkF m 115 #[.val (.long xl), .second, .val (.long yl), .second, .val (.int mode), .val (.int pos), .val (.int zz), .val (.int (Int32.ofNat nn)), .val (.int q3), .val (.int q10), .val (.ref b15), .unset, .unset, .unset] [])) t_ → Steps _ _ _ _ t_ := fun t_ k_ => s145 t_ (by
          refine st147 _ ?_
          show Steps _ _ _ (T147.setTop (mkF m 115 #[.val (.long xl), .second, .val (.long yl), .second, .val (.int mode), .val (.int pos), .val (.int zz), .val (.int (Int32.ofNat nn)), .val (.int q3), .val (.int q10), .val (.ref b15), .unset, .unset, .unset] [])) _
          exact k_)
        exact ⟨V132, _, T147, _, _, _, X147.more (show (1 + 2 * 5 + 2 * (min 5 nn - min 5 (nn - 5))) + 0 ≤ (1 + 2 * 5 + 2 * (min 6 nn - min 6 (nn - 5))) by omega) (by decide), e147, N147, ((Keep.refl h132 [b15]).trans K147 (allS (Or.inl (by simp)) all0)), hS, (by first | exact hk | exact Nat.le_refl _ | (rw [← e147]; exact Nat.le_refl _)), hZ, hown, Cp148, ⟨ds_147, rfl, Fq147_0, P147_0, P147_1⟩, s149⟩
      · have s150 : ∀ t_, Steps p.tables e below (T132.setTop (mkF m 112 #[.val (.long xl), .second, .val (.long yl), .second, .val (.int mode), .val (.int pos), .val (.int zz), .val (.int (Int32.ofNat nn)), .val (.int q3), .val (.int q10), .val (.ref b15), .unset, .unset, .unset] [(.long yl), (.long xl), (.int q10), (.int q3), (.int (5 : Int32)), (.ref b15)])) t_ → Steps p.tables e below (s₁.setTop (entryFrame m #[(.long xl), (.long yl), (.int mode), (.int pos), (.int zz)] maxLocals)) t_ := fun t_ k_ => s143 t_ (castTop (by rfl) k_)
        have Zc151 : n0 ≤ h132.size := by omega
        obtain ⟨_, _, ⟨T152, L152, k152, n152⟩, -, Xr152, hSr152, hg152, ⟨Lc152, hQ152, l152, y152, z152, Cp152⟩, st152⟩ := callSS X132 hx (y := M23_) hown (mvT hZ (own_m hw 1 rfl)) (mvT hZ (own_m hw 2 rfl)) (mvT hZ (own_m hw 3 rfl)) (mvT hZ (own_m hw 4 rfl)) (by decide) (backOfSH (s := s) (vm0 := V132) (W := 0) (rmPutB5 l Z a0 hw [] b15 q3 q10 xl yl cst k15 ds_132 nn 5 fmt h132 n0 Zc151 I1 hfmt I5 O135 hcst G132_0 J132_0 (by first | assumption | omega | rfl | decide) (by first | assumption | omega | rfl | decide) J132_1 (by first | assumption | omega | rfl | decide) (by first | assumption | omega | rfl | decide) (by first | assumption | omega | rfl | decide)) hZ (own_m hw 4 rfl) (own_m hw 3 rfl) (by decide) (by decide) hEL CR.1) (g := (mkF m 112 #[.val (.long xl), .second, .val (.long yl), .second, .val (.int mode), .val (.int pos), .val (.int zz), .val (.int (Int32.ofNat nn)), .val (.int q3), .val (.int q10), .val (.ref b15), .unset, .unset, .unset] [(.long yl), (.long xl), (.int q10), (.int q3), (.int (5 : Int32)), (.ref b15)])) rfl (by rw [hml]; rfl) (argsL := [(.ref b15), (.int (5 : Int32)), (.int q3), (.int q10), (.long xl), (.long yl)]) (rest := []) (lenOf pd___CIZZJJ_V rfl) rfl (by show 2 * 0 + _ ≤ _; exact Nat.le_of_eq rfl) (dd hy at_112) (fun _ _ => ⟨rfl, e132, (show (1 + 2 * 5 + 2 * (min 5 nn - min 5 (nn - 5))) + 2 ≤ 32 by omega), (by decide : 255 + 24 ≤ _)⟩)
        dsimp only [Pt.U, Pt.locs, Pt.cells, Pt.slots] at Xr152 hSr152 hg152 l152 y152 z152 st152 hQ152 Cp152
        subst l152 y152 z152
        obtain ⟨X152, hS, hZ, hown⟩ := rebS (own := "io/dyeline/store/LayoutIsDataFilePinLaw") hS (by first | exact Nat.le_refl _ | (rw [e132]; exact hk)) Xr152 hSr152 hg152 hZ hown
        obtain ⟨ds_152, rfl, N152q, K152, Fq152_0, P152_0, P152_1⟩ := hQ152
        have N152 := Fr.app N132 N152q
        obtain ⟨h152, e152⟩ : ∃ z, T152.heap = z := ⟨_, rfl⟩
        rw [e152] at K152 Fq152_0 Cp152
        have hk : T152.heap.size ≤ h152.size := Nat.le_of_eq (congrArg Array.size e152)
        have z153 : h132.size ≤ h152.size := K152.1
        have CR := CR.trans Cp152
        have lt152_0 : @LT.lt Nat _ b15 h152.size := Fq152_0.lt
        have s154 : ∀ t_, Steps p.tables e below (T152.setTop (mkF m 115 #[.val (.long xl), .second, .val (.long yl), .second, .val (.int mode), .val (.int pos), .val (.int zz), .val (.int (Int32.ofNat nn)), .val (.int q3), .val (.int q10), .val (.ref b15), .unset, .unset, .unset] [])) t_ → Steps _ _ _ _ t_ := fun t_ k_ => s150 t_ (by
          refine st152.trans ?_
          show Steps _ _ _ (T152.setTop (mkF m 115 #[.val (.long xl), .second, .val (.long yl), .second, .val (.int mode), .val (.int pos), .val (.int zz), .val (.int (Int32.ofNat nn)), .val (.int q3), .val (.int q10), .val (.ref b15), .unset, .unset, .unset] [])) _
          exact k_)
        exact ⟨T152.vm, _, T152, _, _, _, X152.more (show (1 + 2 * 5 + 2 * (min 5 nn - min 5 (nn - 5))) + 2 ≤ (1 + 2 * 5 + 2 * (min 6 nn - min 6 (nn - 5))) by omega) (by decide), e152, N152, ((Keep.refl h132 [b15]).trans K152 (allS (Or.inl (by simp)) all0)), hS, (by first | exact hk | exact Nat.le_refl _ | (rw [← e152]; exact Nat.le_refl _)), hZ, hown, Cp152, ⟨ds_152, rfl, Fq152_0, P152_0, P152_1⟩, s154⟩
  clear hk
  obtain ⟨V155, k155, T155, lo155, h155, fe155, X155, e155, N155, K155, hS, hk, hZ, hown, Cp155, A155, st155⟩ := bk136
  have z156 : h132.size ≤ h155.size := K155.1
  have CR := CR.trans Cp155
  obtain ⟨ds_155, rfl, G155_0, J155_0, J155_1⟩ := A155
  have s157 : ∀ t_, Steps p.tables e below (T155.setTop (mkF m 115 #[.val (.long xl), .second, .val (.long yl), .second, .val (.int mode), .val (.int pos), .val (.int zz), .val (.int (Int32.ofNat nn)), .val (.int q3), .val (.int q10), .val (.ref b15), .unset, .unset, .unset] [])) t_ → Steps p.tables e below (s₁.setTop (entryFrame m #[(.long xl), (.long yl), (.int mode), (.int pos), (.int zz)] maxLocals)) t_ := st155
  have lt155_0 : @LT.lt Nat _ b15 h155.size := G155_0.lt
  have zz155 : h15.size ≤ h155.size := Nat.le_trans zz132 z156
  have O158 : Old Z n0 h155 := (O135.keep K155 (allS (show n0 ≤ b15 by omega) all0))
  clear z156 zz132 lt132_0 J132_0 J132_1
  have bk159 : ∃ (V' : Vm) (k' : Nat) (T' : State) (lo' : List Loc) (hx_ : Heap) (fe_ : JFrame), Stand p l e room_1 (s.setVm V') m #[(.long xl), (.long yl), (.int mode), (.int pos), (.int zz)] below meth c T' lo' (1 + 2 * 5 + 2 * (min 7 nn - min 7 (nn - 5))) 303 ∧ T'.heap = hx_ ∧ Fr n0 lo' ∧ Keep h155 hx_ [b15] ∧ s.Since V' k' ∧ k' ≤ hx_.size ∧ Z.Warmed39 (s.setVm V').vm ∧ (s.setVm V').vm.findClass "io/dyeline/store/LayoutIsDataFilePinLaw" = some m.cls ∧ CHr Z ELs V155 h155 V' hx_ ∧ ((∃ (ds : List Int32), fe_ = (mkF m 128 #[.val (.long xl), .second, .val (.long yl), .second, .val (.int mode), .val (.int pos), .val (.int zz), .val (.int (Int32.ofNat nn)), .val (.int q3), .val (.int q10), .val (.ref b15), .unset, .unset, .unset] []) ∧ Arv Z hx_ b15 k15 .char (Int32.ofNat nn) (ds.map Value.int) v0_ ∧ (ds.length = nn) ∧ (own_chs ds))) ∧ ∀ t_, Steps p.tables e below (T'.setTop fe_) t_ → Steps p.tables e below (s₁.setTop (entryFrame m #[(.long xl), (.long yl), (.int mode), (.int pos), (.int zz)] maxLocals)) t_ := by
    have s160 : ∀ t_, Steps p.tables e below (T155.setTop (mkF m 125 #[.val (.long xl), .second, .val (.long yl), .second, .val (.int mode), .val (.int pos), .val (.int zz), .val (.int (Int32.ofNat nn)), .val (.int q3), .val (.int q10), .val (.ref b15), .unset, .unset, .unset] [(.long yl), (.long xl), (.int q10), (.int q3), (.int (6 : Int32)), (.ref b15)])) t_ → Steps _ _ _ _ t_ := fun t_ k_ => s157 t_ (by
      refine XS.aload X155.here hx rfl (dd hy at_115) rfl rfl ?_
      refine XS.bipush X155.here hx rfl (dd hy at_117) ?_
      refine XS.iload X155.here hx rfl (dd hy at_119) rfl ?_
      show Steps _ _ _ (T155.setTop (mkF m 121 #[.val (.long xl), .second, .val (.long yl), .second, .val (.int mode), .val (.int pos), .val (.int zz), .val (.int (Int32.ofNat nn)), .val (.int q3), .val (.int q10), .val (.ref b15), .unset, .unset, .unset] [(.int q3), (.int (6 : Int32)), (.ref b15)])) _
      refine XS.iload X155.here hx rfl (dd hy at_121) rfl ?_
      refine XS.lloadN X155.here hx rfl (dd hy at_123) rfl ?_
      refine XS.lloadN X155.here hx rfl (dd hy at_124) rfl ?_
      exact k_)
    by_cases h161 : nn ≤ 6
    · have s162 : ∀ t_, Steps p.tables e below (T155.setTop (mkF m 125 #[.val (.long xl), .second, .val (.long yl), .second, .val (.int mode), .val (.int pos), .val (.int zz), .val (.int (Int32.ofNat nn)), .val (.int q3), .val (.int q10), .val (.ref b15), .unset, .unset, .unset] [(.long yl), (.long xl), (.int q10), (.int q3), (.int (6 : Int32)), (.ref b15)])) t_ → Steps p.tables e below (s₁.setTop (entryFrame m #[(.long xl), (.long yl), (.int mode), (.int pos), (.int zz)] maxLocals)) t_ := fun t_ k_ => s160 t_ (castTop (by rfl) k_)
      have Zc163 : n0 ≤ h155.size := by omega
      obtain ⟨_, _, ⟨T164, L164, k164, n164⟩, -, X164, ⟨Lc164, hQ164, l164, y164, z164⟩, st164⟩ := Jvm.LawKit.callS X155 hx (y := M23_) hown (mvT hZ (own_m hw 1 rfl)) (mvT hZ (own_m hw 2 rfl)) (mvT hZ (own_m hw 3 rfl)) (mvT hZ (own_m hw 4 rfl)) (by decide) (backOf (W := 0) (rmPutN l Z a0 hw [] b15 q3 q10 xl yl k15 ds_155 nn 6 h155 n0 Zc163 G155_0 (by first | assumption | omega | rfl | decide) (by first | assumption | omega | rfl | decide)) hZ (own_m hw 4 rfl) (own_m hw 3 rfl) (by decide) (by decide)) (g := (mkF m 125 #[.val (.long xl), .second, .val (.long yl), .second, .val (.int mode), .val (.int pos), .val (.int zz), .val (.int (Int32.ofNat nn)), .val (.int q3), .val (.int q10), .val (.ref b15), .unset, .unset, .unset] [(.long yl), (.long xl), (.int q10), (.int q3), (.int (6 : Int32)), (.ref b15)])) rfl (by rw [hml]; rfl) (argsL := [(.ref b15), (.int (6 : Int32)), (.int q3), (.int q10), (.long xl), (.long yl)]) (rest := []) (lenOf pd___CIZZJJ_V rfl) rfl (by show 2 * 0 + _ ≤ _; exact Nat.le_of_eq rfl) (dd hy at_125) (fun _ _ => ⟨rfl, e155, (show (1 + 2 * 5 + 2 * (min 6 nn - min 6 (nn - 5))) + 0 ≤ 32 by omega), (by decide : 279 + 0 ≤ _)⟩)
      dsimp only [Pt.U, Pt.locs, Pt.cells, Pt.slots] at X164 l164 y164 z164 st164 hQ164
      subst l164 y164 z164
      obtain ⟨rfl, N164q, e164⟩ := hQ164
      have N164 := Fr.app N155 N164q
      have s165 : ∀ t_, Steps p.tables e below (T164.setTop (mkF m 128 #[.val (.long xl), .second, .val (.long yl), .second, .val (.int mode), .val (.int pos), .val (.int zz), .val (.int (Int32.ofNat nn)), .val (.int q3), .val (.int q10), .val (.ref b15), .unset, .unset, .unset] [])) t_ → Steps _ _ _ _ t_ := fun t_ k_ => s162 t_ (by
        refine st164 _ ?_
        show Steps _ _ _ (T164.setTop (mkF m 128 #[.val (.long xl), .second, .val (.long yl), .second, .val (.int mode), .val (.int pos), .val (.int zz), .val (.int (Int32.ofNat nn)), .val (.int q3), .val (.int q10), .val (.ref b15), .unset, .unset, .unset] [])) _
        exact k_)
      exact ⟨V155, _, T164, _, _, _, X164.more (show (1 + 2 * 5 + 2 * (min 6 nn - min 6 (nn - 5))) + 0 ≤ (1 + 2 * 5 + 2 * (min 7 nn - min 7 (nn - 5))) by omega) (by decide), e164, N164, (Keep.refl h155 [b15]), hS, (by first | exact hk | exact Nat.le_refl _ | (rw [← e164]; exact Nat.le_refl _)), hZ, hown, (CHr.refl CR.1), ⟨ds_155, rfl, G155_0, J155_0, J155_1⟩, s165⟩
    · have s166 : ∀ t_, Steps p.tables e below (T155.setTop (mkF m 125 #[.val (.long xl), .second, .val (.long yl), .second, .val (.int mode), .val (.int pos), .val (.int zz), .val (.int (Int32.ofNat nn)), .val (.int q3), .val (.int q10), .val (.ref b15), .unset, .unset, .unset] [(.long yl), (.long xl), (.int q10), (.int q3), (.int (6 : Int32)), (.ref b15)])) t_ → Steps p.tables e below (s₁.setTop (entryFrame m #[(.long xl), (.long yl), (.int mode), (.int pos), (.int zz)] maxLocals)) t_ := fun t_ k_ => s160 t_ (castTop (by rfl) k_)
      by_cases h167 : 6 + 5 < nn
      · have s168 : ∀ t_, Steps p.tables e below (T155.setTop (mkF m 125 #[.val (.long xl), .second, .val (.long yl), .second, .val (.int mode), .val (.int pos), .val (.int zz), .val (.int (Int32.ofNat nn)), .val (.int q3), .val (.int q10), .val (.ref b15), .unset, .unset, .unset] [(.long yl), (.long xl), (.int q10), (.int q3), (.int (6 : Int32)), (.ref b15)])) t_ → Steps p.tables e below (s₁.setTop (entryFrame m #[(.long xl), (.long yl), (.int mode), (.int pos), (.int zz)] maxLocals)) t_ := fun t_ k_ => s166 t_ (castTop (by rfl) k_)
        have Zc169 : n0 ≤ h155.size := by omega
        obtain ⟨_, _, ⟨T170, L170, k170, n170⟩, -, X170, ⟨Lc170, hQ170, l170, y170, z170⟩, st170⟩ := Jvm.LawKit.callS X155 hx (y := M23_) hown (mvT hZ (own_m hw 1 rfl)) (mvT hZ (own_m hw 2 rfl)) (mvT hZ (own_m hw 3 rfl)) (mvT hZ (own_m hw 4 rfl)) (by decide) (backOf (W := 0) (rmPutA5 l Z a0 hw [] b15 q3 q10 xl yl k15 ds_155 nn 6 h155 n0 Zc169 G155_0 J155_0 (by first | assumption | omega | rfl | decide) (by first | assumption | omega | rfl | decide) J155_1 (by first | assumption | omega | rfl | decide) (by first | assumption | omega | rfl | decide) (by first | assumption | omega | rfl | decide)) hZ (own_m hw 4 rfl) (own_m hw 3 rfl) (by decide) (by decide)) (g := (mkF m 125 #[.val (.long xl), .second, .val (.long yl), .second, .val (.int mode), .val (.int pos), .val (.int zz), .val (.int (Int32.ofNat nn)), .val (.int q3), .val (.int q10), .val (.ref b15), .unset, .unset, .unset] [(.long yl), (.long xl), (.int q10), (.int q3), (.int (6 : Int32)), (.ref b15)])) rfl (by rw [hml]; rfl) (argsL := [(.ref b15), (.int (6 : Int32)), (.int q3), (.int q10), (.long xl), (.long yl)]) (rest := []) (lenOf pd___CIZZJJ_V rfl) rfl (by show 2 * 0 + _ ≤ _; exact Nat.le_of_eq rfl) (dd hy at_125) (fun _ _ => ⟨rfl, e155, (show (1 + 2 * 5 + 2 * (min 6 nn - min 6 (nn - 5))) + 0 ≤ 32 by omega), (by decide : 279 + 0 ≤ _)⟩)
        dsimp only [Pt.U, Pt.locs, Pt.cells, Pt.slots] at X170 l170 y170 z170 st170 hQ170
        subst l170 y170 z170
        obtain ⟨ds_170, rfl, N170q, K170, Fq170_0, P170_0, P170_1⟩ := hQ170
        have N170 := Fr.app N155 N170q
        obtain ⟨h170, e170⟩ : ∃ z, T170.heap = z := ⟨_, rfl⟩
        rw [e170] at K170 Fq170_0
        have z171 : h155.size ≤ h170.size := K170.1
        have Cp171 : CHr Z ELs V155 h155 V155 h170 := CHr.keep K170 (sfS (Safe.arv hZ.alike G155_0 (by decide)) sf0) CR.1
        have hk := Nat.le_trans hk z171
        have CR := CR.trans Cp171
        have lt170_0 : @LT.lt Nat _ b15 h170.size := Fq170_0.lt
        have s172 : ∀ t_, Steps p.tables e below (T170.setTop (mkF m 128 #[.val (.long xl), .second, .val (.long yl), .second, .val (.int mode), .val (.int pos), .val (.int zz), .val (.int (Int32.ofNat nn)), .val (.int q3), .val (.int q10), .val (.ref b15), .unset, .unset, .unset] [])) t_ → Steps _ _ _ _ t_ := fun t_ k_ => s168 t_ (by
          refine st170 _ ?_
          show Steps _ _ _ (T170.setTop (mkF m 128 #[.val (.long xl), .second, .val (.long yl), .second, .val (.int mode), .val (.int pos), .val (.int zz), .val (.int (Int32.ofNat nn)), .val (.int q3), .val (.int q10), .val (.ref b15), .unset, .unset, .unset] [])) _
          exact k_)
        exact ⟨V155, _, T170, _, _, _, X170.more (show (1 + 2 * 5 + 2 * (min 6 nn - min 6 (nn - 5))) + 0 ≤ (1 + 2 * 5 + 2 * (min 7 nn - min 7 (nn - 5))) by omega) (by decide), e170, N170, ((Keep.refl h155 [b15]).trans K170 (allS (Or.inl (by simp)) all0)), hS, (by first | exact hk | exact Nat.le_refl _ | (rw [← e170]; exact Nat.le_refl _)), hZ, hown, Cp171, ⟨ds_170, rfl, Fq170_0, P170_0, P170_1⟩, s172⟩
      · have s173 : ∀ t_, Steps p.tables e below (T155.setTop (mkF m 125 #[.val (.long xl), .second, .val (.long yl), .second, .val (.int mode), .val (.int pos), .val (.int zz), .val (.int (Int32.ofNat nn)), .val (.int q3), .val (.int q10), .val (.ref b15), .unset, .unset, .unset] [(.long yl), (.long xl), (.int q10), (.int q3), (.int (6 : Int32)), (.ref b15)])) t_ → Steps p.tables e below (s₁.setTop (entryFrame m #[(.long xl), (.long yl), (.int mode), (.int pos), (.int zz)] maxLocals)) t_ := fun t_ k_ => s166 t_ (castTop (by rfl) k_)
        have Zc174 : n0 ≤ h155.size := by omega
        obtain ⟨_, _, ⟨T175, L175, k175, n175⟩, -, Xr175, hSr175, hg175, ⟨Lc175, hQ175, l175, y175, z175, Cp175⟩, st175⟩ := callSS X155 hx (y := M23_) hown (mvT hZ (own_m hw 1 rfl)) (mvT hZ (own_m hw 2 rfl)) (mvT hZ (own_m hw 3 rfl)) (mvT hZ (own_m hw 4 rfl)) (by decide) (backOfSH (s := s) (vm0 := V155) (W := 0) (rmPutB5 l Z a0 hw [] b15 q3 q10 xl yl cst k15 ds_155 nn 6 fmt h155 n0 Zc174 I1 hfmt I5 O158 hcst G155_0 J155_0 (by first | assumption | omega | rfl | decide) (by first | assumption | omega | rfl | decide) J155_1 (by first | assumption | omega | rfl | decide) (by first | assumption | omega | rfl | decide) (by first | assumption | omega | rfl | decide)) hZ (own_m hw 4 rfl) (own_m hw 3 rfl) (by decide) (by decide) hEL CR.1) (g := (mkF m 125 #[.val (.long xl), .second, .val (.long yl), .second, .val (.int mode), .val (.int pos), .val (.int zz), .val (.int (Int32.ofNat nn)), .val (.int q3), .val (.int q10), .val (.ref b15), .unset, .unset, .unset] [(.long yl), (.long xl), (.int q10), (.int q3), (.int (6 : Int32)), (.ref b15)])) rfl (by rw [hml]; rfl) (argsL := [(.ref b15), (.int (6 : Int32)), (.int q3), (.int q10), (.long xl), (.long yl)]) (rest := []) (lenOf pd___CIZZJJ_V rfl) rfl (by show 2 * 0 + _ ≤ _; exact Nat.le_of_eq rfl) (dd hy at_125) (fun _ _ => ⟨rfl, e155, (show (1 + 2 * 5 + 2 * (min 6 nn - min 6 (nn - 5))) + 2 ≤ 32 by omega), (by decide : 279 + 24 ≤ _)⟩)
        dsimp only [Pt.U, Pt.locs, Pt.cells, Pt.slots] at Xr175 hSr175 hg175 l175 y175 z175 st175 hQ175 Cp175
        subst l175 y175 z175
        obtain ⟨X175, hS, hZ, hown⟩ := rebS (own := "io/dyeline/store/LayoutIsDataFilePinLaw") hS (by first | exact Nat.le_refl _ | (rw [e155]; exact hk)) Xr175 hSr175 hg175 hZ hown
        obtain ⟨ds_175, rfl, N175q, K175, Fq175_0, P175_0, P175_1⟩ := hQ175
        have N175 := Fr.app N155 N175q
        obtain ⟨h175, e175⟩ : ∃ z, T175.heap = z := ⟨_, rfl⟩
        rw [e175] at K175 Fq175_0 Cp175
        have hk : T175.heap.size ≤ h175.size := Nat.le_of_eq (congrArg Array.size e175)
        have z176 : h155.size ≤ h175.size := K175.1
        have CR := CR.trans Cp175
        have lt175_0 : @LT.lt Nat _ b15 h175.size := Fq175_0.lt
        have s177 : ∀ t_, Steps p.tables e below (T175.setTop (mkF m 128 #[.val (.long xl), .second, .val (.long yl), .second, .val (.int mode), .val (.int pos), .val (.int zz), .val (.int (Int32.ofNat nn)), .val (.int q3), .val (.int q10), .val (.ref b15), .unset, .unset, .unset] [])) t_ → Steps _ _ _ _ t_ := fun t_ k_ => s173 t_ (by
          refine st175.trans ?_
          show Steps _ _ _ (T175.setTop (mkF m 128 #[.val (.long xl), .second, .val (.long yl), .second, .val (.int mode), .val (.int pos), .val (.int zz), .val (.int (Int32.ofNat nn)), .val (.int q3), .val (.int q10), .val (.ref b15), .unset, .unset, .unset] [])) _
          exact k_)
        exact ⟨T175.vm, _, T175, _, _, _, X175.more (show (1 + 2 * 5 + 2 * (min 6 nn - min 6 (nn - 5))) + 2 ≤ (1 + 2 * 5 + 2 * (min 7 nn - min 7 (nn - 5))) by omega) (by decide), e175, N175, ((Keep.refl h155 [b15]).trans K175 (allS (Or.inl (by simp)) all0)), hS, (by first | exact hk | exact Nat.le_refl _ | (rw [← e175]; exact Nat.le_refl _)), hZ, hown, Cp175, ⟨ds_175, rfl, Fq175_0, P175_0, P175_1⟩, s177⟩
  clear hk
  obtain ⟨V178, k178, T178, lo178, h178, fe178, X178, e178, N178, K178, hS, hk, hZ, hown, Cp178, A178, st178⟩ := bk159
  have z179 : h155.size ≤ h178.size := K178.1
  have CR := CR.trans Cp178
  obtain ⟨ds_178, rfl, G178_0, J178_0, J178_1⟩ := A178
  have s180 : ∀ t_, Steps p.tables e below (T178.setTop (mkF m 128 #[.val (.long xl), .second, .val (.long yl), .second, .val (.int mode), .val (.int pos), .val (.int zz), .val (.int (Int32.ofNat nn)), .val (.int q3), .val (.int q10), .val (.ref b15), .unset, .unset, .unset] [])) t_ → Steps p.tables e below (s₁.setTop (entryFrame m #[(.long xl), (.long yl), (.int mode), (.int pos), (.int zz)] maxLocals)) t_ := st178
  have lt178_0 : @LT.lt Nat _ b15 h178.size := G178_0.lt
  have zz178 : h15.size ≤ h178.size := Nat.le_trans zz155 z179
  have O181 : Old Z n0 h178 := (O158.keep K178 (allS (show n0 ≤ b15 by omega) all0))
  clear z179 zz155 lt155_0 J155_0 J155_1
  have bk182 : ∃ (V' : Vm) (k' : Nat) (T' : State) (lo' : List Loc) (hx_ : Heap) (fe_ : JFrame), Stand p l e room_1 (s.setVm V') m #[(.long xl), (.long yl), (.int mode), (.int pos), (.int zz)] below meth c T' lo' (1 + 2 * 5 + 2 * (min 8 nn - min 8 (nn - 5))) 327 ∧ T'.heap = hx_ ∧ Fr n0 lo' ∧ Keep h178 hx_ [b15] ∧ s.Since V' k' ∧ k' ≤ hx_.size ∧ Z.Warmed39 (s.setVm V').vm ∧ (s.setVm V').vm.findClass "io/dyeline/store/LayoutIsDataFilePinLaw" = some m.cls ∧ CHr Z ELs V178 h178 V' hx_ ∧ ((∃ (ds : List Int32), fe_ = (mkF m 141 #[.val (.long xl), .second, .val (.long yl), .second, .val (.int mode), .val (.int pos), .val (.int zz), .val (.int (Int32.ofNat nn)), .val (.int q3), .val (.int q10), .val (.ref b15), .unset, .unset, .unset] []) ∧ Arv Z hx_ b15 k15 .char (Int32.ofNat nn) (ds.map Value.int) v0_ ∧ (ds.length = nn) ∧ (own_chs ds))) ∧ ∀ t_, Steps p.tables e below (T'.setTop fe_) t_ → Steps p.tables e below (s₁.setTop (entryFrame m #[(.long xl), (.long yl), (.int mode), (.int pos), (.int zz)] maxLocals)) t_ := by
    have s183 : ∀ t_, Steps p.tables e below (T178.setTop (mkF m 138 #[.val (.long xl), .second, .val (.long yl), .second, .val (.int mode), .val (.int pos), .val (.int zz), .val (.int (Int32.ofNat nn)), .val (.int q3), .val (.int q10), .val (.ref b15), .unset, .unset, .unset] [(.long yl), (.long xl), (.int q10), (.int q3), (.int (7 : Int32)), (.ref b15)])) t_ → Steps _ _ _ _ t_ := fun t_ k_ => s180 t_ (by
      refine XS.aload X178.here hx rfl (dd hy at_128) rfl rfl ?_
      refine XS.bipush X178.here hx rfl (dd hy at_130) ?_
      refine XS.iload X178.here hx rfl (dd hy at_132) rfl ?_
      show Steps _ _ _ (T178.setTop (mkF m 134 #[.val (.long xl), .second, .val (.long yl), .second, .val (.int mode), .val (.int pos), .val (.int zz), .val (.int (Int32.ofNat nn)), .val (.int q3), .val (.int q10), .val (.ref b15), .unset, .unset, .unset] [(.int q3), (.int (7 : Int32)), (.ref b15)])) _
      refine XS.iload X178.here hx rfl (dd hy at_134) rfl ?_
      refine XS.lloadN X178.here hx rfl (dd hy at_136) rfl ?_
      refine XS.lloadN X178.here hx rfl (dd hy at_137) rfl ?_
      exact k_)
    by_cases h184 : nn ≤ 7
    · have s185 : ∀ t_, Steps p.tables e below (T178.setTop (mkF m 138 #[.val (.long xl), .second, .val (.long yl), .second, .val (.int mode), .val (.int pos), .val (.int zz), .val (.int (Int32.ofNat nn)), .val (.int q3), .val (.int q10), .val (.ref b15), .unset, .unset, .unset] [(.long yl), (.long xl), (.int q10), (.int q3), (.int (7 : Int32)), (.ref b15)])) t_ → Steps p.tables e below (s₁.setTop (entryFrame m #[(.long xl), (.long yl), (.int mode), (.int pos), (.int zz)] maxLocals)) t_ := fun t_ k_ => s183 t_ (castTop (by rfl) k_)
      have Zc186 : n0 ≤ h178.size := by omega
      obtain ⟨_, _, ⟨T187, L187, k187, n187⟩, -, X187, ⟨Lc187, hQ187, l187, y187, z187⟩, st187⟩ := Jvm.LawKit.callS X178 hx (y := M23_) hown (mvT hZ (own_m hw 1 rfl)) (mvT hZ (own_m hw 2 rfl)) (mvT hZ (own_m hw 3 rfl)) (mvT hZ (own_m hw 4 rfl)) (by decide) (backOf (W := 0) (rmPutN l Z a0 hw [] b15 q3 q10 xl yl k15 ds_178 nn 7 h178 n0 Zc186 G178_0 (by first | assumption | omega | rfl | decide) (by first | assumption | omega | rfl | decide)) hZ (own_m hw 4 rfl) (own_m hw 3 rfl) (by decide) (by decide)) (g := (mkF m 138 #[.val (.long xl), .second, .val (.long yl), .second, .val (.int mode), .val (.int pos), .val (.int zz), .val (.int (Int32.ofNat nn)), .val (.int q3), .val (.int q10), .val (.ref b15), .unset, .unset, .unset] [(.long yl), (.long xl), (.int q10), (.int q3), (.int (7 : Int32)), (.ref b15)])) rfl (by rw [hml]; rfl) (argsL := [(.ref b15), (.int (7 : Int32)), (.int q3), (.int q10), (.long xl), (.long yl)]) (rest := []) (lenOf pd___CIZZJJ_V rfl) rfl (by show 2 * 0 + _ ≤ _; exact Nat.le_of_eq rfl) (dd hy at_138) (fun _ _ => ⟨rfl, e178, (show (1 + 2 * 5 + 2 * (min 7 nn - min 7 (nn - 5))) + 0 ≤ 32 by omega), (by decide : 303 + 0 ≤ _)⟩)
      dsimp only [Pt.U, Pt.locs, Pt.cells, Pt.slots] at X187 l187 y187 z187 st187 hQ187
      subst l187 y187 z187
      obtain ⟨rfl, N187q, e187⟩ := hQ187
      have N187 := Fr.app N178 N187q
      have s188 : ∀ t_, Steps p.tables e below (T187.setTop (mkF m 141 #[.val (.long xl), .second, .val (.long yl), .second, .val (.int mode), .val (.int pos), .val (.int zz), .val (.int (Int32.ofNat nn)), .val (.int q3), .val (.int q10), .val (.ref b15), .unset, .unset, .unset] [])) t_ → Steps _ _ _ _ t_ := fun t_ k_ => s185 t_ (by
        refine st187 _ ?_
        show Steps _ _ _ (T187.setTop (mkF m 141 #[.val (.long xl), .second, .val (.long yl), .second, .val (.int mode), .val (.int pos), .val (.int zz), .val (.int (Int32.ofNat nn)), .val (.int q3), .val (.int q10), .val (.ref b15), .unset, .unset, .unset] [])) _
        exact k_)
      exact ⟨V178, _, T187, _, _, _, X187.more (show (1 + 2 * 5 + 2 * (min 7 nn - min 7 (nn - 5))) + 0 ≤ (1 + 2 * 5 + 2 * (min 8 nn - min 8 (nn - 5))) by omega) (by decide), e187, N187, (Keep.refl h178 [b15]), hS, (by first | exact hk | exact Nat.le_refl _ | (rw [← e187]; exact Nat.le_refl _)), hZ, hown, (CHr.refl CR.1), ⟨ds_178, rfl, G178_0, J178_0, J178_1⟩, s188⟩
    · have s189 : ∀ t_, Steps p.tables e below (T178.setTop (mkF m 138 #[.val (.long xl), .second, .val (.long yl), .second, .val (.int mode), .val (.int pos), .val (.int zz), .val (.int (Int32.ofNat nn)), .val (.int q3), .val (.int q10), .val (.ref b15), .unset, .unset, .unset] [(.long yl), (.long xl), (.int q10), (.int q3), (.int (7 : Int32)), (.ref b15)])) t_ → Steps p.tables e below (s₁.setTop (entryFrame m #[(.long xl), (.long yl), (.int mode), (.int pos), (.int zz)] maxLocals)) t_ := fun t_ k_ => s183 t_ (castTop (by rfl) k_)
      by_cases h190 : 7 + 5 < nn
      · have s191 : ∀ t_, Steps p.tables e below (T178.setTop (mkF m 138 #[.val (.long xl), .second, .val (.long yl), .second, .val (.int mode), .val (.int pos), .val (.int zz), .val (.int (Int32.ofNat nn)), .val (.int q3), .val (.int q10), .val (.ref b15), .unset, .unset, .unset] [(.long yl), (.long xl), (.int q10), (.int q3), (.int (7 : Int32)), (.ref b15)])) t_ → Steps p.tables e below (s₁.setTop (entryFrame m #[(.long xl), (.long yl), (.int mode), (.int pos), (.int zz)] maxLocals)) t_ := fun t_ k_ => s189 t_ (castTop (by rfl) k_)
        have Zc192 : n0 ≤ h178.size := by omega
        obtain ⟨_, _, ⟨T193, L193, k193, n193⟩, -, X193, ⟨Lc193, hQ193, l193, y193, z193⟩, st193⟩ := Jvm.LawKit.callS X178 hx (y := M23_) hown (mvT hZ (own_m hw 1 rfl)) (mvT hZ (own_m hw 2 rfl)) (mvT hZ (own_m hw 3 rfl)) (mvT hZ (own_m hw 4 rfl)) (by decide) (backOf (W := 0) (rmPutA5 l Z a0 hw [] b15 q3 q10 xl yl k15 ds_178 nn 7 h178 n0 Zc192 G178_0 J178_0 (by first | assumption | omega | rfl | decide) (by first | assumption | omega | rfl | decide) J178_1 (by first | assumption | omega | rfl | decide) (by first | assumption | omega | rfl | decide) (by first | assumption | omega | rfl | decide)) hZ (own_m hw 4 rfl) (own_m hw 3 rfl) (by decide) (by decide)) (g := (mkF m 138 #[.val (.long xl), .second, .val (.long yl), .second, .val (.int mode), .val (.int pos), .val (.int zz), .val (.int (Int32.ofNat nn)), .val (.int q3), .val (.int q10), .val (.ref b15), .unset, .unset, .unset] [(.long yl), (.long xl), (.int q10), (.int q3), (.int (7 : Int32)), (.ref b15)])) rfl (by rw [hml]; rfl) (argsL := [(.ref b15), (.int (7 : Int32)), (.int q3), (.int q10), (.long xl), (.long yl)]) (rest := []) (lenOf pd___CIZZJJ_V rfl) rfl (by show 2 * 0 + _ ≤ _; exact Nat.le_of_eq rfl) (dd hy at_138) (fun _ _ => ⟨rfl, e178, (show (1 + 2 * 5 + 2 * (min 7 nn - min 7 (nn - 5))) + 0 ≤ 32 by omega), (by decide : 303 + 0 ≤ _)⟩)
        dsimp only [Pt.U, Pt.locs, Pt.cells, Pt.slots] at X193 l193 y193 z193 st193 hQ193
        subst l193 y193 z193
        obtain ⟨ds_193, rfl, N193q, K193, Fq193_0, P193_0, P193_1⟩ := hQ193
        have N193 := Fr.app N178 N193q
        obtain ⟨h193, e193⟩ : ∃ z, T193.heap = z := ⟨_, rfl⟩
        rw [e193] at K193 Fq193_0
        have z194 : h178.size ≤ h193.size := K193.1
        have Cp194 : CHr Z ELs V178 h178 V178 h193 := CHr.keep K193 (sfS (Safe.arv hZ.alike G178_0 (by decide)) sf0) CR.1
        have hk := Nat.le_trans hk z194
        have CR := CR.trans Cp194
        have lt193_0 : @LT.lt Nat _ b15 h193.size := Fq193_0.lt
        have s195 : ∀ t_, Steps p.tables e below (T193.setTop (mkF m 141 #[.val (.long xl), .second, .val (.long yl), .second, .val (.int mode), .val (.int pos), .val (.int zz), .val (.int (Int32.ofNat nn)), .val (.int q3), .val (.int q10), .val (.ref b15), .unset, .unset, .unset] [])) t_ → Steps _ _ _ _ t_ := fun t_ k_ => s191 t_ (by
          refine st193 _ ?_
          show Steps _ _ _ (T193.setTop (mkF m 141 #[.val (.long xl), .second, .val (.long yl), .second, .val (.int mode), .val (.int pos), .val (.int zz), .val (.int (Int32.ofNat nn)), .val (.int q3), .val (.int q10), .val (.ref b15), .unset, .unset, .unset] [])) _
          exact k_)
        exact ⟨V178, _, T193, _, _, _, X193.more (show (1 + 2 * 5 + 2 * (min 7 nn - min 7 (nn - 5))) + 0 ≤ (1 + 2 * 5 + 2 * (min 8 nn - min 8 (nn - 5))) by omega) (by decide), e193, N193, ((Keep.refl h178 [b15]).trans K193 (allS (Or.inl (by simp)) all0)), hS, (by first | exact hk | exact Nat.le_refl _ | (rw [← e193]; exact Nat.le_refl _)), hZ, hown, Cp194, ⟨ds_193, rfl, Fq193_0, P193_0, P193_1⟩, s195⟩
      · have s196 : ∀ t_, Steps p.tables e below (T178.setTop (mkF m 138 #[.val (.long xl), .second, .val (.long yl), .second, .val (.int mode), .val (.int pos), .val (.int zz), .val (.int (Int32.ofNat nn)), .val (.int q3), .val (.int q10), .val (.ref b15), .unset, .unset, .unset] [(.long yl), (.long xl), (.int q10), (.int q3), (.int (7 : Int32)), (.ref b15)])) t_ → Steps p.tables e below (s₁.setTop (entryFrame m #[(.long xl), (.long yl), (.int mode), (.int pos), (.int zz)] maxLocals)) t_ := fun t_ k_ => s189 t_ (castTop (by rfl) k_)
        have Zc197 : n0 ≤ h178.size := by omega
        obtain ⟨_, _, ⟨T198, L198, k198, n198⟩, -, Xr198, hSr198, hg198, ⟨Lc198, hQ198, l198, y198, z198, Cp198⟩, st198⟩ := callSS X178 hx (y := M23_) hown (mvT hZ (own_m hw 1 rfl)) (mvT hZ (own_m hw 2 rfl)) (mvT hZ (own_m hw 3 rfl)) (mvT hZ (own_m hw 4 rfl)) (by decide) (backOfSH (s := s) (vm0 := V178) (W := 0) (rmPutB5 l Z a0 hw [] b15 q3 q10 xl yl cst k15 ds_178 nn 7 fmt h178 n0 Zc197 I1 hfmt I5 O181 hcst G178_0 J178_0 (by first | assumption | omega | rfl | decide) (by first | assumption | omega | rfl | decide) J178_1 (by first | assumption | omega | rfl | decide) (by first | assumption | omega | rfl | decide) (by first | assumption | omega | rfl | decide)) hZ (own_m hw 4 rfl) (own_m hw 3 rfl) (by decide) (by decide) hEL CR.1) (g := (mkF m 138 #[.val (.long xl), .second, .val (.long yl), .second, .val (.int mode), .val (.int pos), .val (.int zz), .val (.int (Int32.ofNat nn)), .val (.int q3), .val (.int q10), .val (.ref b15), .unset, .unset, .unset] [(.long yl), (.long xl), (.int q10), (.int q3), (.int (7 : Int32)), (.ref b15)])) rfl (by rw [hml]; rfl) (argsL := [(.ref b15), (.int (7 : Int32)), (.int q3), (.int q10), (.long xl), (.long yl)]) (rest := []) (lenOf pd___CIZZJJ_V rfl) rfl (by show 2 * 0 + _ ≤ _; exact Nat.le_of_eq rfl) (dd hy at_138) (fun _ _ => ⟨rfl, e178, (show (1 + 2 * 5 + 2 * (min 7 nn - min 7 (nn - 5))) + 2 ≤ 32 by omega), (by decide : 303 + 24 ≤ _)⟩)
        dsimp only [Pt.U, Pt.locs, Pt.cells, Pt.slots] at Xr198 hSr198 hg198 l198 y198 z198 st198 hQ198 Cp198
        subst l198 y198 z198
        obtain ⟨X198, hS, hZ, hown⟩ := rebS (own := "io/dyeline/store/LayoutIsDataFilePinLaw") hS (by first | exact Nat.le_refl _ | (rw [e178]; exact hk)) Xr198 hSr198 hg198 hZ hown
        obtain ⟨ds_198, rfl, N198q, K198, Fq198_0, P198_0, P198_1⟩ := hQ198
        have N198 := Fr.app N178 N198q
        obtain ⟨h198, e198⟩ : ∃ z, T198.heap = z := ⟨_, rfl⟩
        rw [e198] at K198 Fq198_0 Cp198
        have hk : T198.heap.size ≤ h198.size := Nat.le_of_eq (congrArg Array.size e198)
        have z199 : h178.size ≤ h198.size := K198.1
        have CR := CR.trans Cp198
        have lt198_0 : @LT.lt Nat _ b15 h198.size := Fq198_0.lt
        have s200 : ∀ t_, Steps p.tables e below (T198.setTop (mkF m 141 #[.val (.long xl), .second, .val (.long yl), .second, .val (.int mode), .val (.int pos), .val (.int zz), .val (.int (Int32.ofNat nn)), .val (.int q3), .val (.int q10), .val (.ref b15), .unset, .unset, .unset] [])) t_ → Steps _ _ _ _ t_ := fun t_ k_ => s196 t_ (by
          refine st198.trans ?_
          show Steps _ _ _ (T198.setTop (mkF m 141 #[.val (.long xl), .second, .val (.long yl), .second, .val (.int mode), .val (.int pos), .val (.int zz), .val (.int (Int32.ofNat nn)), .val (.int q3), .val (.int q10), .val (.ref b15), .unset, .unset, .unset] [])) _
          exact k_)
        exact ⟨T198.vm, _, T198, _, _, _, X198.more (show (1 + 2 * 5 + 2 * (min 7 nn - min 7 (nn - 5))) + 2 ≤ (1 + 2 * 5 + 2 * (min 8 nn - min 8 (nn - 5))) by omega) (by decide), e198, N198, ((Keep.refl h178 [b15]).trans K198 (allS (Or.inl (by simp)) all0)), hS, (by first | exact hk | exact Nat.le_refl _ | (rw [← e198]; exact Nat.le_refl _)), hZ, hown, Cp198, ⟨ds_198, rfl, Fq198_0, P198_0, P198_1⟩, s200⟩
  clear hk
  obtain ⟨V201, k201, T201, lo201, h201, fe201, X201, e201, N201, K201, hS, hk, hZ, hown, Cp201, A201, st201⟩ := bk182
  have z202 : h178.size ≤ h201.size := K201.1
  have CR := CR.trans Cp201
  obtain ⟨ds_201, rfl, G201_0, J201_0, J201_1⟩ := A201
  have s203 : ∀ t_, Steps p.tables e below (T201.setTop (mkF m 141 #[.val (.long xl), .second, .val (.long yl), .second, .val (.int mode), .val (.int pos), .val (.int zz), .val (.int (Int32.ofNat nn)), .val (.int q3), .val (.int q10), .val (.ref b15), .unset, .unset, .unset] [])) t_ → Steps p.tables e below (s₁.setTop (entryFrame m #[(.long xl), (.long yl), (.int mode), (.int pos), (.int zz)] maxLocals)) t_ := st201
  have lt201_0 : @LT.lt Nat _ b15 h201.size := G201_0.lt
  have zz201 : h15.size ≤ h201.size := Nat.le_trans zz178 z202
  have O204 : Old Z n0 h201 := (O181.keep K201 (allS (show n0 ≤ b15 by omega) all0))
  clear z202 zz178 lt178_0 J178_0 J178_1
  have bk205 : ∃ (V' : Vm) (k' : Nat) (T' : State) (lo' : List Loc) (hx_ : Heap) (fe_ : JFrame), Stand p l e room_1 (s.setVm V') m #[(.long xl), (.long yl), (.int mode), (.int pos), (.int zz)] below meth c T' lo' (1 + 2 * 5 + 2 * (min 9 nn - min 9 (nn - 5))) 351 ∧ T'.heap = hx_ ∧ Fr n0 lo' ∧ Keep h201 hx_ [b15] ∧ s.Since V' k' ∧ k' ≤ hx_.size ∧ Z.Warmed39 (s.setVm V').vm ∧ (s.setVm V').vm.findClass "io/dyeline/store/LayoutIsDataFilePinLaw" = some m.cls ∧ CHr Z ELs V201 h201 V' hx_ ∧ ((∃ (ds : List Int32), fe_ = (mkF m 154 #[.val (.long xl), .second, .val (.long yl), .second, .val (.int mode), .val (.int pos), .val (.int zz), .val (.int (Int32.ofNat nn)), .val (.int q3), .val (.int q10), .val (.ref b15), .unset, .unset, .unset] []) ∧ Arv Z hx_ b15 k15 .char (Int32.ofNat nn) (ds.map Value.int) v0_ ∧ (ds.length = nn) ∧ (own_chs ds))) ∧ ∀ t_, Steps p.tables e below (T'.setTop fe_) t_ → Steps p.tables e below (s₁.setTop (entryFrame m #[(.long xl), (.long yl), (.int mode), (.int pos), (.int zz)] maxLocals)) t_ := by
    have s206 : ∀ t_, Steps p.tables e below (T201.setTop (mkF m 151 #[.val (.long xl), .second, .val (.long yl), .second, .val (.int mode), .val (.int pos), .val (.int zz), .val (.int (Int32.ofNat nn)), .val (.int q3), .val (.int q10), .val (.ref b15), .unset, .unset, .unset] [(.long yl), (.long xl), (.int q10), (.int q3), (.int (8 : Int32)), (.ref b15)])) t_ → Steps _ _ _ _ t_ := fun t_ k_ => s203 t_ (by
      refine XS.aload X201.here hx rfl (dd hy at_141) rfl rfl ?_
      refine XS.bipush X201.here hx rfl (dd hy at_143) ?_
      refine XS.iload X201.here hx rfl (dd hy at_145) rfl ?_
      show Steps _ _ _ (T201.setTop (mkF m 147 #[.val (.long xl), .second, .val (.long yl), .second, .val (.int mode), .val (.int pos), .val (.int zz), .val (.int (Int32.ofNat nn)), .val (.int q3), .val (.int q10), .val (.ref b15), .unset, .unset, .unset] [(.int q3), (.int (8 : Int32)), (.ref b15)])) _
      refine XS.iload X201.here hx rfl (dd hy at_147) rfl ?_
      refine XS.lloadN X201.here hx rfl (dd hy at_149) rfl ?_
      refine XS.lloadN X201.here hx rfl (dd hy at_150) rfl ?_
      exact k_)
    by_cases h207 : nn ≤ 8
    · have s208 : ∀ t_, Steps p.tables e below (T201.setTop (mkF m 151 #[.val (.long xl), .second, .val (.long yl), .second, .val (.int mode), .val (.int pos), .val (.int zz), .val (.int (Int32.ofNat nn)), .val (.int q3), .val (.int q10), .val (.ref b15), .unset, .unset, .unset] [(.long yl), (.long xl), (.int q10), (.int q3), (.int (8 : Int32)), (.ref b15)])) t_ → Steps p.tables e below (s₁.setTop (entryFrame m #[(.long xl), (.long yl), (.int mode), (.int pos), (.int zz)] maxLocals)) t_ := fun t_ k_ => s206 t_ (castTop (by rfl) k_)
      have Zc209 : n0 ≤ h201.size := by omega
      obtain ⟨_, _, ⟨T210, L210, k210, n210⟩, -, X210, ⟨Lc210, hQ210, l210, y210, z210⟩, st210⟩ := Jvm.LawKit.callS X201 hx (y := M23_) hown (mvT hZ (own_m hw 1 rfl)) (mvT hZ (own_m hw 2 rfl)) (mvT hZ (own_m hw 3 rfl)) (mvT hZ (own_m hw 4 rfl)) (by decide) (backOf (W := 0) (rmPutN l Z a0 hw [] b15 q3 q10 xl yl k15 ds_201 nn 8 h201 n0 Zc209 G201_0 (by first | assumption | omega | rfl | decide) (by first | assumption | omega | rfl | decide)) hZ (own_m hw 4 rfl) (own_m hw 3 rfl) (by decide) (by decide)) (g := (mkF m 151 #[.val (.long xl), .second, .val (.long yl), .second, .val (.int mode), .val (.int pos), .val (.int zz), .val (.int (Int32.ofNat nn)), .val (.int q3), .val (.int q10), .val (.ref b15), .unset, .unset, .unset] [(.long yl), (.long xl), (.int q10), (.int q3), (.int (8 : Int32)), (.ref b15)])) rfl (by rw [hml]; rfl) (argsL := [(.ref b15), (.int (8 : Int32)), (.int q3), (.int q10), (.long xl), (.long yl)]) (rest := []) (lenOf pd___CIZZJJ_V rfl) rfl (by show 2 * 0 + _ ≤ _; exact Nat.le_of_eq rfl) (dd hy at_151) (fun _ _ => ⟨rfl, e201, (show (1 + 2 * 5 + 2 * (min 8 nn - min 8 (nn - 5))) + 0 ≤ 32 by omega), (by decide : 327 + 0 ≤ _)⟩)
      dsimp only [Pt.U, Pt.locs, Pt.cells, Pt.slots] at X210 l210 y210 z210 st210 hQ210
      subst l210 y210 z210
      obtain ⟨rfl, N210q, e210⟩ := hQ210
      have N210 := Fr.app N201 N210q
      have s211 : ∀ t_, Steps p.tables e below (T210.setTop (mkF m 154 #[.val (.long xl), .second, .val (.long yl), .second, .val (.int mode), .val (.int pos), .val (.int zz), .val (.int (Int32.ofNat nn)), .val (.int q3), .val (.int q10), .val (.ref b15), .unset, .unset, .unset] [])) t_ → Steps _ _ _ _ t_ := fun t_ k_ => s208 t_ (by
        refine st210 _ ?_
        show Steps _ _ _ (T210.setTop (mkF m 154 #[.val (.long xl), .second, .val (.long yl), .second, .val (.int mode), .val (.int pos), .val (.int zz), .val (.int (Int32.ofNat nn)), .val (.int q3), .val (.int q10), .val (.ref b15), .unset, .unset, .unset] [])) _
        exact k_)
      exact ⟨V201, _, T210, _, _, _, X210.more (show (1 + 2 * 5 + 2 * (min 8 nn - min 8 (nn - 5))) + 0 ≤ (1 + 2 * 5 + 2 * (min 9 nn - min 9 (nn - 5))) by omega) (by decide), e210, N210, (Keep.refl h201 [b15]), hS, (by first | exact hk | exact Nat.le_refl _ | (rw [← e210]; exact Nat.le_refl _)), hZ, hown, (CHr.refl CR.1), ⟨ds_201, rfl, G201_0, J201_0, J201_1⟩, s211⟩
    · have s212 : ∀ t_, Steps p.tables e below (T201.setTop (mkF m 151 #[.val (.long xl), .second, .val (.long yl), .second, .val (.int mode), .val (.int pos), .val (.int zz), .val (.int (Int32.ofNat nn)), .val (.int q3), .val (.int q10), .val (.ref b15), .unset, .unset, .unset] [(.long yl), (.long xl), (.int q10), (.int q3), (.int (8 : Int32)), (.ref b15)])) t_ → Steps p.tables e below (s₁.setTop (entryFrame m #[(.long xl), (.long yl), (.int mode), (.int pos), (.int zz)] maxLocals)) t_ := fun t_ k_ => s206 t_ (castTop (by rfl) k_)
      by_cases h213 : 8 + 5 < nn
      · have s214 : ∀ t_, Steps p.tables e below (T201.setTop (mkF m 151 #[.val (.long xl), .second, .val (.long yl), .second, .val (.int mode), .val (.int pos), .val (.int zz), .val (.int (Int32.ofNat nn)), .val (.int q3), .val (.int q10), .val (.ref b15), .unset, .unset, .unset] [(.long yl), (.long xl), (.int q10), (.int q3), (.int (8 : Int32)), (.ref b15)])) t_ → Steps p.tables e below (s₁.setTop (entryFrame m #[(.long xl), (.long yl), (.int mode), (.int pos), (.int zz)] maxLocals)) t_ := fun t_ k_ => s212 t_ (castTop (by rfl) k_)
        have Zc215 : n0 ≤ h201.size := by omega
        obtain ⟨_, _, ⟨T216, L216, k216, n216⟩, -, X216, ⟨Lc216, hQ216, l216, y216, z216⟩, st216⟩ := Jvm.LawKit.callS X201 hx (y := M23_) hown (mvT hZ (own_m hw 1 rfl)) (mvT hZ (own_m hw 2 rfl)) (mvT hZ (own_m hw 3 rfl)) (mvT hZ (own_m hw 4 rfl)) (by decide) (backOf (W := 0) (rmPutA5 l Z a0 hw [] b15 q3 q10 xl yl k15 ds_201 nn 8 h201 n0 Zc215 G201_0 J201_0 (by first | assumption | omega | rfl | decide) (by first | assumption | omega | rfl | decide) J201_1 (by first | assumption | omega | rfl | decide) (by first | assumption | omega | rfl | decide) (by first | assumption | omega | rfl | decide)) hZ (own_m hw 4 rfl) (own_m hw 3 rfl) (by decide) (by decide)) (g := (mkF m 151 #[.val (.long xl), .second, .val (.long yl), .second, .val (.int mode), .val (.int pos), .val (.int zz), .val (.int (Int32.ofNat nn)), .val (.int q3), .val (.int q10), .val (.ref b15), .unset, .unset, .unset] [(.long yl), (.long xl), (.int q10), (.int q3), (.int (8 : Int32)), (.ref b15)])) rfl (by rw [hml]; rfl) (argsL := [(.ref b15), (.int (8 : Int32)), (.int q3), (.int q10), (.long xl), (.long yl)]) (rest := []) (lenOf pd___CIZZJJ_V rfl) rfl (by show 2 * 0 + _ ≤ _; exact Nat.le_of_eq rfl) (dd hy at_151) (fun _ _ => ⟨rfl, e201, (show (1 + 2 * 5 + 2 * (min 8 nn - min 8 (nn - 5))) + 0 ≤ 32 by omega), (by decide : 327 + 0 ≤ _)⟩)
        dsimp only [Pt.U, Pt.locs, Pt.cells, Pt.slots] at X216 l216 y216 z216 st216 hQ216
        subst l216 y216 z216
        obtain ⟨ds_216, rfl, N216q, K216, Fq216_0, P216_0, P216_1⟩ := hQ216
        have N216 := Fr.app N201 N216q
        obtain ⟨h216, e216⟩ : ∃ z, T216.heap = z := ⟨_, rfl⟩
        rw [e216] at K216 Fq216_0
        have z217 : h201.size ≤ h216.size := K216.1
        have Cp217 : CHr Z ELs V201 h201 V201 h216 := CHr.keep K216 (sfS (Safe.arv hZ.alike G201_0 (by decide)) sf0) CR.1
        have hk := Nat.le_trans hk z217
        have CR := CR.trans Cp217
        have lt216_0 : @LT.lt Nat _ b15 h216.size := Fq216_0.lt
        have s218 : ∀ t_, Steps p.tables e below (T216.setTop (mkF m 154 #[.val (.long xl), .second, .val (.long yl), .second, .val (.int mode), .val (.int pos), .val (.int zz), .val (.int (Int32.ofNat nn)), .val (.int q3), .val (.int q10), .val (.ref b15), .unset, .unset, .unset] [])) t_ → Steps _ _ _ _ t_ := fun t_ k_ => s214 t_ (by
          refine st216 _ ?_
          show Steps _ _ _ (T216.setTop (mkF m 154 #[.val (.long xl), .second, .val (.long yl), .second, .val (.int mode), .val (.int pos), .val (.int zz), .val (.int (Int32.ofNat nn)), .val (.int q3), .val (.int q10), .val (.ref b15), .unset, .unset, .unset] [])) _
          exact k_)
        exact ⟨V201, _, T216, _, _, _, X216.more (show (1 + 2 * 5 + 2 * (min 8 nn - min 8 (nn - 5))) + 0 ≤ (1 + 2 * 5 + 2 * (min 9 nn - min 9 (nn - 5))) by omega) (by decide), e216, N216, ((Keep.refl h201 [b15]).trans K216 (allS (Or.inl (by simp)) all0)), hS, (by first | exact hk | exact Nat.le_refl _ | (rw [← e216]; exact Nat.le_refl _)), hZ, hown, Cp217, ⟨ds_216, rfl, Fq216_0, P216_0, P216_1⟩, s218⟩
      · have s219 : ∀ t_, Steps p.tables e below (T201.setTop (mkF m 151 #[.val (.long xl), .second, .val (.long yl), .second, .val (.int mode), .val (.int pos), .val (.int zz), .val (.int (Int32.ofNat nn)), .val (.int q3), .val (.int q10), .val (.ref b15), .unset, .unset, .unset] [(.long yl), (.long xl), (.int q10), (.int q3), (.int (8 : Int32)), (.ref b15)])) t_ → Steps p.tables e below (s₁.setTop (entryFrame m #[(.long xl), (.long yl), (.int mode), (.int pos), (.int zz)] maxLocals)) t_ := fun t_ k_ => s212 t_ (castTop (by rfl) k_)
        have Zc220 : n0 ≤ h201.size := by omega
        obtain ⟨_, _, ⟨T221, L221, k221, n221⟩, -, Xr221, hSr221, hg221, ⟨Lc221, hQ221, l221, y221, z221, Cp221⟩, st221⟩ := callSS X201 hx (y := M23_) hown (mvT hZ (own_m hw 1 rfl)) (mvT hZ (own_m hw 2 rfl)) (mvT hZ (own_m hw 3 rfl)) (mvT hZ (own_m hw 4 rfl)) (by decide) (backOfSH (s := s) (vm0 := V201) (W := 0) (rmPutB5 l Z a0 hw [] b15 q3 q10 xl yl cst k15 ds_201 nn 8 fmt h201 n0 Zc220 I1 hfmt I5 O204 hcst G201_0 J201_0 (by first | assumption | omega | rfl | decide) (by first | assumption | omega | rfl | decide) J201_1 (by first | assumption | omega | rfl | decide) (by first | assumption | omega | rfl | decide) (by first | assumption | omega | rfl | decide)) hZ (own_m hw 4 rfl) (own_m hw 3 rfl) (by decide) (by decide) hEL CR.1) (g := (mkF m 151 #[.val (.long xl), .second, .val (.long yl), .second, .val (.int mode), .val (.int pos), .val (.int zz), .val (.int (Int32.ofNat nn)), .val (.int q3), .val (.int q10), .val (.ref b15), .unset, .unset, .unset] [(.long yl), (.long xl), (.int q10), (.int q3), (.int (8 : Int32)), (.ref b15)])) rfl (by rw [hml]; rfl) (argsL := [(.ref b15), (.int (8 : Int32)), (.int q3), (.int q10), (.long xl), (.long yl)]) (rest := []) (lenOf pd___CIZZJJ_V rfl) rfl (by show 2 * 0 + _ ≤ _; exact Nat.le_of_eq rfl) (dd hy at_151) (fun _ _ => ⟨rfl, e201, (show (1 + 2 * 5 + 2 * (min 8 nn - min 8 (nn - 5))) + 2 ≤ 32 by omega), (by decide : 327 + 24 ≤ _)⟩)
        dsimp only [Pt.U, Pt.locs, Pt.cells, Pt.slots] at Xr221 hSr221 hg221 l221 y221 z221 st221 hQ221 Cp221
        subst l221 y221 z221
        obtain ⟨X221, hS, hZ, hown⟩ := rebS (own := "io/dyeline/store/LayoutIsDataFilePinLaw") hS (by first | exact Nat.le_refl _ | (rw [e201]; exact hk)) Xr221 hSr221 hg221 hZ hown
        obtain ⟨ds_221, rfl, N221q, K221, Fq221_0, P221_0, P221_1⟩ := hQ221
        have N221 := Fr.app N201 N221q
        obtain ⟨h221, e221⟩ : ∃ z, T221.heap = z := ⟨_, rfl⟩
        rw [e221] at K221 Fq221_0 Cp221
        have hk : T221.heap.size ≤ h221.size := Nat.le_of_eq (congrArg Array.size e221)
        have z222 : h201.size ≤ h221.size := K221.1
        have CR := CR.trans Cp221
        have lt221_0 : @LT.lt Nat _ b15 h221.size := Fq221_0.lt
        have s223 : ∀ t_, Steps p.tables e below (T221.setTop (mkF m 154 #[.val (.long xl), .second, .val (.long yl), .second, .val (.int mode), .val (.int pos), .val (.int zz), .val (.int (Int32.ofNat nn)), .val (.int q3), .val (.int q10), .val (.ref b15), .unset, .unset, .unset] [])) t_ → Steps _ _ _ _ t_ := fun t_ k_ => s219 t_ (by
          refine st221.trans ?_
          show Steps _ _ _ (T221.setTop (mkF m 154 #[.val (.long xl), .second, .val (.long yl), .second, .val (.int mode), .val (.int pos), .val (.int zz), .val (.int (Int32.ofNat nn)), .val (.int q3), .val (.int q10), .val (.ref b15), .unset, .unset, .unset] [])) _
          exact k_)
        exact ⟨T221.vm, _, T221, _, _, _, X221.more (show (1 + 2 * 5 + 2 * (min 8 nn - min 8 (nn - 5))) + 2 ≤ (1 + 2 * 5 + 2 * (min 9 nn - min 9 (nn - 5))) by omega) (by decide), e221, N221, ((Keep.refl h201 [b15]).trans K221 (allS (Or.inl (by simp)) all0)), hS, (by first | exact hk | exact Nat.le_refl _ | (rw [← e221]; exact Nat.le_refl _)), hZ, hown, Cp221, ⟨ds_221, rfl, Fq221_0, P221_0, P221_1⟩, s223⟩
  clear hk
  obtain ⟨V224, k224, T224, lo224, h224, fe224, X224, e224, N224, K224, hS, hk, hZ, hown, Cp224, A224, st224⟩ := bk205
  have z225 : h201.size ≤ h224.size := K224.1
  have CR := CR.trans Cp224
  obtain ⟨ds_224, rfl, G224_0, J224_0, J224_1⟩ := A224
  have s226 : ∀ t_, Steps p.tables e below (T224.setTop (mkF m 154 #[.val (.long xl), .second, .val (.long yl), .second, .val (.int mode), .val (.int pos), .val (.int zz), .val (.int (Int32.ofNat nn)), .val (.int q3), .val (.int q10), .val (.ref b15), .unset, .unset, .unset] [])) t_ → Steps p.tables e below (s₁.setTop (entryFrame m #[(.long xl), (.long yl), (.int mode), (.int pos), (.int zz)] maxLocals)) t_ := st224
  have lt224_0 : @LT.lt Nat _ b15 h224.size := G224_0.lt
  have zz224 : h15.size ≤ h224.size := Nat.le_trans zz201 z225
  have O227 : Old Z n0 h224 := (O204.keep K224 (allS (show n0 ≤ b15 by omega) all0))
  clear z225 zz201 lt201_0 J201_0 J201_1
  have bk228 : ∃ (V' : Vm) (k' : Nat) (T' : State) (lo' : List Loc) (hx_ : Heap) (fe_ : JFrame), Stand p l e room_1 (s.setVm V') m #[(.long xl), (.long yl), (.int mode), (.int pos), (.int zz)] below meth c T' lo' (1 + 2 * 5 + 2 * (min 10 nn - min 10 (nn - 5))) 375 ∧ T'.heap = hx_ ∧ Fr n0 lo' ∧ Keep h224 hx_ [b15] ∧ s.Since V' k' ∧ k' ≤ hx_.size ∧ Z.Warmed39 (s.setVm V').vm ∧ (s.setVm V').vm.findClass "io/dyeline/store/LayoutIsDataFilePinLaw" = some m.cls ∧ CHr Z ELs V224 h224 V' hx_ ∧ ((∃ (ds : List Int32), fe_ = (mkF m 167 #[.val (.long xl), .second, .val (.long yl), .second, .val (.int mode), .val (.int pos), .val (.int zz), .val (.int (Int32.ofNat nn)), .val (.int q3), .val (.int q10), .val (.ref b15), .unset, .unset, .unset] []) ∧ Arv Z hx_ b15 k15 .char (Int32.ofNat nn) (ds.map Value.int) v0_ ∧ (ds.length = nn) ∧ (own_chs ds))) ∧ ∀ t_, Steps p.tables e below (T'.setTop fe_) t_ → Steps p.tables e below (s₁.setTop (entryFrame m #[(.long xl), (.long yl), (.int mode), (.int pos), (.int zz)] maxLocals)) t_ := by
    have s229 : ∀ t_, Steps p.tables e below (T224.setTop (mkF m 164 #[.val (.long xl), .second, .val (.long yl), .second, .val (.int mode), .val (.int pos), .val (.int zz), .val (.int (Int32.ofNat nn)), .val (.int q3), .val (.int q10), .val (.ref b15), .unset, .unset, .unset] [(.long yl), (.long xl), (.int q10), (.int q3), (.int (9 : Int32)), (.ref b15)])) t_ → Steps _ _ _ _ t_ := fun t_ k_ => s226 t_ (by
      refine XS.aload X224.here hx rfl (dd hy at_154) rfl rfl ?_
      refine XS.bipush X224.here hx rfl (dd hy at_156) ?_
      refine XS.iload X224.here hx rfl (dd hy at_158) rfl ?_
      show Steps _ _ _ (T224.setTop (mkF m 160 #[.val (.long xl), .second, .val (.long yl), .second, .val (.int mode), .val (.int pos), .val (.int zz), .val (.int (Int32.ofNat nn)), .val (.int q3), .val (.int q10), .val (.ref b15), .unset, .unset, .unset] [(.int q3), (.int (9 : Int32)), (.ref b15)])) _
      refine XS.iload X224.here hx rfl (dd hy at_160) rfl ?_
      refine XS.lloadN X224.here hx rfl (dd hy at_162) rfl ?_
      refine XS.lloadN X224.here hx rfl (dd hy at_163) rfl ?_
      exact k_)
    by_cases h230 : nn ≤ 9
    · have s231 : ∀ t_, Steps p.tables e below (T224.setTop (mkF m 164 #[.val (.long xl), .second, .val (.long yl), .second, .val (.int mode), .val (.int pos), .val (.int zz), .val (.int (Int32.ofNat nn)), .val (.int q3), .val (.int q10), .val (.ref b15), .unset, .unset, .unset] [(.long yl), (.long xl), (.int q10), (.int q3), (.int (9 : Int32)), (.ref b15)])) t_ → Steps p.tables e below (s₁.setTop (entryFrame m #[(.long xl), (.long yl), (.int mode), (.int pos), (.int zz)] maxLocals)) t_ := fun t_ k_ => s229 t_ (castTop (by rfl) k_)
      have Zc232 : n0 ≤ h224.size := by omega
      obtain ⟨_, _, ⟨T233, L233, k233, n233⟩, -, X233, ⟨Lc233, hQ233, l233, y233, z233⟩, st233⟩ := Jvm.LawKit.callS X224 hx (y := M23_) hown (mvT hZ (own_m hw 1 rfl)) (mvT hZ (own_m hw 2 rfl)) (mvT hZ (own_m hw 3 rfl)) (mvT hZ (own_m hw 4 rfl)) (by decide) (backOf (W := 0) (rmPutN l Z a0 hw [] b15 q3 q10 xl yl k15 ds_224 nn 9 h224 n0 Zc232 G224_0 (by first | assumption | omega | rfl | decide) (by first | assumption | omega | rfl | decide)) hZ (own_m hw 4 rfl) (own_m hw 3 rfl) (by decide) (by decide)) (g := (mkF m 164 #[.val (.long xl), .second, .val (.long yl), .second, .val (.int mode), .val (.int pos), .val (.int zz), .val (.int (Int32.ofNat nn)), .val (.int q3), .val (.int q10), .val (.ref b15), .unset, .unset, .unset] [(.long yl), (.long xl), (.int q10), (.int q3), (.int (9 : Int32)), (.ref b15)])) rfl (by rw [hml]; rfl) (argsL := [(.ref b15), (.int (9 : Int32)), (.int q3), (.int q10), (.long xl), (.long yl)]) (rest := []) (lenOf pd___CIZZJJ_V rfl) rfl (by show 2 * 0 + _ ≤ _; exact Nat.le_of_eq rfl) (dd hy at_164) (fun _ _ => ⟨rfl, e224, (show (1 + 2 * 5 + 2 * (min 9 nn - min 9 (nn - 5))) + 0 ≤ 32 by omega), (by decide : 351 + 0 ≤ _)⟩)
      dsimp only [Pt.U, Pt.locs, Pt.cells, Pt.slots] at X233 l233 y233 z233 st233 hQ233
      subst l233 y233 z233
      obtain ⟨rfl, N233q, e233⟩ := hQ233
      have N233 := Fr.app N224 N233q
      have s234 : ∀ t_, Steps p.tables e below (T233.setTop (mkF m 167 #[.val (.long xl), .second, .val (.long yl), .second, .val (.int mode), .val (.int pos), .val (.int zz), .val (.int (Int32.ofNat nn)), .val (.int q3), .val (.int q10), .val (.ref b15), .unset, .unset, .unset] [])) t_ → Steps _ _ _ _ t_ := fun t_ k_ => s231 t_ (by
        refine st233 _ ?_
        show Steps _ _ _ (T233.setTop (mkF m 167 #[.val (.long xl), .second, .val (.long yl), .second, .val (.int mode), .val (.int pos), .val (.int zz), .val (.int (Int32.ofNat nn)), .val (.int q3), .val (.int q10), .val (.ref b15), .unset, .unset, .unset] [])) _
        exact k_)
      exact ⟨V224, _, T233, _, _, _, X233.more (show (1 + 2 * 5 + 2 * (min 9 nn - min 9 (nn - 5))) + 0 ≤ (1 + 2 * 5 + 2 * (min 10 nn - min 10 (nn - 5))) by omega) (by decide), e233, N233, (Keep.refl h224 [b15]), hS, (by first | exact hk | exact Nat.le_refl _ | (rw [← e233]; exact Nat.le_refl _)), hZ, hown, (CHr.refl CR.1), ⟨ds_224, rfl, G224_0, J224_0, J224_1⟩, s234⟩
    · have s235 : ∀ t_, Steps p.tables e below (T224.setTop (mkF m 164 #[.val (.long xl), .second, .val (.long yl), .second, .val (.int mode), .val (.int pos), .val (.int zz), .val (.int (Int32.ofNat nn)), .val (.int q3), .val (.int q10), .val (.ref b15), .unset, .unset, .unset] [(.long yl), (.long xl), (.int q10), (.int q3), (.int (9 : Int32)), (.ref b15)])) t_ → Steps p.tables e below (s₁.setTop (entryFrame m #[(.long xl), (.long yl), (.int mode), (.int pos), (.int zz)] maxLocals)) t_ := fun t_ k_ => s229 t_ (castTop (by rfl) k_)
      by_cases h236 : 9 + 5 < nn
      · have s237 : ∀ t_, Steps p.tables e below (T224.setTop (mkF m 164 #[.val (.long xl), .second, .val (.long yl), .second, .val (.int mode), .val (.int pos), .val (.int zz), .val (.int (Int32.ofNat nn)), .val (.int q3), .val (.int q10), .val (.ref b15), .unset, .unset, .unset] [(.long yl), (.long xl), (.int q10), (.int q3), (.int (9 : Int32)), (.ref b15)])) t_ → Steps p.tables e below (s₁.setTop (entryFrame m #[(.long xl), (.long yl), (.int mode), (.int pos), (.int zz)] maxLocals)) t_ := fun t_ k_ => s235 t_ (castTop (by rfl) k_)
        have Zc238 : n0 ≤ h224.size := by omega
        obtain ⟨_, _, ⟨T239, L239, k239, n239⟩, -, X239, ⟨Lc239, hQ239, l239, y239, z239⟩, st239⟩ := Jvm.LawKit.callS X224 hx (y := M23_) hown (mvT hZ (own_m hw 1 rfl)) (mvT hZ (own_m hw 2 rfl)) (mvT hZ (own_m hw 3 rfl)) (mvT hZ (own_m hw 4 rfl)) (by decide) (backOf (W := 0) (rmPutA5 l Z a0 hw [] b15 q3 q10 xl yl k15 ds_224 nn 9 h224 n0 Zc238 G224_0 J224_0 (by first | assumption | omega | rfl | decide) (by first | assumption | omega | rfl | decide) J224_1 (by first | assumption | omega | rfl | decide) (by first | assumption | omega | rfl | decide) (by first | assumption | omega | rfl | decide)) hZ (own_m hw 4 rfl) (own_m hw 3 rfl) (by decide) (by decide)) (g := (mkF m 164 #[.val (.long xl), .second, .val (.long yl), .second, .val (.int mode), .val (.int pos), .val (.int zz), .val (.int (Int32.ofNat nn)), .val (.int q3), .val (.int q10), .val (.ref b15), .unset, .unset, .unset] [(.long yl), (.long xl), (.int q10), (.int q3), (.int (9 : Int32)), (.ref b15)])) rfl (by rw [hml]; rfl) (argsL := [(.ref b15), (.int (9 : Int32)), (.int q3), (.int q10), (.long xl), (.long yl)]) (rest := []) (lenOf pd___CIZZJJ_V rfl) rfl (by show 2 * 0 + _ ≤ _; exact Nat.le_of_eq rfl) (dd hy at_164) (fun _ _ => ⟨rfl, e224, (show (1 + 2 * 5 + 2 * (min 9 nn - min 9 (nn - 5))) + 0 ≤ 32 by omega), (by decide : 351 + 0 ≤ _)⟩)
        dsimp only [Pt.U, Pt.locs, Pt.cells, Pt.slots] at X239 l239 y239 z239 st239 hQ239
        subst l239 y239 z239
        obtain ⟨ds_239, rfl, N239q, K239, Fq239_0, P239_0, P239_1⟩ := hQ239
        have N239 := Fr.app N224 N239q
        obtain ⟨h239, e239⟩ : ∃ z, T239.heap = z := ⟨_, rfl⟩
        rw [e239] at K239 Fq239_0
        have z240 : h224.size ≤ h239.size := K239.1
        have Cp240 : CHr Z ELs V224 h224 V224 h239 := CHr.keep K239 (sfS (Safe.arv hZ.alike G224_0 (by decide)) sf0) CR.1
        have hk := Nat.le_trans hk z240
        have CR := CR.trans Cp240
        have lt239_0 : @LT.lt Nat _ b15 h239.size := Fq239_0.lt
        have s241 : ∀ t_, Steps p.tables e below (T239.setTop (mkF m 167 #[.val (.long xl), .second, .val (.long yl), .second, .val (.int mode), .val (.int pos), .val (.int zz), .val (.int (Int32.ofNat nn)), .val (.int q3), .val (.int q10), .val (.ref b15), .unset, .unset, .unset] [])) t_ → Steps _ _ _ _ t_ := fun t_ k_ => s237 t_ (by
          refine st239 _ ?_
          show Steps _ _ _ (T239.setTop (mkF m 167 #[.val (.long xl), .second, .val (.long yl), .second, .val (.int mode), .val (.int pos), .val (.int zz), .val (.int (Int32.ofNat nn)), .val (.int q3), .val (.int q10), .val (.ref b15), .unset, .unset, .unset] [])) _
          exact k_)
        exact ⟨V224, _, T239, _, _, _, X239.more (show (1 + 2 * 5 + 2 * (min 9 nn - min 9 (nn - 5))) + 0 ≤ (1 + 2 * 5 + 2 * (min 10 nn - min 10 (nn - 5))) by omega) (by decide), e239, N239, ((Keep.refl h224 [b15]).trans K239 (allS (Or.inl (by simp)) all0)), hS, (by first | exact hk | exact Nat.le_refl _ | (rw [← e239]; exact Nat.le_refl _)), hZ, hown, Cp240, ⟨ds_239, rfl, Fq239_0, P239_0, P239_1⟩, s241⟩
      · have s242 : ∀ t_, Steps p.tables e below (T224.setTop (mkF m 164 #[.val (.long xl), .second, .val (.long yl), .second, .val (.int mode), .val (.int pos), .val (.int zz), .val (.int (Int32.ofNat nn)), .val (.int q3), .val (.int q10), .val (.ref b15), .unset, .unset, .unset] [(.long yl), (.long xl), (.int q10), (.int q3), (.int (9 : Int32)), (.ref b15)])) t_ → Steps p.tables e below (s₁.setTop (entryFrame m #[(.long xl), (.long yl), (.int mode), (.int pos), (.int zz)] maxLocals)) t_ := fun t_ k_ => s235 t_ (castTop (by rfl) k_)
        have Zc243 : n0 ≤ h224.size := by omega
        obtain ⟨_, _, ⟨T244, L244, k244, n244⟩, -, Xr244, hSr244, hg244, ⟨Lc244, hQ244, l244, y244, z244, Cp244⟩, st244⟩ := callSS X224 hx (y := M23_) hown (mvT hZ (own_m hw 1 rfl)) (mvT hZ (own_m hw 2 rfl)) (mvT hZ (own_m hw 3 rfl)) (mvT hZ (own_m hw 4 rfl)) (by decide) (backOfSH (s := s) (vm0 := V224) (W := 0) (rmPutB5 l Z a0 hw [] b15 q3 q10 xl yl cst k15 ds_224 nn 9 fmt h224 n0 Zc243 I1 hfmt I5 O227 hcst G224_0 J224_0 (by first | assumption | omega | rfl | decide) (by first | assumption | omega | rfl | decide) J224_1 (by first | assumption | omega | rfl | decide) (by first | assumption | omega | rfl | decide) (by first | assumption | omega | rfl | decide)) hZ (own_m hw 4 rfl) (own_m hw 3 rfl) (by decide) (by decide) hEL CR.1) (g := (mkF m 164 #[.val (.long xl), .second, .val (.long yl), .second, .val (.int mode), .val (.int pos), .val (.int zz), .val (.int (Int32.ofNat nn)), .val (.int q3), .val (.int q10), .val (.ref b15), .unset, .unset, .unset] [(.long yl), (.long xl), (.int q10), (.int q3), (.int (9 : Int32)), (.ref b15)])) rfl (by rw [hml]; rfl) (argsL := [(.ref b15), (.int (9 : Int32)), (.int q3), (.int q10), (.long xl), (.long yl)]) (rest := []) (lenOf pd___CIZZJJ_V rfl) rfl (by show 2 * 0 + _ ≤ _; exact Nat.le_of_eq rfl) (dd hy at_164) (fun _ _ => ⟨rfl, e224, (show (1 + 2 * 5 + 2 * (min 9 nn - min 9 (nn - 5))) + 2 ≤ 32 by omega), (by decide : 351 + 24 ≤ _)⟩)
        dsimp only [Pt.U, Pt.locs, Pt.cells, Pt.slots] at Xr244 hSr244 hg244 l244 y244 z244 st244 hQ244 Cp244
        subst l244 y244 z244
        obtain ⟨X244, hS, hZ, hown⟩ := rebS (own := "io/dyeline/store/LayoutIsDataFilePinLaw") hS (by first | exact Nat.le_refl _ | (rw [e224]; exact hk)) Xr244 hSr244 hg244 hZ hown
        obtain ⟨ds_244, rfl, N244q, K244, Fq244_0, P244_0, P244_1⟩ := hQ244
        have N244 := Fr.app N224 N244q
        obtain ⟨h244, e244⟩ : ∃ z, T244.heap = z := ⟨_, rfl⟩
        rw [e244] at K244 Fq244_0 Cp244
        have hk : T244.heap.size ≤ h244.size := Nat.le_of_eq (congrArg Array.size e244)
        have z245 : h224.size ≤ h244.size := K244.1
        have CR := CR.trans Cp244
        have lt244_0 : @LT.lt Nat _ b15 h244.size := Fq244_0.lt
        have s246 : ∀ t_, Steps p.tables e below (T244.setTop (mkF m 167 #[.val (.long xl), .second, .val (.long yl), .second, .val (.int mode), .val (.int pos), .val (.int zz), .val (.int (Int32.ofNat nn)), .val (.int q3), .val (.int q10), .val (.ref b15), .unset, .unset, .unset] [])) t_ → Steps _ _ _ _ t_ := fun t_ k_ => s242 t_ (by
          refine st244.trans ?_
          show Steps _ _ _ (T244.setTop (mkF m 167 #[.val (.long xl), .second, .val (.long yl), .second, .val (.int mode), .val (.int pos), .val (.int zz), .val (.int (Int32.ofNat nn)), .val (.int q3), .val (.int q10), .val (.ref b15), .unset, .unset, .unset] [])) _
          exact k_)
        exact ⟨T244.vm, _, T244, _, _, _, X244.more (show (1 + 2 * 5 + 2 * (min 9 nn - min 9 (nn - 5))) + 2 ≤ (1 + 2 * 5 + 2 * (min 10 nn - min 10 (nn - 5))) by omega) (by decide), e244, N244, ((Keep.refl h224 [b15]).trans K244 (allS (Or.inl (by simp)) all0)), hS, (by first | exact hk | exact Nat.le_refl _ | (rw [← e244]; exact Nat.le_refl _)), hZ, hown, Cp244, ⟨ds_244, rfl, Fq244_0, P244_0, P244_1⟩, s246⟩
  clear hk
  obtain ⟨V247, k247, T247, lo247, h247, fe247, X247, e247, N247, K247, hS, hk, hZ, hown, Cp247, A247, st247⟩ := bk228
  have z248 : h224.size ≤ h247.size := K247.1
  have CR := CR.trans Cp247
  obtain ⟨ds_247, rfl, G247_0, J247_0, J247_1⟩ := A247
  have s249 : ∀ t_, Steps p.tables e below (T247.setTop (mkF m 167 #[.val (.long xl), .second, .val (.long yl), .second, .val (.int mode), .val (.int pos), .val (.int zz), .val (.int (Int32.ofNat nn)), .val (.int q3), .val (.int q10), .val (.ref b15), .unset, .unset, .unset] [])) t_ → Steps p.tables e below (s₁.setTop (entryFrame m #[(.long xl), (.long yl), (.int mode), (.int pos), (.int zz)] maxLocals)) t_ := st247
  have lt247_0 : @LT.lt Nat _ b15 h247.size := G247_0.lt
  have zz247 : h15.size ≤ h247.size := Nat.le_trans zz224 z248
  have O250 : Old Z n0 h247 := (O227.keep K247 (allS (show n0 ≤ b15 by omega) all0))
  clear z248 zz224 lt224_0 J224_0 J224_1
  have bk251 : ∃ (V' : Vm) (k' : Nat) (T' : State) (lo' : List Loc) (hx_ : Heap) (fe_ : JFrame), Stand p l e room_1 (s.setVm V') m #[(.long xl), (.long yl), (.int mode), (.int pos), (.int zz)] below meth c T' lo' (1 + 2 * 5 + 2 * (min 11 nn - min 11 (nn - 5))) 399 ∧ T'.heap = hx_ ∧ Fr n0 lo' ∧ Keep h247 hx_ [b15] ∧ s.Since V' k' ∧ k' ≤ hx_.size ∧ Z.Warmed39 (s.setVm V').vm ∧ (s.setVm V').vm.findClass "io/dyeline/store/LayoutIsDataFilePinLaw" = some m.cls ∧ CHr Z ELs V247 h247 V' hx_ ∧ ((∃ (ds : List Int32), fe_ = (mkF m 180 #[.val (.long xl), .second, .val (.long yl), .second, .val (.int mode), .val (.int pos), .val (.int zz), .val (.int (Int32.ofNat nn)), .val (.int q3), .val (.int q10), .val (.ref b15), .unset, .unset, .unset] []) ∧ Arv Z hx_ b15 k15 .char (Int32.ofNat nn) (ds.map Value.int) v0_ ∧ (ds.length = nn) ∧ (own_chs ds))) ∧ ∀ t_, Steps p.tables e below (T'.setTop fe_) t_ → Steps p.tables e below (s₁.setTop (entryFrame m #[(.long xl), (.long yl), (.int mode), (.int pos), (.int zz)] maxLocals)) t_ := by
    have s252 : ∀ t_, Steps p.tables e below (T247.setTop (mkF m 177 #[.val (.long xl), .second, .val (.long yl), .second, .val (.int mode), .val (.int pos), .val (.int zz), .val (.int (Int32.ofNat nn)), .val (.int q3), .val (.int q10), .val (.ref b15), .unset, .unset, .unset] [(.long yl), (.long xl), (.int q10), (.int q3), (.int (10 : Int32)), (.ref b15)])) t_ → Steps _ _ _ _ t_ := fun t_ k_ => s249 t_ (by
      refine XS.aload X247.here hx rfl (dd hy at_167) rfl rfl ?_
      refine XS.bipush X247.here hx rfl (dd hy at_169) ?_
      refine XS.iload X247.here hx rfl (dd hy at_171) rfl ?_
      show Steps _ _ _ (T247.setTop (mkF m 173 #[.val (.long xl), .second, .val (.long yl), .second, .val (.int mode), .val (.int pos), .val (.int zz), .val (.int (Int32.ofNat nn)), .val (.int q3), .val (.int q10), .val (.ref b15), .unset, .unset, .unset] [(.int q3), (.int (10 : Int32)), (.ref b15)])) _
      refine XS.iload X247.here hx rfl (dd hy at_173) rfl ?_
      refine XS.lloadN X247.here hx rfl (dd hy at_175) rfl ?_
      refine XS.lloadN X247.here hx rfl (dd hy at_176) rfl ?_
      exact k_)
    by_cases h253 : nn ≤ 10
    · have s254 : ∀ t_, Steps p.tables e below (T247.setTop (mkF m 177 #[.val (.long xl), .second, .val (.long yl), .second, .val (.int mode), .val (.int pos), .val (.int zz), .val (.int (Int32.ofNat nn)), .val (.int q3), .val (.int q10), .val (.ref b15), .unset, .unset, .unset] [(.long yl), (.long xl), (.int q10), (.int q3), (.int (10 : Int32)), (.ref b15)])) t_ → Steps p.tables e below (s₁.setTop (entryFrame m #[(.long xl), (.long yl), (.int mode), (.int pos), (.int zz)] maxLocals)) t_ := fun t_ k_ => s252 t_ (castTop (by rfl) k_)
      have Zc255 : n0 ≤ h247.size := by omega
      obtain ⟨_, _, ⟨T256, L256, k256, n256⟩, -, X256, ⟨Lc256, hQ256, l256, y256, z256⟩, st256⟩ := Jvm.LawKit.callS X247 hx (y := M23_) hown (mvT hZ (own_m hw 1 rfl)) (mvT hZ (own_m hw 2 rfl)) (mvT hZ (own_m hw 3 rfl)) (mvT hZ (own_m hw 4 rfl)) (by decide) (backOf (W := 0) (rmPutN l Z a0 hw [] b15 q3 q10 xl yl k15 ds_247 nn 10 h247 n0 Zc255 G247_0 (by first | assumption | omega | rfl | decide) (by first | assumption | omega | rfl | decide)) hZ (own_m hw 4 rfl) (own_m hw 3 rfl) (by decide) (by decide)) (g := (mkF m 177 #[.val (.long xl), .second, .val (.long yl), .second, .val (.int mode), .val (.int pos), .val (.int zz), .val (.int (Int32.ofNat nn)), .val (.int q3), .val (.int q10), .val (.ref b15), .unset, .unset, .unset] [(.long yl), (.long xl), (.int q10), (.int q3), (.int (10 : Int32)), (.ref b15)])) rfl (by rw [hml]; rfl) (argsL := [(.ref b15), (.int (10 : Int32)), (.int q3), (.int q10), (.long xl), (.long yl)]) (rest := []) (lenOf pd___CIZZJJ_V rfl) rfl (by show 2 * 0 + _ ≤ _; exact Nat.le_of_eq rfl) (dd hy at_177) (fun _ _ => ⟨rfl, e247, (show (1 + 2 * 5 + 2 * (min 10 nn - min 10 (nn - 5))) + 0 ≤ 32 by omega), (by decide : 375 + 0 ≤ _)⟩)
      dsimp only [Pt.U, Pt.locs, Pt.cells, Pt.slots] at X256 l256 y256 z256 st256 hQ256
      subst l256 y256 z256
      obtain ⟨rfl, N256q, e256⟩ := hQ256
      have N256 := Fr.app N247 N256q
      have s257 : ∀ t_, Steps p.tables e below (T256.setTop (mkF m 180 #[.val (.long xl), .second, .val (.long yl), .second, .val (.int mode), .val (.int pos), .val (.int zz), .val (.int (Int32.ofNat nn)), .val (.int q3), .val (.int q10), .val (.ref b15), .unset, .unset, .unset] [])) t_ → Steps _ _ _ _ t_ := fun t_ k_ => s254 t_ (by
        refine st256 _ ?_
        show Steps _ _ _ (T256.setTop (mkF m 180 #[.val (.long xl), .second, .val (.long yl), .second, .val (.int mode), .val (.int pos), .val (.int zz), .val (.int (Int32.ofNat nn)), .val (.int q3), .val (.int q10), .val (.ref b15), .unset, .unset, .unset] [])) _
        exact k_)
      exact ⟨V247, _, T256, _, _, _, X256.more (show (1 + 2 * 5 + 2 * (min 10 nn - min 10 (nn - 5))) + 0 ≤ (1 + 2 * 5 + 2 * (min 11 nn - min 11 (nn - 5))) by omega) (by decide), e256, N256, (Keep.refl h247 [b15]), hS, (by first | exact hk | exact Nat.le_refl _ | (rw [← e256]; exact Nat.le_refl _)), hZ, hown, (CHr.refl CR.1), ⟨ds_247, rfl, G247_0, J247_0, J247_1⟩, s257⟩
    · have s258 : ∀ t_, Steps p.tables e below (T247.setTop (mkF m 177 #[.val (.long xl), .second, .val (.long yl), .second, .val (.int mode), .val (.int pos), .val (.int zz), .val (.int (Int32.ofNat nn)), .val (.int q3), .val (.int q10), .val (.ref b15), .unset, .unset, .unset] [(.long yl), (.long xl), (.int q10), (.int q3), (.int (10 : Int32)), (.ref b15)])) t_ → Steps p.tables e below (s₁.setTop (entryFrame m #[(.long xl), (.long yl), (.int mode), (.int pos), (.int zz)] maxLocals)) t_ := fun t_ k_ => s252 t_ (castTop (by rfl) k_)
      have Zc259 : n0 ≤ h247.size := by omega
      obtain ⟨_, _, ⟨T260, L260, k260, n260⟩, -, Xr260, hSr260, hg260, ⟨Lc260, hQ260, l260, y260, z260, Cp260⟩, st260⟩ := callSS X247 hx (y := M23_) hown (mvT hZ (own_m hw 1 rfl)) (mvT hZ (own_m hw 2 rfl)) (mvT hZ (own_m hw 3 rfl)) (mvT hZ (own_m hw 4 rfl)) (by decide) (backOfSH (s := s) (vm0 := V247) (W := 0) (rmPutB5 l Z a0 hw [] b15 q3 q10 xl yl cst k15 ds_247 nn 10 fmt h247 n0 Zc259 I1 hfmt I5 O250 hcst G247_0 J247_0 (by first | assumption | omega | rfl | decide) (by first | assumption | omega | rfl | decide) J247_1 (by first | assumption | omega | rfl | decide) (by first | assumption | omega | rfl | decide) (by first | assumption | omega | rfl | decide)) hZ (own_m hw 4 rfl) (own_m hw 3 rfl) (by decide) (by decide) hEL CR.1) (g := (mkF m 177 #[.val (.long xl), .second, .val (.long yl), .second, .val (.int mode), .val (.int pos), .val (.int zz), .val (.int (Int32.ofNat nn)), .val (.int q3), .val (.int q10), .val (.ref b15), .unset, .unset, .unset] [(.long yl), (.long xl), (.int q10), (.int q3), (.int (10 : Int32)), (.ref b15)])) rfl (by rw [hml]; rfl) (argsL := [(.ref b15), (.int (10 : Int32)), (.int q3), (.int q10), (.long xl), (.long yl)]) (rest := []) (lenOf pd___CIZZJJ_V rfl) rfl (by show 2 * 0 + _ ≤ _; exact Nat.le_of_eq rfl) (dd hy at_177) (fun _ _ => ⟨rfl, e247, (show (1 + 2 * 5 + 2 * (min 10 nn - min 10 (nn - 5))) + 2 ≤ 32 by omega), (by decide : 375 + 24 ≤ _)⟩)
      dsimp only [Pt.U, Pt.locs, Pt.cells, Pt.slots] at Xr260 hSr260 hg260 l260 y260 z260 st260 hQ260 Cp260
      subst l260 y260 z260
      obtain ⟨X260, hS, hZ, hown⟩ := rebS (own := "io/dyeline/store/LayoutIsDataFilePinLaw") hS (by first | exact Nat.le_refl _ | (rw [e247]; exact hk)) Xr260 hSr260 hg260 hZ hown
      obtain ⟨ds_260, rfl, N260q, K260, Fq260_0, P260_0, P260_1⟩ := hQ260
      have N260 := Fr.app N247 N260q
      obtain ⟨h260, e260⟩ : ∃ z, T260.heap = z := ⟨_, rfl⟩
      rw [e260] at K260 Fq260_0 Cp260
      have hk : T260.heap.size ≤ h260.size := Nat.le_of_eq (congrArg Array.size e260)
      have z261 : h247.size ≤ h260.size := K260.1
      have CR := CR.trans Cp260
      have lt260_0 : @LT.lt Nat _ b15 h260.size := Fq260_0.lt
      have s262 : ∀ t_, Steps p.tables e below (T260.setTop (mkF m 180 #[.val (.long xl), .second, .val (.long yl), .second, .val (.int mode), .val (.int pos), .val (.int zz), .val (.int (Int32.ofNat nn)), .val (.int q3), .val (.int q10), .val (.ref b15), .unset, .unset, .unset] [])) t_ → Steps _ _ _ _ t_ := fun t_ k_ => s258 t_ (by
        refine st260.trans ?_
        show Steps _ _ _ (T260.setTop (mkF m 180 #[.val (.long xl), .second, .val (.long yl), .second, .val (.int mode), .val (.int pos), .val (.int zz), .val (.int (Int32.ofNat nn)), .val (.int q3), .val (.int q10), .val (.ref b15), .unset, .unset, .unset] [])) _
        exact k_)
      exact ⟨T260.vm, _, T260, _, _, _, X260.more (show (1 + 2 * 5 + 2 * (min 10 nn - min 10 (nn - 5))) + 2 ≤ (1 + 2 * 5 + 2 * (min 11 nn - min 11 (nn - 5))) by omega) (by decide), e260, N260, ((Keep.refl h247 [b15]).trans K260 (allS (Or.inl (by simp)) all0)), hS, (by first | exact hk | exact Nat.le_refl _ | (rw [← e260]; exact Nat.le_refl _)), hZ, hown, Cp260, ⟨ds_260, rfl, Fq260_0, P260_0, P260_1⟩, s262⟩
  clear hk
  obtain ⟨V263, k263, T263, lo263, h263, fe263, X263, e263, N263, K263, hS, hk, hZ, hown, Cp263, A263, st263⟩ := bk251
  have z264 : h247.size ≤ h263.size := K263.1
  have CR := CR.trans Cp263
  obtain ⟨ds_263, rfl, G263_0, J263_0, J263_1⟩ := A263
  have s265 : ∀ t_, Steps p.tables e below (T263.setTop (mkF m 180 #[.val (.long xl), .second, .val (.long yl), .second, .val (.int mode), .val (.int pos), .val (.int zz), .val (.int (Int32.ofNat nn)), .val (.int q3), .val (.int q10), .val (.ref b15), .unset, .unset, .unset] [])) t_ → Steps p.tables e below (s₁.setTop (entryFrame m #[(.long xl), (.long yl), (.int mode), (.int pos), (.int zz)] maxLocals)) t_ := st263
  have lt263_0 : @LT.lt Nat _ b15 h263.size := G263_0.lt
  have zz263 : h15.size ≤ h263.size := Nat.le_trans zz247 z264
  have O266 : Old Z n0 h263 := (O250.keep K263 (allS (show n0 ≤ b15 by omega) all0))
  clear z264 zz247 lt247_0 J247_0 J247_1
  have bk267 : ∃ (V' : Vm) (k' : Nat) (T' : State) (lo' : List Loc) (hx_ : Heap) (fe_ : JFrame), Stand p l e room_1 (s.setVm V') m #[(.long xl), (.long yl), (.int mode), (.int pos), (.int zz)] below meth c T' lo' (1 + 2 * 5 + 2 * (min 12 nn - min 12 (nn - 5))) 423 ∧ T'.heap = hx_ ∧ Fr n0 lo' ∧ Keep h263 hx_ [b15] ∧ s.Since V' k' ∧ k' ≤ hx_.size ∧ Z.Warmed39 (s.setVm V').vm ∧ (s.setVm V').vm.findClass "io/dyeline/store/LayoutIsDataFilePinLaw" = some m.cls ∧ CHr Z ELs V263 h263 V' hx_ ∧ ((∃ (ds : List Int32), fe_ = (mkF m 193 #[.val (.long xl), .second, .val (.long yl), .second, .val (.int mode), .val (.int pos), .val (.int zz), .val (.int (Int32.ofNat nn)), .val (.int q3), .val (.int q10), .val (.ref b15), .unset, .unset, .unset] []) ∧ Arv Z hx_ b15 k15 .char (Int32.ofNat nn) (ds.map Value.int) v0_ ∧ (ds.length = nn) ∧ (own_chs ds))) ∧ ∀ t_, Steps p.tables e below (T'.setTop fe_) t_ → Steps p.tables e below (s₁.setTop (entryFrame m #[(.long xl), (.long yl), (.int mode), (.int pos), (.int zz)] maxLocals)) t_ := by
    have s268 : ∀ t_, Steps p.tables e below (T263.setTop (mkF m 190 #[.val (.long xl), .second, .val (.long yl), .second, .val (.int mode), .val (.int pos), .val (.int zz), .val (.int (Int32.ofNat nn)), .val (.int q3), .val (.int q10), .val (.ref b15), .unset, .unset, .unset] [(.long yl), (.long xl), (.int q10), (.int q3), (.int (11 : Int32)), (.ref b15)])) t_ → Steps _ _ _ _ t_ := fun t_ k_ => s265 t_ (by
      refine XS.aload X263.here hx rfl (dd hy at_180) rfl rfl ?_
      refine XS.bipush X263.here hx rfl (dd hy at_182) ?_
      refine XS.iload X263.here hx rfl (dd hy at_184) rfl ?_
      show Steps _ _ _ (T263.setTop (mkF m 186 #[.val (.long xl), .second, .val (.long yl), .second, .val (.int mode), .val (.int pos), .val (.int zz), .val (.int (Int32.ofNat nn)), .val (.int q3), .val (.int q10), .val (.ref b15), .unset, .unset, .unset] [(.int q3), (.int (11 : Int32)), (.ref b15)])) _
      refine XS.iload X263.here hx rfl (dd hy at_186) rfl ?_
      refine XS.lloadN X263.here hx rfl (dd hy at_188) rfl ?_
      refine XS.lloadN X263.here hx rfl (dd hy at_189) rfl ?_
      exact k_)
    by_cases h269 : nn ≤ 11
    · have s270 : ∀ t_, Steps p.tables e below (T263.setTop (mkF m 190 #[.val (.long xl), .second, .val (.long yl), .second, .val (.int mode), .val (.int pos), .val (.int zz), .val (.int (Int32.ofNat nn)), .val (.int q3), .val (.int q10), .val (.ref b15), .unset, .unset, .unset] [(.long yl), (.long xl), (.int q10), (.int q3), (.int (11 : Int32)), (.ref b15)])) t_ → Steps p.tables e below (s₁.setTop (entryFrame m #[(.long xl), (.long yl), (.int mode), (.int pos), (.int zz)] maxLocals)) t_ := fun t_ k_ => s268 t_ (castTop (by rfl) k_)
      have Zc271 : n0 ≤ h263.size := by omega
      obtain ⟨_, _, ⟨T272, L272, k272, n272⟩, -, X272, ⟨Lc272, hQ272, l272, y272, z272⟩, st272⟩ := Jvm.LawKit.callS X263 hx (y := M23_) hown (mvT hZ (own_m hw 1 rfl)) (mvT hZ (own_m hw 2 rfl)) (mvT hZ (own_m hw 3 rfl)) (mvT hZ (own_m hw 4 rfl)) (by decide) (backOf (W := 0) (rmPutN l Z a0 hw [] b15 q3 q10 xl yl k15 ds_263 nn 11 h263 n0 Zc271 G263_0 (by first | assumption | omega | rfl | decide) (by first | assumption | omega | rfl | decide)) hZ (own_m hw 4 rfl) (own_m hw 3 rfl) (by decide) (by decide)) (g := (mkF m 190 #[.val (.long xl), .second, .val (.long yl), .second, .val (.int mode), .val (.int pos), .val (.int zz), .val (.int (Int32.ofNat nn)), .val (.int q3), .val (.int q10), .val (.ref b15), .unset, .unset, .unset] [(.long yl), (.long xl), (.int q10), (.int q3), (.int (11 : Int32)), (.ref b15)])) rfl (by rw [hml]; rfl) (argsL := [(.ref b15), (.int (11 : Int32)), (.int q3), (.int q10), (.long xl), (.long yl)]) (rest := []) (lenOf pd___CIZZJJ_V rfl) rfl (by show 2 * 0 + _ ≤ _; exact Nat.le_of_eq rfl) (dd hy at_190) (fun _ _ => ⟨rfl, e263, (show (1 + 2 * 5 + 2 * (min 11 nn - min 11 (nn - 5))) + 0 ≤ 32 by omega), (by decide : 399 + 0 ≤ _)⟩)
      dsimp only [Pt.U, Pt.locs, Pt.cells, Pt.slots] at X272 l272 y272 z272 st272 hQ272
      subst l272 y272 z272
      obtain ⟨rfl, N272q, e272⟩ := hQ272
      have N272 := Fr.app N263 N272q
      have s273 : ∀ t_, Steps p.tables e below (T272.setTop (mkF m 193 #[.val (.long xl), .second, .val (.long yl), .second, .val (.int mode), .val (.int pos), .val (.int zz), .val (.int (Int32.ofNat nn)), .val (.int q3), .val (.int q10), .val (.ref b15), .unset, .unset, .unset] [])) t_ → Steps _ _ _ _ t_ := fun t_ k_ => s270 t_ (by
        refine st272 _ ?_
        show Steps _ _ _ (T272.setTop (mkF m 193 #[.val (.long xl), .second, .val (.long yl), .second, .val (.int mode), .val (.int pos), .val (.int zz), .val (.int (Int32.ofNat nn)), .val (.int q3), .val (.int q10), .val (.ref b15), .unset, .unset, .unset] [])) _
        exact k_)
      exact ⟨V263, _, T272, _, _, _, X272.more (show (1 + 2 * 5 + 2 * (min 11 nn - min 11 (nn - 5))) + 0 ≤ (1 + 2 * 5 + 2 * (min 12 nn - min 12 (nn - 5))) by omega) (by decide), e272, N272, (Keep.refl h263 [b15]), hS, (by first | exact hk | exact Nat.le_refl _ | (rw [← e272]; exact Nat.le_refl _)), hZ, hown, (CHr.refl CR.1), ⟨ds_263, rfl, G263_0, J263_0, J263_1⟩, s273⟩
    · have s274 : ∀ t_, Steps p.tables e below (T263.setTop (mkF m 190 #[.val (.long xl), .second, .val (.long yl), .second, .val (.int mode), .val (.int pos), .val (.int zz), .val (.int (Int32.ofNat nn)), .val (.int q3), .val (.int q10), .val (.ref b15), .unset, .unset, .unset] [(.long yl), (.long xl), (.int q10), (.int q3), (.int (11 : Int32)), (.ref b15)])) t_ → Steps p.tables e below (s₁.setTop (entryFrame m #[(.long xl), (.long yl), (.int mode), (.int pos), (.int zz)] maxLocals)) t_ := fun t_ k_ => s268 t_ (castTop (by rfl) k_)
      have Zc275 : n0 ≤ h263.size := by omega
      obtain ⟨_, _, ⟨T276, L276, k276, n276⟩, -, Xr276, hSr276, hg276, ⟨Lc276, hQ276, l276, y276, z276, Cp276⟩, st276⟩ := callSS X263 hx (y := M23_) hown (mvT hZ (own_m hw 1 rfl)) (mvT hZ (own_m hw 2 rfl)) (mvT hZ (own_m hw 3 rfl)) (mvT hZ (own_m hw 4 rfl)) (by decide) (backOfSH (s := s) (vm0 := V263) (W := 0) (rmPutB5 l Z a0 hw [] b15 q3 q10 xl yl cst k15 ds_263 nn 11 fmt h263 n0 Zc275 I1 hfmt I5 O266 hcst G263_0 J263_0 (by first | assumption | omega | rfl | decide) (by first | assumption | omega | rfl | decide) J263_1 (by first | assumption | omega | rfl | decide) (by first | assumption | omega | rfl | decide) (by first | assumption | omega | rfl | decide)) hZ (own_m hw 4 rfl) (own_m hw 3 rfl) (by decide) (by decide) hEL CR.1) (g := (mkF m 190 #[.val (.long xl), .second, .val (.long yl), .second, .val (.int mode), .val (.int pos), .val (.int zz), .val (.int (Int32.ofNat nn)), .val (.int q3), .val (.int q10), .val (.ref b15), .unset, .unset, .unset] [(.long yl), (.long xl), (.int q10), (.int q3), (.int (11 : Int32)), (.ref b15)])) rfl (by rw [hml]; rfl) (argsL := [(.ref b15), (.int (11 : Int32)), (.int q3), (.int q10), (.long xl), (.long yl)]) (rest := []) (lenOf pd___CIZZJJ_V rfl) rfl (by show 2 * 0 + _ ≤ _; exact Nat.le_of_eq rfl) (dd hy at_190) (fun _ _ => ⟨rfl, e263, (show (1 + 2 * 5 + 2 * (min 11 nn - min 11 (nn - 5))) + 2 ≤ 32 by omega), (by decide : 399 + 24 ≤ _)⟩)
      dsimp only [Pt.U, Pt.locs, Pt.cells, Pt.slots] at Xr276 hSr276 hg276 l276 y276 z276 st276 hQ276 Cp276
      subst l276 y276 z276
      obtain ⟨X276, hS, hZ, hown⟩ := rebS (own := "io/dyeline/store/LayoutIsDataFilePinLaw") hS (by first | exact Nat.le_refl _ | (rw [e263]; exact hk)) Xr276 hSr276 hg276 hZ hown
      obtain ⟨ds_276, rfl, N276q, K276, Fq276_0, P276_0, P276_1⟩ := hQ276
      have N276 := Fr.app N263 N276q
      obtain ⟨h276, e276⟩ : ∃ z, T276.heap = z := ⟨_, rfl⟩
      rw [e276] at K276 Fq276_0 Cp276
      have hk : T276.heap.size ≤ h276.size := Nat.le_of_eq (congrArg Array.size e276)
      have z277 : h263.size ≤ h276.size := K276.1
      have CR := CR.trans Cp276
      have lt276_0 : @LT.lt Nat _ b15 h276.size := Fq276_0.lt
      have s278 : ∀ t_, Steps p.tables e below (T276.setTop (mkF m 193 #[.val (.long xl), .second, .val (.long yl), .second, .val (.int mode), .val (.int pos), .val (.int zz), .val (.int (Int32.ofNat nn)), .val (.int q3), .val (.int q10), .val (.ref b15), .unset, .unset, .unset] [])) t_ → Steps _ _ _ _ t_ := fun t_ k_ => s274 t_ (by
        refine st276.trans ?_
        show Steps _ _ _ (T276.setTop (mkF m 193 #[.val (.long xl), .second, .val (.long yl), .second, .val (.int mode), .val (.int pos), .val (.int zz), .val (.int (Int32.ofNat nn)), .val (.int q3), .val (.int q10), .val (.ref b15), .unset, .unset, .unset] [])) _
        exact k_)
      exact ⟨T276.vm, _, T276, _, _, _, X276.more (show (1 + 2 * 5 + 2 * (min 11 nn - min 11 (nn - 5))) + 2 ≤ (1 + 2 * 5 + 2 * (min 12 nn - min 12 (nn - 5))) by omega) (by decide), e276, N276, ((Keep.refl h263 [b15]).trans K276 (allS (Or.inl (by simp)) all0)), hS, (by first | exact hk | exact Nat.le_refl _ | (rw [← e276]; exact Nat.le_refl _)), hZ, hown, Cp276, ⟨ds_276, rfl, Fq276_0, P276_0, P276_1⟩, s278⟩
  clear hk
  obtain ⟨V279, k279, T279, lo279, h279, fe279, X279, e279, N279, K279, hS, hk, hZ, hown, Cp279, A279, st279⟩ := bk267
  have z280 : h263.size ≤ h279.size := K279.1
  have CR := CR.trans Cp279
  obtain ⟨ds_279, rfl, G279_0, J279_0, J279_1⟩ := A279
  have s281 : ∀ t_, Steps p.tables e below (T279.setTop (mkF m 193 #[.val (.long xl), .second, .val (.long yl), .second, .val (.int mode), .val (.int pos), .val (.int zz), .val (.int (Int32.ofNat nn)), .val (.int q3), .val (.int q10), .val (.ref b15), .unset, .unset, .unset] [])) t_ → Steps p.tables e below (s₁.setTop (entryFrame m #[(.long xl), (.long yl), (.int mode), (.int pos), (.int zz)] maxLocals)) t_ := st279
  have lt279_0 : @LT.lt Nat _ b15 h279.size := G279_0.lt
  have zz279 : h15.size ≤ h279.size := Nat.le_trans zz263 z280
  have O282 : Old Z n0 h279 := (O266.keep K279 (allS (show n0 ≤ b15 by omega) all0))
  clear z280 zz263 lt263_0 J263_0 J263_1
  have bk283 : ∃ (V' : Vm) (k' : Nat) (T' : State) (lo' : List Loc) (hx_ : Heap) (fe_ : JFrame), Stand p l e room_1 (s.setVm V') m #[(.long xl), (.long yl), (.int mode), (.int pos), (.int zz)] below meth c T' lo' (1 + 2 * 5 + 2 * (min 13 nn - min 13 (nn - 5))) 447 ∧ T'.heap = hx_ ∧ Fr n0 lo' ∧ Keep h279 hx_ [b15] ∧ s.Since V' k' ∧ k' ≤ hx_.size ∧ Z.Warmed39 (s.setVm V').vm ∧ (s.setVm V').vm.findClass "io/dyeline/store/LayoutIsDataFilePinLaw" = some m.cls ∧ CHr Z ELs V279 h279 V' hx_ ∧ ((∃ (ds : List Int32), fe_ = (mkF m 206 #[.val (.long xl), .second, .val (.long yl), .second, .val (.int mode), .val (.int pos), .val (.int zz), .val (.int (Int32.ofNat nn)), .val (.int q3), .val (.int q10), .val (.ref b15), .unset, .unset, .unset] []) ∧ Arv Z hx_ b15 k15 .char (Int32.ofNat nn) (ds.map Value.int) v0_ ∧ (ds.length = nn) ∧ (own_chs ds))) ∧ ∀ t_, Steps p.tables e below (T'.setTop fe_) t_ → Steps p.tables e below (s₁.setTop (entryFrame m #[(.long xl), (.long yl), (.int mode), (.int pos), (.int zz)] maxLocals)) t_ := by
    have s284 : ∀ t_, Steps p.tables e below (T279.setTop (mkF m 203 #[.val (.long xl), .second, .val (.long yl), .second, .val (.int mode), .val (.int pos), .val (.int zz), .val (.int (Int32.ofNat nn)), .val (.int q3), .val (.int q10), .val (.ref b15), .unset, .unset, .unset] [(.long yl), (.long xl), (.int q10), (.int q3), (.int (12 : Int32)), (.ref b15)])) t_ → Steps _ _ _ _ t_ := fun t_ k_ => s281 t_ (by
      refine XS.aload X279.here hx rfl (dd hy at_193) rfl rfl ?_
      refine XS.bipush X279.here hx rfl (dd hy at_195) ?_
      refine XS.iload X279.here hx rfl (dd hy at_197) rfl ?_
      show Steps _ _ _ (T279.setTop (mkF m 199 #[.val (.long xl), .second, .val (.long yl), .second, .val (.int mode), .val (.int pos), .val (.int zz), .val (.int (Int32.ofNat nn)), .val (.int q3), .val (.int q10), .val (.ref b15), .unset, .unset, .unset] [(.int q3), (.int (12 : Int32)), (.ref b15)])) _
      refine XS.iload X279.here hx rfl (dd hy at_199) rfl ?_
      refine XS.lloadN X279.here hx rfl (dd hy at_201) rfl ?_
      refine XS.lloadN X279.here hx rfl (dd hy at_202) rfl ?_
      exact k_)
    by_cases h285 : nn ≤ 12
    · have s286 : ∀ t_, Steps p.tables e below (T279.setTop (mkF m 203 #[.val (.long xl), .second, .val (.long yl), .second, .val (.int mode), .val (.int pos), .val (.int zz), .val (.int (Int32.ofNat nn)), .val (.int q3), .val (.int q10), .val (.ref b15), .unset, .unset, .unset] [(.long yl), (.long xl), (.int q10), (.int q3), (.int (12 : Int32)), (.ref b15)])) t_ → Steps p.tables e below (s₁.setTop (entryFrame m #[(.long xl), (.long yl), (.int mode), (.int pos), (.int zz)] maxLocals)) t_ := fun t_ k_ => s284 t_ (castTop (by rfl) k_)
      have Zc287 : n0 ≤ h279.size := by omega
      obtain ⟨_, _, ⟨T288, L288, k288, n288⟩, -, X288, ⟨Lc288, hQ288, l288, y288, z288⟩, st288⟩ := Jvm.LawKit.callS X279 hx (y := M23_) hown (mvT hZ (own_m hw 1 rfl)) (mvT hZ (own_m hw 2 rfl)) (mvT hZ (own_m hw 3 rfl)) (mvT hZ (own_m hw 4 rfl)) (by decide) (backOf (W := 0) (rmPutN l Z a0 hw [] b15 q3 q10 xl yl k15 ds_279 nn 12 h279 n0 Zc287 G279_0 (by first | assumption | omega | rfl | decide) (by first | assumption | omega | rfl | decide)) hZ (own_m hw 4 rfl) (own_m hw 3 rfl) (by decide) (by decide)) (g := (mkF m 203 #[.val (.long xl), .second, .val (.long yl), .second, .val (.int mode), .val (.int pos), .val (.int zz), .val (.int (Int32.ofNat nn)), .val (.int q3), .val (.int q10), .val (.ref b15), .unset, .unset, .unset] [(.long yl), (.long xl), (.int q10), (.int q3), (.int (12 : Int32)), (.ref b15)])) rfl (by rw [hml]; rfl) (argsL := [(.ref b15), (.int (12 : Int32)), (.int q3), (.int q10), (.long xl), (.long yl)]) (rest := []) (lenOf pd___CIZZJJ_V rfl) rfl (by show 2 * 0 + _ ≤ _; exact Nat.le_of_eq rfl) (dd hy at_203) (fun _ _ => ⟨rfl, e279, (show (1 + 2 * 5 + 2 * (min 12 nn - min 12 (nn - 5))) + 0 ≤ 32 by omega), (by decide : 423 + 0 ≤ _)⟩)
      dsimp only [Pt.U, Pt.locs, Pt.cells, Pt.slots] at X288 l288 y288 z288 st288 hQ288
      subst l288 y288 z288
      obtain ⟨rfl, N288q, e288⟩ := hQ288
      have N288 := Fr.app N279 N288q
      have s289 : ∀ t_, Steps p.tables e below (T288.setTop (mkF m 206 #[.val (.long xl), .second, .val (.long yl), .second, .val (.int mode), .val (.int pos), .val (.int zz), .val (.int (Int32.ofNat nn)), .val (.int q3), .val (.int q10), .val (.ref b15), .unset, .unset, .unset] [])) t_ → Steps _ _ _ _ t_ := fun t_ k_ => s286 t_ (by
        refine st288 _ ?_
        show Steps _ _ _ (T288.setTop (mkF m 206 #[.val (.long xl), .second, .val (.long yl), .second, .val (.int mode), .val (.int pos), .val (.int zz), .val (.int (Int32.ofNat nn)), .val (.int q3), .val (.int q10), .val (.ref b15), .unset, .unset, .unset] [])) _
        exact k_)
      exact ⟨V279, _, T288, _, _, _, X288.more (show (1 + 2 * 5 + 2 * (min 12 nn - min 12 (nn - 5))) + 0 ≤ (1 + 2 * 5 + 2 * (min 13 nn - min 13 (nn - 5))) by omega) (by decide), e288, N288, (Keep.refl h279 [b15]), hS, (by first | exact hk | exact Nat.le_refl _ | (rw [← e288]; exact Nat.le_refl _)), hZ, hown, (CHr.refl CR.1), ⟨ds_279, rfl, G279_0, J279_0, J279_1⟩, s289⟩
    · have s290 : ∀ t_, Steps p.tables e below (T279.setTop (mkF m 203 #[.val (.long xl), .second, .val (.long yl), .second, .val (.int mode), .val (.int pos), .val (.int zz), .val (.int (Int32.ofNat nn)), .val (.int q3), .val (.int q10), .val (.ref b15), .unset, .unset, .unset] [(.long yl), (.long xl), (.int q10), (.int q3), (.int (12 : Int32)), (.ref b15)])) t_ → Steps p.tables e below (s₁.setTop (entryFrame m #[(.long xl), (.long yl), (.int mode), (.int pos), (.int zz)] maxLocals)) t_ := fun t_ k_ => s284 t_ (castTop (by rfl) k_)
      have Zc291 : n0 ≤ h279.size := by omega
      obtain ⟨_, _, ⟨T292, L292, k292, n292⟩, -, Xr292, hSr292, hg292, ⟨Lc292, hQ292, l292, y292, z292, Cp292⟩, st292⟩ := callSS X279 hx (y := M23_) hown (mvT hZ (own_m hw 1 rfl)) (mvT hZ (own_m hw 2 rfl)) (mvT hZ (own_m hw 3 rfl)) (mvT hZ (own_m hw 4 rfl)) (by decide) (backOfSH (s := s) (vm0 := V279) (W := 0) (rmPutB5 l Z a0 hw [] b15 q3 q10 xl yl cst k15 ds_279 nn 12 fmt h279 n0 Zc291 I1 hfmt I5 O282 hcst G279_0 J279_0 (by first | assumption | omega | rfl | decide) (by first | assumption | omega | rfl | decide) J279_1 (by first | assumption | omega | rfl | decide) (by first | assumption | omega | rfl | decide) (by first | assumption | omega | rfl | decide)) hZ (own_m hw 4 rfl) (own_m hw 3 rfl) (by decide) (by decide) hEL CR.1) (g := (mkF m 203 #[.val (.long xl), .second, .val (.long yl), .second, .val (.int mode), .val (.int pos), .val (.int zz), .val (.int (Int32.ofNat nn)), .val (.int q3), .val (.int q10), .val (.ref b15), .unset, .unset, .unset] [(.long yl), (.long xl), (.int q10), (.int q3), (.int (12 : Int32)), (.ref b15)])) rfl (by rw [hml]; rfl) (argsL := [(.ref b15), (.int (12 : Int32)), (.int q3), (.int q10), (.long xl), (.long yl)]) (rest := []) (lenOf pd___CIZZJJ_V rfl) rfl (by show 2 * 0 + _ ≤ _; exact Nat.le_of_eq rfl) (dd hy at_203) (fun _ _ => ⟨rfl, e279, (show (1 + 2 * 5 + 2 * (min 12 nn - min 12 (nn - 5))) + 2 ≤ 32 by omega), (by decide : 423 + 24 ≤ _)⟩)
      dsimp only [Pt.U, Pt.locs, Pt.cells, Pt.slots] at Xr292 hSr292 hg292 l292 y292 z292 st292 hQ292 Cp292
      subst l292 y292 z292
      obtain ⟨X292, hS, hZ, hown⟩ := rebS (own := "io/dyeline/store/LayoutIsDataFilePinLaw") hS (by first | exact Nat.le_refl _ | (rw [e279]; exact hk)) Xr292 hSr292 hg292 hZ hown
      obtain ⟨ds_292, rfl, N292q, K292, Fq292_0, P292_0, P292_1⟩ := hQ292
      have N292 := Fr.app N279 N292q
      obtain ⟨h292, e292⟩ : ∃ z, T292.heap = z := ⟨_, rfl⟩
      rw [e292] at K292 Fq292_0 Cp292
      have hk : T292.heap.size ≤ h292.size := Nat.le_of_eq (congrArg Array.size e292)
      have z293 : h279.size ≤ h292.size := K292.1
      have CR := CR.trans Cp292
      have lt292_0 : @LT.lt Nat _ b15 h292.size := Fq292_0.lt
      have s294 : ∀ t_, Steps p.tables e below (T292.setTop (mkF m 206 #[.val (.long xl), .second, .val (.long yl), .second, .val (.int mode), .val (.int pos), .val (.int zz), .val (.int (Int32.ofNat nn)), .val (.int q3), .val (.int q10), .val (.ref b15), .unset, .unset, .unset] [])) t_ → Steps _ _ _ _ t_ := fun t_ k_ => s290 t_ (by
        refine st292.trans ?_
        show Steps _ _ _ (T292.setTop (mkF m 206 #[.val (.long xl), .second, .val (.long yl), .second, .val (.int mode), .val (.int pos), .val (.int zz), .val (.int (Int32.ofNat nn)), .val (.int q3), .val (.int q10), .val (.ref b15), .unset, .unset, .unset] [])) _
        exact k_)
      exact ⟨T292.vm, _, T292, _, _, _, X292.more (show (1 + 2 * 5 + 2 * (min 12 nn - min 12 (nn - 5))) + 2 ≤ (1 + 2 * 5 + 2 * (min 13 nn - min 13 (nn - 5))) by omega) (by decide), e292, N292, ((Keep.refl h279 [b15]).trans K292 (allS (Or.inl (by simp)) all0)), hS, (by first | exact hk | exact Nat.le_refl _ | (rw [← e292]; exact Nat.le_refl _)), hZ, hown, Cp292, ⟨ds_292, rfl, Fq292_0, P292_0, P292_1⟩, s294⟩
  clear hk
  obtain ⟨V295, k295, T295, lo295, h295, fe295, X295, e295, N295, K295, hS, hk, hZ, hown, Cp295, A295, st295⟩ := bk283
  have z296 : h279.size ≤ h295.size := K295.1
  have CR := CR.trans Cp295
  obtain ⟨ds_295, rfl, G295_0, J295_0, J295_1⟩ := A295
  have s297 : ∀ t_, Steps p.tables e below (T295.setTop (mkF m 206 #[.val (.long xl), .second, .val (.long yl), .second, .val (.int mode), .val (.int pos), .val (.int zz), .val (.int (Int32.ofNat nn)), .val (.int q3), .val (.int q10), .val (.ref b15), .unset, .unset, .unset] [])) t_ → Steps p.tables e below (s₁.setTop (entryFrame m #[(.long xl), (.long yl), (.int mode), (.int pos), (.int zz)] maxLocals)) t_ := st295
  have lt295_0 : @LT.lt Nat _ b15 h295.size := G295_0.lt
  have zz295 : h15.size ≤ h295.size := Nat.le_trans zz279 z296
  have O298 : Old Z n0 h295 := (O282.keep K295 (allS (show n0 ≤ b15 by omega) all0))
  clear z296 zz279 lt279_0 J279_0 J279_1
  have bk299 : ∃ (V' : Vm) (k' : Nat) (T' : State) (lo' : List Loc) (hx_ : Heap) (fe_ : JFrame), Stand p l e room_1 (s.setVm V') m #[(.long xl), (.long yl), (.int mode), (.int pos), (.int zz)] below meth c T' lo' (1 + 2 * 5 + 2 * (min 14 nn - min 14 (nn - 5))) 471 ∧ T'.heap = hx_ ∧ Fr n0 lo' ∧ Keep h295 hx_ [b15] ∧ s.Since V' k' ∧ k' ≤ hx_.size ∧ Z.Warmed39 (s.setVm V').vm ∧ (s.setVm V').vm.findClass "io/dyeline/store/LayoutIsDataFilePinLaw" = some m.cls ∧ CHr Z ELs V295 h295 V' hx_ ∧ ((∃ (ds : List Int32), fe_ = (mkF m 219 #[.val (.long xl), .second, .val (.long yl), .second, .val (.int mode), .val (.int pos), .val (.int zz), .val (.int (Int32.ofNat nn)), .val (.int q3), .val (.int q10), .val (.ref b15), .unset, .unset, .unset] []) ∧ Arv Z hx_ b15 k15 .char (Int32.ofNat nn) (ds.map Value.int) v0_ ∧ (ds.length = nn) ∧ (own_chs ds))) ∧ ∀ t_, Steps p.tables e below (T'.setTop fe_) t_ → Steps p.tables e below (s₁.setTop (entryFrame m #[(.long xl), (.long yl), (.int mode), (.int pos), (.int zz)] maxLocals)) t_ := by
    have s300 : ∀ t_, Steps p.tables e below (T295.setTop (mkF m 216 #[.val (.long xl), .second, .val (.long yl), .second, .val (.int mode), .val (.int pos), .val (.int zz), .val (.int (Int32.ofNat nn)), .val (.int q3), .val (.int q10), .val (.ref b15), .unset, .unset, .unset] [(.long yl), (.long xl), (.int q10), (.int q3), (.int (13 : Int32)), (.ref b15)])) t_ → Steps _ _ _ _ t_ := fun t_ k_ => s297 t_ (by
      refine XS.aload X295.here hx rfl (dd hy at_206) rfl rfl ?_
      refine XS.bipush X295.here hx rfl (dd hy at_208) ?_
      refine XS.iload X295.here hx rfl (dd hy at_210) rfl ?_
      show Steps _ _ _ (T295.setTop (mkF m 212 #[.val (.long xl), .second, .val (.long yl), .second, .val (.int mode), .val (.int pos), .val (.int zz), .val (.int (Int32.ofNat nn)), .val (.int q3), .val (.int q10), .val (.ref b15), .unset, .unset, .unset] [(.int q3), (.int (13 : Int32)), (.ref b15)])) _
      refine XS.iload X295.here hx rfl (dd hy at_212) rfl ?_
      refine XS.lloadN X295.here hx rfl (dd hy at_214) rfl ?_
      refine XS.lloadN X295.here hx rfl (dd hy at_215) rfl ?_
      exact k_)
    by_cases h301 : nn ≤ 13
    · have s302 : ∀ t_, Steps p.tables e below (T295.setTop (mkF m 216 #[.val (.long xl), .second, .val (.long yl), .second, .val (.int mode), .val (.int pos), .val (.int zz), .val (.int (Int32.ofNat nn)), .val (.int q3), .val (.int q10), .val (.ref b15), .unset, .unset, .unset] [(.long yl), (.long xl), (.int q10), (.int q3), (.int (13 : Int32)), (.ref b15)])) t_ → Steps p.tables e below (s₁.setTop (entryFrame m #[(.long xl), (.long yl), (.int mode), (.int pos), (.int zz)] maxLocals)) t_ := fun t_ k_ => s300 t_ (castTop (by rfl) k_)
      have Zc303 : n0 ≤ h295.size := by omega
      obtain ⟨_, _, ⟨T304, L304, k304, n304⟩, -, X304, ⟨Lc304, hQ304, l304, y304, z304⟩, st304⟩ := Jvm.LawKit.callS X295 hx (y := M23_) hown (mvT hZ (own_m hw 1 rfl)) (mvT hZ (own_m hw 2 rfl)) (mvT hZ (own_m hw 3 rfl)) (mvT hZ (own_m hw 4 rfl)) (by decide) (backOf (W := 0) (rmPutN l Z a0 hw [] b15 q3 q10 xl yl k15 ds_295 nn 13 h295 n0 Zc303 G295_0 (by first | assumption | omega | rfl | decide) (by first | assumption | omega | rfl | decide)) hZ (own_m hw 4 rfl) (own_m hw 3 rfl) (by decide) (by decide)) (g := (mkF m 216 #[.val (.long xl), .second, .val (.long yl), .second, .val (.int mode), .val (.int pos), .val (.int zz), .val (.int (Int32.ofNat nn)), .val (.int q3), .val (.int q10), .val (.ref b15), .unset, .unset, .unset] [(.long yl), (.long xl), (.int q10), (.int q3), (.int (13 : Int32)), (.ref b15)])) rfl (by rw [hml]; rfl) (argsL := [(.ref b15), (.int (13 : Int32)), (.int q3), (.int q10), (.long xl), (.long yl)]) (rest := []) (lenOf pd___CIZZJJ_V rfl) rfl (by show 2 * 0 + _ ≤ _; exact Nat.le_of_eq rfl) (dd hy at_216) (fun _ _ => ⟨rfl, e295, (show (1 + 2 * 5 + 2 * (min 13 nn - min 13 (nn - 5))) + 0 ≤ 32 by omega), (by decide : 447 + 0 ≤ _)⟩)
      dsimp only [Pt.U, Pt.locs, Pt.cells, Pt.slots] at X304 l304 y304 z304 st304 hQ304
      subst l304 y304 z304
      obtain ⟨rfl, N304q, e304⟩ := hQ304
      have N304 := Fr.app N295 N304q
      have s305 : ∀ t_, Steps p.tables e below (T304.setTop (mkF m 219 #[.val (.long xl), .second, .val (.long yl), .second, .val (.int mode), .val (.int pos), .val (.int zz), .val (.int (Int32.ofNat nn)), .val (.int q3), .val (.int q10), .val (.ref b15), .unset, .unset, .unset] [])) t_ → Steps _ _ _ _ t_ := fun t_ k_ => s302 t_ (by
        refine st304 _ ?_
        show Steps _ _ _ (T304.setTop (mkF m 219 #[.val (.long xl), .second, .val (.long yl), .second, .val (.int mode), .val (.int pos), .val (.int zz), .val (.int (Int32.ofNat nn)), .val (.int q3), .val (.int q10), .val (.ref b15), .unset, .unset, .unset] [])) _
        exact k_)
      exact ⟨V295, _, T304, _, _, _, X304.more (show (1 + 2 * 5 + 2 * (min 13 nn - min 13 (nn - 5))) + 0 ≤ (1 + 2 * 5 + 2 * (min 14 nn - min 14 (nn - 5))) by omega) (by decide), e304, N304, (Keep.refl h295 [b15]), hS, (by first | exact hk | exact Nat.le_refl _ | (rw [← e304]; exact Nat.le_refl _)), hZ, hown, (CHr.refl CR.1), ⟨ds_295, rfl, G295_0, J295_0, J295_1⟩, s305⟩
    · have s306 : ∀ t_, Steps p.tables e below (T295.setTop (mkF m 216 #[.val (.long xl), .second, .val (.long yl), .second, .val (.int mode), .val (.int pos), .val (.int zz), .val (.int (Int32.ofNat nn)), .val (.int q3), .val (.int q10), .val (.ref b15), .unset, .unset, .unset] [(.long yl), (.long xl), (.int q10), (.int q3), (.int (13 : Int32)), (.ref b15)])) t_ → Steps p.tables e below (s₁.setTop (entryFrame m #[(.long xl), (.long yl), (.int mode), (.int pos), (.int zz)] maxLocals)) t_ := fun t_ k_ => s300 t_ (castTop (by rfl) k_)
      have Zc307 : n0 ≤ h295.size := by omega
      obtain ⟨_, _, ⟨T308, L308, k308, n308⟩, -, Xr308, hSr308, hg308, ⟨Lc308, hQ308, l308, y308, z308, Cp308⟩, st308⟩ := callSS X295 hx (y := M23_) hown (mvT hZ (own_m hw 1 rfl)) (mvT hZ (own_m hw 2 rfl)) (mvT hZ (own_m hw 3 rfl)) (mvT hZ (own_m hw 4 rfl)) (by decide) (backOfSH (s := s) (vm0 := V295) (W := 0) (rmPutB5 l Z a0 hw [] b15 q3 q10 xl yl cst k15 ds_295 nn 13 fmt h295 n0 Zc307 I1 hfmt I5 O298 hcst G295_0 J295_0 (by first | assumption | omega | rfl | decide) (by first | assumption | omega | rfl | decide) J295_1 (by first | assumption | omega | rfl | decide) (by first | assumption | omega | rfl | decide) (by first | assumption | omega | rfl | decide)) hZ (own_m hw 4 rfl) (own_m hw 3 rfl) (by decide) (by decide) hEL CR.1) (g := (mkF m 216 #[.val (.long xl), .second, .val (.long yl), .second, .val (.int mode), .val (.int pos), .val (.int zz), .val (.int (Int32.ofNat nn)), .val (.int q3), .val (.int q10), .val (.ref b15), .unset, .unset, .unset] [(.long yl), (.long xl), (.int q10), (.int q3), (.int (13 : Int32)), (.ref b15)])) rfl (by rw [hml]; rfl) (argsL := [(.ref b15), (.int (13 : Int32)), (.int q3), (.int q10), (.long xl), (.long yl)]) (rest := []) (lenOf pd___CIZZJJ_V rfl) rfl (by show 2 * 0 + _ ≤ _; exact Nat.le_of_eq rfl) (dd hy at_216) (fun _ _ => ⟨rfl, e295, (show (1 + 2 * 5 + 2 * (min 13 nn - min 13 (nn - 5))) + 2 ≤ 32 by omega), (by decide : 447 + 24 ≤ _)⟩)
      dsimp only [Pt.U, Pt.locs, Pt.cells, Pt.slots] at Xr308 hSr308 hg308 l308 y308 z308 st308 hQ308 Cp308
      subst l308 y308 z308
      obtain ⟨X308, hS, hZ, hown⟩ := rebS (own := "io/dyeline/store/LayoutIsDataFilePinLaw") hS (by first | exact Nat.le_refl _ | (rw [e295]; exact hk)) Xr308 hSr308 hg308 hZ hown
      obtain ⟨ds_308, rfl, N308q, K308, Fq308_0, P308_0, P308_1⟩ := hQ308
      have N308 := Fr.app N295 N308q
      obtain ⟨h308, e308⟩ : ∃ z, T308.heap = z := ⟨_, rfl⟩
      rw [e308] at K308 Fq308_0 Cp308
      have hk : T308.heap.size ≤ h308.size := Nat.le_of_eq (congrArg Array.size e308)
      have z309 : h295.size ≤ h308.size := K308.1
      have CR := CR.trans Cp308
      have lt308_0 : @LT.lt Nat _ b15 h308.size := Fq308_0.lt
      have s310 : ∀ t_, Steps p.tables e below (T308.setTop (mkF m 219 #[.val (.long xl), .second, .val (.long yl), .second, .val (.int mode), .val (.int pos), .val (.int zz), .val (.int (Int32.ofNat nn)), .val (.int q3), .val (.int q10), .val (.ref b15), .unset, .unset, .unset] [])) t_ → Steps _ _ _ _ t_ := fun t_ k_ => s306 t_ (by
        refine st308.trans ?_
        show Steps _ _ _ (T308.setTop (mkF m 219 #[.val (.long xl), .second, .val (.long yl), .second, .val (.int mode), .val (.int pos), .val (.int zz), .val (.int (Int32.ofNat nn)), .val (.int q3), .val (.int q10), .val (.ref b15), .unset, .unset, .unset] [])) _
        exact k_)
      exact ⟨T308.vm, _, T308, _, _, _, X308.more (show (1 + 2 * 5 + 2 * (min 13 nn - min 13 (nn - 5))) + 2 ≤ (1 + 2 * 5 + 2 * (min 14 nn - min 14 (nn - 5))) by omega) (by decide), e308, N308, ((Keep.refl h295 [b15]).trans K308 (allS (Or.inl (by simp)) all0)), hS, (by first | exact hk | exact Nat.le_refl _ | (rw [← e308]; exact Nat.le_refl _)), hZ, hown, Cp308, ⟨ds_308, rfl, Fq308_0, P308_0, P308_1⟩, s310⟩
  clear hk
  obtain ⟨V311, k311, T311, lo311, h311, fe311, X311, e311, N311, K311, hS, hk, hZ, hown, Cp311, A311, st311⟩ := bk299
  have z312 : h295.size ≤ h311.size := K311.1
  have CR := CR.trans Cp311
  obtain ⟨ds_311, rfl, G311_0, J311_0, J311_1⟩ := A311
  have s313 : ∀ t_, Steps p.tables e below (T311.setTop (mkF m 219 #[.val (.long xl), .second, .val (.long yl), .second, .val (.int mode), .val (.int pos), .val (.int zz), .val (.int (Int32.ofNat nn)), .val (.int q3), .val (.int q10), .val (.ref b15), .unset, .unset, .unset] [])) t_ → Steps p.tables e below (s₁.setTop (entryFrame m #[(.long xl), (.long yl), (.int mode), (.int pos), (.int zz)] maxLocals)) t_ := st311
  have lt311_0 : @LT.lt Nat _ b15 h311.size := G311_0.lt
  have zz311 : h15.size ≤ h311.size := Nat.le_trans zz295 z312
  have O314 : Old Z n0 h311 := (O298.keep K311 (allS (show n0 ≤ b15 by omega) all0))
  clear z312 zz295 lt295_0 J295_0 J295_1
  have bk315 : ∃ (V' : Vm) (k' : Nat) (T' : State) (lo' : List Loc) (hx_ : Heap) (fe_ : JFrame), Stand p l e room_1 (s.setVm V') m #[(.long xl), (.long yl), (.int mode), (.int pos), (.int zz)] below meth c T' lo' (1 + 2 * 5 + 2 * (min 15 nn - min 15 (nn - 5))) 495 ∧ T'.heap = hx_ ∧ Fr n0 lo' ∧ Keep h311 hx_ [b15] ∧ s.Since V' k' ∧ k' ≤ hx_.size ∧ Z.Warmed39 (s.setVm V').vm ∧ (s.setVm V').vm.findClass "io/dyeline/store/LayoutIsDataFilePinLaw" = some m.cls ∧ CHr Z ELs V311 h311 V' hx_ ∧ ((∃ (ds : List Int32), fe_ = (mkF m 232 #[.val (.long xl), .second, .val (.long yl), .second, .val (.int mode), .val (.int pos), .val (.int zz), .val (.int (Int32.ofNat nn)), .val (.int q3), .val (.int q10), .val (.ref b15), .unset, .unset, .unset] []) ∧ Arv Z hx_ b15 k15 .char (Int32.ofNat nn) (ds.map Value.int) v0_ ∧ (ds.length = nn) ∧ (own_chs ds))) ∧ ∀ t_, Steps p.tables e below (T'.setTop fe_) t_ → Steps p.tables e below (s₁.setTop (entryFrame m #[(.long xl), (.long yl), (.int mode), (.int pos), (.int zz)] maxLocals)) t_ := by
    have s316 : ∀ t_, Steps p.tables e below (T311.setTop (mkF m 229 #[.val (.long xl), .second, .val (.long yl), .second, .val (.int mode), .val (.int pos), .val (.int zz), .val (.int (Int32.ofNat nn)), .val (.int q3), .val (.int q10), .val (.ref b15), .unset, .unset, .unset] [(.long yl), (.long xl), (.int q10), (.int q3), (.int (14 : Int32)), (.ref b15)])) t_ → Steps _ _ _ _ t_ := fun t_ k_ => s313 t_ (by
      refine XS.aload X311.here hx rfl (dd hy at_219) rfl rfl ?_
      refine XS.bipush X311.here hx rfl (dd hy at_221) ?_
      refine XS.iload X311.here hx rfl (dd hy at_223) rfl ?_
      show Steps _ _ _ (T311.setTop (mkF m 225 #[.val (.long xl), .second, .val (.long yl), .second, .val (.int mode), .val (.int pos), .val (.int zz), .val (.int (Int32.ofNat nn)), .val (.int q3), .val (.int q10), .val (.ref b15), .unset, .unset, .unset] [(.int q3), (.int (14 : Int32)), (.ref b15)])) _
      refine XS.iload X311.here hx rfl (dd hy at_225) rfl ?_
      refine XS.lloadN X311.here hx rfl (dd hy at_227) rfl ?_
      refine XS.lloadN X311.here hx rfl (dd hy at_228) rfl ?_
      exact k_)
    by_cases h317 : nn ≤ 14
    · have s318 : ∀ t_, Steps p.tables e below (T311.setTop (mkF m 229 #[.val (.long xl), .second, .val (.long yl), .second, .val (.int mode), .val (.int pos), .val (.int zz), .val (.int (Int32.ofNat nn)), .val (.int q3), .val (.int q10), .val (.ref b15), .unset, .unset, .unset] [(.long yl), (.long xl), (.int q10), (.int q3), (.int (14 : Int32)), (.ref b15)])) t_ → Steps p.tables e below (s₁.setTop (entryFrame m #[(.long xl), (.long yl), (.int mode), (.int pos), (.int zz)] maxLocals)) t_ := fun t_ k_ => s316 t_ (castTop (by rfl) k_)
      have Zc319 : n0 ≤ h311.size := by omega
      obtain ⟨_, _, ⟨T320, L320, k320, n320⟩, -, X320, ⟨Lc320, hQ320, l320, y320, z320⟩, st320⟩ := Jvm.LawKit.callS X311 hx (y := M23_) hown (mvT hZ (own_m hw 1 rfl)) (mvT hZ (own_m hw 2 rfl)) (mvT hZ (own_m hw 3 rfl)) (mvT hZ (own_m hw 4 rfl)) (by decide) (backOf (W := 0) (rmPutN l Z a0 hw [] b15 q3 q10 xl yl k15 ds_311 nn 14 h311 n0 Zc319 G311_0 (by first | assumption | omega | rfl | decide) (by first | assumption | omega | rfl | decide)) hZ (own_m hw 4 rfl) (own_m hw 3 rfl) (by decide) (by decide)) (g := (mkF m 229 #[.val (.long xl), .second, .val (.long yl), .second, .val (.int mode), .val (.int pos), .val (.int zz), .val (.int (Int32.ofNat nn)), .val (.int q3), .val (.int q10), .val (.ref b15), .unset, .unset, .unset] [(.long yl), (.long xl), (.int q10), (.int q3), (.int (14 : Int32)), (.ref b15)])) rfl (by rw [hml]; rfl) (argsL := [(.ref b15), (.int (14 : Int32)), (.int q3), (.int q10), (.long xl), (.long yl)]) (rest := []) (lenOf pd___CIZZJJ_V rfl) rfl (by show 2 * 0 + _ ≤ _; exact Nat.le_of_eq rfl) (dd hy at_229) (fun _ _ => ⟨rfl, e311, (show (1 + 2 * 5 + 2 * (min 14 nn - min 14 (nn - 5))) + 0 ≤ 32 by omega), (by decide : 471 + 0 ≤ _)⟩)
      dsimp only [Pt.U, Pt.locs, Pt.cells, Pt.slots] at X320 l320 y320 z320 st320 hQ320
      subst l320 y320 z320
      obtain ⟨rfl, N320q, e320⟩ := hQ320
      have N320 := Fr.app N311 N320q
      have s321 : ∀ t_, Steps p.tables e below (T320.setTop (mkF m 232 #[.val (.long xl), .second, .val (.long yl), .second, .val (.int mode), .val (.int pos), .val (.int zz), .val (.int (Int32.ofNat nn)), .val (.int q3), .val (.int q10), .val (.ref b15), .unset, .unset, .unset] [])) t_ → Steps _ _ _ _ t_ := fun t_ k_ => s318 t_ (by
        refine st320 _ ?_
        show Steps _ _ _ (T320.setTop (mkF m 232 #[.val (.long xl), .second, .val (.long yl), .second, .val (.int mode), .val (.int pos), .val (.int zz), .val (.int (Int32.ofNat nn)), .val (.int q3), .val (.int q10), .val (.ref b15), .unset, .unset, .unset] [])) _
        exact k_)
      exact ⟨V311, _, T320, _, _, _, X320.more (show (1 + 2 * 5 + 2 * (min 14 nn - min 14 (nn - 5))) + 0 ≤ (1 + 2 * 5 + 2 * (min 15 nn - min 15 (nn - 5))) by omega) (by decide), e320, N320, (Keep.refl h311 [b15]), hS, (by first | exact hk | exact Nat.le_refl _ | (rw [← e320]; exact Nat.le_refl _)), hZ, hown, (CHr.refl CR.1), ⟨ds_311, rfl, G311_0, J311_0, J311_1⟩, s321⟩
    · have s322 : ∀ t_, Steps p.tables e below (T311.setTop (mkF m 229 #[.val (.long xl), .second, .val (.long yl), .second, .val (.int mode), .val (.int pos), .val (.int zz), .val (.int (Int32.ofNat nn)), .val (.int q3), .val (.int q10), .val (.ref b15), .unset, .unset, .unset] [(.long yl), (.long xl), (.int q10), (.int q3), (.int (14 : Int32)), (.ref b15)])) t_ → Steps p.tables e below (s₁.setTop (entryFrame m #[(.long xl), (.long yl), (.int mode), (.int pos), (.int zz)] maxLocals)) t_ := fun t_ k_ => s316 t_ (castTop (by rfl) k_)
      have Zc323 : n0 ≤ h311.size := by omega
      obtain ⟨_, _, ⟨T324, L324, k324, n324⟩, -, Xr324, hSr324, hg324, ⟨Lc324, hQ324, l324, y324, z324, Cp324⟩, st324⟩ := callSS X311 hx (y := M23_) hown (mvT hZ (own_m hw 1 rfl)) (mvT hZ (own_m hw 2 rfl)) (mvT hZ (own_m hw 3 rfl)) (mvT hZ (own_m hw 4 rfl)) (by decide) (backOfSH (s := s) (vm0 := V311) (W := 0) (rmPutB5 l Z a0 hw [] b15 q3 q10 xl yl cst k15 ds_311 nn 14 fmt h311 n0 Zc323 I1 hfmt I5 O314 hcst G311_0 J311_0 (by first | assumption | omega | rfl | decide) (by first | assumption | omega | rfl | decide) J311_1 (by first | assumption | omega | rfl | decide) (by first | assumption | omega | rfl | decide) (by first | assumption | omega | rfl | decide)) hZ (own_m hw 4 rfl) (own_m hw 3 rfl) (by decide) (by decide) hEL CR.1) (g := (mkF m 229 #[.val (.long xl), .second, .val (.long yl), .second, .val (.int mode), .val (.int pos), .val (.int zz), .val (.int (Int32.ofNat nn)), .val (.int q3), .val (.int q10), .val (.ref b15), .unset, .unset, .unset] [(.long yl), (.long xl), (.int q10), (.int q3), (.int (14 : Int32)), (.ref b15)])) rfl (by rw [hml]; rfl) (argsL := [(.ref b15), (.int (14 : Int32)), (.int q3), (.int q10), (.long xl), (.long yl)]) (rest := []) (lenOf pd___CIZZJJ_V rfl) rfl (by show 2 * 0 + _ ≤ _; exact Nat.le_of_eq rfl) (dd hy at_229) (fun _ _ => ⟨rfl, e311, (show (1 + 2 * 5 + 2 * (min 14 nn - min 14 (nn - 5))) + 2 ≤ 32 by omega), (by decide : 471 + 24 ≤ _)⟩)
      dsimp only [Pt.U, Pt.locs, Pt.cells, Pt.slots] at Xr324 hSr324 hg324 l324 y324 z324 st324 hQ324 Cp324
      subst l324 y324 z324
      obtain ⟨X324, hS, hZ, hown⟩ := rebS (own := "io/dyeline/store/LayoutIsDataFilePinLaw") hS (by first | exact Nat.le_refl _ | (rw [e311]; exact hk)) Xr324 hSr324 hg324 hZ hown
      obtain ⟨ds_324, rfl, N324q, K324, Fq324_0, P324_0, P324_1⟩ := hQ324
      have N324 := Fr.app N311 N324q
      obtain ⟨h324, e324⟩ : ∃ z, T324.heap = z := ⟨_, rfl⟩
      rw [e324] at K324 Fq324_0 Cp324
      have hk : T324.heap.size ≤ h324.size := Nat.le_of_eq (congrArg Array.size e324)
      have z325 : h311.size ≤ h324.size := K324.1
      have CR := CR.trans Cp324
      have lt324_0 : @LT.lt Nat _ b15 h324.size := Fq324_0.lt
      have s326 : ∀ t_, Steps p.tables e below (T324.setTop (mkF m 232 #[.val (.long xl), .second, .val (.long yl), .second, .val (.int mode), .val (.int pos), .val (.int zz), .val (.int (Int32.ofNat nn)), .val (.int q3), .val (.int q10), .val (.ref b15), .unset, .unset, .unset] [])) t_ → Steps _ _ _ _ t_ := fun t_ k_ => s322 t_ (by
        refine st324.trans ?_
        show Steps _ _ _ (T324.setTop (mkF m 232 #[.val (.long xl), .second, .val (.long yl), .second, .val (.int mode), .val (.int pos), .val (.int zz), .val (.int (Int32.ofNat nn)), .val (.int q3), .val (.int q10), .val (.ref b15), .unset, .unset, .unset] [])) _
        exact k_)
      exact ⟨T324.vm, _, T324, _, _, _, X324.more (show (1 + 2 * 5 + 2 * (min 14 nn - min 14 (nn - 5))) + 2 ≤ (1 + 2 * 5 + 2 * (min 15 nn - min 15 (nn - 5))) by omega) (by decide), e324, N324, ((Keep.refl h311 [b15]).trans K324 (allS (Or.inl (by simp)) all0)), hS, (by first | exact hk | exact Nat.le_refl _ | (rw [← e324]; exact Nat.le_refl _)), hZ, hown, Cp324, ⟨ds_324, rfl, Fq324_0, P324_0, P324_1⟩, s326⟩
  clear hk
  obtain ⟨V327, k327, T327, lo327, h327, fe327, X327, e327, N327, K327, hS, hk, hZ, hown, Cp327, A327, st327⟩ := bk315
  have z328 : h311.size ≤ h327.size := K327.1
  have CR := CR.trans Cp327
  obtain ⟨ds_327, rfl, G327_0, J327_0, J327_1⟩ := A327
  have s329 : ∀ t_, Steps p.tables e below (T327.setTop (mkF m 232 #[.val (.long xl), .second, .val (.long yl), .second, .val (.int mode), .val (.int pos), .val (.int zz), .val (.int (Int32.ofNat nn)), .val (.int q3), .val (.int q10), .val (.ref b15), .unset, .unset, .unset] [])) t_ → Steps p.tables e below (s₁.setTop (entryFrame m #[(.long xl), (.long yl), (.int mode), (.int pos), (.int zz)] maxLocals)) t_ := st327
  have lt327_0 : @LT.lt Nat _ b15 h327.size := G327_0.lt
  have zz327 : h15.size ≤ h327.size := Nat.le_trans zz311 z328
  have O330 : Old Z n0 h327 := (O314.keep K327 (allS (show n0 ≤ b15 by omega) all0))
  clear z328 zz311 lt311_0 J311_0 J311_1
  have bk331 : ∃ (V' : Vm) (k' : Nat) (T' : State) (lo' : List Loc) (hx_ : Heap) (fe_ : JFrame), Stand p l e room_1 (s.setVm V') m #[(.long xl), (.long yl), (.int mode), (.int pos), (.int zz)] below meth c T' lo' 21 495 ∧ T'.heap = hx_ ∧ Fr n0 lo' ∧ Keep h327 hx_ [b15] ∧ s.Since V' k' ∧ k' ≤ hx_.size ∧ Z.Warmed39 (s.setVm V').vm ∧ (s.setVm V').vm.findClass "io/dyeline/store/LayoutIsDataFilePinLaw" = some m.cls ∧ CHr Z ELs V327 h327 V' hx_ ∧ ((∃ (ds : List Int32), fe_ = (mkF m 245 #[.val (.long xl), .second, .val (.long yl), .second, .val (.int mode), .val (.int pos), .val (.int zz), .val (.int (Int32.ofNat nn)), .val (.int q3), .val (.int q10), .val (.ref b15), .unset, .unset, .unset] []) ∧ Arv Z hx_ b15 k15 .char (Int32.ofNat nn) (ds.map Value.int) v0_ ∧ (ds.length = nn) ∧ (own_chs ds))) ∧ ∀ t_, Steps p.tables e below (T'.setTop fe_) t_ → Steps p.tables e below (s₁.setTop (entryFrame m #[(.long xl), (.long yl), (.int mode), (.int pos), (.int zz)] maxLocals)) t_ := by
    have s332 : ∀ t_, Steps p.tables e below (T327.setTop (mkF m 242 #[.val (.long xl), .second, .val (.long yl), .second, .val (.int mode), .val (.int pos), .val (.int zz), .val (.int (Int32.ofNat nn)), .val (.int q3), .val (.int q10), .val (.ref b15), .unset, .unset, .unset] [(.long yl), (.long xl), (.int q10), (.int q3), (.int (15 : Int32)), (.ref b15)])) t_ → Steps _ _ _ _ t_ := fun t_ k_ => s329 t_ (by
      refine XS.aload X327.here hx rfl (dd hy at_232) rfl rfl ?_
      refine XS.bipush X327.here hx rfl (dd hy at_234) ?_
      refine XS.iload X327.here hx rfl (dd hy at_236) rfl ?_
      show Steps _ _ _ (T327.setTop (mkF m 238 #[.val (.long xl), .second, .val (.long yl), .second, .val (.int mode), .val (.int pos), .val (.int zz), .val (.int (Int32.ofNat nn)), .val (.int q3), .val (.int q10), .val (.ref b15), .unset, .unset, .unset] [(.int q3), (.int (15 : Int32)), (.ref b15)])) _
      refine XS.iload X327.here hx rfl (dd hy at_238) rfl ?_
      refine XS.lloadN X327.here hx rfl (dd hy at_240) rfl ?_
      refine XS.lloadN X327.here hx rfl (dd hy at_241) rfl ?_
      exact k_)
    have Zc333 : n0 ≤ h327.size := by omega
    obtain ⟨_, _, ⟨T334, L334, k334, n334⟩, -, X334, ⟨Lc334, hQ334, l334, y334, z334⟩, st334⟩ := Jvm.LawKit.callS X327 hx (y := M23_) hown (mvT hZ (own_m hw 1 rfl)) (mvT hZ (own_m hw 2 rfl)) (mvT hZ (own_m hw 3 rfl)) (mvT hZ (own_m hw 4 rfl)) (by decide) (backOf (W := 0) (rmPutN l Z a0 hw [] b15 q3 q10 xl yl k15 ds_327 nn 15 h327 n0 Zc333 G327_0 (by first | assumption | omega | rfl | decide) (by first | assumption | omega | rfl | decide)) hZ (own_m hw 4 rfl) (own_m hw 3 rfl) (by decide) (by decide)) (g := (mkF m 242 #[.val (.long xl), .second, .val (.long yl), .second, .val (.int mode), .val (.int pos), .val (.int zz), .val (.int (Int32.ofNat nn)), .val (.int q3), .val (.int q10), .val (.ref b15), .unset, .unset, .unset] [(.long yl), (.long xl), (.int q10), (.int q3), (.int (15 : Int32)), (.ref b15)])) rfl (by rw [hml]; rfl) (argsL := [(.ref b15), (.int (15 : Int32)), (.int q3), (.int q10), (.long xl), (.long yl)]) (rest := []) (lenOf pd___CIZZJJ_V rfl) rfl (by show 2 * 0 + _ ≤ _; exact Nat.le_of_eq rfl) (dd hy at_242) (fun _ _ => ⟨rfl, e327, (show (1 + 2 * 5 + 2 * (min 15 nn - min 15 (nn - 5))) + 0 ≤ 32 by omega), (by decide : 495 + 0 ≤ _)⟩)
    dsimp only [Pt.U, Pt.locs, Pt.cells, Pt.slots] at X334 l334 y334 z334 st334 hQ334
    subst l334 y334 z334
    obtain ⟨rfl, N334q, e334⟩ := hQ334
    have N334 := Fr.app N327 N334q
    have s335 : ∀ t_, Steps p.tables e below (T334.setTop (mkF m 245 #[.val (.long xl), .second, .val (.long yl), .second, .val (.int mode), .val (.int pos), .val (.int zz), .val (.int (Int32.ofNat nn)), .val (.int q3), .val (.int q10), .val (.ref b15), .unset, .unset, .unset] [])) t_ → Steps _ _ _ _ t_ := fun t_ k_ => s332 t_ (by
      refine st334 _ ?_
      show Steps _ _ _ (T334.setTop (mkF m 245 #[.val (.long xl), .second, .val (.long yl), .second, .val (.int mode), .val (.int pos), .val (.int zz), .val (.int (Int32.ofNat nn)), .val (.int q3), .val (.int q10), .val (.ref b15), .unset, .unset, .unset] [])) _
      exact k_)
    exact ⟨V327, _, T334, _, _, _, X334.more (show (1 + 2 * 5 + 2 * (min 15 nn - min 15 (nn - 5))) + 0 ≤ 21 by omega) (by decide), e334, N334, (Keep.refl h327 [b15]), hS, (by first | exact hk | exact Nat.le_refl _ | (rw [← e334]; exact Nat.le_refl _)), hZ, hown, (CHr.refl CR.1), ⟨ds_327, rfl, G327_0, J327_0, J327_1⟩, s335⟩
  clear hk
  obtain ⟨V336, k336, T336, lo336, h336, fe336, X336, e336, N336, K336, hS, hk, hZ, hown, Cp336, A336, st336⟩ := bk331
  have z337 : h327.size ≤ h336.size := K336.1
  have CR := CR.trans Cp336
  obtain ⟨ds_336, rfl, G336_0, J336_0, J336_1⟩ := A336
  have s338 : ∀ t_, Steps p.tables e below (T336.setTop (mkF m 245 #[.val (.long xl), .second, .val (.long yl), .second, .val (.int mode), .val (.int pos), .val (.int zz), .val (.int (Int32.ofNat nn)), .val (.int q3), .val (.int q10), .val (.ref b15), .unset, .unset, .unset] [])) t_ → Steps p.tables e below (s₁.setTop (entryFrame m #[(.long xl), (.long yl), (.int mode), (.int pos), (.int zz)] maxLocals)) t_ := st336
  have lt336_0 : @LT.lt Nat _ b15 h336.size := G336_0.lt
  have zz336 : h15.size ≤ h336.size := Nat.le_trans zz327 z337
  have O339 : Old Z n0 h336 := (O330.keep K336 (allS (show n0 ≤ b15 by omega) all0))
  clear z337 zz327 lt327_0 J327_0 J327_1
  have bk340 : ∃ (T' : State) (lo' : List Loc) (hx_ : Heap) (fe_ : JFrame), Stand p l e room_1 (s.setVm V336) m #[(.long xl), (.long yl), (.int mode), (.int pos), (.int zz)] below meth c T' lo' 21 495 ∧ T'.heap = hx_ ∧ Fr n0 lo' ∧ Keep h336 hx_ [b15] ∧ ((∃ (ds : List Int32), ∃ (sl11 : Slot), fe_ = (mkF m 278 #[.val (.long xl), .second, .val (.long yl), .second, .val (.int mode), .val (.int pos), .val (.int zz), .val (.int (Int32.ofNat nn)), .val (.int q3), .val (.int q10), .val (.ref b15), sl11, .unset, .unset] []) ∧ Arv Z hx_ b15 k15 .char (Int32.ofNat nn) (ds.map Value.int) v0_ ∧ (ds.length = nn) ∧ (own_chs ds) ∧ (One sl11))) ∧ ∀ t_, Steps p.tables e below (T'.setTop fe_) t_ → Steps p.tables e below (s₁.setTop (entryFrame m #[(.long xl), (.long yl), (.int mode), (.int pos), (.int zz)] maxLocals)) t_ := by
    obtain ⟨q341, hq341⟩ : ∃ z : Int32, z = (mode &&& (64 : Int32)) := ⟨_, rfl⟩
    have s342 : ∀ t_, Steps p.tables e below (T336.setTop (mkF m 250 #[.val (.long xl), .second, .val (.long yl), .second, .val (.int mode), .val (.int pos), .val (.int zz), .val (.int (Int32.ofNat nn)), .val (.int q3), .val (.int q10), .val (.ref b15), .unset, .unset, .unset] [(.int q341)])) t_ → Steps _ _ _ _ t_ := fun t_ k_ => s338 t_ (by
      refine XS.iload X336.here hx rfl (dd hy at_245) rfl ?_
      refine XS.bipush X336.here hx rfl (dd hy at_247) ?_
      refine XS.iand X336.here hx rfl (dd hy at_249) rfl ?_
      show Steps _ _ _ (T336.setTop (mkF m 250 #[.val (.long xl), .second, .val (.long yl), .second, .val (.int mode), .val (.int pos), .val (.int zz), .val (.int (Int32.ofNat nn)), .val (.int q3), .val (.int q10), .val (.ref b15), .unset, .unset, .unset] [(.int (mode &&& (64 : Int32)))])) _
      exact castTop (by simp only [hq341]) k_)
    by_cases h343 : q341 = (0 : Int32)
    · have s344 : ∀ t_, Steps p.tables e below (T336.setTop (mkF m 278 #[.val (.long xl), .second, .val (.long yl), .second, .val (.int mode), .val (.int pos), .val (.int zz), .val (.int (Int32.ofNat nn)), .val (.int q3), .val (.int q10), .val (.ref b15), .unset, .unset, .unset] [])) t_ → Steps _ _ _ _ t_ := fun t_ k_ => s342 t_ (by
        refine XS.ifYes X336.here hx rfl (pc0 := 250) (pc' := 278) rfl (dd hy at_250) rfl ((if0 _ _).trans (teq h343).1) (by decide) (by decide) ?_
        show Steps _ _ _ (T336.setTop (mkF m 278 #[.val (.long xl), .second, .val (.long yl), .second, .val (.int mode), .val (.int pos), .val (.int zz), .val (.int (Int32.ofNat nn)), .val (.int q3), .val (.int q10), .val (.ref b15), .unset, .unset, .unset] [])) _
        exact k_)
      exact ⟨T336, _, _, _, X336, e336, N336, (Keep.refl h336 [b15]), ⟨ds_336, (.unset), rfl, G336_0, J336_0, J336_1, One.u⟩, s344⟩
    · obtain ⟨kk, hkk, hkl⟩ := own_and15 pos
      have s345 : ∀ t_, Steps p.tables e below (T336.setTop (mkF m 264 #[.val (.long xl), .second, .val (.long yl), .second, .val (.int mode), .val (.int pos), .val (.int zz), .val (.int (Int32.ofNat nn)), .val (.int q3), .val (.int q10), .val (.ref b15), .val (.int (Int32.ofNat kk)), .unset, .unset] [(.int (Int32.ofNat nn)), (.int (Int32.ofNat kk))])) t_ → Steps _ _ _ _ t_ := fun t_ k_ => s342 t_ (by
        refine XS.ifNo X336.here hx rfl (dd hy at_250) rfl ((if0 _ _).trans (feq h343).1) ?_
        show Steps _ _ _ (T336.setTop (mkF m 253 #[.val (.long xl), .second, .val (.long yl), .second, .val (.int mode), .val (.int pos), .val (.int zz), .val (.int (Int32.ofNat nn)), .val (.int q3), .val (.int q10), .val (.ref b15), .unset, .unset, .unset] [])) _
        refine XS.iload X336.here hx rfl (dd hy at_253) rfl ?_
        refine XS.bipush X336.here hx rfl (dd hy at_255) ?_
        refine XS.iand X336.here hx rfl (dd hy at_257) rfl ?_
        refine XS.istore X336.here hx rfl (dd hy at_258) rfl (l' := #[.val (.long xl), .second, .val (.long yl), .second, .val (.int mode), .val (.int pos), .val (.int zz), .val (.int (Int32.ofNat nn)), .val (.int q3), .val (.int q10), .val (.ref b15), .val (.int (pos &&& (15 : Int32))), .unset, .unset]) rfl ?_
        refine XS.iload X336.here hx rfl (dd hy at_260) rfl ?_
        refine XS.iload X336.here hx rfl (dd hy at_262) rfl ?_
        show Steps _ _ _ (T336.setTop (mkF m 264 #[.val (.long xl), .second, .val (.long yl), .second, .val (.int mode), .val (.int pos), .val (.int zz), .val (.int (Int32.ofNat nn)), .val (.int q3), .val (.int q10), .val (.ref b15), .val (.int (pos &&& (15 : Int32))), .unset, .unset] [(.int (Int32.ofNat nn)), (.int (pos &&& (15 : Int32)))])) _
        exact castTop (by simp only [hkk]) k_)
      by_cases h346 : (Int32.ofNat kk) < (Int32.ofNat nn)
      · have gk : kk < nn := own_ltN h346 (Nat.le_trans (Nat.le_of_lt hkl) (by decide))
        have gl := J336_0
        obtain ⟨cl347, Ar347, q347, S347, M347, H347, G347⟩ := id G336_0
        have hin347 : ¬ ((Int32.ofNat kk) < 0 ∨ cl347.slots.size ≤ ((Int32.ofNat kk)).toNatClampNeg) := inb_of S347 (own_in gk (by omega))
        obtain ⟨T348, h348, X348, e348, W348, st348⟩ := stC X336 hx hZ e336 Ar347 (j := (Int32.ofNat kk)) hin347 (g := (mkF m 277 #[.val (.long xl), .second, .val (.long yl), .second, .val (.int mode), .val (.int pos), .val (.int zz), .val (.int (Int32.ofNat nn)), .val (.int q3), .val (.int q10), .val (.ref b15), .val (.int (Int32.ofNat kk)), .unset, .unset] [(.int (i2c (zz &&& (65535 : Int32)))), (.int (Int32.ofNat kk)), (.ref b15)])) rfl rfl (dd hy at_277)
        obtain ⟨q349, hq349⟩ : ∃ z : Int32, z = (i2c (zz &&& (65535 : Int32))) := ⟨_, rfl⟩
        have z350 : h336.size ≤ h348.size := Nat.le_of_eq W348.size.symm
        have Cp350 : CHr Z ELs V336 h336 V336 h348 := CHr.wr W348 (Safe.arv hZ.alike G336_0 (by decide)) CR.1
        have hk := Nat.le_trans hk z350
        have CR := CR.trans Cp350
        have V348 : Arv Z h348 b15 k15 .char (Int32.ofNat nn) ((List.set ds_336 kk (i2c (zz &&& (65535 : Int32)))).map Value.int) v0_ := by
          have q : Arv Z h348 b15 k15 .char (Int32.ofNat nn) (List.set (List.map Value.int ds_336) kk (.int (nar .char (i2c (zz &&& (65535 : Int32)))))) v0_ := Arv.set Ar347 q347 S347 M347 H347 G347 (fits_nar_char _) W348 kk (own_tn (by omega)) (by rw [List.length_map]; omega)
          rw [show nar .char (i2c (zz &&& (65535 : Int32))) = (i2c (zz &&& (65535 : Int32))) from own_nari2c _] at q
          rw [List.map_set]
          exact q
        have N348 := Fr.snoc X348 N336 (show n0 ≤ b15 by omega)
        have s351 : ∀ t_, Steps p.tables e below (T348.setTop (mkF m 278 #[.val (.long xl), .second, .val (.long yl), .second, .val (.int mode), .val (.int pos), .val (.int zz), .val (.int (Int32.ofNat nn)), .val (.int q3), .val (.int q10), .val (.ref b15), .val (.int (Int32.ofNat kk)), .unset, .unset] [])) t_ → Steps _ _ _ _ t_ := fun t_ k_ => s345 t_ (by
          refine XS.icmpNo X336.here hx rfl (dd hy at_264) rfl (tlt h346).2.1 ?_
          show Steps _ _ _ (T336.setTop (mkF m 267 #[.val (.long xl), .second, .val (.long yl), .second, .val (.int mode), .val (.int pos), .val (.int zz), .val (.int (Int32.ofNat nn)), .val (.int q3), .val (.int q10), .val (.ref b15), .val (.int (Int32.ofNat kk)), .unset, .unset] [])) _
          refine XS.aload X336.here hx rfl (dd hy at_267) rfl rfl ?_
          refine XS.iload X336.here hx rfl (dd hy at_269) rfl ?_
          refine XS.iload X336.here hx rfl (dd hy at_271) rfl ?_
          refine X336.ldcInt hx hown (mvT hZ (own_m hw 100 rfl)) (g := (mkF m 273 #[.val (.long xl), .second, .val (.long yl), .second, .val (.int mode), .val (.int pos), .val (.int zz), .val (.int (Int32.ofNat nn)), .val (.int q3), .val (.int q10), .val (.ref b15), .val (.int (Int32.ofNat kk)), .unset, .unset] [(.int zz), (.int (Int32.ofNat kk)), (.ref b15)])) rfl (dd hy at_273) _ ?_
          show Steps _ _ _ (T336.setTop (mkF m 275 #[.val (.long xl), .second, .val (.long yl), .second, .val (.int mode), .val (.int pos), .val (.int zz), .val (.int (Int32.ofNat nn)), .val (.int q3), .val (.int q10), .val (.ref b15), .val (.int (Int32.ofNat kk)), .unset, .unset] [(.int (65535 : Int32)), (.int zz), (.int (Int32.ofNat kk)), (.ref b15)])) _
          refine XS.iand X336.here hx rfl (dd hy at_275) rfl ?_
          refine XS.i2c X336.here hx rfl (dd hy at_276) rfl ?_
          refine st348 _ ?_
          exact k_)
        exact ⟨T348, _, _, _, X348, e348, N348, ((Keep.refl h336 [b15]).wr W348 (Or.inl (by simp))), ⟨(List.set ds_336 kk (i2c (zz &&& (65535 : Int32)))), (.val (.int (Int32.ofNat kk))), rfl, V348, (by rw [List.length_set]; exact J336_0), (own_chsset J336_1 (own_rng (q := (i2c (zz &&& (65535 : Int32)))) rfl)), (One.val rfl)⟩, s351⟩
      · have s352 : ∀ t_, Steps p.tables e below (T336.setTop (mkF m 278 #[.val (.long xl), .second, .val (.long yl), .second, .val (.int mode), .val (.int pos), .val (.int zz), .val (.int (Int32.ofNat nn)), .val (.int q3), .val (.int q10), .val (.ref b15), .val (.int (Int32.ofNat kk)), .unset, .unset] [])) t_ → Steps _ _ _ _ t_ := fun t_ k_ => s345 t_ (by
          refine XS.icmpYes X336.here hx rfl (pc0 := 264) (pc' := 278) rfl (dd hy at_264) rfl (flt h346).2.1 (by decide) (by decide) ?_
          show Steps _ _ _ (T336.setTop (mkF m 278 #[.val (.long xl), .second, .val (.long yl), .second, .val (.int mode), .val (.int pos), .val (.int zz), .val (.int (Int32.ofNat nn)), .val (.int q3), .val (.int q10), .val (.ref b15), .val (.int (Int32.ofNat kk)), .unset, .unset] [])) _
          exact k_)
        exact ⟨T336, _, _, _, X336, e336, N336, (Keep.refl h336 [b15]), ⟨ds_336, (.val (.int (Int32.ofNat kk))), rfl, G336_0, J336_0, J336_1, (One.val rfl)⟩, s352⟩
  obtain ⟨T353, lo353, h353, fe353, X353, e353, N353, K353, A353, st353⟩ := bk340
  have z354 : h336.size ≤ h353.size := K353.1
  have Cp354 : CHr Z ELs V336 h336 V336 h353 := CHr.keep K353 (sfS (Safe.arv hZ.alike G336_0 (by decide)) sf0) CR.1
  have hk := Nat.le_trans hk z354
  have CR := CR.trans Cp354
  obtain ⟨ds_353, sl11_353, rfl, G353_0, J353_0, J353_1, J353_2⟩ := A353
  have s355 : ∀ t_, Steps p.tables e below (T353.setTop (mkF m 278 #[.val (.long xl), .second, .val (.long yl), .second, .val (.int mode), .val (.int pos), .val (.int zz), .val (.int (Int32.ofNat nn)), .val (.int q3), .val (.int q10), .val (.ref b15), sl11_353, .unset, .unset] [])) t_ → Steps p.tables e below (s₁.setTop (entryFrame m #[(.long xl), (.long yl), (.int mode), (.int pos), (.int zz)] maxLocals)) t_ := st353
  have lt353_0 : @LT.lt Nat _ b15 h353.size := G353_0.lt
  have hsl11_353 : One sl11_353 := J353_2
  obtain ⟨T356, h356, X356, e356, E356, A356, D356, -, st356⟩ := newO X353 hx hZ hown (own_m hw 5 rfl) (own_m hw 6 rfl) (own_m hw 7 rfl) e353 (g := (mkF m 278 #[.val (.long xl), .second, .val (.long yl), .second, .val (.int mode), .val (.int pos), .val (.int zz), .val (.int (Int32.ofNat nn)), .val (.int q3), .val (.int q10), .val (.ref b15), sl11_353, .unset, .unset] [])) rfl (dd hy at_278) (by decide) (by decide)
  obtain ⟨b356, g356⟩ : ∃ z, z = h353.size := ⟨_, rfl⟩
  rw [← g356] at A356 D356 st356
  have z357 : h353.size ≤ h356.size := E356.1
  have Sf358 : Safe Z ELs V336 h356 b356 := Safe.ext E356 CR.1 (Safe.new (by omega))
  have Cp357 : CHr Z ELs V336 h353 V336 h356 := CHr.ext E356 CR.1
  have hk := Nat.le_trans hk z357
  have CR := CR.trans Cp357
  have l356 : b356 < h356.size := A356.lt
  have F359 : Fld Z h356 b356 cS "value" "[B" .null := D356 (Or.inr (own_m hw 20 rfl)) (ty := (.array .byte)) (by decide)
  have F360 : Fld Z h356 b356 cS "coder" "B" (.int (0 : Int32)) := D356 (Or.inr (own_m hw 21 rfl)) (ty := .byte) (by decide)
  have s361 : ∀ t_, Steps p.tables e below (T356.setTop (mkF m 284 #[.val (.long xl), .second, .val (.long yl), .second, .val (.int mode), .val (.int pos), .val (.int zz), .val (.int (Int32.ofNat nn)), .val (.int q3), .val (.int q10), .val (.ref b15), sl11_353, .unset, .unset] [(.ref b15), (.ref b356), (.ref b356)])) t_ → Steps _ _ _ _ t_ := fun t_ k_ => s355 t_ (by
    refine st356 _ ?_
    refine XS.dup X356.here hx rfl (dd hy at_281) rfl rfl ?_
    refine XS.aload X356.here hx rfl (dd hy at_282) rfl rfl ?_
    show Steps _ _ _ (T356.setTop (mkF m 284 #[.val (.long xl), .second, .val (.long yl), .second, .val (.int mode), .val (.int pos), .val (.int zz), .val (.int (Int32.ofNat nn)), .val (.int q3), .val (.int q10), .val (.ref b15), sl11_353, .unset, .unset] [(.ref b15), (.ref b356), (.ref b356)])) _
    exact k_)
  have O362 : Old Z n0 h356 := ((O339.keep K353 (allS (show n0 ≤ b15 by omega) all0)).ext E356)
  have f363 : Arv Z h356 b15 k15 .char (Int32.ofNat nn) (ds_353.map Value.int) v0_ := (G353_0.ext E356)
  have Zc364 : n0 ≤ h356.size := by omega
  obtain ⟨_, _, ⟨T365, L365, k365, n365⟩, -, Xr365, hSr365, hg365, ⟨Lc365, hQ365, l365, y365, z365, Cp365⟩, st365⟩ := X356.specialBackS hx (y := M9_) rfl hown (mvT hZ (own_m hw 8 rfl)) (mvT hZ (own_m hw 9 rfl)) (mvT hZ (own_m hw 10 rfl)) (by decide) (backOfSH (s := s) (vm0 := V336) (W := 1) (rmIni1 l Z a0 hw [] b356 b15 cst ds_353 k15 nn h356 n0 Zc364 I1 I2 I3 I4 O362 hcst A356 F359 F360 f363 J353_0 (Nat.le_of_lt_succ hnl) J353_1 (by first | assumption | omega | rfl | decide) (by first | assumption | omega | rfl | decide)) hZ (own_m hw 10 rfl) (own_m hw 7 rfl) (by decide) (by decide) hEL CR.1) (g := (mkF m 284 #[.val (.long xl), .second, .val (.long yl), .second, .val (.int mode), .val (.int pos), .val (.int zz), .val (.int (Int32.ofNat nn)), .val (.int q3), .val (.int q10), .val (.ref b15), sl11_353, .unset, .unset] [(.ref b15), (.ref b356), (.ref b356)])) rfl (by rw [hml]; rfl) (Steps.refl _) (a := b356) (argsL := [(.ref b15)]) (rest := [(.ref b356)]) (lenOf pd___C_V rfl) rfl (by show 2 * 0 + _ ≤ _; exact Nat.le_of_eq rfl) (dd hy at_284) (fun _ _ => ⟨rfl, e356, (by decide : 22 + 4 ≤ _), (by decide : 499 + 45 ≤ _)⟩)
  dsimp only [Pt.U, Pt.locs, Pt.cells, Pt.slots] at Xr365 hSr365 hg365 l365 y365 z365 st365 hQ365 Cp365
  subst l365 y365 z365
  obtain ⟨X365, hS, hZ, hown⟩ := rebS (own := "io/dyeline/store/LayoutIsDataFilePinLaw") hS (by first | exact Nat.le_refl _ | (rw [e356]; exact hk)) Xr365 hSr365 hg365 hZ hown
  obtain ⟨b_365, kb_365, rfl, N365q, K365, Fq365_0, Fq365_1, Fq365_2, Fq365_3⟩ := hQ365
  have N365 := Fr.app N353 N365q
  obtain ⟨h365, e365⟩ : ∃ z, T365.heap = z := ⟨_, rfl⟩
  rw [e365] at K365 Fq365_0 Fq365_1 Fq365_2 Fq365_3 Cp365
  have hk : T365.heap.size ≤ h365.size := Nat.le_of_eq (congrArg Array.size e365)
  have z366 : h356.size ≤ h365.size := K365.1
  have CR := CR.trans Cp365
  have lt365_0 : @LT.lt Nat _ b356 h365.size := Fq365_0.lt
  have lt365_3 : @LT.lt Nat _ b_365 h365.size := Fq365_3.lt
  have s367 : ∀ t_, Steps p.tables e below (T365.setTop (mkF m 292 #[.val (.long xl), .second, .val (.long yl), .second, .val (.int mode), .val (.int pos), .val (.int zz), .val (.int (Int32.ofNat nn)), .val (.int q3), .val (.int q10), .val (.ref b15), .val (.ref b356), .unset, .unset] [(.int (5 : Int32)), (.int (Int32.ofNat nn))])) t_ → Steps _ _ _ _ t_ := fun t_ k_ => s361 t_ (by
    refine st365.trans ?_
    show Steps _ _ _ (T365.setTop (mkF m 287 #[.val (.long xl), .second, .val (.long yl), .second, .val (.int mode), .val (.int pos), .val (.int zz), .val (.int (Int32.ofNat nn)), .val (.int q3), .val (.int q10), .val (.ref b15), sl11_353, .unset, .unset] [(.ref b356)])) _
    refine XS.astore X365.here hx rfl (dd hy at_287) rfl rfl (l' := #[.val (.long xl), .second, .val (.long yl), .second, .val (.int mode), .val (.int pos), .val (.int zz), .val (.int (Int32.ofNat nn)), .val (.int q3), .val (.int q10), .val (.ref b15), .val (.ref b356), .unset, .unset]) (os_rmLaw_287 hsl11_353) ?_
    refine XS.iload X365.here hx rfl (dd hy at_289) rfl ?_
    refine XS.iconst X365.here hx rfl (dd hy at_291) ?_
    exact k_)
  obtain ⟨q368, hq368⟩ : ∃ z : Int32, z = (if (Int32.ofNat nn) < (5 : Int32) then (0 : Int32) else (if (ds_353.getD 0 0) = (112 : Int32) then (if (ds_353.getD 1 0) = (97 : Int32) then (if (ds_353.getD 2 0) = (114 : Int32) then (if (ds_353.getD 3 0) = (116 : Int32) then (if (ds_353.getD 4 0) = (45 : Int32) then (1 : Int32) else (0 : Int32)) else (0 : Int32)) else (0 : Int32)) else (0 : Int32)) else (0 : Int32))) := ⟨_, rfl⟩
  obtain ⟨T369, X369, e369, s369⟩ := seg X365 (fun T' => T'.heap = h365 ∧ ∀ t_, Steps p.tables e below (T'.setTop (mkF m 345 #[.val (.long xl), .second, .val (.long yl), .second, .val (.int mode), .val (.int pos), .val (.int zz), .val (.int (Int32.ofNat nn)), .val (.int q3), .val (.int q10), .val (.ref b15), .val (.ref b356), .unset, .unset] [(.int q368)])) t_ → Steps p.tables e below (s₁.setTop (entryFrame m #[(.long xl), (.long yl), (.int mode), (.int pos), (.int zz)] maxLocals)) t_) (by
    by_cases h370 : (Int32.ofNat nn) < (5 : Int32)
    · have s371 : ∀ t_, Steps p.tables e below (T365.setTop (mkF m 345 #[.val (.long xl), .second, .val (.long yl), .second, .val (.int mode), .val (.int pos), .val (.int zz), .val (.int (Int32.ofNat nn)), .val (.int q3), .val (.int q10), .val (.ref b15), .val (.ref b356), .unset, .unset] [(.int (0 : Int32))])) t_ → Steps _ _ _ _ t_ := fun t_ k_ => s367 t_ (by
        refine XS.icmpYes X365.here hx rfl (pc0 := 292) (pc' := 344) rfl (dd hy at_292) rfl (tlt h370).1 (by decide) (by decide) ?_
        show Steps _ _ _ (T365.setTop (mkF m 344 #[.val (.long xl), .second, .val (.long yl), .second, .val (.int mode), .val (.int pos), .val (.int zz), .val (.int (Int32.ofNat nn)), .val (.int q3), .val (.int q10), .val (.ref b15), .val (.ref b356), .unset, .unset] [])) _
        refine XS.iconst X365.here hx rfl (dd hy at_344) ?_
        exact k_)
      exact ⟨T365, X365, e365, fun t_ k_ => s371 t_ (castTop (by simp only [hq368, if_pos h370]) k_)⟩
    · have g372 : 5 ≤ nn := own_ge5 h370 hn8
      have gl372 := J353_0
      have f373 : Arv Z h365 b15 k15 .char (Int32.ofNat nn) (ds_353.map Value.int) v0_ := (f363.keep K365 (ninS (show @Ne Nat b15 b356 by omega) nin0))
      obtain ⟨cl374, Ar374, -, S374, M374, H374, -⟩ := id f373
      have hin374 : ¬ ((0 : Int32) < 0 ∨ cl374.slots.size ≤ ((0 : Int32)).toNatClampNeg) := inb_of S374 (own_in (i := 0) (Nat.lt_of_lt_of_le (by decide) g372) hn8)
      have hat374 : cl374.slots[((0 : Int32)).toNatClampNeg]? = some (.int (ds_353.getD 0 0)) := H374.at hin374 (own_getc ds_353 0 _ (by rw [gl372]; exact Nat.lt_of_lt_of_le (by decide) g372) (by rw [gl372]; exact hn8))
      have s375 : ∀ t_, Steps p.tables e below (T365.setTop (mkF m 301 #[.val (.long xl), .second, .val (.long yl), .second, .val (.int mode), .val (.int pos), .val (.int zz), .val (.int (Int32.ofNat nn)), .val (.int q3), .val (.int q10), .val (.ref b15), .val (.ref b356), .unset, .unset] [(.int (112 : Int32)), (.int (ds_353.getD 0 0))])) t_ → Steps _ _ _ _ t_ := fun t_ k_ => s367 t_ (by
        refine XS.icmpNo X365.here hx rfl (dd hy at_292) rfl (flt h370).1 ?_
        show Steps _ _ _ (T365.setTop (mkF m 295 #[.val (.long xl), .second, .val (.long yl), .second, .val (.int mode), .val (.int pos), .val (.int zz), .val (.int (Int32.ofNat nn)), .val (.int q3), .val (.int q10), .val (.ref b15), .val (.ref b356), .unset, .unset] [])) _
        refine XS.aload X365.here hx rfl (dd hy at_295) rfl rfl ?_
        refine XS.iconst X365.here hx rfl (dd hy at_297) ?_
        refine X365.caload hx (j := (0 : Int32)) (v := (.int (ds_353.getD 0 0))) (by rw [e365]; exact Ar374.1) (State.isArrayOf_alike hZ.alike Ar374.2.1) Ar374.2.2 hin374 hat374 (g := (mkF m 298 #[.val (.long xl), .second, .val (.long yl), .second, .val (.int mode), .val (.int pos), .val (.int zz), .val (.int (Int32.ofNat nn)), .val (.int q3), .val (.int q10), .val (.ref b15), .val (.ref b356), .unset, .unset] [(.int (0 : Int32)), (.ref b15)])) rfl rfl (dd hy at_298) _ ?_
        refine XS.bipush X365.here hx rfl (dd hy at_299) ?_
        exact k_)
      by_cases h376 : (ds_353.getD 0 0) = (112 : Int32)
      · have g377 : 5 ≤ nn := own_ge5 h370 hn8
        have gl377 := J353_0
        obtain ⟨cl378, Ar378, -, S378, M378, H378, -⟩ := id f373
        have hin378 : ¬ ((1 : Int32) < 0 ∨ cl378.slots.size ≤ ((1 : Int32)).toNatClampNeg) := inb_of S378 (own_in (i := 1) (Nat.lt_of_lt_of_le (by decide) g377) hn8)
        have hat378 : cl378.slots[((1 : Int32)).toNatClampNeg]? = some (.int (ds_353.getD 1 0)) := H378.at hin378 (own_getc ds_353 1 _ (by rw [gl377]; exact Nat.lt_of_lt_of_le (by decide) g377) (by rw [gl377]; exact hn8))
        have s379 : ∀ t_, Steps p.tables e below (T365.setTop (mkF m 310 #[.val (.long xl), .second, .val (.long yl), .second, .val (.int mode), .val (.int pos), .val (.int zz), .val (.int (Int32.ofNat nn)), .val (.int q3), .val (.int q10), .val (.ref b15), .val (.ref b356), .unset, .unset] [(.int (97 : Int32)), (.int (ds_353.getD 1 0))])) t_ → Steps _ _ _ _ t_ := fun t_ k_ => s375 t_ (by
          refine XS.icmpNo X365.here hx rfl (dd hy at_301) rfl (teq h376).2 ?_
          show Steps _ _ _ (T365.setTop (mkF m 304 #[.val (.long xl), .second, .val (.long yl), .second, .val (.int mode), .val (.int pos), .val (.int zz), .val (.int (Int32.ofNat nn)), .val (.int q3), .val (.int q10), .val (.ref b15), .val (.ref b356), .unset, .unset] [])) _
          refine XS.aload X365.here hx rfl (dd hy at_304) rfl rfl ?_
          refine XS.iconst X365.here hx rfl (dd hy at_306) ?_
          refine X365.caload hx (j := (1 : Int32)) (v := (.int (ds_353.getD 1 0))) (by rw [e365]; exact Ar378.1) (State.isArrayOf_alike hZ.alike Ar378.2.1) Ar378.2.2 hin378 hat378 (g := (mkF m 307 #[.val (.long xl), .second, .val (.long yl), .second, .val (.int mode), .val (.int pos), .val (.int zz), .val (.int (Int32.ofNat nn)), .val (.int q3), .val (.int q10), .val (.ref b15), .val (.ref b356), .unset, .unset] [(.int (1 : Int32)), (.ref b15)])) rfl rfl (dd hy at_307) _ ?_
          refine XS.bipush X365.here hx rfl (dd hy at_308) ?_
          exact k_)
        by_cases h380 : (ds_353.getD 1 0) = (97 : Int32)
        · have g381 : 5 ≤ nn := own_ge5 h370 hn8
          have gl381 := J353_0
          obtain ⟨cl382, Ar382, -, S382, M382, H382, -⟩ := id f373
          have hin382 : ¬ ((2 : Int32) < 0 ∨ cl382.slots.size ≤ ((2 : Int32)).toNatClampNeg) := inb_of S382 (own_in (i := 2) (Nat.lt_of_lt_of_le (by decide) g381) hn8)
          have hat382 : cl382.slots[((2 : Int32)).toNatClampNeg]? = some (.int (ds_353.getD 2 0)) := H382.at hin382 (own_getc ds_353 2 _ (by rw [gl381]; exact Nat.lt_of_lt_of_le (by decide) g381) (by rw [gl381]; exact hn8))
          have s383 : ∀ t_, Steps p.tables e below (T365.setTop (mkF m 319 #[.val (.long xl), .second, .val (.long yl), .second, .val (.int mode), .val (.int pos), .val (.int zz), .val (.int (Int32.ofNat nn)), .val (.int q3), .val (.int q10), .val (.ref b15), .val (.ref b356), .unset, .unset] [(.int (114 : Int32)), (.int (ds_353.getD 2 0))])) t_ → Steps _ _ _ _ t_ := fun t_ k_ => s379 t_ (by
            refine XS.icmpNo X365.here hx rfl (dd hy at_310) rfl (teq h380).2 ?_
            show Steps _ _ _ (T365.setTop (mkF m 313 #[.val (.long xl), .second, .val (.long yl), .second, .val (.int mode), .val (.int pos), .val (.int zz), .val (.int (Int32.ofNat nn)), .val (.int q3), .val (.int q10), .val (.ref b15), .val (.ref b356), .unset, .unset] [])) _
            refine XS.aload X365.here hx rfl (dd hy at_313) rfl rfl ?_
            refine XS.iconst X365.here hx rfl (dd hy at_315) ?_
            refine X365.caload hx (j := (2 : Int32)) (v := (.int (ds_353.getD 2 0))) (by rw [e365]; exact Ar382.1) (State.isArrayOf_alike hZ.alike Ar382.2.1) Ar382.2.2 hin382 hat382 (g := (mkF m 316 #[.val (.long xl), .second, .val (.long yl), .second, .val (.int mode), .val (.int pos), .val (.int zz), .val (.int (Int32.ofNat nn)), .val (.int q3), .val (.int q10), .val (.ref b15), .val (.ref b356), .unset, .unset] [(.int (2 : Int32)), (.ref b15)])) rfl rfl (dd hy at_316) _ ?_
            refine XS.bipush X365.here hx rfl (dd hy at_317) ?_
            exact k_)
          by_cases h384 : (ds_353.getD 2 0) = (114 : Int32)
          · have g385 : 5 ≤ nn := own_ge5 h370 hn8
            have gl385 := J353_0
            obtain ⟨cl386, Ar386, -, S386, M386, H386, -⟩ := id f373
            have hin386 : ¬ ((3 : Int32) < 0 ∨ cl386.slots.size ≤ ((3 : Int32)).toNatClampNeg) := inb_of S386 (own_in (i := 3) (Nat.lt_of_lt_of_le (by decide) g385) hn8)
            have hat386 : cl386.slots[((3 : Int32)).toNatClampNeg]? = some (.int (ds_353.getD 3 0)) := H386.at hin386 (own_getc ds_353 3 _ (by rw [gl385]; exact Nat.lt_of_lt_of_le (by decide) g385) (by rw [gl385]; exact hn8))
            have s387 : ∀ t_, Steps p.tables e below (T365.setTop (mkF m 328 #[.val (.long xl), .second, .val (.long yl), .second, .val (.int mode), .val (.int pos), .val (.int zz), .val (.int (Int32.ofNat nn)), .val (.int q3), .val (.int q10), .val (.ref b15), .val (.ref b356), .unset, .unset] [(.int (116 : Int32)), (.int (ds_353.getD 3 0))])) t_ → Steps _ _ _ _ t_ := fun t_ k_ => s383 t_ (by
              refine XS.icmpNo X365.here hx rfl (dd hy at_319) rfl (teq h384).2 ?_
              show Steps _ _ _ (T365.setTop (mkF m 322 #[.val (.long xl), .second, .val (.long yl), .second, .val (.int mode), .val (.int pos), .val (.int zz), .val (.int (Int32.ofNat nn)), .val (.int q3), .val (.int q10), .val (.ref b15), .val (.ref b356), .unset, .unset] [])) _
              refine XS.aload X365.here hx rfl (dd hy at_322) rfl rfl ?_
              refine XS.iconst X365.here hx rfl (dd hy at_324) ?_
              refine X365.caload hx (j := (3 : Int32)) (v := (.int (ds_353.getD 3 0))) (by rw [e365]; exact Ar386.1) (State.isArrayOf_alike hZ.alike Ar386.2.1) Ar386.2.2 hin386 hat386 (g := (mkF m 325 #[.val (.long xl), .second, .val (.long yl), .second, .val (.int mode), .val (.int pos), .val (.int zz), .val (.int (Int32.ofNat nn)), .val (.int q3), .val (.int q10), .val (.ref b15), .val (.ref b356), .unset, .unset] [(.int (3 : Int32)), (.ref b15)])) rfl rfl (dd hy at_325) _ ?_
              refine XS.bipush X365.here hx rfl (dd hy at_326) ?_
              exact k_)
            by_cases h388 : (ds_353.getD 3 0) = (116 : Int32)
            · have g389 : 5 ≤ nn := own_ge5 h370 hn8
              have gl389 := J353_0
              obtain ⟨cl390, Ar390, -, S390, M390, H390, -⟩ := id f373
              have hin390 : ¬ ((4 : Int32) < 0 ∨ cl390.slots.size ≤ ((4 : Int32)).toNatClampNeg) := inb_of S390 (own_in (i := 4) (Nat.lt_of_lt_of_le (by decide) g389) hn8)
              have hat390 : cl390.slots[((4 : Int32)).toNatClampNeg]? = some (.int (ds_353.getD 4 0)) := H390.at hin390 (own_getc ds_353 4 _ (by rw [gl389]; exact Nat.lt_of_lt_of_le (by decide) g389) (by rw [gl389]; exact hn8))
              have s391 : ∀ t_, Steps p.tables e below (T365.setTop (mkF m 337 #[.val (.long xl), .second, .val (.long yl), .second, .val (.int mode), .val (.int pos), .val (.int zz), .val (.int (Int32.ofNat nn)), .val (.int q3), .val (.int q10), .val (.ref b15), .val (.ref b356), .unset, .unset] [(.int (45 : Int32)), (.int (ds_353.getD 4 0))])) t_ → Steps _ _ _ _ t_ := fun t_ k_ => s387 t_ (by
                refine XS.icmpNo X365.here hx rfl (dd hy at_328) rfl (teq h388).2 ?_
                show Steps _ _ _ (T365.setTop (mkF m 331 #[.val (.long xl), .second, .val (.long yl), .second, .val (.int mode), .val (.int pos), .val (.int zz), .val (.int (Int32.ofNat nn)), .val (.int q3), .val (.int q10), .val (.ref b15), .val (.ref b356), .unset, .unset] [])) _
                refine XS.aload X365.here hx rfl (dd hy at_331) rfl rfl ?_
                refine XS.iconst X365.here hx rfl (dd hy at_333) ?_
                refine X365.caload hx (j := (4 : Int32)) (v := (.int (ds_353.getD 4 0))) (by rw [e365]; exact Ar390.1) (State.isArrayOf_alike hZ.alike Ar390.2.1) Ar390.2.2 hin390 hat390 (g := (mkF m 334 #[.val (.long xl), .second, .val (.long yl), .second, .val (.int mode), .val (.int pos), .val (.int zz), .val (.int (Int32.ofNat nn)), .val (.int q3), .val (.int q10), .val (.ref b15), .val (.ref b356), .unset, .unset] [(.int (4 : Int32)), (.ref b15)])) rfl rfl (dd hy at_334) _ ?_
                refine XS.bipush X365.here hx rfl (dd hy at_335) ?_
                exact k_)
              by_cases h392 : (ds_353.getD 4 0) = (45 : Int32)
              · have s393 : ∀ t_, Steps p.tables e below (T365.setTop (mkF m 345 #[.val (.long xl), .second, .val (.long yl), .second, .val (.int mode), .val (.int pos), .val (.int zz), .val (.int (Int32.ofNat nn)), .val (.int q3), .val (.int q10), .val (.ref b15), .val (.ref b356), .unset, .unset] [(.int (1 : Int32))])) t_ → Steps _ _ _ _ t_ := fun t_ k_ => s391 t_ (by
                  refine XS.icmpNo X365.here hx rfl (dd hy at_337) rfl (teq h392).2 ?_
                  show Steps _ _ _ (T365.setTop (mkF m 340 #[.val (.long xl), .second, .val (.long yl), .second, .val (.int mode), .val (.int pos), .val (.int zz), .val (.int (Int32.ofNat nn)), .val (.int q3), .val (.int q10), .val (.ref b15), .val (.ref b356), .unset, .unset] [])) _
                  refine XS.iconst X365.here hx rfl (dd hy at_340) ?_
                  refine XS.goto X365.here hx rfl (pc0 := 341) (pc' := 345) rfl (dd hy at_341) (by decide) (by decide) ?_
                  exact k_)
                exact ⟨T365, X365, e365, fun t_ k_ => s393 t_ (castTop (by simp only [hq368, if_neg h370, if_pos h376, if_pos h380, if_pos h384, if_pos h388, if_pos h392]) k_)⟩
              · have s394 : ∀ t_, Steps p.tables e below (T365.setTop (mkF m 345 #[.val (.long xl), .second, .val (.long yl), .second, .val (.int mode), .val (.int pos), .val (.int zz), .val (.int (Int32.ofNat nn)), .val (.int q3), .val (.int q10), .val (.ref b15), .val (.ref b356), .unset, .unset] [(.int (0 : Int32))])) t_ → Steps _ _ _ _ t_ := fun t_ k_ => s391 t_ (by
                  refine XS.icmpYes X365.here hx rfl (pc0 := 337) (pc' := 344) rfl (dd hy at_337) rfl (feq h392).2 (by decide) (by decide) ?_
                  show Steps _ _ _ (T365.setTop (mkF m 344 #[.val (.long xl), .second, .val (.long yl), .second, .val (.int mode), .val (.int pos), .val (.int zz), .val (.int (Int32.ofNat nn)), .val (.int q3), .val (.int q10), .val (.ref b15), .val (.ref b356), .unset, .unset] [])) _
                  refine XS.iconst X365.here hx rfl (dd hy at_344) ?_
                  exact k_)
                exact ⟨T365, X365, e365, fun t_ k_ => s394 t_ (castTop (by simp only [hq368, if_neg h370, if_pos h376, if_pos h380, if_pos h384, if_pos h388, if_neg h392]) k_)⟩
            · have s395 : ∀ t_, Steps p.tables e below (T365.setTop (mkF m 345 #[.val (.long xl), .second, .val (.long yl), .second, .val (.int mode), .val (.int pos), .val (.int zz), .val (.int (Int32.ofNat nn)), .val (.int q3), .val (.int q10), .val (.ref b15), .val (.ref b356), .unset, .unset] [(.int (0 : Int32))])) t_ → Steps _ _ _ _ t_ := fun t_ k_ => s387 t_ (by
                refine XS.icmpYes X365.here hx rfl (pc0 := 328) (pc' := 344) rfl (dd hy at_328) rfl (feq h388).2 (by decide) (by decide) ?_
                show Steps _ _ _ (T365.setTop (mkF m 344 #[.val (.long xl), .second, .val (.long yl), .second, .val (.int mode), .val (.int pos), .val (.int zz), .val (.int (Int32.ofNat nn)), .val (.int q3), .val (.int q10), .val (.ref b15), .val (.ref b356), .unset, .unset] [])) _
                refine XS.iconst X365.here hx rfl (dd hy at_344) ?_
                exact k_)
              exact ⟨T365, X365, e365, fun t_ k_ => s395 t_ (castTop (by simp only [hq368, if_neg h370, if_pos h376, if_pos h380, if_pos h384, if_neg h388]) k_)⟩
          · have s396 : ∀ t_, Steps p.tables e below (T365.setTop (mkF m 345 #[.val (.long xl), .second, .val (.long yl), .second, .val (.int mode), .val (.int pos), .val (.int zz), .val (.int (Int32.ofNat nn)), .val (.int q3), .val (.int q10), .val (.ref b15), .val (.ref b356), .unset, .unset] [(.int (0 : Int32))])) t_ → Steps _ _ _ _ t_ := fun t_ k_ => s383 t_ (by
              refine XS.icmpYes X365.here hx rfl (pc0 := 319) (pc' := 344) rfl (dd hy at_319) rfl (feq h384).2 (by decide) (by decide) ?_
              show Steps _ _ _ (T365.setTop (mkF m 344 #[.val (.long xl), .second, .val (.long yl), .second, .val (.int mode), .val (.int pos), .val (.int zz), .val (.int (Int32.ofNat nn)), .val (.int q3), .val (.int q10), .val (.ref b15), .val (.ref b356), .unset, .unset] [])) _
              refine XS.iconst X365.here hx rfl (dd hy at_344) ?_
              exact k_)
            exact ⟨T365, X365, e365, fun t_ k_ => s396 t_ (castTop (by simp only [hq368, if_neg h370, if_pos h376, if_pos h380, if_neg h384]) k_)⟩
        · have s397 : ∀ t_, Steps p.tables e below (T365.setTop (mkF m 345 #[.val (.long xl), .second, .val (.long yl), .second, .val (.int mode), .val (.int pos), .val (.int zz), .val (.int (Int32.ofNat nn)), .val (.int q3), .val (.int q10), .val (.ref b15), .val (.ref b356), .unset, .unset] [(.int (0 : Int32))])) t_ → Steps _ _ _ _ t_ := fun t_ k_ => s379 t_ (by
            refine XS.icmpYes X365.here hx rfl (pc0 := 310) (pc' := 344) rfl (dd hy at_310) rfl (feq h380).2 (by decide) (by decide) ?_
            show Steps _ _ _ (T365.setTop (mkF m 344 #[.val (.long xl), .second, .val (.long yl), .second, .val (.int mode), .val (.int pos), .val (.int zz), .val (.int (Int32.ofNat nn)), .val (.int q3), .val (.int q10), .val (.ref b15), .val (.ref b356), .unset, .unset] [])) _
            refine XS.iconst X365.here hx rfl (dd hy at_344) ?_
            exact k_)
          exact ⟨T365, X365, e365, fun t_ k_ => s397 t_ (castTop (by simp only [hq368, if_neg h370, if_pos h376, if_neg h380]) k_)⟩
      · have s398 : ∀ t_, Steps p.tables e below (T365.setTop (mkF m 345 #[.val (.long xl), .second, .val (.long yl), .second, .val (.int mode), .val (.int pos), .val (.int zz), .val (.int (Int32.ofNat nn)), .val (.int q3), .val (.int q10), .val (.ref b15), .val (.ref b356), .unset, .unset] [(.int (0 : Int32))])) t_ → Steps _ _ _ _ t_ := fun t_ k_ => s375 t_ (by
          refine XS.icmpYes X365.here hx rfl (pc0 := 301) (pc' := 344) rfl (dd hy at_301) rfl (feq h376).2 (by decide) (by decide) ?_
          show Steps _ _ _ (T365.setTop (mkF m 344 #[.val (.long xl), .second, .val (.long yl), .second, .val (.int mode), .val (.int pos), .val (.int zz), .val (.int (Int32.ofNat nn)), .val (.int q3), .val (.int q10), .val (.ref b15), .val (.ref b356), .unset, .unset] [])) _
          refine XS.iconst X365.here hx rfl (dd hy at_344) ?_
          exact k_)
        exact ⟨T365, X365, e365, fun t_ k_ => s398 t_ (castTop (by simp only [hq368, if_neg h370, if_neg h376]) k_)⟩)
  have s399 : ∀ t_, Steps p.tables e below (T369.setTop (mkF m 350 #[.val (.long xl), .second, .val (.long yl), .second, .val (.int mode), .val (.int pos), .val (.int zz), .val (.int (Int32.ofNat nn)), .val (.int q3), .val (.int q10), .val (.ref b15), .val (.ref b356), .val (.int q368), .unset] [(.int (5 : Int32)), (.int (Int32.ofNat nn))])) t_ → Steps _ _ _ _ t_ := fun t_ k_ => s369 t_ (by
    refine XS.istore X369.here hx rfl (dd hy at_345) rfl (l' := #[.val (.long xl), .second, .val (.long yl), .second, .val (.int mode), .val (.int pos), .val (.int zz), .val (.int (Int32.ofNat nn)), .val (.int q3), .val (.int q10), .val (.ref b15), .val (.ref b356), .val (.int q368), .unset]) rfl ?_
    refine XS.iload X369.here hx rfl (dd hy at_347) rfl ?_
    refine XS.iconst X369.here hx rfl (dd hy at_349) ?_
    show Steps _ _ _ (T369.setTop (mkF m 350 #[.val (.long xl), .second, .val (.long yl), .second, .val (.int mode), .val (.int pos), .val (.int zz), .val (.int (Int32.ofNat nn)), .val (.int q3), .val (.int q10), .val (.ref b15), .val (.ref b356), .val (.int q368), .unset] [(.int (5 : Int32)), (.int (Int32.ofNat nn))])) _
    exact k_)
  obtain ⟨q400, hq400⟩ : ∃ z : Int32, z = (if (Int32.ofNat nn) < (5 : Int32) then (0 : Int32) else (if (ds_353.getD (nn - 5) 0) = (46 : Int32) then (if (ds_353.getD (nn - 4) 0) = (106 : Int32) then (if (ds_353.getD (nn - 3) 0) = (115 : Int32) then (if (ds_353.getD (nn - 2) 0) = (111 : Int32) then (if (ds_353.getD (nn - 1) 0) = (110 : Int32) then (1 : Int32) else (0 : Int32)) else (0 : Int32)) else (0 : Int32)) else (0 : Int32)) else (0 : Int32))) := ⟨_, rfl⟩
  obtain ⟨T401, X401, e401, s401⟩ := seg X369 (fun T' => T'.heap = h365 ∧ ∀ t_, Steps p.tables e below (T'.setTop (mkF m 418 #[.val (.long xl), .second, .val (.long yl), .second, .val (.int mode), .val (.int pos), .val (.int zz), .val (.int (Int32.ofNat nn)), .val (.int q3), .val (.int q10), .val (.ref b15), .val (.ref b356), .val (.int q368), .unset] [(.int q400)])) t_ → Steps p.tables e below (s₁.setTop (entryFrame m #[(.long xl), (.long yl), (.int mode), (.int pos), (.int zz)] maxLocals)) t_) (by
    by_cases h402 : (Int32.ofNat nn) < (5 : Int32)
    · have s403 : ∀ t_, Steps p.tables e below (T369.setTop (mkF m 418 #[.val (.long xl), .second, .val (.long yl), .second, .val (.int mode), .val (.int pos), .val (.int zz), .val (.int (Int32.ofNat nn)), .val (.int q3), .val (.int q10), .val (.ref b15), .val (.ref b356), .val (.int q368), .unset] [(.int (0 : Int32))])) t_ → Steps _ _ _ _ t_ := fun t_ k_ => s399 t_ (by
        refine XS.icmpYes X369.here hx rfl (pc0 := 350) (pc' := 417) rfl (dd hy at_350) rfl (tlt h402).1 (by decide) (by decide) ?_
        show Steps _ _ _ (T369.setTop (mkF m 417 #[.val (.long xl), .second, .val (.long yl), .second, .val (.int mode), .val (.int pos), .val (.int zz), .val (.int (Int32.ofNat nn)), .val (.int q3), .val (.int q10), .val (.ref b15), .val (.ref b356), .val (.int q368), .unset] [])) _
        refine XS.iconst X369.here hx rfl (dd hy at_417) ?_
        exact k_)
      exact ⟨T369, X369, e369, fun t_ k_ => s403 t_ (castTop (by simp only [hq400, if_pos h402]) k_)⟩
    · have g404 : 5 ≤ nn := own_ge5 h402 hn8
      have gl404 := J353_0
      have g405 : 5 ≤ nn := own_ge5 h402 hn8
      have gl405 := J353_0
      have f406 : Arv Z h365 b15 k15 .char (Int32.ofNat nn) (ds_353.map Value.int) v0_ := (f363.keep K365 (ninS (show @Ne Nat b15 b356 by omega) nin0))
      obtain ⟨cl407, Ar407, -, S407, M407, H407, -⟩ := id f406
      have hin407 : ¬ ((Int32.ofNat (nn - 5)) < 0 ∨ cl407.slots.size ≤ ((Int32.ofNat (nn - 5))).toNatClampNeg) := inb_of S407 (own_in (Nat.sub_lt (Nat.lt_of_lt_of_le (by decide) g405) (by decide)) hn8)
      have hat407 : cl407.slots[((Int32.ofNat (nn - 5))).toNatClampNeg]? = some (.int (ds_353.getD (nn - 5) 0)) := H407.at hin407 (own_getc ds_353 (nn - 5) _ (by rw [gl405]; exact Nat.sub_lt (Nat.lt_of_lt_of_le (by decide) g405) (by decide)) (by rw [gl405]; exact hn8))
      have s408 : ∀ t_, Steps p.tables e below (T369.setTop (mkF m 362 #[.val (.long xl), .second, .val (.long yl), .second, .val (.int mode), .val (.int pos), .val (.int zz), .val (.int (Int32.ofNat nn)), .val (.int q3), .val (.int q10), .val (.ref b15), .val (.ref b356), .val (.int q368), .unset] [(.int (46 : Int32)), (.int (ds_353.getD (nn - 5) 0))])) t_ → Steps _ _ _ _ t_ := fun t_ k_ => s399 t_ (by
        refine XS.icmpNo X369.here hx rfl (dd hy at_350) rfl (flt h402).1 ?_
        show Steps _ _ _ (T369.setTop (mkF m 353 #[.val (.long xl), .second, .val (.long yl), .second, .val (.int mode), .val (.int pos), .val (.int zz), .val (.int (Int32.ofNat nn)), .val (.int q3), .val (.int q10), .val (.ref b15), .val (.ref b356), .val (.int q368), .unset] [])) _
        refine XS.aload X369.here hx rfl (dd hy at_353) rfl rfl ?_
        refine XS.iload X369.here hx rfl (dd hy at_355) rfl ?_
        refine XS.iconst X369.here hx rfl (dd hy at_357) ?_
        refine XS.isub X369.here hx rfl (dd hy at_358) rfl ?_
        show Steps _ _ _ (T369.setTop (mkF m 359 #[.val (.long xl), .second, .val (.long yl), .second, .val (.int mode), .val (.int pos), .val (.int zz), .val (.int (Int32.ofNat nn)), .val (.int q3), .val (.int q10), .val (.ref b15), .val (.ref b356), .val (.int q368), .unset] [(.int ((Int32.ofNat nn) - (5 : Int32))), (.ref b15)])) _
        refine castTop (g' := (mkF m 359 #[.val (.long xl), .second, .val (.long yl), .second, .val (.int mode), .val (.int pos), .val (.int zz), .val (.int (Int32.ofNat nn)), .val (.int q3), .val (.int q10), .val (.ref b15), .val (.ref b356), .val (.int q368), .unset] [(.int (Int32.ofNat (nn - 5))), (.ref b15)])) (by rw [show (Int32.ofNat nn) - (5 : Int32) = Int32.ofNat (nn - 5) from own_subn (k := 5) (Nat.le_trans (by decide) g404)]) ?_
        show Steps _ _ _ (T369.setTop (mkF m 359 #[.val (.long xl), .second, .val (.long yl), .second, .val (.int mode), .val (.int pos), .val (.int zz), .val (.int (Int32.ofNat nn)), .val (.int q3), .val (.int q10), .val (.ref b15), .val (.ref b356), .val (.int q368), .unset] [(.int (Int32.ofNat (nn - 5))), (.ref b15)])) _
        refine X369.caload hx (j := (Int32.ofNat (nn - 5))) (v := (.int (ds_353.getD (nn - 5) 0))) (by rw [e369]; exact Ar407.1) (State.isArrayOf_alike hZ.alike Ar407.2.1) Ar407.2.2 hin407 hat407 (g := (mkF m 359 #[.val (.long xl), .second, .val (.long yl), .second, .val (.int mode), .val (.int pos), .val (.int zz), .val (.int (Int32.ofNat nn)), .val (.int q3), .val (.int q10), .val (.ref b15), .val (.ref b356), .val (.int q368), .unset] [(.int (Int32.ofNat (nn - 5))), (.ref b15)])) rfl rfl (dd hy at_359) _ ?_
        refine XS.bipush X369.here hx rfl (dd hy at_360) ?_
        exact k_)
      by_cases h409 : (ds_353.getD (nn - 5) 0) = (46 : Int32)
      · have g410 : 5 ≤ nn := own_ge5 h402 hn8
        have gl410 := J353_0
        have g411 : 5 ≤ nn := own_ge5 h402 hn8
        have gl411 := J353_0
        obtain ⟨cl412, Ar412, -, S412, M412, H412, -⟩ := id f406
        have hin412 : ¬ ((Int32.ofNat (nn - 4)) < 0 ∨ cl412.slots.size ≤ ((Int32.ofNat (nn - 4))).toNatClampNeg) := inb_of S412 (own_in (Nat.sub_lt (Nat.lt_of_lt_of_le (by decide) g411) (by decide)) hn8)
        have hat412 : cl412.slots[((Int32.ofNat (nn - 4))).toNatClampNeg]? = some (.int (ds_353.getD (nn - 4) 0)) := H412.at hin412 (own_getc ds_353 (nn - 4) _ (by rw [gl411]; exact Nat.sub_lt (Nat.lt_of_lt_of_le (by decide) g411) (by decide)) (by rw [gl411]; exact hn8))
        have s413 : ∀ t_, Steps p.tables e below (T369.setTop (mkF m 374 #[.val (.long xl), .second, .val (.long yl), .second, .val (.int mode), .val (.int pos), .val (.int zz), .val (.int (Int32.ofNat nn)), .val (.int q3), .val (.int q10), .val (.ref b15), .val (.ref b356), .val (.int q368), .unset] [(.int (106 : Int32)), (.int (ds_353.getD (nn - 4) 0))])) t_ → Steps _ _ _ _ t_ := fun t_ k_ => s408 t_ (by
          refine XS.icmpNo X369.here hx rfl (dd hy at_362) rfl (teq h409).2 ?_
          show Steps _ _ _ (T369.setTop (mkF m 365 #[.val (.long xl), .second, .val (.long yl), .second, .val (.int mode), .val (.int pos), .val (.int zz), .val (.int (Int32.ofNat nn)), .val (.int q3), .val (.int q10), .val (.ref b15), .val (.ref b356), .val (.int q368), .unset] [])) _
          refine XS.aload X369.here hx rfl (dd hy at_365) rfl rfl ?_
          refine XS.iload X369.here hx rfl (dd hy at_367) rfl ?_
          refine XS.iconst X369.here hx rfl (dd hy at_369) ?_
          refine XS.isub X369.here hx rfl (dd hy at_370) rfl ?_
          show Steps _ _ _ (T369.setTop (mkF m 371 #[.val (.long xl), .second, .val (.long yl), .second, .val (.int mode), .val (.int pos), .val (.int zz), .val (.int (Int32.ofNat nn)), .val (.int q3), .val (.int q10), .val (.ref b15), .val (.ref b356), .val (.int q368), .unset] [(.int ((Int32.ofNat nn) - (4 : Int32))), (.ref b15)])) _
          refine castTop (g' := (mkF m 371 #[.val (.long xl), .second, .val (.long yl), .second, .val (.int mode), .val (.int pos), .val (.int zz), .val (.int (Int32.ofNat nn)), .val (.int q3), .val (.int q10), .val (.ref b15), .val (.ref b356), .val (.int q368), .unset] [(.int (Int32.ofNat (nn - 4))), (.ref b15)])) (by rw [show (Int32.ofNat nn) - (4 : Int32) = Int32.ofNat (nn - 4) from own_subn (k := 4) (Nat.le_trans (by decide) g410)]) ?_
          show Steps _ _ _ (T369.setTop (mkF m 371 #[.val (.long xl), .second, .val (.long yl), .second, .val (.int mode), .val (.int pos), .val (.int zz), .val (.int (Int32.ofNat nn)), .val (.int q3), .val (.int q10), .val (.ref b15), .val (.ref b356), .val (.int q368), .unset] [(.int (Int32.ofNat (nn - 4))), (.ref b15)])) _
          refine X369.caload hx (j := (Int32.ofNat (nn - 4))) (v := (.int (ds_353.getD (nn - 4) 0))) (by rw [e369]; exact Ar412.1) (State.isArrayOf_alike hZ.alike Ar412.2.1) Ar412.2.2 hin412 hat412 (g := (mkF m 371 #[.val (.long xl), .second, .val (.long yl), .second, .val (.int mode), .val (.int pos), .val (.int zz), .val (.int (Int32.ofNat nn)), .val (.int q3), .val (.int q10), .val (.ref b15), .val (.ref b356), .val (.int q368), .unset] [(.int (Int32.ofNat (nn - 4))), (.ref b15)])) rfl rfl (dd hy at_371) _ ?_
          refine XS.bipush X369.here hx rfl (dd hy at_372) ?_
          exact k_)
        by_cases h414 : (ds_353.getD (nn - 4) 0) = (106 : Int32)
        · have g415 : 5 ≤ nn := own_ge5 h402 hn8
          have gl415 := J353_0
          have g416 : 5 ≤ nn := own_ge5 h402 hn8
          have gl416 := J353_0
          obtain ⟨cl417, Ar417, -, S417, M417, H417, -⟩ := id f406
          have hin417 : ¬ ((Int32.ofNat (nn - 3)) < 0 ∨ cl417.slots.size ≤ ((Int32.ofNat (nn - 3))).toNatClampNeg) := inb_of S417 (own_in (Nat.sub_lt (Nat.lt_of_lt_of_le (by decide) g416) (by decide)) hn8)
          have hat417 : cl417.slots[((Int32.ofNat (nn - 3))).toNatClampNeg]? = some (.int (ds_353.getD (nn - 3) 0)) := H417.at hin417 (own_getc ds_353 (nn - 3) _ (by rw [gl416]; exact Nat.sub_lt (Nat.lt_of_lt_of_le (by decide) g416) (by decide)) (by rw [gl416]; exact hn8))
          have s418 : ∀ t_, Steps p.tables e below (T369.setTop (mkF m 386 #[.val (.long xl), .second, .val (.long yl), .second, .val (.int mode), .val (.int pos), .val (.int zz), .val (.int (Int32.ofNat nn)), .val (.int q3), .val (.int q10), .val (.ref b15), .val (.ref b356), .val (.int q368), .unset] [(.int (115 : Int32)), (.int (ds_353.getD (nn - 3) 0))])) t_ → Steps _ _ _ _ t_ := fun t_ k_ => s413 t_ (by
            refine XS.icmpNo X369.here hx rfl (dd hy at_374) rfl (teq h414).2 ?_
            show Steps _ _ _ (T369.setTop (mkF m 377 #[.val (.long xl), .second, .val (.long yl), .second, .val (.int mode), .val (.int pos), .val (.int zz), .val (.int (Int32.ofNat nn)), .val (.int q3), .val (.int q10), .val (.ref b15), .val (.ref b356), .val (.int q368), .unset] [])) _
            refine XS.aload X369.here hx rfl (dd hy at_377) rfl rfl ?_
            refine XS.iload X369.here hx rfl (dd hy at_379) rfl ?_
            refine XS.iconst X369.here hx rfl (dd hy at_381) ?_
            refine XS.isub X369.here hx rfl (dd hy at_382) rfl ?_
            show Steps _ _ _ (T369.setTop (mkF m 383 #[.val (.long xl), .second, .val (.long yl), .second, .val (.int mode), .val (.int pos), .val (.int zz), .val (.int (Int32.ofNat nn)), .val (.int q3), .val (.int q10), .val (.ref b15), .val (.ref b356), .val (.int q368), .unset] [(.int ((Int32.ofNat nn) - (3 : Int32))), (.ref b15)])) _
            refine castTop (g' := (mkF m 383 #[.val (.long xl), .second, .val (.long yl), .second, .val (.int mode), .val (.int pos), .val (.int zz), .val (.int (Int32.ofNat nn)), .val (.int q3), .val (.int q10), .val (.ref b15), .val (.ref b356), .val (.int q368), .unset] [(.int (Int32.ofNat (nn - 3))), (.ref b15)])) (by rw [show (Int32.ofNat nn) - (3 : Int32) = Int32.ofNat (nn - 3) from own_subn (k := 3) (Nat.le_trans (by decide) g415)]) ?_
            show Steps _ _ _ (T369.setTop (mkF m 383 #[.val (.long xl), .second, .val (.long yl), .second, .val (.int mode), .val (.int pos), .val (.int zz), .val (.int (Int32.ofNat nn)), .val (.int q3), .val (.int q10), .val (.ref b15), .val (.ref b356), .val (.int q368), .unset] [(.int (Int32.ofNat (nn - 3))), (.ref b15)])) _
            refine X369.caload hx (j := (Int32.ofNat (nn - 3))) (v := (.int (ds_353.getD (nn - 3) 0))) (by rw [e369]; exact Ar417.1) (State.isArrayOf_alike hZ.alike Ar417.2.1) Ar417.2.2 hin417 hat417 (g := (mkF m 383 #[.val (.long xl), .second, .val (.long yl), .second, .val (.int mode), .val (.int pos), .val (.int zz), .val (.int (Int32.ofNat nn)), .val (.int q3), .val (.int q10), .val (.ref b15), .val (.ref b356), .val (.int q368), .unset] [(.int (Int32.ofNat (nn - 3))), (.ref b15)])) rfl rfl (dd hy at_383) _ ?_
            refine XS.bipush X369.here hx rfl (dd hy at_384) ?_
            exact k_)
          by_cases h419 : (ds_353.getD (nn - 3) 0) = (115 : Int32)
          · have g420 : 5 ≤ nn := own_ge5 h402 hn8
            have gl420 := J353_0
            have g421 : 5 ≤ nn := own_ge5 h402 hn8
            have gl421 := J353_0
            obtain ⟨cl422, Ar422, -, S422, M422, H422, -⟩ := id f406
            have hin422 : ¬ ((Int32.ofNat (nn - 2)) < 0 ∨ cl422.slots.size ≤ ((Int32.ofNat (nn - 2))).toNatClampNeg) := inb_of S422 (own_in (Nat.sub_lt (Nat.lt_of_lt_of_le (by decide) g421) (by decide)) hn8)
            have hat422 : cl422.slots[((Int32.ofNat (nn - 2))).toNatClampNeg]? = some (.int (ds_353.getD (nn - 2) 0)) := H422.at hin422 (own_getc ds_353 (nn - 2) _ (by rw [gl421]; exact Nat.sub_lt (Nat.lt_of_lt_of_le (by decide) g421) (by decide)) (by rw [gl421]; exact hn8))
            have s423 : ∀ t_, Steps p.tables e below (T369.setTop (mkF m 398 #[.val (.long xl), .second, .val (.long yl), .second, .val (.int mode), .val (.int pos), .val (.int zz), .val (.int (Int32.ofNat nn)), .val (.int q3), .val (.int q10), .val (.ref b15), .val (.ref b356), .val (.int q368), .unset] [(.int (111 : Int32)), (.int (ds_353.getD (nn - 2) 0))])) t_ → Steps _ _ _ _ t_ := fun t_ k_ => s418 t_ (by
              refine XS.icmpNo X369.here hx rfl (dd hy at_386) rfl (teq h419).2 ?_
              show Steps _ _ _ (T369.setTop (mkF m 389 #[.val (.long xl), .second, .val (.long yl), .second, .val (.int mode), .val (.int pos), .val (.int zz), .val (.int (Int32.ofNat nn)), .val (.int q3), .val (.int q10), .val (.ref b15), .val (.ref b356), .val (.int q368), .unset] [])) _
              refine XS.aload X369.here hx rfl (dd hy at_389) rfl rfl ?_
              refine XS.iload X369.here hx rfl (dd hy at_391) rfl ?_
              refine XS.iconst X369.here hx rfl (dd hy at_393) ?_
              refine XS.isub X369.here hx rfl (dd hy at_394) rfl ?_
              show Steps _ _ _ (T369.setTop (mkF m 395 #[.val (.long xl), .second, .val (.long yl), .second, .val (.int mode), .val (.int pos), .val (.int zz), .val (.int (Int32.ofNat nn)), .val (.int q3), .val (.int q10), .val (.ref b15), .val (.ref b356), .val (.int q368), .unset] [(.int ((Int32.ofNat nn) - (2 : Int32))), (.ref b15)])) _
              refine castTop (g' := (mkF m 395 #[.val (.long xl), .second, .val (.long yl), .second, .val (.int mode), .val (.int pos), .val (.int zz), .val (.int (Int32.ofNat nn)), .val (.int q3), .val (.int q10), .val (.ref b15), .val (.ref b356), .val (.int q368), .unset] [(.int (Int32.ofNat (nn - 2))), (.ref b15)])) (by rw [show (Int32.ofNat nn) - (2 : Int32) = Int32.ofNat (nn - 2) from own_subn (k := 2) (Nat.le_trans (by decide) g420)]) ?_
              show Steps _ _ _ (T369.setTop (mkF m 395 #[.val (.long xl), .second, .val (.long yl), .second, .val (.int mode), .val (.int pos), .val (.int zz), .val (.int (Int32.ofNat nn)), .val (.int q3), .val (.int q10), .val (.ref b15), .val (.ref b356), .val (.int q368), .unset] [(.int (Int32.ofNat (nn - 2))), (.ref b15)])) _
              refine X369.caload hx (j := (Int32.ofNat (nn - 2))) (v := (.int (ds_353.getD (nn - 2) 0))) (by rw [e369]; exact Ar422.1) (State.isArrayOf_alike hZ.alike Ar422.2.1) Ar422.2.2 hin422 hat422 (g := (mkF m 395 #[.val (.long xl), .second, .val (.long yl), .second, .val (.int mode), .val (.int pos), .val (.int zz), .val (.int (Int32.ofNat nn)), .val (.int q3), .val (.int q10), .val (.ref b15), .val (.ref b356), .val (.int q368), .unset] [(.int (Int32.ofNat (nn - 2))), (.ref b15)])) rfl rfl (dd hy at_395) _ ?_
              refine XS.bipush X369.here hx rfl (dd hy at_396) ?_
              exact k_)
            by_cases h424 : (ds_353.getD (nn - 2) 0) = (111 : Int32)
            · have g425 : 5 ≤ nn := own_ge5 h402 hn8
              have gl425 := J353_0
              have g426 : 5 ≤ nn := own_ge5 h402 hn8
              have gl426 := J353_0
              obtain ⟨cl427, Ar427, -, S427, M427, H427, -⟩ := id f406
              have hin427 : ¬ ((Int32.ofNat (nn - 1)) < 0 ∨ cl427.slots.size ≤ ((Int32.ofNat (nn - 1))).toNatClampNeg) := inb_of S427 (own_in (Nat.sub_lt (Nat.lt_of_lt_of_le (by decide) g426) (by decide)) hn8)
              have hat427 : cl427.slots[((Int32.ofNat (nn - 1))).toNatClampNeg]? = some (.int (ds_353.getD (nn - 1) 0)) := H427.at hin427 (own_getc ds_353 (nn - 1) _ (by rw [gl426]; exact Nat.sub_lt (Nat.lt_of_lt_of_le (by decide) g426) (by decide)) (by rw [gl426]; exact hn8))
              have s428 : ∀ t_, Steps p.tables e below (T369.setTop (mkF m 410 #[.val (.long xl), .second, .val (.long yl), .second, .val (.int mode), .val (.int pos), .val (.int zz), .val (.int (Int32.ofNat nn)), .val (.int q3), .val (.int q10), .val (.ref b15), .val (.ref b356), .val (.int q368), .unset] [(.int (110 : Int32)), (.int (ds_353.getD (nn - 1) 0))])) t_ → Steps _ _ _ _ t_ := fun t_ k_ => s423 t_ (by
                refine XS.icmpNo X369.here hx rfl (dd hy at_398) rfl (teq h424).2 ?_
                show Steps _ _ _ (T369.setTop (mkF m 401 #[.val (.long xl), .second, .val (.long yl), .second, .val (.int mode), .val (.int pos), .val (.int zz), .val (.int (Int32.ofNat nn)), .val (.int q3), .val (.int q10), .val (.ref b15), .val (.ref b356), .val (.int q368), .unset] [])) _
                refine XS.aload X369.here hx rfl (dd hy at_401) rfl rfl ?_
                refine XS.iload X369.here hx rfl (dd hy at_403) rfl ?_
                refine XS.iconst X369.here hx rfl (dd hy at_405) ?_
                refine XS.isub X369.here hx rfl (dd hy at_406) rfl ?_
                show Steps _ _ _ (T369.setTop (mkF m 407 #[.val (.long xl), .second, .val (.long yl), .second, .val (.int mode), .val (.int pos), .val (.int zz), .val (.int (Int32.ofNat nn)), .val (.int q3), .val (.int q10), .val (.ref b15), .val (.ref b356), .val (.int q368), .unset] [(.int ((Int32.ofNat nn) - (1 : Int32))), (.ref b15)])) _
                refine castTop (g' := (mkF m 407 #[.val (.long xl), .second, .val (.long yl), .second, .val (.int mode), .val (.int pos), .val (.int zz), .val (.int (Int32.ofNat nn)), .val (.int q3), .val (.int q10), .val (.ref b15), .val (.ref b356), .val (.int q368), .unset] [(.int (Int32.ofNat (nn - 1))), (.ref b15)])) (by rw [show (Int32.ofNat nn) - (1 : Int32) = Int32.ofNat (nn - 1) from own_subn (k := 1) (Nat.le_trans (by decide) g425)]) ?_
                show Steps _ _ _ (T369.setTop (mkF m 407 #[.val (.long xl), .second, .val (.long yl), .second, .val (.int mode), .val (.int pos), .val (.int zz), .val (.int (Int32.ofNat nn)), .val (.int q3), .val (.int q10), .val (.ref b15), .val (.ref b356), .val (.int q368), .unset] [(.int (Int32.ofNat (nn - 1))), (.ref b15)])) _
                refine X369.caload hx (j := (Int32.ofNat (nn - 1))) (v := (.int (ds_353.getD (nn - 1) 0))) (by rw [e369]; exact Ar427.1) (State.isArrayOf_alike hZ.alike Ar427.2.1) Ar427.2.2 hin427 hat427 (g := (mkF m 407 #[.val (.long xl), .second, .val (.long yl), .second, .val (.int mode), .val (.int pos), .val (.int zz), .val (.int (Int32.ofNat nn)), .val (.int q3), .val (.int q10), .val (.ref b15), .val (.ref b356), .val (.int q368), .unset] [(.int (Int32.ofNat (nn - 1))), (.ref b15)])) rfl rfl (dd hy at_407) _ ?_
                refine XS.bipush X369.here hx rfl (dd hy at_408) ?_
                exact k_)
              by_cases h429 : (ds_353.getD (nn - 1) 0) = (110 : Int32)
              · have s430 : ∀ t_, Steps p.tables e below (T369.setTop (mkF m 418 #[.val (.long xl), .second, .val (.long yl), .second, .val (.int mode), .val (.int pos), .val (.int zz), .val (.int (Int32.ofNat nn)), .val (.int q3), .val (.int q10), .val (.ref b15), .val (.ref b356), .val (.int q368), .unset] [(.int (1 : Int32))])) t_ → Steps _ _ _ _ t_ := fun t_ k_ => s428 t_ (by
                  refine XS.icmpNo X369.here hx rfl (dd hy at_410) rfl (teq h429).2 ?_
                  show Steps _ _ _ (T369.setTop (mkF m 413 #[.val (.long xl), .second, .val (.long yl), .second, .val (.int mode), .val (.int pos), .val (.int zz), .val (.int (Int32.ofNat nn)), .val (.int q3), .val (.int q10), .val (.ref b15), .val (.ref b356), .val (.int q368), .unset] [])) _
                  refine XS.iconst X369.here hx rfl (dd hy at_413) ?_
                  refine XS.goto X369.here hx rfl (pc0 := 414) (pc' := 418) rfl (dd hy at_414) (by decide) (by decide) ?_
                  exact k_)
                exact ⟨T369, X369, e369, fun t_ k_ => s430 t_ (castTop (by simp only [hq400, if_neg h402, if_pos h409, if_pos h414, if_pos h419, if_pos h424, if_pos h429]) k_)⟩
              · have s431 : ∀ t_, Steps p.tables e below (T369.setTop (mkF m 418 #[.val (.long xl), .second, .val (.long yl), .second, .val (.int mode), .val (.int pos), .val (.int zz), .val (.int (Int32.ofNat nn)), .val (.int q3), .val (.int q10), .val (.ref b15), .val (.ref b356), .val (.int q368), .unset] [(.int (0 : Int32))])) t_ → Steps _ _ _ _ t_ := fun t_ k_ => s428 t_ (by
                  refine XS.icmpYes X369.here hx rfl (pc0 := 410) (pc' := 417) rfl (dd hy at_410) rfl (feq h429).2 (by decide) (by decide) ?_
                  show Steps _ _ _ (T369.setTop (mkF m 417 #[.val (.long xl), .second, .val (.long yl), .second, .val (.int mode), .val (.int pos), .val (.int zz), .val (.int (Int32.ofNat nn)), .val (.int q3), .val (.int q10), .val (.ref b15), .val (.ref b356), .val (.int q368), .unset] [])) _
                  refine XS.iconst X369.here hx rfl (dd hy at_417) ?_
                  exact k_)
                exact ⟨T369, X369, e369, fun t_ k_ => s431 t_ (castTop (by simp only [hq400, if_neg h402, if_pos h409, if_pos h414, if_pos h419, if_pos h424, if_neg h429]) k_)⟩
            · have s432 : ∀ t_, Steps p.tables e below (T369.setTop (mkF m 418 #[.val (.long xl), .second, .val (.long yl), .second, .val (.int mode), .val (.int pos), .val (.int zz), .val (.int (Int32.ofNat nn)), .val (.int q3), .val (.int q10), .val (.ref b15), .val (.ref b356), .val (.int q368), .unset] [(.int (0 : Int32))])) t_ → Steps _ _ _ _ t_ := fun t_ k_ => s423 t_ (by
                refine XS.icmpYes X369.here hx rfl (pc0 := 398) (pc' := 417) rfl (dd hy at_398) rfl (feq h424).2 (by decide) (by decide) ?_
                show Steps _ _ _ (T369.setTop (mkF m 417 #[.val (.long xl), .second, .val (.long yl), .second, .val (.int mode), .val (.int pos), .val (.int zz), .val (.int (Int32.ofNat nn)), .val (.int q3), .val (.int q10), .val (.ref b15), .val (.ref b356), .val (.int q368), .unset] [])) _
                refine XS.iconst X369.here hx rfl (dd hy at_417) ?_
                exact k_)
              exact ⟨T369, X369, e369, fun t_ k_ => s432 t_ (castTop (by simp only [hq400, if_neg h402, if_pos h409, if_pos h414, if_pos h419, if_neg h424]) k_)⟩
          · have s433 : ∀ t_, Steps p.tables e below (T369.setTop (mkF m 418 #[.val (.long xl), .second, .val (.long yl), .second, .val (.int mode), .val (.int pos), .val (.int zz), .val (.int (Int32.ofNat nn)), .val (.int q3), .val (.int q10), .val (.ref b15), .val (.ref b356), .val (.int q368), .unset] [(.int (0 : Int32))])) t_ → Steps _ _ _ _ t_ := fun t_ k_ => s418 t_ (by
              refine XS.icmpYes X369.here hx rfl (pc0 := 386) (pc' := 417) rfl (dd hy at_386) rfl (feq h419).2 (by decide) (by decide) ?_
              show Steps _ _ _ (T369.setTop (mkF m 417 #[.val (.long xl), .second, .val (.long yl), .second, .val (.int mode), .val (.int pos), .val (.int zz), .val (.int (Int32.ofNat nn)), .val (.int q3), .val (.int q10), .val (.ref b15), .val (.ref b356), .val (.int q368), .unset] [])) _
              refine XS.iconst X369.here hx rfl (dd hy at_417) ?_
              exact k_)
            exact ⟨T369, X369, e369, fun t_ k_ => s433 t_ (castTop (by simp only [hq400, if_neg h402, if_pos h409, if_pos h414, if_neg h419]) k_)⟩
        · have s434 : ∀ t_, Steps p.tables e below (T369.setTop (mkF m 418 #[.val (.long xl), .second, .val (.long yl), .second, .val (.int mode), .val (.int pos), .val (.int zz), .val (.int (Int32.ofNat nn)), .val (.int q3), .val (.int q10), .val (.ref b15), .val (.ref b356), .val (.int q368), .unset] [(.int (0 : Int32))])) t_ → Steps _ _ _ _ t_ := fun t_ k_ => s413 t_ (by
            refine XS.icmpYes X369.here hx rfl (pc0 := 374) (pc' := 417) rfl (dd hy at_374) rfl (feq h414).2 (by decide) (by decide) ?_
            show Steps _ _ _ (T369.setTop (mkF m 417 #[.val (.long xl), .second, .val (.long yl), .second, .val (.int mode), .val (.int pos), .val (.int zz), .val (.int (Int32.ofNat nn)), .val (.int q3), .val (.int q10), .val (.ref b15), .val (.ref b356), .val (.int q368), .unset] [])) _
            refine XS.iconst X369.here hx rfl (dd hy at_417) ?_
            exact k_)
          exact ⟨T369, X369, e369, fun t_ k_ => s434 t_ (castTop (by simp only [hq400, if_neg h402, if_pos h409, if_neg h414]) k_)⟩
      · have s435 : ∀ t_, Steps p.tables e below (T369.setTop (mkF m 418 #[.val (.long xl), .second, .val (.long yl), .second, .val (.int mode), .val (.int pos), .val (.int zz), .val (.int (Int32.ofNat nn)), .val (.int q3), .val (.int q10), .val (.ref b15), .val (.ref b356), .val (.int q368), .unset] [(.int (0 : Int32))])) t_ → Steps _ _ _ _ t_ := fun t_ k_ => s408 t_ (by
          refine XS.icmpYes X369.here hx rfl (pc0 := 362) (pc' := 417) rfl (dd hy at_362) rfl (feq h409).2 (by decide) (by decide) ?_
          show Steps _ _ _ (T369.setTop (mkF m 417 #[.val (.long xl), .second, .val (.long yl), .second, .val (.int mode), .val (.int pos), .val (.int zz), .val (.int (Int32.ofNat nn)), .val (.int q3), .val (.int q10), .val (.ref b15), .val (.ref b356), .val (.int q368), .unset] [])) _
          refine XS.iconst X369.here hx rfl (dd hy at_417) ?_
          exact k_)
        exact ⟨T369, X369, e369, fun t_ k_ => s435 t_ (castTop (by simp only [hq400, if_neg h402, if_neg h409]) k_)⟩)
  have s436 : ∀ t_, Steps p.tables e below (T401.setTop (mkF m 422 #[.val (.long xl), .second, .val (.long yl), .second, .val (.int mode), .val (.int pos), .val (.int zz), .val (.int (Int32.ofNat nn)), .val (.int q3), .val (.int q10), .val (.ref b15), .val (.ref b356), .val (.int q368), .val (.int q400)] [(.ref b356)])) t_ → Steps _ _ _ _ t_ := fun t_ k_ => s401 t_ (by
    refine XS.istore X401.here hx rfl (dd hy at_418) rfl (l' := #[.val (.long xl), .second, .val (.long yl), .second, .val (.int mode), .val (.int pos), .val (.int zz), .val (.int (Int32.ofNat nn)), .val (.int q3), .val (.int q10), .val (.ref b15), .val (.ref b356), .val (.int q368), .val (.int q400)]) rfl ?_
    refine XS.aload X401.here hx rfl (dd hy at_420) rfl rfl ?_
    exact k_)
  have O437 : Old Z n0 h365 := (O362.keep K365 (allS (show n0 ≤ b356 by omega) all0))
  have Zc438 : n0 ≤ h365.size := by omega
  obtain ⟨_, _, ⟨T439, L439, k439, n439⟩, -, Xr439, hSr439, hg439, ⟨Lc439, hQ439, l439, y439, z439, Cp439⟩, st439⟩ := callSS X401 hx (y := M21_) hown (mvT hZ (own_m hw 26 rfl)) (mvT hZ (own_m hw 27 rfl)) (mvT hZ (own_m hw 28 rfl)) (mvT hZ (own_m hw 29 rfl)) (by decide) (backOfSH (s := s) (vm0 := T365.vm) (W := 0) (rmIDF l Z a0 hw [] b356 cst b_365 kb_365 ds_353 h365 n0 Zc438 I1 I2 I3 I4 O437 hcst Fq365_0 Fq365_1 Fq365_2 Fq365_3 (Nat.le_trans (Nat.le_of_eq J353_0) (Nat.le_of_lt_succ hnl)) J353_1) hZ (own_m hw 29 rfl) (own_m hw 28 rfl) (by decide) (by decide) hEL CR.1) (g := (mkF m 422 #[.val (.long xl), .second, .val (.long yl), .second, .val (.int mode), .val (.int pos), .val (.int zz), .val (.int (Int32.ofNat nn)), .val (.int q3), .val (.int q10), .val (.ref b15), .val (.ref b356), .val (.int q368), .val (.int q400)] [(.ref b356)])) rfl (by rw [hml]; rfl) (argsL := [(.ref b356)]) (rest := []) (lenOf pd__Ljava_lang_String__Z rfl) rfl (by show 2 * 0 + _ ≤ _; exact Nat.le_of_eq rfl) (dd hy at_422) (fun _ _ => ⟨rfl, e401, (by decide : 26 + 4 ≤ _), (by decide : 544 + 48 ≤ _)⟩)
  dsimp only [Pt.U, Pt.locs, Pt.cells, Pt.slots] at Xr439 hSr439 hg439 l439 y439 z439 st439 hQ439 Cp439
  subst l439 y439 z439
  obtain ⟨X439, hS, hZ, hown⟩ := rebS (own := "io/dyeline/store/LayoutIsDataFilePinLaw") hS (by first | exact Nat.le_refl _ | (rw [e401]; exact hk)) Xr439 hSr439 hg439 hZ hown
  obtain ⟨rfl, N439q, K439⟩ := hQ439
  have N439 := Fr.app N365 N439q
  obtain ⟨h439, e439⟩ : ∃ z, T439.heap = z := ⟨_, rfl⟩
  rw [e439] at K439 Cp439
  have hk : T439.heap.size ≤ h439.size := Nat.le_of_eq (congrArg Array.size e439)
  have z440 : h365.size ≤ h439.size := K439.1
  have CR := CR.trans Cp439
  obtain ⟨q441, hq441⟩ : ∃ z : Int32, z = (if own_at own_tp ds_353 0 ∧ own_at own_tj ds_353 (ds_353.length - own_tj.length) then (1 : Int32) else (0 : Int32)) := ⟨_, rfl⟩
  rw [← hq441] at st439
  have s442 : ∀ t_, Steps p.tables e below (T439.setTop (mkF m 427 #[.val (.long xl), .second, .val (.long yl), .second, .val (.int mode), .val (.int pos), .val (.int zz), .val (.int (Int32.ofNat nn)), .val (.int q3), .val (.int q10), .val (.ref b15), .val (.ref b356), .val (.int q368), .val (.int q400)] [(.int q368), (.int q441)])) t_ → Steps _ _ _ _ t_ := fun t_ k_ => s436 t_ (by
    refine st439.trans ?_
    show Steps _ _ _ (T439.setTop (mkF m 425 #[.val (.long xl), .second, .val (.long yl), .second, .val (.int mode), .val (.int pos), .val (.int zz), .val (.int (Int32.ofNat nn)), .val (.int q3), .val (.int q10), .val (.ref b15), .val (.ref b356), .val (.int q368), .val (.int q400)] [(.int q441)])) _
    refine XS.iload X439.here hx rfl (dd hy at_425) rfl ?_
    exact k_)
  obtain ⟨q443, hq443⟩ : ∃ z : Int32, z = (if q368 = (0 : Int32) then (0 : Int32) else (if q400 = (0 : Int32) then (0 : Int32) else (1 : Int32))) := ⟨_, rfl⟩
  obtain ⟨T444, X444, e444, s444⟩ := seg X439 (fun T' => T'.heap = h439 ∧ ∀ t_, Steps p.tables e below (T'.setTop (mkF m 440 #[.val (.long xl), .second, .val (.long yl), .second, .val (.int mode), .val (.int pos), .val (.int zz), .val (.int (Int32.ofNat nn)), .val (.int q3), .val (.int q10), .val (.ref b15), .val (.ref b356), .val (.int q368), .val (.int q400)] [(.int q443), (.int q441)])) t_ → Steps p.tables e below (s₁.setTop (entryFrame m #[(.long xl), (.long yl), (.int mode), (.int pos), (.int zz)] maxLocals)) t_) (by
    by_cases h445 : q368 = (0 : Int32)
    · have s446 : ∀ t_, Steps p.tables e below (T439.setTop (mkF m 440 #[.val (.long xl), .second, .val (.long yl), .second, .val (.int mode), .val (.int pos), .val (.int zz), .val (.int (Int32.ofNat nn)), .val (.int q3), .val (.int q10), .val (.ref b15), .val (.ref b356), .val (.int q368), .val (.int q400)] [(.int (0 : Int32)), (.int q441)])) t_ → Steps _ _ _ _ t_ := fun t_ k_ => s442 t_ (by
        refine XS.ifYes X439.here hx rfl (pc0 := 427) (pc' := 439) rfl (dd hy at_427) rfl ((if0 _ _).trans (teq h445).1) (by decide) (by decide) ?_
        show Steps _ _ _ (T439.setTop (mkF m 439 #[.val (.long xl), .second, .val (.long yl), .second, .val (.int mode), .val (.int pos), .val (.int zz), .val (.int (Int32.ofNat nn)), .val (.int q3), .val (.int q10), .val (.ref b15), .val (.ref b356), .val (.int q368), .val (.int q400)] [(.int q441)])) _
        refine XS.iconst X439.here hx rfl (dd hy at_439) ?_
        exact k_)
      exact ⟨T439, X439, e439, fun t_ k_ => s446 t_ (castTop (by simp only [hq443, if_pos h445]) k_)⟩
    · have s447 : ∀ t_, Steps p.tables e below (T439.setTop (mkF m 432 #[.val (.long xl), .second, .val (.long yl), .second, .val (.int mode), .val (.int pos), .val (.int zz), .val (.int (Int32.ofNat nn)), .val (.int q3), .val (.int q10), .val (.ref b15), .val (.ref b356), .val (.int q368), .val (.int q400)] [(.int q400), (.int q441)])) t_ → Steps _ _ _ _ t_ := fun t_ k_ => s442 t_ (by
        refine XS.ifNo X439.here hx rfl (dd hy at_427) rfl ((if0 _ _).trans (feq h445).1) ?_
        show Steps _ _ _ (T439.setTop (mkF m 430 #[.val (.long xl), .second, .val (.long yl), .second, .val (.int mode), .val (.int pos), .val (.int zz), .val (.int (Int32.ofNat nn)), .val (.int q3), .val (.int q10), .val (.ref b15), .val (.ref b356), .val (.int q368), .val (.int q400)] [(.int q441)])) _
        refine XS.iload X439.here hx rfl (dd hy at_430) rfl ?_
        exact k_)
      by_cases h448 : q400 = (0 : Int32)
      · have s449 : ∀ t_, Steps p.tables e below (T439.setTop (mkF m 440 #[.val (.long xl), .second, .val (.long yl), .second, .val (.int mode), .val (.int pos), .val (.int zz), .val (.int (Int32.ofNat nn)), .val (.int q3), .val (.int q10), .val (.ref b15), .val (.ref b356), .val (.int q368), .val (.int q400)] [(.int (0 : Int32)), (.int q441)])) t_ → Steps _ _ _ _ t_ := fun t_ k_ => s447 t_ (by
          refine XS.ifYes X439.here hx rfl (pc0 := 432) (pc' := 439) rfl (dd hy at_432) rfl ((if0 _ _).trans (teq h448).1) (by decide) (by decide) ?_
          show Steps _ _ _ (T439.setTop (mkF m 439 #[.val (.long xl), .second, .val (.long yl), .second, .val (.int mode), .val (.int pos), .val (.int zz), .val (.int (Int32.ofNat nn)), .val (.int q3), .val (.int q10), .val (.ref b15), .val (.ref b356), .val (.int q368), .val (.int q400)] [(.int q441)])) _
          refine XS.iconst X439.here hx rfl (dd hy at_439) ?_
          exact k_)
        exact ⟨T439, X439, e439, fun t_ k_ => s449 t_ (castTop (by simp only [hq443, if_neg h445, if_pos h448]) k_)⟩
      · have s450 : ∀ t_, Steps p.tables e below (T439.setTop (mkF m 440 #[.val (.long xl), .second, .val (.long yl), .second, .val (.int mode), .val (.int pos), .val (.int zz), .val (.int (Int32.ofNat nn)), .val (.int q3), .val (.int q10), .val (.ref b15), .val (.ref b356), .val (.int q368), .val (.int q400)] [(.int (1 : Int32)), (.int q441)])) t_ → Steps _ _ _ _ t_ := fun t_ k_ => s447 t_ (by
          refine XS.ifNo X439.here hx rfl (dd hy at_432) rfl ((if0 _ _).trans (feq h448).1) ?_
          show Steps _ _ _ (T439.setTop (mkF m 435 #[.val (.long xl), .second, .val (.long yl), .second, .val (.int mode), .val (.int pos), .val (.int zz), .val (.int (Int32.ofNat nn)), .val (.int q3), .val (.int q10), .val (.ref b15), .val (.ref b356), .val (.int q368), .val (.int q400)] [(.int q441)])) _
          refine XS.iconst X439.here hx rfl (dd hy at_435) ?_
          refine XS.goto X439.here hx rfl (pc0 := 436) (pc' := 440) rfl (dd hy at_436) (by decide) (by decide) ?_
          exact k_)
        exact ⟨T439, X439, e439, fun t_ k_ => s450 t_ (castTop (by simp only [hq443, if_neg h445, if_neg h448]) k_)⟩)
  obtain ⟨q451, hq451⟩ : ∃ z : Int32, z = (if q441 = q443 then (1 : Int32) else (0 : Int32)) := ⟨_, rfl⟩
  obtain ⟨T452, X452, e452, s452⟩ := seg X444 (fun T' => T'.heap = h439 ∧ ∀ t_, Steps p.tables e below (T'.setTop (mkF m 448 #[.val (.long xl), .second, .val (.long yl), .second, .val (.int mode), .val (.int pos), .val (.int zz), .val (.int (Int32.ofNat nn)), .val (.int q3), .val (.int q10), .val (.ref b15), .val (.ref b356), .val (.int q368), .val (.int q400)] [(.int q451)])) t_ → Steps p.tables e below (s₁.setTop (entryFrame m #[(.long xl), (.long yl), (.int mode), (.int pos), (.int zz)] maxLocals)) t_) (by
    by_cases h453 : q441 = q443
    · have s454 : ∀ t_, Steps p.tables e below (T444.setTop (mkF m 448 #[.val (.long xl), .second, .val (.long yl), .second, .val (.int mode), .val (.int pos), .val (.int zz), .val (.int (Int32.ofNat nn)), .val (.int q3), .val (.int q10), .val (.ref b15), .val (.ref b356), .val (.int q368), .val (.int q400)] [(.int (1 : Int32))])) t_ → Steps _ _ _ _ t_ := fun t_ k_ => s444 t_ (by
        refine XS.icmpNo X444.here hx rfl (dd hy at_440) rfl (teq h453).2 ?_
        show Steps _ _ _ (T444.setTop (mkF m 443 #[.val (.long xl), .second, .val (.long yl), .second, .val (.int mode), .val (.int pos), .val (.int zz), .val (.int (Int32.ofNat nn)), .val (.int q3), .val (.int q10), .val (.ref b15), .val (.ref b356), .val (.int q368), .val (.int q400)] [])) _
        refine XS.iconst X444.here hx rfl (dd hy at_443) ?_
        refine XS.goto X444.here hx rfl (pc0 := 444) (pc' := 448) rfl (dd hy at_444) (by decide) (by decide) ?_
        exact k_)
      exact ⟨T444, X444, e444, fun t_ k_ => s454 t_ (castTop (by simp only [hq451, if_pos h453]) k_)⟩
    · have s455 : ∀ t_, Steps p.tables e below (T444.setTop (mkF m 448 #[.val (.long xl), .second, .val (.long yl), .second, .val (.int mode), .val (.int pos), .val (.int zz), .val (.int (Int32.ofNat nn)), .val (.int q3), .val (.int q10), .val (.ref b15), .val (.ref b356), .val (.int q368), .val (.int q400)] [(.int (0 : Int32))])) t_ → Steps _ _ _ _ t_ := fun t_ k_ => s444 t_ (by
        refine XS.icmpYes X444.here hx rfl (pc0 := 440) (pc' := 447) rfl (dd hy at_440) rfl (feq h453).2 (by decide) (by decide) ?_
        show Steps _ _ _ (T444.setTop (mkF m 447 #[.val (.long xl), .second, .val (.long yl), .second, .val (.int mode), .val (.int pos), .val (.int zz), .val (.int (Int32.ofNat nn)), .val (.int q3), .val (.int q10), .val (.ref b15), .val (.ref b356), .val (.int q368), .val (.int q400)] [])) _
        refine XS.iconst X444.here hx rfl (dd hy at_447) ?_
        exact k_)
      exact ⟨T444, X444, e444, fun t_ k_ => s455 t_ (castTop (by simp only [hq451, if_neg h453]) k_)⟩)
  obtain ⟨fs, hr, hrun, hended, hREW⟩ := X452.leaveW hS (by first | exact Nat.le_refl _ | (rw [e452]; exact hk)) (v := some (.int (nar .boolean q451))) (fun h => by rw [Bd.returns] at h; cases h)
  have e12 : q368 = (if own_at own_tp ds_353 0 then (1 : Int32) else (0 : Int32)) := by rw [hq368]; exact own_sok J353_0 hnl
  have e13 : q400 = (if own_at own_tj ds_353 (ds_353.length - own_tj.length) then (1 : Int32) else (0 : Int32)) := by rw [hq400]; exact own_eok J353_0 hnl
  have hone : q451 = 1 := by
    rw [hq451, if_pos]
    rw [hq441, hq443, e12, e13]
    exact own_and2 _ _
  refine ⟨_, _, s452 _ ?_, hrun, hended, _, _, rfl, ?_, (by show CHr Z ELs s.vm s.heap T452.vm T452.heap; rw [hh, e452]; exact CR.trans (CHv.at X452 hZ hEL CR.1)), hREW.1, hREW.2.1, hREW.2.2.1, hREW.2.2.2.mono (by decide) (by decide)⟩
  · exact retN X452 hx (t := .boolean) Bd.returns (by simp) (dd hy at_448) hr
  · show Q_rmLaw Z _ _ _ _ _ _ _ h0 n0 _ T452.heap _
    rw [e452]
    exact ⟨by rw [hone]; rfl, N439⟩
set_option maxRecDepth 65536 in
set_option maxHeartbeats 40000000 in
theorem comes_1 {Post : Tables → Env → Array Value → State → Outcome → State → Prop} (hpost : ∀ tb e args s v u, (limb_1_1.after args s (.returned v) u = true ∧ limb_1_2.after args s (.returned v) u = true ∧ True) → ReturnedEndW s (.returned v) u (Jvm.fieldLocs frame_1_writes args s ++ Jvm.arrayLocs frame_1_arrays args s ++ Jvm.staticLocs frame_1_statics s) 32 5376 → Post tb e args s (.returned v) u) :
    ArmFor flags0 classFile x code maxLocals ret World_1 tables_1 room_1 Calls_1 rest_1 Pre_1 Post := by
  intro l hfl _ _ p e ha hc hk s m args below hf hA hF happ hP
  obtain ⟨hcalls, hrest, hpre⟩ := hP
  obtain ⟨-, -, -, hnamed, -, -, -, hat⟩ := (Spec.applies_iff hf).mp happ
  obtain ⟨hg, hn⟩ := and_e (Cond.before_iff.mp (show (Jvm.Cond.and given_1 narrow_1).before args s = true from hpre))
  obtain ⟨ga, gr⟩ := and_e hg
  obtain ⟨g0, gr0⟩ := and_e gr
  obtain ⟨g1, gr1⟩ := and_e gr0
  obtain ⟨g2, gr2⟩ := and_e gr1
  obtain ⟨g3, gr3⟩ := and_e gr2
  obtain ⟨w0, w1, w2, w3, w4, rfl⟩ : ∃ w0 w1 w2 w3 w4 : Value, args = #[w0, w1, w2, w3, w4] := by
    have hs : args.size = 5 := by simpa [Cond.value, given_1] using ga
    obtain ⟨L⟩ := args
    match L, hs with
    | [w0, w1, w2, w3, w4], _ => exact ⟨w0, w1, w2, w3, w4, rfl⟩
  have hw := fun d (hd : d ∈ tables_1) => atoms_spec (ws := Jvm.Cond.code x code maxLocals ret :: tables_1) hat d (List.mem_cons_of_mem _ hd)
  have hfit : Fit s := fun {y c} hc i hi => by
    obtain ⟨ha, rfl⟩ := Array.getElem?_eq_some_iff.mp hc
    have q := List.all_eq_true.mp ((Array.all_eq_true_iff_forall_mem.mp hF) _ (Array.getElem_mem ha)) i (List.mem_range.mpr hi)
    simpa [Array.getElem?_eq_getElem hi] using q
  obtain ⟨hsets, hown0⟩ := atoms_of _ (rest_1_c_eq ▸ (show rest_1_c.before _ s = true from hrest))
  have hr0 := Cond.before_iff.mp hown0
  obtain ⟨i0, ei0⟩ := isL_v g0
  obtain rfl : w0 = (.long i0) := Option.some.inj ei0
  obtain ⟨i1, ei1⟩ := isL_v g1
  obtain rfl : w1 = (.long i1) := Option.some.inj ei1
  obtain ⟨i2, ei2⟩ := is_v g2
  obtain rfl : w2 = (.int i2) := Option.some.inj ei2
  obtain ⟨i3, ei3⟩ := is_v g3
  obtain rfl : w3 = (.int i3) := Option.some.inj ei3
  obtain ⟨i4, ei4⟩ := is_v gr3
  obtain rfl : w4 = (.int i4) := Option.some.inj ei4
  obtain ⟨cst, ecs⟩ := is_v (Cond.before_iff.mp (hsets _ (List.mem_of_getElem? (i := 1) rfl)))
  have hcw := (hsets _ (List.mem_of_getElem? (i := 2) rfl))
  have hcst : ¬ (cst = (0 : Int32)) := fun q => by
    have h1 := not_v (Cond.before_iff.mp hcw)
    rw [Cond.eq_ints ecs (Term.int_eval 0)] at h1
    simp [q] at h1
  have eas := eqv_i (Term.int_eval 1) (Cond.before_iff.mp (hsets _ (List.mem_of_getElem? (i := 12) rfl)))
  have ehi := eqv_i (Term.int_eval 0) (Cond.before_iff.mp (hsets _ (List.mem_of_getElem? (i := 15) rfl)))
  have elo := eqv_i (Term.int_eval 8) (Cond.before_iff.mp (hsets _ (List.mem_of_getElem? (i := 18) rfl)))
  obtain ⟨fmt, efm, hfmt⟩ := isR_v (Cond.before_iff.mp (hsets _ (List.mem_of_getElem? (i := 8) rfl)))
  have hCH : CHv s ELs s.vm s.heap := CHv.start (own_EW hw) (fun p hp => hcalls.1 p hp) (show Jvm.Lit.compactW.before _ s = true from hcw) (own_m hw 19 rfl) (own_m hw 6 rfl)
  obtain ⟨n, o, h1, h2, h3, _, L, rfl, ⟨rfl, N⟩, -, hq⟩ := rmLaw l s _ hw tables_1 i0 i1 i2 i3 i4 cst fmt  s.heap s.heap.size (Nat.le_refl _) (Sta.start ecs (Or.inl (hsets _ (List.mem_of_getElem? (i := 0) rfl)))) (Sta.start eas (Or.inl (hsets _ (List.mem_of_getElem? (i := 11) rfl)))) (Sta.start ehi (Or.inl (hsets _ (List.mem_of_getElem? (i := 14) rfl)))) (Sta.start elo (Or.inl (hsets _ (List.mem_of_getElem? (i := 17) rfl)))) hfmt (Sta.start efm (Or.inl (hsets _ (List.mem_of_getElem? (i := 7) rfl)))) (Old.start s) hcst  p e ha hc hk s m _ below hf ((Spec.applies_iff_loose hf).mp happ).1 ⟨rfl, State.Warmed39.refl s, rfl, hCH⟩ trivial
  refine ⟨n, _, h1, h2, h3, hpost _ _ _ _ _ _ ⟨Cond.after_iff.mpr rfl, Cond.after_iff.mpr (eq_i res_at (Term.int_eval (1)) rfl), trivial⟩ ⟨hq.1, hq.2.1, hq.2.2.1, (hq.2.2.2.sift fun y hy => Or.inr (N y hy)).mono (by decide) (by decide)⟩⟩
theorem main_1_1 : Claimed_1_1 := comes_1 fun _ _ _ _ _ _ h hF => ⟨h.1, hF⟩
theorem main_1_2 : Claimed_1_2 := comes_1 fun _ _ _ _ _ _ h hF => ⟨h.2.1, hF⟩
end Jvm.Pilot.@@N@@
namespace Jvm.Pilot.@@N@@
open Jvm Jvm.ClassFile Sem Op Lib Jvm.Free Jvm.Stand Jvm.Pilot.@@N@@.Jvm.D
/-! MADE BY PROGRAM (witnessworld.py) out of the Statement's table words and the real class files: 20 classes; the members and pool entries that the words name. The judged class is class 1, her method 3. -/
namespace start1
open Jvm.ClassFile
def u (s : String) : CpInfo := .utf8 (stringToUtf16 s)
/-- a pool by its gaps: so many unusable entries, then the entry; so many at the end -/
def gap : Nat → List CpInfo → List CpInfo
  | 0, r => r
  | n + 1, r => .unusable :: gap n r
def poolList (es : List (Nat × CpInfo)) (last : Nat) : List CpInfo := es.foldr (fun e r => gap e.1 (e.2 :: r)) (gap last [])
def pool (es : List (Nat × CpInfo)) (last : Nat) : Array CpInfo := ⟨poolList es last⟩
def fileOf (pool : Array CpInfo) (this : Nat) (attrs : Array Attribute := #[]) (ms : Array MethodInfo := #[]) (fl : Nat := 33) (sup : Nat := 0) (ifs : Array Nat := #[]) (fds : Array FieldInfo := #[]) : ClassFile where
  minorVersion := 0
  majorVersion := 65
  constantPool := pool
  accessFlags := fl
  thisClass := this
  superClass := sup
  interfaces := ifs
  fields := fds
  methods := ms
  attributes := attrs
def plain (name : String) (sup : Option ClassId) : Class where
  name := name
  kind := .ordinary
  loader := none
  accessFlags := 33
  super := sup
  interfaces := #[]
  cf := none
  fields := #[]
  methods := #[]
  instanceTypes := #[]
  staticTypes := #[]
  resolved := #[]
  callSites := []
  init := .initialized
  statics := none
  mirror := none

def pool0 : Array CpInfo := pool [(5, u "<init>"), (0, u "()V"), (1, .class_ 10), (1, u "java/lang/Object")] 113

def k0c0 : Code := { maxStack := 0, maxLocals := 1, code := object_method_1_code, exceptionTable := #[], attributes := #[] }
def k0m0 : Method := { name := "<init>", desc := "()V", sig := { parameters := [], returnType := none }, accessFlags := 1, code := some k0c0 }
/-- java/lang/Object -/
def k0 : Class := { plain "java/lang/Object" none with
  accessFlags := 33
  interfaces := #[]
  cf := some (fileOf pool0 8 #[] #[{ accessFlags := 1, nameIndex := 5, descriptorIndex := 6, attributes := #[] }] 33 0 #[] #[])
  fields := #[]
  methods := #[k0m0]
  instanceTypes := #[]
  staticTypes := #[]
  resolved := Array.replicate 124 none
  statics := none }

def pool1 : Array CpInfo := pool [(2, .class_ 4), (1, u "java/lang/Object"), (0, u "<init>"), (0, u "()V"), (0, .long 255), (1, .methodref 10 11), (0, .class_ 12), (0, .nameAndType 13 14), (0, u "io/dyeline/store/LayoutIsDataFilePinLaw"), (0, u "drawn"), (0, u "(JJI)C"), (0, .string 16), (0, u "part-"), (0, .methodref 18 19), (0, .class_ 20), (0, .nameAndType 21 22), (0, u "java/lang/String"), (0, u "charAt"), (0, u "(I)C"), (0, .string 24), (0, u ".json"), (0, .methodref 10 26), (0, .nameAndType 27 28), (0, u "put"), (0, u "([CIZZJJ)V"), (0, .integer 65535), (0, .methodref 18 31), (0, .nameAndType 5 32), (0, u "([C)V"), (0, .methodref 34 35), (0, .class_ 36), (0, .nameAndType 37 38), (0, u "io/dyeline/store/Layout"), (0, u "isDataFile"), (0, u "(Ljava/lang/String;)Z"), (3, u "law"), (0, u "(JJIII)Z")] 4

def k1m0 : Method := { name := "<init>", desc := "()V", sig := { parameters := [], returnType := none }, accessFlags := 2, code := none }
def k1c1 : Code := { maxStack := 5, maxLocals := 7, code := method_2_code, exceptionTable := #[], attributes := #[] }
def k1m1 : Method := { name := "drawn", desc := "(JJI)C", sig := { parameters := [.long, .long, .int], returnType := some .char }, accessFlags := 10, code := some k1c1 }
def k1c2 : Code := { maxStack := 5, maxLocals := 10, code := method_3_code, exceptionTable := #[], attributes := #[] }
def k1m2 : Method := { name := "put", desc := "([CIZZJJ)V", sig := { parameters := [(.array .char), .int, .boolean, .boolean, .long, .long], returnType := none }, accessFlags := 10, code := some k1c2 }
def k1c3 : Code := { maxStack := 8, maxLocals := 14, code := code, exceptionTable := #[], attributes := #[] }
def k1m3 : Method := { name := "law", desc := "(JJIII)Z", sig := { parameters := [.long, .long, .int, .int, .int], returnType := some .boolean }, accessFlags := 9, code := some k1c3 }
/-- io/dyeline/store/LayoutIsDataFilePinLaw -/
def k1 : Class := { plain "io/dyeline/store/LayoutIsDataFilePinLaw" (some 0) with
  accessFlags := 49
  interfaces := #[]
  cf := some (fileOf pool1 10 #[] #[{ accessFlags := 2, nameIndex := 5, descriptorIndex := 6, attributes := #[] }, { accessFlags := 10, nameIndex := 13, descriptorIndex := 14, attributes := #[] }, { accessFlags := 10, nameIndex := 27, descriptorIndex := 28, attributes := #[] }, { accessFlags := 9, nameIndex := 42, descriptorIndex := 43, attributes := #[] }] 49 2 #[] #[])
  fields := #[]
  methods := #[k1m0, k1m1, k1m2, k1m3]
  instanceTypes := #[]
  staticTypes := #[]
  resolved := Array.replicate 48 none
  statics := none }

def pool2 : Array CpInfo := pool [(1, .class_ 2), (0, u "java/io/Serializable"), (0, .class_ 4), (0, u "java/lang/Object")] 2

/-- java/io/Serializable -/
def k2 : Class := { plain "java/io/Serializable" (some 0) with
  accessFlags := 1537
  interfaces := #[]
  cf := some (fileOf pool2 1 #[] #[] 1537 3 #[] #[])
  fields := #[]
  methods := #[]
  instanceTypes := #[]
  staticTypes := #[]
  resolved := Array.replicate 7 none
  statics := none }

def pool3 : Array CpInfo := pool [(1, .class_ 2), (0, u "java/lang/Comparable"), (0, .class_ 4), (0, u "java/lang/Object")] 7

/-- java/lang/Comparable -/
def k3 : Class := { plain "java/lang/Comparable" (some 0) with
  accessFlags := 1537
  interfaces := #[]
  cf := some (fileOf pool3 1 #[] #[] 1537 3 #[] #[])
  fields := #[]
  methods := #[]
  instanceTypes := #[]
  staticTypes := #[]
  resolved := Array.replicate 12 none
  statics := none }

def pool4 : Array CpInfo := pool [(2, .class_ 4), (1, u "java/lang/CharSequence"), (42, .class_ 48), (0, u "java/lang/CharSequence$1CodePointIterator"), (10, .class_ 60), (0, u "java/lang/CharSequence$1CharIterator"), (5, .class_ 67), (0, u "java/lang/Object")] 63

/-- java/lang/CharSequence -/
def k4 : Class := { plain "java/lang/CharSequence" (some 0) with
  accessFlags := 1537
  interfaces := #[]
  cf := some (fileOf pool4 2 #[.nestMembers #[47, 59]] #[] 1537 66 #[] #[])
  fields := #[]
  methods := #[]
  instanceTypes := #[]
  staticTypes := #[]
  resolved := Array.replicate 131 none
  statics := none }

def pool5 : Array CpInfo := pool [(1, .class_ 2), (0, u "java/lang/constant/Constable"), (0, .class_ 4), (0, u "java/lang/Object")] 6

/-- java/lang/constant/Constable -/
def k5 : Class := { plain "java/lang/constant/Constable" (some 0) with
  accessFlags := 1537
  interfaces := #[]
  cf := some (fileOf pool5 1 #[] #[] 1537 3 #[] #[])
  fields := #[]
  methods := #[]
  instanceTypes := #[]
  staticTypes := #[]
  resolved := Array.replicate 11 none
  statics := none }

def pool6 : Array CpInfo := pool [(1, .class_ 2), (0, u "java/lang/constant/ConstantDesc"), (0, .class_ 4), (0, u "java/lang/Object")] 32

/-- java/lang/constant/ConstantDesc -/
def k6 : Class := { plain "java/lang/constant/ConstantDesc" (some 0) with
  accessFlags := 1537
  interfaces := #[]
  cf := some (fileOf pool6 1 #[] #[] 1537 3 #[] #[])
  fields := #[]
  methods := #[]
  instanceTypes := #[]
  staticTypes := #[]
  resolved := Array.replicate 37 none
  statics := none }

def pool7 : Array CpInfo := pool [(1, .methodref 2 3), (0, .class_ 4), (0, .nameAndType 5 6), (0, u "java/lang/Object"), (0, u "<init>"), (0, u "()V"), (0, .string 8), (0, u ""), (0, .fieldref 10 11), (0, .class_ 12), (0, .nameAndType 13 14), (0, u "java/lang/String"), (0, u "value"), (0, u "[B"), (0, .fieldref 10 16), (0, .nameAndType 17 18), (0, u "coder"), (0, u "B"), (2, u "hash"), (0, u "I"), (2, u "hashIsZero"), (0, u "Z"), (0, .methodref 10 28), (0, .nameAndType 5 29), (0, u "([CIILjava/lang/Void;)V"), (8, .fieldref 10 39), (0, .nameAndType 40 26), (0, u "COMPACT_STRINGS"), (1, .class_ 44), (1, u "java/lang/StringUTF16"), (0, u "compress"), (1, .methodref 42 48), (0, .nameAndType 49 50), (0, u "coderFromArrayLen"), (0, u "([BI)B"), (56, .class_ 109), (1, u "java/lang/StringLatin1"), (32, u "()Z"), (34, .methodref 42 178), (0, .nameAndType 45 179), (0, u "([CII)[B"), (154, u "()I"), (0, .methodref 10 336), (0, .nameAndType 17 337), (0, u "()B"), (22, .methodref 42 361), (0, .nameAndType 362 363), (0, u "getChar"), (0, u "([BI)C"), (12, u "([BI[BII)I"), (14, u "(II)V"), (35, u "(I)C"), (64, .methodref 10 493), (0, .nameAndType 494 142), (0, u "isLatin1"), (0, .methodref 107 496), (0, .nameAndType 497 363), (0, u "charAt"), (3, u "checkIndex"), (3, .methodref 10 506), (0, .nameAndType 507 334), (0, u "length"), (51, .class_ 561), (1, u "jdk/internal/util/ArraysSupport"), (0, u "mismatch"), (12, .class_ 576), (0, u "java/lang/CharSequence"), (22, u "CASE_INSENSITIVE_ORDER"), (0, u "Ljava/util/Comparator;"), (6, .methodref 559 608), (0, .nameAndType 562 376), (15, .methodref 10 625), (0, .nameAndType 626 627), (0, u "startsWith"), (0, u "(Ljava/lang/String;I)Z"), (382, u "([C)V"), (42, .fieldref 1054 1055), (0, .class_ 1056), (0, .nameAndType 1057 1058), (0, u "jdk/internal/util/Preconditions"), (0, u "SIOOBE_FORMATTER"), (0, u "Ljava/util/function/BiFunction;"), (0, .methodref 1054 1060), (0, .nameAndType 501 1061), (0, u "(IILjava/util/function/BiFunction;)I"), (39, u "serialPersistentFields"), (0, u "[Ljava/io/ObjectStreamField;"), (0, .class_ 1104), (0, u "java/lang/String$CaseInsensitiveComparator"), (1, .class_ 1107), (0, u "java/io/Serializable"), (0, .class_ 1109), (0, u "java/lang/Comparable"), (0, .class_ 1111), (0, u "java/lang/constant/Constable"), (0, .class_ 1113), (0, u "java/lang/constant/ConstantDesc"), (2, u "serialVersionUID"), (0, u "J"), (3, u "REPL"), (0, u "C"), (2, u "LATIN1"), (1, u "UTF16"), (129, u "(Ljava/lang/String;)Z"), (14, u "endsWith")] 178

def k7m0 : Method := { name := "<init>", desc := "()V", sig := { parameters := [], returnType := none }, accessFlags := 1, code := none }
def k7c1 : Code := { maxStack := 5, maxLocals := 2, code := jdk_42_method_3_code, exceptionTable := #[], attributes := #[] }
def k7m1 : Method := { name := "<init>", desc := "([C)V", sig := { parameters := [(.array .char)], returnType := none }, accessFlags := 1, code := some k7c1 }
def k7c2 : Code := { maxStack := 2, maxLocals := 1, code := jdk_42_method_54_code, exceptionTable := #[], attributes := #[] }
def k7m2 : Method := { name := "length", desc := "()I", sig := { parameters := [], returnType := some .int }, accessFlags := 1, code := some k7c2 }
def k7c3 : Code := { maxStack := 2, maxLocals := 2, code := jdk_42_method_56_code, exceptionTable := #[], attributes := #[] }
def k7m3 : Method := { name := "charAt", desc := "(I)C", sig := { parameters := [.int], returnType := some .char }, accessFlags := 1, code := some k7c3 }
def k7c4 : Code := { maxStack := 5, maxLocals := 8, code := jdk_42_method_75_code, exceptionTable := #[], attributes := #[] }
def k7m4 : Method := { name := "startsWith", desc := "(Ljava/lang/String;I)Z", sig := { parameters := [(.object "java/lang/String"), .int], returnType := some .boolean }, accessFlags := 1, code := some k7c4 }
def k7c5 : Code := { maxStack := 3, maxLocals := 2, code := jdk_42_method_76_code, exceptionTable := #[], attributes := #[] }
def k7m5 : Method := { name := "startsWith", desc := "(Ljava/lang/String;)Z", sig := { parameters := [(.object "java/lang/String")], returnType := some .boolean }, accessFlags := 1, code := some k7c5 }
def k7c6 : Code := { maxStack := 4, maxLocals := 2, code := jdk_42_method_77_code, exceptionTable := #[], attributes := #[] }
def k7m6 : Method := { name := "endsWith", desc := "(Ljava/lang/String;)Z", sig := { parameters := [(.object "java/lang/String")], returnType := some .boolean }, accessFlags := 1, code := some k7c6 }
def k7c7 : Code := { maxStack := 4, maxLocals := 6, code := jdk_42_method_149_code, exceptionTable := #[], attributes := #[] }
def k7m7 : Method := { name := "<init>", desc := "([CIILjava/lang/Void;)V", sig := { parameters := [(.array .char), .int, .int, (.object "java/lang/Void")], returnType := none }, accessFlags := 2, code := some k7c7 }
def k7c8 : Code := { maxStack := 1, maxLocals := 1, code := jdk_42_method_152_code, exceptionTable := #[], attributes := #[] }
def k7m8 : Method := { name := "coder", desc := "()B", sig := { parameters := [], returnType := some .byte }, accessFlags := 0, code := some k7c8 }
def k7c9 : Code := { maxStack := 1, maxLocals := 1, code := jdk_42_method_154_code, exceptionTable := #[], attributes := #[] }
def k7m9 : Method := { name := "isLatin1", desc := "()Z", sig := { parameters := [], returnType := some .boolean }, accessFlags := 0, code := some k7c9 }
def k7c10 : Code := { maxStack := 3, maxLocals := 2, code := jdk_42_method_155_code, exceptionTable := #[], attributes := #[] }
def k7m10 : Method := { name := "checkIndex", desc := "(II)V", sig := { parameters := [.int, .int], returnType := none }, accessFlags := 8, code := some k7c10 }
/-- java/lang/String -/
def k7 : Class := { plain "java/lang/String" (some 0) with
  accessFlags := 49
  interfaces := #[2, 3, 4, 5, 6]
  cf := some (fileOf pool7 10 #[.nestMembers #[1103]] #[{ accessFlags := 1, nameIndex := 5, descriptorIndex := 6, attributes := #[] }, { accessFlags := 1, nameIndex := 5, descriptorIndex := 1010, attributes := #[] }, { accessFlags := 1, nameIndex := 507, descriptorIndex := 334, attributes := #[] }, { accessFlags := 1, nameIndex := 497, descriptorIndex := 427, attributes := #[] }, { accessFlags := 1, nameIndex := 626, descriptorIndex := 627, attributes := #[] }, { accessFlags := 1, nameIndex := 626, descriptorIndex := 1257, attributes := #[] }, { accessFlags := 1, nameIndex := 1272, descriptorIndex := 1257, attributes := #[] }, { accessFlags := 2, nameIndex := 5, descriptorIndex := 29, attributes := #[] }, { accessFlags := 0, nameIndex := 17, descriptorIndex := 337, attributes := #[] }, { accessFlags := 0, nameIndex := 494, descriptorIndex := 142, attributes := #[] }, { accessFlags := 8, nameIndex := 501, descriptorIndex := 391, attributes := #[] }] 49 2 #[1106, 1108, 575, 1110, 1112] #[{ accessFlags := 18, nameIndex := 13, descriptorIndex := 14, attributes := #[] }, { accessFlags := 18, nameIndex := 17, descriptorIndex := 18, attributes := #[] }, { accessFlags := 2, nameIndex := 21, descriptorIndex := 22, attributes := #[] }, { accessFlags := 2, nameIndex := 25, descriptorIndex := 26, attributes := #[] }, { accessFlags := 26, nameIndex := 1116, descriptorIndex := 1117, attributes := #[] }, { accessFlags := 24, nameIndex := 40, descriptorIndex := 26, attributes := #[] }, { accessFlags := 26, nameIndex := 1101, descriptorIndex := 1102, attributes := #[] }, { accessFlags := 26, nameIndex := 1121, descriptorIndex := 1122, attributes := #[] }, { accessFlags := 25, nameIndex := 599, descriptorIndex := 600, attributes := #[] }, { accessFlags := 24, nameIndex := 1125, descriptorIndex := 18, attributes := #[] }, { accessFlags := 24, nameIndex := 1127, descriptorIndex := 18, attributes := #[] }])
  fields := #[{ name := "value", type := (.array .byte), accessFlags := 18, slot := 0, constantValue := 0 }, { name := "coder", type := .byte, accessFlags := 18, slot := 1, constantValue := 0 }, { name := "hash", type := .int, accessFlags := 2, slot := 2, constantValue := 0 }, { name := "hashIsZero", type := .boolean, accessFlags := 2, slot := 3, constantValue := 0 }, { name := "serialVersionUID", type := .long, accessFlags := 26, slot := 0, constantValue := 0 }, { name := "COMPACT_STRINGS", type := .boolean, accessFlags := 24, slot := 1, constantValue := 0 }, { name := "serialPersistentFields", type := (.array (.object "java/io/ObjectStreamField")), accessFlags := 26, slot := 2, constantValue := 0 }, { name := "REPL", type := .char, accessFlags := 26, slot := 3, constantValue := 0 }, { name := "CASE_INSENSITIVE_ORDER", type := (.object "java/util/Comparator"), accessFlags := 25, slot := 4, constantValue := 0 }, { name := "LATIN1", type := .byte, accessFlags := 24, slot := 5, constantValue := 0 }, { name := "UTF16", type := .byte, accessFlags := 24, slot := 6, constantValue := 0 }]
  methods := #[k7m0, k7m1, k7m2, k7m3, k7m4, k7m5, k7m6, k7m7, k7m8, k7m9, k7m10]
  instanceTypes := #[(.array .byte), .byte, .int, .boolean]
  staticTypes := #[.long, .boolean, (.array (.object "java/io/ObjectStreamField")), .char, (.object "java/util/Comparator"), .byte, .byte]
  resolved := Array.replicate 1451 none
  statics := some 0 }

def pool8 : Array CpInfo := pool [(2, .class_ 4), (1, u "java/lang/Object"), (0, u "<init>"), (0, u "()V"), (3, .class_ 11), (0, u "io/dyeline/store/Layout"), (0, .string 13), (0, u "part-"), (0, .methodref 15 16), (0, .class_ 17), (0, .nameAndType 18 19), (0, u "java/lang/String"), (0, u "startsWith"), (0, u "(Ljava/lang/String;)Z"), (0, .string 21), (0, u ".json"), (0, .methodref 15 23), (0, .nameAndType 24 19), (0, u "endsWith"), (14, u "TAGS_DIR"), (0, u "Ljava/lang/String;"), (3, u "MANIFEST"), (2, u "FORMAT"), (0, u "I"), (1, u "DATA_PREFIX"), (0, u "DATA_SUFFIX"), (0, u "TAGS_SUFFIX"), (2, u "NUMBERED"), (1, u "SETS"), (2, u "SETS_SUFFIX"), (2, u "INDEX_SUFFIX"), (4, u "isDataFile")] 25

def k8m0 : Method := { name := "<init>", desc := "()V", sig := { parameters := [], returnType := none }, accessFlags := 2, code := none }
def k8c1 : Code := { maxStack := 2, maxLocals := 1, code := prog_8_method_2_code, exceptionTable := #[], attributes := #[] }
def k8m1 : Method := { name := "isDataFile", desc := "(Ljava/lang/String;)Z", sig := { parameters := [(.object "java/lang/String")], returnType := some .boolean }, accessFlags := 8, code := some k8c1 }
/-- io/dyeline/store/Layout -/
def k8 : Class := { plain "io/dyeline/store/Layout" (some 0) with
  accessFlags := 48
  interfaces := #[]
  cf := some (fileOf pool8 10 #[] #[{ accessFlags := 2, nameIndex := 5, descriptorIndex := 6, attributes := #[] }, { accessFlags := 8, nameIndex := 68, descriptorIndex := 19, attributes := #[] }] 48 2 #[] #[{ accessFlags := 24, nameIndex := 39, descriptorIndex := 40, attributes := #[] }, { accessFlags := 24, nameIndex := 44, descriptorIndex := 40, attributes := #[] }, { accessFlags := 24, nameIndex := 47, descriptorIndex := 48, attributes := #[] }, { accessFlags := 24, nameIndex := 50, descriptorIndex := 40, attributes := #[] }, { accessFlags := 24, nameIndex := 51, descriptorIndex := 40, attributes := #[] }, { accessFlags := 24, nameIndex := 52, descriptorIndex := 40, attributes := #[] }, { accessFlags := 24, nameIndex := 55, descriptorIndex := 48, attributes := #[] }, { accessFlags := 24, nameIndex := 57, descriptorIndex := 40, attributes := #[] }, { accessFlags := 24, nameIndex := 60, descriptorIndex := 40, attributes := #[] }, { accessFlags := 24, nameIndex := 63, descriptorIndex := 40, attributes := #[] }])
  fields := #[{ name := "TAGS_DIR", type := (.object "java/lang/String"), accessFlags := 24, slot := 0, constantValue := 0 }, { name := "MANIFEST", type := (.object "java/lang/String"), accessFlags := 24, slot := 1, constantValue := 0 }, { name := "FORMAT", type := .int, accessFlags := 24, slot := 2, constantValue := 0 }, { name := "DATA_PREFIX", type := (.object "java/lang/String"), accessFlags := 24, slot := 3, constantValue := 0 }, { name := "DATA_SUFFIX", type := (.object "java/lang/String"), accessFlags := 24, slot := 4, constantValue := 0 }, { name := "TAGS_SUFFIX", type := (.object "java/lang/String"), accessFlags := 24, slot := 5, constantValue := 0 }, { name := "NUMBERED", type := .int, accessFlags := 24, slot := 6, constantValue := 0 }, { name := "SETS", type := (.object "java/lang/String"), accessFlags := 24, slot := 7, constantValue := 0 }, { name := "SETS_SUFFIX", type := (.object "java/lang/String"), accessFlags := 24, slot := 8, constantValue := 0 }, { name := "INDEX_SUFFIX", type := (.object "java/lang/String"), accessFlags := 24, slot := 9, constantValue := 0 }]
  methods := #[k8m0, k8m1]
  instanceTypes := #[]
  staticTypes := #[(.object "java/lang/String"), (.object "java/lang/String"), .int, (.object "java/lang/String"), (.object "java/lang/String"), (.object "java/lang/String"), .int, (.object "java/lang/String"), (.object "java/lang/String"), (.object "java/lang/String")]
  resolved := Array.replicate 94 none
  statics := none }

def pool9 : Array CpInfo := pool [(6, .class_ 8), (1, u "java/lang/Object"), (0, u "<init>"), (0, u "()V"), (0, .methodref 12 13), (0, .class_ 14), (0, .nameAndType 15 16), (0, u "java/lang/StringUTF16"), (0, u "newBytesLength"), (0, u "(I)I"), (3, .integer 1073741823), (23, .fieldref 12 45), (0, .nameAndType 46 47), (0, u "$assertionsDisabled"), (0, u "Z"), (11, .fieldref 12 60), (0, .nameAndType 61 62), (0, u "HI_BYTE_SHIFT"), (0, u "I"), (0, .fieldref 12 64), (0, .nameAndType 65 62), (0, u "LO_BYTE_SHIFT"), (5, .methodref 12 72), (0, .nameAndType 73 74), (0, u "getChar"), (0, u "([BI)C"), (32, .methodref 12 108), (0, .nameAndType 109 110), (0, u "newBytesFor"), (0, u "(I)[B"), (0, .methodref 12 112), (0, .nameAndType 113 114), (0, u "putChar"), (0, u "([BII)V"), (0, .methodref 12 116), (0, .nameAndType 117 118), (0, u "compress"), (0, u "([CI[BII)I"), (0, .methodref 12 120), (0, .nameAndType 121 122), (0, u "toBytes"), (0, u "([CII)[B"), (138, u "coderFromArrayLen"), (0, u "([BI)B"), (106, .class_ 371), (1, u "java/lang/StringUTF16$LinesSpliterator"), (58, u "MAX_LENGTH"), (196, .class_ 628), (0, u "java/lang/StringUTF16$CodePointsSpliterator"), (0, .class_ 630), (0, u "java/lang/StringUTF16$CharsSpliterator")] 4

def k9m0 : Method := { name := "<init>", desc := "()V", sig := { parameters := [], returnType := none }, accessFlags := 0, code := none }
def k9c1 : Code := { maxStack := 1, maxLocals := 1, code := jdk_52_method_2_code, exceptionTable := #[], attributes := #[] }
def k9m1 : Method := { name := "newBytesFor", desc := "(I)[B", sig := { parameters := [.int], returnType := some (.array .byte) }, accessFlags := 9, code := some k9c1 }
def k9c2 : Code := { maxStack := 4, maxLocals := 1, code := jdk_52_method_3_code, exceptionTable := #[], attributes := #[] }
def k9m2 : Method := { name := "newBytesLength", desc := "(I)I", sig := { parameters := [.int], returnType := some .int }, accessFlags := 9, code := some k9c2 }
def k9c3 : Code := { maxStack := 4, maxLocals := 3, code := jdk_52_method_4_code, exceptionTable := #[], attributes := #[] }
def k9m3 : Method := { name := "putChar", desc := "([BII)V", sig := { parameters := [(.array .byte), .int, .int], returnType := none }, accessFlags := 8, code := some k9c3 }
def k9c4 : Code := { maxStack := 3, maxLocals := 2, code := jdk_52_method_5_code, exceptionTable := #[], attributes := #[] }
def k9m4 : Method := { name := "getChar", desc := "([BI)C", sig := { parameters := [(.array .byte), .int], returnType := some .char }, accessFlags := 8, code := some k9c4 }
def k9c5 : Code := { maxStack := 4, maxLocals := 5, code := jdk_52_method_14_code, exceptionTable := #[], attributes := #[] }
def k9m5 : Method := { name := "toBytes", desc := "([CII)[B", sig := { parameters := [(.array .char), .int, .int], returnType := some (.array .byte) }, accessFlags := 9, code := some k9c5 }
def k9c6 : Code := { maxStack := 2, maxLocals := 2, code := jdk_52_method_15_code, exceptionTable := #[], attributes := #[] }
def k9m6 : Method := { name := "coderFromArrayLen", desc := "([BI)B", sig := { parameters := [(.array .byte), .int], returnType := some .byte }, accessFlags := 8, code := some k9c6 }
def k9c7 : Code := { maxStack := 5, maxLocals := 6, code := jdk_52_method_16_code, exceptionTable := #[], attributes := #[] }
def k9m7 : Method := { name := "compress", desc := "([CII)[B", sig := { parameters := [(.array .char), .int, .int], returnType := some (.array .byte) }, accessFlags := 9, code := some k9c7 }
def k9c8 : Code := { maxStack := 3, maxLocals := 7, code := jdk_52_method_21_code, exceptionTable := #[], attributes := #[] }
def k9m8 : Method := { name := "compress", desc := "([CI[BII)I", sig := { parameters := [(.array .char), .int, (.array .byte), .int, .int], returnType := some .int }, accessFlags := 9, code := some k9c8 }
/-- java/lang/StringUTF16 -/
def k9 : Class := { plain "java/lang/StringUTF16" (some 0) with
  accessFlags := 48
  interfaces := #[]
  cf := some (fileOf pool9 12 #[.nestMembers #[627, 629, 369]] #[{ accessFlags := 0, nameIndex := 9, descriptorIndex := 10, attributes := #[] }, { accessFlags := 9, nameIndex := 109, descriptorIndex := 110, attributes := #[] }, { accessFlags := 9, nameIndex := 15, descriptorIndex := 16, attributes := #[] }, { accessFlags := 8, nameIndex := 113, descriptorIndex := 114, attributes := #[] }, { accessFlags := 8, nameIndex := 73, descriptorIndex := 74, attributes := #[] }, { accessFlags := 9, nameIndex := 121, descriptorIndex := 122, attributes := #[] }, { accessFlags := 8, nameIndex := 261, descriptorIndex := 262, attributes := #[] }, { accessFlags := 9, nameIndex := 117, descriptorIndex := 122, attributes := #[] }, { accessFlags := 9, nameIndex := 117, descriptorIndex := 118, attributes := #[] }] 48 6 #[] #[{ accessFlags := 26, nameIndex := 61, descriptorIndex := 62, attributes := #[] }, { accessFlags := 26, nameIndex := 65, descriptorIndex := 62, attributes := #[] }, { accessFlags := 24, nameIndex := 430, descriptorIndex := 62, attributes := #[] }, { accessFlags := 4120, nameIndex := 46, descriptorIndex := 47, attributes := #[] }])
  fields := #[{ name := "HI_BYTE_SHIFT", type := .int, accessFlags := 26, slot := 0, constantValue := 0 }, { name := "LO_BYTE_SHIFT", type := .int, accessFlags := 26, slot := 1, constantValue := 0 }, { name := "MAX_LENGTH", type := .int, accessFlags := 24, slot := 2, constantValue := 0 }, { name := "$assertionsDisabled", type := .boolean, accessFlags := 4120, slot := 3, constantValue := 0 }]
  methods := #[k9m0, k9m1, k9m2, k9m3, k9m4, k9m5, k9m6, k9m7, k9m8]
  instanceTypes := #[]
  staticTypes := #[.int, .int, .int, .boolean]
  resolved := Array.replicate 635 none
  statics := some 1 }

def pool10 : Array CpInfo := pool [(1, .class_ 2), (0, u "java/lang/String"), (1, .class_ 6), (1, u "java/lang/Object"), (0, u "<init>"), (0, u "()V"), (0, .methodref 1 10), (0, .nameAndType 11 12), (0, u "checkIndex"), (0, u "(II)V"), (1, .class_ 16), (1, u "java/lang/StringLatin1"), (36, u "([BI)C"), (67, u "$assertionsDisabled"), (0, u "Z"), (98, .class_ 223), (1, u "java/lang/StringLatin1$LinesSpliterator"), (28, u "charAt"), (137, .class_ 391), (0, u "java/lang/StringLatin1$CharsSpliterator")] 3

def k10m0 : Method := { name := "<init>", desc := "()V", sig := { parameters := [], returnType := none }, accessFlags := 0, code := none }
def k10c1 : Code := { maxStack := 2, maxLocals := 2, code := jdk_43_method_2_code, exceptionTable := #[], attributes := #[] }
def k10m1 : Method := { name := "charAt", desc := "([BI)C", sig := { parameters := [(.array .byte), .int], returnType := some .char }, accessFlags := 9, code := some k10c1 }
/-- java/lang/StringLatin1 -/
def k10 : Class := { plain "java/lang/StringLatin1" (some 0) with
  accessFlags := 48
  interfaces := #[]
  cf := some (fileOf pool10 14 #[.nestMembers #[390, 221]] #[{ accessFlags := 0, nameIndex := 7, descriptorIndex := 8, attributes := #[] }, { accessFlags := 9, nameIndex := 252, descriptorIndex := 53, attributes := #[] }] 48 4 #[] #[{ accessFlags := 4120, nameIndex := 121, descriptorIndex := 122, attributes := #[] }])
  fields := #[{ name := "$assertionsDisabled", type := .boolean, accessFlags := 4120, slot := 0, constantValue := 0 }]
  methods := #[k10m0, k10m1]
  instanceTypes := #[]
  staticTypes := #[.boolean]
  resolved := Array.replicate 395 none
  statics := none }

def pool11 : Array CpInfo := pool [(2, .class_ 4), (1, u "java/lang/Object"), (0, u "<init>"), (0, u "()V"), (17, .class_ 26), (1, u "jdk/internal/util/Preconditions"), (6, u "checkIndex"), (21, .class_ 56), (0, u "jdk/internal/util/Preconditions$4"), (57, .class_ 115), (0, u "jdk/internal/util/Preconditions$1"), (7, u "SIOOBE_FORMATTER"), (0, u "Ljava/util/function/BiFunction;"), (0, .class_ 126), (0, u "jdk/internal/util/Preconditions$2"), (3, u "AIOOBE_FORMATTER"), (0, .class_ 132), (0, u "jdk/internal/util/Preconditions$3"), (3, u "IOOBE_FORMATTER"), (41, u "(IILjava/util/function/BiFunction;)I")] 15

def k11m0 : Method := { name := "<init>", desc := "()V", sig := { parameters := [], returnType := none }, accessFlags := 1, code := none }
def k11c1 : Code := { maxStack := 3, maxLocals := 3, code := jdk_41_method_11_code, exceptionTable := #[], attributes := #[] }
def k11m1 : Method := { name := "checkIndex", desc := "(IILjava/util/function/BiFunction;)I", sig := { parameters := [.int, .int, (.object "java/util/function/BiFunction")], returnType := some .int }, accessFlags := 9, code := some k11c1 }
/-- jdk/internal/util/Preconditions -/
def k11 : Class := { plain "jdk/internal/util/Preconditions" (some 0) with
  accessFlags := 33
  interfaces := #[]
  cf := some (fileOf pool11 24 #[.nestMembers #[55, 131, 125, 114]] #[{ accessFlags := 1, nameIndex := 5, descriptorIndex := 6, attributes := #[] }, { accessFlags := 9, nameIndex := 33, descriptorIndex := 178, attributes := #[] }] 33 2 #[] #[{ accessFlags := 25, nameIndex := 123, descriptorIndex := 124, attributes := #[] }, { accessFlags := 25, nameIndex := 130, descriptorIndex := 124, attributes := #[] }, { accessFlags := 25, nameIndex := 136, descriptorIndex := 124, attributes := #[] }])
  fields := #[{ name := "SIOOBE_FORMATTER", type := (.object "java/util/function/BiFunction"), accessFlags := 25, slot := 0, constantValue := 0 }, { name := "AIOOBE_FORMATTER", type := (.object "java/util/function/BiFunction"), accessFlags := 25, slot := 1, constantValue := 0 }, { name := "IOOBE_FORMATTER", type := (.object "java/util/function/BiFunction"), accessFlags := 25, slot := 2, constantValue := 0 }]
  methods := #[k11m0, k11m1]
  instanceTypes := #[]
  staticTypes := #[(.object "java/util/function/BiFunction"), (.object "java/util/function/BiFunction"), (.object "java/util/function/BiFunction")]
  resolved := Array.replicate 194 none
  statics := some 2 }

def pool12 : Array CpInfo := pool [(9, u "<init>"), (6, .class_ 18), (1, u "java/lang/Object"), (0, u "()V"), (1, .class_ 23), (1, u "jdk/internal/util/ArraysSupport"), (0, u "LOG2_ARRAY_LONG_INDEX_SCALE"), (0, u "I"), (2, u "U"), (0, u "Ljdk/internal/misc/Unsafe;"), (8, u "BIG_ENDIAN"), (0, u "Z"), (8, u "LOG2_BYTE_BIT_SIZE"), (4, u "LOG2_ARRAY_INT_INDEX_SCALE"), (54, u "JLA"), (0, u "Ljdk/internal/access/JavaLangAccess;"), (11, u "LOG2_ARRAY_BOOLEAN_INDEX_SCALE"), (9, u "LOG2_ARRAY_BYTE_INDEX_SCALE"), (5, u "LOG2_ARRAY_CHAR_INDEX_SCALE"), (5, u "LOG2_ARRAY_SHORT_INDEX_SCALE"), (5, u "mismatch"), (12, u "LOG2_ARRAY_FLOAT_INDEX_SCALE"), (24, u "LOG2_ARRAY_DOUBLE_INDEX_SCALE"), (89, u "T_BOOLEAN"), (2, u "T_CHAR"), (1, u "T_FLOAT"), (1, u "T_DOUBLE"), (1, u "T_BYTE"), (1, u "T_SHORT"), (1, u "T_INT"), (1, u "T_LONG"), (1, u "SOFT_MAX_ARRAY_LENGTH"), (42, u "([BI[BII)I")] 40

def k12m0 : Method := { name := "<init>", desc := "()V", sig := { parameters := [], returnType := none }, accessFlags := 2, code := none }
def k12c1 : Code := { maxStack := 8, maxLocals := 8, code := jdk_48_method_14_code, exceptionTable := #[], attributes := #[] }
def k12m1 : Method := { name := "mismatch", desc := "([BI[BII)I", sig := { parameters := [(.array .byte), .int, (.array .byte), .int, .int], returnType := some .int }, accessFlags := 9, code := some k12c1 }
/-- jdk/internal/util/ArraysSupport -/
def k12 : Class := { plain "jdk/internal/util/ArraysSupport" (some 0) with
  accessFlags := 33
  interfaces := #[]
  cf := some (fileOf pool12 21 #[] #[{ accessFlags := 2, nameIndex := 9, descriptorIndex := 19, attributes := #[] }, { accessFlags := 9, nameIndex := 149, descriptorIndex := 337, attributes := #[] }] 33 16 #[] #[{ accessFlags := 24, nameIndex := 28, descriptorIndex := 29, attributes := #[] }, { accessFlags := 26, nameIndex := 38, descriptorIndex := 39, attributes := #[] }, { accessFlags := 25, nameIndex := 121, descriptorIndex := 25, attributes := #[] }, { accessFlags := 25, nameIndex := 131, descriptorIndex := 25, attributes := #[] }, { accessFlags := 25, nameIndex := 137, descriptorIndex := 25, attributes := #[] }, { accessFlags := 25, nameIndex := 143, descriptorIndex := 25, attributes := #[] }, { accessFlags := 25, nameIndex := 53, descriptorIndex := 25, attributes := #[] }, { accessFlags := 25, nameIndex := 24, descriptorIndex := 25, attributes := #[] }, { accessFlags := 25, nameIndex := 162, descriptorIndex := 25, attributes := #[] }, { accessFlags := 25, nameIndex := 187, descriptorIndex := 25, attributes := #[] }, { accessFlags := 26, nameIndex := 48, descriptorIndex := 25, attributes := #[] }, { accessFlags := 25, nameIndex := 277, descriptorIndex := 25, attributes := #[] }, { accessFlags := 25, nameIndex := 280, descriptorIndex := 25, attributes := #[] }, { accessFlags := 25, nameIndex := 282, descriptorIndex := 25, attributes := #[] }, { accessFlags := 25, nameIndex := 284, descriptorIndex := 25, attributes := #[] }, { accessFlags := 25, nameIndex := 286, descriptorIndex := 25, attributes := #[] }, { accessFlags := 25, nameIndex := 288, descriptorIndex := 25, attributes := #[] }, { accessFlags := 25, nameIndex := 290, descriptorIndex := 25, attributes := #[] }, { accessFlags := 25, nameIndex := 292, descriptorIndex := 25, attributes := #[] }, { accessFlags := 26, nameIndex := 108, descriptorIndex := 109, attributes := #[] }, { accessFlags := 25, nameIndex := 294, descriptorIndex := 25, attributes := #[] }])
  fields := #[{ name := "U", type := (.object "jdk/internal/misc/Unsafe"), accessFlags := 24, slot := 0, constantValue := 0 }, { name := "BIG_ENDIAN", type := .boolean, accessFlags := 26, slot := 1, constantValue := 0 }, { name := "LOG2_ARRAY_BOOLEAN_INDEX_SCALE", type := .int, accessFlags := 25, slot := 2, constantValue := 0 }, { name := "LOG2_ARRAY_BYTE_INDEX_SCALE", type := .int, accessFlags := 25, slot := 3, constantValue := 0 }, { name := "LOG2_ARRAY_CHAR_INDEX_SCALE", type := .int, accessFlags := 25, slot := 4, constantValue := 0 }, { name := "LOG2_ARRAY_SHORT_INDEX_SCALE", type := .int, accessFlags := 25, slot := 5, constantValue := 0 }, { name := "LOG2_ARRAY_INT_INDEX_SCALE", type := .int, accessFlags := 25, slot := 6, constantValue := 0 }, { name := "LOG2_ARRAY_LONG_INDEX_SCALE", type := .int, accessFlags := 25, slot := 7, constantValue := 0 }, { name := "LOG2_ARRAY_FLOAT_INDEX_SCALE", type := .int, accessFlags := 25, slot := 8, constantValue := 0 }, { name := "LOG2_ARRAY_DOUBLE_INDEX_SCALE", type := .int, accessFlags := 25, slot := 9, constantValue := 0 }, { name := "LOG2_BYTE_BIT_SIZE", type := .int, accessFlags := 26, slot := 10, constantValue := 0 }, { name := "T_BOOLEAN", type := .int, accessFlags := 25, slot := 11, constantValue := 0 }, { name := "T_CHAR", type := .int, accessFlags := 25, slot := 12, constantValue := 0 }, { name := "T_FLOAT", type := .int, accessFlags := 25, slot := 13, constantValue := 0 }, { name := "T_DOUBLE", type := .int, accessFlags := 25, slot := 14, constantValue := 0 }, { name := "T_BYTE", type := .int, accessFlags := 25, slot := 15, constantValue := 0 }, { name := "T_SHORT", type := .int, accessFlags := 25, slot := 16, constantValue := 0 }, { name := "T_INT", type := .int, accessFlags := 25, slot := 17, constantValue := 0 }, { name := "T_LONG", type := .int, accessFlags := 25, slot := 18, constantValue := 0 }, { name := "JLA", type := (.object "jdk/internal/access/JavaLangAccess"), accessFlags := 26, slot := 19, constantValue := 0 }, { name := "SOFT_MAX_ARRAY_LENGTH", type := .int, accessFlags := 25, slot := 20, constantValue := 0 }]
  methods := #[k12m0, k12m1]
  instanceTypes := #[]
  staticTypes := #[(.object "jdk/internal/misc/Unsafe"), .boolean, .int, .int, .int, .int, .int, .int, .int, .int, .int, .int, .int, .int, .int, .int, .int, .int, .int, (.object "jdk/internal/access/JavaLangAccess"), .int]
  resolved := Array.replicate 378 none
  statics := none }

def pool13 : Array CpInfo := pool [(1, u "java/lang/Cloneable"), (0, .class_ 1), (0, u "java/lang/Object"), (0, .class_ 3)] 3

/-- java/lang/Cloneable -/
def k13 : Class := { plain "java/lang/Cloneable" (some 0) with
  accessFlags := 1537
  interfaces := #[]
  cf := some (fileOf pool13 2 #[] #[] 1537 4 #[] #[])
  fields := #[]
  methods := #[]
  instanceTypes := #[]
  staticTypes := #[]
  resolved := Array.replicate 8 none
  statics := none }

/-- the primitive byte -/
def k14 : Class := { plain "byte" none with kind := .primitive 'B', accessFlags := 0x411 }
/-- [B -/
def k15 : Class := { plain "[B" (some 0) with kind := .array 14 .byte, interfaces := #[13, 2], accessFlags := 1041 }

/-- the primitive char -/
def k16 : Class := { plain "char" none with kind := .primitive 'C', accessFlags := 0x411 }
/-- [C -/
def k17 : Class := { plain "[C" (some 0) with kind := .array 16 .char, interfaces := #[13, 2], accessFlags := 1041 }

/-- the primitive int -/
def k18 : Class := { plain "int" none with kind := .primitive 'I', accessFlags := 0x411 }
/-- [I -/
def k19 : Class := { plain "[I" (some 0) with kind := .array 18 .int, interfaces := #[13, 2], accessFlags := 1041 }

def heap : Heap := #[{ cls := 7, slots := #[.long 0, .int 1, .null, .int 0, .null, .int 0, .int 0], vm := .statics 7 },
  { cls := 9, slots := #[.int 0, .int 8, .int 0, .int 1], vm := .statics 9 },
  { cls := 11, slots := #[.null, .null, .null], vm := .statics 11 }]
def classes : Array Class := #[k0, k1, k2, k3, k4, k5, k6, k7, k8, k9, k10, k11, k12, k13, k14, k15, k16, k17, k18, k19]
def interned : List (Array UInt16 × Addr) := []
def slotsUsed : Nat := 14
def theMethod : MethodId := ⟨1, 3⟩
def args0 : Array Value := #[.long 5, .long 5, .int 5, .int 5, .int 5]
def aboutOver (below : List Frame) : State where
  vm := { classes := classes, interned := interned.toArray }
  heap := heap
  slotsUsed := slotsUsed
  threads := #[{ frames := .invoking theMethod args0 :: below }]
def below0 : List Frame := [.native { method := ⟨0, 0⟩, args := #[] }]
def about1 : State := aboutOver below0
def p0 : Program := .bare "" "" ""
def e0 : Env := launch0.env 0 0 0
theorem w_frames : about1.frames = Frame.invoking theMethod args0 :: below0 := rfl
set_option maxRecDepth 65536 in
theorem w_args : argsFit about1.vm theMethod args0 = true := by decide +kernel
set_option maxRecDepth 65536 in
theorem w_heap : heapFits about1 = true := by decide +kernel
set_option maxRecDepth 65536 in
theorem w_runnable : about1.curStatus? = some .runnable := by decide +kernel
set_option maxRecDepth 65536 in
theorem w_alone : about1.alone = true := by decide +kernel
set_option maxRecDepth 65536 in
theorem w_named : about1.methodNamed? x = some theMethod := by decide +kernel
set_option maxRecDepth 65536 in
theorem w_hears : about1.hears theMethod below0 = true := by decide +kernel
set_option maxRecDepth 65536 in
theorem w_ripe : about1.ripe theMethod args0 below0 = true := by decide +kernel
theorem w_running : about1.status = .running := rfl
set_option maxRecDepth 65536 in
theorem w_room : about1.hasRoom e0.platform room_1 = true :=
  launch0.hasRoom_least _ room_1 (by decide +kernel) (by decide +kernel) (by decide +kernel) (by decide +kernel) (by decide +kernel) (by decide +kernel)
theorem allAtoms_all (ts : List Jvm.Cond) (a : Array Jvm.Value) (st : Jvm.State) : (allAtoms ts).before a st = ts.all (fun c => c.before a st) := by
  induction ts with
  | nil => rfl
  | cons c t ih =>
    show (Jvm.Cond.and c (allAtoms t)).before a st = _
    rw [Jvm.Cond.before_and, ih, List.all_cons]
def words1 : List Jvm.Cond := Jvm.Cond.code x code maxLocals ret :: tables_1
/-- a 'code' word, met by the world's own term for the bytes: nothing is compared byte by byte -/
theorem code_word {y : MethodName} {bytes : ByteArray} {mx : Nat} {rt : Option FieldType} {a : Array Value} {s : State} {m : MethodId} {meth : Method} {c : Code} (h1 : s.methodNamed? y = some m) (h2 : s.vm.method? m = some meth) (h3 : meth.code = some c) (h4 : c.code = bytes)
    (h5 : (c.maxLocals == mx && c.exceptionTable.isEmpty && decide (c.maxStack ≤ mostOperands) && decide (meth.sig.returnType = rt) && !meth.locks && decide (parseMethodDescriptor y.desc = some meth.sig)) = true) : (Jvm.Cond.code y bytes mx rt).before a s = true := by
  simp only [Bool.and_eq_true, beq_iff_eq, Bool.not_eq_true', decide_eq_true_eq] at h5
  obtain ⟨⟨⟨⟨⟨g1, g2⟩, g3⟩, g4⟩, g5⟩, g6⟩ := h5
  simp [Cond.before, Cond.holds, Cond.value, h1, h2, h3, h4, g1, g2, g3, g4, g5, g6]
def isCode : Jvm.Cond → Bool
  | .code _ _ _ _ => true
  | _ => false
theorem all_split {L : List Jvm.Cond} {P : Jvm.Cond → Bool} (h1 : L.all (fun c => isCode c || P c) = true) (h2 : ∀ c ∈ L.filter isCode, P c = true) : L.all P = true := by
  refine List.all_eq_true.mpr fun c hc => ?_
  have h := List.all_eq_true.mp h1 c hc
  rcases Bool.eq_false_or_eq_true (isCode c) with hi | hi
  · exact h2 c (List.mem_filter.mpr ⟨hc, hi⟩)
  · simpa [hi] using h
set_option maxRecDepth 65536 in
theorem w_c0 : (Jvm.Cond.code x code maxLocals ret).before args0 about1 = true := code_word (m := ⟨1, 3⟩) (meth := k1m3) (c := k1c3) (by decide +kernel) rfl rfl rfl (by decide +kernel)
set_option maxRecDepth 65536 in
theorem w_c1 : (Jvm.Cond.code ({ cls := "io/dyeline/store/LayoutIsDataFilePinLaw", name := "put", desc := "([CIZZJJ)V" } : Jvm.MethodName) method_3_code (10 : Nat) (Option.none : Option Jvm.ClassFile.FieldType)).before args0 about1 = true := code_word (m := ⟨1, 2⟩) (meth := k1m2) (c := k1c2) (by decide +kernel) rfl rfl rfl (by decide +kernel)
set_option maxRecDepth 65536 in
theorem w_c2 : (Jvm.Cond.code ({ cls := "java/lang/String", name := "<init>", desc := "([C)V" } : Jvm.MethodName) jdk_42_method_3_code (2 : Nat) (Option.none : Option Jvm.ClassFile.FieldType)).before args0 about1 = true := code_word (m := ⟨7, 1⟩) (meth := k7m1) (c := k7c1) (by decide +kernel) rfl rfl rfl (by decide +kernel)
set_option maxRecDepth 65536 in
theorem w_c3 : (Jvm.Cond.code ({ cls := "java/lang/String", name := "<init>", desc := "([CIILjava/lang/Void;)V" } : Jvm.MethodName) jdk_42_method_149_code (6 : Nat) (Option.none : Option Jvm.ClassFile.FieldType)).before args0 about1 = true := code_word (m := ⟨7, 7⟩) (meth := k7m7) (c := k7c7) (by decide +kernel) rfl rfl rfl (by decide +kernel)
set_option maxRecDepth 65536 in
theorem w_c4 : (Jvm.Cond.code ({ cls := "java/lang/Object", name := "<init>", desc := "()V" } : Jvm.MethodName) object_method_1_code (1 : Nat) (Option.none : Option Jvm.ClassFile.FieldType)).before args0 about1 = true := code_word (m := ⟨0, 0⟩) (meth := k0m0) (c := k0c0) (by decide +kernel) rfl rfl rfl (by decide +kernel)
set_option maxRecDepth 65536 in
theorem w_c5 : (Jvm.Cond.code ({ cls := "io/dyeline/store/Layout", name := "isDataFile", desc := "(Ljava/lang/String;)Z" } : Jvm.MethodName) prog_8_method_2_code (1 : Nat) (Option.some Jvm.ClassFile.FieldType.boolean)).before args0 about1 = true := code_word (m := ⟨8, 1⟩) (meth := k8m1) (c := k8c1) (by decide +kernel) rfl rfl rfl (by decide +kernel)
set_option maxRecDepth 65536 in
theorem w_c6 : (Jvm.Cond.code ({ cls := "java/lang/String", name := "startsWith", desc := "(Ljava/lang/String;)Z" } : Jvm.MethodName) jdk_42_method_76_code (2 : Nat) (Option.some Jvm.ClassFile.FieldType.boolean)).before args0 about1 = true := code_word (m := ⟨7, 5⟩) (meth := k7m5) (c := k7c5) (by decide +kernel) rfl rfl rfl (by decide +kernel)
set_option maxRecDepth 65536 in
theorem w_c7 : (Jvm.Cond.code ({ cls := "java/lang/String", name := "startsWith", desc := "(Ljava/lang/String;I)Z" } : Jvm.MethodName) jdk_42_method_75_code (8 : Nat) (Option.some Jvm.ClassFile.FieldType.boolean)).before args0 about1 = true := code_word (m := ⟨7, 4⟩) (meth := k7m4) (c := k7c4) (by decide +kernel) rfl rfl rfl (by decide +kernel)
set_option maxRecDepth 65536 in
theorem w_c8 : (Jvm.Cond.code ({ cls := "java/lang/String", name := "length", desc := "()I" } : Jvm.MethodName) jdk_42_method_54_code (1 : Nat) (Option.some Jvm.ClassFile.FieldType.int)).before args0 about1 = true := code_word (m := ⟨7, 2⟩) (meth := k7m2) (c := k7c2) (by decide +kernel) rfl rfl rfl (by decide +kernel)
set_option maxRecDepth 65536 in
theorem w_c9 : (Jvm.Cond.code ({ cls := "java/lang/String", name := "coder", desc := "()B" } : Jvm.MethodName) jdk_42_method_152_code (1 : Nat) (Option.some Jvm.ClassFile.FieldType.byte)).before args0 about1 = true := code_word (m := ⟨7, 8⟩) (meth := k7m8) (c := k7c8) (by decide +kernel) rfl rfl rfl (by decide +kernel)
set_option maxRecDepth 65536 in
theorem w_c10 : (Jvm.Cond.code ({ cls := "io/dyeline/store/LayoutIsDataFilePinLaw", name := "drawn", desc := "(JJI)C" } : Jvm.MethodName) method_2_code (7 : Nat) (Option.some Jvm.ClassFile.FieldType.char)).before args0 about1 = true := code_word (m := ⟨1, 1⟩) (meth := k1m1) (c := k1c1) (by decide +kernel) rfl rfl rfl (by decide +kernel)
set_option maxRecDepth 65536 in
theorem w_c11 : (Jvm.Cond.code ({ cls := "java/lang/StringUTF16", name := "compress", desc := "([CII)[B" } : Jvm.MethodName) jdk_52_method_16_code (6 : Nat) (Option.some (Jvm.ClassFile.FieldType.array Jvm.ClassFile.FieldType.byte))).before args0 about1 = true := code_word (m := ⟨9, 7⟩) (meth := k9m7) (c := k9c7) (by decide +kernel) rfl rfl rfl (by decide +kernel)
set_option maxRecDepth 65536 in
theorem w_c12 : (Jvm.Cond.code ({ cls := "java/lang/StringUTF16", name := "compress", desc := "([CI[BII)I" } : Jvm.MethodName) jdk_52_method_21_code (7 : Nat) (Option.some Jvm.ClassFile.FieldType.int)).before args0 about1 = true := code_word (m := ⟨9, 8⟩) (meth := k9m8) (c := k9c8) (by decide +kernel) rfl rfl rfl (by decide +kernel)
set_option maxRecDepth 65536 in
theorem w_c13 : (Jvm.Cond.code ({ cls := "java/lang/StringUTF16", name := "coderFromArrayLen", desc := "([BI)B" } : Jvm.MethodName) jdk_52_method_15_code (2 : Nat) (Option.some Jvm.ClassFile.FieldType.byte)).before args0 about1 = true := code_word (m := ⟨9, 6⟩) (meth := k9m6) (c := k9c6) (by decide +kernel) rfl rfl rfl (by decide +kernel)
set_option maxRecDepth 65536 in
theorem w_c14 : (Jvm.Cond.code ({ cls := "java/lang/String", name := "charAt", desc := "(I)C" } : Jvm.MethodName) jdk_42_method_56_code (2 : Nat) (Option.some Jvm.ClassFile.FieldType.char)).before args0 about1 = true := code_word (m := ⟨7, 3⟩) (meth := k7m3) (c := k7c3) (by decide +kernel) rfl rfl rfl (by decide +kernel)
set_option maxRecDepth 65536 in
theorem w_c15 : (Jvm.Cond.code ({ cls := "java/lang/String", name := "isLatin1", desc := "()Z" } : Jvm.MethodName) jdk_42_method_154_code (1 : Nat) (Option.some Jvm.ClassFile.FieldType.boolean)).before args0 about1 = true := code_word (m := ⟨7, 9⟩) (meth := k7m9) (c := k7c9) (by decide +kernel) rfl rfl rfl (by decide +kernel)
set_option maxRecDepth 65536 in
theorem w_c16 : (Jvm.Cond.code ({ cls := "java/lang/StringLatin1", name := "charAt", desc := "([BI)C" } : Jvm.MethodName) jdk_43_method_2_code (2 : Nat) (Option.some Jvm.ClassFile.FieldType.char)).before args0 about1 = true := code_word (m := ⟨10, 1⟩) (meth := k10m1) (c := k10c1) (by decide +kernel) rfl rfl rfl (by decide +kernel)
set_option maxRecDepth 65536 in
theorem w_c17 : (Jvm.Cond.code ({ cls := "java/lang/String", name := "checkIndex", desc := "(II)V" } : Jvm.MethodName) jdk_42_method_155_code (2 : Nat) (Option.none : Option Jvm.ClassFile.FieldType)).before args0 about1 = true := code_word (m := ⟨7, 10⟩) (meth := k7m10) (c := k7c10) (by decide +kernel) rfl rfl rfl (by decide +kernel)
set_option maxRecDepth 65536 in
theorem w_c18 : (Jvm.Cond.code ({ cls := "jdk/internal/util/Preconditions", name := "checkIndex", desc := "(IILjava/util/function/BiFunction;)I" } : Jvm.MethodName) jdk_41_method_11_code (3 : Nat) (Option.some Jvm.ClassFile.FieldType.int)).before args0 about1 = true := code_word (m := ⟨11, 1⟩) (meth := k11m1) (c := k11c1) (by decide +kernel) rfl rfl rfl (by decide +kernel)
set_option maxRecDepth 65536 in
theorem w_c19 : (Jvm.Cond.code ({ cls := "jdk/internal/util/ArraysSupport", name := "mismatch", desc := "([BI[BII)I" } : Jvm.MethodName) jdk_48_method_14_code (8 : Nat) (Option.some Jvm.ClassFile.FieldType.int)).before args0 about1 = true := code_word (m := ⟨12, 1⟩) (meth := k12m1) (c := k12c1) (by decide +kernel) rfl rfl rfl (by decide +kernel)
set_option maxRecDepth 65536 in
theorem w_c20 : (Jvm.Cond.code ({ cls := "java/lang/String", name := "endsWith", desc := "(Ljava/lang/String;)Z" } : Jvm.MethodName) jdk_42_method_77_code (2 : Nat) (Option.some Jvm.ClassFile.FieldType.boolean)).before args0 about1 = true := code_word (m := ⟨7, 6⟩) (meth := k7m6) (c := k7c6) (by decide +kernel) rfl rfl rfl (by decide +kernel)
set_option maxRecDepth 65536 in
theorem w_c21 : (Jvm.Cond.code ({ cls := "java/lang/StringUTF16", name := "toBytes", desc := "([CII)[B" } : Jvm.MethodName) jdk_52_method_14_code (5 : Nat) (Option.some (Jvm.ClassFile.FieldType.array Jvm.ClassFile.FieldType.byte))).before args0 about1 = true := code_word (m := ⟨9, 5⟩) (meth := k9m5) (c := k9c5) (by decide +kernel) rfl rfl rfl (by decide +kernel)
set_option maxRecDepth 65536 in
theorem w_c22 : (Jvm.Cond.code ({ cls := "java/lang/StringUTF16", name := "newBytesFor", desc := "(I)[B" } : Jvm.MethodName) jdk_52_method_2_code (1 : Nat) (Option.some (Jvm.ClassFile.FieldType.array Jvm.ClassFile.FieldType.byte))).before args0 about1 = true := code_word (m := ⟨9, 1⟩) (meth := k9m1) (c := k9c1) (by decide +kernel) rfl rfl rfl (by decide +kernel)
set_option maxRecDepth 65536 in
theorem w_c23 : (Jvm.Cond.code ({ cls := "java/lang/StringUTF16", name := "newBytesLength", desc := "(I)I" } : Jvm.MethodName) jdk_52_method_3_code (1 : Nat) (Option.some Jvm.ClassFile.FieldType.int)).before args0 about1 = true := code_word (m := ⟨9, 2⟩) (meth := k9m2) (c := k9c2) (by decide +kernel) rfl rfl rfl (by decide +kernel)
set_option maxRecDepth 65536 in
theorem w_c24 : (Jvm.Cond.code ({ cls := "java/lang/StringUTF16", name := "putChar", desc := "([BII)V" } : Jvm.MethodName) jdk_52_method_4_code (3 : Nat) (Option.none : Option Jvm.ClassFile.FieldType)).before args0 about1 = true := code_word (m := ⟨9, 3⟩) (meth := k9m3) (c := k9c3) (by decide +kernel) rfl rfl rfl (by decide +kernel)
set_option maxRecDepth 65536 in
theorem w_c25 : (Jvm.Cond.code ({ cls := "java/lang/StringUTF16", name := "getChar", desc := "([BI)C" } : Jvm.MethodName) jdk_52_method_5_code (2 : Nat) (Option.some Jvm.ClassFile.FieldType.char)).before args0 about1 = true := code_word (m := ⟨9, 4⟩) (meth := k9m4) (c := k9c4) (by decide +kernel) rfl rfl rfl (by decide +kernel)
def codes1 : List Jvm.Cond := [Jvm.Cond.code x code maxLocals ret, Jvm.Cond.code ({ cls := "io/dyeline/store/LayoutIsDataFilePinLaw", name := "put", desc := "([CIZZJJ)V" } : Jvm.MethodName) method_3_code (10 : Nat) (Option.none : Option Jvm.ClassFile.FieldType), Jvm.Cond.code ({ cls := "java/lang/String", name := "<init>", desc := "([C)V" } : Jvm.MethodName) jdk_42_method_3_code (2 : Nat) (Option.none : Option Jvm.ClassFile.FieldType), Jvm.Cond.code ({ cls := "java/lang/String", name := "<init>", desc := "([CIILjava/lang/Void;)V" } : Jvm.MethodName) jdk_42_method_149_code (6 : Nat) (Option.none : Option Jvm.ClassFile.FieldType), Jvm.Cond.code ({ cls := "java/lang/Object", name := "<init>", desc := "()V" } : Jvm.MethodName) object_method_1_code (1 : Nat) (Option.none : Option Jvm.ClassFile.FieldType), Jvm.Cond.code ({ cls := "io/dyeline/store/Layout", name := "isDataFile", desc := "(Ljava/lang/String;)Z" } : Jvm.MethodName) prog_8_method_2_code (1 : Nat) (Option.some Jvm.ClassFile.FieldType.boolean), Jvm.Cond.code ({ cls := "java/lang/String", name := "startsWith", desc := "(Ljava/lang/String;)Z" } : Jvm.MethodName) jdk_42_method_76_code (2 : Nat) (Option.some Jvm.ClassFile.FieldType.boolean), Jvm.Cond.code ({ cls := "java/lang/String", name := "startsWith", desc := "(Ljava/lang/String;I)Z" } : Jvm.MethodName) jdk_42_method_75_code (8 : Nat) (Option.some Jvm.ClassFile.FieldType.boolean), Jvm.Cond.code ({ cls := "java/lang/String", name := "length", desc := "()I" } : Jvm.MethodName) jdk_42_method_54_code (1 : Nat) (Option.some Jvm.ClassFile.FieldType.int), Jvm.Cond.code ({ cls := "java/lang/String", name := "coder", desc := "()B" } : Jvm.MethodName) jdk_42_method_152_code (1 : Nat) (Option.some Jvm.ClassFile.FieldType.byte), Jvm.Cond.code ({ cls := "io/dyeline/store/LayoutIsDataFilePinLaw", name := "drawn", desc := "(JJI)C" } : Jvm.MethodName) method_2_code (7 : Nat) (Option.some Jvm.ClassFile.FieldType.char), Jvm.Cond.code ({ cls := "java/lang/StringUTF16", name := "compress", desc := "([CII)[B" } : Jvm.MethodName) jdk_52_method_16_code (6 : Nat) (Option.some (Jvm.ClassFile.FieldType.array Jvm.ClassFile.FieldType.byte)), Jvm.Cond.code ({ cls := "java/lang/StringUTF16", name := "compress", desc := "([CI[BII)I" } : Jvm.MethodName) jdk_52_method_21_code (7 : Nat) (Option.some Jvm.ClassFile.FieldType.int), Jvm.Cond.code ({ cls := "java/lang/StringUTF16", name := "coderFromArrayLen", desc := "([BI)B" } : Jvm.MethodName) jdk_52_method_15_code (2 : Nat) (Option.some Jvm.ClassFile.FieldType.byte), Jvm.Cond.code ({ cls := "java/lang/String", name := "charAt", desc := "(I)C" } : Jvm.MethodName) jdk_42_method_56_code (2 : Nat) (Option.some Jvm.ClassFile.FieldType.char), Jvm.Cond.code ({ cls := "java/lang/String", name := "isLatin1", desc := "()Z" } : Jvm.MethodName) jdk_42_method_154_code (1 : Nat) (Option.some Jvm.ClassFile.FieldType.boolean), Jvm.Cond.code ({ cls := "java/lang/StringLatin1", name := "charAt", desc := "([BI)C" } : Jvm.MethodName) jdk_43_method_2_code (2 : Nat) (Option.some Jvm.ClassFile.FieldType.char), Jvm.Cond.code ({ cls := "java/lang/String", name := "checkIndex", desc := "(II)V" } : Jvm.MethodName) jdk_42_method_155_code (2 : Nat) (Option.none : Option Jvm.ClassFile.FieldType), Jvm.Cond.code ({ cls := "jdk/internal/util/Preconditions", name := "checkIndex", desc := "(IILjava/util/function/BiFunction;)I" } : Jvm.MethodName) jdk_41_method_11_code (3 : Nat) (Option.some Jvm.ClassFile.FieldType.int), Jvm.Cond.code ({ cls := "jdk/internal/util/ArraysSupport", name := "mismatch", desc := "([BI[BII)I" } : Jvm.MethodName) jdk_48_method_14_code (8 : Nat) (Option.some Jvm.ClassFile.FieldType.int), Jvm.Cond.code ({ cls := "java/lang/String", name := "endsWith", desc := "(Ljava/lang/String;)Z" } : Jvm.MethodName) jdk_42_method_77_code (2 : Nat) (Option.some Jvm.ClassFile.FieldType.boolean), Jvm.Cond.code ({ cls := "java/lang/StringUTF16", name := "toBytes", desc := "([CII)[B" } : Jvm.MethodName) jdk_52_method_14_code (5 : Nat) (Option.some (Jvm.ClassFile.FieldType.array Jvm.ClassFile.FieldType.byte)), Jvm.Cond.code ({ cls := "java/lang/StringUTF16", name := "newBytesFor", desc := "(I)[B" } : Jvm.MethodName) jdk_52_method_2_code (1 : Nat) (Option.some (Jvm.ClassFile.FieldType.array Jvm.ClassFile.FieldType.byte)), Jvm.Cond.code ({ cls := "java/lang/StringUTF16", name := "newBytesLength", desc := "(I)I" } : Jvm.MethodName) jdk_52_method_3_code (1 : Nat) (Option.some Jvm.ClassFile.FieldType.int), Jvm.Cond.code ({ cls := "java/lang/StringUTF16", name := "putChar", desc := "([BII)V" } : Jvm.MethodName) jdk_52_method_4_code (3 : Nat) (Option.none : Option Jvm.ClassFile.FieldType), Jvm.Cond.code ({ cls := "java/lang/StringUTF16", name := "getChar", desc := "([BI)C" } : Jvm.MethodName) jdk_52_method_5_code (2 : Nat) (Option.some Jvm.ClassFile.FieldType.char)]
set_option maxRecDepth 65536 in
theorem codes_eq : words1.filter isCode = codes1 := rfl
theorem w_codes : ∀ c ∈ words1.filter isCode, c.before args0 about1 = true := by
  rw [codes_eq]
  intro c hc
  simp only [codes1, List.mem_cons, List.not_mem_nil, or_false] at hc
  rcases hc with rfl | rfl | rfl | rfl | rfl | rfl | rfl | rfl | rfl | rfl | rfl | rfl | rfl | rfl | rfl | rfl | rfl | rfl | rfl | rfl | rfl | rfl | rfl | rfl | rfl | rfl
  · exact w_c0
  · exact w_c1
  · exact w_c2
  · exact w_c3
  · exact w_c4
  · exact w_c5
  · exact w_c6
  · exact w_c7
  · exact w_c8
  · exact w_c9
  · exact w_c10
  · exact w_c11
  · exact w_c12
  · exact w_c13
  · exact w_c14
  · exact w_c15
  · exact w_c16
  · exact w_c17
  · exact w_c18
  · exact w_c19
  · exact w_c20
  · exact w_c21
  · exact w_c22
  · exact w_c23
  · exact w_c24
  · exact w_c25
set_option maxRecDepth 65536 in
theorem w_t1 : (words1.take 24).all (fun c => isCode c || c.before args0 about1) = true := by decide +kernel
set_option maxRecDepth 65536 in
theorem w_t2 : ((words1.drop 24).take 24).all (fun c => isCode c || c.before args0 about1) = true := by decide +kernel
set_option maxRecDepth 65536 in
theorem w_t3 : (((words1.drop 24).drop 24).take 24).all (fun c => isCode c || c.before args0 about1) = true := by decide +kernel
set_option maxRecDepth 65536 in
theorem w_t4 : ((((words1.drop 24).drop 24).drop 24).take 24).all (fun c => isCode c || c.before args0 about1) = true := by decide +kernel
set_option maxRecDepth 65536 in
theorem w_t5 : (((((words1.drop 24).drop 24).drop 24).drop 24).take 24).all (fun c => isCode c || c.before args0 about1) = true := by decide +kernel
set_option maxRecDepth 65536 in
theorem w_t6 : (((((words1.drop 24).drop 24).drop 24).drop 24).drop 24).all (fun c => isCode c || c.before args0 about1) = true := by decide +kernel
theorem w_tables : (allAtoms (Jvm.Cond.code x code maxLocals ret :: tables_1)).before args0 about1 = true := by
  rw [allAtoms_all]
  show words1.all (fun c => c.before args0 about1) = true
  refine all_split ?_ w_codes
  rw [← List.take_append_drop 24 words1, List.all_append, w_t1, ← List.take_append_drop 24 (words1.drop 24), List.all_append, w_t2, ← List.take_append_drop 24 ((words1.drop 24).drop 24), List.all_append, w_t3, ← List.take_append_drop 24 (((words1.drop 24).drop 24).drop 24), List.all_append, w_t4, ← List.take_append_drop 24 ((((words1.drop 24).drop 24).drop 24).drop 24), List.all_append, w_t5, w_t6]
  rfl
set_option maxRecDepth 65536 in
theorem w_rest : rest_1_c.before args0 about1 = true := by decide +kernel
set_option maxRecDepth 65536 in
theorem w_case : (Jvm.Cond.and given_1 narrow_1).before args0 about1 = true := by decide +kernel
set_option maxRecDepth 65536 in
theorem w_consts : constsHeld consts_1 about1 := Jvm.Lit.constsHeldB_iff.mp (by decide +kernel)
theorem w_applies : (headSpec (Jvm.Cond.code x code maxLocals ret :: tables_1) room_1).applies x e0.platform about1 = true :=
  (Spec.applies_iff w_frames).mpr ⟨w_running, w_runnable, w_alone, w_named, w_hears, w_ripe, w_room, w_tables⟩
theorem atStart : AtStart classFile x code maxLocals ret World_1 tables_1 room_1 Calls_1 rest_1 Pre_1 launch0 p0 e0 about1 theMethod args0 below0 :=
  ⟨lists_1, trivial, launch0.admits_env _ _ _, launch0.least_env, fairChoices_fair.cas, fairChoices_fair.clock, w_frames, w_args, w_heap, w_applies, ⟨w_consts, trivial⟩, w_rest, w_case⟩
end start1
theorem witness_1 : WitnessClaimed_1 := ⟨start1.p0, start1.e0, start1.about1, start1.theMethod, start1.args0, start1.below0, start1.atStart⟩
end Jvm.Pilot.@@N@@
