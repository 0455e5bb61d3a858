import JvmDerived
import JvmDerived.Pilot.@@N@@Statement
import JvmDerived.Pilot.@@N@@Code
set_option linter.unusedVariables false
set_option linter.unusedSimpArgs false
namespace Jvm.RoadKit
open Sem ClassFile Op Lib Jvm.Stand Jvm.Free Jvm.LawKit
section New
variable {p : Program} {l : Launch} {e : Env} {R : Room} {s : State} {m : MethodId} {args : Array Value} {below : List Frame} {meth : Method} {c : Code} {T : State} {locs : List Loc} {cells slots : Nat}
theorem retI (X : Stand p l e R s m args below meth c T locs cells slots) (hx : p.tables.exec = Jvm.exec) {pc : Nat} {Ls : Array Slot} {z : Int32} {rest : List Value} (hret : meth.sig.returnType = some .int) (hd : decode c.code pc = .ok (.ireturn, 1)) {fs : List Frame}
    (hl : ∀ (f : JFrame) (acts : List Action), f.method = m → f.locked = none → f.entered = [] → (doReturn e (T.setTop f) acts (some (.int z))).1 = T.setFrames fs) : Steps p.tables e below (T.setTop (mkF m pc Ls (.int z :: rest))) (T.setFrames fs) := by
  have hm' : T.vm.method? m = some meth := X.method'
  have hn : narrow .int (.int z) = .int z := rfl
  show Steps p.tables e below (T.setTop { method := m, pc := pc, locals := Ls, stack := _ :: rest, locked := none }) _
  jvm_step X.here [X.here.top, hx, hd, hm', hret, hn]
  first | (intro acts; rw [hl _ acts rfl rfl rfl]) | rw [hl _ _ rfl rfl rfl]
  exact Steps.refl _
theorem seg (X : Stand p l e R s m args below meth c T locs cells slots) (P : State → Prop) (h : ∃ T', Stand p l e R s m args below meth c T' locs cells slots ∧ P T') : ∃ T', Stand p l e R s m args below meth c T' locs cells slots ∧ P T' := h
/-- int to char -/
def i2c (x : Int32) : Int32 := x.toUInt32.toUInt16.toUInt32.toInt32
/-- int to byte -/
def own_lo (x : Int32) : Int32 := x.toInt8.toInt32
/-- the unsigned shift of an int -/
def ushr (x y : Int32) : Int32 := (x.toUInt32 >>> (y &&& 31).toUInt32).toInt32
/-- the unsigned shift of a long -/
def ushrJ (x : Int64) (y : Int32) : Int64 := (x.toUInt64 >>> (y &&& 0x3f).toInt64.toUInt64).toInt64
end New
end Jvm.RoadKit
namespace Jvm.Pilot.@@N@@
open Jvm Jvm.ClassFile Sem Op Lib Jvm.Free Jvm.Stand Jvm.LawKit Jvm.RoadKit Bundle Jvm.Pilot.@@N@@.Jvm.D
theorem own_neN {a b : Addr} (h : @Ne Nat a b) : ¬ (a = b) := h
theorem own_arvne {Z : State} {h : Heap} {a b : Addr} {k k' : ClassId} {ty ty' : FieldType} {z z' : Int32} {vs vs' : List Value} {d d' : Value} (F : Arv Z h a k ty z vs d) (G : Arv Z h b k' ty' z' vs' d') (hn : ty ≠ ty') : a ≠ b := fun q => by
  subst q
  obtain ⟨c1, ⟨e1, ⟨-, k1, hk1, comp1, h1⟩, -⟩, -⟩ := F
  obtain ⟨c2, ⟨e2, ⟨-, k2, hk2, comp2, h2⟩, -⟩, -⟩ := G
  cases e1.symm.trans e2
  cases hk1.symm.trans hk2
  have := h1.symm.trans h2
  injection this with _ e
  exact hn e
theorem own_narb {q : Prop} [Decidable q] : nar .boolean (if q then (1 : Int32) else (0 : Int32)) = (if q then (1 : Int32) else (0 : Int32)) := by split <;> rfl
theorem own_declares {Z : State} {a0 : Array Value} {y : MethodName} {bytes : ByteArray} {mx : Nat} {r : Option FieldType} (w1 : (Jvm.Cond.instanceMethod y).before a0 Z = true) (w2 : (Jvm.Cond.code y bytes mx r).before a0 Z = true) : (Jvm.Cond.declares y).before a0 Z = true := by
  obtain ⟨mk, meth, h1, h2, h3, -⟩ := Cond.instanceMethod_spec w1
  obtain ⟨meth', c, q1, -, -, -, -, -, -, q2⟩ := Cond.code_spec h1 w2
  cases h2.symm.trans q1
  simp [Cond.before, Cond.holds, Cond.value, h1, h2, h3, q2]
/-- the class of a method that an object selects is no interface -/
theorem own_nf {Z : State} {a0 : Array Value} {y z : MethodName} {C : String} (hz : z.cls = y.cls) (w : (Jvm.Cond.selects C z z).before a0 Z = true) : ∀ r, Z.methodNamed? y = some r → ∃ k, Z.vm.classes[r.cls]? = some k ∧ k.isInterface = false := fun r hr => by
  obtain ⟨c, r2, m2, -, -, q3, -, kP, hkP, hkPi⟩ := Cond.selects_spec w
  have h1 := findClass_of_methodNamed q3
  have h2 := findClass_of_methodNamed hr
  rw [hz, h2] at h1
  rw [Option.some.inj h1]
  exact ⟨kP, hkP, hkPi⟩
/-- a method that its class declares itself is the one that the look-up finds -/
theorem own_same {Z : State} {a0 : Array Value} {y : MethodName} (w1 : (Jvm.Cond.instanceMethod y).before a0 Z = true) (w2 : ∀ r, Z.methodNamed? y = some r → ∃ k, Z.vm.classes[r.cls]? = some k ∧ k.isInterface = false) (hy : y.cls ≠ "java/lang/invoke/MethodHandle" ∧ y.cls ≠ "java/lang/invoke/VarHandle") : (Jvm.Cond.sameMethod y.cls y.cls y.name y.desc).before a0 Z = true := by
  obtain ⟨mk, meth, h1, -⟩ := Cond.instanceMethod_spec w1
  have hc := findClass_of_methodNamed h1
  obtain ⟨k, hk, hi⟩ := w2 mk h1
  have hf := State.methodFound?_of_named h1 hy
  have hk' : Z.vm.classes[mk.cls]? = some k := hk
  simp [Cond.before, Cond.holds, Cond.value, hc, hf, h1, hk', hi]
theorem own_ti {n : Nat} (h : n ≤ 8000) : (Int32.ofNat n).toInt = n := Int32.toInt_ofNat_of_lt (by omega)
theorem own_tn {n : Nat} (h : n ≤ 8000) : (Int32.ofNat n).toNatClampNeg = n := by
  rw [Int32.toNatClampNeg, own_ti h]; omega
theorem own_lt {i n : Nat} (h : i < n) (hn : n ≤ 8000) : (Int32.ofNat i) < (Int32.ofNat n) := by
  rw [Int32.lt_iff_toInt_lt, own_ti (by omega), own_ti hn]; omega
theorem own_nlt {i n : Nat} (h : n ≤ i) (hn : i ≤ 8000) : ¬ ((Int32.ofNat i) < (Int32.ofNat n)) := by
  rw [Int32.lt_iff_toInt_lt, own_ti hn, own_ti (by omega : n ≤ 8000)]; omega
theorem own_nn {n : Nat} (h : n ≤ 8000) : ¬ ((Int32.ofNat n) < (0 : Int32)) := by
  rw [Int32.lt_iff_toInt_lt, own_ti h]
  show ¬ ((n : Int) < 0)
  omega
theorem own_inj {i n : Nat} (h : i ≤ 8000) (hn : n ≤ 8000) (e : Int32.ofNat i = Int32.ofNat n) : i = n := by
  have := congrArg Int32.toInt e
  rw [own_ti h, own_ti hn] at this; omega
theorem own_up (k : Nat) : Int32.ofNat (k + 1) = Int32.ofNat k + (1 : Int32) := Int32.ofNat_add k 1
theorem own_in {i n : Nat} (h : i < n) (hn : n ≤ 8000) : ¬ (Int32.ofNat i) < 0 ∧ (Int32.ofNat i) < (Int32.ofNat n) := ⟨own_nn (by omega), own_lt h hn⟩
theorem own_eqI {z w : Int32} (h : z.toInt = w.toInt) : z = w := Int32.toInt_inj.mp h
theorem own_shl1 {n : Nat} (h : n ≤ 4000) : (Int32.ofNat n) <<< ((1 : Int32) &&& 31) = Int32.ofNat (2 * n) := by
  apply own_eqI
  have h1 := c_ishl (Int32.ofNat n) 1 1 (by decide)
  rw [own_ti (by omega)] at h1
  rw [own_ti (by omega : 2 * n ≤ 8000)]
  have := rng32 ((Int32.ofNat n) <<< ((1 : Int32) &&& 31))
  omega
theorem own_shr1 {n : Nat} (h : n ≤ 4000) : (Int32.ofNat (2 * n)) >>> ((1 : Int32) &&& 31) = Int32.ofNat n := by
  apply own_eqI
  rw [c_ishr (Int32.ofNat (2 * n)) 1 1 (by decide), own_ti (by omega : 2 * n ≤ 8000), own_ti (by omega)]
  omega
theorem own_shr0 (z : Int32) : z >>> ((0 : Int32) &&& 31) = z := by
  apply own_eqI
  rw [c_ishr z 0 0 (by decide)]; simp
def own_mix {α : Type} (ys vs : List α) (j : Nat) : List α := ys.take j ++ vs.drop j
theorem own_mix0 {α : Type} (ys vs : List α) : own_mix ys vs 0 = vs := by simp [own_mix]
theorem own_mixn {α : Type} (ys vs : List α) (n : Nat) (h : ys.length = n) (h2 : vs.length = n) : own_mix ys vs n = ys := by
  simp [own_mix, ← h, ← h2]
  omega
theorem own_mixl {α : Type} (ys vs : List α) (j : Nat) (h : ys.length = vs.length) : (own_mix ys vs j).length = vs.length := by simp [own_mix]; omega
theorem own_mixs {α : Type} (ys vs : List α) (d : α) (j : Nat) (h : ys.length = vs.length) (hj : j < vs.length) : (own_mix ys vs j).set j (ys.getD j d) = own_mix ys vs (j + 1) := by
  have hj' : j < ys.length := by omega
  apply List.ext_getElem?
  intro i
  simp only [own_mix, List.getElem?_set, List.length_append, List.length_take, List.length_drop, List.getElem?_append, List.getElem?_take, List.getElem?_drop, List.getD_eq_getElem?_getD, List.getElem?_eq_getElem hj', Option.getD_some]
  by_cases h1 : j = i
  · subst h1
    rw [if_pos rfl, if_pos (by omega), if_pos (by omega), if_pos (by omega), List.getElem?_eq_getElem hj']
  · rw [if_neg h1]
    by_cases h2 : i < j
    · rw [if_pos (by omega), if_pos (by omega), if_pos (by omega), if_pos (by omega)]
    · rw [if_neg (by omega), if_neg (by omega)]
      congr 1
      omega
/-- every char lies below 256 -/
abbrev own_lat (cs : List Int32) : Prop := ∀ c ∈ cs, ¬ ((255 : Int32) < c)
/-- every one is a char -/
abbrev own_chs (cs : List Int32) : Prop := ∀ c ∈ cs, ¬ (c < (0 : Int32)) ∧ ¬ ((65535 : Int32) < c)
def own_low (cs : List Int32) : List Value := cs.map fun c => .int (own_lo c)
def own_wide : List Int32 → List Value
  | [] => []
  | c :: r => .int (own_lo (c >>> ((0 : Int32) &&& 31))) :: .int (own_lo (c >>> ((8 : Int32) &&& 31))) :: own_wide r
def own_cod (cs : List Int32) : Int32 := if own_lat cs then 0 else 1
def own_enc (cs : List Int32) : List Value := if own_lat cs then own_low cs else own_wide cs
def own_enl (cs : List Int32) : Nat := if own_lat cs then cs.length else 2 * cs.length
theorem own_lowl (cs : List Int32) : (own_low cs).length = cs.length := by simp [own_low]
theorem own_widel : ∀ cs : List Int32, (own_wide cs).length = 2 * cs.length
  | [] => rfl
  | c :: r => by simp only [own_wide, List.length_cons, own_widel r]; omega
theorem own_getc (cs : List Int32) (j : Nat) (d : Value) (hj : j < cs.length) (hb : cs.length ≤ 8000) : (cs.map Value.int).getD (Int32.ofNat j).toNatClampNeg d = .int (cs.getD j 0) := by
  rw [own_tn (by omega)]
  simp [List.getD_eq_getElem?_getD, List.getElem?_map, List.getElem?_eq_getElem hj]
theorem own_getl (cs : List Int32) (j : Nat) (d : Value) (hj : j < cs.length) (hb : cs.length ≤ 8000) : (own_low cs).getD (Int32.ofNat j).toNatClampNeg d = .int (own_lo (cs.getD j 0)) := by
  rw [own_tn (by omega)]
  simp [own_low, List.getD_eq_getElem?_getD, List.getElem?_map, List.getElem?_eq_getElem hj]
theorem own_mem (cs : List Int32) (j : Nat) (hj : j < cs.length) : cs.getD j 0 ∈ cs := by
  simp [List.getD_eq_getElem?_getD, List.getElem?_eq_getElem hj]
theorem own_lolo (c : Int32) : nar .byte (own_lo c) = own_lo c := by
  show (own_lo c).toInt8.toInt32 = own_lo c
  simp [own_lo]
theorem own_mixc (cs : List Int32) (vs : List Value) (j : Nat) (h : cs.length = vs.length) (hj : j < vs.length) : (own_mix (own_low cs) vs j).set j (.int (nar .byte (own_lo (cs.getD j 0)))) = own_mix (own_low cs) vs (j + 1) := by
  have e : Value.int (own_lo (cs.getD j 0)) = (own_low cs).getD j (.int 0) := by
    simp [own_low, List.getD_eq_getElem?_getD, List.getElem?_map, List.getElem?_eq_getElem (by omega : j < cs.length)]
  rw [own_lolo, e]
  exact own_mixs _ _ _ _ (by rw [own_lowl]; exact h) hj
theorem own_wide0 (d : Value) : ∀ (cs : List Int32) (j : Nat), j < cs.length → (own_wide cs).getD (2 * j) d = .int (own_lo ((cs.getD j 0) >>> ((0 : Int32) &&& 31)))
  | [], _, h => nomatch h
  | c :: r, 0, _ => rfl
  | c :: r, j + 1, h => by
    have := own_wide0 d r j (by simpa using h)
    show (own_wide (c :: r)).getD (2 * j + 2) d = _
    simpa [own_wide] using this
theorem own_wide1 (d : Value) : ∀ (cs : List Int32) (j : Nat), j < cs.length → (own_wide cs).getD (2 * j + 1) d = .int (own_lo ((cs.getD j 0) >>> ((8 : Int32) &&& 31)))
  | [], _, h => nomatch h
  | c :: r, 0, _ => rfl
  | c :: r, j + 1, h => by
    have := own_wide1 d r j (by simpa using h)
    show (own_wide (c :: r)).getD (2 * j + 1 + 2) d = _
    simpa [own_wide] using this
theorem own_mixw (cs : List Int32) (vs : List Value) (j : Nat) (h : 2 * cs.length = vs.length) (hj : j < cs.length) :
    ((own_mix (own_wide cs) vs (2 * j)).set (2 * j) (.int (own_lo ((cs.getD j 0) >>> ((0 : Int32) &&& 31))))).set (2 * j + 1) (.int (own_lo ((cs.getD j 0) >>> ((8 : Int32) &&& 31)))) = own_mix (own_wide cs) vs (2 * (j + 1)) := by
  have hl : (own_wide cs).length = vs.length := by rw [own_widel]; exact h
  rw [← own_wide0 (.int 0) cs j hj, own_mixs _ _ _ _ hl (by omega), ← own_wide1 (.int 0) cs j hj, own_mixs _ _ _ _ hl (by omega)]
  rfl
/-- two bytes make the char again -/
theorem own_pair {c : Int32} (h0 : ¬ (c < (0 : Int32))) (h1 : ¬ ((65535 : Int32) < c)) :
    i2c (((own_lo (c >>> ((0 : Int32) &&& 31)) &&& (255 : Int32)) <<< ((0 : Int32) &&& 31)) ||| ((own_lo (c >>> ((8 : Int32) &&& 31)) &&& (255 : Int32)) <<< ((8 : Int32) &&& 31))) = c := by
  have b0 : 0 ≤ c.toInt ∧ c.toInt ≤ 65535 := by
    rw [Int32.lt_iff_toInt_lt] at h0 h1
    have : (0 : Int32).toInt = 0 := rfl
    have : (65535 : Int32).toInt = 65535 := rfl
    omega
  rw [own_shr0]
  have e8 : (c >>> ((8 : Int32) &&& 31)).toInt = c.toInt / 256 := c_ishr c 8 8 (by decide)
  have a1 := c_i2b c
  have a2 := c_i2b (c >>> ((8 : Int32) &&& 31))
  have m1 : (own_lo c &&& (255 : Int32)).toInt = (own_lo c).toInt % 256 := c_mask (own_lo c) 255 8 (by decide) (by decide)
  have m2 : (own_lo (c >>> ((8 : Int32) &&& 31)) &&& (255 : Int32)).toInt = (own_lo (c >>> ((8 : Int32) &&& 31))).toInt % 256 := c_mask (own_lo (c >>> ((8 : Int32) &&& 31))) 255 8 (by decide) (by decide)
  change ((own_lo c).toInt - c.toInt) % 256 = 0 ∧ _ at a1
  change ((own_lo (c >>> ((8 : Int32) &&& 31))).toInt - (c >>> ((8 : Int32) &&& 31)).toInt) % 256 = 0 ∧ _ at a2
  generalize own_lo c = u at *
  generalize own_lo (c >>> ((8 : Int32) &&& 31)) = w at *
  have s1 : ((u &&& (255 : Int32)) <<< ((0 : Int32) &&& 31)) = (u &&& (255 : Int32)) := by
    apply own_eqI
    have := c_ishl (u &&& (255 : Int32)) 0 0 (by decide)
    have := rng32 ((u &&& (255 : Int32)) <<< ((0 : Int32) &&& 31))
    omega
  have s2 := c_ishl (w &&& (255 : Int32)) 8 8 (by decide)
  have r2 := rng32 ((w &&& (255 : Int32)) <<< ((8 : Int32) &&& 31))
  rw [s1]
  generalize (w &&& (255 : Int32)) <<< ((8 : Int32) &&& 31) = y at *
  generalize u &&& (255 : Int32) = z at *
  have o := c_or' z y 8 (by decide) 256 rfl (by omega) (by omega) (by omega)
  have i := c_i2c (z ||| y)
  have r3 := rng32 (z ||| y)
  apply own_eqI
  show ((z ||| y).toUInt32.toUInt16.toUInt32.toInt32).toInt = _
  omega
theorem own_lo_inj {c d : Int32} (h0 : ¬ (c < (0 : Int32))) (h1 : ¬ ((255 : Int32) < c)) (g0 : ¬ (d < (0 : Int32))) (g1 : ¬ ((255 : Int32) < d)) (e : own_lo c = own_lo d) : c = d := by
  apply own_eqI
  have a1 := c_i2b c
  have a2 := c_i2b d
  have e' : c.toInt8.toInt32.toInt = d.toInt8.toInt32.toInt := congrArg Int32.toInt e
  rw [Int32.lt_iff_toInt_lt] at h0 h1 g0 g1
  have : (0 : Int32).toInt = 0 := rfl
  have : (255 : Int32).toInt = 255 := rfl
  omega
theorem own_ltbig {n : Nat} (h : n ≤ 8000) : (Int32.ofNat n) < (1073741823 : Int32) := by
  rw [Int32.lt_iff_toInt_lt, own_ti h]
  show (n : Int) < 1073741823
  omega
theorem own_narc {c : Int32} (h0 : ¬ (c < (0 : Int32))) (h1 : ¬ ((65535 : Int32) < c)) : nar .char c = c := by
  apply own_eqI
  have i := c_i2c c
  show (c.toUInt32.toUInt16.toUInt32.toInt32).toInt = _
  rw [Int32.lt_iff_toInt_lt] at h0 h1
  have : (0 : Int32).toInt = 0 := rfl
  have : (65535 : Int32).toInt = 65535 := rfl
  omega
theorem own_first {cs : List Int32} (h : ¬ own_lat cs) : ∃ i, i < cs.length ∧ (255 : Int32) < (cs.getD i 0) ∧ ∀ j, j < i → ¬ ((255 : Int32) < cs.getD j 0) := by
  induction cs with
  | nil => exact absurd (fun c hc => nomatch hc) h
  | cons c r ih =>
    by_cases hc : (255 : Int32) < c
    · exact ⟨0, by simp, hc, fun j hj => absurd hj (Nat.not_lt_zero j)⟩
    · have : ¬ own_lat r := fun hr => h fun d hd => by
        rcases List.mem_cons.mp hd with rfl | hd
        · exact hc
        · exact hr d hd
      obtain ⟨i, h1, h2, h3⟩ := ih this
      refine ⟨i + 1, by simpa using h1, by simpa using h2, fun j hj => ?_⟩
      cases j with
      | zero => simpa using hc
      | succ j => simpa using h3 j (by omega)
theorem own_fixL {Z : State} {hh : Heap} {b : Addr} {kb : ClassId} {cs : List Int32} {n : Nat} {vs : List Value} {d : Value} (h : own_lat cs) (F : Arv Z hh b kb .byte (Int32.ofNat n) (own_mix (own_low cs) vs n) d) (hn : cs.length = n) (hv : vs.length = n) : Arv Z hh b kb .byte (Int32.ofNat (own_enl cs)) (own_enc cs) d := by
  rw [own_mixn _ _ n (by rw [own_lowl]; exact hn) hv] at F
  rw [own_enl, own_enc, if_pos h, if_pos h, hn]; exact F
theorem own_fixW {Z : State} {hh : Heap} {b : Addr} {kb : ClassId} {cs : List Int32} {n : Nat} {d : Value} (h : ¬ own_lat cs) (F : Arv Z hh b kb .byte (Int32.ofNat (2 * n)) (own_wide cs) d) (hn : cs.length = n) : Arv Z hh b kb .byte (Int32.ofNat (own_enl cs)) (own_enc cs) d := by
  rw [own_enl, own_enc, if_neg h, if_neg h, hn]; exact F
theorem own_ne0 {n : Nat} (h : 0 < n) (hb : n ≤ 8000) : ¬ ((Int32.ofNat n) = (0 : Int32)) := fun e => by
  have := own_inj (n := 0) hb (by omega) e
  omega
theorem own_codl {cs : List Int32} {n : Nat} (hn : cs.length = n) (hp : 0 < n) (hb : n ≤ 4000) : nar .byte (own_lo (ushr ((Int32.ofNat n) - (Int32.ofNat (own_enl cs))) (31 : Int32))) = own_cod cs := by
  rw [own_lolo, own_enl, own_cod]
  by_cases h : own_lat cs
  · rw [if_pos h, if_pos h, hn, Int32.sub_self]; rfl
  · rw [if_neg h, if_neg h, hn]
    have e : ushr ((Int32.ofNat n) - (Int32.ofNat (2 * n))) (31 : Int32) = 1 := by
      apply own_eqI
      have a := c_isub (Int32.ofNat n) (Int32.ofNat (2 * n))
      rw [own_ti (by omega), own_ti (by omega : 2 * n ≤ 8000)] at a
      have r := rng32 ((Int32.ofNat n) - (Int32.ofNat (2 * n)))
      have s := c_iushr ((Int32.ofNat n) - (Int32.ofNat (2 * n))) 31 31 (by decide) (by decide)
      show (((Int32.ofNat n) - (Int32.ofNat (2 * n))).toUInt32 >>> ((31 : Int32) &&& 31).toUInt32).toInt32.toInt = 1
      rw [s]
      omega
    rw [e]; rfl
theorem own_c01 (cs : List Int32) : own_cod cs = 0 ∨ own_cod cs = 1 := by
  unfold own_cod; split
  · exact Or.inl rfl
  · exact Or.inr rfl
theorem own_cnar (cs : List Int32) : narrow .byte (.int (own_cod cs)) = .int (own_cod cs) := by rcases own_c01 cs with h | h <;> rw [h] <;> rfl
theorem own_cnarb (cs : List Int32) : nar .byte (own_cod cs) = own_cod cs := by rcases own_c01 cs with h | h <;> rw [h] <;> rfl
theorem own_cfit (cs : List Int32) : fits .byte (.int (own_cod cs)) = true := by rcases own_c01 cs with h | h <;> rw [h] <;> rfl
theorem own_lenq (cs : List Int32) (hb : cs.length ≤ 4000) : (Int32.ofNat (own_enl cs)) >>> ((own_cod cs) &&& 31) = Int32.ofNat cs.length := by
  rw [own_enl, own_cod]
  by_cases h : own_lat cs
  · rw [if_pos h, if_pos h]; exact own_shr0 _
  · rw [if_neg h, if_neg h]; exact own_shr1 hb
/-- one more than the place of the first ch among k chars from j on; 0: none -/
def own_ix (cs : List Int32) (ch : Int32) : Nat → Nat → Nat
  | _, 0 => 0
  | j, k + 1 => if cs.getD j 0 = ch then j + 1 else own_ix cs ch (j + 1) k
theorem own_ixle (cs : List Int32) (ch : Int32) : ∀ (k j : Nat), own_ix cs ch j k ≤ j + k
  | 0, j => by simp [own_ix]
  | k + 1, j => by
    unfold own_ix; split
    · omega
    · have := own_ixle cs ch k (j + 1); omega
theorem own_ix0 (cs : List Int32) (ch : Int32) (h : ∀ c ∈ cs, c ≠ ch) : ∀ (k j : Nat), j + k ≤ cs.length → own_ix cs ch j k = 0
  | 0, j, _ => rfl
  | k + 1, j, hj => by
    unfold own_ix
    rw [if_neg (h _ (own_mem cs j (by omega)))]
    exact own_ix0 cs ch h k (j + 1) (by omega)
theorem own_minT {i j : Nat} (hi : i ≤ 8000) (hj : j ≤ 8000) (h : ¬ ((Int32.ofNat j) < (Int32.ofNat i))) : Int32.ofNat i = Int32.ofNat (min i j) := by
  by_cases q : i ≤ j
  · rw [Nat.min_eq_left q]
  · exact absurd (own_lt (by omega) hi) h
theorem own_minF {i j : Nat} (hi : i ≤ 8000) (hj : j ≤ 8000) (h : (Int32.ofNat j) < (Int32.ofNat i)) : Int32.ofNat j = Int32.ofNat (min i j) := by
  by_cases q : i ≤ j
  · exact absurd h (own_nlt q hj)
  · rw [Nat.min_eq_right (by omega)]
theorem own_maxT {i j : Nat} (hi : i ≤ 8000) (hj : j ≤ 8000) (h : (Int32.ofNat i) < (Int32.ofNat j)) : Int32.ofNat j = Int32.ofNat (max i j) := by
  by_cases q : j ≤ i
  · exact absurd h (own_nlt q hi)
  · rw [Nat.max_eq_right (by omega)]
theorem own_maxF {i j : Nat} (hi : i ≤ 8000) (hj : j ≤ 8000) (h : ¬ ((Int32.ofNat i) < (Int32.ofNat j))) : Int32.ofNat i = Int32.ofNat (max i j) := by
  by_cases q : j ≤ i
  · rw [Nat.max_eq_left q]
  · exact absurd (own_lt (by omega) hj) h
theorem own_found (j : Nat) : Int32.ofNat j = Int32.ofNat (j + 1) - (1 : Int32) := by rw [own_up, Int32.add_sub_cancel]
theorem own_geth (cs : List Int32) (j : Nat) (d : Value) (hl : own_lat cs) (hj : j < cs.length) (hb : cs.length ≤ 8000) : (own_enc cs).getD (Int32.ofNat j).toNatClampNeg d = .int (own_lo (cs.getD j 0)) := by
  rw [own_enc, if_pos hl]; exact own_getl cs j d hj hb
theorem own_nari2c (z : Int32) : nar .char (i2c z) = i2c z := by
  have i := c_i2c z
  have k := c_i2c (z.toUInt32.toUInt16.toUInt32.toInt32)
  apply own_eqI
  show (z.toUInt32.toUInt16.toUInt32.toInt32).toUInt32.toUInt16.toUInt32.toInt32.toInt = z.toUInt32.toUInt16.toUInt32.toInt32.toInt
  omega
theorem own_rng {q z : Int32} (h : q = i2c z) : ¬ (q < (0 : Int32)) ∧ ¬ ((65535 : Int32) < q) := by
  have i := c_i2c z
  have e : q.toInt = z.toUInt32.toUInt16.toUInt32.toInt32.toInt := congrArg Int32.toInt h
  rw [Int32.lt_iff_toInt_lt, Int32.lt_iff_toInt_lt]
  have : (0 : Int32).toInt = 0 := rfl
  have : (65535 : Int32).toInt = 65535 := rfl
  omega
theorem own_chs0 : own_chs [] := fun _ h => nomatch h
theorem own_chsS {c : Int32} {r : List Int32} (h : ¬ (c < (0 : Int32)) ∧ ¬ ((65535 : Int32) < c)) (g : own_chs r) : own_chs (c :: r) := fun d hd => by
  rcases List.mem_cons.mp hd with rfl | hd
  · exact h
  · exact g d hd
theorem own_lat0 : own_lat [] := fun _ h => nomatch h
theorem own_latS {c : Int32} {r : List Int32} (h : ¬ ((255 : Int32) < c)) (g : own_lat r) : own_lat (c :: r) := fun d hd => by
  rcases List.mem_cons.mp hd with rfl | hd
  · exact h
  · exact g d hd
theorem own_int (z : Int32) (n : Nat) (h : z.toInt = n) : z = Int32.ofNat n := by
  apply Int32.toInt_inj.mp
  rw [h]
  have := z.toInt_lt
  have := z.le_toInt
  rw [Int32.toInt_ofNat_of_lt]
  omega
theorem own_and3 (z : Int32) : ∃ n : Nat, (z &&& (3 : Int32)) = Int32.ofNat n ∧ n < 4 := by
  have h := c_mask z 3 2 (by decide) (by decide)
  refine ⟨(z.toInt % 4).toNat, own_int _ _ ?_, by omega⟩
  rw [h]; omega
theorem own_modn (z : Int32) (d : Int32) (k : Nat) (hd : d.toInt = k) (hk : 0 < k) (hk2 : k ≤ 100) : ∃ n : Nat, ((z &&& (2147483647 : Int32)) % d) = Int32.ofNat n ∧ n < k := by
  have h := c_mask z 2147483647 31 (by decide) (by decide)
  have h2 := (c_irem (z &&& (2147483647 : Int32)) d k hd).1 (by rw [h]; omega)
  have h3 : 0 ≤ (z &&& (2147483647 : Int32)).toInt := by rw [h]; omega
  have h4 := Int.emod_nonneg (z &&& (2147483647 : Int32)).toInt (show (k : Int) ≠ 0 by omega)
  have h5 := Int.emod_lt_of_pos (z &&& (2147483647 : Int32)).toInt (show (0 : Int) < k by omega)
  refine ⟨((z &&& (2147483647 : Int32)).toInt % k).toNat, own_int _ _ ?_, by omega⟩
  rw [h2]; omega
theorem own_lt16 {c : Int32} (h : ¬ ((65535 : Int32) < c)) : c < (65536 : Int32) := by
  rw [Int32.lt_iff_toInt_lt] at *
  have : (65535 : Int32).toInt = 65535 := rfl
  have : (65536 : Int32).toInt = 65536 := rfl
  omega
theorem own_sub0 {i n : Nat} (h : ¬ ((Int32.ofNat i) < (Int32.ofNat n))) (hn : n ≤ 8000) : n - i = 0 := by
  by_cases q : i < n
  · exact absurd (own_lt q hn) h
  · omega
theorem own_cod0 {cs : List Int32} (h : own_lat cs) : own_cod cs = (0 : Int32) := if_pos h
theorem own_cod1 {cs : List Int32} (h : ¬ own_lat cs) : ¬ (own_cod cs = (0 : Int32)) := by rw [own_cod, if_neg h]; decide
/-- a String's bytes as ints -/
def own_wb : List Int32 → List Int32
  | [] => []
  | c :: r => own_lo (c >>> ((0 : Int32) &&& 31)) :: own_lo (c >>> ((8 : Int32) &&& 31)) :: own_wb r
def own_eb (cs : List Int32) : List Int32 := if own_lat cs then cs.map own_lo else own_wb cs
theorem own_wideb : ∀ cs : List Int32, own_wide cs = (own_wb cs).map Value.int
  | [] => rfl
  | c :: r => by simp only [own_wide, own_wb, List.map_cons, own_wideb r]
theorem own_encb (cs : List Int32) : own_enc cs = (own_eb cs).map Value.int := by
  rw [own_enc, own_eb]; split
  · simp [own_low]
  · exact own_wideb cs
theorem own_wbl : ∀ cs : List Int32, (own_wb cs).length = 2 * cs.length
  | [] => rfl
  | c :: r => by simp only [own_wb, List.length_cons, own_wbl r]; omega
theorem own_ebl (cs : List Int32) : (own_eb cs).length = own_enl cs := by
  rw [own_eb, own_enl]; split
  · simp
  · exact own_wbl cs
theorem own_mapinj : ∀ (cs ds : List Int32), own_chs cs → own_chs ds → own_lat cs → own_lat ds → cs.map own_lo = ds.map own_lo → cs = ds
  | [], [], _, _, _, _, _ => rfl
  | [], _ :: _, _, _, _, _, h => nomatch h
  | _ :: _, [], _, _, _, _, h => nomatch h
  | c :: r, d :: q, hc, hd, lc, ld, h => by
    simp only [List.map_cons, List.cons.injEq] at h
    have e : c = d := own_lo_inj (hc c (by simp)).1 (lc c (by simp)) (hd d (by simp)).1 (ld d (by simp)) h.1
    rw [e, own_mapinj r q (fun x hx => hc x (by simp [hx])) (fun x hx => hd x (by simp [hx])) (fun x hx => lc x (by simp [hx])) (fun x hx => ld x (by simp [hx])) h.2]
theorem own_wbinj : ∀ (cs ds : List Int32), own_chs cs → own_chs ds → own_wb cs = own_wb ds → cs = ds
  | [], [], _, _, _ => rfl
  | [], _ :: _, _, _, h => nomatch h
  | _ :: _, [], _, _, h => nomatch h
  | c :: r, d :: q, hc, hd, h => by
    simp only [own_wb, List.cons.injEq] at h
    have e : c = d := by
      rw [← own_pair (hc c (by simp)).1 (hc c (by simp)).2, ← own_pair (hd d (by simp)).1 (hd d (by simp)).2, h.1, h.2.1]
    rw [e, own_wbinj r q (fun x hx => hc x (by simp [hx])) (fun x hx => hd x (by simp [hx])) h.2.2]
theorem own_encinj {cs ds : List Int32} (hc : own_chs cs) (hd : own_chs ds) (h : own_cod cs = own_cod ds) (e : own_eb cs = own_eb ds) : cs = ds := by
  by_cases l1 : own_lat cs <;> by_cases l2 : own_lat ds
  · rw [own_eb, own_eb, if_pos l1, if_pos l2] at e; exact own_mapinj _ _ hc hd l1 l2 e
  · rw [own_cod, own_cod, if_pos l1, if_neg l2] at h; exact absurd h (by decide)
  · rw [own_cod, own_cod, if_neg l1, if_pos l2] at h; exact absurd h (by decide)
  · rw [own_eb, own_eb, if_neg l1, if_neg l2] at e; exact own_wbinj _ _ hc hd e
theorem own_ext {xs ys : List Int32} (hl : xs.length = ys.length) (h : ∀ i, i < xs.length → xs.getD i 0 = ys.getD i 0) : xs = ys := by
  apply List.ext_getElem hl
  intro i h1 h2
  have := h i h1
  simpa [List.getD_eq_getElem?_getD, List.getElem?_eq_getElem h1, List.getElem?_eq_getElem h2] using this
theorem own_enll (cs : List Int32) : own_enl cs ≤ 2 * cs.length := by rw [own_enl]; split <;> omega
def own_mk : Nat → Int32 → Int32 → Int32 → List Int32
  | 0, _, _, _ => []
  | 1, x, _, _ => [x]
  | 2, x, y, _ => [x, y]
  | _ + 3, x, y, z => [x, y, z]
theorem own_mkl (n : Nat) (x y z : Int32) : (own_mk n x y z).length ≤ 3 := by
  unfold own_mk; split <;> simp
theorem own_mkchs {n : Nat} {x y z : Int32} (h : n < 4) (hx : ¬ (x < (0 : Int32)) ∧ ¬ ((65535 : Int32) < x)) (hy : ¬ (y < (0 : Int32)) ∧ ¬ ((65535 : Int32) < y)) (hz : ¬ (z < (0 : Int32)) ∧ ¬ ((65535 : Int32) < z)) : own_chs (own_mk n x y z) := by
  unfold own_mk; split
  · exact own_chs0
  · exact own_chsS hx own_chs0
  · exact own_chsS hx (own_chsS hy own_chs0)
  · exact own_chsS hx (own_chsS hy (own_chsS hz own_chs0))
theorem own_le64k {c : Int32} (h : ¬ ((255 : Int32) < c)) : ¬ ((65535 : Int32) < c) := by
  rw [Int32.lt_iff_toInt_lt] at *
  have : (65535 : Int32).toInt = 65535 := rfl
  have : (255 : Int32).toInt = 255 := rfl
  omega
theorem own_small {z : Int32} (h : 0 ≤ z.toInt ∧ z.toInt ≤ 255) : ¬ (i2c z < (0 : Int32)) ∧ ¬ ((255 : Int32) < i2c z) := by
  have i := c_i2c z
  rw [Int32.lt_iff_toInt_lt, Int32.lt_iff_toInt_lt]
  have : (0 : Int32).toInt = 0 := rfl
  have : (255 : Int32).toInt = 255 := rfl
  show ¬ ((z.toUInt32.toUInt16.toUInt32.toInt32).toInt < (0 : Int32).toInt) ∧ ¬ ((255 : Int32).toInt < (z.toUInt32.toUInt16.toUInt32.toInt32).toInt)
  omega
theorem own_m255 (z : Int32) : 0 ≤ (z &&& (255 : Int32)).toInt ∧ (z &&& (255 : Int32)).toInt ≤ 255 := by
  have := c_mask z 255 8 (by decide) (by decide)
  omega
theorem own_b255 (z : Int32) : ¬ (i2c (z &&& (255 : Int32)) < (0 : Int32)) ∧ ¬ ((255 : Int32) < i2c (z &&& (255 : Int32))) := own_small (own_m255 z)
theorem own_k255 (z : Int32) : ¬ ((z &&& (255 : Int32)) < (0 : Int32)) ∧ ¬ ((255 : Int32) < (z &&& (255 : Int32))) := by
  have := own_m255 z
  rw [Int32.lt_iff_toInt_lt, Int32.lt_iff_toInt_lt]
  have : (0 : Int32).toInt = 0 := rfl
  have : (255 : Int32).toInt = 255 := rfl
  omega
theorem own_xb (z w : Int32) (h : 0 ≤ z.toInt ∧ z.toInt ≤ 255) (g : 0 ≤ w.toInt ∧ w.toInt ≤ 255) : 0 ≤ (z ^^^ w).toInt ∧ (z ^^^ w).toInt ≤ 255 := by
  have t (v : Int32) (h : 0 ≤ v.toInt ∧ v.toInt ≤ 255) : v.toBitVec.toNat < 256 := by
    have := v.toBitVec.isLt
    have e : v.toInt = v.toBitVec.toInt := rfl
    rw [BitVec.toInt_eq_toNat_cond] at e
    split at e <;> omega
  have h1 := t z h
  have h2 := t w g
  have h3 : (z ^^^ w).toBitVec.toNat < 256 := by
    rw [Int32.toBitVec_xor, BitVec.toNat_xor]
    exact Nat.xor_lt_two_pow (n := 8) h1 h2
  have e : (z ^^^ w).toInt = (z ^^^ w).toBitVec.toInt := rfl
  rw [BitVec.toInt_eq_toNat_cond] at e
  split at e <;> omega
theorem own_x255 {z w : Int32} (h : ¬ (z < (0 : Int32)) ∧ ¬ ((255 : Int32) < z)) (g : ¬ (w < (0 : Int32)) ∧ ¬ ((255 : Int32) < w)) : ¬ (i2c (z ^^^ w) < (0 : Int32)) ∧ ¬ ((255 : Int32) < i2c (z ^^^ w)) := by
  rw [Int32.lt_iff_toInt_lt, Int32.lt_iff_toInt_lt] at h g
  have : (0 : Int32).toInt = 0 := rfl
  have : (255 : Int32).toInt = 255 := rfl
  exact own_small (own_xb z w (by omega) (by omega))
theorem own_chr {c : Int32} (h0 : ¬ (c < (0 : Int32))) (h1 : ¬ ((255 : Int32) < c)) : nar .char (i2c (own_lo c &&& (255 : Int32))) = c := by
  rw [own_nari2c]
  apply own_eqI
  have a := c_i2b c
  have m := c_mask (own_lo c) 255 8 (by decide) (by decide)
  change ((own_lo c).toInt - c.toInt) % 256 = 0 ∧ _ at a
  have i := c_i2c (own_lo c &&& (255 : Int32))
  show ((own_lo c &&& (255 : Int32)).toUInt32.toUInt16.toUInt32.toInt32).toInt = c.toInt
  rw [Int32.lt_iff_toInt_lt] at h0 h1
  have : (0 : Int32).toInt = 0 := rfl
  have : (255 : Int32).toInt = 255 := rfl
  omega
theorem own_enl0 {cs : List Int32} (hb : cs.length ≤ 4000) : (Int32.ofNat (own_enl cs)) = (0 : Int32) ↔ cs = [] := by
  constructor
  · intro e
    have h : own_enl cs = 0 := own_inj (n := 0) (by have := own_enll cs; omega) (by decide) e
    have : cs.length = 0 := by rw [own_enl] at h; split at h <;> omega
    exact List.eq_nil_of_length_eq_zero this
  · rintro rfl; rw [own_enl, if_pos own_lat0]; rfl
theorem own_rt (ys : List Int32) (k : Nat) (d : Value) (h : k ≤ ys.length) : ((List.range k).map fun i => (ys.map Value.int).getD (0 + i) d) = (ys.take k).map Value.int := by
  apply List.ext_getElem
  · simp; omega
  · intro i h1 h2
    have hi : i < ys.length := by simp at h1; omega
    simp [List.getD_eq_getElem?_getD, List.getElem?_eq_getElem hi]
theorem own_z0 : (0 : Int32).toNatClampNeg = 0 := rfl
/-- what a copy leaves: k bytes of ys at p -/
theorem own_cpy (xs ys : List Int32) (p k : Nat) (d : Value) (hk : k ≤ ys.length) (hy : ys.length ≤ 8000) (hp : p ≤ 8000) :
    ((xs.map Value.int).take (Int32.ofNat p).toNatClampNeg ++ ((List.range (Int32.ofNat k).toNatClampNeg).map fun i => (ys.map Value.int).getD ((0 : Int32).toNatClampNeg + i) d) ++ (xs.map Value.int).drop ((Int32.ofNat p).toNatClampNeg + (Int32.ofNat k).toNatClampNeg)) = (xs.take p ++ ys.take k ++ xs.drop (p + k)).map Value.int := by
  rw [own_tn hp, own_tn (by omega : k ≤ 8000), own_z0, own_rt ys k d hk]
  simp [List.map_take, List.map_drop]
theorem own_arvcast {Z : State} {h : Heap} {a : Addr} {k : ClassId} {ty : FieldType} {z : Int32} {vs vs' : List Value} {d : Value} (e : vs = vs') (F : Arv Z h a k ty z vs d) : Arv Z h a k ty z vs' d := e ▸ F
theorem own_cpC (xs : List Int32) (k : Nat) (hk : k ≤ xs.length) (hy : xs.length ≤ 8000) :
    ((List.map Value.int (List.replicate k (0 : Int32))).take (0 : Int32).toNatClampNeg ++ ((List.range (Int32.ofNat k).toNatClampNeg).map fun i => (xs.map Value.int).getD ((0 : Int32).toNatClampNeg + i) (.int (0 : Int32))) ++ (List.map Value.int (List.replicate k (0 : Int32))).drop ((0 : Int32).toNatClampNeg + (Int32.ofNat k).toNatClampNeg)) = (xs.take k).map Value.int := by
  rw [own_z0, own_tn (by omega : k ≤ 8000), own_rt xs k _ hk]
  simp
theorem own_cpG (xs cs : List Int32) (p : Nat) (hc : cs.length ≤ 8000) (hp : p ≤ 8000) :
    ((xs.map Value.int).take (Int32.ofNat p).toNatClampNeg ++ ((List.range (Int32.ofNat cs.length).toNatClampNeg).map fun i => ((cs.map own_lo).map Value.int).getD ((0 : Int32).toNatClampNeg + i) (.int (0 : Int32))) ++ (xs.map Value.int).drop ((Int32.ofNat p).toNatClampNeg + (Int32.ofNat cs.length).toNatClampNeg)) = (xs.take p ++ cs.map own_lo ++ xs.drop (p + cs.length)).map Value.int := by
  have e := own_cpy xs (cs.map own_lo) p cs.length (.int (0 : Int32)) (by simp) (by simpa using hc) hp
  rwa [show (cs.map own_lo).take cs.length = cs.map own_lo from List.take_of_length_le (by simp)] at e
theorem own_nnn {n : Nat} (h : n ≤ 8000) : ¬ ((Int32.ofNat n) < 0) := own_nn h
theorem own_addn (a b : Nat) : (Int32.ofNat a) + (Int32.ofNat b) = Int32.ofNat (a + b) := (Int32.ofNat_add a b).symm
theorem own_subn {n k : Nat} (h : k ≤ n) : (Int32.ofNat n) - (Int32.ofNat k) = Int32.ofNat (n - k) := by
  obtain ⟨j, rfl⟩ : ∃ j, n = j + k := ⟨n - k, by omega⟩
  rw [Int32.ofNat_add, Int32.add_sub_cancel, Nat.add_sub_cancel]
theorem own_shl0 (z : Int32) : z <<< ((0 : Int32) &&& 31) = z := by
  apply own_eqI
  have := c_ishl z 0 0 (by decide)
  have := rng32 (z <<< ((0 : Int32) &&& 31))
  have := rng32 z
  omega
theorem own_lattake {cs : List Int32} {k : Nat} (h : own_lat cs) : own_lat (cs.take k) := fun c hc => h c (List.mem_of_mem_take hc)
theorem own_chstake {cs : List Int32} {k : Nat} (h : own_chs cs) : own_chs (cs.take k) := fun c hc => h c (List.mem_of_mem_take hc)
theorem own_latapp {cs ds : List Int32} (h : own_lat cs) (g : own_lat ds) : own_lat (cs ++ ds) := fun c hc => (List.mem_append.mp hc).elim (h c) (g c)
theorem own_chsapp {cs ds : List Int32} (h : own_chs cs) (g : own_chs ds) : own_chs (cs ++ ds) := fun c hc => (List.mem_append.mp hc).elim (h c) (g c)
/-- Latin bytes are the encoding -/
theorem own_toenc {Z : State} {h : Heap} {b : Addr} {k : ClassId} {cs : List Int32} {d : Value} (l : own_lat cs) (F : Arv Z h b k .byte (Int32.ofNat cs.length) ((cs.map own_lo).map Value.int) d) : Arv Z h b k .byte (Int32.ofNat (own_enl cs)) (own_enc cs) d := by
  rw [own_encb, own_eb, own_enl, if_pos l, if_pos l]; exact F
theorem own_ofenc {Z : State} {h : Heap} {b : Addr} {k : ClassId} {cs : List Int32} {d : Value} (l : own_lat cs) (F : Arv Z h b k .byte (Int32.ofNat (own_enl cs)) (own_enc cs) d) : Arv Z h b k .byte (Int32.ofNat cs.length) ((cs.map own_lo).map Value.int) d := by
  rw [own_encb, own_eb, own_enl, if_pos l, if_pos l] at F; exact F
theorem own_cap16 {m : Nat} (h : m ≤ 16) : ¬ ((0 : Int32) < ((Int32.ofNat m) - ((16 : Int32) >>> ((0 : Int32) &&& 31)))) := (by decide : ∀ m, m < 17 → ¬ ((0 : Int32) < ((Int32.ofNat m) - ((16 : Int32) >>> ((0 : Int32) &&& 31))))) m (by omega)
theorem own_takeapp {xs ys zs : List Int32} {k : Nat} (h : (xs ++ ys).length = k) : (xs ++ ys ++ zs).take k = xs ++ ys := by rw [← h]; exact List.take_left
theorem own_ornn {n i s : Nat} (hn : n ≤ 8000) (hi : i ≤ 8000) (hs : s ≤ 8000) : ¬ ((((Int32.ofNat n) ||| (Int32.ofNat i)) ||| (Int32.ofNat s)) < (0 : Int32)) := by
  have h1 := c_or0 (Int32.ofNat n) (Int32.ofNat i) (by rw [own_ti hn]; omega) (by rw [own_ti hi]; omega)
  rw [own_ti hn] at h1
  have h2 := c_or0 ((Int32.ofNat n) ||| (Int32.ofNat i)) (Int32.ofNat s) (by omega) (by rw [own_ti hs]; omega)
  rw [Int32.lt_iff_toInt_lt]
  have : (0 : Int32).toInt = 0 := rfl
  omega
theorem own_shl01 : (0 : Int32) <<< ((1 : Int32) &&& 31) = (0 : Int32) := by decide
theorem own_cap32 {m : Nat} (h : m ≤ 16) : ¬ ((0 : Int32) < ((Int32.ofNat m) - ((Int32.ofNat (2 * 16)) >>> ((1 : Int32) &&& 31)))) := (by decide : ∀ m, m < 17 → ¬ ((0 : Int32) < ((Int32.ofNat m) - ((Int32.ofNat (2 * 16)) >>> ((1 : Int32) &&& 31))))) m (by omega)
theorem own_codw {cs : List Int32} (h : ¬ own_lat cs) : own_cod cs = (1 : Int32) := if_neg h
theorem own_gtake {cs : List Int32} {k j : Nat} (h : j < k) : (cs.take k).getD j 0 = cs.getD j 0 := by
  simp [List.getD_eq_getElem?_getD, List.getElem?_take, h]
theorem own_firstT {cs : List Int32} {k : Nat} (h : ¬ own_lat (cs.take k)) (hk : k ≤ cs.length) : ∃ i, i < k ∧ (255 : Int32) < (cs.getD i 0) ∧ ∀ j, j < i → ¬ ((255 : Int32) < cs.getD j 0) := by
  obtain ⟨i, h1, h2, h3⟩ := own_first h
  have h1' : i < k := by rw [List.length_take] at h1; omega
  refine ⟨i, h1', by rw [own_gtake h1'] at h2; exact h2, fun j hj => ?_⟩
  have := h3 j hj
  rwa [own_gtake (by omega)] at this
theorem own_wbtake : ∀ (cs : List Int32) (k : Nat), (own_wb cs).take (2 * k) = own_wb (cs.take k)
  | [], k => by simp [own_wb]
  | c :: r, 0 => rfl
  | c :: r, k + 1 => by
    show (own_wb (c :: r)).take (2 * k + 2) = _
    simp only [own_wb, List.take_succ_cons, own_wbtake r k]
theorem own_wbapp : ∀ (cs ds : List Int32), own_wb (cs ++ ds) = own_wb cs ++ own_wb ds
  | [], ds => rfl
  | c :: r, ds => by simp only [List.cons_append, own_wb, own_wbapp r ds]
theorem own_towb {Z : State} {h : Heap} {b : Addr} {k : ClassId} {cs : List Int32} {d : Value} (l : ¬ own_lat cs) (F : Arv Z h b k .byte (Int32.ofNat (own_enl cs)) (own_enc cs) d) : Arv Z h b k .byte (Int32.ofNat (own_wb cs).length) ((own_wb cs).map Value.int) d := by
  rw [own_wbl, ← own_wideb]; rw [own_enl, own_enc, if_neg l, if_neg l] at F; exact F
theorem own_towide {Z : State} {h : Heap} {b : Addr} {k : ClassId} {cs : List Int32} {d : Value} (l : ¬ own_lat cs) (F : Arv Z h b k .byte (Int32.ofNat (own_enl cs)) (own_enc cs) d) : Arv Z h b k .byte (Int32.ofNat (2 * cs.length)) (own_wide cs) d := by
  rw [own_enl, own_enc, if_neg l, if_neg l] at F; exact F
theorem own_ofwb {Z : State} {h : Heap} {b : Addr} {k : ClassId} {cs : List Int32} {d : Value} (l : ¬ own_lat cs) (F : Arv Z h b k .byte (Int32.ofNat (2 * cs.length)) ((own_wb cs).map Value.int) d) : Arv Z h b k .byte (Int32.ofNat (own_enl cs)) (own_enc cs) d := by
  rw [own_enl, own_enc, if_neg l, if_neg l, own_wideb]; exact F
theorem own_w2b {Z : State} {h : Heap} {b : Addr} {k : ClassId} {cs : List Int32} {d : Value} (F : Arv Z h b k .byte (Int32.ofNat (2 * cs.length)) (own_wide cs) d) : Arv Z h b k .byte (Int32.ofNat (own_wb cs).length) ((own_wb cs).map Value.int) d := by
  rw [own_wbl, ← own_wideb]; exact F
theorem own_cutw {Z : State} {h : Heap} {b : Addr} {k : ClassId} {cs : List Int32} {j : Nat} {d : Value} (F : Arv Z h b k .byte (Int32.ofNat (2 * j)) (((own_wb cs).take (2 * j)).map Value.int) d) : Arv Z h b k .byte (Int32.ofNat (2 * j)) (own_wide (cs.take j)) d := by
  rw [own_wideb, ← own_wbtake]; exact F
theorem own_tolat {Z : State} {h : Heap} {b : Addr} {k : ClassId} {cs : List Int32} {d : Value} (l : own_lat cs) (F : Arv Z h b k .byte (Int32.ofNat (own_enl cs)) (own_enc cs) d) : Arv Z h b k .byte (Int32.ofNat cs.length) (own_enc cs) d := by
  rw [own_enl, if_pos l] at F; exact F
theorem own_cpW0 (xs ys : List Int32) (n : Nat) (hy : ys.length = n) (hn : n ≤ 8000) :
    ((xs.map Value.int).take (0 : Int32).toNatClampNeg ++ ((List.range (Int32.ofNat n).toNatClampNeg).map fun i => (ys.map Value.int).getD ((0 : Int32).toNatClampNeg + i) (.int (0 : Int32))) ++ (xs.map Value.int).drop ((0 : Int32).toNatClampNeg + (Int32.ofNat n).toNatClampNeg)) = (ys ++ xs.drop n).map Value.int := by
  rw [own_z0, own_tn hn, own_rt ys n _ (by omega), List.take_of_length_le (by omega : ys.length ≤ n)]
  simp [List.map_drop]
theorem own_lo255 {c : Int32} (h0 : ¬ (c < (0 : Int32))) (h1 : ¬ ((255 : Int32) < c)) : own_lo c &&& (255 : Int32) = c := by
  apply own_eqI
  have a := c_i2b c
  have m := c_mask (own_lo c) 255 8 (by decide) (by decide)
  change ((own_lo c).toInt - c.toInt) % 256 = 0 ∧ _ at a
  rw [Int32.lt_iff_toInt_lt] at h0 h1
  have : (0 : Int32).toInt = 0 := rfl
  have : (255 : Int32).toInt = 255 := rfl
  omega
theorem own_plg (A C : List Value) (cs : List Int32) (k j q : Nat) (d : Value) (hA : A.length = 2 * k) (hj : j < cs.length) (hq : q < 2) : (A ++ (own_wide cs ++ C)).getD (2 * (k + j) + q) d = (own_wide cs).getD (2 * j + q) d := by
  have h1 : 2 * (k + j) + q - A.length = 2 * j + q := by omega
  rw [List.getD_eq_getElem?_getD, List.getElem?_append_right (by omega), h1, List.getElem?_append_left (by rw [own_widel]; omega), ← List.getD_eq_getElem?_getD]
/-- what a writing of cs at k leaves -/
def own_pl (xs cs : List Int32) (k : Nat) : List Int32 := xs.take (2 * k) ++ own_wb cs ++ xs.drop (2 * k + 2 * cs.length)
theorem own_pll {xs cs : List Int32} {k : Nat} (hx : xs.length = 32) (hk : k + cs.length ≤ 16) : (own_pl xs cs k).length = 32 := by
  rw [own_pl, List.length_append, List.length_append, List.length_take, List.length_drop, own_wbl]; omega
theorem own_plm (xs cs : List Int32) (k : Nat) : (own_pl xs cs k).map Value.int = (xs.take (2 * k)).map Value.int ++ (own_wide cs ++ (xs.drop (2 * k + 2 * cs.length)).map Value.int) := by
  rw [own_pl, List.map_append, List.map_append, own_wideb, List.append_assoc]
theorem own_mixp (xs cs : List Int32) (k j : Nat) (hx : xs.length = 32) (hj : j < cs.length) (hk : k + cs.length ≤ 16) :
    ((own_mix ((own_pl xs cs k).map Value.int) (xs.map Value.int) (2 * (k + j))).set (2 * (k + j)) (.int (own_lo ((cs.getD j 0) >>> ((0 : Int32) &&& 31))))).set (2 * (k + j) + 1) (.int (own_lo ((cs.getD j 0) >>> ((8 : Int32) &&& 31)))) = own_mix ((own_pl xs cs k).map Value.int) (xs.map Value.int) (2 * (k + (j + 1))) := by
  have hl : ((own_pl xs cs k).map Value.int).length = (xs.map Value.int).length := by rw [List.length_map, List.length_map, own_pll hx hk, hx]
  have hs : (xs.map Value.int).length = 32 := by rw [List.length_map, hx]
  have hA : ((xs.take (2 * k)).map Value.int).length = 2 * k := by rw [List.length_map, List.length_take]; omega
  have g0 : ((own_pl xs cs k).map Value.int).getD (2 * (k + j)) (.int 0) = .int (own_lo ((cs.getD j 0) >>> ((0 : Int32) &&& 31))) := by
    rw [own_plm]; exact (own_plg _ _ cs k j 0 (.int 0) hA hj (by decide)).trans (own_wide0 (.int 0) cs j hj)
  have g1 : ((own_pl xs cs k).map Value.int).getD (2 * (k + j) + 1) (.int 0) = .int (own_lo ((cs.getD j 0) >>> ((8 : Int32) &&& 31))) := by
    rw [own_plm]; exact (own_plg _ _ cs k j 1 (.int 0) hA hj (by decide)).trans (own_wide1 (.int 0) cs j hj)
  rw [← g0, own_mixs _ _ _ _ hl (by omega), ← g1, own_mixs _ _ _ _ hl (by omega)]
  rfl
theorem own_mixa (xs cs : List Int32) (k : Nat) (hx : xs.length = 32) (hk : k + cs.length ≤ 16) : own_mix ((own_pl xs cs k).map Value.int) (xs.map Value.int) (2 * (k + 0)) = xs.map Value.int := by
  have e : ((own_pl xs cs k).map Value.int).take (2 * k) = (xs.map Value.int).take (2 * k) := by
    rw [own_plm, List.take_left' (by rw [List.length_map, List.length_take]; omega), List.map_take]
  show ((own_pl xs cs k).map Value.int).take (2 * k) ++ (xs.map Value.int).drop (2 * k) = _
  rw [e, List.take_append_drop]
theorem own_mixz (xs cs : List Int32) (k : Nat) (hx : xs.length = 32) (hk : k + cs.length ≤ 16) : own_mix ((own_pl xs cs k).map Value.int) (xs.map Value.int) (2 * (k + cs.length)) = (own_pl xs cs k).map Value.int := by
  have e : ((own_pl xs cs k).map Value.int).drop (2 * (k + cs.length)) = (xs.map Value.int).drop (2 * (k + cs.length)) := by
    rw [own_plm, ← List.append_assoc, List.drop_left' (by rw [List.length_append, List.length_map, List.length_take, own_widel]; omega), List.map_drop, Nat.mul_add]
  rw [own_mix, ← e, List.take_append_drop]
theorem own_mkt {n : Nat} {x y z : Int32} {t : List Int32} (ht : t.length = 5) : (own_mk n x y z ++ t).take ((own_mk n x y z ++ t).length - 5) = own_mk n x y z := by
  have e : (own_mk n x y z ++ t).length - 5 = (own_mk n x y z).length := by rw [List.length_append]; omega
  rw [e]; exact List.take_left
theorem own_nlk {n : Nat} {x y z : Int32} {t : List Int32} (ht : t.length = 5) (hl : own_lat t) (h : ¬ own_lat (own_mk n x y z ++ t)) : ¬ own_lat ((own_mk n x y z ++ t).take ((own_mk n x y z ++ t).length - 5)) := by
  rw [own_mkt ht]; exact fun g => h (own_latapp g hl)
theorem own_mklen {n : Nat} {x y z : Int32} {t : List Int32} (h : n < 4) (ht : t.length = 5) : (own_mk n x y z ++ t).length = n + 5 := by
  rcases (by omega : n = 0 ∨ n = 1 ∨ n = 2 ∨ n = 3) with rfl | rfl | rfl | rfl <;> simp [own_mk, ht]
theorem own_m {Z : State} {a0 : Array Value} (hw : ∀ d ∈ tables_1, d.before a0 Z = true) (i : Nat) {d : Jvm.Cond} (h : tables_1[i]? = some d) : d.before a0 Z = true := hw _ (List.mem_of_getElem? h)
abbrev ELs : List (String × Nat) := consts_1
theorem own_EW {Z : State} {a0 : Array Value} (hw : ∀ d ∈ tables_1, d.before a0 Z = true) : EW Z a0 ELs := (EW.cons (own_m hw 66 rfl) (by decide) (EW.cons (own_m hw 131 rfl) (by decide) (EW.cons (own_m hw 92 rfl) (by decide) EW.nil)))
theorem own_wS {Z : State} {a0 : Array Value} (hw : ∀ d ∈ tables_1, d.before a0 Z = true) : ∀ a ∈ Bundle.stringAtoms, a.before a0 Z = true := by
  intro a ha
  simp only [Bundle.stringAtoms, List.mem_cons, List.not_mem_nil, or_false] at ha
  rcases ha with rfl | rfl | rfl | rfl | rfl | rfl | rfl
  · exact (own_m hw 7 rfl)
  · exact (own_m hw 6 rfl)
  · exact (own_m hw 23 rfl)
  · exact (own_m hw 33 rfl)
  · exact (own_m hw 31 rfl)
  · exact (own_m hw 67 rfl)
  · exact (own_m hw 68 rfl)
theorem own_NSroot {Z : State} {a0 : Array Value} {O K : String} {n : Nat} (w : (Jvm.Cond.noSuperclass O).before a0 Z = true) (wk : (Jvm.Cond.instantiable K n).before a0 Z = true) (hn : O ≠ K) : NS Z O K := by
  obtain ⟨c, k, h1, h2, h3, -, -⟩ := Cond.noSuperclass_spec w
  obtain ⟨t, kt, g1, -⟩ := Cond.instantiable_spec wk
  have ne := ids_ne h1 g1 hn
  refine ⟨c, t, h1, g1, fun fuel => ?_⟩
  cases fuel with
  | zero => rfl
  | succ f => simp [Vm.isSubclassAux, ne, h2, h3]
theorem own_NSno {Z : State} {a0 : Array Value} {C S K : String} {m : Nat} (w : (Jvm.Cond.superclass C S).before a0 Z = true) (wk : (Jvm.Cond.instantiable K m).before a0 Z = true) (n : NS Z C K) (hn : C ≠ K) : ∃ c t, Z.vm.findClass C = some c ∧ Z.vm.findClass K = some t ∧ Z.vm.assignable c t = false := by
  obtain ⟨c, t, h0, g0, n3⟩ := n
  obtain ⟨p, k, kp, h1, h2, h3, h4, h5, -, h7⟩ := Cond.superclass_spec h0 w
  obtain ⟨t', k', q1, q2, q3, q4, -⟩ := Cond.instantiable_spec wk
  cases g0.symm.trans q1
  have q5 : k'.isInterface = false := (Bool.or_eq_false_iff.mp q4).1
  have ne := ids_ne h0 g0 hn
  refine ⟨c, t, h0, g0, ?_⟩
  show Z.vm.assignableAux (255 + 1) c t = false
  simp [Vm.assignableAux, ne, h2, q2, h5, q3, q5, Vm.isSubclass, n3]
/-- a String whose value is still null is no constant's -/
theorem own_safeN {Z : State} {EL : List (String × Nat)} {vm : Vm} {h : Heap} {a : Addr} (hal : Z.vm.Alike vm) (E : Exa Z h a "java/lang/String") (F : Fld Z h a "java/lang/String" "value" "[B" .null) : Safe Z EL vm h a := fun B => by
  obtain ⟨p, -, u, a', -, q, -, S, rfl | rfl⟩ := B
  · obtain ⟨cS, ⟨⟨s1, -, -, ⟨c1, k1, i1, f1, -⟩, -, -, -, v1, -⟩, -⟩, -⟩ := S
    obtain ⟨cell, cf, k', i', f, e1, e2, -, -, -, -, e7⟩ := F
    cases (show h[q.sa]? = some q.sC from s1).symm.trans e1
    obtain ⟨k3, e3, -⟩ := State.fieldFound?_setVm (s := Z) hal e2
    have e4 := (show (Wst Z vm h).fieldFound? _ _ _ = _ from e3).symm.trans f1
    simp only [Option.some.injEq, Prod.mk.injEq] at e4
    rw [← e4.2.2.2, e7] at v1
    cases v1
  · obtain ⟨cell, k, e1, e2, e3, -, -⟩ := E
    cases (show h[q.sd]? = some q.SA from S.hd).symm.trans e1
    obtain ⟨cS, -, -, f, -⟩ := S
    have f' : vm.findClass "[B" = some q.SA.cls := f
    rw [hal.findClass] at f'
    obtain ⟨k1, q1, q2⟩ := Vm.findClass_spec f'
    obtain ⟨k2, q3, q4⟩ := Vm.findClass_spec e2
    cases q1.symm.trans q3
    exact absurd (q2.symm.trans q4) (by decide)
theorem own_fix0 {Z : State} {hh : Heap} {b : Addr} {kb : ClassId} {cs : List Int32} {d : Value} (h : cs = []) (F : Arv Z hh b kb .byte (0 : Int32) [] d) : Arv Z hh b kb .byte (Int32.ofNat (own_enl cs)) (own_enc cs) d := by
  subst h
  rw [own_enl, own_enc, if_pos own_lat0, if_pos own_lat0]; exact F
theorem own_pos {n : Nat} (h : ¬ ((Int32.ofNat n) = (0 : Int32))) : 0 < n := by
  cases n with
  | zero => exact absurd rfl h
  | succ n => omega
def own_tx0 : List Int32 := [(46 : Int32), (106 : Int32), (115 : Int32), (111 : Int32), (110 : Int32)]
theorem own_tx0_lat : own_lat own_tx0 := by decide
theorem own_tx0_chs : own_chs own_tx0 := by decide
theorem own_tx0_lit {Z : State} {h : Heap} {b : Addr} {k : ClassId} (F : Arv Z h b k .byte (5 : Int32) [(.int (46 : Int32)), (.int (106 : Int32)), (.int (115 : Int32)), (.int (111 : Int32)), (.int (110 : Int32))] (.int (0 : Int32))) : Arv Z h b k .byte (Int32.ofNat (own_enl own_tx0)) (own_enc own_tx0) (.int (0 : Int32)) := by
  rw [own_enl, own_enc, if_pos own_tx0_lat, if_pos own_tx0_lat]; exact F
def own_tx1 : List Int32 := [(46 : Int32), (115 : Int32), (101 : Int32), (116 : Int32), (115 : Int32)]
theorem own_tx1_lat : own_lat own_tx1 := by decide
theorem own_tx1_chs : own_chs own_tx1 := by decide
theorem own_tx1_lit {Z : State} {h : Heap} {b : Addr} {k : ClassId} (F : Arv Z h b k .byte (5 : Int32) [(.int (46 : Int32)), (.int (115 : Int32)), (.int (101 : Int32)), (.int (116 : Int32)), (.int (115 : Int32))] (.int (0 : Int32))) : Arv Z h b k .byte (Int32.ofNat (own_enl own_tx1)) (own_enc own_tx1) (.int (0 : Int32)) := by
  rw [own_enl, own_enc, if_pos own_tx1_lat, if_pos own_tx1_lat]; exact F
theorem own_tagts (ds : List Int32) : List.take (0 + ds.length + own_tx1.length) (List.take (0 + ds.length) (List.take 0 (List.replicate 16 (0 : Int32)) ++ List.map own_lo ds ++ List.drop (0 + ds.length) (List.replicate 16 (0 : Int32))) ++ List.map own_lo own_tx1 ++ List.drop (0 + ds.length + own_tx1.length) (List.take 0 (List.replicate 16 (0 : Int32)) ++ List.map own_lo ds ++ List.drop (0 + ds.length) (List.replicate 16 (0 : Int32)))) = (ds ++ own_tx1).map own_lo := by
  have e1 : List.take (0 + ds.length) (List.take 0 (List.replicate 16 (0 : Int32)) ++ List.map own_lo ds ++ List.drop (0 + ds.length) (List.replicate 16 (0 : Int32))) = List.map own_lo ds := by
    rw [List.take_zero, List.nil_append]
    have : 0 + ds.length = (List.map own_lo ds).length := by simp
    rw [this]; exact List.take_left
  rw [e1, List.map_append]
  exact own_takeapp (by simp)
theorem own_wtag (ds : List Int32) : List.take (2 * (ds.length + own_tx1.length)) (own_pl (own_wb ds ++ List.drop (2 * ds.length) (List.replicate 32 (0 : Int32))) own_tx1 ds.length) = own_wb (ds ++ own_tx1) := by
  have e1 : List.take (2 * ds.length) (own_wb ds ++ List.drop (2 * ds.length) (List.replicate 32 (0 : Int32))) = own_wb ds := by
    rw [← own_wbl ds]; exact List.take_left
  rw [own_pl, e1, own_wbapp]
  exact own_takeapp (by rw [List.length_append, own_wbl, own_wbl]; omega)
theorem dd {c : ClassFile.Code} {b : ByteArray} (h : c.code = b) {pc : Nat} {r : Except ClassFile.DecodeError (ClassFile.Instr × Nat)} (d : ClassFile.decode b pc = r) : ClassFile.decode c.code pc = r := Jvm.hb h d
abbrev HW (Z : State) (a0 : Array Value) : Prop := ∀ d ∈ tables_1, d.before a0 Z = true
theorem own_pre {p : Program} {e : Env} {below : List Frame} {T : State} {f g : JFrame} (h : f = g) : ∀ t_, Steps p.tables e below (T.setTop g) t_ → Steps p.tables e below (T.setTop f) t_ := fun t_ k_ => castTop h k_
abbrev MF (l : Launch) (Z : State) (y : MethodName) (ws : List Jvm.Cond) (R : Room) (A : Array Value) (h0 : Heap) (Q : Option Value → Heap → List Loc → Prop) : Prop := MetFree l y (head1 ws R) (fun ar_ U => ar_ = A ∧ Z.Warmed39 U.vm ∧ U.heap = h0) (fun _ _ _ _ _ => True) (fun _ U oc_ U' => ∃ v L, oc_ = .returned v ∧ Q v U'.heap L ∧ FrameEnd U oc_ U' L R.cells R.slots)
abbrev v0_ : Value := .int (0 : Int32)
abbrev cS : String := "java/lang/String"
abbrev cB : String := "java/lang/StringBuilder"
abbrev cA : String := "java/lang/AbstractStringBuilder"
abbrev cU : String := "java/lang/StringUTF16"
abbrev cP : String := "jdk/internal/util/Preconditions"
abbrev cF : String := "Ljava/util/function/BiFunction;"
abbrev cG : String := "SIOOBE_FORMATTER"
abbrev cC : String := "COMPACT_STRINGS"
abbrev cD : String := "$assertionsDisabled"
abbrev cH : String := "HI_BYTE_SHIFT"
abbrev cL : String := "LO_BYTE_SHIFT"
abbrev M0_ : MethodName := ⟨"java/lang/StringUTF16", "compress", "([CI[BII)I"⟩
abbrev M1_ : MethodName := ⟨"java/lang/StringUTF16", "coderFromArrayLen", "([BI)B"⟩
abbrev M2_ : MethodName := ⟨"java/lang/StringUTF16", "newBytesLength", "(I)I"⟩
abbrev M3_ : MethodName := ⟨"java/lang/StringUTF16", "newBytesFor", "(I)[B"⟩
abbrev M4_ : MethodName := ⟨"java/lang/StringUTF16", "putChar", "([BII)V"⟩
abbrev M5_ : MethodName := ⟨"java/lang/StringUTF16", "getChar", "([BI)C"⟩
abbrev M6_ : MethodName := ⟨"java/lang/StringUTF16", "toBytes", "([CII)[B"⟩
abbrev M7_ : MethodName := ⟨"java/lang/StringUTF16", "compress", "([CII)[B"⟩
abbrev M8_ : MethodName := ⟨"java/lang/String", "<init>", "([CIILjava/lang/Void;)V"⟩
abbrev M9_ : MethodName := ⟨"java/lang/String", "<init>", "([C)V"⟩
abbrev M10_ : MethodName := ⟨"java/lang/String", "coder", "()B"⟩
abbrev M11_ : MethodName := ⟨"java/lang/String", "length", "()I"⟩
abbrev M12_ : MethodName := ⟨"java/lang/String", "isLatin1", "()Z"⟩
abbrev M13_ : MethodName := ⟨"java/lang/StringLatin1", "equals", "([B[B)Z"⟩
abbrev M14_ : MethodName := ⟨"java/lang/String", "equals", "(Ljava/lang/Object;)Z"⟩
abbrev M15_ : MethodName := ⟨"java/lang/Math", "min", "(II)I"⟩
abbrev M16_ : MethodName := ⟨"java/util/Arrays", "checkLength", "(II)V"⟩
abbrev M17_ : MethodName := ⟨"java/util/Arrays", "copyOfRangeByte", "([BII)[B"⟩
abbrev M18_ : MethodName := ⟨"java/util/Arrays", "copyOfRange", "([BII)[B"⟩
abbrev M19_ : MethodName := ⟨"java/lang/String", "<init>", "([BB)V"⟩
abbrev M20_ : MethodName := ⟨"java/lang/StringLatin1", "newString", "([BII)Ljava/lang/String;"⟩
abbrev M21_ : MethodName := ⟨"jdk/internal/util/Preconditions", "checkFromToIndex", "(IIILjava/util/function/BiFunction;)I"⟩
abbrev M22_ : MethodName := ⟨"java/lang/String", "checkBoundsBeginEnd", "(III)V"⟩
abbrev M23_ : MethodName := ⟨"jdk/internal/util/Preconditions", "checkFromIndexSize", "(IIILjava/util/function/BiFunction;)I"⟩
abbrev M24_ : MethodName := ⟨"java/lang/String", "checkBoundsOffCount", "(III)I"⟩
abbrev M25_ : MethodName := ⟨"java/lang/StringUTF16", "length", "([B)I"⟩
abbrev M26_ : MethodName := ⟨"java/lang/StringUTF16", "checkBoundsOffCount", "(II[B)V"⟩
abbrev M27_ : MethodName := ⟨"java/lang/String", "substring", "(II)Ljava/lang/String;"⟩
abbrev M28_ : MethodName := ⟨"java/lang/StringUTF16", "compress", "([BI[BII)I"⟩
abbrev M29_ : MethodName := ⟨"java/lang/StringUTF16", "compress", "([BII)[B"⟩
abbrev M30_ : MethodName := ⟨"java/lang/StringUTF16", "newString", "([BII)Ljava/lang/String;"⟩
abbrev M31_ : MethodName := ⟨"java/lang/AbstractStringBuilder", "<init>", "(I)V"⟩
abbrev M32_ : MethodName := ⟨"java/lang/StringBuilder", "<init>", "()V"⟩
abbrev M33_ : MethodName := ⟨"java/lang/AbstractStringBuilder", "length", "()I"⟩
abbrev M34_ : MethodName := ⟨"java/lang/AbstractStringBuilder", "ensureCapacityInternal", "(I)V"⟩
abbrev M35_ : MethodName := ⟨"java/lang/StringBuilder", "length", "()I"⟩
abbrev M36_ : MethodName := ⟨"java/lang/AbstractStringBuilder", "getValue", "()[B"⟩
abbrev M37_ : MethodName := ⟨"java/lang/AbstractStringBuilder", "isLatin1", "()Z"⟩
abbrev M38_ : MethodName := ⟨"java/lang/AbstractStringBuilder", "inflateIfNeededFor", "(Ljava/lang/String;)V"⟩
abbrev M39_ : MethodName := ⟨"java/lang/AbstractStringBuilder", "inflate", "()V"⟩
abbrev M40_ : MethodName := ⟨"java/lang/StringUTF16", "inflate", "([BI[BII)V"⟩
abbrev M41_ : MethodName := ⟨"java/lang/StringLatin1", "inflate", "([BI[BII)V"⟩
abbrev M42_ : MethodName := ⟨"java/lang/String", "getBytes", "([BIB)V"⟩
abbrev M43_ : MethodName := ⟨"java/lang/AbstractStringBuilder", "putStringAt", "(ILjava/lang/String;)V"⟩
abbrev M44_ : MethodName := ⟨"java/lang/AbstractStringBuilder", "append", "(Ljava/lang/String;)Ljava/lang/AbstractStringBuilder;"⟩
abbrev M45_ : MethodName := ⟨"java/lang/StringBuilder", "append", "(Ljava/lang/String;)Ljava/lang/StringBuilder;"⟩
abbrev M46_ : MethodName := ⟨"java/lang/String", "<init>", "(Ljava/lang/AbstractStringBuilder;Ljava/lang/Void;)V"⟩
abbrev M47_ : MethodName := ⟨"java/lang/String", "<init>", "(Ljava/lang/StringBuilder;)V"⟩
abbrev M48_ : MethodName := ⟨"java/lang/StringBuilder", "toString", "()Ljava/lang/String;"⟩
abbrev M49_ : MethodName := ⟨"io/dyeline/store/Layout", "setsPart", "(Ljava/lang/String;)Ljava/lang/String;"⟩
abbrev M50_ : MethodName := ⟨"io/dyeline/store/LayoutSetsPartPinLaw", "make", "(ICCCCCCCC)[C"⟩
abbrev CJ52_21 := jdk_52_method_21_code
abbrev CJ52_15 := jdk_52_method_15_code
abbrev CJ52_3 := jdk_52_method_3_code
abbrev CJ52_2 := jdk_52_method_2_code
abbrev CJ52_4 := jdk_52_method_4_code
abbrev CJ52_5 := jdk_52_method_5_code
abbrev CJ52_14 := jdk_52_method_14_code
abbrev CJ52_16 := jdk_52_method_16_code
abbrev CJ42_149 := jdk_42_method_149_code
abbrev CJ42_3 := jdk_42_method_3_code
abbrev CJ42_152 := jdk_42_method_152_code
abbrev CJ42_54 := jdk_42_method_54_code
abbrev CJ42_154 := jdk_42_method_154_code
abbrev CJ43_13 := jdk_43_method_13_code
abbrev CJ42_66 := jdk_42_method_66_code
abbrev CJ29_69 := jdk_29_method_69_code
abbrev CJ65_131 := jdk_65_method_131_code
abbrev CJ65_133 := jdk_65_method_133_code
abbrev CJ65_132 := jdk_65_method_132_code
abbrev CJ42_151 := jdk_42_method_151_code
abbrev CJ43_47 := jdk_43_method_47_code
abbrev CJ41_12 := jdk_41_method_12_code
abbrev CJ42_158 := jdk_42_method_158_code
abbrev CJ41_13 := jdk_41_method_13_code
abbrev CJ42_157 := jdk_42_method_157_code
abbrev CJ52_6 := jdk_52_method_6_code
abbrev CJ52_94 := jdk_52_method_94_code
abbrev CJ42_92 := jdk_42_method_92_code
abbrev CJ52_22 := jdk_52_method_22_code
abbrev CJ52_17 := jdk_52_method_17_code
abbrev CJ52_69 := jdk_52_method_69_code
abbrev CJ68_2 := jdk_68_method_2_code
abbrev CJ67_1 := jdk_67_method_1_code
abbrev CJ68_6 := jdk_68_method_6_code
abbrev CJ67_93 := jdk_67_method_93_code
abbrev CJ68_64 := jdk_68_method_64_code
abbrev CJ68_68 := jdk_68_method_68_code
abbrev CJ68_9 := jdk_68_method_9_code
abbrev CJ68_71 := jdk_68_method_71_code
abbrev CJ68_11 := jdk_68_method_11_code
abbrev CJ52_86 := jdk_52_method_86_code
abbrev CJ43_50 := jdk_43_method_50_code
abbrev CJ42_147 := jdk_42_method_147_code
abbrev CJ68_73 := jdk_68_method_73_code
abbrev CJ68_22 := jdk_68_method_22_code
abbrev CJ67_7 := jdk_67_method_7_code
abbrev CJ42_150 := jdk_42_method_150_code
abbrev CJ42_53 := jdk_42_method_53_code
abbrev CJ67_42 := jdk_67_method_42_code
abbrev CP8_4 := prog_8_method_4_code
abbrev C3 := method_3_code
theorem pn_java_lang_StringUTF16 : plainName "java/lang/StringUTF16" = true := by first | (simp [plainName, overriddenIn]; done) | decide +kernel
theorem dJ52_21_0 : decode CJ52_21 0 = .ok (.iconst 0, 1) := by decide +kernel
theorem dJ52_21_1 : decode CJ52_21 1 = .ok (.istore 5, 2) := by decide +kernel
theorem dJ52_21_3 : decode CJ52_21 3 = .ok (.iload 5, 2) := by decide +kernel
theorem dJ52_21_5 : decode CJ52_21 5 = .ok (.iload 4, 2) := by decide +kernel
theorem dJ52_21_7 : decode CJ52_21 7 = .ok (.if_icmp .ge 37, 3) := by decide +kernel
theorem dJ52_21_10 : decode CJ52_21 10 = .ok (.aload_n 0, 1) := by decide +kernel
theorem dJ52_21_11 : decode CJ52_21 11 = .ok (.iload_n 1, 1) := by decide +kernel
theorem dJ52_21_12 : decode CJ52_21 12 = .ok (.caload, 1) := by decide +kernel
theorem os_rmCmpL_13 {z0 : Value} {z1 : Value} {z2 : Value} {z3 : Value} {z4 : Value} {z5 : Value} {s6 : Slot} {v : Int32} (h : One s6) : storeLocals #[.val z0, .val z1, .val z2, .val z3, .val z4, .val z5, s6] 6 (.int v) = some #[.val z0, .val z1, .val z2, .val z3, .val z4, .val z5, .val (.int v)] := by
  rcases h with rfl | ⟨w, rfl, hw⟩
  · rfl
  · cases w <;> first | rfl | (simp [Value.category] at hw)
theorem dJ52_21_13 : decode CJ52_21 13 = .ok (.istore 6, 2) := by decide +kernel
theorem dJ52_21_15 : decode CJ52_21 15 = .ok (.iload 6, 2) := by decide +kernel
theorem dJ52_21_17 : decode CJ52_21 17 = .ok (.sipush 255, 3) := by decide +kernel
theorem dJ52_21_20 : decode CJ52_21 20 = .ok (.if_icmp .le 6, 3) := by decide +kernel
theorem dJ52_21_26 : decode CJ52_21 26 = .ok (.aload_n 2, 1) := by decide +kernel
theorem dJ52_21_27 : decode CJ52_21 27 = .ok (.iload_n 3, 1) := by decide +kernel
theorem dJ52_21_28 : decode CJ52_21 28 = .ok (.iload 6, 2) := by decide +kernel
theorem dJ52_21_30 : decode CJ52_21 30 = .ok (.i2b, 1) := by decide +kernel
theorem dJ52_21_31 : decode CJ52_21 31 = .ok (.bastore, 1) := by decide +kernel
theorem dJ52_21_32 : decode CJ52_21 32 = .ok (.iinc 1 1, 3) := by decide +kernel
theorem dJ52_21_35 : decode CJ52_21 35 = .ok (.iinc 3 1, 3) := by decide +kernel
theorem dJ52_21_38 : decode CJ52_21 38 = .ok (.iinc 5 1, 3) := by decide +kernel
theorem dJ52_21_41 : decode CJ52_21 41 = .ok (.goto (-38), 3) := by decide +kernel
theorem dJ52_21_44 : decode CJ52_21 44 = .ok (.iload 4, 2) := by decide +kernel
theorem dJ52_21_46 : decode CJ52_21 46 = .ok (.ireturn, 1) := by decide +kernel
theorem ef_rmCmpL (m : MethodId) (x0 : Addr) (x1 : Int32) (x2 : Addr) (x3 : Int32) (x4 : Int32) : entryFrame m #[(.ref x0), (.int x1), (.ref x2), (.int x3), (.int x4)] 7 = mkF m 0 #[.val (.ref x0), .val (.int x1), .val (.ref x2), .val (.int x3), .val (.int x4), .unset, .unset] [] := by first | (simp [entryFrame, mkF, argsToLocals, Value.category]; done) | rfl
abbrev R_rmCmpL : Room := ({ frames := 0, cells := 0, slots := 0, locals := 0 } : Room)
def Q_rmCmpL (Z : State) (ca : Addr) (ba : Addr) (cs : List Int32) (kc : ClassId) (n : Nat) (kb : ClassId) (vs : List Value) (h0 : Heap) (n0 : Nat) (v : Option Value) (h : Heap) (L : List Loc) : Prop := (v = some (.int (Int32.ofNat n))) ∧ (Fr n0 L) ∧ (Keep h0 h [ba]) ∧ (Arv Z h ba kb .byte (Int32.ofNat n) (own_mix (own_low cs) vs n) v0_)
set_option maxRecDepth 65536 in
set_option maxHeartbeats 40000000 in
theorem rmCmpL (l : Launch) (Z : State) (a0 : Array Value) (hw : HW Z a0) (ws : List Jvm.Cond) (ca : Addr) (ba : Addr) (cs : List Int32) (kc : ClassId) (n : Nat) (kb : ClassId) (vs : List Value) (h0 : Heap) (n0 : Nat) (Z0 : n0 ≤ h0.size) (I1 : Arv Z h0 ca kc .char (Int32.ofNat n) (cs.map Value.int) v0_) (I2 : Arv Z h0 ba kb .byte (Int32.ofNat n) vs v0_) (hn : cs.length = n) (hb : n ≤ 16) (hvs : vs.length = n) (gb : n0 ≤ ba) (hne : @Ne Nat ca ba) (hlat : own_lat cs) :
    MF l Z M0_ (Jvm.Cond.code M0_ jdk_52_method_21_code 7 (some .int) :: ws) R_rmCmpL #[(.ref ca), (.int (0 : Int32)), (.ref ba), (.int (0 : Int32)), (.int (Int32.ofNat n))] h0 (Q_rmCmpL Z ca ba cs kc n kb vs h0 n0) := by
  refine MetFree.of_bodySF (plainFor_of_name pn_java_lang_StringUTF16) hisR ?_
  intro p e s m args below meth c s₁ Bd hml0 hP hK
  obtain ⟨rfl, hZ, hh⟩ := hP
  have hx := Bd.exec
  have hy := Bd.bytes
  have hml : c.maxLocals = 7 := hml0
  have hown : s.vm.findClass "java/lang/StringUTF16" = some m.cls := findClass_of_methodNamed Bd.named
  have hnm := (name_of_methodNamed Bd.named Bd.method).1
  have X0 : Stand p l e R_rmCmpL s m #[(.ref ca), (.int (0 : Int32)), (.ref ba), (.int (0 : Int32)), (.int (Int32.ofNat n))] below meth c s₁ [] 0 0 := Stand.of_body Bd
  have e0 : s₁.heap = h0 := by rw [← hh, Bd.state]; rfl
  have N0 := Fr.nil n0
  have pre0 := own_pre (p := p) (e := e) (below := below) (T := s₁) (ef_rmCmpL m ca (0 : Int32) ba (0 : Int32) (Int32.ofNat n))
  have lt_I1 : @LT.lt Nat _ ca h0.size := I1.lt
  have lt_I2 : @LT.lt Nat _ ba h0.size := I2.lt
  have s1 : ∀ t_, Steps p.tables e below (s₁.setTop (mkF m 3 #[.val (.ref ca), .val (.int (0 : Int32)), .val (.ref ba), .val (.int (0 : Int32)), .val (.int (Int32.ofNat n)), .val (.int (0 : Int32)), .unset] [])) t_ → Steps _ _ _ _ t_ := fun t_ k_ => pre0 t_ (by
    refine XS.iconst X0.here hx rfl (dd hy dJ52_21_0) ?_
    refine XS.istore X0.here hx rfl (dd hy dJ52_21_1) rfl (l' := #[.val (.ref ca), .val (.int (0 : Int32)), .val (.ref ba), .val (.int (0 : Int32)), .val (.int (Int32.ofNat n)), .val (.int (0 : Int32)), .unset]) rfl ?_
    exact k_)
  have lp2 : ∀ (k_ : Nat) (j : Nat) (s6 : Slot) (T_ : State) (lo_ : List Loc) (hh2 : Heap), j + k_ = n → Stand p l e R_rmCmpL s m #[(.ref ca), (.int (0 : Int32)), (.ref ba), (.int (0 : Int32)), (.int (Int32.ofNat n))] below meth c T_ lo_ 0 0 → T_.heap = hh2 → Fr n0 lo_ → Keep h0 hh2 [ba] → Arv Z hh2 ba kb .byte (Int32.ofNat n) (own_mix (own_low cs) vs j) v0_ → (One s6) → ∃ (T' : State) (lo' : List Loc) (hx_ : Heap) (fe_ : JFrame), Stand p l e R_rmCmpL s m #[(.ref ca), (.int (0 : Int32)), (.ref ba), (.int (0 : Int32)), (.int (Int32.ofNat n))] below meth c T' lo' 0 0 ∧ T'.heap = hx_ ∧ Fr n0 lo' ∧ Keep h0 hx_ [ba] ∧ ((∃ (s6 : Slot), fe_ = (mkF m 44 #[.val (.ref ca), .val (.int (Int32.ofNat n)), .val (.ref ba), .val (.int (Int32.ofNat n)), .val (.int (Int32.ofNat n)), .val (.int (Int32.ofNat n)), s6] []) ∧ Arv Z hx_ ba kb .byte (Int32.ofNat n) (own_mix (own_low cs) vs n) v0_)) ∧ ∀ t_, Steps p.tables e below (T'.setTop fe_) t_ → Steps p.tables e below (T_.setTop (mkF m 3 #[.val (.ref ca), .val (.int (Int32.ofNat j)), .val (.ref ba), .val (.int (Int32.ofNat j)), .val (.int (Int32.ofNat n)), .val (.int (Int32.ofNat j)), s6] [])) t_ := by
    intro k_
    induction k_ with
    | zero => 
      intro j s6 T_ lo_ hh2 hm_ X_ e_ N_ K_ F_0 hs6
      have zk_ : h0.size ≤ hh2.size := K_.1
      have s3 : ∀ t_, Steps p.tables e below (T_.setTop (mkF m 44 #[.val (.ref ca), .val (.int (Int32.ofNat j)), .val (.ref ba), .val (.int (Int32.ofNat j)), .val (.int (Int32.ofNat n)), .val (.int (Int32.ofNat j)), s6] [])) t_ → Steps p.tables e below (T_.setTop (mkF m 3 #[.val (.ref ca), .val (.int (Int32.ofNat j)), .val (.ref ba), .val (.int (Int32.ofNat j)), .val (.int (Int32.ofNat n)), .val (.int (Int32.ofNat j)), s6] [])) t_ := fun t_ k_ => (fun _ k_ => k_) t_ (by
        refine XS.iload X_.here hx rfl (dd hy dJ52_21_3) rfl ?_
        refine XS.iload X_.here hx rfl (dd hy dJ52_21_5) rfl ?_
        refine XS.icmpYes X_.here hx rfl (pc0 := 7) (pc' := 44) rfl (dd hy dJ52_21_7) rfl (flt (own_nlt (by omega) (by omega))).2.1 (by decide) (by decide) ?_
        show Steps _ _ _ (T_.setTop (mkF m 44 #[.val (.ref ca), .val (.int (Int32.ofNat j)), .val (.ref ba), .val (.int (Int32.ofNat j)), .val (.int (Int32.ofNat n)), .val (.int (Int32.ofNat j)), s6] [])) _
        exact k_)
      exact ⟨T_, _, _, _, X_, e_, N_, ((Keep.refl h0 [ba]).trans K_ (allS (Or.inl (by simp)) all0)), ⟨s6, (by rw [show j = n by omega]), (by obtain rfl : j = n := (by omega); exact F_0)⟩, s3⟩
    | succ k_ ih => 
      intro j s6 T_ lo_ hh2 hm_ X_ e_ N_ K_ F_0 hs6
      have zk_ : h0.size ≤ hh2.size := K_.1
      have f4 : Arv Z hh2 ca kc .char (Int32.ofNat n) (cs.map Value.int) v0_ := (I1.keep K_ (ninS (show @Ne Nat ca ba by omega) nin0))
      obtain ⟨cl5, Ar5, -, S5, M5, H5, -⟩ := id f4
      have hin5 : ¬ ((Int32.ofNat j) < 0 ∨ cl5.slots.size ≤ ((Int32.ofNat j)).toNatClampNeg) := inb_of S5 (own_in (by omega) (by omega))
      have hat5 : cl5.slots[((Int32.ofNat j)).toNatClampNeg]? = some (.int (cs.getD j 0)) := H5.at hin5 (own_getc cs j _ (by omega) (by omega))
      obtain ⟨cl6, Ar6, q6, S6, M6, H6, G6⟩ := id F_0
      have hin6 : ¬ ((Int32.ofNat j) < 0 ∨ cl6.slots.size ≤ ((Int32.ofNat j)).toNatClampNeg) := inb_of S6 (own_in (by omega) (by omega))
      obtain ⟨T7, h7, X7, e7, W7, st7⟩ := stB X_ hx hZ e_ Ar6 (j := (Int32.ofNat j)) hin6 (g := (mkF m 31 #[.val (.ref ca), .val (.int (Int32.ofNat j)), .val (.ref ba), .val (.int (Int32.ofNat j)), .val (.int (Int32.ofNat n)), .val (.int (Int32.ofNat j)), .val (.int (cs.getD j 0))] [(.int (own_lo (cs.getD j 0))), (.int (Int32.ofNat j)), (.ref ba)])) rfl rfl (dd hy dJ52_21_31)
      have z8 : hh2.size ≤ h7.size := Nat.le_of_eq W7.size.symm
      have V7 : Arv Z h7 ba kb .byte (Int32.ofNat n) (own_mix (own_low cs) vs (j + 1)) v0_ := by
        have q : Arv Z h7 ba kb .byte (Int32.ofNat n) ((own_mix (own_low cs) vs j).set j (.int (nar .byte (own_lo (cs.getD j 0))))) v0_ := Arv.set Ar6 q6 S6 M6 H6 G6 (fits_nar_byte _) W7 j (own_tn (by omega)) (by rw [own_mixl _ _ _ (by rw [own_lowl]; omega)]; omega)
        rw [own_mixc cs vs j (by omega) (by omega)] at q
        exact q
      have N7 := Fr.snoc X7 N_ (show n0 ≤ ba by omega)
      have s9 : ∀ t_, Steps p.tables e below (T7.setTop (mkF m 3 #[.val (.ref ca), .val (.int ((Int32.ofNat j) + (1 : Int32))), .val (.ref ba), .val (.int ((Int32.ofNat j) + (1 : Int32))), .val (.int (Int32.ofNat n)), .val (.int ((Int32.ofNat j) + (1 : Int32))), .val (.int (cs.getD j 0))] [])) t_ → Steps p.tables e below (T_.setTop (mkF m 3 #[.val (.ref ca), .val (.int (Int32.ofNat j)), .val (.ref ba), .val (.int (Int32.ofNat j)), .val (.int (Int32.ofNat n)), .val (.int (Int32.ofNat j)), s6] [])) t_ := fun t_ k_ => (fun _ k_ => k_) t_ (by
        refine XS.iload X_.here hx rfl (dd hy dJ52_21_3) rfl ?_
        refine XS.iload X_.here hx rfl (dd hy dJ52_21_5) rfl ?_
        refine XS.icmpNo X_.here hx rfl (dd hy dJ52_21_7) rfl (tlt (own_lt (by omega) (by omega))).2.1 ?_
        show Steps _ _ _ (T_.setTop (mkF m 10 #[.val (.ref ca), .val (.int (Int32.ofNat j)), .val (.ref ba), .val (.int (Int32.ofNat j)), .val (.int (Int32.ofNat n)), .val (.int (Int32.ofNat j)), s6] [])) _
        refine XS.aloadN X_.here hx rfl (dd hy dJ52_21_10) rfl rfl ?_
        refine XS.iloadN X_.here hx rfl (dd hy dJ52_21_11) rfl ?_
        refine X_.caload hx (j := (Int32.ofNat j)) (v := (.int (cs.getD j 0))) (by rw [e_]; exact Ar5.1) (State.isArrayOf_alike hZ.alike Ar5.2.1) Ar5.2.2 hin5 hat5 (g := (mkF m 12 #[.val (.ref ca), .val (.int (Int32.ofNat j)), .val (.ref ba), .val (.int (Int32.ofNat j)), .val (.int (Int32.ofNat n)), .val (.int (Int32.ofNat j)), s6] [(.int (Int32.ofNat j)), (.ref ca)])) rfl rfl (dd hy dJ52_21_12) _ ?_
        refine XS.istore X_.here hx rfl (dd hy dJ52_21_13) rfl (l' := #[.val (.ref ca), .val (.int (Int32.ofNat j)), .val (.ref ba), .val (.int (Int32.ofNat j)), .val (.int (Int32.ofNat n)), .val (.int (Int32.ofNat j)), .val (.int (cs.getD j 0))]) (os_rmCmpL_13 hs6) ?_
        refine XS.iload X_.here hx rfl (dd hy dJ52_21_15) rfl ?_
        refine XS.sipush X_.here hx rfl (dd hy dJ52_21_17) ?_
        show Steps _ _ _ (T_.setTop (mkF m 20 #[.val (.ref ca), .val (.int (Int32.ofNat j)), .val (.ref ba), .val (.int (Int32.ofNat j)), .val (.int (Int32.ofNat n)), .val (.int (Int32.ofNat j)), .val (.int (cs.getD j 0))] [(.int (255 : Int32)), (.int (cs.getD j 0))])) _
        refine XS.icmpYes X_.here hx rfl (pc0 := 20) (pc' := 26) rfl (dd hy dJ52_21_20) rfl (flt (hlat _ (own_mem cs j (by omega)))).2.2.2 (by decide) (by decide) ?_
        show Steps _ _ _ (T_.setTop (mkF m 26 #[.val (.ref ca), .val (.int (Int32.ofNat j)), .val (.ref ba), .val (.int (Int32.ofNat j)), .val (.int (Int32.ofNat n)), .val (.int (Int32.ofNat j)), .val (.int (cs.getD j 0))] [])) _
        refine XS.aloadN X_.here hx rfl (dd hy dJ52_21_26) rfl rfl ?_
        refine XS.iloadN X_.here hx rfl (dd hy dJ52_21_27) rfl ?_
        refine XS.iload X_.here hx rfl (dd hy dJ52_21_28) rfl ?_
        refine XS.i2b X_.here hx rfl (dd hy dJ52_21_30) rfl ?_
        refine st7 _ ?_
        refine XS.iinc X7.here hx rfl (dd hy dJ52_21_32) rfl (l' := #[.val (.ref ca), .val (.int ((Int32.ofNat j) + (1 : Int32))), .val (.ref ba), .val (.int (Int32.ofNat j)), .val (.int (Int32.ofNat n)), .val (.int (Int32.ofNat j)), .val (.int (cs.getD j 0))]) rfl ?_
        show Steps _ _ _ (T7.setTop (mkF m 35 #[.val (.ref ca), .val (.int ((Int32.ofNat j) + (1 : Int32))), .val (.ref ba), .val (.int (Int32.ofNat j)), .val (.int (Int32.ofNat n)), .val (.int (Int32.ofNat j)), .val (.int (cs.getD j 0))] [])) _
        refine XS.iinc X7.here hx rfl (dd hy dJ52_21_35) rfl (l' := #[.val (.ref ca), .val (.int ((Int32.ofNat j) + (1 : Int32))), .val (.ref ba), .val (.int ((Int32.ofNat j) + (1 : Int32))), .val (.int (Int32.ofNat n)), .val (.int (Int32.ofNat j)), .val (.int (cs.getD j 0))]) rfl ?_
        refine XS.iinc X7.here hx rfl (dd hy dJ52_21_38) rfl (l' := #[.val (.ref ca), .val (.int ((Int32.ofNat j) + (1 : Int32))), .val (.ref ba), .val (.int ((Int32.ofNat j) + (1 : Int32))), .val (.int (Int32.ofNat n)), .val (.int ((Int32.ofNat j) + (1 : Int32))), .val (.int (cs.getD j 0))]) rfl ?_
        refine XS.goto X7.here hx rfl (pc0 := 41) (pc' := 3) rfl (dd hy dJ52_21_41) (by decide) (by decide) ?_
        exact k_)
      obtain ⟨T10, lo10, h10, fe10, X10, e10, N10, K10, A10, st10⟩ := ih (j + 1) (.val (.int (cs.getD j 0))) T7 _ h7 (by omega) X7 e7 N7 (((Keep.refl h0 [ba]).trans K_ (allS (Or.inl (by simp)) all0)).wr W7 (Or.inl (by simp))) V7 (One.val rfl)
      exact ⟨T10, lo10, h10, fe10, X10, e10, N10, K10, A10, fun t_ k_ => s9 t_ (castTop (by rw [own_up]) (st10 t_ k_))⟩
  obtain ⟨T11, lo11, h11, fe11, X11, e11, N11, K11, A11, st11⟩ := lp2 n 0 .unset s₁ _ h0 (by omega) X0 e0 N0 (Keep.refl _ _) (by rw [own_mix0]; exact I2) One.u
  have z12 : h0.size ≤ h11.size := K11.1
  obtain ⟨s6_11, rfl, G11_0⟩ := A11
  have s13 : ∀ t_, Steps p.tables e below (T11.setTop (mkF m 44 #[.val (.ref ca), .val (.int (Int32.ofNat n)), .val (.ref ba), .val (.int (Int32.ofNat n)), .val (.int (Int32.ofNat n)), .val (.int (Int32.ofNat n)), s6_11] [])) t_ → Steps p.tables e below (s₁.setTop (entryFrame m #[(.ref ca), (.int (0 : Int32)), (.ref ba), (.int (0 : Int32)), (.int (Int32.ofNat n))] 7)) t_ := fun t_ k_ => s1 t_ (st11 t_ k_)
  have s14 : ∀ t_, Steps p.tables e below (T11.setTop (mkF m 46 #[.val (.ref ca), .val (.int (Int32.ofNat n)), .val (.ref ba), .val (.int (Int32.ofNat n)), .val (.int (Int32.ofNat n)), .val (.int (Int32.ofNat n)), s6_11] [(.int (Int32.ofNat n))])) t_ → Steps _ _ _ _ t_ := fun t_ k_ => s13 t_ (by
    refine XS.iload X11.here hx rfl (dd hy dJ52_21_44) rfl ?_
    exact k_)
  obtain ⟨fs, hr, hrun, hended, hW, hsame⟩ := X11.leave (v := some (.int (Int32.ofNat n))) (fun h => by rw [Bd.returns] at h; cases h)
  refine ⟨_, _, s14 _ ?_, hrun, hended, _, _, rfl, ?_, ⟨_, rfl⟩, hW, hsame.mono (by decide) (by decide)⟩
  · exact retI X11 hx Bd.returns (dd hy dJ52_21_46) hr
  · show Q_rmCmpL Z _ _ _ _ _ _ _ h0 n0 _ T11.heap _
    rw [e11]
    exact ⟨rfl, N11, ((Keep.refl h0 [ba]).trans K11 (allS (Or.inl (by simp)) all0)), G11_0⟩
theorem os_rmCmpW_13 {z0 : Value} {z1 : Value} {z2 : Value} {z3 : Value} {z4 : Value} {z5 : Value} {s6 : Slot} {v : Int32} (h : One s6) : storeLocals #[.val z0, .val z1, .val z2, .val z3, .val z4, .val z5, s6] 6 (.int v) = some #[.val z0, .val z1, .val z2, .val z3, .val z4, .val z5, .val (.int v)] := by
  rcases h with rfl | ⟨w, rfl, hw⟩
  · rfl
  · cases w <;> first | rfl | (simp [Value.category] at hw)
theorem dJ52_21_23 : decode CJ52_21 23 = .ok (.iload 5, 2) := by decide +kernel
theorem dJ52_21_25 : decode CJ52_21 25 = .ok (.ireturn, 1) := by decide +kernel
theorem ef_rmCmpW (m : MethodId) (x0 : Addr) (x1 : Int32) (x2 : Addr) (x3 : Int32) (x4 : Int32) : entryFrame m #[(.ref x0), (.int x1), (.ref x2), (.int x3), (.int x4)] 7 = mkF m 0 #[.val (.ref x0), .val (.int x1), .val (.ref x2), .val (.int x3), .val (.int x4), .unset, .unset] [] := by first | (simp [entryFrame, mkF, argsToLocals, Value.category]; done) | rfl
abbrev R_rmCmpW : Room := ({ frames := 0, cells := 0, slots := 0, locals := 0 } : Room)
def Q_rmCmpW (Z : State) (ca : Addr) (ba : Addr) (cs : List Int32) (kc : ClassId) (n : Nat) (kb : ClassId) (vs : List Value) (i : Nat) (h0 : Heap) (n0 : Nat) (v : Option Value) (h : Heap) (L : List Loc) : Prop := (v = some (.int (Int32.ofNat i))) ∧ (Fr n0 L) ∧ (Keep h0 h [ba]) ∧ (Arv Z h ba kb .byte (Int32.ofNat n) (own_mix (own_low cs) vs i) v0_)
set_option maxRecDepth 65536 in
set_option maxHeartbeats 40000000 in
theorem rmCmpW (l : Launch) (Z : State) (a0 : Array Value) (hw : HW Z a0) (ws : List Jvm.Cond) (ca : Addr) (ba : Addr) (cs : List Int32) (kc : ClassId) (n : Nat) (kb : ClassId) (vs : List Value) (i : Nat) (h0 : Heap) (n0 : Nat) (Z0 : n0 ≤ h0.size) (I1 : Arv Z h0 ca kc .char (Int32.ofNat n) (cs.map Value.int) v0_) (I2 : Arv Z h0 ba kb .byte (Int32.ofNat n) vs v0_) (hn : cs.length = n) (hb : n ≤ 16) (hvs : vs.length = n) (gb : n0 ≤ ba) (hne : @Ne Nat ca ba) (hi : i < n) (hbad : (255 : Int32) < (cs.getD i 0)) (hpre : ∀ j, j < i → ¬ ((255 : Int32) < cs.getD j 0)) :
    MF l Z M0_ (Jvm.Cond.code M0_ jdk_52_method_21_code 7 (some .int) :: ws) R_rmCmpW #[(.ref ca), (.int (0 : Int32)), (.ref ba), (.int (0 : Int32)), (.int (Int32.ofNat n))] h0 (Q_rmCmpW Z ca ba cs kc n kb vs i h0 n0) := by
  refine MetFree.of_bodySF (plainFor_of_name pn_java_lang_StringUTF16) hisR ?_
  intro p e s m args below meth c s₁ Bd hml0 hP hK
  obtain ⟨rfl, hZ, hh⟩ := hP
  have hx := Bd.exec
  have hy := Bd.bytes
  have hml : c.maxLocals = 7 := hml0
  have hown : s.vm.findClass "java/lang/StringUTF16" = some m.cls := findClass_of_methodNamed Bd.named
  have hnm := (name_of_methodNamed Bd.named Bd.method).1
  have X0 : Stand p l e R_rmCmpW s m #[(.ref ca), (.int (0 : Int32)), (.ref ba), (.int (0 : Int32)), (.int (Int32.ofNat n))] below meth c s₁ [] 0 0 := Stand.of_body Bd
  have e0 : s₁.heap = h0 := by rw [← hh, Bd.state]; rfl
  have N0 := Fr.nil n0
  have pre0 := own_pre (p := p) (e := e) (below := below) (T := s₁) (ef_rmCmpW m ca (0 : Int32) ba (0 : Int32) (Int32.ofNat n))
  have lt_I1 : @LT.lt Nat _ ca h0.size := I1.lt
  have lt_I2 : @LT.lt Nat _ ba h0.size := I2.lt
  have s1 : ∀ t_, Steps p.tables e below (s₁.setTop (mkF m 3 #[.val (.ref ca), .val (.int (0 : Int32)), .val (.ref ba), .val (.int (0 : Int32)), .val (.int (Int32.ofNat n)), .val (.int (0 : Int32)), .unset] [])) t_ → Steps _ _ _ _ t_ := fun t_ k_ => pre0 t_ (by
    refine XS.iconst X0.here hx rfl (dd hy dJ52_21_0) ?_
    refine XS.istore X0.here hx rfl (dd hy dJ52_21_1) rfl (l' := #[.val (.ref ca), .val (.int (0 : Int32)), .val (.ref ba), .val (.int (0 : Int32)), .val (.int (Int32.ofNat n)), .val (.int (0 : Int32)), .unset]) rfl ?_
    exact k_)
  have lp2 : ∀ (k_ : Nat) (j : Nat) (s6 : Slot) (T_ : State) (lo_ : List Loc) (hh2 : Heap), j + k_ = i → Stand p l e R_rmCmpW s m #[(.ref ca), (.int (0 : Int32)), (.ref ba), (.int (0 : Int32)), (.int (Int32.ofNat n))] below meth c T_ lo_ 0 0 → T_.heap = hh2 → Fr n0 lo_ → Keep h0 hh2 [ba] → Arv Z hh2 ba kb .byte (Int32.ofNat n) (own_mix (own_low cs) vs j) v0_ → (One s6) → ∃ (T' : State) (lo' : List Loc) (hx_ : Heap) (fe_ : JFrame), Stand p l e R_rmCmpW s m #[(.ref ca), (.int (0 : Int32)), (.ref ba), (.int (0 : Int32)), (.int (Int32.ofNat n))] below meth c T' lo' 0 0 ∧ T'.heap = hx_ ∧ Fr n0 lo' ∧ Keep h0 hx_ [ba] ∧ ((fe_ = (mkF m 23 #[.val (.ref ca), .val (.int (Int32.ofNat i)), .val (.ref ba), .val (.int (Int32.ofNat i)), .val (.int (Int32.ofNat n)), .val (.int (Int32.ofNat i)), .val (.int (cs.getD i 0))] []) ∧ Arv Z hx_ ba kb .byte (Int32.ofNat n) (own_mix (own_low cs) vs i) v0_)) ∧ ∀ t_, Steps p.tables e below (T'.setTop fe_) t_ → Steps p.tables e below (T_.setTop (mkF m 3 #[.val (.ref ca), .val (.int (Int32.ofNat j)), .val (.ref ba), .val (.int (Int32.ofNat j)), .val (.int (Int32.ofNat n)), .val (.int (Int32.ofNat j)), s6] [])) t_ := by
    intro k_
    induction k_ with
    | zero => 
      intro j s6 T_ lo_ hh2 hm_ X_ e_ N_ K_ F_0 hs6
      have zk_ : h0.size ≤ hh2.size := K_.1
      have f3 : Arv Z hh2 ca kc .char (Int32.ofNat n) (cs.map Value.int) v0_ := (I1.keep K_ (ninS (show @Ne Nat ca ba by omega) nin0))
      obtain ⟨cl4, Ar4, -, S4, M4, H4, -⟩ := id f3
      have hin4 : ¬ ((Int32.ofNat j) < 0 ∨ cl4.slots.size ≤ ((Int32.ofNat j)).toNatClampNeg) := inb_of S4 (own_in (by omega) (by omega))
      have hat4 : cl4.slots[((Int32.ofNat j)).toNatClampNeg]? = some (.int (cs.getD j 0)) := H4.at hin4 (own_getc cs j _ (by omega) (by omega))
      have s5 : ∀ t_, Steps p.tables e below (T_.setTop (mkF m 23 #[.val (.ref ca), .val (.int (Int32.ofNat j)), .val (.ref ba), .val (.int (Int32.ofNat j)), .val (.int (Int32.ofNat n)), .val (.int (Int32.ofNat j)), .val (.int (cs.getD j 0))] [])) t_ → Steps p.tables e below (T_.setTop (mkF m 3 #[.val (.ref ca), .val (.int (Int32.ofNat j)), .val (.ref ba), .val (.int (Int32.ofNat j)), .val (.int (Int32.ofNat n)), .val (.int (Int32.ofNat j)), s6] [])) t_ := fun t_ k_ => (fun _ k_ => k_) t_ (by
        refine XS.iload X_.here hx rfl (dd hy dJ52_21_3) rfl ?_
        refine XS.iload X_.here hx rfl (dd hy dJ52_21_5) rfl ?_
        refine XS.icmpNo X_.here hx rfl (dd hy dJ52_21_7) rfl (tlt (own_lt (by omega) (by omega))).2.1 ?_
        show Steps _ _ _ (T_.setTop (mkF m 10 #[.val (.ref ca), .val (.int (Int32.ofNat j)), .val (.ref ba), .val (.int (Int32.ofNat j)), .val (.int (Int32.ofNat n)), .val (.int (Int32.ofNat j)), s6] [])) _
        refine XS.aloadN X_.here hx rfl (dd hy dJ52_21_10) rfl rfl ?_
        refine XS.iloadN X_.here hx rfl (dd hy dJ52_21_11) rfl ?_
        refine X_.caload hx (j := (Int32.ofNat j)) (v := (.int (cs.getD j 0))) (by rw [e_]; exact Ar4.1) (State.isArrayOf_alike hZ.alike Ar4.2.1) Ar4.2.2 hin4 hat4 (g := (mkF m 12 #[.val (.ref ca), .val (.int (Int32.ofNat j)), .val (.ref ba), .val (.int (Int32.ofNat j)), .val (.int (Int32.ofNat n)), .val (.int (Int32.ofNat j)), s6] [(.int (Int32.ofNat j)), (.ref ca)])) rfl rfl (dd hy dJ52_21_12) _ ?_
        refine XS.istore X_.here hx rfl (dd hy dJ52_21_13) rfl (l' := #[.val (.ref ca), .val (.int (Int32.ofNat j)), .val (.ref ba), .val (.int (Int32.ofNat j)), .val (.int (Int32.ofNat n)), .val (.int (Int32.ofNat j)), .val (.int (cs.getD j 0))]) (os_rmCmpW_13 hs6) ?_
        refine XS.iload X_.here hx rfl (dd hy dJ52_21_15) rfl ?_
        refine XS.sipush X_.here hx rfl (dd hy dJ52_21_17) ?_
        show Steps _ _ _ (T_.setTop (mkF m 20 #[.val (.ref ca), .val (.int (Int32.ofNat j)), .val (.ref ba), .val (.int (Int32.ofNat j)), .val (.int (Int32.ofNat n)), .val (.int (Int32.ofNat j)), .val (.int (cs.getD j 0))] [(.int (255 : Int32)), (.int (cs.getD j 0))])) _
        refine XS.icmpNo X_.here hx rfl (dd hy dJ52_21_20) rfl (tlt (by rw [show j = i by omega]; exact hbad)).2.2.2 ?_
        show Steps _ _ _ (T_.setTop (mkF m 23 #[.val (.ref ca), .val (.int (Int32.ofNat j)), .val (.ref ba), .val (.int (Int32.ofNat j)), .val (.int (Int32.ofNat n)), .val (.int (Int32.ofNat j)), .val (.int (cs.getD j 0))] [])) _
        exact k_)
      exact ⟨T_, _, _, _, X_, e_, N_, ((Keep.refl h0 [ba]).trans K_ (allS (Or.inl (by simp)) all0)), ⟨(by rw [show j = i by omega]), (by obtain rfl : j = i := (by omega); exact F_0)⟩, s5⟩
    | succ k_ ih => 
      intro j s6 T_ lo_ hh2 hm_ X_ e_ N_ K_ F_0 hs6
      have zk_ : h0.size ≤ hh2.size := K_.1
      have f6 : Arv Z hh2 ca kc .char (Int32.ofNat n) (cs.map Value.int) v0_ := (I1.keep K_ (ninS (show @Ne Nat ca ba by omega) nin0))
      obtain ⟨cl7, Ar7, -, S7, M7, H7, -⟩ := id f6
      have hin7 : ¬ ((Int32.ofNat j) < 0 ∨ cl7.slots.size ≤ ((Int32.ofNat j)).toNatClampNeg) := inb_of S7 (own_in (by omega) (by omega))
      have hat7 : cl7.slots[((Int32.ofNat j)).toNatClampNeg]? = some (.int (cs.getD j 0)) := H7.at hin7 (own_getc cs j _ (by omega) (by omega))
      obtain ⟨cl8, Ar8, q8, S8, M8, H8, G8⟩ := id F_0
      have hin8 : ¬ ((Int32.ofNat j) < 0 ∨ cl8.slots.size ≤ ((Int32.ofNat j)).toNatClampNeg) := inb_of S8 (own_in (by omega) (by omega))
      obtain ⟨T9, h9, X9, e9, W9, st9⟩ := stB X_ hx hZ e_ Ar8 (j := (Int32.ofNat j)) hin8 (g := (mkF m 31 #[.val (.ref ca), .val (.int (Int32.ofNat j)), .val (.ref ba), .val (.int (Int32.ofNat j)), .val (.int (Int32.ofNat n)), .val (.int (Int32.ofNat j)), .val (.int (cs.getD j 0))] [(.int (own_lo (cs.getD j 0))), (.int (Int32.ofNat j)), (.ref ba)])) rfl rfl (dd hy dJ52_21_31)
      have z10 : hh2.size ≤ h9.size := Nat.le_of_eq W9.size.symm
      have V9 : Arv Z h9 ba kb .byte (Int32.ofNat n) (own_mix (own_low cs) vs (j + 1)) v0_ := by
        have q : Arv Z h9 ba kb .byte (Int32.ofNat n) ((own_mix (own_low cs) vs j).set j (.int (nar .byte (own_lo (cs.getD j 0))))) v0_ := Arv.set Ar8 q8 S8 M8 H8 G8 (fits_nar_byte _) W9 j (own_tn (by omega)) (by rw [own_mixl _ _ _ (by rw [own_lowl]; omega)]; omega)
        rw [own_mixc cs vs j (by omega) (by omega)] at q
        exact q
      have N9 := Fr.snoc X9 N_ (show n0 ≤ ba by omega)
      have s11 : ∀ t_, Steps p.tables e below (T9.setTop (mkF m 3 #[.val (.ref ca), .val (.int ((Int32.ofNat j) + (1 : Int32))), .val (.ref ba), .val (.int ((Int32.ofNat j) + (1 : Int32))), .val (.int (Int32.ofNat n)), .val (.int ((Int32.ofNat j) + (1 : Int32))), .val (.int (cs.getD j 0))] [])) t_ → Steps p.tables e below (T_.setTop (mkF m 3 #[.val (.ref ca), .val (.int (Int32.ofNat j)), .val (.ref ba), .val (.int (Int32.ofNat j)), .val (.int (Int32.ofNat n)), .val (.int (Int32.ofNat j)), s6] [])) t_ := fun t_ k_ => (fun _ k_ => k_) t_ (by
        refine XS.iload X_.here hx rfl (dd hy dJ52_21_3) rfl ?_
        refine XS.iload X_.here hx rfl (dd hy dJ52_21_5) rfl ?_
        refine XS.icmpNo X_.here hx rfl (dd hy dJ52_21_7) rfl (tlt (own_lt (by omega) (by omega))).2.1 ?_
        show Steps _ _ _ (T_.setTop (mkF m 10 #[.val (.ref ca), .val (.int (Int32.ofNat j)), .val (.ref ba), .val (.int (Int32.ofNat j)), .val (.int (Int32.ofNat n)), .val (.int (Int32.ofNat j)), s6] [])) _
        refine XS.aloadN X_.here hx rfl (dd hy dJ52_21_10) rfl rfl ?_
        refine XS.iloadN X_.here hx rfl (dd hy dJ52_21_11) rfl ?_
        refine X_.caload hx (j := (Int32.ofNat j)) (v := (.int (cs.getD j 0))) (by rw [e_]; exact Ar7.1) (State.isArrayOf_alike hZ.alike Ar7.2.1) Ar7.2.2 hin7 hat7 (g := (mkF m 12 #[.val (.ref ca), .val (.int (Int32.ofNat j)), .val (.ref ba), .val (.int (Int32.ofNat j)), .val (.int (Int32.ofNat n)), .val (.int (Int32.ofNat j)), s6] [(.int (Int32.ofNat j)), (.ref ca)])) rfl rfl (dd hy dJ52_21_12) _ ?_
        refine XS.istore X_.here hx rfl (dd hy dJ52_21_13) rfl (l' := #[.val (.ref ca), .val (.int (Int32.ofNat j)), .val (.ref ba), .val (.int (Int32.ofNat j)), .val (.int (Int32.ofNat n)), .val (.int (Int32.ofNat j)), .val (.int (cs.getD j 0))]) (os_rmCmpW_13 hs6) ?_
        refine XS.iload X_.here hx rfl (dd hy dJ52_21_15) rfl ?_
        refine XS.sipush X_.here hx rfl (dd hy dJ52_21_17) ?_
        show Steps _ _ _ (T_.setTop (mkF m 20 #[.val (.ref ca), .val (.int (Int32.ofNat j)), .val (.ref ba), .val (.int (Int32.ofNat j)), .val (.int (Int32.ofNat n)), .val (.int (Int32.ofNat j)), .val (.int (cs.getD j 0))] [(.int (255 : Int32)), (.int (cs.getD j 0))])) _
        refine XS.icmpYes X_.here hx rfl (pc0 := 20) (pc' := 26) rfl (dd hy dJ52_21_20) rfl (flt (hpre j (by omega))).2.2.2 (by decide) (by decide) ?_
        show Steps _ _ _ (T_.setTop (mkF m 26 #[.val (.ref ca), .val (.int (Int32.ofNat j)), .val (.ref ba), .val (.int (Int32.ofNat j)), .val (.int (Int32.ofNat n)), .val (.int (Int32.ofNat j)), .val (.int (cs.getD j 0))] [])) _
        refine XS.aloadN X_.here hx rfl (dd hy dJ52_21_26) rfl rfl ?_
        refine XS.iloadN X_.here hx rfl (dd hy dJ52_21_27) rfl ?_
        refine XS.iload X_.here hx rfl (dd hy dJ52_21_28) rfl ?_
        refine XS.i2b X_.here hx rfl (dd hy dJ52_21_30) rfl ?_
        refine st9 _ ?_
        refine XS.iinc X9.here hx rfl (dd hy dJ52_21_32) rfl (l' := #[.val (.ref ca), .val (.int ((Int32.ofNat j) + (1 : Int32))), .val (.ref ba), .val (.int (Int32.ofNat j)), .val (.int (Int32.ofNat n)), .val (.int (Int32.ofNat j)), .val (.int (cs.getD j 0))]) rfl ?_
        show Steps _ _ _ (T9.setTop (mkF m 35 #[.val (.ref ca), .val (.int ((Int32.ofNat j) + (1 : Int32))), .val (.ref ba), .val (.int (Int32.ofNat j)), .val (.int (Int32.ofNat n)), .val (.int (Int32.ofNat j)), .val (.int (cs.getD j 0))] [])) _
        refine XS.iinc X9.here hx rfl (dd hy dJ52_21_35) rfl (l' := #[.val (.ref ca), .val (.int ((Int32.ofNat j) + (1 : Int32))), .val (.ref ba), .val (.int ((Int32.ofNat j) + (1 : Int32))), .val (.int (Int32.ofNat n)), .val (.int (Int32.ofNat j)), .val (.int (cs.getD j 0))]) rfl ?_
        refine XS.iinc X9.here hx rfl (dd hy dJ52_21_38) rfl (l' := #[.val (.ref ca), .val (.int ((Int32.ofNat j) + (1 : Int32))), .val (.ref ba), .val (.int ((Int32.ofNat j) + (1 : Int32))), .val (.int (Int32.ofNat n)), .val (.int ((Int32.ofNat j) + (1 : Int32))), .val (.int (cs.getD j 0))]) rfl ?_
        refine XS.goto X9.here hx rfl (pc0 := 41) (pc' := 3) rfl (dd hy dJ52_21_41) (by decide) (by decide) ?_
        exact k_)
      obtain ⟨T12, lo12, h12, fe12, X12, e12, N12, K12, A12, st12⟩ := ih (j + 1) (.val (.int (cs.getD j 0))) T9 _ h9 (by omega) X9 e9 N9 (((Keep.refl h0 [ba]).trans K_ (allS (Or.inl (by simp)) all0)).wr W9 (Or.inl (by simp))) V9 (One.val rfl)
      exact ⟨T12, lo12, h12, fe12, X12, e12, N12, K12, A12, fun t_ k_ => s11 t_ (castTop (by rw [own_up]) (st12 t_ k_))⟩
  obtain ⟨T13, lo13, h13, fe13, X13, e13, N13, K13, A13, st13⟩ := lp2 i 0 .unset s₁ _ h0 (by omega) X0 e0 N0 (Keep.refl _ _) (by rw [own_mix0]; exact I2) One.u
  have z14 : h0.size ≤ h13.size := K13.1
  obtain ⟨rfl, G13_0⟩ := A13
  have s15 : ∀ t_, Steps p.tables e below (T13.setTop (mkF m 23 #[.val (.ref ca), .val (.int (Int32.ofNat i)), .val (.ref ba), .val (.int (Int32.ofNat i)), .val (.int (Int32.ofNat n)), .val (.int (Int32.ofNat i)), .val (.int (cs.getD i 0))] [])) t_ → Steps p.tables e below (s₁.setTop (entryFrame m #[(.ref ca), (.int (0 : Int32)), (.ref ba), (.int (0 : Int32)), (.int (Int32.ofNat n))] 7)) t_ := fun t_ k_ => s1 t_ (st13 t_ k_)
  have s16 : ∀ t_, Steps p.tables e below (T13.setTop (mkF m 25 #[.val (.ref ca), .val (.int (Int32.ofNat i)), .val (.ref ba), .val (.int (Int32.ofNat i)), .val (.int (Int32.ofNat n)), .val (.int (Int32.ofNat i)), .val (.int (cs.getD i 0))] [(.int (Int32.ofNat i))])) t_ → Steps _ _ _ _ t_ := fun t_ k_ => s15 t_ (by
    refine XS.iload X13.here hx rfl (dd hy dJ52_21_23) rfl ?_
    exact k_)
  obtain ⟨fs, hr, hrun, hended, hW, hsame⟩ := X13.leave (v := some (.int (Int32.ofNat i))) (fun h => by rw [Bd.returns] at h; cases h)
  refine ⟨_, _, s16 _ ?_, hrun, hended, _, _, rfl, ?_, ⟨_, rfl⟩, hW, hsame.mono (by decide) (by decide)⟩
  · exact retI X13 hx Bd.returns (dd hy dJ52_21_25) hr
  · show Q_rmCmpW Z _ _ _ _ _ _ _ _ h0 n0 _ T13.heap _
    rw [e13]
    exact ⟨rfl, N13, ((Keep.refl h0 [ba]).trans K13 (allS (Or.inl (by simp)) all0)), G13_0⟩
theorem dJ52_15_0 : decode CJ52_15 0 = .ok (.iload_n 1, 1) := by decide +kernel
theorem dJ52_15_1 : decode CJ52_15 1 = .ok (.aload_n 0, 1) := by decide +kernel
theorem dJ52_15_2 : decode CJ52_15 2 = .ok (.arraylength, 1) := by decide +kernel
theorem dJ52_15_3 : decode CJ52_15 3 = .ok (.isub, 1) := by decide +kernel
theorem dJ52_15_4 : decode CJ52_15 4 = .ok (.bipush 31, 2) := by decide +kernel
theorem dJ52_15_6 : decode CJ52_15 6 = .ok (.iushr, 1) := by decide +kernel
theorem dJ52_15_7 : decode CJ52_15 7 = .ok (.i2b, 1) := by decide +kernel
theorem dJ52_15_8 : decode CJ52_15 8 = .ok (.ireturn, 1) := by decide +kernel
theorem ef_rmCod (m : MethodId) (x0 : Addr) (x1 : Int32) : entryFrame m #[(.ref x0), (.int x1)] 2 = mkF m 0 #[.val (.ref x0), .val (.int x1)] [] := by first | (simp [entryFrame, mkF, argsToLocals, Value.category]; done) | rfl
abbrev R_rmCod : Room := ({ frames := 0, cells := 0, slots := 0, locals := 0 } : Room)
def Q_rmCod (Z : State) (ba : Addr) (nn : Int32) (kb : ClassId) (zz : Int32) (vs : List Value) (h0 : Heap) (n0 : Nat) (v : Option Value) (h : Heap) (L : List Loc) : Prop := (v = some (.int (nar .byte (own_lo (ushr (nn - zz) (31 : Int32)))))) ∧ (Fr n0 L) ∧ (h = h0)
set_option maxRecDepth 65536 in
set_option maxHeartbeats 40000000 in
theorem rmCod (l : Launch) (Z : State) (a0 : Array Value) (hw : HW Z a0) (ws : List Jvm.Cond) (ba : Addr) (nn : Int32) (kb : ClassId) (zz : Int32) (vs : List Value) (h0 : Heap) (n0 : Nat) (Z0 : n0 ≤ h0.size) (I1 : Arv Z h0 ba kb .byte zz vs v0_) :
    MF l Z M1_ (Jvm.Cond.code M1_ jdk_52_method_15_code 2 (some .byte) :: ws) R_rmCod #[(.ref ba), (.int nn)] h0 (Q_rmCod Z ba nn kb zz vs h0 n0) := by
  refine MetFree.of_bodySF (plainFor_of_name pn_java_lang_StringUTF16) hisR ?_
  intro p e s m args below meth c s₁ Bd hml0 hP hK
  obtain ⟨rfl, hZ, hh⟩ := hP
  have hx := Bd.exec
  have hy := Bd.bytes
  have hml : c.maxLocals = 2 := hml0
  have hown : s.vm.findClass "java/lang/StringUTF16" = some m.cls := findClass_of_methodNamed Bd.named
  have hnm := (name_of_methodNamed Bd.named Bd.method).1
  have X0 : Stand p l e R_rmCod s m #[(.ref ba), (.int nn)] below meth c s₁ [] 0 0 := Stand.of_body Bd
  have e0 : s₁.heap = h0 := by rw [← hh, Bd.state]; rfl
  have N0 := Fr.nil n0
  have pre0 := own_pre (p := p) (e := e) (below := below) (T := s₁) (ef_rmCod m ba nn)
  have lt_I1 : @LT.lt Nat _ ba h0.size := I1.lt
  obtain ⟨cl1, Ar1, -, S1, M1, -, -⟩ := id I1
  have s2 : ∀ t_, Steps p.tables e below (s₁.setTop (mkF m 8 #[.val (.ref ba), .val (.int nn)] [(.int (own_lo (ushr (nn - zz) (31 : Int32))))])) t_ → Steps _ _ _ _ t_ := fun t_ k_ => pre0 t_ (by
    refine XS.iloadN X0.here hx rfl (dd hy dJ52_15_0) rfl ?_
    refine XS.aloadN X0.here hx rfl (dd hy dJ52_15_1) rfl rfl ?_
    refine X0.arraylength hx (by rw [e0]; exact Ar1.1) (State.isArrayOf_alike hZ.alike Ar1.2.1) (g := (mkF m 2 #[.val (.ref ba), .val (.int nn)] [(.ref ba), (.int nn)])) rfl rfl (dd hy dJ52_15_2) _ ?_
    rw [len_of S1 M1]
    show Steps _ _ _ (s₁.setTop (mkF m 3 #[.val (.ref ba), .val (.int nn)] [(.int zz), (.int nn)])) _
    refine XS.isub X0.here hx rfl (dd hy dJ52_15_3) rfl ?_
    refine XS.bipush X0.here hx rfl (dd hy dJ52_15_4) ?_
    refine XS.iushr X0.here hx rfl (dd hy dJ52_15_6) rfl ?_
    refine XS.i2b X0.here hx rfl (dd hy dJ52_15_7) rfl ?_
    exact k_)
  obtain ⟨fs, hr, hrun, hended, hW, hsame⟩ := X0.leave (v := some (.int (nar .byte (own_lo (ushr (nn - zz) (31 : Int32)))))) (fun h => by rw [Bd.returns] at h; cases h)
  refine ⟨_, _, s2 _ ?_, hrun, hended, _, _, rfl, ?_, ⟨_, rfl⟩, hW, hsame.mono (by decide) (by decide)⟩
  · exact retN X0 hx (t := .byte) Bd.returns (by simp) (dd hy dJ52_15_8) hr
  · show Q_rmCod Z _ _ _ _ _ h0 n0 _ s₁.heap _
    rw [e0]
    exact ⟨rfl, N0, rfl⟩
theorem dJ52_3_0 : decode CJ52_3 0 = .ok (.iload_n 0, 1) := by decide +kernel
theorem dJ52_3_1 : decode CJ52_3 1 = .ok (.ifCond .ge 11, 3) := by decide +kernel
theorem dJ52_3_12 : decode CJ52_3 12 = .ok (.iload_n 0, 1) := by decide +kernel
theorem dJ52_3_13 : decode CJ52_3 13 = .ok (.ldc 20, 2) := by decide +kernel
theorem dJ52_3_15 : decode CJ52_3 15 = .ok (.if_icmp .lt 40, 3) := by decide +kernel
theorem dJ52_3_55 : decode CJ52_3 55 = .ok (.iload_n 0, 1) := by decide +kernel
theorem dJ52_3_56 : decode CJ52_3 56 = .ok (.iconst 1, 1) := by decide +kernel
theorem dJ52_3_57 : decode CJ52_3 57 = .ok (.ishl, 1) := by decide +kernel
theorem dJ52_3_58 : decode CJ52_3 58 = .ok (.ireturn, 1) := by decide +kernel
theorem ef_rmNBL (m : MethodId) (x0 : Int32) : entryFrame m #[(.int x0)] 1 = mkF m 0 #[.val (.int x0)] [] := by first | (simp [entryFrame, mkF, argsToLocals, Value.category]; done) | rfl
abbrev R_rmNBL : Room := ({ frames := 0, cells := 0, slots := 0, locals := 0 } : Room)
def Q_rmNBL (Z : State) (n : Nat) (h0 : Heap) (n0 : Nat) (v : Option Value) (h : Heap) (L : List Loc) : Prop := (v = some (.int (Int32.ofNat (2 * n)))) ∧ (Fr n0 L) ∧ (h = h0)
set_option maxRecDepth 65536 in
set_option maxHeartbeats 40000000 in
theorem rmNBL (l : Launch) (Z : State) (a0 : Array Value) (hw : HW Z a0) (ws : List Jvm.Cond) (n : Nat) (h0 : Heap) (n0 : Nat) (Z0 : n0 ≤ h0.size) (hb : n ≤ 16) :
    MF l Z M2_ (Jvm.Cond.code M2_ jdk_52_method_3_code 1 (some .int) :: ws) R_rmNBL #[(.int (Int32.ofNat n))] h0 (Q_rmNBL Z n h0 n0) := by
  refine MetFree.of_bodySF (plainFor_of_name pn_java_lang_StringUTF16) hisR ?_
  intro p e s m args below meth c s₁ Bd hml0 hP hK
  obtain ⟨rfl, hZ, hh⟩ := hP
  have hx := Bd.exec
  have hy := Bd.bytes
  have hml : c.maxLocals = 1 := hml0
  have hown : s.vm.findClass "java/lang/StringUTF16" = some m.cls := findClass_of_methodNamed Bd.named
  have hnm := (name_of_methodNamed Bd.named Bd.method).1
  have X0 : Stand p l e R_rmNBL s m #[(.int (Int32.ofNat n))] below meth c s₁ [] 0 0 := Stand.of_body Bd
  have e0 : s₁.heap = h0 := by rw [← hh, Bd.state]; rfl
  have N0 := Fr.nil n0
  have pre0 := own_pre (p := p) (e := e) (below := below) (T := s₁) (ef_rmNBL m (Int32.ofNat n))
  have s1 : ∀ t_, Steps p.tables e below (s₁.setTop (mkF m 58 #[.val (.int (Int32.ofNat n))] [(.int ((Int32.ofNat n) <<< ((1 : Int32) &&& 31)))])) t_ → Steps _ _ _ _ t_ := fun t_ k_ => pre0 t_ (by
    refine XS.iloadN X0.here hx rfl (dd hy dJ52_3_0) rfl ?_
    refine XS.ifYes X0.here hx rfl (pc0 := 1) (pc' := 12) rfl (dd hy dJ52_3_1) rfl ((if0 _ _).trans (flt (own_nn (by omega))).2.1) (by decide) (by decide) ?_
    show Steps _ _ _ (s₁.setTop (mkF m 12 #[.val (.int (Int32.ofNat n))] [])) _
    refine XS.iloadN X0.here hx rfl (dd hy dJ52_3_12) rfl ?_
    refine X0.ldcInt hx hown (mvT hZ (own_m hw 200 rfl)) (g := (mkF m 13 #[.val (.int (Int32.ofNat n))] [(.int (Int32.ofNat n))])) rfl (dd hy dJ52_3_13) _ ?_
    show Steps _ _ _ (s₁.setTop (mkF m 15 #[.val (.int (Int32.ofNat n))] [(.int (1073741823 : Int32)), (.int (Int32.ofNat n))])) _
    refine XS.icmpYes X0.here hx rfl (pc0 := 15) (pc' := 55) rfl (dd hy dJ52_3_15) rfl (tlt (own_ltbig (by omega))).1 (by decide) (by decide) ?_
    show Steps _ _ _ (s₁.setTop (mkF m 55 #[.val (.int (Int32.ofNat n))] [])) _
    refine XS.iloadN X0.here hx rfl (dd hy dJ52_3_55) rfl ?_
    refine XS.iconst X0.here hx rfl (dd hy dJ52_3_56) ?_
    refine XS.ishl X0.here hx rfl (dd hy dJ52_3_57) rfl ?_
    exact k_)
  obtain ⟨fs, hr, hrun, hended, hW, hsame⟩ := X0.leave (v := some (.int ((Int32.ofNat n) <<< ((1 : Int32) &&& 31)))) (fun h => by rw [Bd.returns] at h; cases h)
  refine ⟨_, _, s1 _ ?_, hrun, hended, _, _, rfl, ?_, ⟨_, rfl⟩, hW, hsame.mono (by decide) (by decide)⟩
  · exact retI X0 hx Bd.returns (dd hy dJ52_3_58) hr
  · show Q_rmNBL Z _ h0 n0 _ s₁.heap _
    rw [e0]
    exact ⟨(by rw [own_shl1 (by omega)]), N0, rfl⟩
theorem dJ52_2_0 : decode CJ52_2 0 = .ok (.iload_n 0, 1) := by decide +kernel
theorem pd__I_I : parseMethodDescriptor "(I)I" = some ⟨[.int], some .int⟩ := by decide +kernel
theorem dJ52_2_1 : decode CJ52_2 1 = .ok (.invokestatic 11, 3) := by decide +kernel
theorem dJ52_2_4 : decode CJ52_2 4 = .ok (.newarray .byte, 2) := by decide +kernel
theorem dJ52_2_6 : decode CJ52_2 6 = .ok (.areturn, 1) := by decide +kernel
theorem ef_rmNBF (m : MethodId) (x0 : Int32) : entryFrame m #[(.int x0)] 1 = mkF m 0 #[.val (.int x0)] [] := by first | (simp [entryFrame, mkF, argsToLocals, Value.category]; done) | rfl
abbrev R_rmNBF : Room := ({ frames := 1, cells := 1, slots := 32, locals := 12 } : Room)
def Q_rmNBF (Z : State) (n : Nat) (h0 : Heap) (n0 : Nat) (v : Option Value) (h : Heap) (L : List Loc) : Prop := ∃ (b : Addr), ∃ (kb : ClassId), (v = some (.ref b)) ∧ (Fr n0 L) ∧ (Keep h0 h []) ∧ (Arv Z h b kb .byte (Int32.ofNat (2 * n)) (List.replicate (2 * n) (.int (0 : Int32))) v0_) ∧ (h0.size ≤ b)
set_option maxRecDepth 65536 in
set_option maxHeartbeats 40000000 in
theorem rmNBF (l : Launch) (Z : State) (a0 : Array Value) (hw : HW Z a0) (ws : List Jvm.Cond) (n : Nat) (h0 : Heap) (n0 : Nat) (Z0 : n0 ≤ h0.size) (hb : n ≤ 16) :
    MF l Z M3_ (Jvm.Cond.code M3_ jdk_52_method_2_code 1 (some (.array .byte)) :: ws) R_rmNBF #[(.int (Int32.ofNat n))] h0 (Q_rmNBF Z n h0 n0) := by
  refine MetFree.of_bodySF (plainFor_of_name pn_java_lang_StringUTF16) hisR ?_
  intro p e s m args below meth c s₁ Bd hml0 hP hK
  obtain ⟨rfl, hZ, hh⟩ := hP
  have hx := Bd.exec
  have hy := Bd.bytes
  have hml : c.maxLocals = 1 := hml0
  have hown : s.vm.findClass "java/lang/StringUTF16" = some m.cls := findClass_of_methodNamed Bd.named
  have hnm := (name_of_methodNamed Bd.named Bd.method).1
  have X0 : Stand p l e R_rmNBF s m #[(.int (Int32.ofNat n))] below meth c s₁ [] 0 0 := Stand.of_body Bd
  have e0 : s₁.heap = h0 := by rw [← hh, Bd.state]; rfl
  have N0 := Fr.nil n0
  have pre0 := own_pre (p := p) (e := e) (below := below) (T := s₁) (ef_rmNBF m (Int32.ofNat n))
  have Zc1 : n0 ≤ h0.size := by omega
  obtain ⟨_, _, ⟨T2, L2, k2, n2⟩, -, X2, ⟨Lc2, hQ2, l2, y2, z2⟩, st2⟩ := Jvm.LawKit.callS X0 hx (y := M2_) hown (mvT hZ (own_m hw 197 rfl)) (mvT hZ (own_m hw 198 rfl)) (mvT hZ (own_m hw 21 rfl)) (mvT hZ (own_m hw 199 rfl)) (by decide) (backOf (W := 0) (rmNBL l Z a0 hw [] n h0 n0 Zc1 hb) hZ (own_m hw 199 rfl) (own_m hw 21 rfl) (by decide) (by decide)) (g := (mkF m 1 #[.val (.int (Int32.ofNat n))] [(.int (Int32.ofNat n))])) rfl (by rw [hml]; rfl) (argsL := [(.int (Int32.ofNat n))]) (rest := []) (lenOf pd__I_I rfl) rfl (by show 2 * 0 + _ ≤ _; exact Nat.le_of_eq rfl) (dd hy dJ52_2_1) (fun _ _ => ⟨rfl, e0, (by decide : 0 + 0 ≤ _), (by decide : 0 + 0 ≤ _)⟩)
  dsimp only [Pt.U, Pt.locs, Pt.cells, Pt.slots] at X2 l2 y2 z2 st2 hQ2
  subst l2 y2 z2
  obtain ⟨rfl, N2q, e2⟩ := hQ2
  have N2 := Fr.app N0 N2q
  obtain ⟨T3, h3, k3, X3, e3, E3, A3, st3⟩ := newP X2 hx hZ (own_m hw 23 rfl) e2 (g := (mkF m 4 #[.val (.int (Int32.ofNat n))] [(.int (Int32.ofNat (2 * n)))])) rfl (dd hy dJ52_2_4) rfl (own_nn (by omega)) (cap := 32) (by rw [own_tn (by omega)]; omega) (by decide) (by decide) (by decide)
  obtain ⟨b3, g3⟩ : ∃ z, z = h0.size := ⟨_, rfl⟩
  rw [← g3] at A3 st3
  have z4 : h0.size ≤ h3.size := E3.1
  have l3 : b3 < h3.size := A3.lt
  have V3 : Arv Z h3 b3 k3 .byte (Int32.ofNat (2 * n)) (List.replicate (2 * n) (.int (0 : Int32))) v0_ := (Arv.new A3 (own_nn (by omega))).pad (pad_rep [] _ (2 * n))
  have s5 : ∀ t_, Steps p.tables e below (T3.setTop (mkF m 6 #[.val (.int (Int32.ofNat n))] [(.ref b3)])) t_ → Steps _ _ _ _ t_ := fun t_ k_ => pre0 t_ (by
    refine XS.iloadN X0.here hx rfl (dd hy dJ52_2_0) rfl ?_
    refine st2 _ ?_
    show Steps _ _ _ (T2.setTop (mkF m 4 #[.val (.int (Int32.ofNat n))] [(.int (Int32.ofNat (2 * n)))])) _
    refine st3 _ ?_
    exact k_)
  obtain ⟨fs, hr, hrun, hended, hW, hsame⟩ := X3.leave (v := some (.ref b3)) (fun h => by rw [Bd.returns] at h; cases h)
  refine ⟨_, _, s5 _ ?_, hrun, hended, _, _, rfl, ?_, ⟨_, rfl⟩, hW, hsame.mono (by decide) (by decide)⟩
  · jvm_step X3.here [X3.here.top, hx, (dd hy dJ52_2_6), X3.method', Bd.returns, Value.isRef, FieldType.isReference]
    first | (intro acts; rw [hr _ acts rfl rfl rfl]) | rw [hr _ _ rfl rfl rfl]
    exact Steps.refl _
  · show Q_rmNBF Z _ h0 n0 _ T3.heap _
    rw [e3]
    exact ⟨b3, k3, rfl, N2, ((Keep.refl h0 []).ext E3), V3, by omega⟩
theorem dJ52_4_0 : decode CJ52_4 0 = .ok (.getstatic 44, 3) := by decide +kernel
theorem dJ52_4_3 : decode CJ52_4 3 = .ok (.ifCond .ne 25, 3) := by decide +kernel
theorem dJ52_4_28 : decode CJ52_4 28 = .ok (.iload_n 1, 1) := by decide +kernel
theorem dJ52_4_29 : decode CJ52_4 29 = .ok (.iconst 1, 1) := by decide +kernel
theorem dJ52_4_30 : decode CJ52_4 30 = .ok (.ishl, 1) := by decide +kernel
theorem dJ52_4_31 : decode CJ52_4 31 = .ok (.istore_n 1, 1) := by decide +kernel
theorem dJ52_4_32 : decode CJ52_4 32 = .ok (.aload_n 0, 1) := by decide +kernel
theorem dJ52_4_33 : decode CJ52_4 33 = .ok (.iload_n 1, 1) := by decide +kernel
theorem dJ52_4_34 : decode CJ52_4 34 = .ok (.iinc 1 1, 3) := by decide +kernel
theorem dJ52_4_37 : decode CJ52_4 37 = .ok (.iload_n 2, 1) := by decide +kernel
theorem dJ52_4_38 : decode CJ52_4 38 = .ok (.getstatic 59, 3) := by decide +kernel
theorem dJ52_4_41 : decode CJ52_4 41 = .ok (.ishr, 1) := by decide +kernel
theorem dJ52_4_42 : decode CJ52_4 42 = .ok (.i2b, 1) := by decide +kernel
theorem dJ52_4_43 : decode CJ52_4 43 = .ok (.bastore, 1) := by decide +kernel
theorem dJ52_4_44 : decode CJ52_4 44 = .ok (.aload_n 0, 1) := by decide +kernel
theorem dJ52_4_45 : decode CJ52_4 45 = .ok (.iload_n 1, 1) := by decide +kernel
theorem dJ52_4_46 : decode CJ52_4 46 = .ok (.iload_n 2, 1) := by decide +kernel
theorem dJ52_4_47 : decode CJ52_4 47 = .ok (.getstatic 63, 3) := by decide +kernel
theorem dJ52_4_50 : decode CJ52_4 50 = .ok (.ishr, 1) := by decide +kernel
theorem dJ52_4_51 : decode CJ52_4 51 = .ok (.i2b, 1) := by decide +kernel
theorem dJ52_4_52 : decode CJ52_4 52 = .ok (.bastore, 1) := by decide +kernel
theorem dJ52_4_53 : decode CJ52_4 53 = .ok (.return_, 1) := by decide +kernel
theorem ef_rmPut (m : MethodId) (x0 : Addr) (x1 : Int32) (x2 : Int32) : entryFrame m #[(.ref x0), (.int x1), (.int x2)] 3 = mkF m 0 #[.val (.ref x0), .val (.int x1), .val (.int x2)] [] := by first | (simp [entryFrame, mkF, argsToLocals, Value.category]; done) | rfl
abbrev R_rmPut : Room := ({ frames := 0, cells := 0, slots := 0, locals := 0 } : Room)
def Q_rmPut (Z : State) (ba : Addr) (ch : Int32) (kb : ClassId) (us : List Value) (n : Nat) (j : Nat) (h0 : Heap) (n0 : Nat) (v : Option Value) (h : Heap) (L : List Loc) : Prop := (v = none) ∧ (Fr n0 L) ∧ (Keep h0 h [ba]) ∧ (Arv Z h ba kb .byte (Int32.ofNat (2 * n)) ((us.set (2 * j) (.int (own_lo (ch >>> ((0 : Int32) &&& 31))))).set (2 * j + 1) (.int (own_lo (ch >>> ((8 : Int32) &&& 31))))) v0_)
set_option maxRecDepth 65536 in
set_option maxHeartbeats 40000000 in
theorem rmPut (l : Launch) (Z : State) (a0 : Array Value) (hw : HW Z a0) (ws : List Jvm.Cond) (ba : Addr) (ch : Int32) (kb : ClassId) (us : List Value) (n : Nat) (j : Nat) (h0 : Heap) (n0 : Nat) (Z0 : n0 ≤ h0.size) (I1 : Sta Z Z.heap cU cD "Z" (.int (1 : Int32))) (I2 : Sta Z Z.heap cU cH "I" (.int (0 : Int32))) (I3 : Sta Z Z.heap cU cL "I" (.int (8 : Int32))) (OX : Old Z n0 h0) (I4 : Arv Z h0 ba kb .byte (Int32.ofNat (2 * n)) us v0_) (hb : n ≤ 16) (hj : j < n) (hus : us.length = 2 * n) (gb : n0 ≤ ba) :
    MF l Z M4_ (Jvm.Cond.code M4_ jdk_52_method_4_code 3 none :: ws) R_rmPut #[(.ref ba), (.int (Int32.ofNat j)), (.int ch)] h0 (Q_rmPut Z ba ch kb us n j h0 n0) := by
  refine MetFree.of_bodySF (plainFor_of_name pn_java_lang_StringUTF16) hisR ?_
  intro p e s m args below meth c s₁ Bd hml0 hP hK
  obtain ⟨rfl, hZ, hh⟩ := hP
  have hx := Bd.exec
  have hy := Bd.bytes
  have hml : c.maxLocals = 3 := hml0
  have hown : s.vm.findClass "java/lang/StringUTF16" = some m.cls := findClass_of_methodNamed Bd.named
  have hnm := (name_of_methodNamed Bd.named Bd.method).1
  have X0 : Stand p l e R_rmPut s m #[(.ref ba), (.int (Int32.ofNat j)), (.int ch)] below meth c s₁ [] 0 0 := Stand.of_body Bd
  have e0 : s₁.heap = h0 := by rw [← hh, Bd.state]; rfl
  have N0 := Fr.nil n0
  have pre0 := own_pre (p := p) (e := e) (below := below) (T := s₁) (ef_rmPut m ba (Int32.ofNat j) ch)
  have lt_I4 : @LT.lt Nat _ ba h0.size := I4.lt
  obtain ⟨T1, X1, e1, st1⟩ := getS2 X0 hx hZ hown (host := "") (Or.inl (own_m hw 204 rfl)) Via.refl e0 (I1.ext OX.2) (g := (mkF m 0 #[.val (.ref ba), .val (.int (Int32.ofNat j)), .val (.int ch)] [])) rfl (dd hy dJ52_4_0)
  obtain ⟨T2, X2, e2, st2⟩ := getS2 X1 hx hZ hown (host := "") (Or.inl (own_m hw 205 rfl)) Via.refl e1 (I2.ext OX.2) (g := (mkF m 38 #[.val (.ref ba), .val (.int ((Int32.ofNat (2 * j)) + (1 : Int32))), .val (.int ch)] [(.int ch), (.int (Int32.ofNat (2 * j))), (.ref ba)])) rfl (dd hy dJ52_4_38)
  obtain ⟨cl3, Ar3, q3, S3, M3, H3, G3⟩ := id I4
  have hin3 : ¬ ((Int32.ofNat (2 * j)) < 0 ∨ cl3.slots.size ≤ ((Int32.ofNat (2 * j))).toNatClampNeg) := inb_of S3 (own_in (by omega) (by omega))
  obtain ⟨T4, h4, X4, e4, W4, st4⟩ := stB X2 hx hZ e2 Ar3 (j := (Int32.ofNat (2 * j))) hin3 (g := (mkF m 43 #[.val (.ref ba), .val (.int ((Int32.ofNat (2 * j)) + (1 : Int32))), .val (.int ch)] [(.int (own_lo (ch >>> ((0 : Int32) &&& 31)))), (.int (Int32.ofNat (2 * j))), (.ref ba)])) rfl rfl (dd hy dJ52_4_43)
  have z5 : h0.size ≤ h4.size := Nat.le_of_eq W4.size.symm
  have V4 : Arv Z h4 ba kb .byte (Int32.ofNat (2 * n)) (us.set (2 * j) (.int (own_lo (ch >>> ((0 : Int32) &&& 31))))) v0_ := by
    have q : Arv Z h4 ba kb .byte (Int32.ofNat (2 * n)) (us.set (2 * j) (.int (nar .byte (own_lo (ch >>> ((0 : Int32) &&& 31)))))) v0_ := Arv.set Ar3 q3 S3 M3 H3 G3 (fits_nar_byte _) W4 ((2 * j)) (own_tn (by omega)) (by first | omega | (simp only [List.length_set]; omega))
    rw [own_lolo] at q
    exact q
  have N4 := Fr.snoc X4 N0 (show n0 ≤ ba by omega)
  have O6 : Old Z n0 h4 := (OX.wr W4 (show n0 ≤ ba by omega))
  obtain ⟨T7, X7, e7, st7⟩ := getS2 X4 hx hZ hown (host := "") (Or.inl (own_m hw 206 rfl)) Via.refl e4 (I3.ext O6.2) (g := (mkF m 47 #[.val (.ref ba), .val (.int (Int32.ofNat (2 * j + 1))), .val (.int ch)] [(.int ch), (.int (Int32.ofNat (2 * j + 1))), (.ref ba)])) rfl (dd hy dJ52_4_47)
  obtain ⟨cl8, Ar8, q8, S8, M8, H8, G8⟩ := id V4
  have hin8 : ¬ ((Int32.ofNat (2 * j + 1)) < 0 ∨ cl8.slots.size ≤ ((Int32.ofNat (2 * j + 1))).toNatClampNeg) := inb_of S8 (own_in (by omega) (by omega))
  obtain ⟨T9, h9, X9, e9, W9, st9⟩ := stB X7 hx hZ e7 Ar8 (j := (Int32.ofNat (2 * j + 1))) hin8 (g := (mkF m 52 #[.val (.ref ba), .val (.int (Int32.ofNat (2 * j + 1))), .val (.int ch)] [(.int (own_lo (ch >>> ((8 : Int32) &&& 31)))), (.int (Int32.ofNat (2 * j + 1))), (.ref ba)])) rfl rfl (dd hy dJ52_4_52)
  have z10 : h4.size ≤ h9.size := Nat.le_of_eq W9.size.symm
  have V9 : Arv Z h9 ba kb .byte (Int32.ofNat (2 * n)) ((us.set (2 * j) (.int (own_lo (ch >>> ((0 : Int32) &&& 31))))).set (2 * j + 1) (.int (own_lo (ch >>> ((8 : Int32) &&& 31))))) v0_ := by
    have q : Arv Z h9 ba kb .byte (Int32.ofNat (2 * n)) ((us.set (2 * j) (.int (own_lo (ch >>> ((0 : Int32) &&& 31))))).set (2 * j + 1) (.int (nar .byte (own_lo (ch >>> ((8 : Int32) &&& 31)))))) v0_ := Arv.set Ar8 q8 S8 M8 H8 G8 (fits_nar_byte _) W9 ((2 * j + 1)) (own_tn (by omega)) (by first | omega | (simp only [List.length_set]; omega))
    rw [own_lolo] at q
    exact q
  have N9 := Fr.snoc X9 N4 (show n0 ≤ ba by omega)
  have s11 : ∀ t_, Steps p.tables e below (T9.setTop (mkF m 53 #[.val (.ref ba), .val (.int (Int32.ofNat (2 * j + 1))), .val (.int ch)] [])) t_ → Steps _ _ _ _ t_ := fun t_ k_ => pre0 t_ (by
    refine st1 _ ?_
    refine XS.ifYes X1.here hx rfl (pc0 := 3) (pc' := 28) rfl (dd hy dJ52_4_3) rfl ((if0 _ _).trans (feq (by decide : ¬ ((1 : Int32) = (0 : Int32)))).2) (by decide) (by decide) ?_
    show Steps _ _ _ (T1.setTop (mkF m 28 #[.val (.ref ba), .val (.int (Int32.ofNat j)), .val (.int ch)] [])) _
    refine XS.iloadN X1.here hx rfl (dd hy dJ52_4_28) rfl ?_
    refine XS.iconst X1.here hx rfl (dd hy dJ52_4_29) ?_
    refine XS.ishl X1.here hx rfl (dd hy dJ52_4_30) rfl ?_
    show Steps _ _ _ (T1.setTop (mkF m 31 #[.val (.ref ba), .val (.int (Int32.ofNat j)), .val (.int ch)] [(.int ((Int32.ofNat j) <<< ((1 : Int32) &&& 31)))])) _
    refine castTop (g' := (mkF m 31 #[.val (.ref ba), .val (.int (Int32.ofNat j)), .val (.int ch)] [(.int (Int32.ofNat (2 * j)))])) (by rw [own_shl1 (by omega)]) ?_
    show Steps _ _ _ (T1.setTop (mkF m 31 #[.val (.ref ba), .val (.int (Int32.ofNat j)), .val (.int ch)] [(.int (Int32.ofNat (2 * j)))])) _
    refine XS.istoreN X1.here hx rfl (dd hy dJ52_4_31) rfl (l' := #[.val (.ref ba), .val (.int (Int32.ofNat (2 * j))), .val (.int ch)]) rfl ?_
    refine XS.aloadN X1.here hx rfl (dd hy dJ52_4_32) rfl rfl ?_
    refine XS.iloadN X1.here hx rfl (dd hy dJ52_4_33) rfl ?_
    refine XS.iinc X1.here hx rfl (dd hy dJ52_4_34) rfl (l' := #[.val (.ref ba), .val (.int ((Int32.ofNat (2 * j)) + (1 : Int32))), .val (.int ch)]) rfl ?_
    refine XS.iloadN X1.here hx rfl (dd hy dJ52_4_37) rfl ?_
    refine st2 _ ?_
    show Steps _ _ _ (T2.setTop (mkF m 41 #[.val (.ref ba), .val (.int ((Int32.ofNat (2 * j)) + (1 : Int32))), .val (.int ch)] [(.int (0 : Int32)), (.int ch), (.int (Int32.ofNat (2 * j))), (.ref ba)])) _
    refine XS.ishr X2.here hx rfl (dd hy dJ52_4_41) rfl ?_
    refine XS.i2b X2.here hx rfl (dd hy dJ52_4_42) rfl ?_
    refine st4 _ ?_
    show Steps _ _ _ (T4.setTop (mkF m 44 #[.val (.ref ba), .val (.int ((Int32.ofNat (2 * j)) + (1 : Int32))), .val (.int ch)] [])) _
    refine castTop (g' := (mkF m 44 #[.val (.ref ba), .val (.int (Int32.ofNat (2 * j + 1))), .val (.int ch)] [])) (by rw [← own_up]) ?_
    show Steps _ _ _ (T4.setTop (mkF m 44 #[.val (.ref ba), .val (.int (Int32.ofNat (2 * j + 1))), .val (.int ch)] [])) _
    refine XS.aloadN X4.here hx rfl (dd hy dJ52_4_44) rfl rfl ?_
    refine XS.iloadN X4.here hx rfl (dd hy dJ52_4_45) rfl ?_
    refine XS.iloadN X4.here hx rfl (dd hy dJ52_4_46) rfl ?_
    refine st7 _ ?_
    refine XS.ishr X7.here hx rfl (dd hy dJ52_4_50) rfl ?_
    refine XS.i2b X7.here hx rfl (dd hy dJ52_4_51) rfl ?_
    show Steps _ _ _ (T7.setTop (mkF m 52 #[.val (.ref ba), .val (.int (Int32.ofNat (2 * j + 1))), .val (.int ch)] [(.int (own_lo (ch >>> ((8 : Int32) &&& 31)))), (.int (Int32.ofNat (2 * j + 1))), (.ref ba)])) _
    refine st9 _ ?_
    exact k_)
  obtain ⟨fs, hr, hrun, hended, hW, hsame⟩ := X9.leave (v := none) (fun _ => rfl)
  refine ⟨_, _, s11 _ ?_, hrun, hended, _, _, rfl, ?_, ⟨_, rfl⟩, hW, hsame.mono (by decide) (by decide)⟩
  · exact X9.returnOut hx Bd.returns (dd hy dJ52_4_53) hr
  · show Q_rmPut Z _ _ _ _ _ _ h0 n0 _ T9.heap _
    rw [e9]
    exact ⟨rfl, N9, (((Keep.refl h0 [ba]).wr W4 (Or.inl (by simp))).wr W9 (Or.inl (by simp))), V9⟩
theorem dJ52_5_0 : decode CJ52_5 0 = .ok (.getstatic 44, 3) := by decide +kernel
theorem dJ52_5_3 : decode CJ52_5 3 = .ok (.ifCond .ne 25, 3) := by decide +kernel
theorem dJ52_5_28 : decode CJ52_5 28 = .ok (.iload_n 1, 1) := by decide +kernel
theorem dJ52_5_29 : decode CJ52_5 29 = .ok (.iconst 1, 1) := by decide +kernel
theorem dJ52_5_30 : decode CJ52_5 30 = .ok (.ishl, 1) := by decide +kernel
theorem dJ52_5_31 : decode CJ52_5 31 = .ok (.istore_n 1, 1) := by decide +kernel
theorem dJ52_5_32 : decode CJ52_5 32 = .ok (.aload_n 0, 1) := by decide +kernel
theorem dJ52_5_33 : decode CJ52_5 33 = .ok (.iload_n 1, 1) := by decide +kernel
theorem dJ52_5_34 : decode CJ52_5 34 = .ok (.iinc 1 1, 3) := by decide +kernel
theorem dJ52_5_37 : decode CJ52_5 37 = .ok (.baload, 1) := by decide +kernel
theorem dJ52_5_38 : decode CJ52_5 38 = .ok (.sipush 255, 3) := by decide +kernel
theorem dJ52_5_41 : decode CJ52_5 41 = .ok (.iand, 1) := by decide +kernel
theorem dJ52_5_42 : decode CJ52_5 42 = .ok (.getstatic 59, 3) := by decide +kernel
theorem dJ52_5_45 : decode CJ52_5 45 = .ok (.ishl, 1) := by decide +kernel
theorem dJ52_5_46 : decode CJ52_5 46 = .ok (.aload_n 0, 1) := by decide +kernel
theorem dJ52_5_47 : decode CJ52_5 47 = .ok (.iload_n 1, 1) := by decide +kernel
theorem dJ52_5_48 : decode CJ52_5 48 = .ok (.baload, 1) := by decide +kernel
theorem dJ52_5_49 : decode CJ52_5 49 = .ok (.sipush 255, 3) := by decide +kernel
theorem dJ52_5_52 : decode CJ52_5 52 = .ok (.iand, 1) := by decide +kernel
theorem dJ52_5_53 : decode CJ52_5 53 = .ok (.getstatic 63, 3) := by decide +kernel
theorem dJ52_5_56 : decode CJ52_5 56 = .ok (.ishl, 1) := by decide +kernel
theorem dJ52_5_57 : decode CJ52_5 57 = .ok (.ior, 1) := by decide +kernel
theorem dJ52_5_58 : decode CJ52_5 58 = .ok (.i2c, 1) := by decide +kernel
theorem dJ52_5_59 : decode CJ52_5 59 = .ok (.ireturn, 1) := by decide +kernel
theorem ef_rmGet (m : MethodId) (x0 : Addr) (x1 : Int32) : entryFrame m #[(.ref x0), (.int x1)] 2 = mkF m 0 #[.val (.ref x0), .val (.int x1)] [] := by first | (simp [entryFrame, mkF, argsToLocals, Value.category]; done) | rfl
abbrev R_rmGet : Room := ({ frames := 0, cells := 0, slots := 0, locals := 0 } : Room)
def Q_rmGet (Z : State) (ba : Addr) (kb : ClassId) (us : List Value) (n : Nat) (j : Nat) (ch : Int32) (h0 : Heap) (n0 : Nat) (v : Option Value) (h : Heap) (L : List Loc) : Prop := (v = some (.int ch)) ∧ (Fr n0 L) ∧ (h = h0)
set_option maxRecDepth 65536 in
set_option maxHeartbeats 40000000 in
theorem rmGet (l : Launch) (Z : State) (a0 : Array Value) (hw : HW Z a0) (ws : List Jvm.Cond) (ba : Addr) (kb : ClassId) (us : List Value) (n : Nat) (j : Nat) (ch : Int32) (h0 : Heap) (n0 : Nat) (Z0 : n0 ≤ h0.size) (I1 : Sta Z Z.heap cU cD "Z" (.int (1 : Int32))) (I2 : Sta Z Z.heap cU cH "I" (.int (0 : Int32))) (I3 : Sta Z Z.heap cU cL "I" (.int (8 : Int32))) (OX : Old Z n0 h0) (I4 : Arv Z h0 ba kb .byte (Int32.ofNat (2 * n)) us v0_) (hb : n ≤ 16) (hj : j < n) (hu0 : us.getD (2 * j) (.int (0 : Int32)) = .int (own_lo (ch >>> ((0 : Int32) &&& 31)))) (hu1 : us.getD (2 * j + 1) (.int (0 : Int32)) = .int (own_lo (ch >>> ((8 : Int32) &&& 31)))) (hc0 : ¬ (ch < (0 : Int32))) (hc1 : ¬ ((65535 : Int32) < ch)) :
    MF l Z M5_ (Jvm.Cond.code M5_ jdk_52_method_5_code 2 (some .char) :: ws) R_rmGet #[(.ref ba), (.int (Int32.ofNat j))] h0 (Q_rmGet Z ba kb us n j ch h0 n0) := by
  refine MetFree.of_bodySF (plainFor_of_name pn_java_lang_StringUTF16) hisR ?_
  intro p e s m args below meth c s₁ Bd hml0 hP hK
  obtain ⟨rfl, hZ, hh⟩ := hP
  have hx := Bd.exec
  have hy := Bd.bytes
  have hml : c.maxLocals = 2 := hml0
  have hown : s.vm.findClass "java/lang/StringUTF16" = some m.cls := findClass_of_methodNamed Bd.named
  have hnm := (name_of_methodNamed Bd.named Bd.method).1
  have X0 : Stand p l e R_rmGet s m #[(.ref ba), (.int (Int32.ofNat j))] below meth c s₁ [] 0 0 := Stand.of_body Bd
  have e0 : s₁.heap = h0 := by rw [← hh, Bd.state]; rfl
  have N0 := Fr.nil n0
  have pre0 := own_pre (p := p) (e := e) (below := below) (T := s₁) (ef_rmGet m ba (Int32.ofNat j))
  have lt_I4 : @LT.lt Nat _ ba h0.size := I4.lt
  obtain ⟨T1, X1, e1, st1⟩ := getS2 X0 hx hZ hown (host := "") (Or.inl (own_m hw 204 rfl)) Via.refl e0 (I1.ext OX.2) (g := (mkF m 0 #[.val (.ref ba), .val (.int (Int32.ofNat j))] [])) rfl (dd hy dJ52_5_0)
  obtain ⟨cl2, Ar2, -, S2, M2, H2, -⟩ := id I4
  have hin2 : ¬ ((Int32.ofNat (2 * j)) < 0 ∨ cl2.slots.size ≤ ((Int32.ofNat (2 * j))).toNatClampNeg) := inb_of S2 (own_in (by omega) (by omega))
  have hat2 : cl2.slots[((Int32.ofNat (2 * j))).toNatClampNeg]? = some (.int (own_lo (ch >>> ((0 : Int32) &&& 31)))) := H2.at hin2 (by rw [own_tn (by omega)]; exact hu0)
  obtain ⟨T3, X3, e3, st3⟩ := getS2 X1 hx hZ hown (host := "") (Or.inl (own_m hw 205 rfl)) Via.refl e1 (I2.ext OX.2) (g := (mkF m 42 #[.val (.ref ba), .val (.int (Int32.ofNat (2 * j + 1)))] [(.int ((own_lo (ch >>> ((0 : Int32) &&& 31))) &&& (255 : Int32)))])) rfl (dd hy dJ52_5_42)
  obtain ⟨cl4, Ar4, -, S4, M4, H4, -⟩ := id I4
  have hin4 : ¬ ((Int32.ofNat (2 * j + 1)) < 0 ∨ cl4.slots.size ≤ ((Int32.ofNat (2 * j + 1))).toNatClampNeg) := inb_of S4 (own_in (by omega) (by omega))
  have hat4 : cl4.slots[((Int32.ofNat (2 * j + 1))).toNatClampNeg]? = some (.int (own_lo (ch >>> ((8 : Int32) &&& 31)))) := H4.at hin4 (by rw [own_tn (by omega)]; exact hu1)
  obtain ⟨T5, X5, e5, st5⟩ := getS2 X3 hx hZ hown (host := "") (Or.inl (own_m hw 206 rfl)) Via.refl e3 (I3.ext OX.2) (g := (mkF m 53 #[.val (.ref ba), .val (.int (Int32.ofNat (2 * j + 1)))] [(.int ((own_lo (ch >>> ((8 : Int32) &&& 31))) &&& (255 : Int32))), (.int (((own_lo (ch >>> ((0 : Int32) &&& 31))) &&& (255 : Int32)) <<< ((0 : Int32) &&& 31)))])) rfl (dd hy dJ52_5_53)
  have s6 : ∀ t_, Steps p.tables e below (T5.setTop (mkF m 59 #[.val (.ref ba), .val (.int (Int32.ofNat (2 * j + 1)))] [(.int (i2c ((((own_lo (ch >>> ((0 : Int32) &&& 31))) &&& (255 : Int32)) <<< ((0 : Int32) &&& 31)) ||| (((own_lo (ch >>> ((8 : Int32) &&& 31))) &&& (255 : Int32)) <<< ((8 : Int32) &&& 31)))))])) t_ → Steps _ _ _ _ t_ := fun t_ k_ => pre0 t_ (by
    refine st1 _ ?_
    refine XS.ifYes X1.here hx rfl (pc0 := 3) (pc' := 28) rfl (dd hy dJ52_5_3) rfl ((if0 _ _).trans (feq (by decide : ¬ ((1 : Int32) = (0 : Int32)))).2) (by decide) (by decide) ?_
    show Steps _ _ _ (T1.setTop (mkF m 28 #[.val (.ref ba), .val (.int (Int32.ofNat j))] [])) _
    refine XS.iloadN X1.here hx rfl (dd hy dJ52_5_28) rfl ?_
    refine XS.iconst X1.here hx rfl (dd hy dJ52_5_29) ?_
    refine XS.ishl X1.here hx rfl (dd hy dJ52_5_30) rfl ?_
    show Steps _ _ _ (T1.setTop (mkF m 31 #[.val (.ref ba), .val (.int (Int32.ofNat j))] [(.int ((Int32.ofNat j) <<< ((1 : Int32) &&& 31)))])) _
    refine castTop (g' := (mkF m 31 #[.val (.ref ba), .val (.int (Int32.ofNat j))] [(.int (Int32.ofNat (2 * j)))])) (by rw [own_shl1 (by omega)]) ?_
    show Steps _ _ _ (T1.setTop (mkF m 31 #[.val (.ref ba), .val (.int (Int32.ofNat j))] [(.int (Int32.ofNat (2 * j)))])) _
    refine XS.istoreN X1.here hx rfl (dd hy dJ52_5_31) rfl (l' := #[.val (.ref ba), .val (.int (Int32.ofNat (2 * j)))]) rfl ?_
    refine XS.aloadN X1.here hx rfl (dd hy dJ52_5_32) rfl rfl ?_
    refine XS.iloadN X1.here hx rfl (dd hy dJ52_5_33) rfl ?_
    refine XS.iinc X1.here hx rfl (dd hy dJ52_5_34) rfl (l' := #[.val (.ref ba), .val (.int ((Int32.ofNat (2 * j)) + (1 : Int32)))]) rfl ?_
    show Steps _ _ _ (T1.setTop (mkF m 37 #[.val (.ref ba), .val (.int ((Int32.ofNat (2 * j)) + (1 : Int32)))] [(.int (Int32.ofNat (2 * j))), (.ref ba)])) _
    refine castTop (g' := (mkF m 37 #[.val (.ref ba), .val (.int (Int32.ofNat (2 * j + 1)))] [(.int (Int32.ofNat (2 * j))), (.ref ba)])) (by rw [← own_up]) ?_
    show Steps _ _ _ (T1.setTop (mkF m 37 #[.val (.ref ba), .val (.int (Int32.ofNat (2 * j + 1)))] [(.int (Int32.ofNat (2 * j))), (.ref ba)])) _
    refine X1.baloadBytes hx (j := (Int32.ofNat (2 * j))) (v := (.int (own_lo (ch >>> ((0 : Int32) &&& 31))))) (by rw [e1]; exact Ar2.1) (State.isArrayOf_alike hZ.alike Ar2.2.1) Ar2.2.2 hin2 hat2 (g := (mkF m 37 #[.val (.ref ba), .val (.int (Int32.ofNat (2 * j + 1)))] [(.int (Int32.ofNat (2 * j))), (.ref ba)])) rfl rfl (dd hy dJ52_5_37) _ ?_
    refine XS.sipush X1.here hx rfl (dd hy dJ52_5_38) ?_
    refine XS.iand X1.here hx rfl (dd hy dJ52_5_41) rfl ?_
    refine st3 _ ?_
    refine XS.ishl X3.here hx rfl (dd hy dJ52_5_45) rfl ?_
    refine XS.aloadN X3.here hx rfl (dd hy dJ52_5_46) rfl rfl ?_
    show Steps _ _ _ (T3.setTop (mkF m 47 #[.val (.ref ba), .val (.int (Int32.ofNat (2 * j + 1)))] [(.ref ba), (.int (((own_lo (ch >>> ((0 : Int32) &&& 31))) &&& (255 : Int32)) <<< ((0 : Int32) &&& 31)))])) _
    refine XS.iloadN X3.here hx rfl (dd hy dJ52_5_47) rfl ?_
    refine X3.baloadBytes hx (j := (Int32.ofNat (2 * j + 1))) (v := (.int (own_lo (ch >>> ((8 : Int32) &&& 31))))) (by rw [e3]; exact Ar4.1) (State.isArrayOf_alike hZ.alike Ar4.2.1) Ar4.2.2 hin4 hat4 (g := (mkF m 48 #[.val (.ref ba), .val (.int (Int32.ofNat (2 * j + 1)))] [(.int (Int32.ofNat (2 * j + 1))), (.ref ba), (.int (((own_lo (ch >>> ((0 : Int32) &&& 31))) &&& (255 : Int32)) <<< ((0 : Int32) &&& 31)))])) rfl rfl (dd hy dJ52_5_48) _ ?_
    refine XS.sipush X3.here hx rfl (dd hy dJ52_5_49) ?_
    refine XS.iand X3.here hx rfl (dd hy dJ52_5_52) rfl ?_
    refine st5 _ ?_
    refine XS.ishl X5.here hx rfl (dd hy dJ52_5_56) rfl ?_
    show Steps _ _ _ (T5.setTop (mkF m 57 #[.val (.ref ba), .val (.int (Int32.ofNat (2 * j + 1)))] [(.int (((own_lo (ch >>> ((8 : Int32) &&& 31))) &&& (255 : Int32)) <<< ((8 : Int32) &&& 31))), (.int (((own_lo (ch >>> ((0 : Int32) &&& 31))) &&& (255 : Int32)) <<< ((0 : Int32) &&& 31)))])) _
    refine XS.ior X5.here hx rfl (dd hy dJ52_5_57) rfl ?_
    refine XS.i2c X5.here hx rfl (dd hy dJ52_5_58) rfl ?_
    exact k_)
  obtain ⟨fs, hr, hrun, hended, hW, hsame⟩ := X5.leave (v := some (.int (nar .char (i2c ((((own_lo (ch >>> ((0 : Int32) &&& 31))) &&& (255 : Int32)) <<< ((0 : Int32) &&& 31)) ||| (((own_lo (ch >>> ((8 : Int32) &&& 31))) &&& (255 : Int32)) <<< ((8 : Int32) &&& 31))))))) (fun h => by rw [Bd.returns] at h; cases h)
  refine ⟨_, _, s6 _ ?_, hrun, hended, _, _, rfl, ?_, ⟨_, rfl⟩, hW, hsame.mono (by decide) (by decide)⟩
  · exact retN X5 hx (t := .char) Bd.returns (by simp) (dd hy dJ52_5_59) hr
  · show Q_rmGet Z _ _ _ _ _ _ h0 n0 _ T5.heap _
    rw [e5]
    exact ⟨(by rw [own_pair hc0 hc1, own_narc hc0 hc1]), N0, rfl⟩
theorem dJ52_14_0 : decode CJ52_14 0 = .ok (.iload_n 2, 1) := by decide +kernel
theorem pd__I__B : parseMethodDescriptor "(I)[B" = some ⟨[.int], some (.array .byte)⟩ := by decide +kernel
theorem dJ52_14_1 : decode CJ52_14 1 = .ok (.invokestatic 107, 3) := by decide +kernel
theorem dJ52_14_4 : decode CJ52_14 4 = .ok (.astore_n 3, 1) := by decide +kernel
theorem dJ52_14_5 : decode CJ52_14 5 = .ok (.iconst 0, 1) := by decide +kernel
theorem dJ52_14_6 : decode CJ52_14 6 = .ok (.istore 4, 2) := by decide +kernel
theorem dJ52_14_8 : decode CJ52_14 8 = .ok (.iload 4, 2) := by decide +kernel
theorem dJ52_14_10 : decode CJ52_14 10 = .ok (.iload_n 2, 1) := by decide +kernel
theorem dJ52_14_11 : decode CJ52_14 11 = .ok (.if_icmp .ge 21, 3) := by decide +kernel
theorem dJ52_14_14 : decode CJ52_14 14 = .ok (.aload_n 3, 1) := by decide +kernel
theorem dJ52_14_15 : decode CJ52_14 15 = .ok (.iload 4, 2) := by decide +kernel
theorem dJ52_14_17 : decode CJ52_14 17 = .ok (.aload_n 0, 1) := by decide +kernel
theorem dJ52_14_18 : decode CJ52_14 18 = .ok (.iload_n 1, 1) := by decide +kernel
theorem dJ52_14_19 : decode CJ52_14 19 = .ok (.caload, 1) := by decide +kernel
theorem pd___BII_V : parseMethodDescriptor "([BII)V" = some ⟨[(.array .byte), .int, .int], none⟩ := by decide +kernel
theorem dJ52_14_20 : decode CJ52_14 20 = .ok (.invokestatic 111, 3) := by decide +kernel
theorem dJ52_14_23 : decode CJ52_14 23 = .ok (.iinc 1 1, 3) := by decide +kernel
theorem dJ52_14_26 : decode CJ52_14 26 = .ok (.iinc 4 1, 3) := by decide +kernel
theorem dJ52_14_29 : decode CJ52_14 29 = .ok (.goto (-21), 3) := by decide +kernel
theorem dJ52_14_32 : decode CJ52_14 32 = .ok (.aload_n 3, 1) := by decide +kernel
theorem dJ52_14_33 : decode CJ52_14 33 = .ok (.areturn, 1) := by decide +kernel
theorem ef_rmTo (m : MethodId) (x0 : Addr) (x1 : Int32) (x2 : Int32) : entryFrame m #[(.ref x0), (.int x1), (.int x2)] 5 = mkF m 0 #[.val (.ref x0), .val (.int x1), .val (.int x2), .unset, .unset] [] := by first | (simp [entryFrame, mkF, argsToLocals, Value.category]; done) | rfl
abbrev R_rmTo : Room := ({ frames := 2, cells := 1, slots := 32, locals := 24 } : Room)
def Q_rmTo (Z : State) (ca : Addr) (cs : List Int32) (kc : ClassId) (n : Nat) (h0 : Heap) (n0 : Nat) (v : Option Value) (h : Heap) (L : List Loc) : Prop := ∃ (b : Addr), ∃ (kb : ClassId), (v = some (.ref b)) ∧ (Fr n0 L) ∧ (Keep h0 h []) ∧ (Arv Z h b kb .byte (Int32.ofNat (2 * n)) (own_wide cs) v0_) ∧ (h0.size ≤ b)
set_option maxRecDepth 65536 in
set_option maxHeartbeats 40000000 in
theorem rmTo (l : Launch) (Z : State) (a0 : Array Value) (hw : HW Z a0) (ws : List Jvm.Cond) (ca : Addr) (cs : List Int32) (kc : ClassId) (n : Nat) (h0 : Heap) (n0 : Nat) (Z0 : n0 ≤ h0.size) (I1 : Sta Z Z.heap cU cD "Z" (.int (1 : Int32))) (I2 : Sta Z Z.heap cU cH "I" (.int (0 : Int32))) (I3 : Sta Z Z.heap cU cL "I" (.int (8 : Int32))) (OX : Old Z n0 h0) (I4 : Arv Z h0 ca kc .char (Int32.ofNat n) (cs.map Value.int) v0_) (hn : cs.length = n) (hb : n ≤ 16) :
    MF l Z M6_ (Jvm.Cond.code M6_ jdk_52_method_14_code 5 (some (.array .byte)) :: ws) R_rmTo #[(.ref ca), (.int (0 : Int32)), (.int (Int32.ofNat n))] h0 (Q_rmTo Z ca cs kc n h0 n0) := by
  refine MetFree.of_bodySF (plainFor_of_name pn_java_lang_StringUTF16) hisR ?_
  intro p e s m args below meth c s₁ Bd hml0 hP hK
  obtain ⟨rfl, hZ, hh⟩ := hP
  have hx := Bd.exec
  have hy := Bd.bytes
  have hml : c.maxLocals = 5 := hml0
  have hown : s.vm.findClass "java/lang/StringUTF16" = some m.cls := findClass_of_methodNamed Bd.named
  have hnm := (name_of_methodNamed Bd.named Bd.method).1
  have X0 : Stand p l e R_rmTo s m #[(.ref ca), (.int (0 : Int32)), (.int (Int32.ofNat n))] below meth c s₁ [] 0 0 := Stand.of_body Bd
  have e0 : s₁.heap = h0 := by rw [← hh, Bd.state]; rfl
  have N0 := Fr.nil n0
  have pre0 := own_pre (p := p) (e := e) (below := below) (T := s₁) (ef_rmTo m ca (0 : Int32) (Int32.ofNat n))
  have lt_I4 : @LT.lt Nat _ ca h0.size := I4.lt
  have Zc1 : n0 ≤ h0.size := by omega
  obtain ⟨_, _, ⟨T2, L2, k2, n2⟩, -, X2, ⟨Lc2, hQ2, l2, y2, z2⟩, st2⟩ := Jvm.LawKit.callS X0 hx (y := M3_) hown (mvT hZ (own_m hw 194 rfl)) (mvT hZ (own_m hw 195 rfl)) (mvT hZ (own_m hw 21 rfl)) (mvT hZ (own_m hw 196 rfl)) (by decide) (backOf (W := 0) (rmNBF l Z a0 hw [] n h0 n0 Zc1 hb) hZ (own_m hw 196 rfl) (own_m hw 21 rfl) (by decide) (by decide)) (g := (mkF m 1 #[.val (.ref ca), .val (.int (0 : Int32)), .val (.int (Int32.ofNat n)), .unset, .unset] [(.int (Int32.ofNat n))])) rfl (by rw [hml]; rfl) (argsL := [(.int (Int32.ofNat n))]) (rest := []) (lenOf pd__I__B rfl) rfl (by show 2 * 0 + _ ≤ _; exact Nat.le_of_eq rfl) (dd hy dJ52_14_1) (fun _ _ => ⟨rfl, e0, (by decide : 0 + 1 ≤ _), (by decide : 0 + 32 ≤ _)⟩)
  dsimp only [Pt.U, Pt.locs, Pt.cells, Pt.slots] at X2 l2 y2 z2 st2 hQ2
  subst l2 y2 z2
  obtain ⟨b_2, kb_2, rfl, N2q, K2, Fq2_0, P2_0⟩ := hQ2
  have N2 := Fr.app N0 N2q
  obtain ⟨h2, e2⟩ : ∃ z, T2.heap = z := ⟨_, rfl⟩
  rw [e2] at K2 Fq2_0
  have z3 : h0.size ≤ h2.size := K2.1
  have lt2_0 : @LT.lt Nat _ b_2 h2.size := Fq2_0.lt
  have s4 : ∀ t_, Steps p.tables e below (T2.setTop (mkF m 8 #[.val (.ref ca), .val (.int (0 : Int32)), .val (.int (Int32.ofNat n)), .val (.ref b_2), .val (.int (0 : Int32))] [])) t_ → Steps _ _ _ _ t_ := fun t_ k_ => pre0 t_ (by
    refine XS.iloadN X0.here hx rfl (dd hy dJ52_14_0) rfl ?_
    refine st2 _ ?_
    show Steps _ _ _ (T2.setTop (mkF m 4 #[.val (.ref ca), .val (.int (0 : Int32)), .val (.int (Int32.ofNat n)), .unset, .unset] [(.ref b_2)])) _
    refine XS.astoreN X2.here hx rfl (dd hy dJ52_14_4) rfl rfl (l' := #[.val (.ref ca), .val (.int (0 : Int32)), .val (.int (Int32.ofNat n)), .val (.ref b_2), .unset]) rfl ?_
    refine XS.iconst X2.here hx rfl (dd hy dJ52_14_5) ?_
    refine XS.istore X2.here hx rfl (dd hy dJ52_14_6) rfl (l' := #[.val (.ref ca), .val (.int (0 : Int32)), .val (.int (Int32.ofNat n)), .val (.ref b_2), .val (.int (0 : Int32))]) rfl ?_
    exact k_)
  have lp5 : ∀ (k_ : Nat) (j : Nat) (T_ : State) (lo_ : List Loc) (hh5 : Heap), j + k_ = n → Stand p l e R_rmTo s m #[(.ref ca), (.int (0 : Int32)), (.int (Int32.ofNat n))] below meth c T_ lo_ 1 32 → T_.heap = hh5 → Fr n0 lo_ → Keep h2 hh5 [b_2] → Arv Z hh5 b_2 kb_2 .byte (Int32.ofNat (2 * n)) (own_mix (own_wide cs) (List.replicate (2 * n) (.int (0 : Int32))) (2 * j)) v0_ → ∃ (T' : State) (lo' : List Loc) (hx_ : Heap) (fe_ : JFrame), Stand p l e R_rmTo s m #[(.ref ca), (.int (0 : Int32)), (.int (Int32.ofNat n))] below meth c T' lo' 1 32 ∧ T'.heap = hx_ ∧ Fr n0 lo' ∧ Keep h2 hx_ [b_2] ∧ ((fe_ = (mkF m 32 #[.val (.ref ca), .val (.int (Int32.ofNat n)), .val (.int (Int32.ofNat n)), .val (.ref b_2), .val (.int (Int32.ofNat n))] []) ∧ Arv Z hx_ b_2 kb_2 .byte (Int32.ofNat (2 * n)) (own_mix (own_wide cs) (List.replicate (2 * n) (.int (0 : Int32))) (2 * n)) v0_)) ∧ ∀ t_, Steps p.tables e below (T'.setTop fe_) t_ → Steps p.tables e below (T_.setTop (mkF m 8 #[.val (.ref ca), .val (.int (Int32.ofNat j)), .val (.int (Int32.ofNat n)), .val (.ref b_2), .val (.int (Int32.ofNat j))] [])) t_ := by
    intro k_
    induction k_ with
    | zero => 
      intro j T_ lo_ hh5 hm_ X_ e_ N_ K_ F_0
      have zk_ : h2.size ≤ hh5.size := K_.1
      have s6 : ∀ t_, Steps p.tables e below (T_.setTop (mkF m 32 #[.val (.ref ca), .val (.int (Int32.ofNat j)), .val (.int (Int32.ofNat n)), .val (.ref b_2), .val (.int (Int32.ofNat j))] [])) t_ → Steps p.tables e below (T_.setTop (mkF m 8 #[.val (.ref ca), .val (.int (Int32.ofNat j)), .val (.int (Int32.ofNat n)), .val (.ref b_2), .val (.int (Int32.ofNat j))] [])) t_ := fun t_ k_ => (fun _ k_ => k_) t_ (by
        refine XS.iload X_.here hx rfl (dd hy dJ52_14_8) rfl ?_
        refine XS.iloadN X_.here hx rfl (dd hy dJ52_14_10) rfl ?_
        refine XS.icmpYes X_.here hx rfl (pc0 := 11) (pc' := 32) rfl (dd hy dJ52_14_11) rfl (flt (own_nlt (by omega) (by omega))).2.1 (by decide) (by decide) ?_
        show Steps _ _ _ (T_.setTop (mkF m 32 #[.val (.ref ca), .val (.int (Int32.ofNat j)), .val (.int (Int32.ofNat n)), .val (.ref b_2), .val (.int (Int32.ofNat j))] [])) _
        exact k_)
      exact ⟨T_, _, _, _, X_, e_, N_, ((Keep.refl h2 [b_2]).trans K_ (allS (Or.inl (by simp)) all0)), ⟨(by rw [show j = n by omega]), (by obtain rfl : j = n := (by omega); exact F_0)⟩, s6⟩
    | succ k_ ih => 
      intro j T_ lo_ hh5 hm_ X_ e_ N_ K_ F_0
      have zk_ : h2.size ≤ hh5.size := K_.1
      have f7 : Arv Z hh5 ca kc .char (Int32.ofNat n) (cs.map Value.int) v0_ := ((I4.keep K2 nin0).keep K_ (ninS (show @Ne Nat ca b_2 by omega) nin0))
      obtain ⟨cl8, Ar8, -, S8, M8, H8, -⟩ := id f7
      have hin8 : ¬ ((Int32.ofNat j) < 0 ∨ cl8.slots.size ≤ ((Int32.ofNat j)).toNatClampNeg) := inb_of S8 (own_in (by omega) (by omega))
      have hat8 : cl8.slots[((Int32.ofNat j)).toNatClampNeg]? = some (.int (cs.getD j 0)) := H8.at hin8 (own_getc cs j _ (by omega) (by omega))
      have O9 : Old Z n0 hh5 := ((OX.keep K2 all0).keep K_ (allS (show n0 ≤ b_2 by omega) all0))
      have Zc10 : n0 ≤ hh5.size := by omega
      obtain ⟨_, _, ⟨T11, L11, k11, n11⟩, -, X11, ⟨Lc11, hQ11, l11, y11, z11⟩, st11⟩ := Jvm.LawKit.callS X_ hx (y := M4_) hown (mvT hZ (own_m hw 201 rfl)) (mvT hZ (own_m hw 202 rfl)) (mvT hZ (own_m hw 21 rfl)) (mvT hZ (own_m hw 203 rfl)) (by decide) (backOf (W := 0) (rmPut l Z a0 hw [] b_2 (cs.getD j 0) kb_2 (own_mix (own_wide cs) (List.replicate (2 * n) (.int (0 : Int32))) (2 * j)) n j hh5 n0 Zc10 I1 I2 I3 O9 F_0 hb (by first | assumption | omega | rfl | decide) (by rw [own_mixl _ _ _ (by rw [own_widel]; simp; omega)]; simp) (by first | assumption | omega | rfl | decide)) hZ (own_m hw 203 rfl) (own_m hw 21 rfl) (by decide) (by decide)) (g := (mkF m 20 #[.val (.ref ca), .val (.int (Int32.ofNat j)), .val (.int (Int32.ofNat n)), .val (.ref b_2), .val (.int (Int32.ofNat j))] [(.int (cs.getD j 0)), (.int (Int32.ofNat j)), (.ref b_2)])) rfl (by rw [hml]; rfl) (argsL := [(.ref b_2), (.int (Int32.ofNat j)), (.int (cs.getD j 0))]) (rest := []) (lenOf pd___BII_V rfl) rfl (by show 2 * 0 + _ ≤ _; exact Nat.le_of_eq rfl) (dd hy dJ52_14_20) (fun _ _ => ⟨rfl, e_, (by decide : 1 + 0 ≤ _), (by decide : 32 + 0 ≤ _)⟩)
      dsimp only [Pt.U, Pt.locs, Pt.cells, Pt.slots] at X11 l11 y11 z11 st11 hQ11
      subst l11 y11 z11
      obtain ⟨rfl, N11q, K11, Fq11_0⟩ := hQ11
      have N11 := Fr.app N_ N11q
      obtain ⟨h11, e11⟩ : ∃ z, T11.heap = z := ⟨_, rfl⟩
      rw [e11] at K11 Fq11_0
      have z12 : hh5.size ≤ h11.size := K11.1
      have lt11_0 : @LT.lt Nat _ b_2 h11.size := Fq11_0.lt
      have V13 : Arv Z h11 b_2 kb_2 .byte (Int32.ofNat (2 * n)) (own_mix (own_wide cs) (List.replicate (2 * n) (.int (0 : Int32))) (2 * (j + 1))) v0_ := by have q := Fq11_0; rw [own_mixw cs _ j (by simp; omega) (by omega)] at q; exact q
      have s14 : ∀ t_, Steps p.tables e below (T11.setTop (mkF m 8 #[.val (.ref ca), .val (.int ((Int32.ofNat j) + (1 : Int32))), .val (.int (Int32.ofNat n)), .val (.ref b_2), .val (.int ((Int32.ofNat j) + (1 : Int32)))] [])) t_ → Steps p.tables e below (T_.setTop (mkF m 8 #[.val (.ref ca), .val (.int (Int32.ofNat j)), .val (.int (Int32.ofNat n)), .val (.ref b_2), .val (.int (Int32.ofNat j))] [])) t_ := fun t_ k_ => (fun _ k_ => k_) t_ (by
        refine XS.iload X_.here hx rfl (dd hy dJ52_14_8) rfl ?_
        refine XS.iloadN X_.here hx rfl (dd hy dJ52_14_10) rfl ?_
        refine XS.icmpNo X_.here hx rfl (dd hy dJ52_14_11) rfl (tlt (own_lt (by omega) (by omega))).2.1 ?_
        show Steps _ _ _ (T_.setTop (mkF m 14 #[.val (.ref ca), .val (.int (Int32.ofNat j)), .val (.int (Int32.ofNat n)), .val (.ref b_2), .val (.int (Int32.ofNat j))] [])) _
        refine XS.aloadN X_.here hx rfl (dd hy dJ52_14_14) rfl rfl ?_
        refine XS.iload X_.here hx rfl (dd hy dJ52_14_15) rfl ?_
        refine XS.aloadN X_.here hx rfl (dd hy dJ52_14_17) rfl rfl ?_
        refine XS.iloadN X_.here hx rfl (dd hy dJ52_14_18) rfl ?_
        refine X_.caload hx (j := (Int32.ofNat j)) (v := (.int (cs.getD j 0))) (by rw [e_]; exact Ar8.1) (State.isArrayOf_alike hZ.alike Ar8.2.1) Ar8.2.2 hin8 hat8 (g := (mkF m 19 #[.val (.ref ca), .val (.int (Int32.ofNat j)), .val (.int (Int32.ofNat n)), .val (.ref b_2), .val (.int (Int32.ofNat j))] [(.int (Int32.ofNat j)), (.ref ca), (.int (Int32.ofNat j)), (.ref b_2)])) rfl rfl (dd hy dJ52_14_19) _ ?_
        refine st11 _ ?_
        show Steps _ _ _ (T11.setTop (mkF m 23 #[.val (.ref ca), .val (.int (Int32.ofNat j)), .val (.int (Int32.ofNat n)), .val (.ref b_2), .val (.int (Int32.ofNat j))] [])) _
        refine XS.iinc X11.here hx rfl (dd hy dJ52_14_23) rfl (l' := #[.val (.ref ca), .val (.int ((Int32.ofNat j) + (1 : Int32))), .val (.int (Int32.ofNat n)), .val (.ref b_2), .val (.int (Int32.ofNat j))]) rfl ?_
        refine XS.iinc X11.here hx rfl (dd hy dJ52_14_26) rfl (l' := #[.val (.ref ca), .val (.int ((Int32.ofNat j) + (1 : Int32))), .val (.int (Int32.ofNat n)), .val (.ref b_2), .val (.int ((Int32.ofNat j) + (1 : Int32)))]) rfl ?_
        refine XS.goto X11.here hx rfl (pc0 := 29) (pc' := 8) rfl (dd hy dJ52_14_29) (by decide) (by decide) ?_
        exact k_)
      obtain ⟨T15, lo15, h15, fe15, X15, e15, N15, K15, A15, st15⟩ := ih (j + 1) T11 _ h11 (by omega) X11 e11 N11 (((Keep.refl h2 [b_2]).trans K_ (allS (Or.inl (by simp)) all0)).trans K11 (allS (Or.inl (by simp)) all0)) V13 
      exact ⟨T15, lo15, h15, fe15, X15, e15, N15, K15, A15, fun t_ k_ => s14 t_ (castTop (by rw [own_up]) (st15 t_ k_))⟩
  obtain ⟨T16, lo16, h16, fe16, X16, e16, N16, K16, A16, st16⟩ := lp5 n 0 T2 _ h2 (by omega) X2 e2 N2 (Keep.refl _ _) (by rw [show 2 * 0 = 0 from rfl, own_mix0]; exact Fq2_0) 
  have z17 : h2.size ≤ h16.size := K16.1
  obtain ⟨rfl, G16_0⟩ := A16
  have s18 : ∀ t_, Steps p.tables e below (T16.setTop (mkF m 32 #[.val (.ref ca), .val (.int (Int32.ofNat n)), .val (.int (Int32.ofNat n)), .val (.ref b_2), .val (.int (Int32.ofNat n))] [])) t_ → Steps p.tables e below (s₁.setTop (entryFrame m #[(.ref ca), (.int (0 : Int32)), (.int (Int32.ofNat n))] 5)) t_ := fun t_ k_ => s4 t_ (st16 t_ k_)
  have s19 : ∀ t_, Steps p.tables e below (T16.setTop (mkF m 33 #[.val (.ref ca), .val (.int (Int32.ofNat n)), .val (.int (Int32.ofNat n)), .val (.ref b_2), .val (.int (Int32.ofNat n))] [(.ref b_2)])) t_ → Steps _ _ _ _ t_ := fun t_ k_ => s18 t_ (by
    refine XS.aloadN X16.here hx rfl (dd hy dJ52_14_32) rfl rfl ?_
    exact k_)
  obtain ⟨fs, hr, hrun, hended, hW, hsame⟩ := X16.leave (v := some (.ref b_2)) (fun h => by rw [Bd.returns] at h; cases h)
  refine ⟨_, _, s19 _ ?_, hrun, hended, _, _, rfl, ?_, ⟨_, rfl⟩, hW, hsame.mono (by decide) (by decide)⟩
  · jvm_step X16.here [X16.here.top, hx, (dd hy dJ52_14_33), X16.method', Bd.returns, Value.isRef, FieldType.isReference]
    first | (intro acts; rw [hr _ acts rfl rfl rfl]) | rw [hr _ _ rfl rfl rfl]
    exact Steps.refl _
  · show Q_rmTo Z _ _ _ _ h0 n0 _ T16.heap _
    rw [e16]
    exact ⟨b_2, kb_2, rfl, N16, (((Keep.refl h0 []).trans K2 all0).trans K16 (allS (Or.inr (show h0.size ≤ b_2 by omega)) all0)), (by have q := G16_0; rw [own_mixn _ _ (2 * n) (by rw [own_widel]; omega) (by simp)] at q; exact q), by omega⟩
theorem dJ52_16_0 : decode CJ52_16 0 = .ok (.iload_n 2, 1) := by decide +kernel
theorem dJ52_16_1 : decode CJ52_16 1 = .ok (.newarray .byte, 2) := by decide +kernel
theorem dJ52_16_3 : decode CJ52_16 3 = .ok (.astore_n 3, 1) := by decide +kernel
theorem dJ52_16_4 : decode CJ52_16 4 = .ok (.aload_n 0, 1) := by decide +kernel
theorem dJ52_16_5 : decode CJ52_16 5 = .ok (.iload_n 1, 1) := by decide +kernel
theorem dJ52_16_6 : decode CJ52_16 6 = .ok (.aload_n 3, 1) := by decide +kernel
theorem dJ52_16_7 : decode CJ52_16 7 = .ok (.iconst 0, 1) := by decide +kernel
theorem dJ52_16_8 : decode CJ52_16 8 = .ok (.iload_n 2, 1) := by decide +kernel
theorem pd___CI_BII_I : parseMethodDescriptor "([CI[BII)I" = some ⟨[(.array .char), .int, (.array .byte), .int, .int], some .int⟩ := by decide +kernel
theorem dJ52_16_9 : decode CJ52_16 9 = .ok (.invokestatic 115, 3) := by decide +kernel
theorem dJ52_16_12 : decode CJ52_16 12 = .ok (.istore 4, 2) := by decide +kernel
theorem dJ52_16_14 : decode CJ52_16 14 = .ok (.iload 4, 2) := by decide +kernel
theorem dJ52_16_16 : decode CJ52_16 16 = .ok (.iload_n 2, 1) := by decide +kernel
theorem dJ52_16_17 : decode CJ52_16 17 = .ok (.if_icmp .eq 40, 3) := by decide +kernel
theorem dJ52_16_57 : decode CJ52_16 57 = .ok (.aload_n 3, 1) := by decide +kernel
theorem dJ52_16_58 : decode CJ52_16 58 = .ok (.areturn, 1) := by decide +kernel
theorem dJ52_16_20 : decode CJ52_16 20 = .ok (.aload_n 0, 1) := by decide +kernel
theorem dJ52_16_21 : decode CJ52_16 21 = .ok (.iload_n 1, 1) := by decide +kernel
theorem dJ52_16_22 : decode CJ52_16 22 = .ok (.iload_n 2, 1) := by decide +kernel
theorem pd___CII__B : parseMethodDescriptor "([CII)[B" = some ⟨[(.array .char), .int, .int], some (.array .byte)⟩ := by decide +kernel
theorem dJ52_16_23 : decode CJ52_16 23 = .ok (.invokestatic 119, 3) := by decide +kernel
theorem dJ52_16_26 : decode CJ52_16 26 = .ok (.astore 5, 2) := by decide +kernel
theorem dJ52_16_28 : decode CJ52_16 28 = .ok (.aload 5, 2) := by decide +kernel
theorem dJ52_16_30 : decode CJ52_16 30 = .ok (.iload 4, 2) := by decide +kernel
theorem pd___BI_C : parseMethodDescriptor "([BI)C" = some ⟨[(.array .byte), .int], some .char⟩ := by decide +kernel
theorem dJ52_16_32 : decode CJ52_16 32 = .ok (.invokestatic 71, 3) := by decide +kernel
theorem dJ52_16_35 : decode CJ52_16 35 = .ok (.sipush 255, 3) := by decide +kernel
theorem dJ52_16_38 : decode CJ52_16 38 = .ok (.if_icmp .gt 16, 3) := by decide +kernel
theorem dJ52_16_54 : decode CJ52_16 54 = .ok (.aload 5, 2) := by decide +kernel
theorem dJ52_16_56 : decode CJ52_16 56 = .ok (.areturn, 1) := by decide +kernel
theorem ef_rmComp (m : MethodId) (x0 : Addr) (x1 : Int32) (x2 : Int32) : entryFrame m #[(.ref x0), (.int x1), (.int x2)] 6 = mkF m 0 #[.val (.ref x0), .val (.int x1), .val (.int x2), .unset, .unset, .unset] [] := by first | (simp [entryFrame, mkF, argsToLocals, Value.category]; done) | rfl
abbrev R_rmComp : Room := ({ frames := 3, cells := 2, slots := 48, locals := 40 } : Room)
def Q_rmComp (Z : State) (ca : Addr) (cs : List Int32) (kc : ClassId) (n : Nat) (h0 : Heap) (n0 : Nat) (v : Option Value) (h : Heap) (L : List Loc) : Prop := ∃ (b : Addr), ∃ (kb : ClassId), (v = some (.ref b)) ∧ (Fr n0 L) ∧ (Keep h0 h []) ∧ (Arv Z h b kb .byte (Int32.ofNat (own_enl cs)) (own_enc cs) v0_) ∧ (h0.size ≤ b)
set_option maxRecDepth 65536 in
set_option maxHeartbeats 40000000 in
theorem rmComp (l : Launch) (Z : State) (a0 : Array Value) (hw : HW Z a0) (ws : List Jvm.Cond) (ca : Addr) (cs : List Int32) (kc : ClassId) (n : Nat) (h0 : Heap) (n0 : Nat) (Z0 : n0 ≤ h0.size) (I1 : Sta Z Z.heap cU cD "Z" (.int (1 : Int32))) (I2 : Sta Z Z.heap cU cH "I" (.int (0 : Int32))) (I3 : Sta Z Z.heap cU cL "I" (.int (8 : Int32))) (OX : Old Z n0 h0) (I4 : Arv Z h0 ca kc .char (Int32.ofNat n) (cs.map Value.int) v0_) (hn : cs.length = n) (hb : n ≤ 16) (hchs : own_chs cs) :
    MF l Z M7_ (Jvm.Cond.code M7_ jdk_52_method_16_code 6 (some (.array .byte)) :: ws) R_rmComp #[(.ref ca), (.int (0 : Int32)), (.int (Int32.ofNat n))] h0 (Q_rmComp Z ca cs kc n h0 n0) := by
  refine MetFree.of_bodySF (plainFor_of_name pn_java_lang_StringUTF16) hisR ?_
  intro p e s m args below meth c s₁ Bd hml0 hP hK
  obtain ⟨rfl, hZ, hh⟩ := hP
  have hx := Bd.exec
  have hy := Bd.bytes
  have hml : c.maxLocals = 6 := hml0
  have hown : s.vm.findClass "java/lang/StringUTF16" = some m.cls := findClass_of_methodNamed Bd.named
  have hnm := (name_of_methodNamed Bd.named Bd.method).1
  have X0 : Stand p l e R_rmComp s m #[(.ref ca), (.int (0 : Int32)), (.int (Int32.ofNat n))] below meth c s₁ [] 0 0 := Stand.of_body Bd
  have e0 : s₁.heap = h0 := by rw [← hh, Bd.state]; rfl
  have N0 := Fr.nil n0
  have pre0 := own_pre (p := p) (e := e) (below := below) (T := s₁) (ef_rmComp m ca (0 : Int32) (Int32.ofNat n))
  have lt_I4 : @LT.lt Nat _ ca h0.size := I4.lt
  by_cases h1 : own_lat cs
  · have s2 : ∀ t_, Steps p.tables e below (s₁.setTop (mkF m 0 #[.val (.ref ca), .val (.int (0 : Int32)), .val (.int (Int32.ofNat n)), .unset, .unset, .unset] [])) t_ → Steps p.tables e below (s₁.setTop (entryFrame m #[(.ref ca), (.int (0 : Int32)), (.int (Int32.ofNat n))] 6)) t_ := fun t_ k_ => pre0 t_ (castTop (by rfl) k_)
    obtain ⟨T3, h3, k3, X3, e3, E3, A3, st3⟩ := newP X0 hx hZ (own_m hw 23 rfl) e0 (g := (mkF m 1 #[.val (.ref ca), .val (.int (0 : Int32)), .val (.int (Int32.ofNat n)), .unset, .unset, .unset] [(.int (Int32.ofNat n))])) rfl (dd hy dJ52_16_1) rfl (own_nn (by omega)) (cap := 16) (by rw [own_tn (by omega)]; omega) (by decide) (by decide) (by decide)
    obtain ⟨b3, g3⟩ : ∃ z, z = h0.size := ⟨_, rfl⟩
    rw [← g3] at A3 st3
    have z4 : h0.size ≤ h3.size := E3.1
    have l3 : b3 < h3.size := A3.lt
    have V3 : Arv Z h3 b3 k3 .byte (Int32.ofNat n) (List.replicate n (.int (0 : Int32))) v0_ := (Arv.new A3 (own_nn (by omega))).pad (pad_rep [] _ n)
    have f5 : Arv Z h3 ca kc .char (Int32.ofNat n) (cs.map Value.int) v0_ := (I4.ext E3)
    have Zc6 : n0 ≤ h3.size := by omega
    obtain ⟨_, _, ⟨T7, L7, k7, n7⟩, -, X7, ⟨Lc7, hQ7, l7, y7, z7⟩, st7⟩ := Jvm.LawKit.callS X3 hx (y := M0_) hown (mvT hZ (own_m hw 24 rfl)) (mvT hZ (own_m hw 25 rfl)) (mvT hZ (own_m hw 21 rfl)) (mvT hZ (own_m hw 26 rfl)) (by decide) (backOf (W := 0) (rmCmpL l Z a0 hw [] ca b3 cs kc n k3 (List.replicate n (.int (0 : Int32))) h3 n0 Zc6 f5 V3 hn hb (by simp) (by first | assumption | omega | rfl | decide) (by first | assumption | omega | rfl | decide) (by first | assumption | omega | rfl | decide)) hZ (own_m hw 26 rfl) (own_m hw 21 rfl) (by decide) (by decide)) (g := (mkF m 9 #[.val (.ref ca), .val (.int (0 : Int32)), .val (.int (Int32.ofNat n)), .val (.ref b3), .unset, .unset] [(.int (Int32.ofNat n)), (.int (0 : Int32)), (.ref b3), (.int (0 : Int32)), (.ref ca)])) rfl (by rw [hml]; rfl) (argsL := [(.ref ca), (.int (0 : Int32)), (.ref b3), (.int (0 : Int32)), (.int (Int32.ofNat n))]) (rest := []) (lenOf pd___CI_BII_I rfl) rfl (by show 2 * 0 + _ ≤ _; exact Nat.le_of_eq rfl) (dd hy dJ52_16_9) (fun _ _ => ⟨rfl, e3, (by decide : 1 + 0 ≤ _), (by decide : 16 + 0 ≤ _)⟩)
    dsimp only [Pt.U, Pt.locs, Pt.cells, Pt.slots] at X7 l7 y7 z7 st7 hQ7
    subst l7 y7 z7
    obtain ⟨rfl, N7q, K7, Fq7_0⟩ := hQ7
    have N7 := Fr.app N0 N7q
    obtain ⟨h7, e7⟩ : ∃ z, T7.heap = z := ⟨_, rfl⟩
    rw [e7] at K7 Fq7_0
    have z8 : h3.size ≤ h7.size := K7.1
    have lt7_0 : @LT.lt Nat _ b3 h7.size := Fq7_0.lt
    have s9 : ∀ t_, Steps p.tables e below (T7.setTop (mkF m 58 #[.val (.ref ca), .val (.int (0 : Int32)), .val (.int (Int32.ofNat n)), .val (.ref b3), .val (.int (Int32.ofNat n)), .unset] [(.ref b3)])) t_ → Steps _ _ _ _ t_ := fun t_ k_ => s2 t_ (by
      refine XS.iloadN X0.here hx rfl (dd hy dJ52_16_0) rfl ?_
      refine st3 _ ?_
      refine XS.astoreN X3.here hx rfl (dd hy dJ52_16_3) rfl rfl (l' := #[.val (.ref ca), .val (.int (0 : Int32)), .val (.int (Int32.ofNat n)), .val (.ref b3), .unset, .unset]) rfl ?_
      refine XS.aloadN X3.here hx rfl (dd hy dJ52_16_4) rfl rfl ?_
      refine XS.iloadN X3.here hx rfl (dd hy dJ52_16_5) rfl ?_
      refine XS.aloadN X3.here hx rfl (dd hy dJ52_16_6) rfl rfl ?_
      show Steps _ _ _ (T3.setTop (mkF m 7 #[.val (.ref ca), .val (.int (0 : Int32)), .val (.int (Int32.ofNat n)), .val (.ref b3), .unset, .unset] [(.ref b3), (.int (0 : Int32)), (.ref ca)])) _
      refine XS.iconst X3.here hx rfl (dd hy dJ52_16_7) ?_
      refine XS.iloadN X3.here hx rfl (dd hy dJ52_16_8) rfl ?_
      refine st7 _ ?_
      show Steps _ _ _ (T7.setTop (mkF m 12 #[.val (.ref ca), .val (.int (0 : Int32)), .val (.int (Int32.ofNat n)), .val (.ref b3), .unset, .unset] [(.int (Int32.ofNat n))])) _
      refine XS.istore X7.here hx rfl (dd hy dJ52_16_12) rfl (l' := #[.val (.ref ca), .val (.int (0 : Int32)), .val (.int (Int32.ofNat n)), .val (.ref b3), .val (.int (Int32.ofNat n)), .unset]) rfl ?_
      refine XS.iload X7.here hx rfl (dd hy dJ52_16_14) rfl ?_
      refine XS.iloadN X7.here hx rfl (dd hy dJ52_16_16) rfl ?_
      refine XS.icmpYes X7.here hx rfl (pc0 := 17) (pc' := 57) rfl (dd hy dJ52_16_17) rfl (teq rfl).1 (by decide) (by decide) ?_
      show Steps _ _ _ (T7.setTop (mkF m 57 #[.val (.ref ca), .val (.int (0 : Int32)), .val (.int (Int32.ofNat n)), .val (.ref b3), .val (.int (Int32.ofNat n)), .unset] [])) _
      refine XS.aloadN X7.here hx rfl (dd hy dJ52_16_57) rfl rfl ?_
      exact k_)
    obtain ⟨fs, hr, hrun, hended, hW, hsame⟩ := X7.leave (v := some (.ref b3)) (fun h => by rw [Bd.returns] at h; cases h)
    refine ⟨_, _, s9 _ ?_, hrun, hended, _, _, rfl, ?_, ⟨_, rfl⟩, hW, hsame.mono (by decide) (by decide)⟩
    · jvm_step X7.here [X7.here.top, hx, (dd hy dJ52_16_58), X7.method', Bd.returns, Value.isRef, FieldType.isReference]
      first | (intro acts; rw [hr _ acts rfl rfl rfl]) | rw [hr _ _ rfl rfl rfl]
      exact Steps.refl _
    · show Q_rmComp Z _ _ _ _ h0 n0 _ T7.heap _
      rw [e7]
      exact ⟨b3, k3, rfl, N7, (((Keep.refl h0 []).ext E3).trans K7 (allS (Or.inr (show h0.size ≤ b3 by omega)) all0)), (own_fixL h1 Fq7_0 hn (by simp)), by omega⟩
  · have s10 : ∀ t_, Steps p.tables e below (s₁.setTop (mkF m 0 #[.val (.ref ca), .val (.int (0 : Int32)), .val (.int (Int32.ofNat n)), .unset, .unset, .unset] [])) t_ → Steps p.tables e below (s₁.setTop (entryFrame m #[(.ref ca), (.int (0 : Int32)), (.int (Int32.ofNat n))] 6)) t_ := fun t_ k_ => pre0 t_ (castTop (by rfl) k_)
    obtain ⟨i_, hi_, hbad_, hpre_⟩ := own_first h1
    rw [hn] at hi_
    obtain ⟨T11, h11, k11, X11, e11, E11, A11, st11⟩ := newP X0 hx hZ (own_m hw 23 rfl) e0 (g := (mkF m 1 #[.val (.ref ca), .val (.int (0 : Int32)), .val (.int (Int32.ofNat n)), .unset, .unset, .unset] [(.int (Int32.ofNat n))])) rfl (dd hy dJ52_16_1) rfl (own_nn (by omega)) (cap := 16) (by rw [own_tn (by omega)]; omega) (by decide) (by decide) (by decide)
    obtain ⟨b11, g11⟩ : ∃ z, z = h0.size := ⟨_, rfl⟩
    rw [← g11] at A11 st11
    have z12 : h0.size ≤ h11.size := E11.1
    have l11 : b11 < h11.size := A11.lt
    have V11 : Arv Z h11 b11 k11 .byte (Int32.ofNat n) (List.replicate n (.int (0 : Int32))) v0_ := (Arv.new A11 (own_nn (by omega))).pad (pad_rep [] _ n)
    have f13 : Arv Z h11 ca kc .char (Int32.ofNat n) (cs.map Value.int) v0_ := (I4.ext E11)
    have Zc14 : n0 ≤ h11.size := by omega
    obtain ⟨_, _, ⟨T15, L15, k15, n15⟩, -, X15, ⟨Lc15, hQ15, l15, y15, z15⟩, st15⟩ := Jvm.LawKit.callS X11 hx (y := M0_) hown (mvT hZ (own_m hw 24 rfl)) (mvT hZ (own_m hw 25 rfl)) (mvT hZ (own_m hw 21 rfl)) (mvT hZ (own_m hw 26 rfl)) (by decide) (backOf (W := 0) (rmCmpW l Z a0 hw [] ca b11 cs kc n k11 (List.replicate n (.int (0 : Int32))) i_ h11 n0 Zc14 f13 V11 hn hb (by simp) (by first | assumption | omega | rfl | decide) (by first | assumption | omega | rfl | decide) hi_ hbad_ hpre_) hZ (own_m hw 26 rfl) (own_m hw 21 rfl) (by decide) (by decide)) (g := (mkF m 9 #[.val (.ref ca), .val (.int (0 : Int32)), .val (.int (Int32.ofNat n)), .val (.ref b11), .unset, .unset] [(.int (Int32.ofNat n)), (.int (0 : Int32)), (.ref b11), (.int (0 : Int32)), (.ref ca)])) rfl (by rw [hml]; rfl) (argsL := [(.ref ca), (.int (0 : Int32)), (.ref b11), (.int (0 : Int32)), (.int (Int32.ofNat n))]) (rest := []) (lenOf pd___CI_BII_I rfl) rfl (by show 2 * 0 + _ ≤ _; exact Nat.le_of_eq rfl) (dd hy dJ52_16_9) (fun _ _ => ⟨rfl, e11, (by decide : 1 + 0 ≤ _), (by decide : 16 + 0 ≤ _)⟩)
    dsimp only [Pt.U, Pt.locs, Pt.cells, Pt.slots] at X15 l15 y15 z15 st15 hQ15
    subst l15 y15 z15
    obtain ⟨rfl, N15q, K15, Fq15_0⟩ := hQ15
    have N15 := Fr.app N0 N15q
    obtain ⟨h15, e15⟩ : ∃ z, T15.heap = z := ⟨_, rfl⟩
    rw [e15] at K15 Fq15_0
    have z16 : h11.size ≤ h15.size := K15.1
    have lt15_0 : @LT.lt Nat _ b11 h15.size := Fq15_0.lt
    have O17 : Old Z n0 h15 := ((OX.ext E11).keep K15 (allS (show n0 ≤ b11 by omega) all0))
    have f18 : Arv Z h15 ca kc .char (Int32.ofNat n) (cs.map Value.int) v0_ := (f13.keep K15 (ninS (show @Ne Nat ca b11 by omega) nin0))
    have Zc19 : n0 ≤ h15.size := by omega
    obtain ⟨_, _, ⟨T20, L20, k20, n20⟩, -, X20, ⟨Lc20, hQ20, l20, y20, z20⟩, st20⟩ := Jvm.LawKit.callS X15 hx (y := M6_) hown (mvT hZ (own_m hw 191 rfl)) (mvT hZ (own_m hw 192 rfl)) (mvT hZ (own_m hw 21 rfl)) (mvT hZ (own_m hw 193 rfl)) (by decide) (backOf (W := 0) (rmTo l Z a0 hw [] ca cs kc n h15 n0 Zc19 I1 I2 I3 O17 f18 hn hb) hZ (own_m hw 193 rfl) (own_m hw 21 rfl) (by decide) (by decide)) (g := (mkF m 23 #[.val (.ref ca), .val (.int (0 : Int32)), .val (.int (Int32.ofNat n)), .val (.ref b11), .val (.int (Int32.ofNat i_)), .unset] [(.int (Int32.ofNat n)), (.int (0 : Int32)), (.ref ca)])) rfl (by rw [hml]; rfl) (argsL := [(.ref ca), (.int (0 : Int32)), (.int (Int32.ofNat n))]) (rest := []) (lenOf pd___CII__B rfl) rfl (by show 2 * 0 + _ ≤ _; exact Nat.le_of_eq rfl) (dd hy dJ52_16_23) (fun _ _ => ⟨rfl, e15, (by decide : 1 + 1 ≤ _), (by decide : 16 + 32 ≤ _)⟩)
    dsimp only [Pt.U, Pt.locs, Pt.cells, Pt.slots] at X20 l20 y20 z20 st20 hQ20
    subst l20 y20 z20
    obtain ⟨b_20, kb_20, rfl, N20q, K20, Fq20_0, P20_0⟩ := hQ20
    have N20 := Fr.app N15 N20q
    obtain ⟨h20, e20⟩ : ∃ z, T20.heap = z := ⟨_, rfl⟩
    rw [e20] at K20 Fq20_0
    have z21 : h15.size ≤ h20.size := K20.1
    have lt20_0 : @LT.lt Nat _ b_20 h20.size := Fq20_0.lt
    have O22 : Old Z n0 h20 := (O17.keep K20 all0)
    have Zc23 : n0 ≤ h20.size := by omega
    obtain ⟨_, _, ⟨T24, L24, k24, n24⟩, -, X24, ⟨Lc24, hQ24, l24, y24, z24⟩, st24⟩ := Jvm.LawKit.callS X20 hx (y := M5_) hown (mvT hZ (own_m hw 207 rfl)) (mvT hZ (own_m hw 208 rfl)) (mvT hZ (own_m hw 21 rfl)) (mvT hZ (own_m hw 209 rfl)) (by decide) (backOf (W := 0) (rmGet l Z a0 hw [] b_20 kb_20 (own_wide cs) n i_ (cs.getD i_ 0) h20 n0 Zc23 I1 I2 I3 O22 Fq20_0 hb hi_ (own_wide0 _ cs i_ (by omega)) (own_wide1 _ cs i_ (by omega)) (hchs _ (own_mem cs i_ (by omega))).1 (hchs _ (own_mem cs i_ (by omega))).2) hZ (own_m hw 209 rfl) (own_m hw 21 rfl) (by decide) (by decide)) (g := (mkF m 32 #[.val (.ref ca), .val (.int (0 : Int32)), .val (.int (Int32.ofNat n)), .val (.ref b11), .val (.int (Int32.ofNat i_)), .val (.ref b_20)] [(.int (Int32.ofNat i_)), (.ref b_20)])) rfl (by rw [hml]; rfl) (argsL := [(.ref b_20), (.int (Int32.ofNat i_))]) (rest := []) (lenOf pd___BI_C rfl) rfl (by show 2 * 0 + _ ≤ _; exact Nat.le_of_eq rfl) (dd hy dJ52_16_32) (fun _ _ => ⟨rfl, e20, (by decide : 2 + 0 ≤ _), (by decide : 48 + 0 ≤ _)⟩)
    dsimp only [Pt.U, Pt.locs, Pt.cells, Pt.slots] at X24 l24 y24 z24 st24 hQ24
    subst l24 y24 z24
    obtain ⟨rfl, N24q, e24⟩ := hQ24
    have N24 := Fr.app N20 N24q
    have s25 : ∀ t_, Steps p.tables e below (T24.setTop (mkF m 56 #[.val (.ref ca), .val (.int (0 : Int32)), .val (.int (Int32.ofNat n)), .val (.ref b11), .val (.int (Int32.ofNat i_)), .val (.ref b_20)] [(.ref b_20)])) t_ → Steps _ _ _ _ t_ := fun t_ k_ => s10 t_ (by
      refine XS.iloadN X0.here hx rfl (dd hy dJ52_16_0) rfl ?_
      refine st11 _ ?_
      refine XS.astoreN X11.here hx rfl (dd hy dJ52_16_3) rfl rfl (l' := #[.val (.ref ca), .val (.int (0 : Int32)), .val (.int (Int32.ofNat n)), .val (.ref b11), .unset, .unset]) rfl ?_
      refine XS.aloadN X11.here hx rfl (dd hy dJ52_16_4) rfl rfl ?_
      refine XS.iloadN X11.here hx rfl (dd hy dJ52_16_5) rfl ?_
      refine XS.aloadN X11.here hx rfl (dd hy dJ52_16_6) rfl rfl ?_
      show Steps _ _ _ (T11.setTop (mkF m 7 #[.val (.ref ca), .val (.int (0 : Int32)), .val (.int (Int32.ofNat n)), .val (.ref b11), .unset, .unset] [(.ref b11), (.int (0 : Int32)), (.ref ca)])) _
      refine XS.iconst X11.here hx rfl (dd hy dJ52_16_7) ?_
      refine XS.iloadN X11.here hx rfl (dd hy dJ52_16_8) rfl ?_
      refine st15 _ ?_
      show Steps _ _ _ (T15.setTop (mkF m 12 #[.val (.ref ca), .val (.int (0 : Int32)), .val (.int (Int32.ofNat n)), .val (.ref b11), .unset, .unset] [(.int (Int32.ofNat i_))])) _
      refine XS.istore X15.here hx rfl (dd hy dJ52_16_12) rfl (l' := #[.val (.ref ca), .val (.int (0 : Int32)), .val (.int (Int32.ofNat n)), .val (.ref b11), .val (.int (Int32.ofNat i_)), .unset]) rfl ?_
      refine XS.iload X15.here hx rfl (dd hy dJ52_16_14) rfl ?_
      refine XS.iloadN X15.here hx rfl (dd hy dJ52_16_16) rfl ?_
      refine XS.icmpNo X15.here hx rfl (dd hy dJ52_16_17) rfl (feq (fun e => by have := own_inj (by omega) (by omega) e; omega)).1 ?_
      show Steps _ _ _ (T15.setTop (mkF m 20 #[.val (.ref ca), .val (.int (0 : Int32)), .val (.int (Int32.ofNat n)), .val (.ref b11), .val (.int (Int32.ofNat i_)), .unset] [])) _
      refine XS.aloadN X15.here hx rfl (dd hy dJ52_16_20) rfl rfl ?_
      refine XS.iloadN X15.here hx rfl (dd hy dJ52_16_21) rfl ?_
      refine XS.iloadN X15.here hx rfl (dd hy dJ52_16_22) rfl ?_
      refine st20 _ ?_
      show Steps _ _ _ (T20.setTop (mkF m 26 #[.val (.ref ca), .val (.int (0 : Int32)), .val (.int (Int32.ofNat n)), .val (.ref b11), .val (.int (Int32.ofNat i_)), .unset] [(.ref b_20)])) _
      refine XS.astore X20.here hx rfl (dd hy dJ52_16_26) rfl rfl (l' := #[.val (.ref ca), .val (.int (0 : Int32)), .val (.int (Int32.ofNat n)), .val (.ref b11), .val (.int (Int32.ofNat i_)), .val (.ref b_20)]) rfl ?_
      refine XS.aload X20.here hx rfl (dd hy dJ52_16_28) rfl rfl ?_
      refine XS.iload X20.here hx rfl (dd hy dJ52_16_30) rfl ?_
      refine st24 _ ?_
      show Steps _ _ _ (T24.setTop (mkF m 35 #[.val (.ref ca), .val (.int (0 : Int32)), .val (.int (Int32.ofNat n)), .val (.ref b11), .val (.int (Int32.ofNat i_)), .val (.ref b_20)] [(.int (cs.getD i_ 0))])) _
      refine XS.sipush X24.here hx rfl (dd hy dJ52_16_35) ?_
      refine XS.icmpYes X24.here hx rfl (pc0 := 38) (pc' := 54) rfl (dd hy dJ52_16_38) rfl (tlt hbad_).2.2.1 (by decide) (by decide) ?_
      show Steps _ _ _ (T24.setTop (mkF m 54 #[.val (.ref ca), .val (.int (0 : Int32)), .val (.int (Int32.ofNat n)), .val (.ref b11), .val (.int (Int32.ofNat i_)), .val (.ref b_20)] [])) _
      refine XS.aload X24.here hx rfl (dd hy dJ52_16_54) rfl rfl ?_
      exact k_)
    obtain ⟨fs, hr, hrun, hended, hW, hsame⟩ := X24.leave (v := some (.ref b_20)) (fun h => by rw [Bd.returns] at h; cases h)
    refine ⟨_, _, s25 _ ?_, hrun, hended, _, _, rfl, ?_, ⟨_, rfl⟩, hW, hsame.mono (by decide) (by decide)⟩
    · jvm_step X24.here [X24.here.top, hx, (dd hy dJ52_16_56), X24.method', Bd.returns, Value.isRef, FieldType.isReference]
      first | (intro acts; rw [hr _ acts rfl rfl rfl]) | rw [hr _ _ rfl rfl rfl]
      exact Steps.refl _
    · show Q_rmComp Z _ _ _ _ h0 n0 _ T24.heap _
      rw [e24]
      exact ⟨b_20, kb_20, rfl, N24, ((((Keep.refl h0 []).ext E11).trans K15 (allS (Or.inr (show h0.size ≤ b11 by omega)) all0)).trans K20 all0), (own_fixW h1 Fq20_0 hn), by omega⟩
theorem pn_java_lang_String : plainName "java/lang/String" = true := by first | (simp [plainName, overriddenIn]; done) | decide +kernel
theorem dJ42_149_0 : decode CJ42_149 0 = .ok (.aload_n 0, 1) := by decide +kernel
theorem dJ42_149_1 : decode CJ42_149 1 = .ok (.invokespecial 1, 3) := by decide +kernel
theorem dJ42_149_4 : decode CJ42_149 4 = .ok (.iload_n 3, 1) := by decide +kernel
theorem dJ42_149_5 : decode CJ42_149 5 = .ok (.ifCond .ne 22, 3) := by decide +kernel
theorem dJ42_149_27 : decode CJ42_149 27 = .ok (.getstatic 38, 3) := by decide +kernel
theorem dJ42_149_30 : decode CJ42_149 30 = .ok (.ifCond .eq 28, 3) := by decide +kernel
theorem dJ42_149_33 : decode CJ42_149 33 = .ok (.aload_n 1, 1) := by decide +kernel
theorem dJ42_149_34 : decode CJ42_149 34 = .ok (.iload_n 2, 1) := by decide +kernel
theorem dJ42_149_35 : decode CJ42_149 35 = .ok (.iload_n 3, 1) := by decide +kernel
theorem dJ42_149_36 : decode CJ42_149 36 = .ok (.invokestatic 177, 3) := by decide +kernel
theorem dJ42_149_39 : decode CJ42_149 39 = .ok (.astore 5, 2) := by decide +kernel
theorem dJ42_149_41 : decode CJ42_149 41 = .ok (.aload_n 0, 1) := by decide +kernel
theorem dJ42_149_42 : decode CJ42_149 42 = .ok (.aload 5, 2) := by decide +kernel
theorem dJ42_149_44 : decode CJ42_149 44 = .ok (.iload_n 3, 1) := by decide +kernel
theorem pd___BI_B : parseMethodDescriptor "([BI)B" = some ⟨[(.array .byte), .int], some .byte⟩ := by decide +kernel
theorem dJ42_149_45 : decode CJ42_149 45 = .ok (.invokestatic 47, 3) := by decide +kernel
theorem dJ42_149_48 : decode CJ42_149 48 = .ok (.putfield 15, 3) := by decide +kernel
theorem dJ42_149_51 : decode CJ42_149 51 = .ok (.aload_n 0, 1) := by decide +kernel
theorem dJ42_149_52 : decode CJ42_149 52 = .ok (.aload 5, 2) := by decide +kernel
theorem dJ42_149_54 : decode CJ42_149 54 = .ok (.putfield 9, 3) := by decide +kernel
theorem dJ42_149_57 : decode CJ42_149 57 = .ok (.return_, 1) := by decide +kernel
theorem ef_rmIni4 (m : MethodId) (x0 : Addr) (x1 : Addr) (x2 : Int32) (x3 : Int32) : entryFrame m #[(.ref x0), (.ref x1), (.int x2), (.int x3), .null] 6 = mkF m 0 #[.val (.ref x0), .val (.ref x1), .val (.int x2), .val (.int x3), .val .null, .unset] [] := by first | (simp [entryFrame, mkF, argsToLocals, Value.category]; done) | rfl
abbrev R_rmIni4 : Room := ({ frames := 4, cells := 2, slots := 48, locals := 57 } : Room)
def Q_rmIni4 (Z : State) (a : Addr) (ca : Addr) (cst : Int32) (cs : List Int32) (kc : ClassId) (n : Nat) (h0 : Heap) (n0 : Nat) (v : Option Value) (h : Heap) (L : List Loc) : Prop := ∃ (b : Addr), ∃ (kb : ClassId), (v = none) ∧ (Fr n0 L) ∧ (Keep h0 h [a]) ∧ (Exa Z h a cS) ∧ (Fld Z h a cS "value" "[B" (.ref b)) ∧ (Fld Z h a cS "coder" "B" (.int (own_cod cs))) ∧ (Arv Z h b kb .byte (Int32.ofNat (own_enl cs)) (own_enc cs) v0_) ∧ (h0.size ≤ b)
set_option maxRecDepth 65536 in
set_option maxHeartbeats 40000000 in
theorem rmIni4 (l : Launch) (Z : State) (a0 : Array Value) (hw : HW Z a0) (ws : List Jvm.Cond) (a : Addr) (ca : Addr) (cst : Int32) (cs : List Int32) (kc : ClassId) (n : Nat) (h0 : Heap) (n0 : Nat) (Z0 : n0 ≤ h0.size) (I1 : Sta Z Z.heap cS cC "Z" (.int cst)) (I2 : Sta Z Z.heap cU cD "Z" (.int (1 : Int32))) (I3 : Sta Z Z.heap cU cH "I" (.int (0 : Int32))) (I4 : Sta Z Z.heap cU cL "I" (.int (8 : Int32))) (OX : Old Z n0 h0) (hcst : ¬ (cst = (0 : Int32))) (I5 : Exa Z h0 a cS) (I6 : Fld Z h0 a cS "value" "[B" .null) (I7 : Fld Z h0 a cS "coder" "B" (.int (0 : Int32))) (I8 : Arv Z h0 ca kc .char (Int32.ofNat n) (cs.map Value.int) v0_) (hn : cs.length = n) (hb : n ≤ 16) (hpos : 0 < n) (hchs : own_chs cs) (ga : n0 ≤ a) (hac : @Ne Nat a ca) :
    MF l Z M8_ (Jvm.Cond.code M8_ jdk_42_method_149_code 6 none :: ws) R_rmIni4 #[(.ref a), (.ref ca), (.int (0 : Int32)), (.int (Int32.ofNat n)), .null] h0 (Q_rmIni4 Z a ca cst cs kc n h0 n0) := by
  refine MetFree.of_bodySF (plainFor_of_name pn_java_lang_String) hisR ?_
  intro p e s m args below meth c s₁ Bd hml0 hP hK
  obtain ⟨rfl, hZ, hh⟩ := hP
  have hx := Bd.exec
  have hy := Bd.bytes
  have hml : c.maxLocals = 6 := hml0
  have hown : s.vm.findClass "java/lang/String" = some m.cls := findClass_of_methodNamed Bd.named
  have hnm := (name_of_methodNamed Bd.named Bd.method).1
  have X0 : Stand p l e R_rmIni4 s m #[(.ref a), (.ref ca), (.int (0 : Int32)), (.int (Int32.ofNat n)), .null] below meth c s₁ [] 0 0 := Stand.of_body Bd
  have e0 : s₁.heap = h0 := by rw [← hh, Bd.state]; rfl
  have N0 := Fr.nil n0
  have pre0 := own_pre (p := p) (e := e) (below := below) (T := s₁) (ef_rmIni4 m a ca (0 : Int32) (Int32.ofNat n))
  have lt_I5 : @LT.lt Nat _ a h0.size := I5.lt
  have lt_I8 : @LT.lt Nat _ ca h0.size := I8.lt
  obtain ⟨T1, X1, e1, st1⟩ := initO X0 hx hZ hown (own_m hw 15 rfl) (own_m hw 16 rfl) (own_m hw 17 rfl) e0 (g := (mkF m 1 #[.val (.ref a), .val (.ref ca), .val (.int (0 : Int32)), .val (.int (Int32.ofNat n)), .val .null, .unset] [(.ref a)])) rfl (by rw [hml]; rfl) rfl (dd hy dJ42_149_1) (by decide) (W := 0) (by show 2 * 0 + _ ≤ _; exact Nat.le_of_eq rfl) (by decide)
  obtain ⟨T2, X2, e2, st2⟩ := getS2 X1 hx hZ hown (host := "") (Or.inl (own_m hw 18 rfl)) Via.refl e1 (I1.ext OX.2) (g := (mkF m 27 #[.val (.ref a), .val (.ref ca), .val (.int (0 : Int32)), .val (.int (Int32.ofNat n)), .val .null, .unset] [])) rfl (dd hy dJ42_149_27)
  have Zc3 : n0 ≤ h0.size := by omega
  obtain ⟨_, _, ⟨T4, L4, k4, n4⟩, -, X4, ⟨Lc4, hQ4, l4, y4, z4⟩, st4⟩ := Jvm.LawKit.callS X2 hx (y := M7_) hown (mvT hZ (own_m hw 19 rfl)) (mvT hZ (own_m hw 20 rfl)) (mvT hZ (own_m hw 21 rfl)) (mvT hZ (own_m hw 22 rfl)) (by decide) (backOf (W := 0) (rmComp l Z a0 hw [] ca cs kc n h0 n0 Zc3 I2 I3 I4 OX I8 hn hb hchs) hZ (own_m hw 22 rfl) (own_m hw 21 rfl) (by decide) (by decide)) (g := (mkF m 36 #[.val (.ref a), .val (.ref ca), .val (.int (0 : Int32)), .val (.int (Int32.ofNat n)), .val .null, .unset] [(.int (Int32.ofNat n)), (.int (0 : Int32)), (.ref ca)])) rfl (by rw [hml]; rfl) (argsL := [(.ref ca), (.int (0 : Int32)), (.int (Int32.ofNat n))]) (rest := []) (lenOf pd___CII__B rfl) rfl (by show 2 * 0 + _ ≤ _; exact Nat.le_of_eq rfl) (dd hy dJ42_149_36) (fun _ _ => ⟨rfl, e2, (by decide : 0 + 2 ≤ _), (by decide : 0 + 48 ≤ _)⟩)
  dsimp only [Pt.U, Pt.locs, Pt.cells, Pt.slots] at X4 l4 y4 z4 st4 hQ4
  subst l4 y4 z4
  obtain ⟨b_4, kb_4, rfl, N4q, K4, Fq4_0, P4_0⟩ := hQ4
  have N4 := Fr.app N0 N4q
  obtain ⟨h4, e4⟩ : ∃ z, T4.heap = z := ⟨_, rfl⟩
  rw [e4] at K4 Fq4_0
  have z5 : h0.size ≤ h4.size := K4.1
  have lt4_0 : @LT.lt Nat _ b_4 h4.size := Fq4_0.lt
  have Zc6 : n0 ≤ h4.size := by omega
  obtain ⟨_, _, ⟨T7, L7, k7, n7⟩, -, X7, ⟨Lc7, hQ7, l7, y7, z7⟩, st7⟩ := Jvm.LawKit.callS X4 hx (y := M1_) hown (mvT hZ (own_m hw 27 rfl)) (mvT hZ (own_m hw 28 rfl)) (mvT hZ (own_m hw 21 rfl)) (mvT hZ (own_m hw 29 rfl)) (by decide) (backOf (W := 1) (rmCod l Z a0 hw [] b_4 (Int32.ofNat n) kb_4 (Int32.ofNat (own_enl cs)) (own_enc cs) h4 n0 Zc6 Fq4_0) hZ (own_m hw 29 rfl) (own_m hw 21 rfl) (by decide) (by decide)) (g := (mkF m 45 #[.val (.ref a), .val (.ref ca), .val (.int (0 : Int32)), .val (.int (Int32.ofNat n)), .val .null, .val (.ref b_4)] [(.int (Int32.ofNat n)), (.ref b_4), (.ref a)])) rfl (by rw [hml]; rfl) (argsL := [(.ref b_4), (.int (Int32.ofNat n))]) (rest := [(.ref a)]) (lenOf pd___BI_B rfl) rfl (by show 2 * 0 + _ ≤ _; exact Nat.le_of_eq rfl) (dd hy dJ42_149_45) (fun _ _ => ⟨rfl, e4, (by decide : 2 + 0 ≤ _), (by decide : 48 + 0 ≤ _)⟩)
  dsimp only [Pt.U, Pt.locs, Pt.cells, Pt.slots] at X7 l7 y7 z7 st7 hQ7
  subst l7 y7 z7
  obtain ⟨rfl, N7q, e7⟩ := hQ7
  have N7 := Fr.app N4 N7q
  have f8 : Exa Z h4 a cS := (I5.keep K4)
  have f9 : Fld Z h4 a cS "coder" "B" (.int (0 : Int32)) := (I7.keep K4 nin0)
  obtain ⟨T10, h10, X10, e10, W10, st10⟩ := putFN X7 hx hZ hown (own_m hw 30 rfl) Via.refl e7 f9 f8 (Or.inr ⟨(own_m hw 31 rfl), rfl, hnm⟩) (own_m hw 6 rfl) (ty := .byte) (v' := (.int (own_cod cs))) (by decide) (own_cnar cs) (own_cfit cs) (g := (mkF m 48 #[.val (.ref a), .val (.ref ca), .val (.int (0 : Int32)), .val (.int (Int32.ofNat n)), .val .null, .val (.ref b_4)] [(.int (own_cod cs)), (.ref a)])) rfl rfl (dd hy dJ42_149_48)
  have z11 : h4.size ≤ h10.size := Nat.le_of_eq W10.size.symm
  have F10 : Fld Z h10 a cS "coder" "B" (.int (own_cod cs)) := f9.same W10
  have N10 := Fr.snoc X10 N7 (show n0 ≤ a by omega)
  have f12 : Exa Z h10 a cS := (f8.wr W10)
  have f13 : Fld Z h10 a cS "value" "[B" .null := ((I6.keep K4 nin0).other W10 (Or.inr (slot_ne (Or.inr (own_m hw 33 rfl)) (Or.inr (own_m hw 31 rfl)) (by decide) (t := (.array .byte)) (t' := .byte) (by decide) (by decide))))
  obtain ⟨T14, h14, X14, e14, W14, st14⟩ := putF X10 hx hZ hown (host := "") (Or.inl (own_m hw 32 rfl)) Via.refl e10 f13 f12 (Or.inr ⟨(own_m hw 33 rfl), rfl, hnm⟩) (own_m hw 6 rfl) (ty := (.array .byte)) (by decide) rfl rfl (g := (mkF m 54 #[.val (.ref a), .val (.ref ca), .val (.int (0 : Int32)), .val (.int (Int32.ofNat n)), .val .null, .val (.ref b_4)] [(.ref b_4), (.ref a)])) rfl rfl (dd hy dJ42_149_54)
  have z15 : h10.size ≤ h14.size := Nat.le_of_eq W14.size.symm
  have F14 : Fld Z h14 a cS "value" "[B" (.ref b_4) := f13.same W14
  have N14 := Fr.snoc X14 N10 (show n0 ≤ a by omega)
  have s16 : ∀ t_, Steps p.tables e below (T14.setTop (mkF m 57 #[.val (.ref a), .val (.ref ca), .val (.int (0 : Int32)), .val (.int (Int32.ofNat n)), .val .null, .val (.ref b_4)] [])) t_ → Steps _ _ _ _ t_ := fun t_ k_ => pre0 t_ (by
    refine XS.aloadN X0.here hx rfl (dd hy dJ42_149_0) rfl rfl ?_
    refine st1 _ ?_
    show Steps _ _ _ (T1.setTop (mkF m 4 #[.val (.ref a), .val (.ref ca), .val (.int (0 : Int32)), .val (.int (Int32.ofNat n)), .val .null, .unset] [])) _
    refine XS.iloadN X1.here hx rfl (dd hy dJ42_149_4) rfl ?_
    refine XS.ifYes X1.here hx rfl (pc0 := 5) (pc' := 27) rfl (dd hy dJ42_149_5) rfl ((if0 _ _).trans (feq (own_ne0 hpos (by omega))).2) (by decide) (by decide) ?_
    show Steps _ _ _ (T1.setTop (mkF m 27 #[.val (.ref a), .val (.ref ca), .val (.int (0 : Int32)), .val (.int (Int32.ofNat n)), .val .null, .unset] [])) _
    refine st2 _ ?_
    refine XS.ifNo X2.here hx rfl (dd hy dJ42_149_30) rfl ((if0 _ _).trans (feq hcst).1) ?_
    show Steps _ _ _ (T2.setTop (mkF m 33 #[.val (.ref a), .val (.ref ca), .val (.int (0 : Int32)), .val (.int (Int32.ofNat n)), .val .null, .unset] [])) _
    refine XS.aloadN X2.here hx rfl (dd hy dJ42_149_33) rfl rfl ?_
    refine XS.iloadN X2.here hx rfl (dd hy dJ42_149_34) rfl ?_
    refine XS.iloadN X2.here hx rfl (dd hy dJ42_149_35) rfl ?_
    refine st4 _ ?_
    show Steps _ _ _ (T4.setTop (mkF m 39 #[.val (.ref a), .val (.ref ca), .val (.int (0 : Int32)), .val (.int (Int32.ofNat n)), .val .null, .unset] [(.ref b_4)])) _
    refine XS.astore X4.here hx rfl (dd hy dJ42_149_39) rfl rfl (l' := #[.val (.ref a), .val (.ref ca), .val (.int (0 : Int32)), .val (.int (Int32.ofNat n)), .val .null, .val (.ref b_4)]) rfl ?_
    refine XS.aloadN X4.here hx rfl (dd hy dJ42_149_41) rfl rfl ?_
    refine XS.aload X4.here hx rfl (dd hy dJ42_149_42) rfl rfl ?_
    refine XS.iloadN X4.here hx rfl (dd hy dJ42_149_44) rfl ?_
    refine st7 _ ?_
    show Steps _ _ _ (T7.setTop (mkF m 48 #[.val (.ref a), .val (.ref ca), .val (.int (0 : Int32)), .val (.int (Int32.ofNat n)), .val .null, .val (.ref b_4)] [(.int (nar .byte (own_lo (ushr ((Int32.ofNat n) - (Int32.ofNat (own_enl cs))) (31 : Int32))))), (.ref a)])) _
    refine castTop (g' := (mkF m 48 #[.val (.ref a), .val (.ref ca), .val (.int (0 : Int32)), .val (.int (Int32.ofNat n)), .val .null, .val (.ref b_4)] [(.int (own_cod cs)), (.ref a)])) (by rw [own_codl hn hpos (by omega)]) ?_
    show Steps _ _ _ (T7.setTop (mkF m 48 #[.val (.ref a), .val (.ref ca), .val (.int (0 : Int32)), .val (.int (Int32.ofNat n)), .val .null, .val (.ref b_4)] [(.int (own_cod cs)), (.ref a)])) _
    refine st10 _ ?_
    refine XS.aloadN X10.here hx rfl (dd hy dJ42_149_51) rfl rfl ?_
    refine XS.aload X10.here hx rfl (dd hy dJ42_149_52) rfl rfl ?_
    refine st14 _ ?_
    exact k_)
  obtain ⟨fs, hr, hrun, hended, hW, hsame⟩ := X14.leave (v := none) (fun _ => rfl)
  have f17 : Arv Z h14 b_4 kb_4 .byte (Int32.ofNat (own_enl cs)) (own_enc cs) v0_ := ((Fq4_0.other W10 (show @Ne Nat b_4 a by omega)).other W14 (show @Ne Nat b_4 a by omega))
  have f18 : Exa Z h14 a cS := (f12.wr W14)
  have f19 : Fld Z h14 a cS "coder" "B" (.int (own_cod cs)) := (F10.other W14 (Or.inr (slot_ne (Or.inr (own_m hw 31 rfl)) (Or.inr (own_m hw 33 rfl)) (by decide) (t := .byte) (t' := (.array .byte)) (by decide) (by decide))))
  refine ⟨_, _, s16 _ ?_, hrun, hended, _, _, rfl, ?_, ⟨_, rfl⟩, hW, hsame.mono (by decide) (by decide)⟩
  · exact X14.returnOut hx Bd.returns (dd hy dJ42_149_57) hr
  · show Q_rmIni4 Z _ _ _ _ _ _ h0 n0 _ T14.heap _
    rw [e14]
    exact ⟨b_4, kb_4, rfl, N14, ((((Keep.refl h0 [a]).trans K4 all0).wr W10 (Or.inl (by simp))).wr W14 (Or.inl (by simp))), f18, F14, f19, f17, by omega⟩
theorem dJ42_3_0 : decode CJ42_3 0 = .ok (.aload_n 0, 1) := by decide +kernel
theorem dJ42_3_1 : decode CJ42_3 1 = .ok (.aload_n 1, 1) := by decide +kernel
theorem dJ42_3_2 : decode CJ42_3 2 = .ok (.iconst 0, 1) := by decide +kernel
theorem dJ42_3_3 : decode CJ42_3 3 = .ok (.aload_n 1, 1) := by decide +kernel
theorem dJ42_3_4 : decode CJ42_3 4 = .ok (.arraylength, 1) := by decide +kernel
theorem dJ42_3_5 : decode CJ42_3 5 = .ok (.aconst_null, 1) := by decide +kernel
theorem pd___CIILjava_lang_Void__V : parseMethodDescriptor "([CIILjava/lang/Void;)V" = some ⟨[(.array .char), .int, .int, (.object "java/lang/Void")], none⟩ := by decide +kernel
theorem dJ42_3_6 : decode CJ42_3 6 = .ok (.invokespecial 27, 3) := by decide +kernel
theorem dJ42_3_9 : decode CJ42_3 9 = .ok (.return_, 1) := by decide +kernel
theorem ef_rmIni1 (m : MethodId) (x0 : Addr) (x1 : Addr) : entryFrame m #[(.ref x0), (.ref x1)] 2 = mkF m 0 #[.val (.ref x0), .val (.ref x1)] [] := by first | (simp [entryFrame, mkF, argsToLocals, Value.category]; done) | rfl
abbrev R_rmIni1 : Room := ({ frames := 5, cells := 2, slots := 48, locals := 74 } : Room)
def Q_rmIni1 (Z : State) (a : Addr) (ca : Addr) (cst : Int32) (cs : List Int32) (kc : ClassId) (n : Nat) (h0 : Heap) (n0 : Nat) (v : Option Value) (h : Heap) (L : List Loc) : Prop := ∃ (b : Addr), ∃ (kb : ClassId), (v = none) ∧ (Fr n0 L) ∧ (Keep h0 h [a]) ∧ (Exa Z h a cS) ∧ (Fld Z h a cS "value" "[B" (.ref b)) ∧ (Fld Z h a cS "coder" "B" (.int (own_cod cs))) ∧ (Arv Z h b kb .byte (Int32.ofNat (own_enl cs)) (own_enc cs) v0_) ∧ (h0.size ≤ b)
set_option maxRecDepth 65536 in
set_option maxHeartbeats 40000000 in
theorem rmIni1 (l : Launch) (Z : State) (a0 : Array Value) (hw : HW Z a0) (ws : List Jvm.Cond) (a : Addr) (ca : Addr) (cst : Int32) (cs : List Int32) (kc : ClassId) (n : Nat) (h0 : Heap) (n0 : Nat) (Z0 : n0 ≤ h0.size) (I1 : Sta Z Z.heap cS cC "Z" (.int cst)) (I2 : Sta Z Z.heap cU cD "Z" (.int (1 : Int32))) (I3 : Sta Z Z.heap cU cH "I" (.int (0 : Int32))) (I4 : Sta Z Z.heap cU cL "I" (.int (8 : Int32))) (OX : Old Z n0 h0) (hcst : ¬ (cst = (0 : Int32))) (I5 : Exa Z h0 a cS) (I6 : Fld Z h0 a cS "value" "[B" .null) (I7 : Fld Z h0 a cS "coder" "B" (.int (0 : Int32))) (I8 : Arv Z h0 ca kc .char (Int32.ofNat n) (cs.map Value.int) v0_) (hn : cs.length = n) (hb : n ≤ 16) (hpos : 0 < n) (hchs : own_chs cs) (ga : n0 ≤ a) (hac : @Ne Nat a ca) :
    MF l Z M9_ (Jvm.Cond.code M9_ jdk_42_method_3_code 2 none :: ws) R_rmIni1 #[(.ref a), (.ref ca)] h0 (Q_rmIni1 Z a ca cst cs kc n h0 n0) := by
  refine MetFree.of_bodySF (plainFor_of_name pn_java_lang_String) hisR ?_
  intro p e s m args below meth c s₁ Bd hml0 hP hK
  obtain ⟨rfl, hZ, hh⟩ := hP
  have hx := Bd.exec
  have hy := Bd.bytes
  have hml : c.maxLocals = 2 := hml0
  have hown : s.vm.findClass "java/lang/String" = some m.cls := findClass_of_methodNamed Bd.named
  have hnm := (name_of_methodNamed Bd.named Bd.method).1
  have X0 : Stand p l e R_rmIni1 s m #[(.ref a), (.ref ca)] below meth c s₁ [] 0 0 := Stand.of_body Bd
  have e0 : s₁.heap = h0 := by rw [← hh, Bd.state]; rfl
  have N0 := Fr.nil n0
  have pre0 := own_pre (p := p) (e := e) (below := below) (T := s₁) (ef_rmIni1 m a ca)
  have lt_I5 : @LT.lt Nat _ a h0.size := I5.lt
  have lt_I8 : @LT.lt Nat _ ca h0.size := I8.lt
  obtain ⟨cl1, Ar1, -, S1, M1, -, -⟩ := id I8
  have Zc2 : n0 ≤ h0.size := by omega
  obtain ⟨_, _, ⟨T3, L3, k3, n3⟩, -, X3, ⟨Lc3, hQ3, l3, y3, z3⟩, st3⟩ := X0.specialBack hx (y := M8_) rfl hown (mvT hZ (own_m hw 11 rfl)) (mvT hZ (own_m hw 12 rfl)) (mvT hZ (own_m hw 14 rfl)) (by decide) (backOf (W := 0) (rmIni4 l Z a0 hw [] a ca cst cs kc n h0 n0 Zc2 I1 I2 I3 I4 OX hcst I5 I6 I7 I8 hn hb hpos hchs ga hac) hZ (own_m hw 14 rfl) (own_m hw 7 rfl) (by decide) (by decide)) (g := (mkF m 6 #[.val (.ref a), .val (.ref ca)] [.null, (.int (Int32.ofNat n)), (.int (0 : Int32)), (.ref ca), (.ref a)])) rfl (by rw [hml]; rfl) (Steps.refl _) (a := a) (argsL := [(.ref ca), (.int (0 : Int32)), (.int (Int32.ofNat n)), .null]) (rest := []) (lenOf pd___CIILjava_lang_Void__V rfl) rfl (by show 2 * 0 + _ ≤ _; exact Nat.le_of_eq rfl) (dd hy dJ42_3_6) (fun _ _ => ⟨rfl, e0, (by decide : 0 + 2 ≤ _), (by decide : 0 + 48 ≤ _)⟩)
  dsimp only [Pt.U, Pt.locs, Pt.cells, Pt.slots] at X3 l3 y3 z3 st3 hQ3
  subst l3 y3 z3
  obtain ⟨b_3, kb_3, rfl, N3q, K3, Fq3_0, Fq3_1, Fq3_2, Fq3_3, P3_0⟩ := hQ3
  have N3 := Fr.app N0 N3q
  obtain ⟨h3, e3⟩ : ∃ z, T3.heap = z := ⟨_, rfl⟩
  rw [e3] at K3 Fq3_0 Fq3_1 Fq3_2 Fq3_3
  have z4 : h0.size ≤ h3.size := K3.1
  have lt3_0 : @LT.lt Nat _ a h3.size := Fq3_0.lt
  have lt3_3 : @LT.lt Nat _ b_3 h3.size := Fq3_3.lt
  have s5 : ∀ t_, Steps p.tables e below (T3.setTop (mkF m 9 #[.val (.ref a), .val (.ref ca)] [])) t_ → Steps _ _ _ _ t_ := fun t_ k_ => pre0 t_ (by
    refine XS.aloadN X0.here hx rfl (dd hy dJ42_3_0) rfl rfl ?_
    refine XS.aloadN X0.here hx rfl (dd hy dJ42_3_1) rfl rfl ?_
    refine XS.iconst X0.here hx rfl (dd hy dJ42_3_2) ?_
    refine XS.aloadN X0.here hx rfl (dd hy dJ42_3_3) rfl rfl ?_
    refine X0.arraylength hx (by rw [e0]; exact Ar1.1) (State.isArrayOf_alike hZ.alike Ar1.2.1) (g := (mkF m 4 #[.val (.ref a), .val (.ref ca)] [(.ref ca), (.int (0 : Int32)), (.ref ca), (.ref a)])) rfl rfl (dd hy dJ42_3_4) _ ?_
    rw [len_of S1 M1]
    show Steps _ _ _ (s₁.setTop (mkF m 5 #[.val (.ref a), .val (.ref ca)] [(.int (Int32.ofNat n)), (.int (0 : Int32)), (.ref ca), (.ref a)])) _
    refine XS.aconstNull X0.here hx rfl (dd hy dJ42_3_5) ?_
    refine st3.trans ?_
    show Steps _ _ _ (T3.setTop (mkF m 9 #[.val (.ref a), .val (.ref ca)] [])) _
    exact k_)
  obtain ⟨fs, hr, hrun, hended, hW, hsame⟩ := X3.leave (v := none) (fun _ => rfl)
  refine ⟨_, _, s5 _ ?_, hrun, hended, _, _, rfl, ?_, ⟨_, rfl⟩, hW, hsame.mono (by decide) (by decide)⟩
  · exact X3.returnOut hx Bd.returns (dd hy dJ42_3_9) hr
  · show Q_rmIni1 Z _ _ _ _ _ _ h0 n0 _ T3.heap _
    rw [e3]
    exact ⟨b_3, kb_3, rfl, N3, ((Keep.refl h0 [a]).trans K3 (allS (Or.inl (by simp)) all0)), Fq3_0, Fq3_1, Fq3_2, Fq3_3, by omega⟩
theorem dJ42_152_0 : decode CJ42_152 0 = .ok (.getstatic 38, 3) := by decide +kernel
theorem dJ42_152_3 : decode CJ42_152 3 = .ok (.ifCond .eq 10, 3) := by decide +kernel
theorem dJ42_152_6 : decode CJ42_152 6 = .ok (.aload_n 0, 1) := by decide +kernel
theorem dJ42_152_7 : decode CJ42_152 7 = .ok (.getfield 15, 3) := by decide +kernel
theorem dJ42_152_10 : decode CJ42_152 10 = .ok (.goto 4, 3) := by decide +kernel
theorem dJ42_152_14 : decode CJ42_152 14 = .ok (.ireturn, 1) := by decide +kernel
theorem ef_rmCdr (m : MethodId) (x0 : Addr) : entryFrame m #[(.ref x0)] 1 = mkF m 0 #[.val (.ref x0)] [] := by first | (simp [entryFrame, mkF, argsToLocals, Value.category]; done) | rfl
abbrev R_rmCdr : Room := ({ frames := 0, cells := 0, slots := 0, locals := 0 } : Room)
def Q_rmCdr (Z : State) (a : Addr) (cst : Int32) (cs : List Int32) (h0 : Heap) (n0 : Nat) (v : Option Value) (h : Heap) (L : List Loc) : Prop := (v = some (.int (own_cod cs))) ∧ (Fr n0 L) ∧ (h = h0)
set_option maxRecDepth 65536 in
set_option maxHeartbeats 40000000 in
theorem rmCdr (l : Launch) (Z : State) (a0 : Array Value) (hw : HW Z a0) (ws : List Jvm.Cond) (a : Addr) (cst : Int32) (cs : List Int32) (h0 : Heap) (n0 : Nat) (Z0 : n0 ≤ h0.size) (I1 : Sta Z Z.heap cS cC "Z" (.int cst)) (OX : Old Z n0 h0) (hcst : ¬ (cst = (0 : Int32))) (I2 : Fld Z h0 a cS "coder" "B" (.int (own_cod cs))) :
    MF l Z M10_ (Jvm.Cond.code M10_ jdk_42_method_152_code 1 (some .byte) :: ws) R_rmCdr #[(.ref a)] h0 (Q_rmCdr Z a cst cs h0 n0) := by
  refine MetFree.of_bodySF (plainFor_of_name pn_java_lang_String) hisR ?_
  intro p e s m args below meth c s₁ Bd hml0 hP hK
  obtain ⟨rfl, hZ, hh⟩ := hP
  have hx := Bd.exec
  have hy := Bd.bytes
  have hml : c.maxLocals = 1 := hml0
  have hown : s.vm.findClass "java/lang/String" = some m.cls := findClass_of_methodNamed Bd.named
  have hnm := (name_of_methodNamed Bd.named Bd.method).1
  have X0 : Stand p l e R_rmCdr s m #[(.ref a)] below meth c s₁ [] 0 0 := Stand.of_body Bd
  have e0 : s₁.heap = h0 := by rw [← hh, Bd.state]; rfl
  have N0 := Fr.nil n0
  have pre0 := own_pre (p := p) (e := e) (below := below) (T := s₁) (ef_rmCdr m a)
  have lt_I2 : @LT.lt Nat _ a h0.size := I2.lt
  obtain ⟨T1, X1, e1, st1⟩ := getS2 X0 hx hZ hown (host := "") (Or.inl (own_m hw 18 rfl)) Via.refl e0 (I1.ext OX.2) (g := (mkF m 0 #[.val (.ref a)] [])) rfl (dd hy dJ42_152_0)
  obtain ⟨T2, X2, e2, st2⟩ := getF X1 hx hZ hown (host := "") (Or.inl (own_m hw 30 rfl)) Via.refl e1 I2 (g := (mkF m 7 #[.val (.ref a)] [(.ref a)])) rfl rfl (dd hy dJ42_152_7)
  have s3 : ∀ t_, Steps p.tables e below (T2.setTop (mkF m 14 #[.val (.ref a)] [(.int (own_cod cs))])) t_ → Steps _ _ _ _ t_ := fun t_ k_ => pre0 t_ (by
    refine st1 _ ?_
    refine XS.ifNo X1.here hx rfl (dd hy dJ42_152_3) rfl ((if0 _ _).trans (feq hcst).1) ?_
    show Steps _ _ _ (T1.setTop (mkF m 6 #[.val (.ref a)] [])) _
    refine XS.aloadN X1.here hx rfl (dd hy dJ42_152_6) rfl rfl ?_
    refine st2 _ ?_
    refine XS.goto X2.here hx rfl (pc0 := 10) (pc' := 14) rfl (dd hy dJ42_152_10) (by decide) (by decide) ?_
    exact k_)
  obtain ⟨fs, hr, hrun, hended, hW, hsame⟩ := X2.leave (v := some (.int (nar .byte (own_cod cs)))) (fun h => by rw [Bd.returns] at h; cases h)
  refine ⟨_, _, s3 _ ?_, hrun, hended, _, _, rfl, ?_, ⟨_, rfl⟩, hW, hsame.mono (by decide) (by decide)⟩
  · exact retN X2 hx (t := .byte) Bd.returns (by simp) (dd hy dJ42_152_14) hr
  · show Q_rmCdr Z _ _ _ h0 n0 _ T2.heap _
    rw [e2]
    exact ⟨(by rw [own_cnarb]), N0, rfl⟩
theorem dJ42_54_0 : decode CJ42_54 0 = .ok (.aload_n 0, 1) := by decide +kernel
theorem dJ42_54_1 : decode CJ42_54 1 = .ok (.getfield 9, 3) := by decide +kernel
theorem dJ42_54_4 : decode CJ42_54 4 = .ok (.arraylength, 1) := by decide +kernel
theorem dJ42_54_5 : decode CJ42_54 5 = .ok (.aload_n 0, 1) := by decide +kernel
theorem pd___B : parseMethodDescriptor "()B" = some ⟨[], some .byte⟩ := by decide +kernel
theorem dJ42_54_6 : decode CJ42_54 6 = .ok (.invokevirtual 335, 3) := by decide +kernel
theorem dJ42_54_9 : decode CJ42_54 9 = .ok (.ishr, 1) := by decide +kernel
theorem dJ42_54_10 : decode CJ42_54 10 = .ok (.ireturn, 1) := by decide +kernel
theorem ef_rmLen (m : MethodId) (x0 : Addr) : entryFrame m #[(.ref x0)] 1 = mkF m 0 #[.val (.ref x0)] [] := by first | (simp [entryFrame, mkF, argsToLocals, Value.category]; done) | rfl
abbrev R_rmLen : Room := ({ frames := 1, cells := 0, slots := 0, locals := 13 } : Room)
def Q_rmLen (Z : State) (a : Addr) (cst : Int32) (b : Addr) (kb : ClassId) (cs : List Int32) (h0 : Heap) (n0 : Nat) (v : Option Value) (h : Heap) (L : List Loc) : Prop := (v = some (.int (Int32.ofNat cs.length))) ∧ (Fr n0 L) ∧ (h = h0)
set_option maxRecDepth 65536 in
set_option maxHeartbeats 40000000 in
theorem rmLen (l : Launch) (Z : State) (a0 : Array Value) (hw : HW Z a0) (ws : List Jvm.Cond) (a : Addr) (cst : Int32) (b : Addr) (kb : ClassId) (cs : List Int32) (h0 : Heap) (n0 : Nat) (Z0 : n0 ≤ h0.size) (I1 : Sta Z Z.heap cS cC "Z" (.int cst)) (OX : Old Z n0 h0) (hcst : ¬ (cst = (0 : Int32))) (I2 : Exa Z h0 a cS) (I3 : Fld Z h0 a cS "value" "[B" (.ref b)) (I4 : Fld Z h0 a cS "coder" "B" (.int (own_cod cs))) (I5 : Arv Z h0 b kb .byte (Int32.ofNat (own_enl cs)) (own_enc cs) v0_) (hb : cs.length ≤ 16) :
    MF l Z M11_ (Jvm.Cond.code M11_ jdk_42_method_54_code 1 (some .int) :: ws) R_rmLen #[(.ref a)] h0 (Q_rmLen Z a cst b kb cs h0 n0) := by
  refine MetFree.of_bodySF (plainFor_of_name pn_java_lang_String) hisR ?_
  intro p e s m args below meth c s₁ Bd hml0 hP hK
  obtain ⟨rfl, hZ, hh⟩ := hP
  have hx := Bd.exec
  have hy := Bd.bytes
  have hml : c.maxLocals = 1 := hml0
  have hown : s.vm.findClass "java/lang/String" = some m.cls := findClass_of_methodNamed Bd.named
  have hnm := (name_of_methodNamed Bd.named Bd.method).1
  have X0 : Stand p l e R_rmLen s m #[(.ref a)] below meth c s₁ [] 0 0 := Stand.of_body Bd
  have e0 : s₁.heap = h0 := by rw [← hh, Bd.state]; rfl
  have N0 := Fr.nil n0
  have pre0 := own_pre (p := p) (e := e) (below := below) (T := s₁) (ef_rmLen m a)
  have lt_I2 : @LT.lt Nat _ a h0.size := I2.lt
  have lt_I5 : @LT.lt Nat _ b h0.size := I5.lt
  obtain ⟨T1, X1, e1, st1⟩ := getF X0 hx hZ hown (host := "") (Or.inl (own_m hw 32 rfl)) Via.refl e0 I3 (g := (mkF m 1 #[.val (.ref a)] [(.ref a)])) rfl rfl (dd hy dJ42_54_1)
  obtain ⟨cl2, Ar2, -, S2, M2, -, -⟩ := id I5
  have Zc3 : n0 ≤ h0.size := by omega
  obtain ⟨cq4, kq4, q4a, q4b, q4c⟩ := isOf hZ e1 I2
  obtain ⟨_, _, ⟨T4, L4, k4, n4⟩, -, X4, ⟨Lc4, hQ4, l4, y4, z4⟩, st4⟩ := X1.virtualBack hx (y := M10_) (z := M10_) hown (mvT hZ (own_m hw 61 rfl)) (mvT hZ (own_m hw 62 rfl)) (notFace_of_selects (args := #[]) (mvT hZ (own_m hw 64 rfl))) (mvT hZ (own_m hw 64 rfl)) (mvT hZ (own_m hw 63 rfl)) (by decide) (backOf (W := 1) (rmCdr l Z a0 hw [] a cst cs h0 n0 Zc3 I1 OX hcst I4) hZ (own_m hw 65 rfl) (own_m hw 7 rfl) (by decide) (by decide)) q4a q4c (g := (mkF m 6 #[.val (.ref a)] [(.ref a), (.int (Int32.ofNat (own_enl cs)))])) rfl (by rw [hml]; rfl) (Steps.refl _) (argsL := []) (rest := [(.int (Int32.ofNat (own_enl cs)))]) (lenOf pd___B rfl) rfl (by show 2 * 0 + _ ≤ _; exact Nat.le_of_eq rfl) (dd hy dJ42_54_6) (fun _ _ => ⟨rfl, e1, (by decide : 0 + 0 ≤ _), (by decide : 0 + 0 ≤ _)⟩)
  dsimp only [Pt.U, Pt.locs, Pt.cells, Pt.slots] at X4 l4 y4 z4 st4 hQ4
  subst l4 y4 z4
  obtain ⟨rfl, N4q, e4⟩ := hQ4
  have N4 := Fr.app N0 N4q
  have s5 : ∀ t_, Steps p.tables e below (T4.setTop (mkF m 10 #[.val (.ref a)] [(.int ((Int32.ofNat (own_enl cs)) >>> ((own_cod cs) &&& 31)))])) t_ → Steps _ _ _ _ t_ := fun t_ k_ => pre0 t_ (by
    refine XS.aloadN X0.here hx rfl (dd hy dJ42_54_0) rfl rfl ?_
    refine st1 _ ?_
    refine X1.arraylength hx (by rw [e1]; exact Ar2.1) (State.isArrayOf_alike hZ.alike Ar2.2.1) (g := (mkF m 4 #[.val (.ref a)] [(.ref b)])) rfl rfl (dd hy dJ42_54_4) _ ?_
    rw [len_of S2 M2]
    show Steps _ _ _ (T1.setTop (mkF m 5 #[.val (.ref a)] [(.int (Int32.ofNat (own_enl cs)))])) _
    refine XS.aloadN X1.here hx rfl (dd hy dJ42_54_5) rfl rfl ?_
    refine st4.trans ?_
    show Steps _ _ _ (T4.setTop (mkF m 9 #[.val (.ref a)] [(.int (own_cod cs)), (.int (Int32.ofNat (own_enl cs)))])) _
    refine XS.ishr X4.here hx rfl (dd hy dJ42_54_9) rfl ?_
    exact k_)
  obtain ⟨fs, hr, hrun, hended, hW, hsame⟩ := X4.leave (v := some (.int ((Int32.ofNat (own_enl cs)) >>> ((own_cod cs) &&& 31)))) (fun h => by rw [Bd.returns] at h; cases h)
  refine ⟨_, _, s5 _ ?_, hrun, hended, _, _, rfl, ?_, ⟨_, rfl⟩, hW, hsame.mono (by decide) (by decide)⟩
  · exact retI X4 hx Bd.returns (dd hy dJ42_54_10) hr
  · show Q_rmLen Z _ _ _ _ _ h0 n0 _ T4.heap _
    rw [e4]
    exact ⟨(by rw [own_lenq cs (by omega)]), N4, rfl⟩
theorem dJ42_154_0 : decode CJ42_154 0 = .ok (.getstatic 38, 3) := by decide +kernel
theorem dJ42_154_3 : decode CJ42_154 3 = .ok (.ifCond .eq 14, 3) := by decide +kernel
theorem dJ42_154_6 : decode CJ42_154 6 = .ok (.aload_n 0, 1) := by decide +kernel
theorem dJ42_154_7 : decode CJ42_154 7 = .ok (.getfield 15, 3) := by decide +kernel
theorem dJ42_154_10 : decode CJ42_154 10 = .ok (.ifCond .ne 7, 3) := by decide +kernel
theorem dJ42_154_13 : decode CJ42_154 13 = .ok (.iconst 1, 1) := by decide +kernel
theorem dJ42_154_14 : decode CJ42_154 14 = .ok (.goto 4, 3) := by decide +kernel
theorem dJ42_154_18 : decode CJ42_154 18 = .ok (.ireturn, 1) := by decide +kernel
theorem dJ42_154_17 : decode CJ42_154 17 = .ok (.iconst 0, 1) := by decide +kernel
theorem ef_rmIsL (m : MethodId) (x0 : Addr) : entryFrame m #[(.ref x0)] 1 = mkF m 0 #[.val (.ref x0)] [] := by first | (simp [entryFrame, mkF, argsToLocals, Value.category]; done) | rfl
abbrev R_rmIsL : Room := ({ frames := 0, cells := 0, slots := 0, locals := 0 } : Room)
def Q_rmIsL (Z : State) (a : Addr) (cst : Int32) (cs : List Int32) (h0 : Heap) (n0 : Nat) (v : Option Value) (h : Heap) (L : List Loc) : Prop := (v = some (.int (if own_cod cs = (0 : Int32) then (1 : Int32) else (0 : Int32)))) ∧ (Fr n0 L) ∧ (h = h0)
set_option maxRecDepth 65536 in
set_option maxHeartbeats 40000000 in
theorem rmIsL (l : Launch) (Z : State) (a0 : Array Value) (hw : HW Z a0) (ws : List Jvm.Cond) (a : Addr) (cst : Int32) (cs : List Int32) (h0 : Heap) (n0 : Nat) (Z0 : n0 ≤ h0.size) (I1 : Sta Z Z.heap cS cC "Z" (.int cst)) (OX : Old Z n0 h0) (hcst : ¬ (cst = (0 : Int32))) (I2 : Fld Z h0 a cS "coder" "B" (.int (own_cod cs))) :
    MF l Z M12_ (Jvm.Cond.code M12_ jdk_42_method_154_code 1 (some .boolean) :: ws) R_rmIsL #[(.ref a)] h0 (Q_rmIsL Z a cst cs h0 n0) := by
  refine MetFree.of_bodySF (plainFor_of_name pn_java_lang_String) hisR ?_
  intro p e s m args below meth c s₁ Bd hml0 hP hK
  obtain ⟨rfl, hZ, hh⟩ := hP
  have hx := Bd.exec
  have hy := Bd.bytes
  have hml : c.maxLocals = 1 := hml0
  have hown : s.vm.findClass "java/lang/String" = some m.cls := findClass_of_methodNamed Bd.named
  have hnm := (name_of_methodNamed Bd.named Bd.method).1
  have X0 : Stand p l e R_rmIsL s m #[(.ref a)] below meth c s₁ [] 0 0 := Stand.of_body Bd
  have e0 : s₁.heap = h0 := by rw [← hh, Bd.state]; rfl
  have N0 := Fr.nil n0
  have pre0 := own_pre (p := p) (e := e) (below := below) (T := s₁) (ef_rmIsL m a)
  have lt_I2 : @LT.lt Nat _ a h0.size := I2.lt
  obtain ⟨T1, X1, e1, st1⟩ := getS2 X0 hx hZ hown (host := "") (Or.inl (own_m hw 18 rfl)) Via.refl e0 (I1.ext OX.2) (g := (mkF m 0 #[.val (.ref a)] [])) rfl (dd hy dJ42_154_0)
  obtain ⟨T2, X2, e2, st2⟩ := getF X1 hx hZ hown (host := "") (Or.inl (own_m hw 30 rfl)) Via.refl e1 I2 (g := (mkF m 7 #[.val (.ref a)] [(.ref a)])) rfl rfl (dd hy dJ42_154_7)
  have s3 : ∀ t_, Steps p.tables e below (T2.setTop (mkF m 10 #[.val (.ref a)] [(.int (own_cod cs))])) t_ → Steps _ _ _ _ t_ := fun t_ k_ => pre0 t_ (by
    refine st1 _ ?_
    refine XS.ifNo X1.here hx rfl (dd hy dJ42_154_3) rfl ((if0 _ _).trans (feq hcst).1) ?_
    show Steps _ _ _ (T1.setTop (mkF m 6 #[.val (.ref a)] [])) _
    refine XS.aloadN X1.here hx rfl (dd hy dJ42_154_6) rfl rfl ?_
    refine st2 _ ?_
    exact k_)
  by_cases h4 : (own_cod cs) = (0 : Int32)
  · have s5 : ∀ t_, Steps p.tables e below (T2.setTop (mkF m 18 #[.val (.ref a)] [(.int (1 : Int32))])) t_ → Steps _ _ _ _ t_ := fun t_ k_ => s3 t_ (by
      refine XS.ifNo X2.here hx rfl (dd hy dJ42_154_10) rfl ((if0 _ _).trans (teq h4).2) ?_
      show Steps _ _ _ (T2.setTop (mkF m 13 #[.val (.ref a)] [])) _
      refine XS.iconst X2.here hx rfl (dd hy dJ42_154_13) ?_
      refine XS.goto X2.here hx rfl (pc0 := 14) (pc' := 18) rfl (dd hy dJ42_154_14) (by decide) (by decide) ?_
      exact k_)
    obtain ⟨fs, hr, hrun, hended, hW, hsame⟩ := X2.leave (v := some (.int (1 : Int32))) (fun h => by rw [Bd.returns] at h; cases h)
    refine ⟨_, _, s5 _ ?_, hrun, hended, _, _, rfl, ?_, ⟨_, rfl⟩, hW, hsame.mono (by decide) (by decide)⟩
    · exact retN X2 hx (t := .boolean) Bd.returns (by simp) (dd hy dJ42_154_18) hr
    · show Q_rmIsL Z _ _ _ h0 n0 _ T2.heap _
      rw [e2]
      exact ⟨(by first | rfl | (simp only [if_pos h4]; done) | (simp only [if_pos h4]; rfl) | (simp only [if_pos h4, own_narb]; done)), N0, rfl⟩
  · have s6 : ∀ t_, Steps p.tables e below (T2.setTop (mkF m 18 #[.val (.ref a)] [(.int (0 : Int32))])) t_ → Steps _ _ _ _ t_ := fun t_ k_ => s3 t_ (by
      refine XS.ifYes X2.here hx rfl (pc0 := 10) (pc' := 17) rfl (dd hy dJ42_154_10) rfl ((if0 _ _).trans (feq h4).2) (by decide) (by decide) ?_
      show Steps _ _ _ (T2.setTop (mkF m 17 #[.val (.ref a)] [])) _
      refine XS.iconst X2.here hx rfl (dd hy dJ42_154_17) ?_
      exact k_)
    obtain ⟨fs, hr, hrun, hended, hW, hsame⟩ := X2.leave (v := some (.int (0 : Int32))) (fun h => by rw [Bd.returns] at h; cases h)
    refine ⟨_, _, s6 _ ?_, hrun, hended, _, _, rfl, ?_, ⟨_, rfl⟩, hW, hsame.mono (by decide) (by decide)⟩
    · exact retN X2 hx (t := .boolean) Bd.returns (by simp) (dd hy dJ42_154_18) hr
    · show Q_rmIsL Z _ _ _ h0 n0 _ T2.heap _
      rw [e2]
      exact ⟨(by first | rfl | (simp only [if_neg h4]; done) | (simp only [if_neg h4]; rfl) | (simp only [if_neg h4, own_narb]; done)), N0, rfl⟩
theorem pn_java_lang_StringLatin1 : plainName "java/lang/StringLatin1" = true := by first | (simp [plainName, overriddenIn]; done) | decide +kernel
theorem dJ43_13_0 : decode CJ43_13 0 = .ok (.aload_n 0, 1) := by decide +kernel
theorem dJ43_13_1 : decode CJ43_13 1 = .ok (.arraylength, 1) := by decide +kernel
theorem dJ43_13_2 : decode CJ43_13 2 = .ok (.aload_n 1, 1) := by decide +kernel
theorem dJ43_13_3 : decode CJ43_13 3 = .ok (.arraylength, 1) := by decide +kernel
theorem dJ43_13_4 : decode CJ43_13 4 = .ok (.if_icmp .ne 30, 3) := by decide +kernel
theorem dJ43_13_7 : decode CJ43_13 7 = .ok (.iconst 0, 1) := by decide +kernel
theorem dJ43_13_8 : decode CJ43_13 8 = .ok (.istore_n 2, 1) := by decide +kernel
theorem dJ43_13_9 : decode CJ43_13 9 = .ok (.iload_n 2, 1) := by decide +kernel
theorem dJ43_13_10 : decode CJ43_13 10 = .ok (.aload_n 0, 1) := by decide +kernel
theorem dJ43_13_11 : decode CJ43_13 11 = .ok (.arraylength, 1) := by decide +kernel
theorem dJ43_13_12 : decode CJ43_13 12 = .ok (.if_icmp .ge 20, 3) := by decide +kernel
theorem dJ43_13_15 : decode CJ43_13 15 = .ok (.aload_n 0, 1) := by decide +kernel
theorem dJ43_13_16 : decode CJ43_13 16 = .ok (.iload_n 2, 1) := by decide +kernel
theorem dJ43_13_17 : decode CJ43_13 17 = .ok (.baload, 1) := by decide +kernel
theorem dJ43_13_18 : decode CJ43_13 18 = .ok (.aload_n 1, 1) := by decide +kernel
theorem dJ43_13_19 : decode CJ43_13 19 = .ok (.iload_n 2, 1) := by decide +kernel
theorem dJ43_13_20 : decode CJ43_13 20 = .ok (.baload, 1) := by decide +kernel
theorem dJ43_13_21 : decode CJ43_13 21 = .ok (.if_icmp .eq 5, 3) := by decide +kernel
theorem dJ43_13_26 : decode CJ43_13 26 = .ok (.iinc 2 1, 3) := by decide +kernel
theorem dJ43_13_29 : decode CJ43_13 29 = .ok (.goto (-20), 3) := by decide +kernel
theorem dJ43_13_32 : decode CJ43_13 32 = .ok (.iconst 1, 1) := by decide +kernel
theorem dJ43_13_33 : decode CJ43_13 33 = .ok (.ireturn, 1) := by decide +kernel
theorem dJ43_13_24 : decode CJ43_13 24 = .ok (.iconst 0, 1) := by decide +kernel
theorem dJ43_13_25 : decode CJ43_13 25 = .ok (.ireturn, 1) := by decide +kernel
theorem dJ43_13_34 : decode CJ43_13 34 = .ok (.iconst 0, 1) := by decide +kernel
theorem dJ43_13_35 : decode CJ43_13 35 = .ok (.ireturn, 1) := by decide +kernel
theorem ef_rmLEq (m : MethodId) (x0 : Addr) (x1 : Addr) : entryFrame m #[(.ref x0), (.ref x1)] 3 = mkF m 0 #[.val (.ref x0), .val (.ref x1), .unset] [] := by first | (simp [entryFrame, mkF, argsToLocals, Value.category]; done) | rfl
abbrev R_rmLEq : Room := ({ frames := 0, cells := 0, slots := 0, locals := 0 } : Room)
def Q_rmLEq (Z : State) (bx : Addr) (by_ : Addr) (kx : ClassId) (ky : ClassId) (xs : List Int32) (ys : List Int32) (h0 : Heap) (n0 : Nat) (v : Option Value) (h : Heap) (L : List Loc) : Prop := (v = some (.int (if xs = ys then (1 : Int32) else (0 : Int32)))) ∧ (Fr n0 L) ∧ (h = h0)
set_option maxRecDepth 65536 in
set_option maxHeartbeats 40000000 in
theorem rmLEq (l : Launch) (Z : State) (a0 : Array Value) (hw : HW Z a0) (ws : List Jvm.Cond) (bx : Addr) (by_ : Addr) (kx : ClassId) (ky : ClassId) (xs : List Int32) (ys : List Int32) (h0 : Heap) (n0 : Nat) (Z0 : n0 ≤ h0.size) (I1 : Arv Z h0 bx kx .byte (Int32.ofNat xs.length) (xs.map Value.int) v0_) (I2 : Arv Z h0 by_ ky .byte (Int32.ofNat ys.length) (ys.map Value.int) v0_) (hb1 : xs.length ≤ 8000) (hb2 : ys.length ≤ 8000) :
    MF l Z M13_ (Jvm.Cond.code M13_ jdk_43_method_13_code 3 (some .boolean) :: ws) R_rmLEq #[(.ref bx), (.ref by_)] h0 (Q_rmLEq Z bx by_ kx ky xs ys h0 n0) := by
  refine MetFree.of_bodySF (plainFor_of_name pn_java_lang_StringLatin1) hisR ?_
  intro p e s m args below meth c s₁ Bd hml0 hP hK
  obtain ⟨rfl, hZ, hh⟩ := hP
  have hx := Bd.exec
  have hy := Bd.bytes
  have hml : c.maxLocals = 3 := hml0
  have hown : s.vm.findClass "java/lang/StringLatin1" = some m.cls := findClass_of_methodNamed Bd.named
  have hnm := (name_of_methodNamed Bd.named Bd.method).1
  have X0 : Stand p l e R_rmLEq s m #[(.ref bx), (.ref by_)] below meth c s₁ [] 0 0 := Stand.of_body Bd
  have e0 : s₁.heap = h0 := by rw [← hh, Bd.state]; rfl
  have N0 := Fr.nil n0
  have pre0 := own_pre (p := p) (e := e) (below := below) (T := s₁) (ef_rmLEq m bx by_)
  have lt_I1 : @LT.lt Nat _ bx h0.size := I1.lt
  have lt_I2 : @LT.lt Nat _ by_ h0.size := I2.lt
  obtain ⟨cl1, Ar1, -, S1, M1, -, -⟩ := id I1
  obtain ⟨cl2, Ar2, -, S2, M2, -, -⟩ := id I2
  have s3 : ∀ t_, Steps p.tables e below (s₁.setTop (mkF m 4 #[.val (.ref bx), .val (.ref by_), .unset] [(.int (Int32.ofNat ys.length)), (.int (Int32.ofNat xs.length))])) t_ → Steps _ _ _ _ t_ := fun t_ k_ => pre0 t_ (by
    refine XS.aloadN X0.here hx rfl (dd hy dJ43_13_0) rfl rfl ?_
    refine X0.arraylength hx (by rw [e0]; exact Ar1.1) (State.isArrayOf_alike hZ.alike Ar1.2.1) (g := (mkF m 1 #[.val (.ref bx), .val (.ref by_), .unset] [(.ref bx)])) rfl rfl (dd hy dJ43_13_1) _ ?_
    rw [len_of S1 M1]
    show Steps _ _ _ (s₁.setTop (mkF m 2 #[.val (.ref bx), .val (.ref by_), .unset] [(.int (Int32.ofNat xs.length))])) _
    refine XS.aloadN X0.here hx rfl (dd hy dJ43_13_2) rfl rfl ?_
    refine X0.arraylength hx (by rw [e0]; exact Ar2.1) (State.isArrayOf_alike hZ.alike Ar2.2.1) (g := (mkF m 3 #[.val (.ref bx), .val (.ref by_), .unset] [(.ref by_), (.int (Int32.ofNat xs.length))])) rfl rfl (dd hy dJ43_13_3) _ ?_
    rw [len_of S2 M2]
    show Steps _ _ _ (s₁.setTop (mkF m 4 #[.val (.ref bx), .val (.ref by_), .unset] [(.int (Int32.ofNat ys.length)), (.int (Int32.ofNat xs.length))])) _
    exact k_)
  by_cases h4 : (Int32.ofNat xs.length) = (Int32.ofNat ys.length)
  · have s5 : ∀ t_, Steps p.tables e below (s₁.setTop (mkF m 9 #[.val (.ref bx), .val (.ref by_), .val (.int (0 : Int32))] [])) t_ → Steps _ _ _ _ t_ := fun t_ k_ => s3 t_ (by
      refine XS.icmpNo X0.here hx rfl (dd hy dJ43_13_4) rfl (teq h4).2 ?_
      show Steps _ _ _ (s₁.setTop (mkF m 7 #[.val (.ref bx), .val (.ref by_), .unset] [])) _
      refine XS.iconst X0.here hx rfl (dd hy dJ43_13_7) ?_
      refine XS.istoreN X0.here hx rfl (dd hy dJ43_13_8) rfl (l' := #[.val (.ref bx), .val (.ref by_), .val (.int (0 : Int32))]) rfl ?_
      exact k_)
    have lp6 : ∀ (k_ : Nat) (j : Nat) (T_ : State) (lo_ : List Loc), j + k_ = xs.length → Stand p l e R_rmLEq s m #[(.ref bx), (.ref by_)] below meth c T_ lo_ 0 0 → T_.heap = h0 → Fr n0 lo_ → (∀ i, i < j → xs.getD i 0 = ys.getD i 0) → (xs.length = ys.length) → ∃ (T' : State) (lo' : List Loc) (fe_ : JFrame), Stand p l e R_rmLEq s m #[(.ref bx), (.ref by_)] below meth c T' lo' 0 0 ∧ T'.heap = h0 ∧ Fr n0 lo' ∧ ((fe_ = (mkF m 32 #[.val (.ref bx), .val (.ref by_), .val (.int (Int32.ofNat xs.length))] []) ∧ (xs = ys)) ∨ (∃ (jj : Nat), fe_ = (mkF m 24 #[.val (.ref bx), .val (.ref by_), .val (.int (Int32.ofNat jj))] []) ∧ (¬ (xs = ys)))) ∧ ∀ t_, Steps p.tables e below (T'.setTop fe_) t_ → Steps p.tables e below (T_.setTop (mkF m 9 #[.val (.ref bx), .val (.ref by_), .val (.int (Int32.ofNat j))] [])) t_ := by
      intro k_
      induction k_ with
      | zero => 
        intro j T_ lo_ hm_ X_ e_ N_ hp hlen
        obtain ⟨cl7, Ar7, -, S7, M7, -, -⟩ := id I1
        have s8 : ∀ t_, Steps p.tables e below (T_.setTop (mkF m 32 #[.val (.ref bx), .val (.ref by_), .val (.int (Int32.ofNat j))] [])) t_ → Steps p.tables e below (T_.setTop (mkF m 9 #[.val (.ref bx), .val (.ref by_), .val (.int (Int32.ofNat j))] [])) t_ := fun t_ k_ => (fun _ k_ => k_) t_ (by
          refine XS.iloadN X_.here hx rfl (dd hy dJ43_13_9) rfl ?_
          refine XS.aloadN X_.here hx rfl (dd hy dJ43_13_10) rfl rfl ?_
          refine X_.arraylength hx (by rw [e_]; exact Ar7.1) (State.isArrayOf_alike hZ.alike Ar7.2.1) (g := (mkF m 11 #[.val (.ref bx), .val (.ref by_), .val (.int (Int32.ofNat j))] [(.ref bx), (.int (Int32.ofNat j))])) rfl rfl (dd hy dJ43_13_11) _ ?_
          rw [len_of S7 M7]
          show Steps _ _ _ (T_.setTop (mkF m 12 #[.val (.ref bx), .val (.ref by_), .val (.int (Int32.ofNat j))] [(.int (Int32.ofNat xs.length)), (.int (Int32.ofNat j))])) _
          refine XS.icmpYes X_.here hx rfl (pc0 := 12) (pc' := 32) rfl (dd hy dJ43_13_12) rfl (flt (own_nlt (by omega) (by omega))).2.1 (by decide) (by decide) ?_
          show Steps _ _ _ (T_.setTop (mkF m 32 #[.val (.ref bx), .val (.ref by_), .val (.int (Int32.ofNat j))] [])) _
          exact k_)
        exact ⟨T_, _, _, X_, e_, N_, (Or.inl ⟨(by rw [show j = xs.length by omega]), (own_ext hlen fun i hi => hp i (by omega))⟩), s8⟩
      | succ k_ ih => 
        intro j T_ lo_ hm_ X_ e_ N_ hp hlen
        obtain ⟨cl9, Ar9, -, S9, M9, -, -⟩ := id I1
        obtain ⟨cl10, Ar10, -, S10, M10, H10, -⟩ := id I1
        have hin10 : ¬ ((Int32.ofNat j) < 0 ∨ cl10.slots.size ≤ ((Int32.ofNat j)).toNatClampNeg) := inb_of S10 (own_in (by omega) (by omega))
        have hat10 : cl10.slots[((Int32.ofNat j)).toNatClampNeg]? = some (.int (xs.getD j 0)) := H10.at hin10 (own_getc xs j _ (by omega) (by omega))
        obtain ⟨cl11, Ar11, -, S11, M11, H11, -⟩ := id I2
        have hin11 : ¬ ((Int32.ofNat j) < 0 ∨ cl11.slots.size ≤ ((Int32.ofNat j)).toNatClampNeg) := inb_of S11 (own_in (by omega) (by omega))
        have hat11 : cl11.slots[((Int32.ofNat j)).toNatClampNeg]? = some (.int (ys.getD j 0)) := H11.at hin11 (own_getc ys j _ (by omega) (by omega))
        have s12 : ∀ t_, Steps p.tables e below (T_.setTop (mkF m 21 #[.val (.ref bx), .val (.ref by_), .val (.int (Int32.ofNat j))] [(.int (ys.getD j 0)), (.int (xs.getD j 0))])) t_ → Steps p.tables e below (T_.setTop (mkF m 9 #[.val (.ref bx), .val (.ref by_), .val (.int (Int32.ofNat j))] [])) t_ := fun t_ k_ => (fun _ k_ => k_) t_ (by
          refine XS.iloadN X_.here hx rfl (dd hy dJ43_13_9) rfl ?_
          refine XS.aloadN X_.here hx rfl (dd hy dJ43_13_10) rfl rfl ?_
          refine X_.arraylength hx (by rw [e_]; exact Ar9.1) (State.isArrayOf_alike hZ.alike Ar9.2.1) (g := (mkF m 11 #[.val (.ref bx), .val (.ref by_), .val (.int (Int32.ofNat j))] [(.ref bx), (.int (Int32.ofNat j))])) rfl rfl (dd hy dJ43_13_11) _ ?_
          rw [len_of S9 M9]
          show Steps _ _ _ (T_.setTop (mkF m 12 #[.val (.ref bx), .val (.ref by_), .val (.int (Int32.ofNat j))] [(.int (Int32.ofNat xs.length)), (.int (Int32.ofNat j))])) _
          refine XS.icmpNo X_.here hx rfl (dd hy dJ43_13_12) rfl (tlt (own_lt (by omega) (by omega))).2.1 ?_
          show Steps _ _ _ (T_.setTop (mkF m 15 #[.val (.ref bx), .val (.ref by_), .val (.int (Int32.ofNat j))] [])) _
          refine XS.aloadN X_.here hx rfl (dd hy dJ43_13_15) rfl rfl ?_
          refine XS.iloadN X_.here hx rfl (dd hy dJ43_13_16) rfl ?_
          refine X_.baloadBytes hx (j := (Int32.ofNat j)) (v := (.int (xs.getD j 0))) (by rw [e_]; exact Ar10.1) (State.isArrayOf_alike hZ.alike Ar10.2.1) Ar10.2.2 hin10 hat10 (g := (mkF m 17 #[.val (.ref bx), .val (.ref by_), .val (.int (Int32.ofNat j))] [(.int (Int32.ofNat j)), (.ref bx)])) rfl rfl (dd hy dJ43_13_17) _ ?_
          refine XS.aloadN X_.here hx rfl (dd hy dJ43_13_18) rfl rfl ?_
          refine XS.iloadN X_.here hx rfl (dd hy dJ43_13_19) rfl ?_
          refine X_.baloadBytes hx (j := (Int32.ofNat j)) (v := (.int (ys.getD j 0))) (by rw [e_]; exact Ar11.1) (State.isArrayOf_alike hZ.alike Ar11.2.1) Ar11.2.2 hin11 hat11 (g := (mkF m 20 #[.val (.ref bx), .val (.ref by_), .val (.int (Int32.ofNat j))] [(.int (Int32.ofNat j)), (.ref by_), (.int (xs.getD j 0))])) rfl rfl (dd hy dJ43_13_20) _ ?_
          show Steps _ _ _ (T_.setTop (mkF m 21 #[.val (.ref bx), .val (.ref by_), .val (.int (Int32.ofNat j))] [(.int (ys.getD j 0)), (.int (xs.getD j 0))])) _
          exact k_)
        by_cases h13 : (xs.getD j 0) = (ys.getD j 0)
        · have s14 : ∀ t_, Steps p.tables e below (T_.setTop (mkF m 9 #[.val (.ref bx), .val (.ref by_), .val (.int ((Int32.ofNat j) + (1 : Int32)))] [])) t_ → Steps _ _ _ _ t_ := fun t_ k_ => s12 t_ (by
            refine XS.icmpYes X_.here hx rfl (pc0 := 21) (pc' := 26) rfl (dd hy dJ43_13_21) rfl (teq h13).1 (by decide) (by decide) ?_
            show Steps _ _ _ (T_.setTop (mkF m 26 #[.val (.ref bx), .val (.ref by_), .val (.int (Int32.ofNat j))] [])) _
            refine XS.iinc X_.here hx rfl (dd hy dJ43_13_26) rfl (l' := #[.val (.ref bx), .val (.ref by_), .val (.int ((Int32.ofNat j) + (1 : Int32)))]) rfl ?_
            refine XS.goto X_.here hx rfl (pc0 := 29) (pc' := 9) rfl (dd hy dJ43_13_29) (by decide) (by decide) ?_
            exact k_)
          obtain ⟨T15, lo15, fe15, X15, e15, N15, A15, st15⟩ := ih (j + 1) T_ _  (by omega) X_ e_ N_   (fun i hi => by rcases Nat.lt_succ_iff_lt_or_eq.mp hi with q | q; exact hp i q; rw [q]; exact h13) hlen
          exact ⟨T15, lo15, fe15, X15, e15, N15, A15, fun t_ k_ => s14 t_ (castTop (by rw [own_up]) (st15 t_ k_))⟩
        · have s16 : ∀ t_, Steps p.tables e below (T_.setTop (mkF m 24 #[.val (.ref bx), .val (.ref by_), .val (.int (Int32.ofNat j))] [])) t_ → Steps _ _ _ _ t_ := fun t_ k_ => s12 t_ (by
            refine XS.icmpNo X_.here hx rfl (dd hy dJ43_13_21) rfl (feq h13).1 ?_
            show Steps _ _ _ (T_.setTop (mkF m 24 #[.val (.ref bx), .val (.ref by_), .val (.int (Int32.ofNat j))] [])) _
            exact k_)
          exact ⟨T_, _, _, X_, e_, N_, (Or.inr ⟨j, rfl, (fun e => h13 (by rw [e]))⟩), s16⟩
    obtain ⟨T17, lo17, fe17, X17, e17, N17, A17, st17⟩ := lp6 xs.length 0 s₁ _  (by omega) X0 e0 N0   (fun i hi => absurd hi (Nat.not_lt_zero i)) (own_inj (by omega) (by omega) h4)
    rcases A17 with ⟨rfl, J17_0⟩ | ⟨jj_17, rfl, J17_0⟩
    · have s18 : ∀ t_, Steps p.tables e below (T17.setTop (mkF m 32 #[.val (.ref bx), .val (.ref by_), .val (.int (Int32.ofNat xs.length))] [])) t_ → Steps p.tables e below (s₁.setTop (entryFrame m #[(.ref bx), (.ref by_)] 3)) t_ := fun t_ k_ => s5 t_ (st17 t_ k_)
      have s19 : ∀ t_, Steps p.tables e below (T17.setTop (mkF m 33 #[.val (.ref bx), .val (.ref by_), .val (.int (Int32.ofNat xs.length))] [(.int (1 : Int32))])) t_ → Steps _ _ _ _ t_ := fun t_ k_ => s18 t_ (by
        refine XS.iconst X17.here hx rfl (dd hy dJ43_13_32) ?_
        exact k_)
      obtain ⟨fs, hr, hrun, hended, hW, hsame⟩ := X17.leave (v := some (.int (1 : Int32))) (fun h => by rw [Bd.returns] at h; cases h)
      refine ⟨_, _, s19 _ ?_, hrun, hended, _, _, rfl, ?_, ⟨_, rfl⟩, hW, hsame.mono (by decide) (by decide)⟩
      · exact retN X17 hx (t := .boolean) Bd.returns (by simp) (dd hy dJ43_13_33) hr
      · show Q_rmLEq Z _ _ _ _ _ _ h0 n0 _ T17.heap _
        rw [e17]
        exact ⟨(by rw [if_pos J17_0]), N17, rfl⟩
    · have s20 : ∀ t_, Steps p.tables e below (T17.setTop (mkF m 24 #[.val (.ref bx), .val (.ref by_), .val (.int (Int32.ofNat jj_17))] [])) t_ → Steps p.tables e below (s₁.setTop (entryFrame m #[(.ref bx), (.ref by_)] 3)) t_ := fun t_ k_ => s5 t_ (st17 t_ k_)
      have s21 : ∀ t_, Steps p.tables e below (T17.setTop (mkF m 25 #[.val (.ref bx), .val (.ref by_), .val (.int (Int32.ofNat jj_17))] [(.int (0 : Int32))])) t_ → Steps _ _ _ _ t_ := fun t_ k_ => s20 t_ (by
        refine XS.iconst X17.here hx rfl (dd hy dJ43_13_24) ?_
        exact k_)
      obtain ⟨fs, hr, hrun, hended, hW, hsame⟩ := X17.leave (v := some (.int (0 : Int32))) (fun h => by rw [Bd.returns] at h; cases h)
      refine ⟨_, _, s21 _ ?_, hrun, hended, _, _, rfl, ?_, ⟨_, rfl⟩, hW, hsame.mono (by decide) (by decide)⟩
      · exact retN X17 hx (t := .boolean) Bd.returns (by simp) (dd hy dJ43_13_25) hr
      · show Q_rmLEq Z _ _ _ _ _ _ h0 n0 _ T17.heap _
        rw [e17]
        exact ⟨(by rw [if_neg J17_0]), N17, rfl⟩
  · have s22 : ∀ t_, Steps p.tables e below (s₁.setTop (mkF m 35 #[.val (.ref bx), .val (.ref by_), .unset] [(.int (0 : Int32))])) t_ → Steps _ _ _ _ t_ := fun t_ k_ => s3 t_ (by
      refine XS.icmpYes X0.here hx rfl (pc0 := 4) (pc' := 34) rfl (dd hy dJ43_13_4) rfl (feq h4).2 (by decide) (by decide) ?_
      show Steps _ _ _ (s₁.setTop (mkF m 34 #[.val (.ref bx), .val (.ref by_), .unset] [])) _
      refine XS.iconst X0.here hx rfl (dd hy dJ43_13_34) ?_
      exact k_)
    obtain ⟨fs, hr, hrun, hended, hW, hsame⟩ := X0.leave (v := some (.int (0 : Int32))) (fun h => by rw [Bd.returns] at h; cases h)
    refine ⟨_, _, s22 _ ?_, hrun, hended, _, _, rfl, ?_, ⟨_, rfl⟩, hW, hsame.mono (by decide) (by decide)⟩
    · exact retN X0 hx (t := .boolean) Bd.returns (by simp) (dd hy dJ43_13_35) hr
    · show Q_rmLEq Z _ _ _ _ _ _ h0 n0 _ s₁.heap _
      rw [e0]
      exact ⟨(by rw [if_neg (fun e => h4 (by rw [e]))]), N0, rfl⟩
theorem dJ42_66_0 : decode CJ42_66 0 = .ok (.aload_n 0, 1) := by decide +kernel
theorem dJ42_66_1 : decode CJ42_66 1 = .ok (.aload_n 1, 1) := by decide +kernel
theorem dJ42_66_2 : decode CJ42_66 2 = .ok (.if_acmp .ne 5, 3) := by decide +kernel
theorem dJ42_66_7 : decode CJ42_66 7 = .ok (.aload_n 1, 1) := by decide +kernel
theorem dJ42_66_8 : decode CJ42_66 8 = .ok (.instanceof 10, 3) := by decide +kernel
theorem dJ42_66_11 : decode CJ42_66 11 = .ok (.ifCond .eq 43, 3) := by decide +kernel
theorem dJ42_66_14 : decode CJ42_66 14 = .ok (.aload_n 1, 1) := by decide +kernel
theorem dJ42_66_15 : decode CJ42_66 15 = .ok (.checkcast 10, 3) := by decide +kernel
theorem dJ42_66_18 : decode CJ42_66 18 = .ok (.astore_n 2, 1) := by decide +kernel
theorem dJ42_66_19 : decode CJ42_66 19 = .ok (.getstatic 38, 3) := by decide +kernel
theorem dJ42_66_22 : decode CJ42_66 22 = .ok (.ifCond .eq 14, 3) := by decide +kernel
theorem dJ42_66_25 : decode CJ42_66 25 = .ok (.aload_n 0, 1) := by decide +kernel
theorem dJ42_66_26 : decode CJ42_66 26 = .ok (.getfield 15, 3) := by decide +kernel
theorem dJ42_66_29 : decode CJ42_66 29 = .ok (.aload_n 2, 1) := by decide +kernel
theorem dJ42_66_30 : decode CJ42_66 30 = .ok (.getfield 15, 3) := by decide +kernel
theorem dJ42_66_33 : decode CJ42_66 33 = .ok (.if_icmp .ne 21, 3) := by decide +kernel
theorem dJ42_66_36 : decode CJ42_66 36 = .ok (.aload_n 0, 1) := by decide +kernel
theorem dJ42_66_37 : decode CJ42_66 37 = .ok (.getfield 9, 3) := by decide +kernel
theorem dJ42_66_40 : decode CJ42_66 40 = .ok (.aload_n 2, 1) := by decide +kernel
theorem dJ42_66_41 : decode CJ42_66 41 = .ok (.getfield 9, 3) := by decide +kernel
theorem pd___B_B_Z : parseMethodDescriptor "([B[B)Z" = some ⟨[(.array .byte), (.array .byte)], some .boolean⟩ := by decide +kernel
theorem dJ42_66_44 : decode CJ42_66 44 = .ok (.invokestatic 541, 3) := by decide +kernel
theorem dJ42_66_47 : decode CJ42_66 47 = .ok (.ifCond .eq 7, 3) := by decide +kernel
theorem dJ42_66_50 : decode CJ42_66 50 = .ok (.iconst 1, 1) := by decide +kernel
theorem dJ42_66_51 : decode CJ42_66 51 = .ok (.goto 4, 3) := by decide +kernel
theorem dJ42_66_55 : decode CJ42_66 55 = .ok (.ireturn, 1) := by decide +kernel
theorem dJ42_66_54 : decode CJ42_66 54 = .ok (.iconst 0, 1) := by decide +kernel
theorem ef_rmSEq (m : MethodId) (x0 : Addr) (x1 : Addr) : entryFrame m #[(.ref x0), (.ref x1)] 3 = mkF m 0 #[.val (.ref x0), .val (.ref x1), .unset] [] := by first | (simp [entryFrame, mkF, argsToLocals, Value.category]; done) | rfl
abbrev R_rmSEq : Room := ({ frames := 1, cells := 0, slots := 0, locals := 14 } : Room)
def Q_rmSEq (Z : State) (ax : Addr) (ay : Addr) (cst : Int32) (bx : Addr) (kx : ClassId) (cs : List Int32) (by_ : Addr) (ky : ClassId) (ds : List Int32) (h0 : Heap) (n0 : Nat) (v : Option Value) (h : Heap) (L : List Loc) : Prop := (v = some (.int (if cs = ds then (1 : Int32) else (0 : Int32)))) ∧ (Fr n0 L) ∧ (h = h0)
set_option maxRecDepth 65536 in
set_option maxHeartbeats 40000000 in
theorem rmSEq (l : Launch) (Z : State) (a0 : Array Value) (hw : HW Z a0) (ws : List Jvm.Cond) (ax : Addr) (ay : Addr) (cst : Int32) (bx : Addr) (kx : ClassId) (cs : List Int32) (by_ : Addr) (ky : ClassId) (ds : List Int32) (h0 : Heap) (n0 : Nat) (Z0 : n0 ≤ h0.size) (I1 : Sta Z Z.heap cS cC "Z" (.int cst)) (OX : Old Z n0 h0) (hcst : ¬ (cst = (0 : Int32))) (I2 : Exa Z h0 ax cS) (I3 : Fld Z h0 ax cS "value" "[B" (.ref bx)) (I4 : Fld Z h0 ax cS "coder" "B" (.int (own_cod cs))) (I5 : Arv Z h0 bx kx .byte (Int32.ofNat (own_enl cs)) (own_enc cs) v0_) (I6 : Exa Z h0 ay cS) (I7 : Fld Z h0 ay cS "value" "[B" (.ref by_)) (I8 : Fld Z h0 ay cS "coder" "B" (.int (own_cod ds))) (I9 : Arv Z h0 by_ ky .byte (Int32.ofNat (own_enl ds)) (own_enc ds) v0_) (hne : ¬ (ax = ay)) (hchc : own_chs cs) (hchd : own_chs ds) (hbc : cs.length ≤ 15) (hbd : ds.length ≤ 15) :
    MF l Z M14_ (Jvm.Cond.code M14_ jdk_42_method_66_code 3 (some .boolean) :: ws) R_rmSEq #[(.ref ax), (.ref ay)] h0 (Q_rmSEq Z ax ay cst bx kx cs by_ ky ds h0 n0) := by
  refine MetFree.of_bodySF (plainFor_of_name pn_java_lang_String) hisR ?_
  intro p e s m args below meth c s₁ Bd hml0 hP hK
  obtain ⟨rfl, hZ, hh⟩ := hP
  have hx := Bd.exec
  have hy := Bd.bytes
  have hml : c.maxLocals = 3 := hml0
  have hown : s.vm.findClass "java/lang/String" = some m.cls := findClass_of_methodNamed Bd.named
  have hnm := (name_of_methodNamed Bd.named Bd.method).1
  have X0 : Stand p l e R_rmSEq s m #[(.ref ax), (.ref ay)] below meth c s₁ [] 0 0 := Stand.of_body Bd
  have e0 : s₁.heap = h0 := by rw [← hh, Bd.state]; rfl
  have N0 := Fr.nil n0
  have pre0 := own_pre (p := p) (e := e) (below := below) (T := s₁) (ef_rmSEq m ax ay)
  have lt_I2 : @LT.lt Nat _ ax h0.size := I2.lt
  have lt_I5 : @LT.lt Nat _ bx h0.size := I5.lt
  have lt_I6 : @LT.lt Nat _ ay h0.size := I6.lt
  have lt_I9 : @LT.lt Nat _ by_ h0.size := I9.lt
  obtain ⟨T1, X1, e1, st1⟩ := instY X0 hx hZ hown (own_m hw 182 rfl) e0 (Ins.self I6) (g := (mkF m 8 #[.val (.ref ax), .val (.ref ay), .unset] [(.ref ay)])) rfl rfl (dd hy dJ42_66_8)
  obtain ⟨T2, X2, e2, st2⟩ := castY X1 hx hZ hown (own_m hw 182 rfl) e1 (Ins.self I6) (g := (mkF m 15 #[.val (.ref ax), .val (.ref ay), .unset] [(.ref ay)])) rfl rfl (dd hy dJ42_66_15)
  obtain ⟨T3, X3, e3, st3⟩ := getS2 X2 hx hZ hown (host := "") (Or.inl (own_m hw 18 rfl)) Via.refl e2 (I1.ext OX.2) (g := (mkF m 19 #[.val (.ref ax), .val (.ref ay), .val (.ref ay)] [])) rfl (dd hy dJ42_66_19)
  obtain ⟨T4, X4, e4, st4⟩ := getF X3 hx hZ hown (host := "") (Or.inl (own_m hw 30 rfl)) Via.refl e3 I4 (g := (mkF m 26 #[.val (.ref ax), .val (.ref ay), .val (.ref ay)] [(.ref ax)])) rfl rfl (dd hy dJ42_66_26)
  obtain ⟨T5, X5, e5, st5⟩ := getF X4 hx hZ hown (host := "") (Or.inl (own_m hw 30 rfl)) Via.refl e4 I8 (g := (mkF m 30 #[.val (.ref ax), .val (.ref ay), .val (.ref ay)] [(.ref ay), (.int (own_cod cs))])) rfl rfl (dd hy dJ42_66_30)
  have s6 : ∀ t_, Steps p.tables e below (T5.setTop (mkF m 33 #[.val (.ref ax), .val (.ref ay), .val (.ref ay)] [(.int (own_cod ds)), (.int (own_cod cs))])) t_ → Steps _ _ _ _ t_ := fun t_ k_ => pre0 t_ (by
    refine XS.aloadN X0.here hx rfl (dd hy dJ42_66_0) rfl rfl ?_
    refine XS.aloadN X0.here hx rfl (dd hy dJ42_66_1) rfl rfl ?_
    refine Jvm.RoadKit.acmp (g := (mkF m 2 #[.val (.ref ax), .val (.ref ay), .unset] [(.ref ay), (.ref ax)])) X0 hx rfl rfl rfl (pc0 := 2) (pc' := 7) (same := false) rfl (dd hy dJ42_66_2) rfl (decide_eq_false fun q => hne (Value.ref.inj q)) (by decide) (by decide) ?_
    show Steps _ _ _ (s₁.setTop (mkF m 7 #[.val (.ref ax), .val (.ref ay), .unset] [])) _
    refine XS.aloadN X0.here hx rfl (dd hy dJ42_66_7) rfl rfl ?_
    refine st1 _ ?_
    refine XS.ifNo X1.here hx rfl (dd hy dJ42_66_11) rfl ((if0 _ _).trans (feq (by decide : ¬ ((1 : Int32) = (0 : Int32)))).1) ?_
    show Steps _ _ _ (T1.setTop (mkF m 14 #[.val (.ref ax), .val (.ref ay), .unset] [])) _
    refine XS.aloadN X1.here hx rfl (dd hy dJ42_66_14) rfl rfl ?_
    refine st2 _ ?_
    refine XS.astoreN X2.here hx rfl (dd hy dJ42_66_18) rfl rfl (l' := #[.val (.ref ax), .val (.ref ay), .val (.ref ay)]) rfl ?_
    refine st3 _ ?_
    refine XS.ifNo X3.here hx rfl (dd hy dJ42_66_22) rfl ((if0 _ _).trans (feq hcst).1) ?_
    show Steps _ _ _ (T3.setTop (mkF m 25 #[.val (.ref ax), .val (.ref ay), .val (.ref ay)] [])) _
    refine XS.aloadN X3.here hx rfl (dd hy dJ42_66_25) rfl rfl ?_
    refine st4 _ ?_
    refine XS.aloadN X4.here hx rfl (dd hy dJ42_66_29) rfl rfl ?_
    refine st5 _ ?_
    exact k_)
  by_cases h7 : (own_cod cs) = (own_cod ds)
  · obtain ⟨T8, X8, e8, st8⟩ := getF X5 hx hZ hown (host := "") (Or.inl (own_m hw 32 rfl)) Via.refl e5 I3 (g := (mkF m 37 #[.val (.ref ax), .val (.ref ay), .val (.ref ay)] [(.ref ax)])) rfl rfl (dd hy dJ42_66_37)
    obtain ⟨T9, X9, e9, st9⟩ := getF X8 hx hZ hown (host := "") (Or.inl (own_m hw 32 rfl)) Via.refl e8 I7 (g := (mkF m 41 #[.val (.ref ax), .val (.ref ay), .val (.ref ay)] [(.ref ay), (.ref bx)])) rfl rfl (dd hy dJ42_66_41)
    have V10 : Arv Z h0 bx kx .byte (Int32.ofNat (own_eb cs).length) ((own_eb cs).map Value.int) v0_ := by rw [own_ebl, ← own_encb]; exact I5
    have V11 : Arv Z h0 by_ ky .byte (Int32.ofNat (own_eb ds).length) ((own_eb ds).map Value.int) v0_ := by rw [own_ebl, ← own_encb]; exact I9
    have Zc12 : n0 ≤ h0.size := by omega
    obtain ⟨_, _, ⟨T13, L13, k13, n13⟩, -, X13, ⟨Lc13, hQ13, l13, y13, z13⟩, st13⟩ := Jvm.LawKit.callS X9 hx (y := M13_) hown (mvT hZ (own_m hw 183 rfl)) (mvT hZ (own_m hw 184 rfl)) (mvT hZ (own_m hw 90 rfl)) (mvT hZ (own_m hw 185 rfl)) (by decide) (backOf (W := 0) (rmLEq l Z a0 hw [] bx by_ kx ky (own_eb cs) (own_eb ds) h0 n0 Zc12 V10 V11 (by rw [own_ebl]; have := own_enll cs; omega) (by rw [own_ebl]; have := own_enll ds; omega)) hZ (own_m hw 185 rfl) (own_m hw 90 rfl) (by decide) (by decide)) (g := (mkF m 44 #[.val (.ref ax), .val (.ref ay), .val (.ref ay)] [(.ref by_), (.ref bx)])) rfl (by rw [hml]; rfl) (argsL := [(.ref bx), (.ref by_)]) (rest := []) (lenOf pd___B_B_Z rfl) rfl (by show 2 * 0 + _ ≤ _; exact Nat.le_of_eq rfl) (dd hy dJ42_66_44) (fun _ _ => ⟨rfl, e9, (by decide : 0 + 0 ≤ _), (by decide : 0 + 0 ≤ _)⟩)
    dsimp only [Pt.U, Pt.locs, Pt.cells, Pt.slots] at X13 l13 y13 z13 st13 hQ13
    subst l13 y13 z13
    obtain ⟨rfl, N13q, e13⟩ := hQ13
    have N13 := Fr.app N0 N13q
    have s14 : ∀ t_, Steps p.tables e below (T13.setTop (mkF m 47 #[.val (.ref ax), .val (.ref ay), .val (.ref ay)] [(.int (if (own_eb cs) = (own_eb ds) then (1 : Int32) else (0 : Int32)))])) t_ → Steps _ _ _ _ t_ := fun t_ k_ => s6 t_ (by
      refine XS.icmpNo X5.here hx rfl (dd hy dJ42_66_33) rfl (teq h7).2 ?_
      show Steps _ _ _ (T5.setTop (mkF m 36 #[.val (.ref ax), .val (.ref ay), .val (.ref ay)] [])) _
      refine XS.aloadN X5.here hx rfl (dd hy dJ42_66_36) rfl rfl ?_
      refine st8 _ ?_
      refine XS.aloadN X8.here hx rfl (dd hy dJ42_66_40) rfl rfl ?_
      refine st9 _ ?_
      refine st13 _ ?_
      show Steps _ _ _ (T13.setTop (mkF m 47 #[.val (.ref ax), .val (.ref ay), .val (.ref ay)] [(.int (if (own_eb cs) = (own_eb ds) then (1 : Int32) else (0 : Int32)))])) _
      exact k_)
    by_cases h15 : own_eb cs = own_eb ds
    · have s16 : ∀ t_, Steps p.tables e below (T13.setTop (mkF m 47 #[.val (.ref ax), .val (.ref ay), .val (.ref ay)] [(.int (1 : Int32))])) t_ → Steps p.tables e below (s₁.setTop (entryFrame m #[(.ref ax), (.ref ay)] 3)) t_ := fun t_ k_ => s14 t_ (castTop (by simp only [if_pos h15]) k_)
      have s17 : ∀ t_, Steps p.tables e below (T13.setTop (mkF m 55 #[.val (.ref ax), .val (.ref ay), .val (.ref ay)] [(.int (1 : Int32))])) t_ → Steps _ _ _ _ t_ := fun t_ k_ => s16 t_ (by
        refine XS.ifNo X13.here hx rfl (dd hy dJ42_66_47) rfl ((if0 _ _).trans (feq (by decide : ¬ ((1 : Int32) = (0 : Int32)))).1) ?_
        show Steps _ _ _ (T13.setTop (mkF m 50 #[.val (.ref ax), .val (.ref ay), .val (.ref ay)] [])) _
        refine XS.iconst X13.here hx rfl (dd hy dJ42_66_50) ?_
        refine XS.goto X13.here hx rfl (pc0 := 51) (pc' := 55) rfl (dd hy dJ42_66_51) (by decide) (by decide) ?_
        exact k_)
      obtain ⟨fs, hr, hrun, hended, hW, hsame⟩ := X13.leave (v := some (.int (1 : Int32))) (fun h => by rw [Bd.returns] at h; cases h)
      refine ⟨_, _, s17 _ ?_, hrun, hended, _, _, rfl, ?_, ⟨_, rfl⟩, hW, hsame.mono (by decide) (by decide)⟩
      · exact retN X13 hx (t := .boolean) Bd.returns (by simp) (dd hy dJ42_66_55) hr
      · show Q_rmSEq Z _ _ _ _ _ _ _ _ _ h0 n0 _ T13.heap _
        rw [e13]
        exact ⟨(by rw [if_pos (own_encinj hchc hchd h7 h15)]), N13, rfl⟩
    · have s18 : ∀ t_, Steps p.tables e below (T13.setTop (mkF m 47 #[.val (.ref ax), .val (.ref ay), .val (.ref ay)] [(.int (0 : Int32))])) t_ → Steps p.tables e below (s₁.setTop (entryFrame m #[(.ref ax), (.ref ay)] 3)) t_ := fun t_ k_ => s14 t_ (castTop (by simp only [if_neg h15]) k_)
      have s19 : ∀ t_, Steps p.tables e below (T13.setTop (mkF m 55 #[.val (.ref ax), .val (.ref ay), .val (.ref ay)] [(.int (0 : Int32))])) t_ → Steps _ _ _ _ t_ := fun t_ k_ => s18 t_ (by
        refine XS.ifYes X13.here hx rfl (pc0 := 47) (pc' := 54) rfl (dd hy dJ42_66_47) rfl ((if0 _ _).trans (teq (rfl : (0 : Int32) = (0 : Int32))).1) (by decide) (by decide) ?_
        show Steps _ _ _ (T13.setTop (mkF m 54 #[.val (.ref ax), .val (.ref ay), .val (.ref ay)] [])) _
        refine XS.iconst X13.here hx rfl (dd hy dJ42_66_54) ?_
        exact k_)
      obtain ⟨fs, hr, hrun, hended, hW, hsame⟩ := X13.leave (v := some (.int (0 : Int32))) (fun h => by rw [Bd.returns] at h; cases h)
      refine ⟨_, _, s19 _ ?_, hrun, hended, _, _, rfl, ?_, ⟨_, rfl⟩, hW, hsame.mono (by decide) (by decide)⟩
      · exact retN X13 hx (t := .boolean) Bd.returns (by simp) (dd hy dJ42_66_55) hr
      · show Q_rmSEq Z _ _ _ _ _ _ _ _ _ h0 n0 _ T13.heap _
        rw [e13]
        exact ⟨(by rw [if_neg (fun e => h15 (by rw [e]))]), N13, rfl⟩
  · have s20 : ∀ t_, Steps p.tables e below (T5.setTop (mkF m 55 #[.val (.ref ax), .val (.ref ay), .val (.ref ay)] [(.int (0 : Int32))])) t_ → Steps _ _ _ _ t_ := fun t_ k_ => s6 t_ (by
      refine XS.icmpYes X5.here hx rfl (pc0 := 33) (pc' := 54) rfl (dd hy dJ42_66_33) rfl (feq h7).2 (by decide) (by decide) ?_
      show Steps _ _ _ (T5.setTop (mkF m 54 #[.val (.ref ax), .val (.ref ay), .val (.ref ay)] [])) _
      refine XS.iconst X5.here hx rfl (dd hy dJ42_66_54) ?_
      exact k_)
    obtain ⟨fs, hr, hrun, hended, hW, hsame⟩ := X5.leave (v := some (.int (0 : Int32))) (fun h => by rw [Bd.returns] at h; cases h)
    refine ⟨_, _, s20 _ ?_, hrun, hended, _, _, rfl, ?_, ⟨_, rfl⟩, hW, hsame.mono (by decide) (by decide)⟩
    · exact retN X5 hx (t := .boolean) Bd.returns (by simp) (dd hy dJ42_66_55) hr
    · show Q_rmSEq Z _ _ _ _ _ _ _ _ _ h0 n0 _ T5.heap _
      rw [e5]
      exact ⟨(by rw [if_neg (fun e => h7 (by rw [e]))]), N0, rfl⟩
theorem dJ42_66_5 : decode CJ42_66 5 = .ok (.iconst 1, 1) := by decide +kernel
theorem dJ42_66_6 : decode CJ42_66 6 = .ok (.ireturn, 1) := by decide +kernel
theorem ef_rmSEqS (m : MethodId) (x0 : Addr) (x1 : Addr) : entryFrame m #[(.ref x0), (.ref x1)] 3 = mkF m 0 #[.val (.ref x0), .val (.ref x1), .unset] [] := by first | (simp [entryFrame, mkF, argsToLocals, Value.category]; done) | rfl
abbrev R_rmSEqS : Room := ({ frames := 0, cells := 0, slots := 0, locals := 0 } : Room)
def Q_rmSEqS (Z : State) (ax : Addr) (h0 : Heap) (n0 : Nat) (v : Option Value) (h : Heap) (L : List Loc) : Prop := (v = some (.int (1 : Int32))) ∧ (Fr n0 L) ∧ (h = h0)
set_option maxRecDepth 65536 in
set_option maxHeartbeats 40000000 in
theorem rmSEqS (l : Launch) (Z : State) (a0 : Array Value) (hw : HW Z a0) (ws : List Jvm.Cond) (ax : Addr) (h0 : Heap) (n0 : Nat) (Z0 : n0 ≤ h0.size)  :
    MF l Z M14_ (Jvm.Cond.code M14_ jdk_42_method_66_code 3 (some .boolean) :: ws) R_rmSEqS #[(.ref ax), (.ref ax)] h0 (Q_rmSEqS Z ax h0 n0) := by
  refine MetFree.of_bodySF (plainFor_of_name pn_java_lang_String) hisR ?_
  intro p e s m args below meth c s₁ Bd hml0 hP hK
  obtain ⟨rfl, hZ, hh⟩ := hP
  have hx := Bd.exec
  have hy := Bd.bytes
  have hml : c.maxLocals = 3 := hml0
  have hown : s.vm.findClass "java/lang/String" = some m.cls := findClass_of_methodNamed Bd.named
  have hnm := (name_of_methodNamed Bd.named Bd.method).1
  have X0 : Stand p l e R_rmSEqS s m #[(.ref ax), (.ref ax)] below meth c s₁ [] 0 0 := Stand.of_body Bd
  have e0 : s₁.heap = h0 := by rw [← hh, Bd.state]; rfl
  have N0 := Fr.nil n0
  have pre0 := own_pre (p := p) (e := e) (below := below) (T := s₁) (ef_rmSEqS m ax ax)
  have s1 : ∀ t_, Steps p.tables e below (s₁.setTop (mkF m 6 #[.val (.ref ax), .val (.ref ax), .unset] [(.int (1 : Int32))])) t_ → Steps _ _ _ _ t_ := fun t_ k_ => pre0 t_ (by
    refine XS.aloadN X0.here hx rfl (dd hy dJ42_66_0) rfl rfl ?_
    refine XS.aloadN X0.here hx rfl (dd hy dJ42_66_1) rfl rfl ?_
    refine Jvm.RoadKit.acmp (g := (mkF m 2 #[.val (.ref ax), .val (.ref ax), .unset] [(.ref ax), (.ref ax)])) X0 hx rfl rfl rfl (pc0 := 2) (pc' := 5) (same := true) rfl (dd hy dJ42_66_2) rfl (decide_eq_true rfl) (by decide) (by decide) ?_
    show Steps _ _ _ (s₁.setTop (mkF m 5 #[.val (.ref ax), .val (.ref ax), .unset] [])) _
    refine XS.iconst X0.here hx rfl (dd hy dJ42_66_5) ?_
    exact k_)
  obtain ⟨fs, hr, hrun, hended, hW, hsame⟩ := X0.leave (v := some (.int (1 : Int32))) (fun h => by rw [Bd.returns] at h; cases h)
  refine ⟨_, _, s1 _ ?_, hrun, hended, _, _, rfl, ?_, ⟨_, rfl⟩, hW, hsame.mono (by decide) (by decide)⟩
  · exact retN X0 hx (t := .boolean) Bd.returns (by simp) (dd hy dJ42_66_6) hr
  · show Q_rmSEqS Z _ h0 n0 _ s₁.heap _
    rw [e0]
    exact ⟨rfl, N0, rfl⟩
theorem dJ29_69_0 : decode CJ29_69 0 = .ok (.iload_n 0, 1) := by decide +kernel
theorem dJ29_69_1 : decode CJ29_69 1 = .ok (.iload_n 1, 1) := by decide +kernel
theorem dJ29_69_2 : decode CJ29_69 2 = .ok (.if_icmp .gt 7, 3) := by decide +kernel
theorem dJ29_69_9 : decode CJ29_69 9 = .ok (.iload_n 1, 1) := by decide +kernel
theorem dJ29_69_10 : decode CJ29_69 10 = .ok (.ireturn, 1) := by decide +kernel
theorem dJ29_69_5 : decode CJ29_69 5 = .ok (.iload_n 0, 1) := by decide +kernel
theorem dJ29_69_6 : decode CJ29_69 6 = .ok (.goto 4, 3) := by decide +kernel
theorem ef_rmMin (m : MethodId) (x0 : Int32) (x1 : Int32) : entryFrame m #[(.int x0), (.int x1)] 2 = mkF m 0 #[.val (.int x0), .val (.int x1)] [] := by first | (simp [entryFrame, mkF, argsToLocals, Value.category]; done) | rfl
abbrev R_rmMin : Room := ({ frames := 0, cells := 0, slots := 0, locals := 0 } : Room)
def Q_rmMin (Z : State) (i : Nat) (j : Nat) (h0 : Heap) (n0 : Nat) (v : Option Value) (h : Heap) (L : List Loc) : Prop := (v = some (.int (Int32.ofNat (min i j)))) ∧ (Fr n0 L) ∧ (h = h0)
set_option maxRecDepth 65536 in
set_option maxHeartbeats 40000000 in
theorem rmMin (l : Launch) (Z : State) (a0 : Array Value) (hw : HW Z a0) (ws : List Jvm.Cond) (i : Nat) (j : Nat) (h0 : Heap) (n0 : Nat) (Z0 : n0 ≤ h0.size) (hi : i ≤ 8000) (hj : j ≤ 8000) :
    MF l Z M15_ (Jvm.Cond.code M15_ jdk_29_method_69_code 2 (some .int) :: ws) R_rmMin #[(.int (Int32.ofNat i)), (.int (Int32.ofNat j))] h0 (Q_rmMin Z i j h0 n0) := by
  refine MetFree.of_bodySF (Jvm.Free.JP.mathPlain rfl (by decide +kernel)) hisR ?_
  intro p e s m args below meth c s₁ Bd hml0 hP hK
  obtain ⟨rfl, hZ, hh⟩ := hP
  have hx := Bd.exec
  have hy := Bd.bytes
  have hml : c.maxLocals = 2 := hml0
  have hown : s.vm.findClass "java/lang/Math" = some m.cls := findClass_of_methodNamed Bd.named
  have hnm := (name_of_methodNamed Bd.named Bd.method).1
  have X0 : Stand p l e R_rmMin s m #[(.int (Int32.ofNat i)), (.int (Int32.ofNat j))] below meth c s₁ [] 0 0 := Stand.of_body Bd
  have e0 : s₁.heap = h0 := by rw [← hh, Bd.state]; rfl
  have N0 := Fr.nil n0
  have pre0 := own_pre (p := p) (e := e) (below := below) (T := s₁) (ef_rmMin m (Int32.ofNat i) (Int32.ofNat j))
  have s1 : ∀ t_, Steps p.tables e below (s₁.setTop (mkF m 2 #[.val (.int (Int32.ofNat i)), .val (.int (Int32.ofNat j))] [(.int (Int32.ofNat j)), (.int (Int32.ofNat i))])) t_ → Steps _ _ _ _ t_ := fun t_ k_ => pre0 t_ (by
    refine XS.iloadN X0.here hx rfl (dd hy dJ29_69_0) rfl ?_
    refine XS.iloadN X0.here hx rfl (dd hy dJ29_69_1) rfl ?_
    exact k_)
  by_cases h2 : (Int32.ofNat j) < (Int32.ofNat i)
  · have s3 : ∀ t_, Steps p.tables e below (s₁.setTop (mkF m 10 #[.val (.int (Int32.ofNat i)), .val (.int (Int32.ofNat j))] [(.int (Int32.ofNat j))])) t_ → Steps _ _ _ _ t_ := fun t_ k_ => s1 t_ (by
      refine XS.icmpYes X0.here hx rfl (pc0 := 2) (pc' := 9) rfl (dd hy dJ29_69_2) rfl (tlt h2).2.2.1 (by decide) (by decide) ?_
      show Steps _ _ _ (s₁.setTop (mkF m 9 #[.val (.int (Int32.ofNat i)), .val (.int (Int32.ofNat j))] [])) _
      refine XS.iloadN X0.here hx rfl (dd hy dJ29_69_9) rfl ?_
      exact k_)
    obtain ⟨fs, hr, hrun, hended, hW, hsame⟩ := X0.leave (v := some (.int (Int32.ofNat j))) (fun h => by rw [Bd.returns] at h; cases h)
    refine ⟨_, _, s3 _ ?_, hrun, hended, _, _, rfl, ?_, ⟨_, rfl⟩, hW, hsame.mono (by decide) (by decide)⟩
    · exact retI X0 hx Bd.returns (dd hy dJ29_69_10) hr
    · show Q_rmMin Z _ _ h0 n0 _ s₁.heap _
      rw [e0]
      exact ⟨(by rw [own_minF hi hj h2]), N0, rfl⟩
  · have s4 : ∀ t_, Steps p.tables e below (s₁.setTop (mkF m 10 #[.val (.int (Int32.ofNat i)), .val (.int (Int32.ofNat j))] [(.int (Int32.ofNat i))])) t_ → Steps _ _ _ _ t_ := fun t_ k_ => s1 t_ (by
      refine XS.icmpNo X0.here hx rfl (dd hy dJ29_69_2) rfl (flt h2).2.2.1 ?_
      show Steps _ _ _ (s₁.setTop (mkF m 5 #[.val (.int (Int32.ofNat i)), .val (.int (Int32.ofNat j))] [])) _
      refine XS.iloadN X0.here hx rfl (dd hy dJ29_69_5) rfl ?_
      refine XS.goto X0.here hx rfl (pc0 := 6) (pc' := 10) rfl (dd hy dJ29_69_6) (by decide) (by decide) ?_
      exact k_)
    obtain ⟨fs, hr, hrun, hended, hW, hsame⟩ := X0.leave (v := some (.int (Int32.ofNat i))) (fun h => by rw [Bd.returns] at h; cases h)
    refine ⟨_, _, s4 _ ?_, hrun, hended, _, _, rfl, ?_, ⟨_, rfl⟩, hW, hsame.mono (by decide) (by decide)⟩
    · exact retI X0 hx Bd.returns (dd hy dJ29_69_10) hr
    · show Q_rmMin Z _ _ h0 n0 _ s₁.heap _
      rw [e0]
      exact ⟨(by rw [own_minT hi hj h2]), N0, rfl⟩
theorem pn_java_util_Arrays : plainName "java/util/Arrays" = true := by first | (simp [plainName, overriddenIn]; done) | decide +kernel
theorem dJ65_131_0 : decode CJ65_131 0 = .ok (.iload_n 1, 1) := by decide +kernel
theorem dJ65_131_1 : decode CJ65_131 1 = .ok (.iload_n 0, 1) := by decide +kernel
theorem dJ65_131_2 : decode CJ65_131 2 = .ok (.if_icmp .ge 35, 3) := by decide +kernel
theorem dJ65_131_37 : decode CJ65_131 37 = .ok (.return_, 1) := by decide +kernel
theorem ef_rmCkL (m : MethodId) (x0 : Int32) (x1 : Int32) : entryFrame m #[(.int x0), (.int x1)] 2 = mkF m 0 #[.val (.int x0), .val (.int x1)] [] := by first | (simp [entryFrame, mkF, argsToLocals, Value.category]; done) | rfl
abbrev R_rmCkL : Room := ({ frames := 0, cells := 0, slots := 0, locals := 0 } : Room)
def Q_rmCkL (Z : State) (k : Nat) (h0 : Heap) (n0 : Nat) (v : Option Value) (h : Heap) (L : List Loc) : Prop := (v = none) ∧ (Fr n0 L) ∧ (h = h0)
set_option maxRecDepth 65536 in
set_option maxHeartbeats 40000000 in
theorem rmCkL (l : Launch) (Z : State) (a0 : Array Value) (hw : HW Z a0) (ws : List Jvm.Cond) (k : Nat) (h0 : Heap) (n0 : Nat) (Z0 : n0 ≤ h0.size) (hk : k ≤ 8000) :
    MF l Z M16_ (Jvm.Cond.code M16_ jdk_65_method_131_code 2 none :: ws) R_rmCkL #[(.int (0 : Int32)), (.int (Int32.ofNat k))] h0 (Q_rmCkL Z k h0 n0) := by
  refine MetFree.of_bodySF (plainFor_of_name pn_java_util_Arrays) hisR ?_
  intro p e s m args below meth c s₁ Bd hml0 hP hK
  obtain ⟨rfl, hZ, hh⟩ := hP
  have hx := Bd.exec
  have hy := Bd.bytes
  have hml : c.maxLocals = 2 := hml0
  have hown : s.vm.findClass "java/util/Arrays" = some m.cls := findClass_of_methodNamed Bd.named
  have hnm := (name_of_methodNamed Bd.named Bd.method).1
  have X0 : Stand p l e R_rmCkL s m #[(.int (0 : Int32)), (.int (Int32.ofNat k))] below meth c s₁ [] 0 0 := Stand.of_body Bd
  have e0 : s₁.heap = h0 := by rw [← hh, Bd.state]; rfl
  have N0 := Fr.nil n0
  have pre0 := own_pre (p := p) (e := e) (below := below) (T := s₁) (ef_rmCkL m (0 : Int32) (Int32.ofNat k))
  have s1 : ∀ t_, Steps p.tables e below (s₁.setTop (mkF m 37 #[.val (.int (0 : Int32)), .val (.int (Int32.ofNat k))] [])) t_ → Steps _ _ _ _ t_ := fun t_ k_ => pre0 t_ (by
    refine XS.iloadN X0.here hx rfl (dd hy dJ65_131_0) rfl ?_
    refine XS.iloadN X0.here hx rfl (dd hy dJ65_131_1) rfl ?_
    refine XS.icmpYes X0.here hx rfl (pc0 := 2) (pc' := 37) rfl (dd hy dJ65_131_2) rfl (flt (own_nn hk)).2.1 (by decide) (by decide) ?_
    show Steps _ _ _ (s₁.setTop (mkF m 37 #[.val (.int (0 : Int32)), .val (.int (Int32.ofNat k))] [])) _
    exact k_)
  obtain ⟨fs, hr, hrun, hended, hW, hsame⟩ := X0.leave (v := none) (fun _ => rfl)
  refine ⟨_, _, s1 _ ?_, hrun, hended, _, _, rfl, ?_, ⟨_, rfl⟩, hW, hsame.mono (by decide) (by decide)⟩
  · exact X0.returnOut hx Bd.returns (dd hy dJ65_131_37) hr
  · show Q_rmCkL Z _ h0 n0 _ s₁.heap _
    rw [e0]
    exact ⟨rfl, N0, rfl⟩
theorem dJ65_133_0 : decode CJ65_133 0 = .ok (.iload_n 1, 1) := by decide +kernel
theorem dJ65_133_1 : decode CJ65_133 1 = .ok (.iload_n 2, 1) := by decide +kernel
theorem pd__II_V : parseMethodDescriptor "(II)V" = some ⟨[.int, .int], none⟩ := by decide +kernel
theorem dJ65_133_2 : decode CJ65_133 2 = .ok (.invokestatic 343, 3) := by decide +kernel
theorem dJ65_133_5 : decode CJ65_133 5 = .ok (.iload_n 2, 1) := by decide +kernel
theorem dJ65_133_6 : decode CJ65_133 6 = .ok (.iload_n 1, 1) := by decide +kernel
theorem dJ65_133_7 : decode CJ65_133 7 = .ok (.isub, 1) := by decide +kernel
theorem dJ65_133_8 : decode CJ65_133 8 = .ok (.istore_n 3, 1) := by decide +kernel
theorem dJ65_133_9 : decode CJ65_133 9 = .ok (.iload_n 3, 1) := by decide +kernel
theorem dJ65_133_10 : decode CJ65_133 10 = .ok (.newarray .byte, 2) := by decide +kernel
theorem dJ65_133_12 : decode CJ65_133 12 = .ok (.astore 4, 2) := by decide +kernel
theorem dJ65_133_14 : decode CJ65_133 14 = .ok (.aload_n 0, 1) := by decide +kernel
theorem dJ65_133_15 : decode CJ65_133 15 = .ok (.iload_n 1, 1) := by decide +kernel
theorem dJ65_133_16 : decode CJ65_133 16 = .ok (.aload 4, 2) := by decide +kernel
theorem dJ65_133_18 : decode CJ65_133 18 = .ok (.iconst 0, 1) := by decide +kernel
theorem dJ65_133_19 : decode CJ65_133 19 = .ok (.aload_n 0, 1) := by decide +kernel
theorem dJ65_133_20 : decode CJ65_133 20 = .ok (.arraylength, 1) := by decide +kernel
theorem dJ65_133_21 : decode CJ65_133 21 = .ok (.iload_n 1, 1) := by decide +kernel
theorem dJ65_133_22 : decode CJ65_133 22 = .ok (.isub, 1) := by decide +kernel
theorem dJ65_133_23 : decode CJ65_133 23 = .ok (.iload_n 3, 1) := by decide +kernel
theorem pd__II_I : parseMethodDescriptor "(II)I" = some ⟨[.int, .int], some .int⟩ := by decide +kernel
theorem dJ65_133_24 : decode CJ65_133 24 = .ok (.invokestatic 304, 3) := by decide +kernel
theorem dJ65_133_27 : decode CJ65_133 27 = .ok (.invokestatic 150, 3) := by decide +kernel
theorem dJ65_133_30 : decode CJ65_133 30 = .ok (.aload 4, 2) := by decide +kernel
theorem dJ65_133_32 : decode CJ65_133 32 = .ok (.areturn, 1) := by decide +kernel
theorem ef_rmCRB (m : MethodId) (x0 : Addr) (x1 : Int32) (x2 : Int32) : entryFrame m #[(.ref x0), (.int x1), (.int x2)] 5 = mkF m 0 #[.val (.ref x0), .val (.int x1), .val (.int x2), .unset, .unset] [] := by first | (simp [entryFrame, mkF, argsToLocals, Value.category]; done) | rfl
abbrev R_rmCRB : Room := ({ frames := 1, cells := 1, slots := 32, locals := 40 } : Room)
def Q_rmCRB (Z : State) (sa : Addr) (kx : ClassId) (xs : List Int32) (k : Nat) (h0 : Heap) (n0 : Nat) (v : Option Value) (h : Heap) (L : List Loc) : Prop := ∃ (b : Addr), ∃ (kb : ClassId), (v = some (.ref b)) ∧ (Fr n0 L) ∧ (Keep h0 h []) ∧ (Arv Z h b kb .byte (Int32.ofNat k) ((xs.take k).map Value.int) v0_) ∧ (h0.size ≤ b)
set_option maxRecDepth 65536 in
set_option maxHeartbeats 40000000 in
theorem rmCRB (l : Launch) (Z : State) (a0 : Array Value) (hw : HW Z a0) (ws : List Jvm.Cond) (sa : Addr) (kx : ClassId) (xs : List Int32) (k : Nat) (h0 : Heap) (n0 : Nat) (Z0 : n0 ≤ h0.size) (I1 : Arv Z h0 sa kx .byte (Int32.ofNat xs.length) (xs.map Value.int) v0_) (hkx : k < xs.length) (hxb : xs.length ≤ 32) :
    MF l Z M17_ (Jvm.Cond.code M17_ jdk_65_method_133_code 5 (some (.array .byte)) :: ws) R_rmCRB #[(.ref sa), (.int (0 : Int32)), (.int (Int32.ofNat k))] h0 (Q_rmCRB Z sa kx xs k h0 n0) := by
  refine MetFree.of_bodySF (plainFor_of_name pn_java_util_Arrays) hisR ?_
  intro p e s m args below meth c s₁ Bd hml0 hP hK
  obtain ⟨rfl, hZ, hh⟩ := hP
  have hx := Bd.exec
  have hy := Bd.bytes
  have hml : c.maxLocals = 5 := hml0
  have hown : s.vm.findClass "java/util/Arrays" = some m.cls := findClass_of_methodNamed Bd.named
  have hnm := (name_of_methodNamed Bd.named Bd.method).1
  have X0 : Stand p l e R_rmCRB s m #[(.ref sa), (.int (0 : Int32)), (.int (Int32.ofNat k))] below meth c s₁ [] 0 0 := Stand.of_body Bd
  have e0 : s₁.heap = h0 := by rw [← hh, Bd.state]; rfl
  have N0 := Fr.nil n0
  have pre0 := own_pre (p := p) (e := e) (below := below) (T := s₁) (ef_rmCRB m sa (0 : Int32) (Int32.ofNat k))
  have lt_I1 : @LT.lt Nat _ sa h0.size := I1.lt
  have Zc1 : n0 ≤ h0.size := by omega
  obtain ⟨_, _, ⟨T2, L2, k2, n2⟩, -, X2, ⟨Lc2, hQ2, l2, y2, z2⟩, st2⟩ := Jvm.LawKit.callS X0 hx (y := M16_) hown (mvT hZ (own_m hw 169 rfl)) (mvT hZ (own_m hw 170 rfl)) (mvT hZ (own_m hw 164 rfl)) (mvT hZ (own_m hw 171 rfl)) (by decide) (backOf (W := 0) (rmCkL l Z a0 hw [] k h0 n0 Zc1 (by first | assumption | omega | rfl | decide)) hZ (own_m hw 171 rfl) (own_m hw 164 rfl) (by decide) (by decide)) (g := (mkF m 2 #[.val (.ref sa), .val (.int (0 : Int32)), .val (.int (Int32.ofNat k)), .unset, .unset] [(.int (Int32.ofNat k)), (.int (0 : Int32))])) rfl (by rw [hml]; rfl) (argsL := [(.int (0 : Int32)), (.int (Int32.ofNat k))]) (rest := []) (lenOf pd__II_V rfl) rfl (by show 2 * 0 + _ ≤ _; exact Nat.le_of_eq rfl) (dd hy dJ65_133_2) (fun _ _ => ⟨rfl, e0, (by decide : 0 + 0 ≤ _), (by decide : 0 + 0 ≤ _)⟩)
  dsimp only [Pt.U, Pt.locs, Pt.cells, Pt.slots] at X2 l2 y2 z2 st2 hQ2
  subst l2 y2 z2
  obtain ⟨rfl, N2q, e2⟩ := hQ2
  have N2 := Fr.app N0 N2q
  obtain ⟨T3, h3, k3, X3, e3, E3, A3, st3⟩ := newP X2 hx hZ (own_m hw 23 rfl) e2 (g := (mkF m 10 #[.val (.ref sa), .val (.int (0 : Int32)), .val (.int (Int32.ofNat k)), .val (.int (Int32.ofNat k)), .unset] [(.int (Int32.ofNat k))])) rfl (dd hy dJ65_133_10) rfl (own_nn (by omega)) (cap := 32) (by rw [own_tn (by omega)]; omega) (by decide) (by decide) (by decide)
  obtain ⟨b3, g3⟩ : ∃ z, z = h0.size := ⟨_, rfl⟩
  rw [← g3] at A3 st3
  have z4 : h0.size ≤ h3.size := E3.1
  have l3 : b3 < h3.size := A3.lt
  have V3 : Arv Z h3 b3 k3 .byte (Int32.ofNat k) ((List.replicate k (0 : Int32)).map Value.int) v0_ := (Arv.new A3 (own_nn (by omega))).pad (by rw [List.map_replicate]; exact pad_rep [] _ k)
  have f5 : Arv Z h3 sa kx .byte (Int32.ofNat xs.length) (xs.map Value.int) v0_ := (I1.ext E3)
  obtain ⟨cl6, Ar6, -, S6, M6, -, -⟩ := id f5
  have Zc7 : n0 ≤ h3.size := by omega
  obtain ⟨_, _, ⟨T8, L8, k8, n8⟩, -, X8, ⟨Lc8, hQ8, l8, y8, z8⟩, st8⟩ := Jvm.LawKit.callS X3 hx (y := M15_) hown (mvT hZ (own_m hw 172 rfl)) (mvT hZ (own_m hw 173 rfl)) (mvT hZ (own_m hw 174 rfl)) (mvT hZ (own_m hw 175 rfl)) (by decide) (backOf (W := 4) (rmMin l Z a0 hw [] xs.length k h3 n0 Zc7 (by first | assumption | omega | rfl | decide) (by first | assumption | omega | rfl | decide)) hZ (own_m hw 175 rfl) (own_m hw 174 rfl) (by decide) (by decide)) (g := (mkF m 24 #[.val (.ref sa), .val (.int (0 : Int32)), .val (.int (Int32.ofNat k)), .val (.int (Int32.ofNat k)), .val (.ref b3)] [(.int (Int32.ofNat k)), (.int (Int32.ofNat xs.length)), (.int (0 : Int32)), (.ref b3), (.int (0 : Int32)), (.ref sa)])) rfl (by rw [hml]; rfl) (argsL := [(.int (Int32.ofNat xs.length)), (.int (Int32.ofNat k))]) (rest := [(.int (0 : Int32)), (.ref b3), (.int (0 : Int32)), (.ref sa)]) (lenOf pd__II_I rfl) rfl (by show 2 * 0 + _ ≤ _; exact Nat.le_of_eq rfl) (dd hy dJ65_133_24) (fun _ _ => ⟨rfl, e3, (by decide : 1 + 0 ≤ _), (by decide : 32 + 0 ≤ _)⟩)
  dsimp only [Pt.U, Pt.locs, Pt.cells, Pt.slots] at X8 l8 y8 z8 st8 hQ8
  subst l8 y8 z8
  obtain ⟨rfl, N8q, e8⟩ := hQ8
  have N8 := Fr.app N2 N8q
  obtain ⟨T9, h9, L9, X9, e9, N9, K9, Vr9, st9⟩ := cpA X8 hx hZ hown (own_m hw 176 rfl) (own_m hw 130 rfl) (own_m hw 128 rfl) (own_m hw 129 rfl) e8 f5 V3 (Or.inl ⟨rfl, rfl⟩) (sp := (0 : Int32)) (dp := (0 : Int32)) (nn := (Int32.ofNat k)) (by decide) (by decide) (own_nn (by omega)) (by rw [own_z0, own_tn (by omega), own_tn (by omega)]; omega) (by rw [own_z0, own_tn (by omega)]; omega) rfl (by rw [own_z0, own_tn (by omega)]; simp) N8 (show n0 ≤ b3 by omega) (g := (mkF m 27 #[.val (.ref sa), .val (.int (0 : Int32)), .val (.int (Int32.ofNat k)), .val (.int (Int32.ofNat k)), .val (.ref b3)] [(.int (Int32.ofNat k)), (.int (0 : Int32)), (.ref b3), (.int (0 : Int32)), (.ref sa)])) rfl (by rw [hml]; rfl) rfl (dd hy dJ65_133_27) (by decide) (W := 0) (by show 2 * 0 + _ ≤ _; exact Nat.le_of_eq rfl) (by decide)
  have z10 : h3.size ≤ h9.size := K9.1
  have V9 : Arv Z h9 b3 k3 .byte (Int32.ofNat k) ((xs.take k).map Value.int) v0_ := own_arvcast (own_cpC xs k (by omega) (by omega)) Vr9
  have s11 : ∀ t_, Steps p.tables e below (T9.setTop (mkF m 32 #[.val (.ref sa), .val (.int (0 : Int32)), .val (.int (Int32.ofNat k)), .val (.int (Int32.ofNat k)), .val (.ref b3)] [(.ref b3)])) t_ → Steps _ _ _ _ t_ := fun t_ k_ => pre0 t_ (by
    refine XS.iloadN X0.here hx rfl (dd hy dJ65_133_0) rfl ?_
    refine XS.iloadN X0.here hx rfl (dd hy dJ65_133_1) rfl ?_
    refine st2 _ ?_
    show Steps _ _ _ (T2.setTop (mkF m 5 #[.val (.ref sa), .val (.int (0 : Int32)), .val (.int (Int32.ofNat k)), .unset, .unset] [])) _
    refine XS.iloadN X2.here hx rfl (dd hy dJ65_133_5) rfl ?_
    refine XS.iloadN X2.here hx rfl (dd hy dJ65_133_6) rfl ?_
    refine XS.isub X2.here hx rfl (dd hy dJ65_133_7) rfl ?_
    show Steps _ _ _ (T2.setTop (mkF m 8 #[.val (.ref sa), .val (.int (0 : Int32)), .val (.int (Int32.ofNat k)), .unset, .unset] [(.int ((Int32.ofNat k) - (0 : Int32)))])) _
    refine castTop (g' := (mkF m 8 #[.val (.ref sa), .val (.int (0 : Int32)), .val (.int (Int32.ofNat k)), .unset, .unset] [(.int (Int32.ofNat k))])) (by rw [Int32.sub_zero]) ?_
    show Steps _ _ _ (T2.setTop (mkF m 8 #[.val (.ref sa), .val (.int (0 : Int32)), .val (.int (Int32.ofNat k)), .unset, .unset] [(.int (Int32.ofNat k))])) _
    refine XS.istoreN X2.here hx rfl (dd hy dJ65_133_8) rfl (l' := #[.val (.ref sa), .val (.int (0 : Int32)), .val (.int (Int32.ofNat k)), .val (.int (Int32.ofNat k)), .unset]) rfl ?_
    refine XS.iloadN X2.here hx rfl (dd hy dJ65_133_9) rfl ?_
    refine st3 _ ?_
    refine XS.astore X3.here hx rfl (dd hy dJ65_133_12) rfl rfl (l' := #[.val (.ref sa), .val (.int (0 : Int32)), .val (.int (Int32.ofNat k)), .val (.int (Int32.ofNat k)), .val (.ref b3)]) rfl ?_
    refine XS.aloadN X3.here hx rfl (dd hy dJ65_133_14) rfl rfl ?_
    refine XS.iloadN X3.here hx rfl (dd hy dJ65_133_15) rfl ?_
    show Steps _ _ _ (T3.setTop (mkF m 16 #[.val (.ref sa), .val (.int (0 : Int32)), .val (.int (Int32.ofNat k)), .val (.int (Int32.ofNat k)), .val (.ref b3)] [(.int (0 : Int32)), (.ref sa)])) _
    refine XS.aload X3.here hx rfl (dd hy dJ65_133_16) rfl rfl ?_
    refine XS.iconst X3.here hx rfl (dd hy dJ65_133_18) ?_
    refine XS.aloadN X3.here hx rfl (dd hy dJ65_133_19) rfl rfl ?_
    refine X3.arraylength hx (by rw [e3]; exact Ar6.1) (State.isArrayOf_alike hZ.alike Ar6.2.1) (g := (mkF m 20 #[.val (.ref sa), .val (.int (0 : Int32)), .val (.int (Int32.ofNat k)), .val (.int (Int32.ofNat k)), .val (.ref b3)] [(.ref sa), (.int (0 : Int32)), (.ref b3), (.int (0 : Int32)), (.ref sa)])) rfl rfl (dd hy dJ65_133_20) _ ?_
    rw [len_of S6 M6]
    show Steps _ _ _ (T3.setTop (mkF m 21 #[.val (.ref sa), .val (.int (0 : Int32)), .val (.int (Int32.ofNat k)), .val (.int (Int32.ofNat k)), .val (.ref b3)] [(.int (Int32.ofNat xs.length)), (.int (0 : Int32)), (.ref b3), (.int (0 : Int32)), (.ref sa)])) _
    refine XS.iloadN X3.here hx rfl (dd hy dJ65_133_21) rfl ?_
    refine XS.isub X3.here hx rfl (dd hy dJ65_133_22) rfl ?_
    show Steps _ _ _ (T3.setTop (mkF m 23 #[.val (.ref sa), .val (.int (0 : Int32)), .val (.int (Int32.ofNat k)), .val (.int (Int32.ofNat k)), .val (.ref b3)] [(.int ((Int32.ofNat xs.length) - (0 : Int32))), (.int (0 : Int32)), (.ref b3), (.int (0 : Int32)), (.ref sa)])) _
    refine castTop (g' := (mkF m 23 #[.val (.ref sa), .val (.int (0 : Int32)), .val (.int (Int32.ofNat k)), .val (.int (Int32.ofNat k)), .val (.ref b3)] [(.int (Int32.ofNat xs.length)), (.int (0 : Int32)), (.ref b3), (.int (0 : Int32)), (.ref sa)])) (by rw [Int32.sub_zero]) ?_
    show Steps _ _ _ (T3.setTop (mkF m 23 #[.val (.ref sa), .val (.int (0 : Int32)), .val (.int (Int32.ofNat k)), .val (.int (Int32.ofNat k)), .val (.ref b3)] [(.int (Int32.ofNat xs.length)), (.int (0 : Int32)), (.ref b3), (.int (0 : Int32)), (.ref sa)])) _
    refine XS.iloadN X3.here hx rfl (dd hy dJ65_133_23) rfl ?_
    refine st8 _ ?_
    show Steps _ _ _ (T8.setTop (mkF m 27 #[.val (.ref sa), .val (.int (0 : Int32)), .val (.int (Int32.ofNat k)), .val (.int (Int32.ofNat k)), .val (.ref b3)] [(.int (Int32.ofNat (min xs.length k))), (.int (0 : Int32)), (.ref b3), (.int (0 : Int32)), (.ref sa)])) _
    refine castTop (g' := (mkF m 27 #[.val (.ref sa), .val (.int (0 : Int32)), .val (.int (Int32.ofNat k)), .val (.int (Int32.ofNat k)), .val (.ref b3)] [(.int (Int32.ofNat k)), (.int (0 : Int32)), (.ref b3), (.int (0 : Int32)), (.ref sa)])) (by rw [Nat.min_eq_right (by omega)]) ?_
    show Steps _ _ _ (T8.setTop (mkF m 27 #[.val (.ref sa), .val (.int (0 : Int32)), .val (.int (Int32.ofNat k)), .val (.int (Int32.ofNat k)), .val (.ref b3)] [(.int (Int32.ofNat k)), (.int (0 : Int32)), (.ref b3), (.int (0 : Int32)), (.ref sa)])) _
    refine st9 _ ?_
    show Steps _ _ _ (T9.setTop (mkF m 30 #[.val (.ref sa), .val (.int (0 : Int32)), .val (.int (Int32.ofNat k)), .val (.int (Int32.ofNat k)), .val (.ref b3)] [])) _
    refine XS.aload X9.here hx rfl (dd hy dJ65_133_30) rfl rfl ?_
    exact k_)
  obtain ⟨fs, hr, hrun, hended, hW, hsame⟩ := X9.leave (v := some (.ref b3)) (fun h => by rw [Bd.returns] at h; cases h)
  refine ⟨_, _, s11 _ ?_, hrun, hended, _, _, rfl, ?_, ⟨_, rfl⟩, hW, hsame.mono (by decide) (by decide)⟩
  · jvm_step X9.here [X9.here.top, hx, (dd hy dJ65_133_32), X9.method', Bd.returns, Value.isRef, FieldType.isReference]
    first | (intro acts; rw [hr _ acts rfl rfl rfl]) | rw [hr _ _ rfl rfl rfl]
    exact Steps.refl _
  · show Q_rmCRB Z _ _ _ _ h0 n0 _ T9.heap _
    rw [e9]
    exact ⟨b3, k3, rfl, N9, (((Keep.refl h0 []).ext E3).trans K9 (allS (Or.inr (show h0.size ≤ b3 by omega)) all0)), V9, by omega⟩
theorem dJ65_132_0 : decode CJ65_132 0 = .ok (.iload_n 1, 1) := by decide +kernel
theorem dJ65_132_1 : decode CJ65_132 1 = .ok (.ifCond .ne 9, 3) := by decide +kernel
theorem dJ65_132_4 : decode CJ65_132 4 = .ok (.iload_n 2, 1) := by decide +kernel
theorem dJ65_132_5 : decode CJ65_132 5 = .ok (.aload_n 0, 1) := by decide +kernel
theorem dJ65_132_6 : decode CJ65_132 6 = .ok (.arraylength, 1) := by decide +kernel
theorem dJ65_132_7 : decode CJ65_132 7 = .ok (.if_icmp .eq 10, 3) := by decide +kernel
theorem dJ65_132_10 : decode CJ65_132 10 = .ok (.aload_n 0, 1) := by decide +kernel
theorem dJ65_132_11 : decode CJ65_132 11 = .ok (.iload_n 1, 1) := by decide +kernel
theorem dJ65_132_12 : decode CJ65_132 12 = .ok (.iload_n 2, 1) := by decide +kernel
theorem pd___BII__B : parseMethodDescriptor "([BII)[B" = some ⟨[(.array .byte), .int, .int], some (.array .byte)⟩ := by decide +kernel
theorem dJ65_132_13 : decode CJ65_132 13 = .ok (.invokestatic 339, 3) := by decide +kernel
theorem dJ65_132_16 : decode CJ65_132 16 = .ok (.areturn, 1) := by decide +kernel
theorem ef_rmCR (m : MethodId) (x0 : Addr) (x1 : Int32) (x2 : Int32) : entryFrame m #[(.ref x0), (.int x1), (.int x2)] 3 = mkF m 0 #[.val (.ref x0), .val (.int x1), .val (.int x2)] [] := by first | (simp [entryFrame, mkF, argsToLocals, Value.category]; done) | rfl
abbrev R_rmCR : Room := ({ frames := 2, cells := 1, slots := 32, locals := 56 } : Room)
def Q_rmCR (Z : State) (sa : Addr) (kx : ClassId) (xs : List Int32) (k : Nat) (h0 : Heap) (n0 : Nat) (v : Option Value) (h : Heap) (L : List Loc) : Prop := ∃ (b : Addr), ∃ (kb : ClassId), (v = some (.ref b)) ∧ (Fr n0 L) ∧ (Keep h0 h []) ∧ (Arv Z h b kb .byte (Int32.ofNat k) ((xs.take k).map Value.int) v0_) ∧ (h0.size ≤ b)
set_option maxRecDepth 65536 in
set_option maxHeartbeats 40000000 in
theorem rmCR (l : Launch) (Z : State) (a0 : Array Value) (hw : HW Z a0) (ws : List Jvm.Cond) (sa : Addr) (kx : ClassId) (xs : List Int32) (k : Nat) (h0 : Heap) (n0 : Nat) (Z0 : n0 ≤ h0.size) (I1 : Arv Z h0 sa kx .byte (Int32.ofNat xs.length) (xs.map Value.int) v0_) (hkx : k < xs.length) (hxb : xs.length ≤ 32) :
    MF l Z M18_ (Jvm.Cond.code M18_ jdk_65_method_132_code 3 (some (.array .byte)) :: ws) R_rmCR #[(.ref sa), (.int (0 : Int32)), (.int (Int32.ofNat k))] h0 (Q_rmCR Z sa kx xs k h0 n0) := by
  refine MetFree.of_bodySF (plainFor_of_name pn_java_util_Arrays) hisR ?_
  intro p e s m args below meth c s₁ Bd hml0 hP hK
  obtain ⟨rfl, hZ, hh⟩ := hP
  have hx := Bd.exec
  have hy := Bd.bytes
  have hml : c.maxLocals = 3 := hml0
  have hown : s.vm.findClass "java/util/Arrays" = some m.cls := findClass_of_methodNamed Bd.named
  have hnm := (name_of_methodNamed Bd.named Bd.method).1
  have X0 : Stand p l e R_rmCR s m #[(.ref sa), (.int (0 : Int32)), (.int (Int32.ofNat k))] below meth c s₁ [] 0 0 := Stand.of_body Bd
  have e0 : s₁.heap = h0 := by rw [← hh, Bd.state]; rfl
  have N0 := Fr.nil n0
  have pre0 := own_pre (p := p) (e := e) (below := below) (T := s₁) (ef_rmCR m sa (0 : Int32) (Int32.ofNat k))
  have lt_I1 : @LT.lt Nat _ sa h0.size := I1.lt
  obtain ⟨cl1, Ar1, -, S1, M1, -, -⟩ := id I1
  have Zc2 : n0 ≤ h0.size := by omega
  obtain ⟨_, _, ⟨T3, L3, k3, n3⟩, -, X3, ⟨Lc3, hQ3, l3, y3, z3⟩, st3⟩ := Jvm.LawKit.callS X0 hx (y := M17_) hown (mvT hZ (own_m hw 166 rfl)) (mvT hZ (own_m hw 167 rfl)) (mvT hZ (own_m hw 164 rfl)) (mvT hZ (own_m hw 168 rfl)) (by decide) (backOf (W := 0) (rmCRB l Z a0 hw [] sa kx xs k h0 n0 Zc2 I1 hkx hxb) hZ (own_m hw 168 rfl) (own_m hw 164 rfl) (by decide) (by decide)) (g := (mkF m 13 #[.val (.ref sa), .val (.int (0 : Int32)), .val (.int (Int32.ofNat k))] [(.int (Int32.ofNat k)), (.int (0 : Int32)), (.ref sa)])) rfl (by rw [hml]; rfl) (argsL := [(.ref sa), (.int (0 : Int32)), (.int (Int32.ofNat k))]) (rest := []) (lenOf pd___BII__B rfl) rfl (by show 2 * 0 + _ ≤ _; exact Nat.le_of_eq rfl) (dd hy dJ65_132_13) (fun _ _ => ⟨rfl, e0, (by decide : 0 + 1 ≤ _), (by decide : 0 + 32 ≤ _)⟩)
  dsimp only [Pt.U, Pt.locs, Pt.cells, Pt.slots] at X3 l3 y3 z3 st3 hQ3
  subst l3 y3 z3
  obtain ⟨b_3, kb_3, rfl, N3q, K3, Fq3_0, P3_0⟩ := hQ3
  have N3 := Fr.app N0 N3q
  obtain ⟨h3, e3⟩ : ∃ z, T3.heap = z := ⟨_, rfl⟩
  rw [e3] at K3 Fq3_0
  have z4 : h0.size ≤ h3.size := K3.1
  have lt3_0 : @LT.lt Nat _ b_3 h3.size := Fq3_0.lt
  have s5 : ∀ t_, Steps p.tables e below (T3.setTop (mkF m 16 #[.val (.ref sa), .val (.int (0 : Int32)), .val (.int (Int32.ofNat k))] [(.ref b_3)])) t_ → Steps _ _ _ _ t_ := fun t_ k_ => pre0 t_ (by
    refine XS.iloadN X0.here hx rfl (dd hy dJ65_132_0) rfl ?_
    refine XS.ifNo X0.here hx rfl (dd hy dJ65_132_1) rfl ((if0 _ _).trans (teq (rfl : (0 : Int32) = (0 : Int32))).2) ?_
    show Steps _ _ _ (s₁.setTop (mkF m 4 #[.val (.ref sa), .val (.int (0 : Int32)), .val (.int (Int32.ofNat k))] [])) _
    refine XS.iloadN X0.here hx rfl (dd hy dJ65_132_4) rfl ?_
    refine XS.aloadN X0.here hx rfl (dd hy dJ65_132_5) rfl rfl ?_
    refine X0.arraylength hx (by rw [e0]; exact Ar1.1) (State.isArrayOf_alike hZ.alike Ar1.2.1) (g := (mkF m 6 #[.val (.ref sa), .val (.int (0 : Int32)), .val (.int (Int32.ofNat k))] [(.ref sa), (.int (Int32.ofNat k))])) rfl rfl (dd hy dJ65_132_6) _ ?_
    rw [len_of S1 M1]
    show Steps _ _ _ (s₁.setTop (mkF m 7 #[.val (.ref sa), .val (.int (0 : Int32)), .val (.int (Int32.ofNat k))] [(.int (Int32.ofNat xs.length)), (.int (Int32.ofNat k))])) _
    refine XS.icmpNo X0.here hx rfl (dd hy dJ65_132_7) rfl (feq (fun e => by have := own_inj (by omega) (by omega) e; omega)).1 ?_
    show Steps _ _ _ (s₁.setTop (mkF m 10 #[.val (.ref sa), .val (.int (0 : Int32)), .val (.int (Int32.ofNat k))] [])) _
    refine XS.aloadN X0.here hx rfl (dd hy dJ65_132_10) rfl rfl ?_
    refine XS.iloadN X0.here hx rfl (dd hy dJ65_132_11) rfl ?_
    refine XS.iloadN X0.here hx rfl (dd hy dJ65_132_12) rfl ?_
    refine st3 _ ?_
    show Steps _ _ _ (T3.setTop (mkF m 16 #[.val (.ref sa), .val (.int (0 : Int32)), .val (.int (Int32.ofNat k))] [(.ref b_3)])) _
    exact k_)
  obtain ⟨fs, hr, hrun, hended, hW, hsame⟩ := X3.leave (v := some (.ref b_3)) (fun h => by rw [Bd.returns] at h; cases h)
  refine ⟨_, _, s5 _ ?_, hrun, hended, _, _, rfl, ?_, ⟨_, rfl⟩, hW, hsame.mono (by decide) (by decide)⟩
  · jvm_step X3.here [X3.here.top, hx, (dd hy dJ65_132_16), X3.method', Bd.returns, Value.isRef, FieldType.isReference]
    first | (intro acts; rw [hr _ acts rfl rfl rfl]) | rw [hr _ _ rfl rfl rfl]
    exact Steps.refl _
  · show Q_rmCR Z _ _ _ _ h0 n0 _ T3.heap _
    rw [e3]
    exact ⟨b_3, kb_3, rfl, N3, ((Keep.refl h0 []).trans K3 all0), Fq3_0, by omega⟩
theorem dJ42_151_0 : decode CJ42_151 0 = .ok (.aload_n 0, 1) := by decide +kernel
theorem dJ42_151_1 : decode CJ42_151 1 = .ok (.invokespecial 1, 3) := by decide +kernel
theorem dJ42_151_4 : decode CJ42_151 4 = .ok (.aload_n 0, 1) := by decide +kernel
theorem dJ42_151_5 : decode CJ42_151 5 = .ok (.aload_n 1, 1) := by decide +kernel
theorem dJ42_151_6 : decode CJ42_151 6 = .ok (.putfield 9, 3) := by decide +kernel
theorem dJ42_151_9 : decode CJ42_151 9 = .ok (.aload_n 0, 1) := by decide +kernel
theorem dJ42_151_10 : decode CJ42_151 10 = .ok (.iload_n 2, 1) := by decide +kernel
theorem dJ42_151_11 : decode CJ42_151 11 = .ok (.putfield 15, 3) := by decide +kernel
theorem dJ42_151_14 : decode CJ42_151 14 = .ok (.return_, 1) := by decide +kernel
theorem ef_rmSBB (m : MethodId) (x0 : Addr) (x1 : Addr) (x2 : Int32) : entryFrame m #[(.ref x0), (.ref x1), (.int x2)] 3 = mkF m 0 #[.val (.ref x0), .val (.ref x1), .val (.int x2)] [] := by first | (simp [entryFrame, mkF, argsToLocals, Value.category]; done) | rfl
abbrev R_rmSBB : Room := ({ frames := 1, cells := 0, slots := 0, locals := 12 } : Room)
def Q_rmSBB (Z : State) (a : Addr) (sa : Addr) (h0 : Heap) (n0 : Nat) (v : Option Value) (h : Heap) (L : List Loc) : Prop := (v = none) ∧ (Fr n0 L) ∧ (Keep h0 h [a]) ∧ (Exa Z h a cS) ∧ (Fld Z h a cS "value" "[B" (.ref sa)) ∧ (Fld Z h a cS "coder" "B" (.int (0 : Int32)))
set_option maxRecDepth 65536 in
set_option maxHeartbeats 40000000 in
theorem rmSBB (l : Launch) (Z : State) (a0 : Array Value) (hw : HW Z a0) (ws : List Jvm.Cond) (a : Addr) (sa : Addr) (h0 : Heap) (n0 : Nat) (Z0 : n0 ≤ h0.size) (I1 : Exa Z h0 a cS) (I2 : Fld Z h0 a cS "value" "[B" .null) (I3 : Fld Z h0 a cS "coder" "B" (.int (0 : Int32))) (ga : n0 ≤ a) :
    MF l Z M19_ (Jvm.Cond.code M19_ jdk_42_method_151_code 3 none :: ws) R_rmSBB #[(.ref a), (.ref sa), (.int (0 : Int32))] h0 (Q_rmSBB Z a sa h0 n0) := by
  refine MetFree.of_bodySF (plainFor_of_name pn_java_lang_String) hisR ?_
  intro p e s m args below meth c s₁ Bd hml0 hP hK
  obtain ⟨rfl, hZ, hh⟩ := hP
  have hx := Bd.exec
  have hy := Bd.bytes
  have hml : c.maxLocals = 3 := hml0
  have hown : s.vm.findClass "java/lang/String" = some m.cls := findClass_of_methodNamed Bd.named
  have hnm := (name_of_methodNamed Bd.named Bd.method).1
  have X0 : Stand p l e R_rmSBB s m #[(.ref a), (.ref sa), (.int (0 : Int32))] below meth c s₁ [] 0 0 := Stand.of_body Bd
  have e0 : s₁.heap = h0 := by rw [← hh, Bd.state]; rfl
  have N0 := Fr.nil n0
  have pre0 := own_pre (p := p) (e := e) (below := below) (T := s₁) (ef_rmSBB m a sa (0 : Int32))
  have lt_I1 : @LT.lt Nat _ a h0.size := I1.lt
  obtain ⟨T1, X1, e1, st1⟩ := initO X0 hx hZ hown (own_m hw 15 rfl) (own_m hw 16 rfl) (own_m hw 17 rfl) e0 (g := (mkF m 1 #[.val (.ref a), .val (.ref sa), .val (.int (0 : Int32))] [(.ref a)])) rfl (by rw [hml]; rfl) rfl (dd hy dJ42_151_1) (by decide) (W := 0) (by show 2 * 0 + _ ≤ _; exact Nat.le_of_eq rfl) (by decide)
  obtain ⟨T2, h2, X2, e2, W2, st2⟩ := putF X1 hx hZ hown (host := "") (Or.inl (own_m hw 32 rfl)) Via.refl e1 I2 I1 (Or.inr ⟨(own_m hw 33 rfl), rfl, hnm⟩) (own_m hw 6 rfl) (ty := (.array .byte)) (by decide) rfl rfl (g := (mkF m 6 #[.val (.ref a), .val (.ref sa), .val (.int (0 : Int32))] [(.ref sa), (.ref a)])) rfl rfl (dd hy dJ42_151_6)
  have z3 : h0.size ≤ h2.size := Nat.le_of_eq W2.size.symm
  have F2 : Fld Z h2 a cS "value" "[B" (.ref sa) := I2.same W2
  have N2 := Fr.snoc X2 N0 (show n0 ≤ a by omega)
  have f4 : Exa Z h2 a cS := (I1.wr W2)
  have f5 : Fld Z h2 a cS "coder" "B" (.int (0 : Int32)) := (I3.other W2 (Or.inr (slot_ne (Or.inr (own_m hw 31 rfl)) (Or.inr (own_m hw 33 rfl)) (by decide) (t := .byte) (t' := (.array .byte)) (by decide) (by decide))))
  obtain ⟨T6, h6, X6, e6, W6, st6⟩ := putFN X2 hx hZ hown (own_m hw 30 rfl) Via.refl e2 f5 f4 (Or.inr ⟨(own_m hw 31 rfl), rfl, hnm⟩) (own_m hw 6 rfl) (ty := .byte) (v' := (.int (0 : Int32))) (by decide) rfl rfl (g := (mkF m 11 #[.val (.ref a), .val (.ref sa), .val (.int (0 : Int32))] [(.int (0 : Int32)), (.ref a)])) rfl rfl (dd hy dJ42_151_11)
  have z7 : h2.size ≤ h6.size := Nat.le_of_eq W6.size.symm
  have F6 : Fld Z h6 a cS "coder" "B" (.int (0 : Int32)) := f5.same W6
  have N6 := Fr.snoc X6 N2 (show n0 ≤ a by omega)
  have s8 : ∀ t_, Steps p.tables e below (T6.setTop (mkF m 14 #[.val (.ref a), .val (.ref sa), .val (.int (0 : Int32))] [])) t_ → Steps _ _ _ _ t_ := fun t_ k_ => pre0 t_ (by
    refine XS.aloadN X0.here hx rfl (dd hy dJ42_151_0) rfl rfl ?_
    refine st1 _ ?_
    show Steps _ _ _ (T1.setTop (mkF m 4 #[.val (.ref a), .val (.ref sa), .val (.int (0 : Int32))] [])) _
    refine XS.aloadN X1.here hx rfl (dd hy dJ42_151_4) rfl rfl ?_
    refine XS.aloadN X1.here hx rfl (dd hy dJ42_151_5) rfl rfl ?_
    refine st2 _ ?_
    refine XS.aloadN X2.here hx rfl (dd hy dJ42_151_9) rfl rfl ?_
    refine XS.iloadN X2.here hx rfl (dd hy dJ42_151_10) rfl ?_
    refine st6 _ ?_
    show Steps _ _ _ (T6.setTop (mkF m 14 #[.val (.ref a), .val (.ref sa), .val (.int (0 : Int32))] [])) _
    exact k_)
  obtain ⟨fs, hr, hrun, hended, hW, hsame⟩ := X6.leave (v := none) (fun _ => rfl)
  have f9 : Exa Z h6 a cS := (f4.wr W6)
  have f10 : Fld Z h6 a cS "value" "[B" (.ref sa) := (F2.other W6 (Or.inr (slot_ne (Or.inr (own_m hw 33 rfl)) (Or.inr (own_m hw 31 rfl)) (by decide) (t := (.array .byte)) (t' := .byte) (by decide) (by decide))))
  refine ⟨_, _, s8 _ ?_, hrun, hended, _, _, rfl, ?_, ⟨_, rfl⟩, hW, hsame.mono (by decide) (by decide)⟩
  · exact X6.returnOut hx Bd.returns (dd hy dJ42_151_14) hr
  · show Q_rmSBB Z _ _ h0 n0 _ T6.heap _
    rw [e6]
    exact ⟨rfl, N6, (((Keep.refl h0 [a]).wr W2 (Or.inl (by simp))).wr W6 (Or.inl (by simp))), f9, f10, F6⟩
theorem ef_rmSBBw (m : MethodId) (x0 : Addr) (x1 : Addr) (x2 : Int32) : entryFrame m #[(.ref x0), (.ref x1), (.int x2)] 3 = mkF m 0 #[.val (.ref x0), .val (.ref x1), .val (.int x2)] [] := by first | (simp [entryFrame, mkF, argsToLocals, Value.category]; done) | rfl
abbrev R_rmSBBw : Room := ({ frames := 1, cells := 0, slots := 0, locals := 12 } : Room)
def Q_rmSBBw (Z : State) (a : Addr) (sa : Addr) (ds : List Int32) (h0 : Heap) (n0 : Nat) (v : Option Value) (h : Heap) (L : List Loc) : Prop := (v = none) ∧ (Fr n0 L) ∧ (Keep h0 h [a]) ∧ (Exa Z h a cS) ∧ (Fld Z h a cS "value" "[B" (.ref sa)) ∧ (Fld Z h a cS "coder" "B" (.int (own_cod ds)))
set_option maxRecDepth 65536 in
set_option maxHeartbeats 40000000 in
theorem rmSBBw (l : Launch) (Z : State) (a0 : Array Value) (hw : HW Z a0) (ws : List Jvm.Cond) (a : Addr) (sa : Addr) (ds : List Int32) (h0 : Heap) (n0 : Nat) (Z0 : n0 ≤ h0.size) (I1 : Exa Z h0 a cS) (I2 : Fld Z h0 a cS "value" "[B" .null) (I3 : Fld Z h0 a cS "coder" "B" (.int (0 : Int32))) (ga : n0 ≤ a) :
    MF l Z M19_ (Jvm.Cond.code M19_ jdk_42_method_151_code 3 none :: ws) R_rmSBBw #[(.ref a), (.ref sa), (.int (own_cod ds))] h0 (Q_rmSBBw Z a sa ds h0 n0) := by
  refine MetFree.of_bodySF (plainFor_of_name pn_java_lang_String) hisR ?_
  intro p e s m args below meth c s₁ Bd hml0 hP hK
  obtain ⟨rfl, hZ, hh⟩ := hP
  have hx := Bd.exec
  have hy := Bd.bytes
  have hml : c.maxLocals = 3 := hml0
  have hown : s.vm.findClass "java/lang/String" = some m.cls := findClass_of_methodNamed Bd.named
  have hnm := (name_of_methodNamed Bd.named Bd.method).1
  have X0 : Stand p l e R_rmSBBw s m #[(.ref a), (.ref sa), (.int (own_cod ds))] below meth c s₁ [] 0 0 := Stand.of_body Bd
  have e0 : s₁.heap = h0 := by rw [← hh, Bd.state]; rfl
  have N0 := Fr.nil n0
  have pre0 := own_pre (p := p) (e := e) (below := below) (T := s₁) (ef_rmSBBw m a sa (own_cod ds))
  have lt_I1 : @LT.lt Nat _ a h0.size := I1.lt
  obtain ⟨T1, X1, e1, st1⟩ := initO X0 hx hZ hown (own_m hw 15 rfl) (own_m hw 16 rfl) (own_m hw 17 rfl) e0 (g := (mkF m 1 #[.val (.ref a), .val (.ref sa), .val (.int (own_cod ds))] [(.ref a)])) rfl (by rw [hml]; rfl) rfl (dd hy dJ42_151_1) (by decide) (W := 0) (by show 2 * 0 + _ ≤ _; exact Nat.le_of_eq rfl) (by decide)
  obtain ⟨T2, h2, X2, e2, W2, st2⟩ := putF X1 hx hZ hown (host := "") (Or.inl (own_m hw 32 rfl)) Via.refl e1 I2 I1 (Or.inr ⟨(own_m hw 33 rfl), rfl, hnm⟩) (own_m hw 6 rfl) (ty := (.array .byte)) (by decide) rfl rfl (g := (mkF m 6 #[.val (.ref a), .val (.ref sa), .val (.int (own_cod ds))] [(.ref sa), (.ref a)])) rfl rfl (dd hy dJ42_151_6)
  have z3 : h0.size ≤ h2.size := Nat.le_of_eq W2.size.symm
  have F2 : Fld Z h2 a cS "value" "[B" (.ref sa) := I2.same W2
  have N2 := Fr.snoc X2 N0 (show n0 ≤ a by omega)
  have f4 : Exa Z h2 a cS := (I1.wr W2)
  have f5 : Fld Z h2 a cS "coder" "B" (.int (0 : Int32)) := (I3.other W2 (Or.inr (slot_ne (Or.inr (own_m hw 31 rfl)) (Or.inr (own_m hw 33 rfl)) (by decide) (t := .byte) (t' := (.array .byte)) (by decide) (by decide))))
  obtain ⟨T6, h6, X6, e6, W6, st6⟩ := putFN X2 hx hZ hown (own_m hw 30 rfl) Via.refl e2 f5 f4 (Or.inr ⟨(own_m hw 31 rfl), rfl, hnm⟩) (own_m hw 6 rfl) (ty := .byte) (v' := (.int (own_cod ds))) (by decide) (own_cnar ds) (own_cfit ds) (g := (mkF m 11 #[.val (.ref a), .val (.ref sa), .val (.int (own_cod ds))] [(.int (own_cod ds)), (.ref a)])) rfl rfl (dd hy dJ42_151_11)
  have z7 : h2.size ≤ h6.size := Nat.le_of_eq W6.size.symm
  have F6 : Fld Z h6 a cS "coder" "B" (.int (own_cod ds)) := f5.same W6
  have N6 := Fr.snoc X6 N2 (show n0 ≤ a by omega)
  have s8 : ∀ t_, Steps p.tables e below (T6.setTop (mkF m 14 #[.val (.ref a), .val (.ref sa), .val (.int (own_cod ds))] [])) t_ → Steps _ _ _ _ t_ := fun t_ k_ => pre0 t_ (by
    refine XS.aloadN X0.here hx rfl (dd hy dJ42_151_0) rfl rfl ?_
    refine st1 _ ?_
    show Steps _ _ _ (T1.setTop (mkF m 4 #[.val (.ref a), .val (.ref sa), .val (.int (own_cod ds))] [])) _
    refine XS.aloadN X1.here hx rfl (dd hy dJ42_151_4) rfl rfl ?_
    refine XS.aloadN X1.here hx rfl (dd hy dJ42_151_5) rfl rfl ?_
    refine st2 _ ?_
    refine XS.aloadN X2.here hx rfl (dd hy dJ42_151_9) rfl rfl ?_
    refine XS.iloadN X2.here hx rfl (dd hy dJ42_151_10) rfl ?_
    refine st6 _ ?_
    show Steps _ _ _ (T6.setTop (mkF m 14 #[.val (.ref a), .val (.ref sa), .val (.int (own_cod ds))] [])) _
    exact k_)
  obtain ⟨fs, hr, hrun, hended, hW, hsame⟩ := X6.leave (v := none) (fun _ => rfl)
  have f9 : Exa Z h6 a cS := (f4.wr W6)
  have f10 : Fld Z h6 a cS "value" "[B" (.ref sa) := (F2.other W6 (Or.inr (slot_ne (Or.inr (own_m hw 33 rfl)) (Or.inr (own_m hw 31 rfl)) (by decide) (t := (.array .byte)) (t' := .byte) (by decide) (by decide))))
  refine ⟨_, _, s8 _ ?_, hrun, hended, _, _, rfl, ?_, ⟨_, rfl⟩, hW, hsame.mono (by decide) (by decide)⟩
  · exact X6.returnOut hx Bd.returns (dd hy dJ42_151_14) hr
  · show Q_rmSBBw Z _ _ _ h0 n0 _ T6.heap _
    rw [e6]
    exact ⟨rfl, N6, (((Keep.refl h0 [a]).wr W2 (Or.inl (by simp))).wr W6 (Or.inl (by simp))), f9, f10, F6⟩
theorem dJ43_47_0 : decode CJ43_47 0 = .ok (.iload_n 2, 1) := by decide +kernel
theorem dJ43_47_1 : decode CJ43_47 1 = .ok (.ifCond .ne 6, 3) := by decide +kernel
theorem dJ43_47_4 : decode CJ43_47 4 = .ok (.ldc 151, 2) := by decide +kernel
theorem dJ43_47_6 : decode CJ43_47 6 = .ok (.areturn, 1) := by decide +kernel
theorem dJ43_47_7 : decode CJ43_47 7 = .ok (.new 1, 3) := by decide +kernel
theorem dJ43_47_10 : decode CJ43_47 10 = .ok (.dup, 1) := by decide +kernel
theorem dJ43_47_11 : decode CJ43_47 11 = .ok (.aload_n 0, 1) := by decide +kernel
theorem dJ43_47_12 : decode CJ43_47 12 = .ok (.iload_n 1, 1) := by decide +kernel
theorem dJ43_47_13 : decode CJ43_47 13 = .ok (.iload_n 1, 1) := by decide +kernel
theorem dJ43_47_14 : decode CJ43_47 14 = .ok (.iload_n 2, 1) := by decide +kernel
theorem dJ43_47_15 : decode CJ43_47 15 = .ok (.iadd, 1) := by decide +kernel
theorem dJ43_47_16 : decode CJ43_47 16 = .ok (.invokestatic 232, 3) := by decide +kernel
theorem dJ43_47_19 : decode CJ43_47 19 = .ok (.iconst 0, 1) := by decide +kernel
theorem pd___BB_V : parseMethodDescriptor "([BB)V" = some ⟨[(.array .byte), .byte], none⟩ := by decide +kernel
theorem dJ43_47_20 : decode CJ43_47 20 = .ok (.invokespecial 112, 3) := by decide +kernel
theorem dJ43_47_23 : decode CJ43_47 23 = .ok (.areturn, 1) := by decide +kernel
theorem ef_rmNewA (m : MethodId) (x0 : Addr) (x1 : Int32) (x2 : Int32) : entryFrame m #[(.ref x0), (.int x1), (.int x2)] 3 = mkF m 0 #[.val (.ref x0), .val (.int x1), .val (.int x2)] [] := by first | (simp [entryFrame, mkF, argsToLocals, Value.category]; done) | rfl
abbrev R_rmNewA : Room := ({ frames := 3, cells := 2, slots := 36, locals := 72 } : Room)
def Q_rmNewA (Z : State) (sa : Addr) (kx : ClassId) (cs : List Int32) (k : Nat) (h0 : Heap) (n0 : Nat) (v : Option Value) (h : Heap) (L : List Loc) : Prop := ∃ (a : Addr), ∃ (b : Addr), ∃ (kb : ClassId), (v = some (.ref a)) ∧ (Fr n0 L) ∧ (Keep h0 h []) ∧ (Exa Z h a cS) ∧ (Fld Z h a cS "value" "[B" (.ref b)) ∧ (Fld Z h a cS "coder" "B" (.int (own_cod (cs.take k)))) ∧ (Arv Z h b kb .byte (Int32.ofNat (own_enl (cs.take k))) (own_enc (cs.take k)) v0_)
set_option maxRecDepth 65536 in
set_option maxHeartbeats 40000000 in
theorem rmNewA (l : Launch) (Z : State) (a0 : Array Value) (hw : HW Z a0) (ws : List Jvm.Cond) (sa : Addr) (kx : ClassId) (cs : List Int32) (k : Nat) (h0 : Heap) (n0 : Nat) (Z0 : n0 ≤ h0.size) (I1 : Arv Z h0 sa kx .byte (Int32.ofNat (cs.map own_lo).length) ((cs.map own_lo).map Value.int) v0_) (hlat : own_lat cs) (hbl : cs.length ≤ 8) (hkl : k < cs.length) :
    MetFree l M20_ (head1 (Jvm.Cond.code M20_ jdk_43_method_47_code 3 (some (.object "java/lang/String")) :: ws) R_rmNewA) (fun ar_ U => ar_ = #[(.ref sa), (.int (0 : Int32)), (.int (Int32.ofNat k))] ∧ Z.Warmed39 U.vm ∧ U.heap = h0 ∧ CHv Z ELs U.vm h0) (fun _ _ _ _ _ => True) (fun _ U oc_ U' => ∃ v L, oc_ = .returned v ∧ Q_rmNewA Z sa kx cs k h0 n0 v U'.heap L ∧ CHr Z ELs U.vm U.heap U'.vm U'.heap ∧ ReturnedEndW U oc_ U' L R_rmNewA.cells R_rmNewA.slots) := by
  refine MetFree.of_bodySF (plainFor_of_name pn_java_lang_StringLatin1) hisR ?_
  intro p e s m args below meth c s₁ Bd hml0 hP hK
  obtain ⟨rfl, hZ, hh, hCH⟩ := hP
  have hx := Bd.exec
  have hy := Bd.bytes
  have hml : c.maxLocals = 3 := hml0
  have hown : s.vm.findClass "java/lang/StringLatin1" = some m.cls := findClass_of_methodNamed Bd.named
  have hnm := (name_of_methodNamed Bd.named Bd.method).1
  have X0 : Stand p l e R_rmNewA (s.setVm s.vm) m #[(.ref sa), (.int (0 : Int32)), (.int (Int32.ofNat k))] below meth c s₁ [] 0 0 := Stand.of_body Bd
  have e0 : s₁.heap = h0 := by rw [← hh, Bd.state]; rfl
  have N0 := Fr.nil n0
  have pre0 := own_pre (p := p) (e := e) (below := below) (T := s₁) (ef_rmNewA m sa (0 : Int32) (Int32.ofNat k))
  have hEL : EW Z a0 ELs := own_EW hw
  have wS : ∀ a ∈ Bundle.stringAtoms, a.before a0 Z = true := own_wS hw
  have hS : s.Since s.vm s.heap.size := (State.WarmedH.refl s).since _
  have hk : s.heap.size ≤ h0.size := by rw [hh]; exact Nat.le_refl _
  have CR : CHr Z ELs s.vm h0 s.vm h0 := CHr.refl hCH
  have lt_I1 : @LT.lt Nat _ sa h0.size := I1.lt
  have s1 : ∀ t_, Steps p.tables e below (s₁.setTop (mkF m 1 #[.val (.ref sa), .val (.int (0 : Int32)), .val (.int (Int32.ofNat k))] [(.int (Int32.ofNat k))])) t_ → Steps _ _ _ _ t_ := fun t_ k_ => pre0 t_ (by
    refine XS.iloadN X0.here hx rfl (dd hy dJ43_47_0) rfl ?_
    exact k_)
  by_cases h2 : (Int32.ofNat k) = (0 : Int32)
  · have s4 : ∀ t_, Steps p.tables e below (s₁.setTop (mkF m 4 #[.val (.ref sa), .val (.int (0 : Int32)), .val (.int (Int32.ofNat k))] [])) t_ → Steps _ _ _ _ t_ := fun t_ k_ => s1 t_ (by
      refine XS.ifNo X0.here hx rfl (dd hy dJ43_47_1) rfl ((if0 _ _).trans (teq h2).2) ?_
      show Steps _ _ _ (s₁.setTop (mkF m 4 #[.val (.ref sa), .val (.int (0 : Int32)), .val (.int (Int32.ofNat k))] [])) _
      exact k_)
    obtain ⟨a3, T3, h3, k3, b3, kk3, X3, e3, E3, hS, hk, hZ, hown, Ex3, Fc3, Fv3, Av3, la3, lb3, Cp3, Li3, Sa3, st3⟩ := ldcCH X0 hx hZ hown (own_m hw 92 rfl) wS e0 hS hk hEL (List.mem_of_getElem? (i := 2) rfl) CR.1 (vs := []) (z := (0 : Int32)) ⟨by decide, by decide⟩ (by decide) rfl (g := (mkF m 4 #[.val (.ref sa), .val (.int (0 : Int32)), .val (.int (Int32.ofNat k))] [])) rfl (dd hy dJ43_47_4) (n := 0) (by decide) (by decide) (by decide) (by decide)
    have z5 : h0.size ≤ h3.size := E3.1
    have CR := CR.trans Cp3
    have la3 : @LT.lt Nat _ a3 h3.size := la3
    have lb3 : @LT.lt Nat _ b3 h3.size := lb3
    have s6 : ∀ t_, Steps p.tables e below (T3.setTop (mkF m 6 #[.val (.ref sa), .val (.int (0 : Int32)), .val (.int (Int32.ofNat k))] [(.ref a3)])) t_ → Steps _ _ _ _ t_ := fun t_ k_ => s4 t_ (by
      refine st3 _ ?_
      show Steps _ _ _ (T3.setTop (mkF m 6 #[.val (.ref sa), .val (.int (0 : Int32)), .val (.int (Int32.ofNat k))] [(.ref a3)])) _
      exact k_)
    obtain ⟨fs, hr, hrun, hended, hREW⟩ := X3.leaveW hS (by first | exact Nat.le_refl _ | (rw [e3]; exact hk)) (v := some (.ref a3)) (fun h => by rw [Bd.returns] at h; cases h)
    refine ⟨_, _, s6 _ ?_, hrun, hended, _, _, rfl, ?_, (by show CHr Z ELs s.vm s.heap T3.vm T3.heap; rw [hh, e3]; exact CR.trans (CHv.at X3 hZ hEL CR.1)), hREW.1, hREW.2.1, hREW.2.2.1, hREW.2.2.2.mono (by decide) (by decide)⟩
    · jvm_step X3.here [X3.here.top, hx, (dd hy dJ43_47_6), X3.method', Bd.returns, Value.isRef, FieldType.isReference]
      first | (intro acts; rw [hr _ acts rfl rfl rfl]) | rw [hr _ _ rfl rfl rfl]
      exact Steps.refl _
    · show Q_rmNewA Z _ _ _ _ h0 n0 _ T3.heap _
      rw [e3]
      exact ⟨a3, b3, kk3, rfl, N0, ((Keep.refl h0 []).ext E3), Ex3, Fv3, (by rw [own_cod0 (own_lattake hlat)]; exact Fc3), own_fix0 (by rw [own_inj (n := 0) (by omega) (by decide) h2]; rfl) Av3⟩
  · obtain ⟨T7, h7, X7, e7, E7, A7, D7, -, st7⟩ := newO X0 hx hZ hown (own_m hw 186 rfl) (own_m hw 6 rfl) (own_m hw 7 rfl) e0 (g := (mkF m 7 #[.val (.ref sa), .val (.int (0 : Int32)), .val (.int (Int32.ofNat k))] [])) rfl (dd hy dJ43_47_7) (by decide) (by decide)
    obtain ⟨b7, g7⟩ : ∃ z, z = h0.size := ⟨_, rfl⟩
    rw [← g7] at A7 D7 st7
    have z8 : h0.size ≤ h7.size := E7.1
    have Sf9 : Safe Z ELs s.vm h7 b7 := Safe.ext E7 CR.1 (Safe.new (by omega))
    have Cp8 : CHr Z ELs s.vm h0 s.vm h7 := CHr.ext E7 CR.1
    have hk := Nat.le_trans hk z8
    have CR := CR.trans Cp8
    have l7 : b7 < h7.size := A7.lt
    have F10 : Fld Z h7 b7 cS "coder" "B" (.int (0 : Int32)) := D7 (Or.inr (own_m hw 31 rfl)) (ty := .byte) (by decide)
    have F11 : Fld Z h7 b7 cS "value" "[B" .null := D7 (Or.inr (own_m hw 33 rfl)) (ty := (.array .byte)) (by decide)
    have f12 : Arv Z h7 sa kx .byte (Int32.ofNat (cs.map own_lo).length) ((cs.map own_lo).map Value.int) v0_ := (I1.ext E7)
    have Zc13 : n0 ≤ h7.size := by omega
    obtain ⟨_, _, ⟨T14, L14, k14, n14⟩, -, X14, ⟨Lc14, hQ14, l14, y14, z14⟩, st14⟩ := Jvm.LawKit.callS X7 hx (y := M18_) hown (mvT hZ (own_m hw 187 rfl)) (mvT hZ (own_m hw 163 rfl)) (mvT hZ (own_m hw 164 rfl)) (mvT hZ (own_m hw 165 rfl)) (by decide) (backOf (W := 2) (rmCR l Z a0 hw [] sa kx (cs.map own_lo) k h7 n0 Zc13 f12 (by rw [List.length_map]; exact hkl) (by rw [List.length_map]; omega)) hZ (own_m hw 165 rfl) (own_m hw 164 rfl) (by decide) (by decide)) (g := (mkF m 16 #[.val (.ref sa), .val (.int (0 : Int32)), .val (.int (Int32.ofNat k))] [(.int (Int32.ofNat k)), (.int (0 : Int32)), (.ref sa), (.ref b7), (.ref b7)])) rfl (by rw [hml]; rfl) (argsL := [(.ref sa), (.int (0 : Int32)), (.int (Int32.ofNat k))]) (rest := [(.ref b7), (.ref b7)]) (lenOf pd___BII__B rfl) rfl (by show 2 * 0 + _ ≤ _; exact Nat.le_of_eq rfl) (dd hy dJ43_47_16) (fun _ _ => ⟨rfl, e7, (by decide : 1 + 1 ≤ _), (by decide : 4 + 32 ≤ _)⟩)
    dsimp only [Pt.U, Pt.locs, Pt.cells, Pt.slots] at X14 l14 y14 z14 st14 hQ14
    subst l14 y14 z14
    obtain ⟨b_14, kb_14, rfl, N14q, K14, Fq14_0, P14_0⟩ := hQ14
    have N14 := Fr.app N0 N14q
    obtain ⟨h14, e14⟩ : ∃ z, T14.heap = z := ⟨_, rfl⟩
    rw [e14] at K14 Fq14_0
    have z15 : h7.size ≤ h14.size := K14.1
    have Cp15 : CHr Z ELs s.vm h7 s.vm h14 := CHr.keep K14 sf0 CR.1
    have hk := Nat.le_trans hk z15
    have CR := CR.trans Cp15
    have lt14_0 : @LT.lt Nat _ b_14 h14.size := Fq14_0.lt
    have f16 : Exa Z h14 b7 cS := (A7.keep K14)
    have f17 : Fld Z h14 b7 cS "value" "[B" .null := (F11.keep K14 nin0)
    have f18 : Fld Z h14 b7 cS "coder" "B" (.int (0 : Int32)) := (F10.keep K14 nin0)
    have Zc19 : n0 ≤ h14.size := by omega
    obtain ⟨_, _, ⟨T20, L20, k20, n20⟩, -, X20, ⟨Lc20, hQ20, l20, y20, z20⟩, st20⟩ := X14.specialBack hx (y := M19_) rfl hown (mvT hZ (own_m hw 188 rfl)) (mvT hZ (own_m hw 189 rfl)) (mvT hZ (own_m hw 190 rfl)) (by decide) (backOf (W := 1) (rmSBB l Z a0 hw [] b7 b_14 h14 n0 Zc19 f16 f17 f18 (by first | assumption | omega | rfl | decide)) hZ (own_m hw 190 rfl) (own_m hw 7 rfl) (by decide) (by decide)) (g := (mkF m 20 #[.val (.ref sa), .val (.int (0 : Int32)), .val (.int (Int32.ofNat k))] [(.int (0 : Int32)), (.ref b_14), (.ref b7), (.ref b7)])) rfl (by rw [hml]; rfl) (Steps.refl _) (a := b7) (argsL := [(.ref b_14), (.int (0 : Int32))]) (rest := [(.ref b7)]) (lenOf pd___BB_V rfl) rfl (by show 2 * 0 + _ ≤ _; exact Nat.le_of_eq rfl) (dd hy dJ43_47_20) (fun _ _ => ⟨rfl, e14, (by decide : 2 + 0 ≤ _), (by decide : 36 + 0 ≤ _)⟩)
    dsimp only [Pt.U, Pt.locs, Pt.cells, Pt.slots] at X20 l20 y20 z20 st20 hQ20
    subst l20 y20 z20
    obtain ⟨rfl, N20q, K20, Fq20_0, Fq20_1, Fq20_2⟩ := hQ20
    have N20 := Fr.app N14 N20q
    obtain ⟨h20, e20⟩ : ∃ z, T20.heap = z := ⟨_, rfl⟩
    rw [e20] at K20 Fq20_0 Fq20_1 Fq20_2
    have Sf22 : Safe Z ELs s.vm h14 b7 := (Cp15.safe (show @LT.lt Nat _ b7 h7.size by omega) Sf9)
    have z21 : h14.size ≤ h20.size := K20.1
    have Cp21 : CHr Z ELs s.vm h14 s.vm h20 := CHr.keep K20 (sfS Sf22 sf0) CR.1
    have hk := Nat.le_trans hk z21
    have CR := CR.trans Cp21
    have lt20_0 : @LT.lt Nat _ b7 h20.size := Fq20_0.lt
    have s23 : ∀ t_, Steps p.tables e below (T20.setTop (mkF m 23 #[.val (.ref sa), .val (.int (0 : Int32)), .val (.int (Int32.ofNat k))] [(.ref b7)])) t_ → Steps _ _ _ _ t_ := fun t_ k_ => s1 t_ (by
      refine XS.ifYes X0.here hx rfl (pc0 := 1) (pc' := 7) rfl (dd hy dJ43_47_1) rfl ((if0 _ _).trans (feq h2).2) (by decide) (by decide) ?_
      show Steps _ _ _ (s₁.setTop (mkF m 7 #[.val (.ref sa), .val (.int (0 : Int32)), .val (.int (Int32.ofNat k))] [])) _
      refine st7 _ ?_
      refine XS.dup X7.here hx rfl (dd hy dJ43_47_10) rfl rfl ?_
      refine XS.aloadN X7.here hx rfl (dd hy dJ43_47_11) rfl rfl ?_
      refine XS.iloadN X7.here hx rfl (dd hy dJ43_47_12) rfl ?_
      refine XS.iloadN X7.here hx rfl (dd hy dJ43_47_13) rfl ?_
      refine XS.iloadN X7.here hx rfl (dd hy dJ43_47_14) rfl ?_
      show Steps _ _ _ (T7.setTop (mkF m 15 #[.val (.ref sa), .val (.int (0 : Int32)), .val (.int (Int32.ofNat k))] [(.int (Int32.ofNat k)), (.int (0 : Int32)), (.int (0 : Int32)), (.ref sa), (.ref b7), (.ref b7)])) _
      refine XS.iadd X7.here hx rfl (dd hy dJ43_47_15) rfl ?_
      show Steps _ _ _ (T7.setTop (mkF m 16 #[.val (.ref sa), .val (.int (0 : Int32)), .val (.int (Int32.ofNat k))] [(.int ((0 : Int32) + (Int32.ofNat k))), (.int (0 : Int32)), (.ref sa), (.ref b7), (.ref b7)])) _
      refine castTop (g' := (mkF m 16 #[.val (.ref sa), .val (.int (0 : Int32)), .val (.int (Int32.ofNat k))] [(.int (Int32.ofNat k)), (.int (0 : Int32)), (.ref sa), (.ref b7), (.ref b7)])) (by rw [Int32.zero_add]) ?_
      show Steps _ _ _ (T7.setTop (mkF m 16 #[.val (.ref sa), .val (.int (0 : Int32)), .val (.int (Int32.ofNat k))] [(.int (Int32.ofNat k)), (.int (0 : Int32)), (.ref sa), (.ref b7), (.ref b7)])) _
      refine st14 _ ?_
      show Steps _ _ _ (T14.setTop (mkF m 19 #[.val (.ref sa), .val (.int (0 : Int32)), .val (.int (Int32.ofNat k))] [(.ref b_14), (.ref b7), (.ref b7)])) _
      refine XS.iconst X14.here hx rfl (dd hy dJ43_47_19) ?_
      refine st20.trans ?_
      show Steps _ _ _ (T20.setTop (mkF m 23 #[.val (.ref sa), .val (.int (0 : Int32)), .val (.int (Int32.ofNat k))] [(.ref b7)])) _
      exact k_)
    obtain ⟨fs, hr, hrun, hended, hREW⟩ := X20.leaveW hS (by first | exact Nat.le_refl _ | (rw [e20]; exact hk)) (v := some (.ref b7)) (fun h => by rw [Bd.returns] at h; cases h)
    have f24 : Arv Z h20 b_14 kb_14 .byte (Int32.ofNat k) (((cs.map own_lo).take k).map Value.int) v0_ := (Fq14_0.keep K20 (ninS (show @Ne Nat b_14 b7 by omega) nin0))
    refine ⟨_, _, s23 _ ?_, hrun, hended, _, _, rfl, ?_, (by show CHr Z ELs s.vm s.heap T20.vm T20.heap; rw [hh, e20]; exact CR.trans (CHv.at X20 hZ hEL CR.1)), hREW.1, hREW.2.1, hREW.2.2.1, hREW.2.2.2.mono (by decide) (by decide)⟩
    · jvm_step X20.here [X20.here.top, hx, (dd hy dJ43_47_23), X20.method', Bd.returns, Value.isRef, FieldType.isReference]
      first | (intro acts; rw [hr _ acts rfl rfl rfl]) | rw [hr _ _ rfl rfl rfl]
      exact Steps.refl _
    · show Q_rmNewA Z _ _ _ _ h0 n0 _ T20.heap _
      rw [e20]
      exact ⟨b7, b_14, kb_14, rfl, N20, ((((Keep.refl h0 []).ext E7).trans K14 all0).trans K20 (allS (Or.inr (show h0.size ≤ b7 by omega)) all0)), Fq20_0, Fq20_1, (by rw [own_cod0 (own_lattake hlat)]; exact Fq20_2), own_toenc (own_lattake hlat) (by rw [List.length_take, Nat.min_eq_left (by omega), List.map_take]; exact f24)⟩
theorem pn_jdk_internal_util_Preconditions : plainName "jdk/internal/util/Preconditions" = true := by first | (simp [plainName, overriddenIn]; done) | decide +kernel
theorem dJ41_12_0 : decode CJ41_12 0 = .ok (.iload_n 0, 1) := by decide +kernel
theorem dJ41_12_1 : decode CJ41_12 1 = .ok (.ifCond .lt 13, 3) := by decide +kernel
theorem dJ41_12_4 : decode CJ41_12 4 = .ok (.iload_n 0, 1) := by decide +kernel
theorem dJ41_12_5 : decode CJ41_12 5 = .ok (.iload_n 1, 1) := by decide +kernel
theorem dJ41_12_6 : decode CJ41_12 6 = .ok (.if_icmp .gt 8, 3) := by decide +kernel
theorem dJ41_12_9 : decode CJ41_12 9 = .ok (.iload_n 1, 1) := by decide +kernel
theorem dJ41_12_10 : decode CJ41_12 10 = .ok (.iload_n 2, 1) := by decide +kernel
theorem dJ41_12_11 : decode CJ41_12 11 = .ok (.if_icmp .le 11, 3) := by decide +kernel
theorem dJ41_12_22 : decode CJ41_12 22 = .ok (.iload_n 0, 1) := by decide +kernel
theorem dJ41_12_23 : decode CJ41_12 23 = .ok (.ireturn, 1) := by decide +kernel
theorem ef_rmCFT (m : MethodId) (x0 : Int32) (x1 : Int32) (x2 : Int32) (x3 : Value) (hr_x3 : x3.isRef = true) : entryFrame m #[(.int x0), (.int x1), (.int x2), x3] 4 = mkF m 0 #[.val (.int x0), .val (.int x1), .val (.int x2), .val x3] [] := by first | (simp [entryFrame, mkF, argsToLocals, Value.category]; done) | rfl | (cases x3 <;> simp [Value.isRef] at hr_x3 <;> rfl)
abbrev R_rmCFT : Room := ({ frames := 0, cells := 0, slots := 0, locals := 0 } : Room)
def Q_rmCFT (Z : State) (fmt : Value) (i : Nat) (j : Nat) (n : Nat) (h0 : Heap) (n0 : Nat) (v : Option Value) (h : Heap) (L : List Loc) : Prop := (v = some (.int (Int32.ofNat i))) ∧ (Fr n0 L) ∧ (h = h0)
set_option maxRecDepth 65536 in
set_option maxHeartbeats 40000000 in
theorem rmCFT (l : Launch) (Z : State) (a0 : Array Value) (hw : HW Z a0) (ws : List Jvm.Cond) (fmt : Value) (i : Nat) (j : Nat) (n : Nat) (h0 : Heap) (n0 : Nat) (Z0 : n0 ≤ h0.size) (hfmt : fmt.isRef = true) (hij : i ≤ j) (hjn : j ≤ n) (hn : n ≤ 8000) :
    MF l Z M21_ (Jvm.Cond.code M21_ jdk_41_method_12_code 4 (some .int) :: ws) R_rmCFT #[(.int (Int32.ofNat i)), (.int (Int32.ofNat j)), (.int (Int32.ofNat n)), fmt] h0 (Q_rmCFT Z fmt i j n h0 n0) := by
  refine MetFree.of_bodySF (plainFor_of_name pn_jdk_internal_util_Preconditions) hisR ?_
  intro p e s m args below meth c s₁ Bd hml0 hP hK
  obtain ⟨rfl, hZ, hh⟩ := hP
  have hx := Bd.exec
  have hy := Bd.bytes
  have hml : c.maxLocals = 4 := hml0
  have hown : s.vm.findClass "jdk/internal/util/Preconditions" = some m.cls := findClass_of_methodNamed Bd.named
  have hnm := (name_of_methodNamed Bd.named Bd.method).1
  have X0 : Stand p l e R_rmCFT s m #[(.int (Int32.ofNat i)), (.int (Int32.ofNat j)), (.int (Int32.ofNat n)), fmt] below meth c s₁ [] 0 0 := Stand.of_body Bd
  have e0 : s₁.heap = h0 := by rw [← hh, Bd.state]; rfl
  have N0 := Fr.nil n0
  have pre0 := own_pre (p := p) (e := e) (below := below) (T := s₁) (ef_rmCFT m (Int32.ofNat i) (Int32.ofNat j) (Int32.ofNat n) fmt hfmt)
  have s1 : ∀ t_, Steps p.tables e below (s₁.setTop (mkF m 23 #[.val (.int (Int32.ofNat i)), .val (.int (Int32.ofNat j)), .val (.int (Int32.ofNat n)), .val fmt] [(.int (Int32.ofNat i))])) t_ → Steps _ _ _ _ t_ := fun t_ k_ => pre0 t_ (by
    refine XS.iloadN X0.here hx rfl (dd hy dJ41_12_0) rfl ?_
    refine XS.ifNo X0.here hx rfl (dd hy dJ41_12_1) rfl ((if0 _ _).trans (flt (own_nn (by omega))).1) ?_
    show Steps _ _ _ (s₁.setTop (mkF m 4 #[.val (.int (Int32.ofNat i)), .val (.int (Int32.ofNat j)), .val (.int (Int32.ofNat n)), .val fmt] [])) _
    refine XS.iloadN X0.here hx rfl (dd hy dJ41_12_4) rfl ?_
    refine XS.iloadN X0.here hx rfl (dd hy dJ41_12_5) rfl ?_
    refine XS.icmpNo X0.here hx rfl (dd hy dJ41_12_6) rfl (flt (own_nlt (by omega) (by omega))).2.2.1 ?_
    show Steps _ _ _ (s₁.setTop (mkF m 9 #[.val (.int (Int32.ofNat i)), .val (.int (Int32.ofNat j)), .val (.int (Int32.ofNat n)), .val fmt] [])) _
    refine XS.iloadN X0.here hx rfl (dd hy dJ41_12_9) rfl ?_
    refine XS.iloadN X0.here hx rfl (dd hy dJ41_12_10) rfl ?_
    refine XS.icmpYes X0.here hx rfl (pc0 := 11) (pc' := 22) rfl (dd hy dJ41_12_11) rfl (flt (own_nlt (by omega) (by omega))).2.2.2 (by decide) (by decide) ?_
    show Steps _ _ _ (s₁.setTop (mkF m 22 #[.val (.int (Int32.ofNat i)), .val (.int (Int32.ofNat j)), .val (.int (Int32.ofNat n)), .val fmt] [])) _
    refine XS.iloadN X0.here hx rfl (dd hy dJ41_12_22) rfl ?_
    exact k_)
  obtain ⟨fs, hr, hrun, hended, hW, hsame⟩ := X0.leave (v := some (.int (Int32.ofNat i))) (fun h => by rw [Bd.returns] at h; cases h)
  refine ⟨_, _, s1 _ ?_, hrun, hended, _, _, rfl, ?_, ⟨_, rfl⟩, hW, hsame.mono (by decide) (by decide)⟩
  · exact retI X0 hx Bd.returns (dd hy dJ41_12_23) hr
  · show Q_rmCFT Z _ _ _ _ h0 n0 _ s₁.heap _
    rw [e0]
    exact ⟨rfl, N0, rfl⟩
theorem dJ42_158_0 : decode CJ42_158 0 = .ok (.iload_n 0, 1) := by decide +kernel
theorem dJ42_158_1 : decode CJ42_158 1 = .ok (.iload_n 1, 1) := by decide +kernel
theorem dJ42_158_2 : decode CJ42_158 2 = .ok (.iload_n 2, 1) := by decide +kernel
theorem dJ42_158_3 : decode CJ42_158 3 = .ok (.getstatic 1053, 3) := by decide +kernel
theorem pd__IIILjava_util_function_BiFunction__I : parseMethodDescriptor "(IIILjava/util/function/BiFunction;)I" = some ⟨[.int, .int, .int, (.object "java/util/function/BiFunction")], some .int⟩ := by decide +kernel
theorem dJ42_158_6 : decode CJ42_158 6 = .ok (.invokestatic 1062, 3) := by decide +kernel
theorem dJ42_158_9 : decode CJ42_158 9 = .ok (.pop, 1) := by decide +kernel
theorem dJ42_158_10 : decode CJ42_158 10 = .ok (.return_, 1) := by decide +kernel
theorem ef_rmCBE (m : MethodId) (x0 : Int32) (x1 : Int32) (x2 : Int32) : entryFrame m #[(.int x0), (.int x1), (.int x2)] 3 = mkF m 0 #[.val (.int x0), .val (.int x1), .val (.int x2)] [] := by first | (simp [entryFrame, mkF, argsToLocals, Value.category]; done) | rfl
abbrev R_rmCBE : Room := ({ frames := 1, cells := 0, slots := 0, locals := 15 } : Room)
def Q_rmCBE (Z : State) (i : Nat) (j : Nat) (n : Nat) (fmt : Value) (h0 : Heap) (n0 : Nat) (v : Option Value) (h : Heap) (L : List Loc) : Prop := (v = none) ∧ (Fr n0 L) ∧ (h = h0)
set_option maxRecDepth 65536 in
set_option maxHeartbeats 40000000 in
theorem rmCBE (l : Launch) (Z : State) (a0 : Array Value) (hw : HW Z a0) (ws : List Jvm.Cond) (i : Nat) (j : Nat) (n : Nat) (fmt : Value) (h0 : Heap) (n0 : Nat) (Z0 : n0 ≤ h0.size) (hfmt : fmt.isRef = true) (I1 : Sta Z Z.heap cP cG cF fmt) (OX : Old Z n0 h0) (hij : i ≤ j) (hjn : j ≤ n) (hn : n ≤ 8000) :
    MF l Z M22_ (Jvm.Cond.code M22_ jdk_42_method_158_code 3 none :: ws) R_rmCBE #[(.int (Int32.ofNat i)), (.int (Int32.ofNat j)), (.int (Int32.ofNat n))] h0 (Q_rmCBE Z i j n fmt h0 n0) := by
  refine MetFree.of_bodySF (plainFor_of_name pn_java_lang_String) hisR ?_
  intro p e s m args below meth c s₁ Bd hml0 hP hK
  obtain ⟨rfl, hZ, hh⟩ := hP
  have hx := Bd.exec
  have hy := Bd.bytes
  have hml : c.maxLocals = 3 := hml0
  have hown : s.vm.findClass "java/lang/String" = some m.cls := findClass_of_methodNamed Bd.named
  have hnm := (name_of_methodNamed Bd.named Bd.method).1
  have X0 : Stand p l e R_rmCBE s m #[(.int (Int32.ofNat i)), (.int (Int32.ofNat j)), (.int (Int32.ofNat n))] below meth c s₁ [] 0 0 := Stand.of_body Bd
  have e0 : s₁.heap = h0 := by rw [← hh, Bd.state]; rfl
  have N0 := Fr.nil n0
  have pre0 := own_pre (p := p) (e := e) (below := below) (T := s₁) (ef_rmCBE m (Int32.ofNat i) (Int32.ofNat j) (Int32.ofNat n))
  obtain ⟨T1, X1, e1, st1⟩ := getS2 X0 hx hZ hown (host := "") (Or.inl (own_m hw 78 rfl)) Via.refl e0 (I1.ext OX.2) (g := (mkF m 3 #[.val (.int (Int32.ofNat i)), .val (.int (Int32.ofNat j)), .val (.int (Int32.ofNat n))] [(.int (Int32.ofNat n)), (.int (Int32.ofNat j)), (.int (Int32.ofNat i))])) rfl (dd hy dJ42_158_3)
  have Zc2 : n0 ≤ h0.size := by omega
  obtain ⟨_, _, ⟨T3, L3, k3, n3⟩, -, X3, ⟨Lc3, hQ3, l3, y3, z3⟩, st3⟩ := Jvm.LawKit.callS X1 hx (y := M21_) hown (mvT hZ (own_m hw 80 rfl)) (mvT hZ (own_m hw 81 rfl)) (mvT hZ (own_m hw 79 rfl)) (mvT hZ (own_m hw 82 rfl)) (by decide) (backOf (W := 0) (rmCFT l Z a0 hw [] fmt i j n h0 n0 Zc2 hfmt hij hjn hn) hZ (own_m hw 82 rfl) (own_m hw 79 rfl) (by decide) (by decide)) (g := (mkF m 6 #[.val (.int (Int32.ofNat i)), .val (.int (Int32.ofNat j)), .val (.int (Int32.ofNat n))] [fmt, (.int (Int32.ofNat n)), (.int (Int32.ofNat j)), (.int (Int32.ofNat i))])) rfl (by rw [hml]; rfl) (argsL := [(.int (Int32.ofNat i)), (.int (Int32.ofNat j)), (.int (Int32.ofNat n)), fmt]) (rest := []) (lenOf pd__IIILjava_util_function_BiFunction__I rfl) rfl (by show 2 * 0 + _ ≤ _; exact Nat.le_of_eq rfl) (dd hy dJ42_158_6) (fun _ _ => ⟨rfl, e1, (by decide : 0 + 0 ≤ _), (by decide : 0 + 0 ≤ _)⟩)
  dsimp only [Pt.U, Pt.locs, Pt.cells, Pt.slots] at X3 l3 y3 z3 st3 hQ3
  subst l3 y3 z3
  obtain ⟨rfl, N3q, e3⟩ := hQ3
  have N3 := Fr.app N0 N3q
  have s4 : ∀ t_, Steps p.tables e below (T3.setTop (mkF m 10 #[.val (.int (Int32.ofNat i)), .val (.int (Int32.ofNat j)), .val (.int (Int32.ofNat n))] [])) t_ → Steps _ _ _ _ t_ := fun t_ k_ => pre0 t_ (by
    refine XS.iloadN X0.here hx rfl (dd hy dJ42_158_0) rfl ?_
    refine XS.iloadN X0.here hx rfl (dd hy dJ42_158_1) rfl ?_
    refine XS.iloadN X0.here hx rfl (dd hy dJ42_158_2) rfl ?_
    refine st1 _ ?_
    refine st3 _ ?_
    show Steps _ _ _ (T3.setTop (mkF m 9 #[.val (.int (Int32.ofNat i)), .val (.int (Int32.ofNat j)), .val (.int (Int32.ofNat n))] [(.int (Int32.ofNat i))])) _
    refine XS.pop X3.here hx rfl (dd hy dJ42_158_9) rfl rfl ?_
    exact k_)
  obtain ⟨fs, hr, hrun, hended, hW, hsame⟩ := X3.leave (v := none) (fun _ => rfl)
  refine ⟨_, _, s4 _ ?_, hrun, hended, _, _, rfl, ?_, ⟨_, rfl⟩, hW, hsame.mono (by decide) (by decide)⟩
  · exact X3.returnOut hx Bd.returns (dd hy dJ42_158_10) hr
  · show Q_rmCBE Z _ _ _ _ h0 n0 _ T3.heap _
    rw [e3]
    exact ⟨rfl, N3, rfl⟩
theorem dJ41_13_0 : decode CJ41_13 0 = .ok (.iload_n 2, 1) := by decide +kernel
theorem dJ41_13_1 : decode CJ41_13 1 = .ok (.iload_n 0, 1) := by decide +kernel
theorem dJ41_13_2 : decode CJ41_13 2 = .ok (.ior, 1) := by decide +kernel
theorem dJ41_13_3 : decode CJ41_13 3 = .ok (.iload_n 1, 1) := by decide +kernel
theorem dJ41_13_4 : decode CJ41_13 4 = .ok (.ior, 1) := by decide +kernel
theorem dJ41_13_5 : decode CJ41_13 5 = .ok (.ifCond .lt 10, 3) := by decide +kernel
theorem dJ41_13_8 : decode CJ41_13 8 = .ok (.iload_n 1, 1) := by decide +kernel
theorem dJ41_13_9 : decode CJ41_13 9 = .ok (.iload_n 2, 1) := by decide +kernel
theorem dJ41_13_10 : decode CJ41_13 10 = .ok (.iload_n 0, 1) := by decide +kernel
theorem dJ41_13_11 : decode CJ41_13 11 = .ok (.isub, 1) := by decide +kernel
theorem dJ41_13_12 : decode CJ41_13 12 = .ok (.if_icmp .le 11, 3) := by decide +kernel
theorem dJ41_13_23 : decode CJ41_13 23 = .ok (.iload_n 0, 1) := by decide +kernel
theorem dJ41_13_24 : decode CJ41_13 24 = .ok (.ireturn, 1) := by decide +kernel
theorem ef_rmCFS (m : MethodId) (x0 : Int32) (x1 : Int32) (x2 : Int32) (x3 : Value) (hr_x3 : x3.isRef = true) : entryFrame m #[(.int x0), (.int x1), (.int x2), x3] 4 = mkF m 0 #[.val (.int x0), .val (.int x1), .val (.int x2), .val x3] [] := by first | (simp [entryFrame, mkF, argsToLocals, Value.category]; done) | rfl | (cases x3 <;> simp [Value.isRef] at hr_x3 <;> rfl)
abbrev R_rmCFS : Room := ({ frames := 0, cells := 0, slots := 0, locals := 0 } : Room)
def Q_rmCFS (Z : State) (fmt : Value) (i : Nat) (s_ : Nat) (n : Nat) (h0 : Heap) (n0 : Nat) (v : Option Value) (h : Heap) (L : List Loc) : Prop := (v = some (.int (Int32.ofNat i))) ∧ (Fr n0 L) ∧ (h = h0)
set_option maxRecDepth 65536 in
set_option maxHeartbeats 40000000 in
theorem rmCFS (l : Launch) (Z : State) (a0 : Array Value) (hw : HW Z a0) (ws : List Jvm.Cond) (fmt : Value) (i : Nat) (s_ : Nat) (n : Nat) (h0 : Heap) (n0 : Nat) (Z0 : n0 ≤ h0.size) (hfmt : fmt.isRef = true) (his : i + s_ ≤ n) (hn : n ≤ 4000) :
    MF l Z M23_ (Jvm.Cond.code M23_ jdk_41_method_13_code 4 (some .int) :: ws) R_rmCFS #[(.int (Int32.ofNat i)), (.int (Int32.ofNat s_)), (.int (Int32.ofNat n)), fmt] h0 (Q_rmCFS Z fmt i s_ n h0 n0) := by
  refine MetFree.of_bodySF (plainFor_of_name pn_jdk_internal_util_Preconditions) hisR ?_
  intro p e s m args below meth c s₁ Bd hml0 hP hK
  obtain ⟨rfl, hZ, hh⟩ := hP
  have hx := Bd.exec
  have hy := Bd.bytes
  have hml : c.maxLocals = 4 := hml0
  have hown : s.vm.findClass "jdk/internal/util/Preconditions" = some m.cls := findClass_of_methodNamed Bd.named
  have hnm := (name_of_methodNamed Bd.named Bd.method).1
  have X0 : Stand p l e R_rmCFS s m #[(.int (Int32.ofNat i)), (.int (Int32.ofNat s_)), (.int (Int32.ofNat n)), fmt] below meth c s₁ [] 0 0 := Stand.of_body Bd
  have e0 : s₁.heap = h0 := by rw [← hh, Bd.state]; rfl
  have N0 := Fr.nil n0
  have pre0 := own_pre (p := p) (e := e) (below := below) (T := s₁) (ef_rmCFS m (Int32.ofNat i) (Int32.ofNat s_) (Int32.ofNat n) fmt hfmt)
  have s1 : ∀ t_, Steps p.tables e below (s₁.setTop (mkF m 24 #[.val (.int (Int32.ofNat i)), .val (.int (Int32.ofNat s_)), .val (.int (Int32.ofNat n)), .val fmt] [(.int (Int32.ofNat i))])) t_ → Steps _ _ _ _ t_ := fun t_ k_ => pre0 t_ (by
    refine XS.iloadN X0.here hx rfl (dd hy dJ41_13_0) rfl ?_
    refine XS.iloadN X0.here hx rfl (dd hy dJ41_13_1) rfl ?_
    refine XS.ior X0.here hx rfl (dd hy dJ41_13_2) rfl ?_
    refine XS.iloadN X0.here hx rfl (dd hy dJ41_13_3) rfl ?_
    refine XS.ior X0.here hx rfl (dd hy dJ41_13_4) rfl ?_
    refine XS.ifNo X0.here hx rfl (dd hy dJ41_13_5) rfl ((if0 _ _).trans (flt (own_ornn (by omega) (by omega) (by omega))).1) ?_
    show Steps _ _ _ (s₁.setTop (mkF m 8 #[.val (.int (Int32.ofNat i)), .val (.int (Int32.ofNat s_)), .val (.int (Int32.ofNat n)), .val fmt] [])) _
    refine XS.iloadN X0.here hx rfl (dd hy dJ41_13_8) rfl ?_
    refine XS.iloadN X0.here hx rfl (dd hy dJ41_13_9) rfl ?_
    refine XS.iloadN X0.here hx rfl (dd hy dJ41_13_10) rfl ?_
    refine XS.isub X0.here hx rfl (dd hy dJ41_13_11) rfl ?_
    show Steps _ _ _ (s₁.setTop (mkF m 12 #[.val (.int (Int32.ofNat i)), .val (.int (Int32.ofNat s_)), .val (.int (Int32.ofNat n)), .val fmt] [(.int ((Int32.ofNat n) - (Int32.ofNat i))), (.int (Int32.ofNat s_))])) _
    refine castTop (g' := (mkF m 12 #[.val (.int (Int32.ofNat i)), .val (.int (Int32.ofNat s_)), .val (.int (Int32.ofNat n)), .val fmt] [(.int (Int32.ofNat (n - i))), (.int (Int32.ofNat s_))])) (by rw [own_subn (by omega)]) ?_
    show Steps _ _ _ (s₁.setTop (mkF m 12 #[.val (.int (Int32.ofNat i)), .val (.int (Int32.ofNat s_)), .val (.int (Int32.ofNat n)), .val fmt] [(.int (Int32.ofNat (n - i))), (.int (Int32.ofNat s_))])) _
    refine XS.icmpYes X0.here hx rfl (pc0 := 12) (pc' := 23) rfl (dd hy dJ41_13_12) rfl (flt (own_nlt (by omega) (by omega))).2.2.2 (by decide) (by decide) ?_
    show Steps _ _ _ (s₁.setTop (mkF m 23 #[.val (.int (Int32.ofNat i)), .val (.int (Int32.ofNat s_)), .val (.int (Int32.ofNat n)), .val fmt] [])) _
    refine XS.iloadN X0.here hx rfl (dd hy dJ41_13_23) rfl ?_
    exact k_)
  obtain ⟨fs, hr, hrun, hended, hW, hsame⟩ := X0.leave (v := some (.int (Int32.ofNat i))) (fun h => by rw [Bd.returns] at h; cases h)
  refine ⟨_, _, s1 _ ?_, hrun, hended, _, _, rfl, ?_, ⟨_, rfl⟩, hW, hsame.mono (by decide) (by decide)⟩
  · exact retI X0 hx Bd.returns (dd hy dJ41_13_24) hr
  · show Q_rmCFS Z _ _ _ _ h0 n0 _ s₁.heap _
    rw [e0]
    exact ⟨rfl, N0, rfl⟩
theorem dJ42_157_0 : decode CJ42_157 0 = .ok (.iload_n 0, 1) := by decide +kernel
theorem dJ42_157_1 : decode CJ42_157 1 = .ok (.iload_n 1, 1) := by decide +kernel
theorem dJ42_157_2 : decode CJ42_157 2 = .ok (.iload_n 2, 1) := by decide +kernel
theorem dJ42_157_3 : decode CJ42_157 3 = .ok (.getstatic 1053, 3) := by decide +kernel
theorem dJ42_157_6 : decode CJ42_157 6 = .ok (.invokestatic 1065, 3) := by decide +kernel
theorem dJ42_157_9 : decode CJ42_157 9 = .ok (.ireturn, 1) := by decide +kernel
theorem ef_rmSCO (m : MethodId) (x0 : Int32) (x1 : Int32) (x2 : Int32) : entryFrame m #[(.int x0), (.int x1), (.int x2)] 3 = mkF m 0 #[.val (.int x0), .val (.int x1), .val (.int x2)] [] := by first | (simp [entryFrame, mkF, argsToLocals, Value.category]; done) | rfl
abbrev R_rmSCO : Room := ({ frames := 1, cells := 0, slots := 0, locals := 15 } : Room)
def Q_rmSCO (Z : State) (i : Nat) (s_ : Nat) (n : Nat) (fmt : Value) (h0 : Heap) (n0 : Nat) (v : Option Value) (h : Heap) (L : List Loc) : Prop := (v = some (.int (Int32.ofNat i))) ∧ (Fr n0 L) ∧ (h = h0)
set_option maxRecDepth 65536 in
set_option maxHeartbeats 40000000 in
theorem rmSCO (l : Launch) (Z : State) (a0 : Array Value) (hw : HW Z a0) (ws : List Jvm.Cond) (i : Nat) (s_ : Nat) (n : Nat) (fmt : Value) (h0 : Heap) (n0 : Nat) (Z0 : n0 ≤ h0.size) (hfmt : fmt.isRef = true) (I1 : Sta Z Z.heap cP cG cF fmt) (OX : Old Z n0 h0) (his : i + s_ ≤ n) (hn : n ≤ 4000) :
    MF l Z M24_ (Jvm.Cond.code M24_ jdk_42_method_157_code 3 (some .int) :: ws) R_rmSCO #[(.int (Int32.ofNat i)), (.int (Int32.ofNat s_)), (.int (Int32.ofNat n))] h0 (Q_rmSCO Z i s_ n fmt h0 n0) := by
  refine MetFree.of_bodySF (plainFor_of_name pn_java_lang_String) hisR ?_
  intro p e s m args below meth c s₁ Bd hml0 hP hK
  obtain ⟨rfl, hZ, hh⟩ := hP
  have hx := Bd.exec
  have hy := Bd.bytes
  have hml : c.maxLocals = 3 := hml0
  have hown : s.vm.findClass "java/lang/String" = some m.cls := findClass_of_methodNamed Bd.named
  have hnm := (name_of_methodNamed Bd.named Bd.method).1
  have X0 : Stand p l e R_rmSCO s m #[(.int (Int32.ofNat i)), (.int (Int32.ofNat s_)), (.int (Int32.ofNat n))] below meth c s₁ [] 0 0 := Stand.of_body Bd
  have e0 : s₁.heap = h0 := by rw [← hh, Bd.state]; rfl
  have N0 := Fr.nil n0
  have pre0 := own_pre (p := p) (e := e) (below := below) (T := s₁) (ef_rmSCO m (Int32.ofNat i) (Int32.ofNat s_) (Int32.ofNat n))
  obtain ⟨T1, X1, e1, st1⟩ := getS2 X0 hx hZ hown (host := "") (Or.inl (own_m hw 78 rfl)) Via.refl e0 (I1.ext OX.2) (g := (mkF m 3 #[.val (.int (Int32.ofNat i)), .val (.int (Int32.ofNat s_)), .val (.int (Int32.ofNat n))] [(.int (Int32.ofNat n)), (.int (Int32.ofNat s_)), (.int (Int32.ofNat i))])) rfl (dd hy dJ42_157_3)
  have Zc2 : n0 ≤ h0.size := by omega
  obtain ⟨_, _, ⟨T3, L3, k3, n3⟩, -, X3, ⟨Lc3, hQ3, l3, y3, z3⟩, st3⟩ := Jvm.LawKit.callS X1 hx (y := M23_) hown (mvT hZ (own_m hw 229 rfl)) (mvT hZ (own_m hw 230 rfl)) (mvT hZ (own_m hw 79 rfl)) (mvT hZ (own_m hw 231 rfl)) (by decide) (backOf (W := 0) (rmCFS l Z a0 hw [] fmt i s_ n h0 n0 Zc2 hfmt his hn) hZ (own_m hw 231 rfl) (own_m hw 79 rfl) (by decide) (by decide)) (g := (mkF m 6 #[.val (.int (Int32.ofNat i)), .val (.int (Int32.ofNat s_)), .val (.int (Int32.ofNat n))] [fmt, (.int (Int32.ofNat n)), (.int (Int32.ofNat s_)), (.int (Int32.ofNat i))])) rfl (by rw [hml]; rfl) (argsL := [(.int (Int32.ofNat i)), (.int (Int32.ofNat s_)), (.int (Int32.ofNat n)), fmt]) (rest := []) (lenOf pd__IIILjava_util_function_BiFunction__I rfl) rfl (by show 2 * 0 + _ ≤ _; exact Nat.le_of_eq rfl) (dd hy dJ42_157_6) (fun _ _ => ⟨rfl, e1, (by decide : 0 + 0 ≤ _), (by decide : 0 + 0 ≤ _)⟩)
  dsimp only [Pt.U, Pt.locs, Pt.cells, Pt.slots] at X3 l3 y3 z3 st3 hQ3
  subst l3 y3 z3
  obtain ⟨rfl, N3q, e3⟩ := hQ3
  have N3 := Fr.app N0 N3q
  have s4 : ∀ t_, Steps p.tables e below (T3.setTop (mkF m 9 #[.val (.int (Int32.ofNat i)), .val (.int (Int32.ofNat s_)), .val (.int (Int32.ofNat n))] [(.int (Int32.ofNat i))])) t_ → Steps _ _ _ _ t_ := fun t_ k_ => pre0 t_ (by
    refine XS.iloadN X0.here hx rfl (dd hy dJ42_157_0) rfl ?_
    refine XS.iloadN X0.here hx rfl (dd hy dJ42_157_1) rfl ?_
    refine XS.iloadN X0.here hx rfl (dd hy dJ42_157_2) rfl ?_
    refine st1 _ ?_
    refine st3 _ ?_
    show Steps _ _ _ (T3.setTop (mkF m 9 #[.val (.int (Int32.ofNat i)), .val (.int (Int32.ofNat s_)), .val (.int (Int32.ofNat n))] [(.int (Int32.ofNat i))])) _
    exact k_)
  obtain ⟨fs, hr, hrun, hended, hW, hsame⟩ := X3.leave (v := some (.int (Int32.ofNat i))) (fun h => by rw [Bd.returns] at h; cases h)
  refine ⟨_, _, s4 _ ?_, hrun, hended, _, _, rfl, ?_, ⟨_, rfl⟩, hW, hsame.mono (by decide) (by decide)⟩
  · exact retI X3 hx Bd.returns (dd hy dJ42_157_9) hr
  · show Q_rmSCO Z _ _ _ _ h0 n0 _ T3.heap _
    rw [e3]
    exact ⟨rfl, N3, rfl⟩
theorem dJ52_6_0 : decode CJ52_6 0 = .ok (.aload_n 0, 1) := by decide +kernel
theorem dJ52_6_1 : decode CJ52_6 1 = .ok (.arraylength, 1) := by decide +kernel
theorem dJ52_6_2 : decode CJ52_6 2 = .ok (.iconst 1, 1) := by decide +kernel
theorem dJ52_6_3 : decode CJ52_6 3 = .ok (.ishr, 1) := by decide +kernel
theorem dJ52_6_4 : decode CJ52_6 4 = .ok (.ireturn, 1) := by decide +kernel
theorem ef_rmULn (m : MethodId) (x0 : Addr) : entryFrame m #[(.ref x0)] 1 = mkF m 0 #[.val (.ref x0)] [] := by first | (simp [entryFrame, mkF, argsToLocals, Value.category]; done) | rfl
abbrev R_rmULn : Room := ({ frames := 0, cells := 0, slots := 0, locals := 0 } : Room)
def Q_rmULn (Z : State) (b : Addr) (kb : ClassId) (vs : List Value) (n : Nat) (h0 : Heap) (n0 : Nat) (v : Option Value) (h : Heap) (L : List Loc) : Prop := (v = some (.int (Int32.ofNat n))) ∧ (Fr n0 L) ∧ (h = h0)
set_option maxRecDepth 65536 in
set_option maxHeartbeats 40000000 in
theorem rmULn (l : Launch) (Z : State) (a0 : Array Value) (hw : HW Z a0) (ws : List Jvm.Cond) (b : Addr) (kb : ClassId) (vs : List Value) (n : Nat) (h0 : Heap) (n0 : Nat) (Z0 : n0 ≤ h0.size) (I1 : Arv Z h0 b kb .byte (Int32.ofNat (2 * n)) vs v0_) (hn : n ≤ 4000) :
    MF l Z M25_ (Jvm.Cond.code M25_ jdk_52_method_6_code 1 (some .int) :: ws) R_rmULn #[(.ref b)] h0 (Q_rmULn Z b kb vs n h0 n0) := by
  refine MetFree.of_bodySF (plainFor_of_name pn_java_lang_StringUTF16) hisR ?_
  intro p e s m args below meth c s₁ Bd hml0 hP hK
  obtain ⟨rfl, hZ, hh⟩ := hP
  have hx := Bd.exec
  have hy := Bd.bytes
  have hml : c.maxLocals = 1 := hml0
  have hown : s.vm.findClass "java/lang/StringUTF16" = some m.cls := findClass_of_methodNamed Bd.named
  have hnm := (name_of_methodNamed Bd.named Bd.method).1
  have X0 : Stand p l e R_rmULn s m #[(.ref b)] below meth c s₁ [] 0 0 := Stand.of_body Bd
  have e0 : s₁.heap = h0 := by rw [← hh, Bd.state]; rfl
  have N0 := Fr.nil n0
  have pre0 := own_pre (p := p) (e := e) (below := below) (T := s₁) (ef_rmULn m b)
  have lt_I1 : @LT.lt Nat _ b h0.size := I1.lt
  obtain ⟨cl1, Ar1, -, S1, M1, -, -⟩ := id I1
  have s2 : ∀ t_, Steps p.tables e below (s₁.setTop (mkF m 4 #[.val (.ref b)] [(.int ((Int32.ofNat (2 * n)) >>> ((1 : Int32) &&& 31)))])) t_ → Steps _ _ _ _ t_ := fun t_ k_ => pre0 t_ (by
    refine XS.aloadN X0.here hx rfl (dd hy dJ52_6_0) rfl rfl ?_
    refine X0.arraylength hx (by rw [e0]; exact Ar1.1) (State.isArrayOf_alike hZ.alike Ar1.2.1) (g := (mkF m 1 #[.val (.ref b)] [(.ref b)])) rfl rfl (dd hy dJ52_6_1) _ ?_
    rw [len_of S1 M1]
    show Steps _ _ _ (s₁.setTop (mkF m 2 #[.val (.ref b)] [(.int (Int32.ofNat (2 * n)))])) _
    refine XS.iconst X0.here hx rfl (dd hy dJ52_6_2) ?_
    refine XS.ishr X0.here hx rfl (dd hy dJ52_6_3) rfl ?_
    exact k_)
  obtain ⟨fs, hr, hrun, hended, hW, hsame⟩ := X0.leave (v := some (.int ((Int32.ofNat (2 * n)) >>> ((1 : Int32) &&& 31)))) (fun h => by rw [Bd.returns] at h; cases h)
  refine ⟨_, _, s2 _ ?_, hrun, hended, _, _, rfl, ?_, ⟨_, rfl⟩, hW, hsame.mono (by decide) (by decide)⟩
  · exact retI X0 hx Bd.returns (dd hy dJ52_6_4) hr
  · show Q_rmULn Z _ _ _ _ h0 n0 _ s₁.heap _
    rw [e0]
    exact ⟨(by rw [own_shr1 (by omega)]), N0, rfl⟩
theorem dJ52_94_0 : decode CJ52_94 0 = .ok (.iload_n 0, 1) := by decide +kernel
theorem dJ52_94_1 : decode CJ52_94 1 = .ok (.iload_n 1, 1) := by decide +kernel
theorem dJ52_94_2 : decode CJ52_94 2 = .ok (.aload_n 2, 1) := by decide +kernel
theorem pd___B_I : parseMethodDescriptor "([B)I" = some ⟨[(.array .byte)], some .int⟩ := by decide +kernel
theorem dJ52_94_3 : decode CJ52_94 3 = .ok (.invokestatic 48, 3) := by decide +kernel
theorem pd__III_I : parseMethodDescriptor "(III)I" = some ⟨[.int, .int, .int], some .int⟩ := by decide +kernel
theorem dJ52_94_6 : decode CJ52_94 6 = .ok (.invokestatic 419, 3) := by decide +kernel
theorem dJ52_94_9 : decode CJ52_94 9 = .ok (.pop, 1) := by decide +kernel
theorem dJ52_94_10 : decode CJ52_94 10 = .ok (.return_, 1) := by decide +kernel
theorem ef_rmCBO (m : MethodId) (x0 : Int32) (x1 : Int32) (x2 : Addr) : entryFrame m #[(.int x0), (.int x1), (.ref x2)] 3 = mkF m 0 #[.val (.int x0), .val (.int x1), .val (.ref x2)] [] := by first | (simp [entryFrame, mkF, argsToLocals, Value.category]; done) | rfl
abbrev R_rmCBO : Room := ({ frames := 2, cells := 0, slots := 0, locals := 29 } : Room)
def Q_rmCBO (Z : State) (b : Addr) (i : Nat) (s_ : Nat) (n : Nat) (kb : ClassId) (vs : List Value) (fmt : Value) (h0 : Heap) (n0 : Nat) (v : Option Value) (h : Heap) (L : List Loc) : Prop := (v = none) ∧ (Fr n0 L) ∧ (h = h0)
set_option maxRecDepth 65536 in
set_option maxHeartbeats 40000000 in
theorem rmCBO (l : Launch) (Z : State) (a0 : Array Value) (hw : HW Z a0) (ws : List Jvm.Cond) (b : Addr) (i : Nat) (s_ : Nat) (n : Nat) (kb : ClassId) (vs : List Value) (fmt : Value) (h0 : Heap) (n0 : Nat) (Z0 : n0 ≤ h0.size) (hfmt : fmt.isRef = true) (I1 : Sta Z Z.heap cP cG cF fmt) (OX : Old Z n0 h0) (I2 : Arv Z h0 b kb .byte (Int32.ofNat (2 * n)) vs v0_) (his : i + s_ ≤ n) (hn : n ≤ 4000) :
    MF l Z M26_ (Jvm.Cond.code M26_ jdk_52_method_94_code 3 none :: ws) R_rmCBO #[(.int (Int32.ofNat i)), (.int (Int32.ofNat s_)), (.ref b)] h0 (Q_rmCBO Z b i s_ n kb vs fmt h0 n0) := by
  refine MetFree.of_bodySF (plainFor_of_name pn_java_lang_StringUTF16) hisR ?_
  intro p e s m args below meth c s₁ Bd hml0 hP hK
  obtain ⟨rfl, hZ, hh⟩ := hP
  have hx := Bd.exec
  have hy := Bd.bytes
  have hml : c.maxLocals = 3 := hml0
  have hown : s.vm.findClass "java/lang/StringUTF16" = some m.cls := findClass_of_methodNamed Bd.named
  have hnm := (name_of_methodNamed Bd.named Bd.method).1
  have X0 : Stand p l e R_rmCBO s m #[(.int (Int32.ofNat i)), (.int (Int32.ofNat s_)), (.ref b)] below meth c s₁ [] 0 0 := Stand.of_body Bd
  have e0 : s₁.heap = h0 := by rw [← hh, Bd.state]; rfl
  have N0 := Fr.nil n0
  have pre0 := own_pre (p := p) (e := e) (below := below) (T := s₁) (ef_rmCBO m (Int32.ofNat i) (Int32.ofNat s_) b)
  have lt_I2 : @LT.lt Nat _ b h0.size := I2.lt
  have Zc1 : n0 ≤ h0.size := by omega
  obtain ⟨_, _, ⟨T2, L2, k2, n2⟩, -, X2, ⟨Lc2, hQ2, l2, y2, z2⟩, st2⟩ := Jvm.LawKit.callS X0 hx (y := M25_) hown (mvT hZ (own_m hw 223 rfl)) (mvT hZ (own_m hw 224 rfl)) (mvT hZ (own_m hw 21 rfl)) (mvT hZ (own_m hw 225 rfl)) (by decide) (backOf (W := 2) (rmULn l Z a0 hw [] b kb vs n h0 n0 Zc1 I2 hn) hZ (own_m hw 225 rfl) (own_m hw 21 rfl) (by decide) (by decide)) (g := (mkF m 3 #[.val (.int (Int32.ofNat i)), .val (.int (Int32.ofNat s_)), .val (.ref b)] [(.ref b), (.int (Int32.ofNat s_)), (.int (Int32.ofNat i))])) rfl (by rw [hml]; rfl) (argsL := [(.ref b)]) (rest := [(.int (Int32.ofNat s_)), (.int (Int32.ofNat i))]) (lenOf pd___B_I rfl) rfl (by show 2 * 0 + _ ≤ _; exact Nat.le_of_eq rfl) (dd hy dJ52_94_3) (fun _ _ => ⟨rfl, e0, (by decide : 0 + 0 ≤ _), (by decide : 0 + 0 ≤ _)⟩)
  dsimp only [Pt.U, Pt.locs, Pt.cells, Pt.slots] at X2 l2 y2 z2 st2 hQ2
  subst l2 y2 z2
  obtain ⟨rfl, N2q, e2⟩ := hQ2
  have N2 := Fr.app N0 N2q
  have Zc3 : n0 ≤ h0.size := by omega
  obtain ⟨_, _, ⟨T4, L4, k4, n4⟩, -, X4, ⟨Lc4, hQ4, l4, y4, z4⟩, st4⟩ := Jvm.LawKit.callS X2 hx (y := M24_) hown (mvT hZ (own_m hw 226 rfl)) (mvT hZ (own_m hw 227 rfl)) (mvT hZ (own_m hw 7 rfl)) (mvT hZ (own_m hw 228 rfl)) (by decide) (backOf (W := 0) (rmSCO l Z a0 hw [] i s_ n fmt h0 n0 Zc3 hfmt I1 OX his hn) hZ (own_m hw 228 rfl) (own_m hw 7 rfl) (by decide) (by decide)) (g := (mkF m 6 #[.val (.int (Int32.ofNat i)), .val (.int (Int32.ofNat s_)), .val (.ref b)] [(.int (Int32.ofNat n)), (.int (Int32.ofNat s_)), (.int (Int32.ofNat i))])) rfl (by rw [hml]; rfl) (argsL := [(.int (Int32.ofNat i)), (.int (Int32.ofNat s_)), (.int (Int32.ofNat n))]) (rest := []) (lenOf pd__III_I rfl) rfl (by show 2 * 0 + _ ≤ _; exact Nat.le_of_eq rfl) (dd hy dJ52_94_6) (fun _ _ => ⟨rfl, e2, (by decide : 0 + 0 ≤ _), (by decide : 0 + 0 ≤ _)⟩)
  dsimp only [Pt.U, Pt.locs, Pt.cells, Pt.slots] at X4 l4 y4 z4 st4 hQ4
  subst l4 y4 z4
  obtain ⟨rfl, N4q, e4⟩ := hQ4
  have N4 := Fr.app N2 N4q
  have s5 : ∀ t_, Steps p.tables e below (T4.setTop (mkF m 10 #[.val (.int (Int32.ofNat i)), .val (.int (Int32.ofNat s_)), .val (.ref b)] [])) t_ → Steps _ _ _ _ t_ := fun t_ k_ => pre0 t_ (by
    refine XS.iloadN X0.here hx rfl (dd hy dJ52_94_0) rfl ?_
    refine XS.iloadN X0.here hx rfl (dd hy dJ52_94_1) rfl ?_
    refine XS.aloadN X0.here hx rfl (dd hy dJ52_94_2) rfl rfl ?_
    refine st2 _ ?_
    show Steps _ _ _ (T2.setTop (mkF m 6 #[.val (.int (Int32.ofNat i)), .val (.int (Int32.ofNat s_)), .val (.ref b)] [(.int (Int32.ofNat n)), (.int (Int32.ofNat s_)), (.int (Int32.ofNat i))])) _
    refine st4 _ ?_
    show Steps _ _ _ (T4.setTop (mkF m 9 #[.val (.int (Int32.ofNat i)), .val (.int (Int32.ofNat s_)), .val (.ref b)] [(.int (Int32.ofNat i))])) _
    refine XS.pop X4.here hx rfl (dd hy dJ52_94_9) rfl rfl ?_
    exact k_)
  obtain ⟨fs, hr, hrun, hended, hW, hsame⟩ := X4.leave (v := none) (fun _ => rfl)
  refine ⟨_, _, s5 _ ?_, hrun, hended, _, _, rfl, ?_, ⟨_, rfl⟩, hW, hsame.mono (by decide) (by decide)⟩
  · exact X4.returnOut hx Bd.returns (dd hy dJ52_94_10) hr
  · show Q_rmCBO Z _ _ _ _ _ _ _ h0 n0 _ T4.heap _
    rw [e4]
    exact ⟨rfl, N4, rfl⟩
theorem dJ42_92_0 : decode CJ42_92 0 = .ok (.aload_n 0, 1) := by decide +kernel
theorem pd___I : parseMethodDescriptor "()I" = some ⟨[], some .int⟩ := by decide +kernel
theorem dJ42_92_1 : decode CJ42_92 1 = .ok (.invokevirtual 505, 3) := by decide +kernel
theorem dJ42_92_4 : decode CJ42_92 4 = .ok (.istore_n 3, 1) := by decide +kernel
theorem dJ42_92_5 : decode CJ42_92 5 = .ok (.iload_n 1, 1) := by decide +kernel
theorem dJ42_92_6 : decode CJ42_92 6 = .ok (.iload_n 2, 1) := by decide +kernel
theorem dJ42_92_7 : decode CJ42_92 7 = .ok (.iload_n 3, 1) := by decide +kernel
theorem pd__III_V : parseMethodDescriptor "(III)V" = some ⟨[.int, .int, .int], none⟩ := by decide +kernel
theorem dJ42_92_8 : decode CJ42_92 8 = .ok (.invokestatic 521, 3) := by decide +kernel
theorem dJ42_92_11 : decode CJ42_92 11 = .ok (.iload_n 1, 1) := by decide +kernel
theorem dJ42_92_12 : decode CJ42_92 12 = .ok (.ifCond .ne 10, 3) := by decide +kernel
theorem dJ42_92_15 : decode CJ42_92 15 = .ok (.iload_n 2, 1) := by decide +kernel
theorem dJ42_92_16 : decode CJ42_92 16 = .ok (.iload_n 3, 1) := by decide +kernel
theorem dJ42_92_17 : decode CJ42_92 17 = .ok (.if_icmp .ne 5, 3) := by decide +kernel
theorem dJ42_92_22 : decode CJ42_92 22 = .ok (.iload_n 2, 1) := by decide +kernel
theorem dJ42_92_23 : decode CJ42_92 23 = .ok (.iload_n 1, 1) := by decide +kernel
theorem dJ42_92_24 : decode CJ42_92 24 = .ok (.isub, 1) := by decide +kernel
theorem dJ42_92_25 : decode CJ42_92 25 = .ok (.istore 4, 2) := by decide +kernel
theorem dJ42_92_27 : decode CJ42_92 27 = .ok (.aload_n 0, 1) := by decide +kernel
theorem pd___Z : parseMethodDescriptor "()Z" = some ⟨[], some .boolean⟩ := by decide +kernel
theorem dJ42_92_28 : decode CJ42_92 28 = .ok (.invokevirtual 492, 3) := by decide +kernel
theorem dJ42_92_31 : decode CJ42_92 31 = .ok (.ifCond .eq 16, 3) := by decide +kernel
theorem dJ42_92_34 : decode CJ42_92 34 = .ok (.aload_n 0, 1) := by decide +kernel
theorem dJ42_92_35 : decode CJ42_92 35 = .ok (.getfield 9, 3) := by decide +kernel
theorem dJ42_92_38 : decode CJ42_92 38 = .ok (.iload_n 1, 1) := by decide +kernel
theorem dJ42_92_39 : decode CJ42_92 39 = .ok (.iload 4, 2) := by decide +kernel
theorem pd___BII_Ljava_lang_String_ : parseMethodDescriptor "([BII)Ljava/lang/String;" = some ⟨[(.array .byte), .int, .int], some (.object "java/lang/String")⟩ := by decide +kernel
theorem dJ42_92_41 : decode CJ42_92 41 = .ok (.invokestatic 685, 3) := by decide +kernel
theorem dJ42_92_44 : decode CJ42_92 44 = .ok (.goto 13, 3) := by decide +kernel
theorem dJ42_92_57 : decode CJ42_92 57 = .ok (.areturn, 1) := by decide +kernel
theorem ef_rmSubA (m : MethodId) (x0 : Addr) (x1 : Int32) (x2 : Int32) : entryFrame m #[(.ref x0), (.int x1), (.int x2)] 5 = mkF m 0 #[.val (.ref x0), .val (.int x1), .val (.int x2), .unset, .unset] [] := by first | (simp [entryFrame, mkF, argsToLocals, Value.category]; done) | rfl
abbrev R_rmSubA : Room := ({ frames := 4, cells := 2, slots := 36, locals := 86 } : Room)
def Q_rmSubA (Z : State) (a : Addr) (cst : Int32) (b : Addr) (kb : ClassId) (cs : List Int32) (k : Nat) (fmt : Value) (h0 : Heap) (n0 : Nat) (v : Option Value) (h : Heap) (L : List Loc) : Prop := ∃ (sa : Addr), ∃ (sb : Addr), ∃ (ks : ClassId), (v = some (.ref sa)) ∧ (Fr n0 L) ∧ (Keep h0 h []) ∧ (Exa Z h sa cS) ∧ (Fld Z h sa cS "value" "[B" (.ref sb)) ∧ (Fld Z h sa cS "coder" "B" (.int (own_cod (cs.take k)))) ∧ (Arv Z h sb ks .byte (Int32.ofNat (own_enl (cs.take k))) (own_enc (cs.take k)) v0_)
set_option maxRecDepth 65536 in
set_option maxHeartbeats 40000000 in
theorem rmSubA (l : Launch) (Z : State) (a0 : Array Value) (hw : HW Z a0) (ws : List Jvm.Cond) (a : Addr) (cst : Int32) (b : Addr) (kb : ClassId) (cs : List Int32) (k : Nat) (fmt : Value) (h0 : Heap) (n0 : Nat) (Z0 : n0 ≤ h0.size) (I1 : Sta Z Z.heap cS cC "Z" (.int cst)) (hfmt : fmt.isRef = true) (I2 : Sta Z Z.heap cP cG cF fmt) (OX : Old Z n0 h0) (hcst : ¬ (cst = (0 : Int32))) (I3 : Exa Z h0 a cS) (I4 : Fld Z h0 a cS "value" "[B" (.ref b)) (I5 : Fld Z h0 a cS "coder" "B" (.int (own_cod cs))) (I6 : Arv Z h0 b kb .byte (Int32.ofNat (own_enl cs)) (own_enc cs) v0_) (hlat : own_lat cs) (hbl : cs.length ≤ 8) (hkl : k < cs.length) :
    MetFree l M27_ (head1 (Jvm.Cond.code M27_ jdk_42_method_92_code 5 (some (.object "java/lang/String")) :: ws) R_rmSubA) (fun ar_ U => ar_ = #[(.ref a), (.int (0 : Int32)), (.int (Int32.ofNat k))] ∧ Z.Warmed39 U.vm ∧ U.heap = h0 ∧ CHv Z ELs U.vm h0) (fun _ _ _ _ _ => True) (fun _ U oc_ U' => ∃ v L, oc_ = .returned v ∧ Q_rmSubA Z a cst b kb cs k fmt h0 n0 v U'.heap L ∧ CHr Z ELs U.vm U.heap U'.vm U'.heap ∧ ReturnedEndW U oc_ U' L R_rmSubA.cells R_rmSubA.slots) := by
  refine MetFree.of_bodySF (plainFor_of_name pn_java_lang_String) hisR ?_
  intro p e s m args below meth c s₁ Bd hml0 hP hK
  obtain ⟨rfl, hZ, hh, hCH⟩ := hP
  have hx := Bd.exec
  have hy := Bd.bytes
  have hml : c.maxLocals = 5 := hml0
  have hown : s.vm.findClass "java/lang/String" = some m.cls := findClass_of_methodNamed Bd.named
  have hnm := (name_of_methodNamed Bd.named Bd.method).1
  have X0 : Stand p l e R_rmSubA (s.setVm s.vm) m #[(.ref a), (.int (0 : Int32)), (.int (Int32.ofNat k))] below meth c s₁ [] 0 0 := Stand.of_body Bd
  have e0 : s₁.heap = h0 := by rw [← hh, Bd.state]; rfl
  have N0 := Fr.nil n0
  have pre0 := own_pre (p := p) (e := e) (below := below) (T := s₁) (ef_rmSubA m a (0 : Int32) (Int32.ofNat k))
  have hEL : EW Z a0 ELs := own_EW hw
  have wS : ∀ a ∈ Bundle.stringAtoms, a.before a0 Z = true := own_wS hw
  have hS : s.Since s.vm s.heap.size := (State.WarmedH.refl s).since _
  have hk : s.heap.size ≤ h0.size := by rw [hh]; exact Nat.le_refl _
  have CR : CHr Z ELs s.vm h0 s.vm h0 := CHr.refl hCH
  have lt_I3 : @LT.lt Nat _ a h0.size := I3.lt
  have lt_I6 : @LT.lt Nat _ b h0.size := I6.lt
  have Zc1 : n0 ≤ h0.size := by omega
  obtain ⟨cq2, kq2, q2a, q2b, q2c⟩ := isOf hZ e0 I3
  obtain ⟨_, _, ⟨T2, L2, k2, n2⟩, -, X2, ⟨Lc2, hQ2, l2, y2, z2⟩, st2⟩ := X0.virtualBack hx (y := M11_) (z := M11_) hown (mvT hZ (own_m hw 74 rfl)) (mvT hZ (own_m hw 57 rfl)) (notFace_of_selects (args := #[]) (mvT hZ (own_m hw 59 rfl))) (mvT hZ (own_m hw 59 rfl)) (mvT hZ (own_m hw 58 rfl)) (by decide) (backOf (W := 0) (rmLen l Z a0 hw [] a cst b kb cs h0 n0 Zc1 I1 OX hcst I3 I4 I5 I6 (by omega)) hZ (own_m hw 60 rfl) (own_m hw 7 rfl) (by decide) (by decide)) q2a q2c (g := (mkF m 1 #[.val (.ref a), .val (.int (0 : Int32)), .val (.int (Int32.ofNat k)), .unset, .unset] [(.ref a)])) rfl (by rw [hml]; rfl) (Steps.refl _) (argsL := []) (rest := []) (lenOf pd___I rfl) rfl (by show 2 * 0 + _ ≤ _; exact Nat.le_of_eq rfl) (dd hy dJ42_92_1) (fun _ _ => ⟨rfl, e0, (by decide : 0 + 0 ≤ _), (by decide : 0 + 0 ≤ _)⟩)
  dsimp only [Pt.U, Pt.locs, Pt.cells, Pt.slots] at X2 l2 y2 z2 st2 hQ2
  subst l2 y2 z2
  obtain ⟨rfl, N2q, e2⟩ := hQ2
  have N2 := Fr.app N0 N2q
  have Zc3 : n0 ≤ h0.size := by omega
  obtain ⟨_, _, ⟨T4, L4, k4, n4⟩, -, X4, ⟨Lc4, hQ4, l4, y4, z4⟩, st4⟩ := Jvm.LawKit.callS X2 hx (y := M22_) hown (mvT hZ (own_m hw 75 rfl)) (mvT hZ (own_m hw 76 rfl)) (mvT hZ (own_m hw 7 rfl)) (mvT hZ (own_m hw 77 rfl)) (by decide) (backOf (W := 0) (rmCBE l Z a0 hw [] 0 k cs.length fmt h0 n0 Zc3 hfmt I2 OX (by first | assumption | omega | rfl | decide) (by first | assumption | omega | rfl | decide) (by first | assumption | omega | rfl | decide)) hZ (own_m hw 77 rfl) (own_m hw 7 rfl) (by decide) (by decide)) (g := (mkF m 8 #[.val (.ref a), .val (.int (0 : Int32)), .val (.int (Int32.ofNat k)), .val (.int (Int32.ofNat cs.length)), .unset] [(.int (Int32.ofNat cs.length)), (.int (Int32.ofNat k)), (.int (0 : Int32))])) rfl (by rw [hml]; rfl) (argsL := [(.int (0 : Int32)), (.int (Int32.ofNat k)), (.int (Int32.ofNat cs.length))]) (rest := []) (lenOf pd__III_V rfl) rfl (by show 2 * 0 + _ ≤ _; exact Nat.le_of_eq rfl) (dd hy dJ42_92_8) (fun _ _ => ⟨rfl, e2, (by decide : 0 + 0 ≤ _), (by decide : 0 + 0 ≤ _)⟩)
  dsimp only [Pt.U, Pt.locs, Pt.cells, Pt.slots] at X4 l4 y4 z4 st4 hQ4
  subst l4 y4 z4
  obtain ⟨rfl, N4q, e4⟩ := hQ4
  have N4 := Fr.app N2 N4q
  have Zc5 : n0 ≤ h0.size := by omega
  obtain ⟨cq6, kq6, q6a, q6b, q6c⟩ := isOf hZ e4 I3
  obtain ⟨_, _, ⟨T6, L6, k6, n6⟩, -, X6, ⟨Lc6, hQ6, l6, y6, z6⟩, st6⟩ := X4.virtualBack hx (y := M12_) (z := M12_) hown (mvT hZ (own_m hw 83 rfl)) (mvT hZ (own_m hw 84 rfl)) (notFace_of_selects (args := #[]) (mvT hZ (own_m hw 86 rfl))) (mvT hZ (own_m hw 86 rfl)) (mvT hZ (own_m hw 85 rfl)) (by decide) (backOf (W := 0) (rmIsL l Z a0 hw [] a cst cs h0 n0 Zc5 I1 OX hcst I5) hZ (own_m hw 87 rfl) (own_m hw 7 rfl) (by decide) (by decide)) q6a q6c (g := (mkF m 28 #[.val (.ref a), .val (.int (0 : Int32)), .val (.int (Int32.ofNat k)), .val (.int (Int32.ofNat cs.length)), .val (.int (Int32.ofNat k))] [(.ref a)])) rfl (by rw [hml]; rfl) (Steps.refl _) (argsL := []) (rest := []) (lenOf pd___Z rfl) rfl (by show 2 * 0 + _ ≤ _; exact Nat.le_of_eq rfl) (dd hy dJ42_92_28) (fun _ _ => ⟨rfl, e4, (by decide : 0 + 0 ≤ _), (by decide : 0 + 0 ≤ _)⟩)
  dsimp only [Pt.U, Pt.locs, Pt.cells, Pt.slots] at X6 l6 y6 z6 st6 hQ6
  subst l6 y6 z6
  obtain ⟨rfl, N6q, e6⟩ := hQ6
  have N6 := Fr.app N4 N6q
  obtain ⟨T7, X7, e7, st7⟩ := getF X6 hx hZ hown (host := "") (Or.inl (own_m hw 32 rfl)) Via.refl e6 I4 (g := (mkF m 35 #[.val (.ref a), .val (.int (0 : Int32)), .val (.int (Int32.ofNat k)), .val (.int (Int32.ofNat cs.length)), .val (.int (Int32.ofNat k))] [(.ref a)])) rfl rfl (dd hy dJ42_92_35)
  have V8 : Arv Z h0 b kb .byte (Int32.ofNat cs.length) ((cs.map own_lo).map Value.int) v0_ := own_ofenc hlat I6
  have V8b : Arv Z h0 b kb .byte (Int32.ofNat (cs.map own_lo).length) ((cs.map own_lo).map Value.int) v0_ := by rw [List.length_map]; exact V8
  have Zc9 : n0 ≤ h0.size := by omega
  have s11 : ∀ t_, Steps p.tables e below (T7.setTop (mkF m 41 #[.val (.ref a), .val (.int (0 : Int32)), .val (.int (Int32.ofNat k)), .val (.int (Int32.ofNat cs.length)), .val (.int (Int32.ofNat k))] [(.int (Int32.ofNat k)), (.int (0 : Int32)), (.ref b)])) t_ → Steps _ _ _ _ t_ := fun t_ k_ => pre0 t_ (by
    refine XS.aloadN X0.here hx rfl (dd hy dJ42_92_0) rfl rfl ?_
    refine st2.trans ?_
    show Steps _ _ _ (T2.setTop (mkF m 4 #[.val (.ref a), .val (.int (0 : Int32)), .val (.int (Int32.ofNat k)), .unset, .unset] [(.int (Int32.ofNat cs.length))])) _
    refine XS.istoreN X2.here hx rfl (dd hy dJ42_92_4) rfl (l' := #[.val (.ref a), .val (.int (0 : Int32)), .val (.int (Int32.ofNat k)), .val (.int (Int32.ofNat cs.length)), .unset]) rfl ?_
    refine XS.iloadN X2.here hx rfl (dd hy dJ42_92_5) rfl ?_
    refine XS.iloadN X2.here hx rfl (dd hy dJ42_92_6) rfl ?_
    refine XS.iloadN X2.here hx rfl (dd hy dJ42_92_7) rfl ?_
    refine st4 _ ?_
    show Steps _ _ _ (T4.setTop (mkF m 11 #[.val (.ref a), .val (.int (0 : Int32)), .val (.int (Int32.ofNat k)), .val (.int (Int32.ofNat cs.length)), .unset] [])) _
    refine XS.iloadN X4.here hx rfl (dd hy dJ42_92_11) rfl ?_
    refine XS.ifNo X4.here hx rfl (dd hy dJ42_92_12) rfl ((if0 _ _).trans (teq (rfl : (0 : Int32) = (0 : Int32))).2) ?_
    show Steps _ _ _ (T4.setTop (mkF m 15 #[.val (.ref a), .val (.int (0 : Int32)), .val (.int (Int32.ofNat k)), .val (.int (Int32.ofNat cs.length)), .unset] [])) _
    refine XS.iloadN X4.here hx rfl (dd hy dJ42_92_15) rfl ?_
    refine XS.iloadN X4.here hx rfl (dd hy dJ42_92_16) rfl ?_
    refine XS.icmpYes X4.here hx rfl (pc0 := 17) (pc' := 22) rfl (dd hy dJ42_92_17) rfl (feq (fun e => by have := own_inj (by omega) (by omega) e; omega)).2 (by decide) (by decide) ?_
    show Steps _ _ _ (T4.setTop (mkF m 22 #[.val (.ref a), .val (.int (0 : Int32)), .val (.int (Int32.ofNat k)), .val (.int (Int32.ofNat cs.length)), .unset] [])) _
    refine XS.iloadN X4.here hx rfl (dd hy dJ42_92_22) rfl ?_
    refine XS.iloadN X4.here hx rfl (dd hy dJ42_92_23) rfl ?_
    refine XS.isub X4.here hx rfl (dd hy dJ42_92_24) rfl ?_
    show Steps _ _ _ (T4.setTop (mkF m 25 #[.val (.ref a), .val (.int (0 : Int32)), .val (.int (Int32.ofNat k)), .val (.int (Int32.ofNat cs.length)), .unset] [(.int ((Int32.ofNat k) - (0 : Int32)))])) _
    refine castTop (g' := (mkF m 25 #[.val (.ref a), .val (.int (0 : Int32)), .val (.int (Int32.ofNat k)), .val (.int (Int32.ofNat cs.length)), .unset] [(.int (Int32.ofNat k))])) (by rw [Int32.sub_zero]) ?_
    show Steps _ _ _ (T4.setTop (mkF m 25 #[.val (.ref a), .val (.int (0 : Int32)), .val (.int (Int32.ofNat k)), .val (.int (Int32.ofNat cs.length)), .unset] [(.int (Int32.ofNat k))])) _
    refine XS.istore X4.here hx rfl (dd hy dJ42_92_25) rfl (l' := #[.val (.ref a), .val (.int (0 : Int32)), .val (.int (Int32.ofNat k)), .val (.int (Int32.ofNat cs.length)), .val (.int (Int32.ofNat k))]) rfl ?_
    refine XS.aloadN X4.here hx rfl (dd hy dJ42_92_27) rfl rfl ?_
    refine st6.trans ?_
    show Steps _ _ _ (T6.setTop (mkF m 31 #[.val (.ref a), .val (.int (0 : Int32)), .val (.int (Int32.ofNat k)), .val (.int (Int32.ofNat cs.length)), .val (.int (Int32.ofNat k))] [(.int (if own_cod cs = (0 : Int32) then (1 : Int32) else (0 : Int32)))])) _
    refine castTop (g' := (mkF m 31 #[.val (.ref a), .val (.int (0 : Int32)), .val (.int (Int32.ofNat k)), .val (.int (Int32.ofNat cs.length)), .val (.int (Int32.ofNat k))] [(.int (1 : Int32))])) (by rw [if_pos (own_cod0 hlat)]) ?_
    show Steps _ _ _ (T6.setTop (mkF m 31 #[.val (.ref a), .val (.int (0 : Int32)), .val (.int (Int32.ofNat k)), .val (.int (Int32.ofNat cs.length)), .val (.int (Int32.ofNat k))] [(.int (1 : Int32))])) _
    refine XS.ifNo X6.here hx rfl (dd hy dJ42_92_31) rfl ((if0 _ _).trans (feq (by decide : ¬ ((1 : Int32) = (0 : Int32)))).1) ?_
    show Steps _ _ _ (T6.setTop (mkF m 34 #[.val (.ref a), .val (.int (0 : Int32)), .val (.int (Int32.ofNat k)), .val (.int (Int32.ofNat cs.length)), .val (.int (Int32.ofNat k))] [])) _
    refine XS.aloadN X6.here hx rfl (dd hy dJ42_92_34) rfl rfl ?_
    refine st7 _ ?_
    refine XS.iloadN X7.here hx rfl (dd hy dJ42_92_38) rfl ?_
    refine XS.iload X7.here hx rfl (dd hy dJ42_92_39) rfl ?_
    exact k_)
  obtain ⟨_, _, ⟨T10, L10, k10, n10⟩, -, Xr10, hSr10, hg10, ⟨Lc10, hQ10, l10, y10, z10, Cp10⟩, st10⟩ := callSS X7 hx (y := M20_) hown (mvT hZ (own_m hw 88 rfl)) (mvT hZ (own_m hw 89 rfl)) (mvT hZ (own_m hw 90 rfl)) (mvT hZ (own_m hw 91 rfl)) (by decide) (backOfSH (s := s) (vm0 := s.vm) (W := 0) (rmNewA l Z a0 hw [] b kb cs k h0 n0 Zc9 V8b hlat hbl hkl) hZ (own_m hw 91 rfl) (own_m hw 90 rfl) (by decide) (by decide) hEL CR.1) (g := (mkF m 41 #[.val (.ref a), .val (.int (0 : Int32)), .val (.int (Int32.ofNat k)), .val (.int (Int32.ofNat cs.length)), .val (.int (Int32.ofNat k))] [(.int (Int32.ofNat k)), (.int (0 : Int32)), (.ref b)])) rfl (by rw [hml]; rfl) (argsL := [(.ref b), (.int (0 : Int32)), (.int (Int32.ofNat k))]) (rest := []) (lenOf pd___BII_Ljava_lang_String_ rfl) rfl (by show 2 * 0 + _ ≤ _; exact Nat.le_of_eq rfl) (dd hy dJ42_92_41) (fun _ _ => ⟨rfl, e7, (by decide : 0 + 2 ≤ _), (by decide : 0 + 36 ≤ _)⟩)
  dsimp only [Pt.U, Pt.locs, Pt.cells, Pt.slots] at Xr10 hSr10 hg10 l10 y10 z10 st10 hQ10 Cp10
  subst l10 y10 z10
  obtain ⟨X10, hS, hZ, hown⟩ := rebS (own := "java/lang/String") hS (by first | exact Nat.le_refl _ | (rw [e7]; exact hk)) Xr10 hSr10 hg10 hZ hown
  obtain ⟨a_10, b_10, kb_10, rfl, N10q, K10, Fq10_0, Fq10_1, Fq10_2, Fq10_3⟩ := hQ10
  have N10 := Fr.app N6 N10q
  obtain ⟨h10, e10⟩ : ∃ z, T10.heap = z := ⟨_, rfl⟩
  rw [e10] at K10 Fq10_0 Fq10_1 Fq10_2 Fq10_3 Cp10
  have hk : T10.heap.size ≤ h10.size := Nat.le_of_eq (congrArg Array.size e10)
  have z12 : h0.size ≤ h10.size := K10.1
  have CR := CR.trans Cp10
  have lt10_0 : @LT.lt Nat _ a_10 h10.size := Fq10_0.lt
  have lt10_3 : @LT.lt Nat _ b_10 h10.size := Fq10_3.lt
  have s13 : ∀ t_, Steps p.tables e below (T10.setTop (mkF m 57 #[.val (.ref a), .val (.int (0 : Int32)), .val (.int (Int32.ofNat k)), .val (.int (Int32.ofNat cs.length)), .val (.int (Int32.ofNat k))] [(.ref a_10)])) t_ → Steps _ _ _ _ t_ := fun t_ k_ => s11 t_ (by
    refine st10.trans ?_
    show Steps _ _ _ (T10.setTop (mkF m 44 #[.val (.ref a), .val (.int (0 : Int32)), .val (.int (Int32.ofNat k)), .val (.int (Int32.ofNat cs.length)), .val (.int (Int32.ofNat k))] [(.ref a_10)])) _
    refine XS.goto X10.here hx rfl (pc0 := 44) (pc' := 57) rfl (dd hy dJ42_92_44) (by decide) (by decide) ?_
    exact k_)
  obtain ⟨fs, hr, hrun, hended, hREW⟩ := X10.leaveW hS (by first | exact Nat.le_refl _ | (rw [e10]; exact hk)) (v := some (.ref a_10)) (fun h => by rw [Bd.returns] at h; cases h)
  refine ⟨_, _, s13 _ ?_, hrun, hended, _, _, rfl, ?_, (by show CHr Z ELs s.vm s.heap T10.vm T10.heap; rw [hh, e10]; exact CR.trans (CHv.at X10 hZ hEL CR.1)), hREW.1, hREW.2.1, hREW.2.2.1, hREW.2.2.2.mono (by decide) (by decide)⟩
  · jvm_step X10.here [X10.here.top, hx, (dd hy dJ42_92_57), X10.method', Bd.returns, Value.isRef, FieldType.isReference]
    first | (intro acts; rw [hr _ acts rfl rfl rfl]) | rw [hr _ _ rfl rfl rfl]
    exact Steps.refl _
  · show Q_rmSubA Z _ _ _ _ _ _ _ h0 n0 _ T10.heap _
    rw [e10]
    exact ⟨a_10, b_10, kb_10, rfl, N10, ((Keep.refl h0 []).trans K10 all0), Fq10_0, Fq10_1, Fq10_2, Fq10_3⟩
theorem dJ52_22_0 : decode CJ52_22 0 = .ok (.iload_n 1, 1) := by decide +kernel
theorem dJ52_22_1 : decode CJ52_22 1 = .ok (.iload 4, 2) := by decide +kernel
theorem dJ52_22_3 : decode CJ52_22 3 = .ok (.aload_n 0, 1) := by decide +kernel
theorem pd__II_B_V : parseMethodDescriptor "(II[B)V" = some ⟨[.int, .int, (.array .byte)], none⟩ := by decide +kernel
theorem dJ52_22_4 : decode CJ52_22 4 = .ok (.invokestatic 173, 3) := by decide +kernel
theorem dJ52_22_7 : decode CJ52_22 7 = .ok (.iconst 0, 1) := by decide +kernel
theorem dJ52_22_8 : decode CJ52_22 8 = .ok (.istore 5, 2) := by decide +kernel
theorem dJ52_22_10 : decode CJ52_22 10 = .ok (.iload 5, 2) := by decide +kernel
theorem dJ52_22_12 : decode CJ52_22 12 = .ok (.iload 4, 2) := by decide +kernel
theorem dJ52_22_14 : decode CJ52_22 14 = .ok (.if_icmp .ge 39, 3) := by decide +kernel
theorem dJ52_22_17 : decode CJ52_22 17 = .ok (.aload_n 0, 1) := by decide +kernel
theorem dJ52_22_18 : decode CJ52_22 18 = .ok (.iload_n 1, 1) := by decide +kernel
theorem dJ52_22_19 : decode CJ52_22 19 = .ok (.invokestatic 71, 3) := by decide +kernel
theorem os_rmCmpBW_22 {z0 : Value} {z1 : Value} {z2 : Value} {z3 : Value} {z4 : Value} {z5 : Value} {s6 : Slot} {v : Int32} (h : One s6) : storeLocals #[.val z0, .val z1, .val z2, .val z3, .val z4, .val z5, s6] 6 (.int v) = some #[.val z0, .val z1, .val z2, .val z3, .val z4, .val z5, .val (.int v)] := by
  rcases h with rfl | ⟨w, rfl, hw⟩
  · rfl
  · cases w <;> first | rfl | (simp [Value.category] at hw)
theorem dJ52_22_22 : decode CJ52_22 22 = .ok (.istore 6, 2) := by decide +kernel
theorem dJ52_22_24 : decode CJ52_22 24 = .ok (.iload 6, 2) := by decide +kernel
theorem dJ52_22_26 : decode CJ52_22 26 = .ok (.sipush 255, 3) := by decide +kernel
theorem dJ52_22_29 : decode CJ52_22 29 = .ok (.if_icmp .le 6, 3) := by decide +kernel
theorem dJ52_22_35 : decode CJ52_22 35 = .ok (.aload_n 2, 1) := by decide +kernel
theorem dJ52_22_36 : decode CJ52_22 36 = .ok (.iload_n 3, 1) := by decide +kernel
theorem dJ52_22_37 : decode CJ52_22 37 = .ok (.iload 6, 2) := by decide +kernel
theorem dJ52_22_39 : decode CJ52_22 39 = .ok (.i2b, 1) := by decide +kernel
theorem dJ52_22_40 : decode CJ52_22 40 = .ok (.bastore, 1) := by decide +kernel
theorem dJ52_22_41 : decode CJ52_22 41 = .ok (.iinc 1 1, 3) := by decide +kernel
theorem dJ52_22_44 : decode CJ52_22 44 = .ok (.iinc 3 1, 3) := by decide +kernel
theorem dJ52_22_47 : decode CJ52_22 47 = .ok (.iinc 5 1, 3) := by decide +kernel
theorem dJ52_22_50 : decode CJ52_22 50 = .ok (.goto (-40), 3) := by decide +kernel
theorem dJ52_22_32 : decode CJ52_22 32 = .ok (.iload 5, 2) := by decide +kernel
theorem dJ52_22_34 : decode CJ52_22 34 = .ok (.ireturn, 1) := by decide +kernel
theorem ef_rmCmpBW (m : MethodId) (x0 : Addr) (x1 : Int32) (x2 : Addr) (x3 : Int32) (x4 : Int32) : entryFrame m #[(.ref x0), (.int x1), (.ref x2), (.int x3), (.int x4)] 7 = mkF m 0 #[.val (.ref x0), .val (.int x1), .val (.ref x2), .val (.int x3), .val (.int x4), .unset, .unset] [] := by first | (simp [entryFrame, mkF, argsToLocals, Value.category]; done) | rfl
abbrev R_rmCmpBW : Room := ({ frames := 3, cells := 0, slots := 0, locals := 43 } : Room)
def Q_rmCmpBW (Z : State) (ca : Addr) (ba : Addr) (kx : ClassId) (cs : List Int32) (n : Nat) (kb : ClassId) (vs : List Value) (i : Nat) (fmt : Value) (h0 : Heap) (n0 : Nat) (v : Option Value) (h : Heap) (L : List Loc) : Prop := (v = some (.int (Int32.ofNat i))) ∧ (Fr n0 L) ∧ (Keep h0 h [ba])
set_option maxRecDepth 65536 in
set_option maxHeartbeats 40000000 in
theorem rmCmpBW (l : Launch) (Z : State) (a0 : Array Value) (hw : HW Z a0) (ws : List Jvm.Cond) (ca : Addr) (ba : Addr) (kx : ClassId) (cs : List Int32) (n : Nat) (kb : ClassId) (vs : List Value) (i : Nat) (fmt : Value) (h0 : Heap) (n0 : Nat) (Z0 : n0 ≤ h0.size) (I1 : Sta Z Z.heap cU cD "Z" (.int (1 : Int32))) (I2 : Sta Z Z.heap cU cH "I" (.int (0 : Int32))) (I3 : Sta Z Z.heap cU cL "I" (.int (8 : Int32))) (hfmt : fmt.isRef = true) (I4 : Sta Z Z.heap cP cG cF fmt) (OX : Old Z n0 h0) (I5 : Arv Z h0 ca kx .byte (Int32.ofNat (2 * cs.length)) (own_wide cs) v0_) (I6 : Arv Z h0 ba kb .byte (Int32.ofNat n) vs v0_) (hnc : n ≤ cs.length) (hb : cs.length ≤ 8) (hvs : vs.length = n) (gb : n0 ≤ ba) (hne : @Ne Nat ca ba) (hi : i < n) (hbad : (255 : Int32) < (cs.getD i 0)) (hpre : ∀ j, j < i → ¬ ((255 : Int32) < cs.getD j 0)) (hchs : own_chs cs) :
    MF l Z M28_ (Jvm.Cond.code M28_ jdk_52_method_22_code 7 (some .int) :: ws) R_rmCmpBW #[(.ref ca), (.int (0 : Int32)), (.ref ba), (.int (0 : Int32)), (.int (Int32.ofNat n))] h0 (Q_rmCmpBW Z ca ba kx cs n kb vs i fmt h0 n0) := by
  refine MetFree.of_bodySF (plainFor_of_name pn_java_lang_StringUTF16) hisR ?_
  intro p e s m args below meth c s₁ Bd hml0 hP hK
  obtain ⟨rfl, hZ, hh⟩ := hP
  have hx := Bd.exec
  have hy := Bd.bytes
  have hml : c.maxLocals = 7 := hml0
  have hown : s.vm.findClass "java/lang/StringUTF16" = some m.cls := findClass_of_methodNamed Bd.named
  have hnm := (name_of_methodNamed Bd.named Bd.method).1
  have X0 : Stand p l e R_rmCmpBW s m #[(.ref ca), (.int (0 : Int32)), (.ref ba), (.int (0 : Int32)), (.int (Int32.ofNat n))] below meth c s₁ [] 0 0 := Stand.of_body Bd
  have e0 : s₁.heap = h0 := by rw [← hh, Bd.state]; rfl
  have N0 := Fr.nil n0
  have pre0 := own_pre (p := p) (e := e) (below := below) (T := s₁) (ef_rmCmpBW m ca (0 : Int32) ba (0 : Int32) (Int32.ofNat n))
  have lt_I5 : @LT.lt Nat _ ca h0.size := I5.lt
  have lt_I6 : @LT.lt Nat _ ba h0.size := I6.lt
  have Zc1 : n0 ≤ h0.size := by omega
  obtain ⟨_, _, ⟨T2, L2, k2, n2⟩, -, X2, ⟨Lc2, hQ2, l2, y2, z2⟩, st2⟩ := Jvm.LawKit.callS X0 hx (y := M26_) hown (mvT hZ (own_m hw 220 rfl)) (mvT hZ (own_m hw 221 rfl)) (mvT hZ (own_m hw 21 rfl)) (mvT hZ (own_m hw 222 rfl)) (by decide) (backOf (W := 0) (rmCBO l Z a0 hw [] ca 0 n cs.length kx (own_wide cs) fmt h0 n0 Zc1 hfmt I4 OX I5 (by omega) (by omega)) hZ (own_m hw 222 rfl) (own_m hw 21 rfl) (by decide) (by decide)) (g := (mkF m 4 #[.val (.ref ca), .val (.int (0 : Int32)), .val (.ref ba), .val (.int (0 : Int32)), .val (.int (Int32.ofNat n)), .unset, .unset] [(.ref ca), (.int (Int32.ofNat n)), (.int (0 : Int32))])) rfl (by rw [hml]; rfl) (argsL := [(.int (0 : Int32)), (.int (Int32.ofNat n)), (.ref ca)]) (rest := []) (lenOf pd__II_B_V rfl) rfl (by show 2 * 0 + _ ≤ _; exact Nat.le_of_eq rfl) (dd hy dJ52_22_4) (fun _ _ => ⟨rfl, e0, (by decide : 0 + 0 ≤ _), (by decide : 0 + 0 ≤ _)⟩)
  dsimp only [Pt.U, Pt.locs, Pt.cells, Pt.slots] at X2 l2 y2 z2 st2 hQ2
  subst l2 y2 z2
  obtain ⟨rfl, N2q, e2⟩ := hQ2
  have N2 := Fr.app N0 N2q
  have s3 : ∀ t_, Steps p.tables e below (T2.setTop (mkF m 10 #[.val (.ref ca), .val (.int (0 : Int32)), .val (.ref ba), .val (.int (0 : Int32)), .val (.int (Int32.ofNat n)), .val (.int (0 : Int32)), .unset] [])) t_ → Steps _ _ _ _ t_ := fun t_ k_ => pre0 t_ (by
    refine XS.iloadN X0.here hx rfl (dd hy dJ52_22_0) rfl ?_
    refine XS.iload X0.here hx rfl (dd hy dJ52_22_1) rfl ?_
    refine XS.aloadN X0.here hx rfl (dd hy dJ52_22_3) rfl rfl ?_
    refine st2 _ ?_
    show Steps _ _ _ (T2.setTop (mkF m 7 #[.val (.ref ca), .val (.int (0 : Int32)), .val (.ref ba), .val (.int (0 : Int32)), .val (.int (Int32.ofNat n)), .unset, .unset] [])) _
    refine XS.iconst X2.here hx rfl (dd hy dJ52_22_7) ?_
    refine XS.istore X2.here hx rfl (dd hy dJ52_22_8) rfl (l' := #[.val (.ref ca), .val (.int (0 : Int32)), .val (.ref ba), .val (.int (0 : Int32)), .val (.int (Int32.ofNat n)), .val (.int (0 : Int32)), .unset]) rfl ?_
    exact k_)
  have lp4 : ∀ (k_ : Nat) (j : Nat) (s6 : Slot) (us : List Value) (T_ : State) (lo_ : List Loc) (hh4 : Heap), j + k_ = i → Stand p l e R_rmCmpBW s m #[(.ref ca), (.int (0 : Int32)), (.ref ba), (.int (0 : Int32)), (.int (Int32.ofNat n))] below meth c T_ lo_ 0 0 → T_.heap = hh4 → Fr n0 lo_ → Keep h0 hh4 [ba] → Arv Z hh4 ba kb .byte (Int32.ofNat n) us v0_ → (One s6) → (us.length = n) → ∃ (T' : State) (lo' : List Loc) (hx_ : Heap) (fe_ : JFrame), Stand p l e R_rmCmpBW s m #[(.ref ca), (.int (0 : Int32)), (.ref ba), (.int (0 : Int32)), (.int (Int32.ofNat n))] below meth c T' lo' 0 0 ∧ T'.heap = hx_ ∧ Fr n0 lo' ∧ Keep h0 hx_ [ba] ∧ ((fe_ = (mkF m 32 #[.val (.ref ca), .val (.int (Int32.ofNat i)), .val (.ref ba), .val (.int (Int32.ofNat i)), .val (.int (Int32.ofNat n)), .val (.int (Int32.ofNat i)), .val (.int (cs.getD i 0))] []))) ∧ ∀ t_, Steps p.tables e below (T'.setTop fe_) t_ → Steps p.tables e below (T_.setTop (mkF m 10 #[.val (.ref ca), .val (.int (Int32.ofNat j)), .val (.ref ba), .val (.int (Int32.ofNat j)), .val (.int (Int32.ofNat n)), .val (.int (Int32.ofNat j)), s6] [])) t_ := by
    intro k_
    induction k_ with
    | zero => 
      intro j s6 us T_ lo_ hh4 hm_ X_ e_ N_ K_ F_0 hs6 hus
      have zk_ : h0.size ≤ hh4.size := K_.1
      have O5 : Old Z n0 hh4 := (OX.keep K_ (allS (show n0 ≤ ba by omega) all0))
      have f6 : Arv Z hh4 ca kx .byte (Int32.ofNat (2 * cs.length)) (own_wide cs) v0_ := (I5.keep K_ (ninS (show @Ne Nat ca ba by omega) nin0))
      have Zc7 : n0 ≤ hh4.size := by omega
      obtain ⟨_, _, ⟨T8, L8, k8, n8⟩, -, X8, ⟨Lc8, hQ8, l8, y8, z8⟩, st8⟩ := Jvm.LawKit.callS X_ hx (y := M5_) hown (mvT hZ (own_m hw 207 rfl)) (mvT hZ (own_m hw 208 rfl)) (mvT hZ (own_m hw 21 rfl)) (mvT hZ (own_m hw 209 rfl)) (by decide) (backOf (W := 0) (rmGet l Z a0 hw [] ca kx (own_wide cs) cs.length j (cs.getD j 0) hh4 n0 Zc7 I1 I2 I3 O5 f6 (by omega) (by omega) (own_wide0 _ cs j (by omega)) (own_wide1 _ cs j (by omega)) (hchs _ (own_mem cs j (by omega))).1 (hchs _ (own_mem cs j (by omega))).2) hZ (own_m hw 209 rfl) (own_m hw 21 rfl) (by decide) (by decide)) (g := (mkF m 19 #[.val (.ref ca), .val (.int (Int32.ofNat j)), .val (.ref ba), .val (.int (Int32.ofNat j)), .val (.int (Int32.ofNat n)), .val (.int (Int32.ofNat j)), s6] [(.int (Int32.ofNat j)), (.ref ca)])) rfl (by rw [hml]; rfl) (argsL := [(.ref ca), (.int (Int32.ofNat j))]) (rest := []) (lenOf pd___BI_C rfl) rfl (by show 2 * 0 + _ ≤ _; exact Nat.le_of_eq rfl) (dd hy dJ52_22_19) (fun _ _ => ⟨rfl, e_, (by decide : 0 + 0 ≤ _), (by decide : 0 + 0 ≤ _)⟩)
      dsimp only [Pt.U, Pt.locs, Pt.cells, Pt.slots] at X8 l8 y8 z8 st8 hQ8
      subst l8 y8 z8
      obtain ⟨rfl, N8q, e8⟩ := hQ8
      have N8 := Fr.app N_ N8q
      have s9 : ∀ t_, Steps p.tables e below (T8.setTop (mkF m 32 #[.val (.ref ca), .val (.int (Int32.ofNat j)), .val (.ref ba), .val (.int (Int32.ofNat j)), .val (.int (Int32.ofNat n)), .val (.int (Int32.ofNat j)), .val (.int (cs.getD j 0))] [])) t_ → Steps p.tables e below (T_.setTop (mkF m 10 #[.val (.ref ca), .val (.int (Int32.ofNat j)), .val (.ref ba), .val (.int (Int32.ofNat j)), .val (.int (Int32.ofNat n)), .val (.int (Int32.ofNat j)), s6] [])) t_ := fun t_ k_ => (fun _ k_ => k_) t_ (by
        refine XS.iload X_.here hx rfl (dd hy dJ52_22_10) rfl ?_
        refine XS.iload X_.here hx rfl (dd hy dJ52_22_12) rfl ?_
        refine XS.icmpNo X_.here hx rfl (dd hy dJ52_22_14) rfl (tlt (own_lt (by omega) (by omega))).2.1 ?_
        show Steps _ _ _ (T_.setTop (mkF m 17 #[.val (.ref ca), .val (.int (Int32.ofNat j)), .val (.ref ba), .val (.int (Int32.ofNat j)), .val (.int (Int32.ofNat n)), .val (.int (Int32.ofNat j)), s6] [])) _
        refine XS.aloadN X_.here hx rfl (dd hy dJ52_22_17) rfl rfl ?_
        refine XS.iloadN X_.here hx rfl (dd hy dJ52_22_18) rfl ?_
        refine st8 _ ?_
        show Steps _ _ _ (T8.setTop (mkF m 22 #[.val (.ref ca), .val (.int (Int32.ofNat j)), .val (.ref ba), .val (.int (Int32.ofNat j)), .val (.int (Int32.ofNat n)), .val (.int (Int32.ofNat j)), s6] [(.int (cs.getD j 0))])) _
        refine XS.istore X8.here hx rfl (dd hy dJ52_22_22) rfl (l' := #[.val (.ref ca), .val (.int (Int32.ofNat j)), .val (.ref ba), .val (.int (Int32.ofNat j)), .val (.int (Int32.ofNat n)), .val (.int (Int32.ofNat j)), .val (.int (cs.getD j 0))]) (os_rmCmpBW_22 hs6) ?_
        refine XS.iload X8.here hx rfl (dd hy dJ52_22_24) rfl ?_
        refine XS.sipush X8.here hx rfl (dd hy dJ52_22_26) ?_
        refine XS.icmpNo X8.here hx rfl (dd hy dJ52_22_29) rfl (tlt (by rw [show j = i by omega]; exact hbad)).2.2.2 ?_
        show Steps _ _ _ (T8.setTop (mkF m 32 #[.val (.ref ca), .val (.int (Int32.ofNat j)), .val (.ref ba), .val (.int (Int32.ofNat j)), .val (.int (Int32.ofNat n)), .val (.int (Int32.ofNat j)), .val (.int (cs.getD j 0))] [])) _
        exact k_)
      exact ⟨T8, _, _, _, X8, e8, N8, ((Keep.refl h0 [ba]).trans K_ (allS (Or.inl (by simp)) all0)), (by rw [show j = i by omega]), s9⟩
    | succ k_ ih => 
      intro j s6 us T_ lo_ hh4 hm_ X_ e_ N_ K_ F_0 hs6 hus
      have zk_ : h0.size ≤ hh4.size := K_.1
      have O10 : Old Z n0 hh4 := (OX.keep K_ (allS (show n0 ≤ ba by omega) all0))
      have f11 : Arv Z hh4 ca kx .byte (Int32.ofNat (2 * cs.length)) (own_wide cs) v0_ := (I5.keep K_ (ninS (show @Ne Nat ca ba by omega) nin0))
      have Zc12 : n0 ≤ hh4.size := by omega
      obtain ⟨_, _, ⟨T13, L13, k13, n13⟩, -, X13, ⟨Lc13, hQ13, l13, y13, z13⟩, st13⟩ := Jvm.LawKit.callS X_ hx (y := M5_) hown (mvT hZ (own_m hw 207 rfl)) (mvT hZ (own_m hw 208 rfl)) (mvT hZ (own_m hw 21 rfl)) (mvT hZ (own_m hw 209 rfl)) (by decide) (backOf (W := 0) (rmGet l Z a0 hw [] ca kx (own_wide cs) cs.length j (cs.getD j 0) hh4 n0 Zc12 I1 I2 I3 O10 f11 (by omega) (by omega) (own_wide0 _ cs j (by omega)) (own_wide1 _ cs j (by omega)) (hchs _ (own_mem cs j (by omega))).1 (hchs _ (own_mem cs j (by omega))).2) hZ (own_m hw 209 rfl) (own_m hw 21 rfl) (by decide) (by decide)) (g := (mkF m 19 #[.val (.ref ca), .val (.int (Int32.ofNat j)), .val (.ref ba), .val (.int (Int32.ofNat j)), .val (.int (Int32.ofNat n)), .val (.int (Int32.ofNat j)), s6] [(.int (Int32.ofNat j)), (.ref ca)])) rfl (by rw [hml]; rfl) (argsL := [(.ref ca), (.int (Int32.ofNat j))]) (rest := []) (lenOf pd___BI_C rfl) rfl (by show 2 * 0 + _ ≤ _; exact Nat.le_of_eq rfl) (dd hy dJ52_22_19) (fun _ _ => ⟨rfl, e_, (by decide : 0 + 0 ≤ _), (by decide : 0 + 0 ≤ _)⟩)
      dsimp only [Pt.U, Pt.locs, Pt.cells, Pt.slots] at X13 l13 y13 z13 st13 hQ13
      subst l13 y13 z13
      obtain ⟨rfl, N13q, e13⟩ := hQ13
      have N13 := Fr.app N_ N13q
      obtain ⟨cl14, Ar14, q14, S14, M14, H14, G14⟩ := id F_0
      have hin14 : ¬ ((Int32.ofNat j) < 0 ∨ cl14.slots.size ≤ ((Int32.ofNat j)).toNatClampNeg) := inb_of S14 (own_in (by omega) (by omega))
      obtain ⟨T15, h15, X15, e15, W15, st15⟩ := stB X13 hx hZ e13 Ar14 (j := (Int32.ofNat j)) hin14 (g := (mkF m 40 #[.val (.ref ca), .val (.int (Int32.ofNat j)), .val (.ref ba), .val (.int (Int32.ofNat j)), .val (.int (Int32.ofNat n)), .val (.int (Int32.ofNat j)), .val (.int (cs.getD j 0))] [(.int (own_lo (cs.getD j 0))), (.int (Int32.ofNat j)), (.ref ba)])) rfl rfl (dd hy dJ52_22_40)
      have z16 : hh4.size ≤ h15.size := Nat.le_of_eq W15.size.symm
      have V15 : Arv Z h15 ba kb .byte (Int32.ofNat n) (List.set us j (.int (nar .byte (own_lo (cs.getD j 0))))) v0_ := Arv.set Ar14 q14 S14 M14 H14 G14 (fits_nar_byte _) W15 j (own_tn (by omega)) (by omega)
      have N15 := Fr.snoc X15 N13 (show n0 ≤ ba by omega)
      have s17 : ∀ t_, Steps p.tables e below (T15.setTop (mkF m 10 #[.val (.ref ca), .val (.int ((Int32.ofNat j) + (1 : Int32))), .val (.ref ba), .val (.int ((Int32.ofNat j) + (1 : Int32))), .val (.int (Int32.ofNat n)), .val (.int ((Int32.ofNat j) + (1 : Int32))), .val (.int (cs.getD j 0))] [])) t_ → Steps p.tables e below (T_.setTop (mkF m 10 #[.val (.ref ca), .val (.int (Int32.ofNat j)), .val (.ref ba), .val (.int (Int32.ofNat j)), .val (.int (Int32.ofNat n)), .val (.int (Int32.ofNat j)), s6] [])) t_ := fun t_ k_ => (fun _ k_ => k_) t_ (by
        refine XS.iload X_.here hx rfl (dd hy dJ52_22_10) rfl ?_
        refine XS.iload X_.here hx rfl (dd hy dJ52_22_12) rfl ?_
        refine XS.icmpNo X_.here hx rfl (dd hy dJ52_22_14) rfl (tlt (own_lt (by omega) (by omega))).2.1 ?_
        show Steps _ _ _ (T_.setTop (mkF m 17 #[.val (.ref ca), .val (.int (Int32.ofNat j)), .val (.ref ba), .val (.int (Int32.ofNat j)), .val (.int (Int32.ofNat n)), .val (.int (Int32.ofNat j)), s6] [])) _
        refine XS.aloadN X_.here hx rfl (dd hy dJ52_22_17) rfl rfl ?_
        refine XS.iloadN X_.here hx rfl (dd hy dJ52_22_18) rfl ?_
        refine st13 _ ?_
        show Steps _ _ _ (T13.setTop (mkF m 22 #[.val (.ref ca), .val (.int (Int32.ofNat j)), .val (.ref ba), .val (.int (Int32.ofNat j)), .val (.int (Int32.ofNat n)), .val (.int (Int32.ofNat j)), s6] [(.int (cs.getD j 0))])) _
        refine XS.istore X13.here hx rfl (dd hy dJ52_22_22) rfl (l' := #[.val (.ref ca), .val (.int (Int32.ofNat j)), .val (.ref ba), .val (.int (Int32.ofNat j)), .val (.int (Int32.ofNat n)), .val (.int (Int32.ofNat j)), .val (.int (cs.getD j 0))]) (os_rmCmpBW_22 hs6) ?_
        refine XS.iload X13.here hx rfl (dd hy dJ52_22_24) rfl ?_
        refine XS.sipush X13.here hx rfl (dd hy dJ52_22_26) ?_
        refine XS.icmpYes X13.here hx rfl (pc0 := 29) (pc' := 35) rfl (dd hy dJ52_22_29) rfl (flt (hpre j (by omega))).2.2.2 (by decide) (by decide) ?_
        show Steps _ _ _ (T13.setTop (mkF m 35 #[.val (.ref ca), .val (.int (Int32.ofNat j)), .val (.ref ba), .val (.int (Int32.ofNat j)), .val (.int (Int32.ofNat n)), .val (.int (Int32.ofNat j)), .val (.int (cs.getD j 0))] [])) _
        refine XS.aloadN X13.here hx rfl (dd hy dJ52_22_35) rfl rfl ?_
        refine XS.iloadN X13.here hx rfl (dd hy dJ52_22_36) rfl ?_
        refine XS.iload X13.here hx rfl (dd hy dJ52_22_37) rfl ?_
        refine XS.i2b X13.here hx rfl (dd hy dJ52_22_39) rfl ?_
        refine st15 _ ?_
        refine XS.iinc X15.here hx rfl (dd hy dJ52_22_41) rfl (l' := #[.val (.ref ca), .val (.int ((Int32.ofNat j) + (1 : Int32))), .val (.ref ba), .val (.int (Int32.ofNat j)), .val (.int (Int32.ofNat n)), .val (.int (Int32.ofNat j)), .val (.int (cs.getD j 0))]) rfl ?_
        show Steps _ _ _ (T15.setTop (mkF m 44 #[.val (.ref ca), .val (.int ((Int32.ofNat j) + (1 : Int32))), .val (.ref ba), .val (.int (Int32.ofNat j)), .val (.int (Int32.ofNat n)), .val (.int (Int32.ofNat j)), .val (.int (cs.getD j 0))] [])) _
        refine XS.iinc X15.here hx rfl (dd hy dJ52_22_44) rfl (l' := #[.val (.ref ca), .val (.int ((Int32.ofNat j) + (1 : Int32))), .val (.ref ba), .val (.int ((Int32.ofNat j) + (1 : Int32))), .val (.int (Int32.ofNat n)), .val (.int (Int32.ofNat j)), .val (.int (cs.getD j 0))]) rfl ?_
        refine XS.iinc X15.here hx rfl (dd hy dJ52_22_47) rfl (l' := #[.val (.ref ca), .val (.int ((Int32.ofNat j) + (1 : Int32))), .val (.ref ba), .val (.int ((Int32.ofNat j) + (1 : Int32))), .val (.int (Int32.ofNat n)), .val (.int ((Int32.ofNat j) + (1 : Int32))), .val (.int (cs.getD j 0))]) rfl ?_
        refine XS.goto X15.here hx rfl (pc0 := 50) (pc' := 10) rfl (dd hy dJ52_22_50) (by decide) (by decide) ?_
        exact k_)
      obtain ⟨T18, lo18, h18, fe18, X18, e18, N18, K18, A18, st18⟩ := ih (j + 1) (.val (.int (cs.getD j 0))) (List.set us j (.int (nar .byte (own_lo (cs.getD j 0))))) T15 _ h15 (by omega) X15 e15 N15 (((Keep.refl h0 [ba]).trans K_ (allS (Or.inl (by simp)) all0)).wr W15 (Or.inl (by simp))) V15 (One.val rfl) (by rw [List.length_set]; exact hus)
      exact ⟨T18, lo18, h18, fe18, X18, e18, N18, K18, A18, fun t_ k_ => s17 t_ (castTop (by rw [own_up]) (st18 t_ k_))⟩
  obtain ⟨T19, lo19, h19, fe19, X19, e19, N19, K19, A19, st19⟩ := lp4 i 0 .unset vs T2 _ h0 (by omega) X2 e2 N2 (Keep.refl _ _) I6 One.u hvs
  have z20 : h0.size ≤ h19.size := K19.1
  obtain rfl := A19
  have s21 : ∀ t_, Steps p.tables e below (T19.setTop (mkF m 32 #[.val (.ref ca), .val (.int (Int32.ofNat i)), .val (.ref ba), .val (.int (Int32.ofNat i)), .val (.int (Int32.ofNat n)), .val (.int (Int32.ofNat i)), .val (.int (cs.getD i 0))] [])) t_ → Steps p.tables e below (s₁.setTop (entryFrame m #[(.ref ca), (.int (0 : Int32)), (.ref ba), (.int (0 : Int32)), (.int (Int32.ofNat n))] 7)) t_ := fun t_ k_ => s3 t_ (st19 t_ k_)
  have s22 : ∀ t_, Steps p.tables e below (T19.setTop (mkF m 34 #[.val (.ref ca), .val (.int (Int32.ofNat i)), .val (.ref ba), .val (.int (Int32.ofNat i)), .val (.int (Int32.ofNat n)), .val (.int (Int32.ofNat i)), .val (.int (cs.getD i 0))] [(.int (Int32.ofNat i))])) t_ → Steps _ _ _ _ t_ := fun t_ k_ => s21 t_ (by
    refine XS.iload X19.here hx rfl (dd hy dJ52_22_32) rfl ?_
    exact k_)
  obtain ⟨fs, hr, hrun, hended, hW, hsame⟩ := X19.leave (v := some (.int (Int32.ofNat i))) (fun h => by rw [Bd.returns] at h; cases h)
  refine ⟨_, _, s22 _ ?_, hrun, hended, _, _, rfl, ?_, ⟨_, rfl⟩, hW, hsame.mono (by decide) (by decide)⟩
  · exact retI X19 hx Bd.returns (dd hy dJ52_22_34) hr
  · show Q_rmCmpBW Z _ _ _ _ _ _ _ _ _ h0 n0 _ T19.heap _
    rw [e19]
    exact ⟨rfl, N19, ((Keep.refl h0 [ba]).trans K19 (allS (Or.inl (by simp)) all0))⟩
theorem dJ52_17_0 : decode CJ52_17 0 = .ok (.iload_n 2, 1) := by decide +kernel
theorem dJ52_17_1 : decode CJ52_17 1 = .ok (.newarray .byte, 2) := by decide +kernel
theorem dJ52_17_3 : decode CJ52_17 3 = .ok (.astore_n 3, 1) := by decide +kernel
theorem dJ52_17_4 : decode CJ52_17 4 = .ok (.aload_n 0, 1) := by decide +kernel
theorem dJ52_17_5 : decode CJ52_17 5 = .ok (.iload_n 1, 1) := by decide +kernel
theorem dJ52_17_6 : decode CJ52_17 6 = .ok (.aload_n 3, 1) := by decide +kernel
theorem dJ52_17_7 : decode CJ52_17 7 = .ok (.iconst 0, 1) := by decide +kernel
theorem dJ52_17_8 : decode CJ52_17 8 = .ok (.iload_n 2, 1) := by decide +kernel
theorem pd___BI_BII_I : parseMethodDescriptor "([BI[BII)I" = some ⟨[(.array .byte), .int, (.array .byte), .int, .int], some .int⟩ := by decide +kernel
theorem dJ52_17_9 : decode CJ52_17 9 = .ok (.invokestatic 123, 3) := by decide +kernel
theorem dJ52_17_12 : decode CJ52_17 12 = .ok (.istore 4, 2) := by decide +kernel
theorem dJ52_17_14 : decode CJ52_17 14 = .ok (.iload 4, 2) := by decide +kernel
theorem dJ52_17_16 : decode CJ52_17 16 = .ok (.iload_n 2, 1) := by decide +kernel
theorem dJ52_17_17 : decode CJ52_17 17 = .ok (.if_icmp .eq 47, 3) := by decide +kernel
theorem dJ52_17_20 : decode CJ52_17 20 = .ok (.aload_n 0, 1) := by decide +kernel
theorem dJ52_17_21 : decode CJ52_17 21 = .ok (.iload_n 1, 1) := by decide +kernel
theorem dJ52_17_22 : decode CJ52_17 22 = .ok (.iconst 1, 1) := by decide +kernel
theorem dJ52_17_23 : decode CJ52_17 23 = .ok (.ishl, 1) := by decide +kernel
theorem dJ52_17_24 : decode CJ52_17 24 = .ok (.iload_n 1, 1) := by decide +kernel
theorem dJ52_17_25 : decode CJ52_17 25 = .ok (.iload_n 2, 1) := by decide +kernel
theorem dJ52_17_26 : decode CJ52_17 26 = .ok (.iadd, 1) := by decide +kernel
theorem dJ52_17_27 : decode CJ52_17 27 = .ok (.invokestatic 11, 3) := by decide +kernel
theorem dJ52_17_30 : decode CJ52_17 30 = .ok (.invokestatic 126, 3) := by decide +kernel
theorem dJ52_17_33 : decode CJ52_17 33 = .ok (.astore 5, 2) := by decide +kernel
theorem dJ52_17_35 : decode CJ52_17 35 = .ok (.aload 5, 2) := by decide +kernel
theorem dJ52_17_37 : decode CJ52_17 37 = .ok (.iload 4, 2) := by decide +kernel
theorem dJ52_17_39 : decode CJ52_17 39 = .ok (.invokestatic 71, 3) := by decide +kernel
theorem dJ52_17_42 : decode CJ52_17 42 = .ok (.sipush 255, 3) := by decide +kernel
theorem dJ52_17_45 : decode CJ52_17 45 = .ok (.if_icmp .gt 16, 3) := by decide +kernel
theorem dJ52_17_61 : decode CJ52_17 61 = .ok (.aload 5, 2) := by decide +kernel
theorem dJ52_17_63 : decode CJ52_17 63 = .ok (.areturn, 1) := by decide +kernel
theorem ef_rmCmpB (m : MethodId) (x0 : Addr) (x1 : Int32) (x2 : Int32) : entryFrame m #[(.ref x0), (.int x1), (.int x2)] 6 = mkF m 0 #[.val (.ref x0), .val (.int x1), .val (.int x2), .unset, .unset, .unset] [] := by first | (simp [entryFrame, mkF, argsToLocals, Value.category]; done) | rfl
abbrev R_rmCmpB : Room := ({ frames := 4, cells := 2, slots := 40, locals := 70 } : Room)
def Q_rmCmpB (Z : State) (sa : Addr) (kx : ClassId) (cs : List Int32) (k : Nat) (fmt : Value) (h0 : Heap) (n0 : Nat) (v : Option Value) (h : Heap) (L : List Loc) : Prop := ∃ (b : Addr), ∃ (kb : ClassId), (v = some (.ref b)) ∧ (Fr n0 L) ∧ (Keep h0 h []) ∧ (Arv Z h b kb .byte (Int32.ofNat (own_enl (cs.take k))) (own_enc (cs.take k)) v0_) ∧ (h0.size ≤ b)
set_option maxRecDepth 65536 in
set_option maxHeartbeats 40000000 in
theorem rmCmpB (l : Launch) (Z : State) (a0 : Array Value) (hw : HW Z a0) (ws : List Jvm.Cond) (sa : Addr) (kx : ClassId) (cs : List Int32) (k : Nat) (fmt : Value) (h0 : Heap) (n0 : Nat) (Z0 : n0 ≤ h0.size) (I1 : Sta Z Z.heap cU cD "Z" (.int (1 : Int32))) (I2 : Sta Z Z.heap cU cH "I" (.int (0 : Int32))) (I3 : Sta Z Z.heap cU cL "I" (.int (8 : Int32))) (hfmt : fmt.isRef = true) (I4 : Sta Z Z.heap cP cG cF fmt) (OX : Old Z n0 h0) (I5 : Arv Z h0 sa kx .byte (Int32.ofNat (2 * cs.length)) (own_wide cs) v0_) (hb : cs.length ≤ 8) (hkl : k < cs.length) (hchs : own_chs cs) (hnk : ¬ own_lat (cs.take k)) :
    MF l Z M29_ (Jvm.Cond.code M29_ jdk_52_method_17_code 6 (some (.array .byte)) :: ws) R_rmCmpB #[(.ref sa), (.int (0 : Int32)), (.int (Int32.ofNat k))] h0 (Q_rmCmpB Z sa kx cs k fmt h0 n0) := by
  refine MetFree.of_bodySF (plainFor_of_name pn_java_lang_StringUTF16) hisR ?_
  intro p e s m args below meth c s₁ Bd hml0 hP hK
  obtain ⟨rfl, hZ, hh⟩ := hP
  have hx := Bd.exec
  have hy := Bd.bytes
  have hml : c.maxLocals = 6 := hml0
  have hown : s.vm.findClass "java/lang/StringUTF16" = some m.cls := findClass_of_methodNamed Bd.named
  have hnm := (name_of_methodNamed Bd.named Bd.method).1
  have X0 : Stand p l e R_rmCmpB s m #[(.ref sa), (.int (0 : Int32)), (.int (Int32.ofNat k))] below meth c s₁ [] 0 0 := Stand.of_body Bd
  have e0 : s₁.heap = h0 := by rw [← hh, Bd.state]; rfl
  have N0 := Fr.nil n0
  have pre0 := own_pre (p := p) (e := e) (below := below) (T := s₁) (ef_rmCmpB m sa (0 : Int32) (Int32.ofNat k))
  have lt_I5 : @LT.lt Nat _ sa h0.size := I5.lt
  obtain ⟨i_, hi_, hbad_, hpre_⟩ := own_firstT hnk (by omega)
  obtain ⟨T1, h1, k1, X1, e1, E1, A1, st1⟩ := newP X0 hx hZ (own_m hw 23 rfl) e0 (g := (mkF m 1 #[.val (.ref sa), .val (.int (0 : Int32)), .val (.int (Int32.ofNat k)), .unset, .unset, .unset] [(.int (Int32.ofNat k))])) rfl (dd hy dJ52_17_1) rfl (own_nn (by omega)) (cap := 8) (by rw [own_tn (by omega)]; omega) (by decide) (by decide) (by decide)
  obtain ⟨b1, g1⟩ : ∃ z, z = h0.size := ⟨_, rfl⟩
  rw [← g1] at A1 st1
  have z2 : h0.size ≤ h1.size := E1.1
  have l1 : b1 < h1.size := A1.lt
  have V1 : Arv Z h1 b1 k1 .byte (Int32.ofNat k) (List.replicate k (.int (0 : Int32))) v0_ := (Arv.new A1 (own_nn (by omega))).pad (pad_rep [] _ k)
  have O3 : Old Z n0 h1 := (OX.ext E1)
  have f4 : Arv Z h1 sa kx .byte (Int32.ofNat (2 * cs.length)) (own_wide cs) v0_ := (I5.ext E1)
  have Zc5 : n0 ≤ h1.size := by omega
  obtain ⟨_, _, ⟨T6, L6, k6, n6⟩, -, X6, ⟨Lc6, hQ6, l6, y6, z6⟩, st6⟩ := Jvm.LawKit.callS X1 hx (y := M28_) hown (mvT hZ (own_m hw 217 rfl)) (mvT hZ (own_m hw 218 rfl)) (mvT hZ (own_m hw 21 rfl)) (mvT hZ (own_m hw 219 rfl)) (by decide) (backOf (W := 0) (rmCmpBW l Z a0 hw [] sa b1 kx cs k k1 (List.replicate k (.int (0 : Int32))) i_ fmt h1 n0 Zc5 I1 I2 I3 hfmt I4 O3 f4 V1 (by omega) hb (by simp) (by first | assumption | omega | rfl | decide) (by first | assumption | omega | rfl | decide) hi_ hbad_ hpre_ hchs) hZ (own_m hw 219 rfl) (own_m hw 21 rfl) (by decide) (by decide)) (g := (mkF m 9 #[.val (.ref sa), .val (.int (0 : Int32)), .val (.int (Int32.ofNat k)), .val (.ref b1), .unset, .unset] [(.int (Int32.ofNat k)), (.int (0 : Int32)), (.ref b1), (.int (0 : Int32)), (.ref sa)])) rfl (by rw [hml]; rfl) (argsL := [(.ref sa), (.int (0 : Int32)), (.ref b1), (.int (0 : Int32)), (.int (Int32.ofNat k))]) (rest := []) (lenOf pd___BI_BII_I rfl) rfl (by show 2 * 0 + _ ≤ _; exact Nat.le_of_eq rfl) (dd hy dJ52_17_9) (fun _ _ => ⟨rfl, e1, (by decide : 1 + 0 ≤ _), (by decide : 8 + 0 ≤ _)⟩)
  dsimp only [Pt.U, Pt.locs, Pt.cells, Pt.slots] at X6 l6 y6 z6 st6 hQ6
  subst l6 y6 z6
  obtain ⟨rfl, N6q, K6⟩ := hQ6
  have N6 := Fr.app N0 N6q
  obtain ⟨h6, e6⟩ : ∃ z, T6.heap = z := ⟨_, rfl⟩
  rw [e6] at K6
  have z7 : h1.size ≤ h6.size := K6.1
  have Zc8 : n0 ≤ h6.size := by omega
  obtain ⟨_, _, ⟨T9, L9, k9, n9⟩, -, X9, ⟨Lc9, hQ9, l9, y9, z9⟩, st9⟩ := Jvm.LawKit.callS X6 hx (y := M2_) hown (mvT hZ (own_m hw 197 rfl)) (mvT hZ (own_m hw 198 rfl)) (mvT hZ (own_m hw 21 rfl)) (mvT hZ (own_m hw 199 rfl)) (by decide) (backOf (W := 2) (rmNBL l Z a0 hw [] k h6 n0 Zc8 (by omega)) hZ (own_m hw 199 rfl) (own_m hw 21 rfl) (by decide) (by decide)) (g := (mkF m 27 #[.val (.ref sa), .val (.int (0 : Int32)), .val (.int (Int32.ofNat k)), .val (.ref b1), .val (.int (Int32.ofNat i_)), .unset] [(.int (Int32.ofNat k)), (.int (0 : Int32)), (.ref sa)])) rfl (by rw [hml]; rfl) (argsL := [(.int (Int32.ofNat k))]) (rest := [(.int (0 : Int32)), (.ref sa)]) (lenOf pd__I_I rfl) rfl (by show 2 * 0 + _ ≤ _; exact Nat.le_of_eq rfl) (dd hy dJ52_17_27) (fun _ _ => ⟨rfl, e6, (by decide : 1 + 0 ≤ _), (by decide : 8 + 0 ≤ _)⟩)
  dsimp only [Pt.U, Pt.locs, Pt.cells, Pt.slots] at X9 l9 y9 z9 st9 hQ9
  subst l9 y9 z9
  obtain ⟨rfl, N9q, e9⟩ := hQ9
  have N9 := Fr.app N6 N9q
  have f10 : Arv Z h6 sa kx .byte (Int32.ofNat (2 * cs.length)) (own_wide cs) v0_ := (f4.keep K6 (ninS (show @Ne Nat sa b1 by omega) nin0))
  have V11 : Arv Z h6 sa kx .byte (Int32.ofNat (own_wb cs).length) ((own_wb cs).map Value.int) v0_ := own_w2b f10
  have Zc12 : n0 ≤ h6.size := by omega
  obtain ⟨_, _, ⟨T13, L13, k13, n13⟩, -, X13, ⟨Lc13, hQ13, l13, y13, z13⟩, st13⟩ := Jvm.LawKit.callS X9 hx (y := M18_) hown (mvT hZ (own_m hw 232 rfl)) (mvT hZ (own_m hw 163 rfl)) (mvT hZ (own_m hw 164 rfl)) (mvT hZ (own_m hw 165 rfl)) (by decide) (backOf (W := 0) (rmCR l Z a0 hw [] sa kx (own_wb cs) (2 * k) h6 n0 Zc12 V11 (by rw [own_wbl]; omega) (by rw [own_wbl]; omega)) hZ (own_m hw 165 rfl) (own_m hw 164 rfl) (by decide) (by decide)) (g := (mkF m 30 #[.val (.ref sa), .val (.int (0 : Int32)), .val (.int (Int32.ofNat k)), .val (.ref b1), .val (.int (Int32.ofNat i_)), .unset] [(.int (Int32.ofNat (2 * k))), (.int (0 : Int32)), (.ref sa)])) rfl (by rw [hml]; rfl) (argsL := [(.ref sa), (.int (0 : Int32)), (.int (Int32.ofNat (2 * k)))]) (rest := []) (lenOf pd___BII__B rfl) rfl (by show 2 * 0 + _ ≤ _; exact Nat.le_of_eq rfl) (dd hy dJ52_17_30) (fun _ _ => ⟨rfl, e9, (by decide : 1 + 1 ≤ _), (by decide : 8 + 32 ≤ _)⟩)
  dsimp only [Pt.U, Pt.locs, Pt.cells, Pt.slots] at X13 l13 y13 z13 st13 hQ13
  subst l13 y13 z13
  obtain ⟨b_13, kb_13, rfl, N13q, K13, Fq13_0, P13_0⟩ := hQ13
  have N13 := Fr.app N9 N13q
  obtain ⟨h13, e13⟩ : ∃ z, T13.heap = z := ⟨_, rfl⟩
  rw [e13] at K13 Fq13_0
  have z14 : h6.size ≤ h13.size := K13.1
  have lt13_0 : @LT.lt Nat _ b_13 h13.size := Fq13_0.lt
  have V15 : Arv Z h13 b_13 kb_13 .byte (Int32.ofNat (2 * k)) (own_wide (cs.take k)) v0_ := own_cutw Fq13_0
  have O16 : Old Z n0 h13 := ((O3.keep K6 (allS (show n0 ≤ b1 by omega) all0)).keep K13 all0)
  have Zc17 : n0 ≤ h13.size := by omega
  obtain ⟨_, _, ⟨T18, L18, k18, n18⟩, -, X18, ⟨Lc18, hQ18, l18, y18, z18⟩, st18⟩ := Jvm.LawKit.callS X13 hx (y := M5_) hown (mvT hZ (own_m hw 207 rfl)) (mvT hZ (own_m hw 208 rfl)) (mvT hZ (own_m hw 21 rfl)) (mvT hZ (own_m hw 209 rfl)) (by decide) (backOf (W := 0) (rmGet l Z a0 hw [] b_13 kb_13 (own_wide (cs.take k)) k i_ ((cs.take k).getD i_ 0) h13 n0 Zc17 I1 I2 I3 O16 V15 (by omega) hi_ (own_wide0 _ (cs.take k) i_ (by rw [List.length_take]; omega)) (own_wide1 _ (cs.take k) i_ (by rw [List.length_take]; omega)) (hchs _ (List.mem_of_mem_take (own_mem (cs.take k) i_ (by rw [List.length_take]; omega)))).1 (hchs _ (List.mem_of_mem_take (own_mem (cs.take k) i_ (by rw [List.length_take]; omega)))).2) hZ (own_m hw 209 rfl) (own_m hw 21 rfl) (by decide) (by decide)) (g := (mkF m 39 #[.val (.ref sa), .val (.int (0 : Int32)), .val (.int (Int32.ofNat k)), .val (.ref b1), .val (.int (Int32.ofNat i_)), .val (.ref b_13)] [(.int (Int32.ofNat i_)), (.ref b_13)])) rfl (by rw [hml]; rfl) (argsL := [(.ref b_13), (.int (Int32.ofNat i_))]) (rest := []) (lenOf pd___BI_C rfl) rfl (by show 2 * 0 + _ ≤ _; exact Nat.le_of_eq rfl) (dd hy dJ52_17_39) (fun _ _ => ⟨rfl, e13, (by decide : 2 + 0 ≤ _), (by decide : 40 + 0 ≤ _)⟩)
  dsimp only [Pt.U, Pt.locs, Pt.cells, Pt.slots] at X18 l18 y18 z18 st18 hQ18
  subst l18 y18 z18
  obtain ⟨rfl, N18q, e18⟩ := hQ18
  have N18 := Fr.app N13 N18q
  have s19 : ∀ t_, Steps p.tables e below (T18.setTop (mkF m 63 #[.val (.ref sa), .val (.int (0 : Int32)), .val (.int (Int32.ofNat k)), .val (.ref b1), .val (.int (Int32.ofNat i_)), .val (.ref b_13)] [(.ref b_13)])) t_ → Steps _ _ _ _ t_ := fun t_ k_ => pre0 t_ (by
    refine XS.iloadN X0.here hx rfl (dd hy dJ52_17_0) rfl ?_
    refine st1 _ ?_
    refine XS.astoreN X1.here hx rfl (dd hy dJ52_17_3) rfl rfl (l' := #[.val (.ref sa), .val (.int (0 : Int32)), .val (.int (Int32.ofNat k)), .val (.ref b1), .unset, .unset]) rfl ?_
    refine XS.aloadN X1.here hx rfl (dd hy dJ52_17_4) rfl rfl ?_
    refine XS.iloadN X1.here hx rfl (dd hy dJ52_17_5) rfl ?_
    refine XS.aloadN X1.here hx rfl (dd hy dJ52_17_6) rfl rfl ?_
    show Steps _ _ _ (T1.setTop (mkF m 7 #[.val (.ref sa), .val (.int (0 : Int32)), .val (.int (Int32.ofNat k)), .val (.ref b1), .unset, .unset] [(.ref b1), (.int (0 : Int32)), (.ref sa)])) _
    refine XS.iconst X1.here hx rfl (dd hy dJ52_17_7) ?_
    refine XS.iloadN X1.here hx rfl (dd hy dJ52_17_8) rfl ?_
    refine st6 _ ?_
    show Steps _ _ _ (T6.setTop (mkF m 12 #[.val (.ref sa), .val (.int (0 : Int32)), .val (.int (Int32.ofNat k)), .val (.ref b1), .unset, .unset] [(.int (Int32.ofNat i_))])) _
    refine XS.istore X6.here hx rfl (dd hy dJ52_17_12) rfl (l' := #[.val (.ref sa), .val (.int (0 : Int32)), .val (.int (Int32.ofNat k)), .val (.ref b1), .val (.int (Int32.ofNat i_)), .unset]) rfl ?_
    refine XS.iload X6.here hx rfl (dd hy dJ52_17_14) rfl ?_
    refine XS.iloadN X6.here hx rfl (dd hy dJ52_17_16) rfl ?_
    refine XS.icmpNo X6.here hx rfl (dd hy dJ52_17_17) rfl (feq (fun e => by have := own_inj (by omega) (by omega) e; omega)).1 ?_
    show Steps _ _ _ (T6.setTop (mkF m 20 #[.val (.ref sa), .val (.int (0 : Int32)), .val (.int (Int32.ofNat k)), .val (.ref b1), .val (.int (Int32.ofNat i_)), .unset] [])) _
    refine XS.aloadN X6.here hx rfl (dd hy dJ52_17_20) rfl rfl ?_
    refine XS.iloadN X6.here hx rfl (dd hy dJ52_17_21) rfl ?_
    refine XS.iconst X6.here hx rfl (dd hy dJ52_17_22) ?_
    refine XS.ishl X6.here hx rfl (dd hy dJ52_17_23) rfl ?_
    show Steps _ _ _ (T6.setTop (mkF m 24 #[.val (.ref sa), .val (.int (0 : Int32)), .val (.int (Int32.ofNat k)), .val (.ref b1), .val (.int (Int32.ofNat i_)), .unset] [(.int ((0 : Int32) <<< ((1 : Int32) &&& 31))), (.ref sa)])) _
    refine castTop (g' := (mkF m 24 #[.val (.ref sa), .val (.int (0 : Int32)), .val (.int (Int32.ofNat k)), .val (.ref b1), .val (.int (Int32.ofNat i_)), .unset] [(.int (0 : Int32)), (.ref sa)])) (by rw [own_shl01]) ?_
    show Steps _ _ _ (T6.setTop (mkF m 24 #[.val (.ref sa), .val (.int (0 : Int32)), .val (.int (Int32.ofNat k)), .val (.ref b1), .val (.int (Int32.ofNat i_)), .unset] [(.int (0 : Int32)), (.ref sa)])) _
    refine XS.iloadN X6.here hx rfl (dd hy dJ52_17_24) rfl ?_
    refine XS.iloadN X6.here hx rfl (dd hy dJ52_17_25) rfl ?_
    refine XS.iadd X6.here hx rfl (dd hy dJ52_17_26) rfl ?_
    show Steps _ _ _ (T6.setTop (mkF m 27 #[.val (.ref sa), .val (.int (0 : Int32)), .val (.int (Int32.ofNat k)), .val (.ref b1), .val (.int (Int32.ofNat i_)), .unset] [(.int ((0 : Int32) + (Int32.ofNat k))), (.int (0 : Int32)), (.ref sa)])) _
    refine castTop (g' := (mkF m 27 #[.val (.ref sa), .val (.int (0 : Int32)), .val (.int (Int32.ofNat k)), .val (.ref b1), .val (.int (Int32.ofNat i_)), .unset] [(.int (Int32.ofNat k)), (.int (0 : Int32)), (.ref sa)])) (by rw [Int32.zero_add]) ?_
    show Steps _ _ _ (T6.setTop (mkF m 27 #[.val (.ref sa), .val (.int (0 : Int32)), .val (.int (Int32.ofNat k)), .val (.ref b1), .val (.int (Int32.ofNat i_)), .unset] [(.int (Int32.ofNat k)), (.int (0 : Int32)), (.ref sa)])) _
    refine st9 _ ?_
    show Steps _ _ _ (T9.setTop (mkF m 30 #[.val (.ref sa), .val (.int (0 : Int32)), .val (.int (Int32.ofNat k)), .val (.ref b1), .val (.int (Int32.ofNat i_)), .unset] [(.int (Int32.ofNat (2 * k))), (.int (0 : Int32)), (.ref sa)])) _
    refine st13 _ ?_
    show Steps _ _ _ (T13.setTop (mkF m 33 #[.val (.ref sa), .val (.int (0 : Int32)), .val (.int (Int32.ofNat k)), .val (.ref b1), .val (.int (Int32.ofNat i_)), .unset] [(.ref b_13)])) _
    refine XS.astore X13.here hx rfl (dd hy dJ52_17_33) rfl rfl (l' := #[.val (.ref sa), .val (.int (0 : Int32)), .val (.int (Int32.ofNat k)), .val (.ref b1), .val (.int (Int32.ofNat i_)), .val (.ref b_13)]) rfl ?_
    refine XS.aload X13.here hx rfl (dd hy dJ52_17_35) rfl rfl ?_
    refine XS.iload X13.here hx rfl (dd hy dJ52_17_37) rfl ?_
    refine st18 _ ?_
    show Steps _ _ _ (T18.setTop (mkF m 42 #[.val (.ref sa), .val (.int (0 : Int32)), .val (.int (Int32.ofNat k)), .val (.ref b1), .val (.int (Int32.ofNat i_)), .val (.ref b_13)] [(.int ((cs.take k).getD i_ 0))])) _
    refine XS.sipush X18.here hx rfl (dd hy dJ52_17_42) ?_
    refine XS.icmpYes X18.here hx rfl (pc0 := 45) (pc' := 61) rfl (dd hy dJ52_17_45) rfl (tlt (by rw [own_gtake hi_]; exact hbad_)).2.2.1 (by decide) (by decide) ?_
    show Steps _ _ _ (T18.setTop (mkF m 61 #[.val (.ref sa), .val (.int (0 : Int32)), .val (.int (Int32.ofNat k)), .val (.ref b1), .val (.int (Int32.ofNat i_)), .val (.ref b_13)] [])) _
    refine XS.aload X18.here hx rfl (dd hy dJ52_17_61) rfl rfl ?_
    exact k_)
  obtain ⟨fs, hr, hrun, hended, hW, hsame⟩ := X18.leave (v := some (.ref b_13)) (fun h => by rw [Bd.returns] at h; cases h)
  refine ⟨_, _, s19 _ ?_, hrun, hended, _, _, rfl, ?_, ⟨_, rfl⟩, hW, hsame.mono (by decide) (by decide)⟩
  · jvm_step X18.here [X18.here.top, hx, (dd hy dJ52_17_63), X18.method', Bd.returns, Value.isRef, FieldType.isReference]
    first | (intro acts; rw [hr _ acts rfl rfl rfl]) | rw [hr _ _ rfl rfl rfl]
    exact Steps.refl _
  · show Q_rmCmpB Z _ _ _ _ _ h0 n0 _ T18.heap _
    rw [e18]
    exact ⟨b_13, kb_13, rfl, N18, ((((Keep.refl h0 []).ext E1).trans K6 (allS (Or.inr (show h0.size ≤ b1 by omega)) all0)).trans K13 all0), own_fixW hnk V15 (by rw [List.length_take]; omega), by omega⟩
theorem dJ52_69_0 : decode CJ52_69 0 = .ok (.iload_n 2, 1) := by decide +kernel
theorem dJ52_69_1 : decode CJ52_69 1 = .ok (.ifCond .ne 7, 3) := by decide +kernel
theorem dJ52_69_8 : decode CJ52_69 8 = .ok (.getstatic 251, 3) := by decide +kernel
theorem dJ52_69_11 : decode CJ52_69 11 = .ok (.ifCond .eq 28, 3) := by decide +kernel
theorem dJ52_69_14 : decode CJ52_69 14 = .ok (.aload_n 0, 1) := by decide +kernel
theorem dJ52_69_15 : decode CJ52_69 15 = .ok (.iload_n 1, 1) := by decide +kernel
theorem dJ52_69_16 : decode CJ52_69 16 = .ok (.iload_n 2, 1) := by decide +kernel
theorem dJ52_69_17 : decode CJ52_69 17 = .ok (.invokestatic 257, 3) := by decide +kernel
theorem dJ52_69_20 : decode CJ52_69 20 = .ok (.astore_n 3, 1) := by decide +kernel
theorem dJ52_69_21 : decode CJ52_69 21 = .ok (.aload_n 3, 1) := by decide +kernel
theorem dJ52_69_22 : decode CJ52_69 22 = .ok (.iload_n 2, 1) := by decide +kernel
theorem dJ52_69_23 : decode CJ52_69 23 = .ok (.invokestatic 259, 3) := by decide +kernel
theorem dJ52_69_26 : decode CJ52_69 26 = .ok (.istore 4, 2) := by decide +kernel
theorem dJ52_69_28 : decode CJ52_69 28 = .ok (.new 3, 3) := by decide +kernel
theorem dJ52_69_31 : decode CJ52_69 31 = .ok (.dup, 1) := by decide +kernel
theorem dJ52_69_32 : decode CJ52_69 32 = .ok (.aload_n 3, 1) := by decide +kernel
theorem dJ52_69_33 : decode CJ52_69 33 = .ok (.iload 4, 2) := by decide +kernel
theorem dJ52_69_35 : decode CJ52_69 35 = .ok (.invokespecial 263, 3) := by decide +kernel
theorem dJ52_69_38 : decode CJ52_69 38 = .ok (.areturn, 1) := by decide +kernel
theorem ef_rmNewW (m : MethodId) (x0 : Addr) (x1 : Int32) (x2 : Int32) : entryFrame m #[(.ref x0), (.int x1), (.int x2)] 5 = mkF m 0 #[.val (.ref x0), .val (.int x1), .val (.int x2), .unset, .unset] [] := by first | (simp [entryFrame, mkF, argsToLocals, Value.category]; done) | rfl
abbrev R_rmNewW : Room := ({ frames := 5, cells := 3, slots := 44, locals := 87 } : Room)
def Q_rmNewW (Z : State) (sa : Addr) (cst : Int32) (kx : ClassId) (cs : List Int32) (k : Nat) (fmt : Value) (h0 : Heap) (n0 : Nat) (v : Option Value) (h : Heap) (L : List Loc) : Prop := ∃ (a : Addr), ∃ (b : Addr), ∃ (kb : ClassId), (v = some (.ref a)) ∧ (Fr n0 L) ∧ (Keep h0 h []) ∧ (Exa Z h a cS) ∧ (Fld Z h a cS "value" "[B" (.ref b)) ∧ (Fld Z h a cS "coder" "B" (.int (own_cod (cs.take k)))) ∧ (Arv Z h b kb .byte (Int32.ofNat (own_enl (cs.take k))) (own_enc (cs.take k)) v0_) ∧ (h0.size ≤ a) ∧ (h0.size ≤ b)
set_option maxRecDepth 65536 in
set_option maxHeartbeats 40000000 in
theorem rmNewW (l : Launch) (Z : State) (a0 : Array Value) (hw : HW Z a0) (ws : List Jvm.Cond) (sa : Addr) (cst : Int32) (kx : ClassId) (cs : List Int32) (k : Nat) (fmt : Value) (h0 : Heap) (n0 : Nat) (Z0 : n0 ≤ h0.size) (I1 : Sta Z Z.heap cS cC "Z" (.int cst)) (I2 : Sta Z Z.heap cU cD "Z" (.int (1 : Int32))) (I3 : Sta Z Z.heap cU cH "I" (.int (0 : Int32))) (I4 : Sta Z Z.heap cU cL "I" (.int (8 : Int32))) (hfmt : fmt.isRef = true) (I5 : Sta Z Z.heap cP cG cF fmt) (OX : Old Z n0 h0) (hcst : ¬ (cst = (0 : Int32))) (I6 : Arv Z h0 sa kx .byte (Int32.ofNat (2 * cs.length)) (own_wide cs) v0_) (hb : cs.length ≤ 8) (hkl : k < cs.length) (hchs : own_chs cs) (hnk : ¬ own_lat (cs.take k)) (hk0 : 0 < k) :
    MF l Z M30_ (Jvm.Cond.code M30_ jdk_52_method_69_code 5 (some (.object "java/lang/String")) :: ws) R_rmNewW #[(.ref sa), (.int (0 : Int32)), (.int (Int32.ofNat k))] h0 (Q_rmNewW Z sa cst kx cs k fmt h0 n0) := by
  refine MetFree.of_bodySF (plainFor_of_name pn_java_lang_StringUTF16) hisR ?_
  intro p e s m args below meth c s₁ Bd hml0 hP hK
  obtain ⟨rfl, hZ, hh⟩ := hP
  have hx := Bd.exec
  have hy := Bd.bytes
  have hml : c.maxLocals = 5 := hml0
  have hown : s.vm.findClass "java/lang/StringUTF16" = some m.cls := findClass_of_methodNamed Bd.named
  have hnm := (name_of_methodNamed Bd.named Bd.method).1
  have X0 : Stand p l e R_rmNewW s m #[(.ref sa), (.int (0 : Int32)), (.int (Int32.ofNat k))] below meth c s₁ [] 0 0 := Stand.of_body Bd
  have e0 : s₁.heap = h0 := by rw [← hh, Bd.state]; rfl
  have N0 := Fr.nil n0
  have pre0 := own_pre (p := p) (e := e) (below := below) (T := s₁) (ef_rmNewW m sa (0 : Int32) (Int32.ofNat k))
  have lt_I6 : @LT.lt Nat _ sa h0.size := I6.lt
  obtain ⟨T1, X1, e1, st1⟩ := getS2 X0 hx hZ hown (host := "") (Or.inl (own_m hw 213 rfl)) Via.refl e0 (I1.ext OX.2) (g := (mkF m 8 #[.val (.ref sa), .val (.int (0 : Int32)), .val (.int (Int32.ofNat k)), .unset, .unset] [])) rfl (dd hy dJ52_69_8)
  have Zc2 : n0 ≤ h0.size := by omega
  obtain ⟨_, _, ⟨T3, L3, k3, n3⟩, -, X3, ⟨Lc3, hQ3, l3, y3, z3⟩, st3⟩ := Jvm.LawKit.callS X1 hx (y := M29_) hown (mvT hZ (own_m hw 214 rfl)) (mvT hZ (own_m hw 215 rfl)) (mvT hZ (own_m hw 21 rfl)) (mvT hZ (own_m hw 216 rfl)) (by decide) (backOf (W := 0) (rmCmpB l Z a0 hw [] sa kx cs k fmt h0 n0 Zc2 I2 I3 I4 hfmt I5 OX I6 hb hkl hchs hnk) hZ (own_m hw 216 rfl) (own_m hw 21 rfl) (by decide) (by decide)) (g := (mkF m 17 #[.val (.ref sa), .val (.int (0 : Int32)), .val (.int (Int32.ofNat k)), .unset, .unset] [(.int (Int32.ofNat k)), (.int (0 : Int32)), (.ref sa)])) rfl (by rw [hml]; rfl) (argsL := [(.ref sa), (.int (0 : Int32)), (.int (Int32.ofNat k))]) (rest := []) (lenOf pd___BII__B rfl) rfl (by show 2 * 0 + _ ≤ _; exact Nat.le_of_eq rfl) (dd hy dJ52_69_17) (fun _ _ => ⟨rfl, e1, (by decide : 0 + 2 ≤ _), (by decide : 0 + 40 ≤ _)⟩)
  dsimp only [Pt.U, Pt.locs, Pt.cells, Pt.slots] at X3 l3 y3 z3 st3 hQ3
  subst l3 y3 z3
  obtain ⟨b_3, kb_3, rfl, N3q, K3, Fq3_0, P3_0⟩ := hQ3
  have N3 := Fr.app N0 N3q
  obtain ⟨h3, e3⟩ : ∃ z, T3.heap = z := ⟨_, rfl⟩
  rw [e3] at K3 Fq3_0
  have z4 : h0.size ≤ h3.size := K3.1
  have lt3_0 : @LT.lt Nat _ b_3 h3.size := Fq3_0.lt
  have Zc5 : n0 ≤ h3.size := by omega
  obtain ⟨_, _, ⟨T6, L6, k6, n6⟩, -, X6, ⟨Lc6, hQ6, l6, y6, z6⟩, st6⟩ := Jvm.LawKit.callS X3 hx (y := M1_) hown (mvT hZ (own_m hw 233 rfl)) (mvT hZ (own_m hw 28 rfl)) (mvT hZ (own_m hw 21 rfl)) (mvT hZ (own_m hw 29 rfl)) (by decide) (backOf (W := 0) (rmCod l Z a0 hw [] b_3 (Int32.ofNat k) kb_3 (Int32.ofNat (own_enl (cs.take k))) (own_enc (cs.take k)) h3 n0 Zc5 Fq3_0) hZ (own_m hw 29 rfl) (own_m hw 21 rfl) (by decide) (by decide)) (g := (mkF m 23 #[.val (.ref sa), .val (.int (0 : Int32)), .val (.int (Int32.ofNat k)), .val (.ref b_3), .unset] [(.int (Int32.ofNat k)), (.ref b_3)])) rfl (by rw [hml]; rfl) (argsL := [(.ref b_3), (.int (Int32.ofNat k))]) (rest := []) (lenOf pd___BI_B rfl) rfl (by show 2 * 0 + _ ≤ _; exact Nat.le_of_eq rfl) (dd hy dJ52_69_23) (fun _ _ => ⟨rfl, e3, (by decide : 2 + 0 ≤ _), (by decide : 40 + 0 ≤ _)⟩)
  dsimp only [Pt.U, Pt.locs, Pt.cells, Pt.slots] at X6 l6 y6 z6 st6 hQ6
  subst l6 y6 z6
  obtain ⟨rfl, N6q, e6⟩ := hQ6
  have N6 := Fr.app N3 N6q
  obtain ⟨T7, h7, X7, e7, E7, A7, D7, -, st7⟩ := newO X6 hx hZ hown (own_m hw 234 rfl) (own_m hw 6 rfl) (own_m hw 7 rfl) e6 (g := (mkF m 28 #[.val (.ref sa), .val (.int (0 : Int32)), .val (.int (Int32.ofNat k)), .val (.ref b_3), .val (.int (own_cod (cs.take k)))] [])) rfl (dd hy dJ52_69_28) (by decide) (by decide)
  obtain ⟨b7, g7⟩ : ∃ z, z = h3.size := ⟨_, rfl⟩
  rw [← g7] at A7 D7 st7
  have z8 : h3.size ≤ h7.size := E7.1
  have l7 : b7 < h7.size := A7.lt
  have F9 : Fld Z h7 b7 cS "coder" "B" (.int (0 : Int32)) := D7 (Or.inr (own_m hw 31 rfl)) (ty := .byte) (by decide)
  have F10 : Fld Z h7 b7 cS "value" "[B" .null := D7 (Or.inr (own_m hw 33 rfl)) (ty := (.array .byte)) (by decide)
  have Zc11 : n0 ≤ h7.size := by omega
  obtain ⟨_, _, ⟨T12, L12, k12, n12⟩, -, X12, ⟨Lc12, hQ12, l12, y12, z12⟩, st12⟩ := X7.specialBack hx (y := M19_) rfl hown (mvT hZ (own_m hw 235 rfl)) (mvT hZ (own_m hw 189 rfl)) (mvT hZ (own_m hw 190 rfl)) (by decide) (backOf (W := 1) (rmSBBw l Z a0 hw [] b7 b_3 (cs.take k) h7 n0 Zc11 A7 F10 F9 (by first | assumption | omega | rfl | decide)) hZ (own_m hw 190 rfl) (own_m hw 7 rfl) (by decide) (by decide)) (g := (mkF m 35 #[.val (.ref sa), .val (.int (0 : Int32)), .val (.int (Int32.ofNat k)), .val (.ref b_3), .val (.int (own_cod (cs.take k)))] [(.int (own_cod (cs.take k))), (.ref b_3), (.ref b7), (.ref b7)])) rfl (by rw [hml]; rfl) (Steps.refl _) (a := b7) (argsL := [(.ref b_3), (.int (own_cod (cs.take k)))]) (rest := [(.ref b7)]) (lenOf pd___BB_V rfl) rfl (by show 2 * 0 + _ ≤ _; exact Nat.le_of_eq rfl) (dd hy dJ52_69_35) (fun _ _ => ⟨rfl, e7, (by decide : 3 + 0 ≤ _), (by decide : 44 + 0 ≤ _)⟩)
  dsimp only [Pt.U, Pt.locs, Pt.cells, Pt.slots] at X12 l12 y12 z12 st12 hQ12
  subst l12 y12 z12
  obtain ⟨rfl, N12q, K12, Fq12_0, Fq12_1, Fq12_2⟩ := hQ12
  have N12 := Fr.app N6 N12q
  obtain ⟨h12, e12⟩ : ∃ z, T12.heap = z := ⟨_, rfl⟩
  rw [e12] at K12 Fq12_0 Fq12_1 Fq12_2
  have z13 : h7.size ≤ h12.size := K12.1
  have lt12_0 : @LT.lt Nat _ b7 h12.size := Fq12_0.lt
  have s14 : ∀ t_, Steps p.tables e below (T12.setTop (mkF m 38 #[.val (.ref sa), .val (.int (0 : Int32)), .val (.int (Int32.ofNat k)), .val (.ref b_3), .val (.int (own_cod (cs.take k)))] [(.ref b7)])) t_ → Steps _ _ _ _ t_ := fun t_ k_ => pre0 t_ (by
    refine XS.iloadN X0.here hx rfl (dd hy dJ52_69_0) rfl ?_
    refine XS.ifYes X0.here hx rfl (pc0 := 1) (pc' := 8) rfl (dd hy dJ52_69_1) rfl ((if0 _ _).trans (feq (own_ne0 hk0 (by omega))).2) (by decide) (by decide) ?_
    show Steps _ _ _ (s₁.setTop (mkF m 8 #[.val (.ref sa), .val (.int (0 : Int32)), .val (.int (Int32.ofNat k)), .unset, .unset] [])) _
    refine st1 _ ?_
    refine XS.ifNo X1.here hx rfl (dd hy dJ52_69_11) rfl ((if0 _ _).trans (feq hcst).1) ?_
    show Steps _ _ _ (T1.setTop (mkF m 14 #[.val (.ref sa), .val (.int (0 : Int32)), .val (.int (Int32.ofNat k)), .unset, .unset] [])) _
    refine XS.aloadN X1.here hx rfl (dd hy dJ52_69_14) rfl rfl ?_
    refine XS.iloadN X1.here hx rfl (dd hy dJ52_69_15) rfl ?_
    refine XS.iloadN X1.here hx rfl (dd hy dJ52_69_16) rfl ?_
    refine st3 _ ?_
    show Steps _ _ _ (T3.setTop (mkF m 20 #[.val (.ref sa), .val (.int (0 : Int32)), .val (.int (Int32.ofNat k)), .unset, .unset] [(.ref b_3)])) _
    refine XS.astoreN X3.here hx rfl (dd hy dJ52_69_20) rfl rfl (l' := #[.val (.ref sa), .val (.int (0 : Int32)), .val (.int (Int32.ofNat k)), .val (.ref b_3), .unset]) rfl ?_
    refine XS.aloadN X3.here hx rfl (dd hy dJ52_69_21) rfl rfl ?_
    refine XS.iloadN X3.here hx rfl (dd hy dJ52_69_22) rfl ?_
    refine st6 _ ?_
    show Steps _ _ _ (T6.setTop (mkF m 26 #[.val (.ref sa), .val (.int (0 : Int32)), .val (.int (Int32.ofNat k)), .val (.ref b_3), .unset] [(.int (nar .byte (own_lo (ushr ((Int32.ofNat k) - (Int32.ofNat (own_enl (cs.take k)))) (31 : Int32)))))])) _
    refine castTop (g' := (mkF m 26 #[.val (.ref sa), .val (.int (0 : Int32)), .val (.int (Int32.ofNat k)), .val (.ref b_3), .unset] [(.int (own_cod (cs.take k)))])) (by rw [own_codl (cs := cs.take k) (by rw [List.length_take]; omega) hk0 (by omega)]) ?_
    show Steps _ _ _ (T6.setTop (mkF m 26 #[.val (.ref sa), .val (.int (0 : Int32)), .val (.int (Int32.ofNat k)), .val (.ref b_3), .unset] [(.int (own_cod (cs.take k)))])) _
    refine XS.istore X6.here hx rfl (dd hy dJ52_69_26) rfl (l' := #[.val (.ref sa), .val (.int (0 : Int32)), .val (.int (Int32.ofNat k)), .val (.ref b_3), .val (.int (own_cod (cs.take k)))]) rfl ?_
    refine st7 _ ?_
    refine XS.dup X7.here hx rfl (dd hy dJ52_69_31) rfl rfl ?_
    refine XS.aloadN X7.here hx rfl (dd hy dJ52_69_32) rfl rfl ?_
    refine XS.iload X7.here hx rfl (dd hy dJ52_69_33) rfl ?_
    refine st12.trans ?_
    show Steps _ _ _ (T12.setTop (mkF m 38 #[.val (.ref sa), .val (.int (0 : Int32)), .val (.int (Int32.ofNat k)), .val (.ref b_3), .val (.int (own_cod (cs.take k)))] [(.ref b7)])) _
    exact k_)
  obtain ⟨fs, hr, hrun, hended, hW, hsame⟩ := X12.leave (v := some (.ref b7)) (fun h => by rw [Bd.returns] at h; cases h)
  have f15 : Arv Z h12 b_3 kb_3 .byte (Int32.ofNat (own_enl (cs.take k))) (own_enc (cs.take k)) v0_ := ((Fq3_0.ext E7).keep K12 (ninS (show @Ne Nat b_3 b7 by omega) nin0))
  refine ⟨_, _, s14 _ ?_, hrun, hended, _, _, rfl, ?_, ⟨_, rfl⟩, hW, hsame.mono (by decide) (by decide)⟩
  · jvm_step X12.here [X12.here.top, hx, (dd hy dJ52_69_38), X12.method', Bd.returns, Value.isRef, FieldType.isReference]
    first | (intro acts; rw [hr _ acts rfl rfl rfl]) | rw [hr _ _ rfl rfl rfl]
    exact Steps.refl _
  · show Q_rmNewW Z _ _ _ _ _ _ h0 n0 _ T12.heap _
    rw [e12]
    exact ⟨b7, b_3, kb_3, rfl, N12, ((((Keep.refl h0 []).trans K3 all0).ext E7).trans K12 (allS (Or.inr (show h0.size ≤ b7 by omega)) all0)), Fq12_0, Fq12_1, Fq12_2, f15, by omega, by omega⟩
theorem dJ42_92_47 : decode CJ42_92 47 = .ok (.aload_n 0, 1) := by decide +kernel
theorem dJ42_92_48 : decode CJ42_92 48 = .ok (.getfield 9, 3) := by decide +kernel
theorem dJ42_92_51 : decode CJ42_92 51 = .ok (.iload_n 1, 1) := by decide +kernel
theorem dJ42_92_52 : decode CJ42_92 52 = .ok (.iload 4, 2) := by decide +kernel
theorem dJ42_92_54 : decode CJ42_92 54 = .ok (.invokestatic 689, 3) := by decide +kernel
theorem ef_rmSubW (m : MethodId) (x0 : Addr) (x1 : Int32) (x2 : Int32) : entryFrame m #[(.ref x0), (.int x1), (.int x2)] 5 = mkF m 0 #[.val (.ref x0), .val (.int x1), .val (.int x2), .unset, .unset] [] := by first | (simp [entryFrame, mkF, argsToLocals, Value.category]; done) | rfl
abbrev R_rmSubW : Room := ({ frames := 6, cells := 3, slots := 44, locals := 103 } : Room)
def Q_rmSubW (Z : State) (a : Addr) (cst : Int32) (b : Addr) (kb : ClassId) (cs : List Int32) (k : Nat) (fmt : Value) (h0 : Heap) (n0 : Nat) (v : Option Value) (h : Heap) (L : List Loc) : Prop := ∃ (sa : Addr), ∃ (sb : Addr), ∃ (ks : ClassId), (v = some (.ref sa)) ∧ (Fr n0 L) ∧ (Keep h0 h []) ∧ (Exa Z h sa cS) ∧ (Fld Z h sa cS "value" "[B" (.ref sb)) ∧ (Fld Z h sa cS "coder" "B" (.int (own_cod (cs.take k)))) ∧ (Arv Z h sb ks .byte (Int32.ofNat (own_enl (cs.take k))) (own_enc (cs.take k)) v0_) ∧ (h0.size ≤ sa) ∧ (h0.size ≤ sb)
set_option maxRecDepth 65536 in
set_option maxHeartbeats 40000000 in
theorem rmSubW (l : Launch) (Z : State) (a0 : Array Value) (hw : HW Z a0) (ws : List Jvm.Cond) (a : Addr) (cst : Int32) (b : Addr) (kb : ClassId) (cs : List Int32) (k : Nat) (fmt : Value) (h0 : Heap) (n0 : Nat) (Z0 : n0 ≤ h0.size) (I1 : Sta Z Z.heap cS cC "Z" (.int cst)) (I2 : Sta Z Z.heap cU cD "Z" (.int (1 : Int32))) (I3 : Sta Z Z.heap cU cH "I" (.int (0 : Int32))) (I4 : Sta Z Z.heap cU cL "I" (.int (8 : Int32))) (hfmt : fmt.isRef = true) (I5 : Sta Z Z.heap cP cG cF fmt) (OX : Old Z n0 h0) (hcst : ¬ (cst = (0 : Int32))) (I6 : Exa Z h0 a cS) (I7 : Fld Z h0 a cS "value" "[B" (.ref b)) (I8 : Fld Z h0 a cS "coder" "B" (.int (own_cod cs))) (I9 : Arv Z h0 b kb .byte (Int32.ofNat (own_enl cs)) (own_enc cs) v0_) (hnl : ¬ own_lat cs) (hbl : cs.length ≤ 8) (hkl : k < cs.length) (hchs : own_chs cs) (hnk : ¬ own_lat (cs.take k)) (hk0 : 0 < k) :
    MF l Z M27_ (Jvm.Cond.code M27_ jdk_42_method_92_code 5 (some (.object "java/lang/String")) :: ws) R_rmSubW #[(.ref a), (.int (0 : Int32)), (.int (Int32.ofNat k))] h0 (Q_rmSubW Z a cst b kb cs k fmt h0 n0) := by
  refine MetFree.of_bodySF (plainFor_of_name pn_java_lang_String) hisR ?_
  intro p e s m args below meth c s₁ Bd hml0 hP hK
  obtain ⟨rfl, hZ, hh⟩ := hP
  have hx := Bd.exec
  have hy := Bd.bytes
  have hml : c.maxLocals = 5 := hml0
  have hown : s.vm.findClass "java/lang/String" = some m.cls := findClass_of_methodNamed Bd.named
  have hnm := (name_of_methodNamed Bd.named Bd.method).1
  have X0 : Stand p l e R_rmSubW s m #[(.ref a), (.int (0 : Int32)), (.int (Int32.ofNat k))] below meth c s₁ [] 0 0 := Stand.of_body Bd
  have e0 : s₁.heap = h0 := by rw [← hh, Bd.state]; rfl
  have N0 := Fr.nil n0
  have pre0 := own_pre (p := p) (e := e) (below := below) (T := s₁) (ef_rmSubW m a (0 : Int32) (Int32.ofNat k))
  have lt_I6 : @LT.lt Nat _ a h0.size := I6.lt
  have lt_I9 : @LT.lt Nat _ b h0.size := I9.lt
  have Zc1 : n0 ≤ h0.size := by omega
  obtain ⟨cq2, kq2, q2a, q2b, q2c⟩ := isOf hZ e0 I6
  obtain ⟨_, _, ⟨T2, L2, k2, n2⟩, -, X2, ⟨Lc2, hQ2, l2, y2, z2⟩, st2⟩ := X0.virtualBack hx (y := M11_) (z := M11_) hown (mvT hZ (own_m hw 74 rfl)) (mvT hZ (own_m hw 57 rfl)) (notFace_of_selects (args := #[]) (mvT hZ (own_m hw 59 rfl))) (mvT hZ (own_m hw 59 rfl)) (mvT hZ (own_m hw 58 rfl)) (by decide) (backOf (W := 0) (rmLen l Z a0 hw [] a cst b kb cs h0 n0 Zc1 I1 OX hcst I6 I7 I8 I9 (by omega)) hZ (own_m hw 60 rfl) (own_m hw 7 rfl) (by decide) (by decide)) q2a q2c (g := (mkF m 1 #[.val (.ref a), .val (.int (0 : Int32)), .val (.int (Int32.ofNat k)), .unset, .unset] [(.ref a)])) rfl (by rw [hml]; rfl) (Steps.refl _) (argsL := []) (rest := []) (lenOf pd___I rfl) rfl (by show 2 * 0 + _ ≤ _; exact Nat.le_of_eq rfl) (dd hy dJ42_92_1) (fun _ _ => ⟨rfl, e0, (by decide : 0 + 0 ≤ _), (by decide : 0 + 0 ≤ _)⟩)
  dsimp only [Pt.U, Pt.locs, Pt.cells, Pt.slots] at X2 l2 y2 z2 st2 hQ2
  subst l2 y2 z2
  obtain ⟨rfl, N2q, e2⟩ := hQ2
  have N2 := Fr.app N0 N2q
  have Zc3 : n0 ≤ h0.size := by omega
  obtain ⟨_, _, ⟨T4, L4, k4, n4⟩, -, X4, ⟨Lc4, hQ4, l4, y4, z4⟩, st4⟩ := Jvm.LawKit.callS X2 hx (y := M22_) hown (mvT hZ (own_m hw 75 rfl)) (mvT hZ (own_m hw 76 rfl)) (mvT hZ (own_m hw 7 rfl)) (mvT hZ (own_m hw 77 rfl)) (by decide) (backOf (W := 0) (rmCBE l Z a0 hw [] 0 k cs.length fmt h0 n0 Zc3 hfmt I5 OX (by first | assumption | omega | rfl | decide) (by first | assumption | omega | rfl | decide) (by first | assumption | omega | rfl | decide)) hZ (own_m hw 77 rfl) (own_m hw 7 rfl) (by decide) (by decide)) (g := (mkF m 8 #[.val (.ref a), .val (.int (0 : Int32)), .val (.int (Int32.ofNat k)), .val (.int (Int32.ofNat cs.length)), .unset] [(.int (Int32.ofNat cs.length)), (.int (Int32.ofNat k)), (.int (0 : Int32))])) rfl (by rw [hml]; rfl) (argsL := [(.int (0 : Int32)), (.int (Int32.ofNat k)), (.int (Int32.ofNat cs.length))]) (rest := []) (lenOf pd__III_V rfl) rfl (by show 2 * 0 + _ ≤ _; exact Nat.le_of_eq rfl) (dd hy dJ42_92_8) (fun _ _ => ⟨rfl, e2, (by decide : 0 + 0 ≤ _), (by decide : 0 + 0 ≤ _)⟩)
  dsimp only [Pt.U, Pt.locs, Pt.cells, Pt.slots] at X4 l4 y4 z4 st4 hQ4
  subst l4 y4 z4
  obtain ⟨rfl, N4q, e4⟩ := hQ4
  have N4 := Fr.app N2 N4q
  have Zc5 : n0 ≤ h0.size := by omega
  obtain ⟨cq6, kq6, q6a, q6b, q6c⟩ := isOf hZ e4 I6
  obtain ⟨_, _, ⟨T6, L6, k6, n6⟩, -, X6, ⟨Lc6, hQ6, l6, y6, z6⟩, st6⟩ := X4.virtualBack hx (y := M12_) (z := M12_) hown (mvT hZ (own_m hw 83 rfl)) (mvT hZ (own_m hw 84 rfl)) (notFace_of_selects (args := #[]) (mvT hZ (own_m hw 86 rfl))) (mvT hZ (own_m hw 86 rfl)) (mvT hZ (own_m hw 85 rfl)) (by decide) (backOf (W := 0) (rmIsL l Z a0 hw [] a cst cs h0 n0 Zc5 I1 OX hcst I8) hZ (own_m hw 87 rfl) (own_m hw 7 rfl) (by decide) (by decide)) q6a q6c (g := (mkF m 28 #[.val (.ref a), .val (.int (0 : Int32)), .val (.int (Int32.ofNat k)), .val (.int (Int32.ofNat cs.length)), .val (.int (Int32.ofNat k))] [(.ref a)])) rfl (by rw [hml]; rfl) (Steps.refl _) (argsL := []) (rest := []) (lenOf pd___Z rfl) rfl (by show 2 * 0 + _ ≤ _; exact Nat.le_of_eq rfl) (dd hy dJ42_92_28) (fun _ _ => ⟨rfl, e4, (by decide : 0 + 0 ≤ _), (by decide : 0 + 0 ≤ _)⟩)
  dsimp only [Pt.U, Pt.locs, Pt.cells, Pt.slots] at X6 l6 y6 z6 st6 hQ6
  subst l6 y6 z6
  obtain ⟨rfl, N6q, e6⟩ := hQ6
  have N6 := Fr.app N4 N6q
  obtain ⟨T7, X7, e7, st7⟩ := getF X6 hx hZ hown (host := "") (Or.inl (own_m hw 32 rfl)) Via.refl e6 I7 (g := (mkF m 48 #[.val (.ref a), .val (.int (0 : Int32)), .val (.int (Int32.ofNat k)), .val (.int (Int32.ofNat cs.length)), .val (.int (Int32.ofNat k))] [(.ref a)])) rfl rfl (dd hy dJ42_92_48)
  have V8 : Arv Z h0 b kb .byte (Int32.ofNat (2 * cs.length)) (own_wide cs) v0_ := own_towide hnl I9
  have Zc9 : n0 ≤ h0.size := by omega
  obtain ⟨_, _, ⟨T10, L10, k10, n10⟩, -, X10, ⟨Lc10, hQ10, l10, y10, z10⟩, st10⟩ := Jvm.LawKit.callS X7 hx (y := M30_) hown (mvT hZ (own_m hw 210 rfl)) (mvT hZ (own_m hw 211 rfl)) (mvT hZ (own_m hw 21 rfl)) (mvT hZ (own_m hw 212 rfl)) (by decide) (backOf (W := 0) (rmNewW l Z a0 hw [] b cst kb cs k fmt h0 n0 Zc9 I1 I2 I3 I4 hfmt I5 OX hcst V8 hbl hkl hchs hnk hk0) hZ (own_m hw 212 rfl) (own_m hw 21 rfl) (by decide) (by decide)) (g := (mkF m 54 #[.val (.ref a), .val (.int (0 : Int32)), .val (.int (Int32.ofNat k)), .val (.int (Int32.ofNat cs.length)), .val (.int (Int32.ofNat k))] [(.int (Int32.ofNat k)), (.int (0 : Int32)), (.ref b)])) rfl (by rw [hml]; rfl) (argsL := [(.ref b), (.int (0 : Int32)), (.int (Int32.ofNat k))]) (rest := []) (lenOf pd___BII_Ljava_lang_String_ rfl) rfl (by show 2 * 0 + _ ≤ _; exact Nat.le_of_eq rfl) (dd hy dJ42_92_54) (fun _ _ => ⟨rfl, e7, (by decide : 0 + 3 ≤ _), (by decide : 0 + 44 ≤ _)⟩)
  dsimp only [Pt.U, Pt.locs, Pt.cells, Pt.slots] at X10 l10 y10 z10 st10 hQ10
  subst l10 y10 z10
  obtain ⟨a_10, b_10, kb_10, rfl, N10q, K10, Fq10_0, Fq10_1, Fq10_2, Fq10_3, P10_0, P10_1⟩ := hQ10
  have N10 := Fr.app N6 N10q
  obtain ⟨h10, e10⟩ : ∃ z, T10.heap = z := ⟨_, rfl⟩
  rw [e10] at K10 Fq10_0 Fq10_1 Fq10_2 Fq10_3
  have z11 : h0.size ≤ h10.size := K10.1
  have lt10_0 : @LT.lt Nat _ a_10 h10.size := Fq10_0.lt
  have lt10_3 : @LT.lt Nat _ b_10 h10.size := Fq10_3.lt
  have s12 : ∀ t_, Steps p.tables e below (T10.setTop (mkF m 57 #[.val (.ref a), .val (.int (0 : Int32)), .val (.int (Int32.ofNat k)), .val (.int (Int32.ofNat cs.length)), .val (.int (Int32.ofNat k))] [(.ref a_10)])) t_ → Steps _ _ _ _ t_ := fun t_ k_ => pre0 t_ (by
    refine XS.aloadN X0.here hx rfl (dd hy dJ42_92_0) rfl rfl ?_
    refine st2.trans ?_
    show Steps _ _ _ (T2.setTop (mkF m 4 #[.val (.ref a), .val (.int (0 : Int32)), .val (.int (Int32.ofNat k)), .unset, .unset] [(.int (Int32.ofNat cs.length))])) _
    refine XS.istoreN X2.here hx rfl (dd hy dJ42_92_4) rfl (l' := #[.val (.ref a), .val (.int (0 : Int32)), .val (.int (Int32.ofNat k)), .val (.int (Int32.ofNat cs.length)), .unset]) rfl ?_
    refine XS.iloadN X2.here hx rfl (dd hy dJ42_92_5) rfl ?_
    refine XS.iloadN X2.here hx rfl (dd hy dJ42_92_6) rfl ?_
    refine XS.iloadN X2.here hx rfl (dd hy dJ42_92_7) rfl ?_
    refine st4 _ ?_
    show Steps _ _ _ (T4.setTop (mkF m 11 #[.val (.ref a), .val (.int (0 : Int32)), .val (.int (Int32.ofNat k)), .val (.int (Int32.ofNat cs.length)), .unset] [])) _
    refine XS.iloadN X4.here hx rfl (dd hy dJ42_92_11) rfl ?_
    refine XS.ifNo X4.here hx rfl (dd hy dJ42_92_12) rfl ((if0 _ _).trans (teq (rfl : (0 : Int32) = (0 : Int32))).2) ?_
    show Steps _ _ _ (T4.setTop (mkF m 15 #[.val (.ref a), .val (.int (0 : Int32)), .val (.int (Int32.ofNat k)), .val (.int (Int32.ofNat cs.length)), .unset] [])) _
    refine XS.iloadN X4.here hx rfl (dd hy dJ42_92_15) rfl ?_
    refine XS.iloadN X4.here hx rfl (dd hy dJ42_92_16) rfl ?_
    refine XS.icmpYes X4.here hx rfl (pc0 := 17) (pc' := 22) rfl (dd hy dJ42_92_17) rfl (feq (fun e => by have := own_inj (by omega) (by omega) e; omega)).2 (by decide) (by decide) ?_
    show Steps _ _ _ (T4.setTop (mkF m 22 #[.val (.ref a), .val (.int (0 : Int32)), .val (.int (Int32.ofNat k)), .val (.int (Int32.ofNat cs.length)), .unset] [])) _
    refine XS.iloadN X4.here hx rfl (dd hy dJ42_92_22) rfl ?_
    refine XS.iloadN X4.here hx rfl (dd hy dJ42_92_23) rfl ?_
    refine XS.isub X4.here hx rfl (dd hy dJ42_92_24) rfl ?_
    show Steps _ _ _ (T4.setTop (mkF m 25 #[.val (.ref a), .val (.int (0 : Int32)), .val (.int (Int32.ofNat k)), .val (.int (Int32.ofNat cs.length)), .unset] [(.int ((Int32.ofNat k) - (0 : Int32)))])) _
    refine castTop (g' := (mkF m 25 #[.val (.ref a), .val (.int (0 : Int32)), .val (.int (Int32.ofNat k)), .val (.int (Int32.ofNat cs.length)), .unset] [(.int (Int32.ofNat k))])) (by rw [Int32.sub_zero]) ?_
    show Steps _ _ _ (T4.setTop (mkF m 25 #[.val (.ref a), .val (.int (0 : Int32)), .val (.int (Int32.ofNat k)), .val (.int (Int32.ofNat cs.length)), .unset] [(.int (Int32.ofNat k))])) _
    refine XS.istore X4.here hx rfl (dd hy dJ42_92_25) rfl (l' := #[.val (.ref a), .val (.int (0 : Int32)), .val (.int (Int32.ofNat k)), .val (.int (Int32.ofNat cs.length)), .val (.int (Int32.ofNat k))]) rfl ?_
    refine XS.aloadN X4.here hx rfl (dd hy dJ42_92_27) rfl rfl ?_
    refine st6.trans ?_
    show Steps _ _ _ (T6.setTop (mkF m 31 #[.val (.ref a), .val (.int (0 : Int32)), .val (.int (Int32.ofNat k)), .val (.int (Int32.ofNat cs.length)), .val (.int (Int32.ofNat k))] [(.int (if own_cod cs = (0 : Int32) then (1 : Int32) else (0 : Int32)))])) _
    refine castTop (g' := (mkF m 31 #[.val (.ref a), .val (.int (0 : Int32)), .val (.int (Int32.ofNat k)), .val (.int (Int32.ofNat cs.length)), .val (.int (Int32.ofNat k))] [(.int (0 : Int32))])) (by rw [if_neg (own_cod1 hnl)]) ?_
    show Steps _ _ _ (T6.setTop (mkF m 31 #[.val (.ref a), .val (.int (0 : Int32)), .val (.int (Int32.ofNat k)), .val (.int (Int32.ofNat cs.length)), .val (.int (Int32.ofNat k))] [(.int (0 : Int32))])) _
    refine XS.ifYes X6.here hx rfl (pc0 := 31) (pc' := 47) rfl (dd hy dJ42_92_31) rfl ((if0 _ _).trans (teq (rfl : (0 : Int32) = (0 : Int32))).1) (by decide) (by decide) ?_
    show Steps _ _ _ (T6.setTop (mkF m 47 #[.val (.ref a), .val (.int (0 : Int32)), .val (.int (Int32.ofNat k)), .val (.int (Int32.ofNat cs.length)), .val (.int (Int32.ofNat k))] [])) _
    refine XS.aloadN X6.here hx rfl (dd hy dJ42_92_47) rfl rfl ?_
    refine st7 _ ?_
    refine XS.iloadN X7.here hx rfl (dd hy dJ42_92_51) rfl ?_
    refine XS.iload X7.here hx rfl (dd hy dJ42_92_52) rfl ?_
    refine st10 _ ?_
    show Steps _ _ _ (T10.setTop (mkF m 57 #[.val (.ref a), .val (.int (0 : Int32)), .val (.int (Int32.ofNat k)), .val (.int (Int32.ofNat cs.length)), .val (.int (Int32.ofNat k))] [(.ref a_10)])) _
    exact k_)
  obtain ⟨fs, hr, hrun, hended, hW, hsame⟩ := X10.leave (v := some (.ref a_10)) (fun h => by rw [Bd.returns] at h; cases h)
  refine ⟨_, _, s12 _ ?_, hrun, hended, _, _, rfl, ?_, ⟨_, rfl⟩, hW, hsame.mono (by decide) (by decide)⟩
  · jvm_step X10.here [X10.here.top, hx, (dd hy dJ42_92_57), X10.method', Bd.returns, Value.isRef, FieldType.isReference]
    first | (intro acts; rw [hr _ acts rfl rfl rfl]) | rw [hr _ _ rfl rfl rfl]
    exact Steps.refl _
  · show Q_rmSubW Z _ _ _ _ _ _ _ h0 n0 _ T10.heap _
    rw [e10]
    exact ⟨a_10, b_10, kb_10, rfl, N10, ((Keep.refl h0 []).trans K10 all0), Fq10_0, Fq10_1, Fq10_2, Fq10_3, by omega, by omega⟩
theorem pn_java_lang_AbstractStringBuilder : plainName "java/lang/AbstractStringBuilder" = true := by first | (simp [plainName, overriddenIn]; done) | decide +kernel
theorem dJ68_2_0 : decode CJ68_2 0 = .ok (.aload_n 0, 1) := by decide +kernel
theorem dJ68_2_1 : decode CJ68_2 1 = .ok (.invokespecial 3, 3) := by decide +kernel
theorem dJ68_2_4 : decode CJ68_2 4 = .ok (.getstatic 18, 3) := by decide +kernel
theorem dJ68_2_7 : decode CJ68_2 7 = .ok (.ifCond .eq 18, 3) := by decide +kernel
theorem dJ68_2_10 : decode CJ68_2 10 = .ok (.aload_n 0, 1) := by decide +kernel
theorem dJ68_2_11 : decode CJ68_2 11 = .ok (.iload_n 1, 1) := by decide +kernel
theorem dJ68_2_12 : decode CJ68_2 12 = .ok (.newarray .byte, 2) := by decide +kernel
theorem dJ68_2_14 : decode CJ68_2 14 = .ok (.putfield 15, 3) := by decide +kernel
theorem dJ68_2_17 : decode CJ68_2 17 = .ok (.aload_n 0, 1) := by decide +kernel
theorem dJ68_2_18 : decode CJ68_2 18 = .ok (.iconst 0, 1) := by decide +kernel
theorem dJ68_2_19 : decode CJ68_2 19 = .ok (.putfield 22, 3) := by decide +kernel
theorem dJ68_2_22 : decode CJ68_2 22 = .ok (.goto 16, 3) := by decide +kernel
theorem dJ68_2_38 : decode CJ68_2 38 = .ok (.return_, 1) := by decide +kernel
theorem ef_rmASBi (m : MethodId) (x0 : Addr) (x1 : Int32) : entryFrame m #[(.ref x0), (.int x1)] 2 = mkF m 0 #[.val (.ref x0), .val (.int x1)] [] := by first | (simp [entryFrame, mkF, argsToLocals, Value.category]; done) | rfl
abbrev R_rmASBi : Room := ({ frames := 1, cells := 1, slots := 16, locals := 12 } : Room)
def Q_rmASBi (Z : State) (a : Addr) (cst : Int32) (h0 : Heap) (n0 : Nat) (v : Option Value) (h : Heap) (L : List Loc) : Prop := ∃ (va : Addr), ∃ (kc : ClassId), (v = none) ∧ (Fr n0 L) ∧ (Keep h0 h [a]) ∧ (Exa Z h a cB) ∧ (Fld Z h a cA "value" "[B" (.ref va)) ∧ (Fld Z h a cA "coder" "B" (.int (0 : Int32))) ∧ (Fld Z h a cA "count" "I" (.int (0 : Int32))) ∧ (Fld Z h a cA "maybeLatin1" "Z" (.int (0 : Int32))) ∧ (Arv Z h va kc .byte (16 : Int32) ((List.replicate 16 (0 : Int32)).map Value.int) v0_) ∧ (h0.size ≤ va)
set_option maxRecDepth 65536 in
set_option maxHeartbeats 40000000 in
theorem rmASBi (l : Launch) (Z : State) (a0 : Array Value) (hw : HW Z a0) (ws : List Jvm.Cond) (a : Addr) (cst : Int32) (h0 : Heap) (n0 : Nat) (Z0 : n0 ≤ h0.size) (I1 : Sta Z Z.heap cS cC "Z" (.int cst)) (OX : Old Z n0 h0) (hcst : ¬ (cst = (0 : Int32))) (I2 : Exa Z h0 a cB) (I3 : Fld Z h0 a cA "value" "[B" .null) (I4 : Fld Z h0 a cA "coder" "B" (.int (0 : Int32))) (I5 : Fld Z h0 a cA "count" "I" (.int (0 : Int32))) (I6 : Fld Z h0 a cA "maybeLatin1" "Z" (.int (0 : Int32))) (ga : n0 ≤ a) :
    MF l Z M31_ (Jvm.Cond.code M31_ jdk_68_method_2_code 2 none :: ws) R_rmASBi #[(.ref a), (.int (16 : Int32))] h0 (Q_rmASBi Z a cst h0 n0) := by
  refine MetFree.of_bodySF (plainFor_of_name pn_java_lang_AbstractStringBuilder) hisR ?_
  intro p e s m args below meth c s₁ Bd hml0 hP hK
  obtain ⟨rfl, hZ, hh⟩ := hP
  have hx := Bd.exec
  have hy := Bd.bytes
  have hml : c.maxLocals = 2 := hml0
  have hown : s.vm.findClass "java/lang/AbstractStringBuilder" = some m.cls := findClass_of_methodNamed Bd.named
  have hnm := (name_of_methodNamed Bd.named Bd.method).1
  have X0 : Stand p l e R_rmASBi s m #[(.ref a), (.int (16 : Int32))] below meth c s₁ [] 0 0 := Stand.of_body Bd
  have e0 : s₁.heap = h0 := by rw [← hh, Bd.state]; rfl
  have N0 := Fr.nil n0
  have pre0 := own_pre (p := p) (e := e) (below := below) (T := s₁) (ef_rmASBi m a (16 : Int32))
  have lt_I2 : @LT.lt Nat _ a h0.size := I2.lt
  obtain ⟨T1, X1, e1, st1⟩ := initO X0 hx hZ hown (own_m hw 50 rfl) (own_m hw 16 rfl) (own_m hw 17 rfl) e0 (g := (mkF m 1 #[.val (.ref a), .val (.int (16 : Int32))] [(.ref a)])) rfl (by rw [hml]; rfl) rfl (dd hy dJ68_2_1) (by decide) (W := 0) (by show 2 * 0 + _ ≤ _; exact Nat.le_of_eq rfl) (by decide)
  obtain ⟨T2, X2, e2, st2⟩ := getS2 X1 hx hZ hown (host := "") (Or.inl (own_m hw 51 rfl)) Via.refl e1 (I1.ext OX.2) (g := (mkF m 4 #[.val (.ref a), .val (.int (16 : Int32))] [])) rfl (dd hy dJ68_2_4)
  obtain ⟨T3, h3, k3, X3, e3, E3, A3, st3⟩ := newP X2 hx hZ (own_m hw 23 rfl) e2 (g := (mkF m 12 #[.val (.ref a), .val (.int (16 : Int32))] [(.int (16 : Int32)), (.ref a)])) rfl (dd hy dJ68_2_12) rfl (by decide) (cap := 16) (by decide) (by decide) (by decide) (by decide)
  obtain ⟨b3, g3⟩ : ∃ z, z = h0.size := ⟨_, rfl⟩
  rw [← g3] at A3 st3
  have z4 : h0.size ≤ h3.size := E3.1
  have l3 : b3 < h3.size := A3.lt
  have V3 : Arv Z h3 b3 k3 .byte (16 : Int32) [(.int (0 : Int32)), (.int (0 : Int32)), (.int (0 : Int32)), (.int (0 : Int32)), (.int (0 : Int32)), (.int (0 : Int32)), (.int (0 : Int32)), (.int (0 : Int32)), (.int (0 : Int32)), (.int (0 : Int32)), (.int (0 : Int32)), (.int (0 : Int32)), (.int (0 : Int32)), (.int (0 : Int32)), (.int (0 : Int32)), (.int (0 : Int32))] v0_ := (Arv.new A3 (by decide)).pad (pad_rep [] (.int (0 : Int32)) 16)
  have f5 : Exa Z h3 a cB := (I2.ext E3)
  have f6 : Fld Z h3 a cA "value" "[B" .null := (I3.ext E3)
  obtain ⟨T7, h7, X7, e7, W7, st7⟩ := putF X3 hx hZ hown (host := "") (Or.inl (own_m hw 52 rfl)) Via.refl e3 f6 f5 (Or.inl (own_m hw 53 rfl)) (own_m hw 39 rfl) (ty := (.array .byte)) (by decide) rfl rfl (g := (mkF m 14 #[.val (.ref a), .val (.int (16 : Int32))] [(.ref b3), (.ref a)])) rfl rfl (dd hy dJ68_2_14)
  have z8 : h3.size ≤ h7.size := Nat.le_of_eq W7.size.symm
  have F7 : Fld Z h7 a cA "value" "[B" (.ref b3) := f6.same W7
  have N7 := Fr.snoc X7 N0 (show n0 ≤ a by omega)
  have f9 : Exa Z h7 a cB := (f5.wr W7)
  have f10 : Fld Z h7 a cA "coder" "B" (.int (0 : Int32)) := ((I4.ext E3).other W7 (Or.inr (slot_ne (Or.inl (own_m hw 55 rfl)) (Or.inl (own_m hw 53 rfl)) (by decide) (t := .byte) (t' := (.array .byte)) (by decide) (by decide))))
  obtain ⟨T11, h11, X11, e11, W11, st11⟩ := putFN X7 hx hZ hown (own_m hw 54 rfl) Via.refl e7 f10 f9 (Or.inl (own_m hw 55 rfl)) (own_m hw 39 rfl) (ty := .byte) (v' := (.int (0 : Int32))) (by decide) rfl rfl (g := (mkF m 19 #[.val (.ref a), .val (.int (16 : Int32))] [(.int (0 : Int32)), (.ref a)])) rfl rfl (dd hy dJ68_2_19)
  have z12 : h7.size ≤ h11.size := Nat.le_of_eq W11.size.symm
  have F11 : Fld Z h11 a cA "coder" "B" (.int (0 : Int32)) := f10.same W11
  have N11 := Fr.snoc X11 N7 (show n0 ≤ a by omega)
  have s13 : ∀ t_, Steps p.tables e below (T11.setTop (mkF m 38 #[.val (.ref a), .val (.int (16 : Int32))] [])) t_ → Steps _ _ _ _ t_ := fun t_ k_ => pre0 t_ (by
    refine XS.aloadN X0.here hx rfl (dd hy dJ68_2_0) rfl rfl ?_
    refine st1 _ ?_
    show Steps _ _ _ (T1.setTop (mkF m 4 #[.val (.ref a), .val (.int (16 : Int32))] [])) _
    refine st2 _ ?_
    refine XS.ifNo X2.here hx rfl (dd hy dJ68_2_7) rfl ((if0 _ _).trans (feq hcst).1) ?_
    show Steps _ _ _ (T2.setTop (mkF m 10 #[.val (.ref a), .val (.int (16 : Int32))] [])) _
    refine XS.aloadN X2.here hx rfl (dd hy dJ68_2_10) rfl rfl ?_
    refine XS.iloadN X2.here hx rfl (dd hy dJ68_2_11) rfl ?_
    refine st3 _ ?_
    refine st7 _ ?_
    refine XS.aloadN X7.here hx rfl (dd hy dJ68_2_17) rfl rfl ?_
    refine XS.iconst X7.here hx rfl (dd hy dJ68_2_18) ?_
    show Steps _ _ _ (T7.setTop (mkF m 19 #[.val (.ref a), .val (.int (16 : Int32))] [(.int (0 : Int32)), (.ref a)])) _
    refine st11 _ ?_
    refine XS.goto X11.here hx rfl (pc0 := 22) (pc' := 38) rfl (dd hy dJ68_2_22) (by decide) (by decide) ?_
    exact k_)
  obtain ⟨fs, hr, hrun, hended, hW, hsame⟩ := X11.leave (v := none) (fun _ => rfl)
  have f14 : Arv Z h11 b3 k3 .byte (16 : Int32) [(.int (0 : Int32)), (.int (0 : Int32)), (.int (0 : Int32)), (.int (0 : Int32)), (.int (0 : Int32)), (.int (0 : Int32)), (.int (0 : Int32)), (.int (0 : Int32)), (.int (0 : Int32)), (.int (0 : Int32)), (.int (0 : Int32)), (.int (0 : Int32)), (.int (0 : Int32)), (.int (0 : Int32)), (.int (0 : Int32)), (.int (0 : Int32))] v0_ := ((V3.other W7 (show @Ne Nat b3 a by omega)).other W11 (show @Ne Nat b3 a by omega))
  have f15 : Exa Z h11 a cB := (f9.wr W11)
  have f16 : Fld Z h11 a cA "value" "[B" (.ref b3) := (F7.other W11 (Or.inr (slot_ne (Or.inl (own_m hw 53 rfl)) (Or.inl (own_m hw 55 rfl)) (by decide) (t := (.array .byte)) (t' := .byte) (by decide) (by decide))))
  have f17 : Fld Z h11 a cA "count" "I" (.int (0 : Int32)) := (((I5.ext E3).other W7 (Or.inr (slot_ne (Or.inl (own_m hw 105 rfl)) (Or.inl (own_m hw 53 rfl)) (by decide) (t := .int) (t' := (.array .byte)) (by decide) (by decide)))).other W11 (Or.inr (slot_ne (Or.inl (own_m hw 105 rfl)) (Or.inl (own_m hw 55 rfl)) (by decide) (t := .int) (t' := .byte) (by decide) (by decide))))
  have f18 : Fld Z h11 a cA "maybeLatin1" "Z" (.int (0 : Int32)) := (((I6.ext E3).other W7 (Or.inr (slot_ne (Or.inl (own_m hw 251 rfl)) (Or.inl (own_m hw 53 rfl)) (by decide) (t := .boolean) (t' := (.array .byte)) (by decide) (by decide)))).other W11 (Or.inr (slot_ne (Or.inl (own_m hw 251 rfl)) (Or.inl (own_m hw 55 rfl)) (by decide) (t := .boolean) (t' := .byte) (by decide) (by decide))))
  refine ⟨_, _, s13 _ ?_, hrun, hended, _, _, rfl, ?_, ⟨_, rfl⟩, hW, hsame.mono (by decide) (by decide)⟩
  · exact X11.returnOut hx Bd.returns (dd hy dJ68_2_38) hr
  · show Q_rmASBi Z _ _ h0 n0 _ T11.heap _
    rw [e11]
    exact ⟨b3, k3, rfl, N11, ((((Keep.refl h0 [a]).ext E3).wr W7 (Or.inl (by simp))).wr W11 (Or.inl (by simp))), f15, f16, F11, f17, f18, f14, by omega⟩
theorem pn_java_lang_StringBuilder : plainName "java/lang/StringBuilder" = true := by first | (simp [plainName, overriddenIn]; done) | decide +kernel
theorem dJ67_1_0 : decode CJ67_1 0 = .ok (.aload_n 0, 1) := by decide +kernel
theorem dJ67_1_1 : decode CJ67_1 1 = .ok (.bipush 16, 2) := by decide +kernel
theorem pd__I_V : parseMethodDescriptor "(I)V" = some ⟨[.int], none⟩ := by decide +kernel
theorem dJ67_1_3 : decode CJ67_1 3 = .ok (.invokespecial 1, 3) := by decide +kernel
theorem dJ67_1_6 : decode CJ67_1 6 = .ok (.return_, 1) := by decide +kernel
theorem ef_rmSBi (m : MethodId) (x0 : Addr) : entryFrame m #[(.ref x0)] 1 = mkF m 0 #[.val (.ref x0)] [] := by first | (simp [entryFrame, mkF, argsToLocals, Value.category]; done) | rfl
abbrev R_rmSBi : Room := ({ frames := 2, cells := 1, slots := 16, locals := 25 } : Room)
def Q_rmSBi (Z : State) (a : Addr) (cst : Int32) (h0 : Heap) (n0 : Nat) (v : Option Value) (h : Heap) (L : List Loc) : Prop := ∃ (va : Addr), ∃ (kc : ClassId), (v = none) ∧ (Fr n0 L) ∧ (Keep h0 h [a]) ∧ (Exa Z h a cB) ∧ (Fld Z h a cA "value" "[B" (.ref va)) ∧ (Fld Z h a cA "coder" "B" (.int (0 : Int32))) ∧ (Fld Z h a cA "count" "I" (.int (0 : Int32))) ∧ (Fld Z h a cA "maybeLatin1" "Z" (.int (0 : Int32))) ∧ (Arv Z h va kc .byte (16 : Int32) ((List.replicate 16 (0 : Int32)).map Value.int) v0_) ∧ (h0.size ≤ va)
set_option maxRecDepth 65536 in
set_option maxHeartbeats 40000000 in
theorem rmSBi (l : Launch) (Z : State) (a0 : Array Value) (hw : HW Z a0) (ws : List Jvm.Cond) (a : Addr) (cst : Int32) (h0 : Heap) (n0 : Nat) (Z0 : n0 ≤ h0.size) (I1 : Sta Z Z.heap cS cC "Z" (.int cst)) (OX : Old Z n0 h0) (hcst : ¬ (cst = (0 : Int32))) (I2 : Exa Z h0 a cB) (I3 : Fld Z h0 a cA "value" "[B" .null) (I4 : Fld Z h0 a cA "coder" "B" (.int (0 : Int32))) (I5 : Fld Z h0 a cA "count" "I" (.int (0 : Int32))) (I6 : Fld Z h0 a cA "maybeLatin1" "Z" (.int (0 : Int32))) (ga : n0 ≤ a) :
    MF l Z M32_ (Jvm.Cond.code M32_ jdk_67_method_1_code 1 none :: ws) R_rmSBi #[(.ref a)] h0 (Q_rmSBi Z a cst h0 n0) := by
  refine MetFree.of_bodySF (plainFor_of_name pn_java_lang_StringBuilder) hisR ?_
  intro p e s m args below meth c s₁ Bd hml0 hP hK
  obtain ⟨rfl, hZ, hh⟩ := hP
  have hx := Bd.exec
  have hy := Bd.bytes
  have hml : c.maxLocals = 1 := hml0
  have hown : s.vm.findClass "java/lang/StringBuilder" = some m.cls := findClass_of_methodNamed Bd.named
  have hnm := (name_of_methodNamed Bd.named Bd.method).1
  have X0 : Stand p l e R_rmSBi s m #[(.ref a)] below meth c s₁ [] 0 0 := Stand.of_body Bd
  have e0 : s₁.heap = h0 := by rw [← hh, Bd.state]; rfl
  have N0 := Fr.nil n0
  have pre0 := own_pre (p := p) (e := e) (below := below) (T := s₁) (ef_rmSBi m a)
  have lt_I2 : @LT.lt Nat _ a h0.size := I2.lt
  have Zc1 : n0 ≤ h0.size := by omega
  obtain ⟨_, _, ⟨T2, L2, k2, n2⟩, -, X2, ⟨Lc2, hQ2, l2, y2, z2⟩, st2⟩ := X0.specialBack hx (y := M31_) rfl hown (mvT hZ (own_m hw 44 rfl)) (mvT hZ (own_m hw 45 rfl)) (mvT hZ (own_m hw 49 rfl)) (by decide) (backOf (W := 0) (rmASBi l Z a0 hw [] a cst h0 n0 Zc1 I1 OX hcst I2 I3 I4 I5 I6 ga) hZ (own_m hw 49 rfl) (own_m hw 48 rfl) (by decide) (by decide)) (g := (mkF m 3 #[.val (.ref a)] [(.int (16 : Int32)), (.ref a)])) rfl (by rw [hml]; rfl) (Steps.refl _) (a := a) (argsL := [(.int (16 : Int32))]) (rest := []) (lenOf pd__I_V rfl) rfl (by show 2 * 0 + _ ≤ _; exact Nat.le_of_eq rfl) (dd hy dJ67_1_3) (fun _ _ => ⟨rfl, e0, (by decide : 0 + 1 ≤ _), (by decide : 0 + 16 ≤ _)⟩)
  dsimp only [Pt.U, Pt.locs, Pt.cells, Pt.slots] at X2 l2 y2 z2 st2 hQ2
  subst l2 y2 z2
  obtain ⟨va_2, kc_2, rfl, N2q, K2, Fq2_0, Fq2_1, Fq2_2, Fq2_3, Fq2_4, Fq2_5, P2_0⟩ := hQ2
  have N2 := Fr.app N0 N2q
  obtain ⟨h2, e2⟩ : ∃ z, T2.heap = z := ⟨_, rfl⟩
  rw [e2] at K2 Fq2_0 Fq2_1 Fq2_2 Fq2_3 Fq2_4 Fq2_5
  have z3 : h0.size ≤ h2.size := K2.1
  have lt2_0 : @LT.lt Nat _ a h2.size := Fq2_0.lt
  have lt2_5 : @LT.lt Nat _ va_2 h2.size := Fq2_5.lt
  have s4 : ∀ t_, Steps p.tables e below (T2.setTop (mkF m 6 #[.val (.ref a)] [])) t_ → Steps _ _ _ _ t_ := fun t_ k_ => pre0 t_ (by
    refine XS.aloadN X0.here hx rfl (dd hy dJ67_1_0) rfl rfl ?_
    refine XS.bipush X0.here hx rfl (dd hy dJ67_1_1) ?_
    refine st2.trans ?_
    show Steps _ _ _ (T2.setTop (mkF m 6 #[.val (.ref a)] [])) _
    exact k_)
  obtain ⟨fs, hr, hrun, hended, hW, hsame⟩ := X2.leave (v := none) (fun _ => rfl)
  refine ⟨_, _, s4 _ ?_, hrun, hended, _, _, rfl, ?_, ⟨_, rfl⟩, hW, hsame.mono (by decide) (by decide)⟩
  · exact X2.returnOut hx Bd.returns (dd hy dJ67_1_6) hr
  · show Q_rmSBi Z _ _ h0 n0 _ T2.heap _
    rw [e2]
    exact ⟨va_2, kc_2, rfl, N2, ((Keep.refl h0 [a]).trans K2 (allS (Or.inl (by simp)) all0)), Fq2_0, Fq2_1, Fq2_2, Fq2_3, Fq2_4, Fq2_5, by omega⟩
theorem dJ68_6_0 : decode CJ68_6 0 = .ok (.aload_n 0, 1) := by decide +kernel
theorem dJ68_6_1 : decode CJ68_6 1 = .ok (.getfield 79, 3) := by decide +kernel
theorem dJ68_6_4 : decode CJ68_6 4 = .ok (.ireturn, 1) := by decide +kernel
theorem ef_rmALen (m : MethodId) (x0 : Addr) : entryFrame m #[(.ref x0)] 1 = mkF m 0 #[.val (.ref x0)] [] := by first | (simp [entryFrame, mkF, argsToLocals, Value.category]; done) | rfl
abbrev R_rmALen : Room := ({ frames := 0, cells := 0, slots := 0, locals := 0 } : Room)
def Q_rmALen (Z : State) (a : Addr) (cn : Int32) (h0 : Heap) (n0 : Nat) (v : Option Value) (h : Heap) (L : List Loc) : Prop := (v = some (.int cn)) ∧ (Fr n0 L) ∧ (h = h0)
set_option maxRecDepth 65536 in
set_option maxHeartbeats 40000000 in
theorem rmALen (l : Launch) (Z : State) (a0 : Array Value) (hw : HW Z a0) (ws : List Jvm.Cond) (a : Addr) (cn : Int32) (h0 : Heap) (n0 : Nat) (Z0 : n0 ≤ h0.size) (I1 : Exa Z h0 a cB) (I2 : Fld Z h0 a cA "count" "I" (.int cn)) :
    MF l Z M33_ (Jvm.Cond.code M33_ jdk_68_method_6_code 1 (some .int) :: ws) R_rmALen #[(.ref a)] h0 (Q_rmALen Z a cn h0 n0) := by
  refine MetFree.of_bodySF (plainFor_of_name pn_java_lang_AbstractStringBuilder) hisR ?_
  intro p e s m args below meth c s₁ Bd hml0 hP hK
  obtain ⟨rfl, hZ, hh⟩ := hP
  have hx := Bd.exec
  have hy := Bd.bytes
  have hml : c.maxLocals = 1 := hml0
  have hown : s.vm.findClass "java/lang/AbstractStringBuilder" = some m.cls := findClass_of_methodNamed Bd.named
  have hnm := (name_of_methodNamed Bd.named Bd.method).1
  have X0 : Stand p l e R_rmALen s m #[(.ref a)] below meth c s₁ [] 0 0 := Stand.of_body Bd
  have e0 : s₁.heap = h0 := by rw [← hh, Bd.state]; rfl
  have N0 := Fr.nil n0
  have pre0 := own_pre (p := p) (e := e) (below := below) (T := s₁) (ef_rmALen m a)
  have lt_I1 : @LT.lt Nat _ a h0.size := I1.lt
  obtain ⟨T1, X1, e1, st1⟩ := getF X0 hx hZ hown (host := "") (Or.inl (own_m hw 104 rfl)) Via.refl e0 I2 (g := (mkF m 1 #[.val (.ref a)] [(.ref a)])) rfl rfl (dd hy dJ68_6_1)
  have s2 : ∀ t_, Steps p.tables e below (T1.setTop (mkF m 4 #[.val (.ref a)] [(.int cn)])) t_ → Steps _ _ _ _ t_ := fun t_ k_ => pre0 t_ (by
    refine XS.aloadN X0.here hx rfl (dd hy dJ68_6_0) rfl rfl ?_
    refine st1 _ ?_
    exact k_)
  obtain ⟨fs, hr, hrun, hended, hW, hsame⟩ := X1.leave (v := some (.int cn)) (fun h => by rw [Bd.returns] at h; cases h)
  refine ⟨_, _, s2 _ ?_, hrun, hended, _, _, rfl, ?_, ⟨_, rfl⟩, hW, hsame.mono (by decide) (by decide)⟩
  · exact retI X1 hx Bd.returns (dd hy dJ68_6_4) hr
  · show Q_rmALen Z _ _ h0 n0 _ T1.heap _
    rw [e1]
    exact ⟨rfl, N0, rfl⟩
theorem dJ67_93_0 : decode CJ67_93 0 = .ok (.aload_n 0, 1) := by decide +kernel
theorem dJ67_93_1 : decode CJ67_93 1 = .ok (.invokespecial 343, 3) := by decide +kernel
theorem dJ67_93_4 : decode CJ67_93 4 = .ok (.ireturn, 1) := by decide +kernel
theorem ef_rmSLen (m : MethodId) (x0 : Addr) : entryFrame m #[(.ref x0)] 1 = mkF m 0 #[.val (.ref x0)] [] := by first | (simp [entryFrame, mkF, argsToLocals, Value.category]; done) | rfl
abbrev R_rmSLen : Room := ({ frames := 1, cells := 0, slots := 0, locals := 12 } : Room)
def Q_rmSLen (Z : State) (a : Addr) (cn : Int32) (h0 : Heap) (n0 : Nat) (v : Option Value) (h : Heap) (L : List Loc) : Prop := (v = some (.int cn)) ∧ (Fr n0 L) ∧ (h = h0)
set_option maxRecDepth 65536 in
set_option maxHeartbeats 40000000 in
theorem rmSLen (l : Launch) (Z : State) (a0 : Array Value) (hw : HW Z a0) (ws : List Jvm.Cond) (a : Addr) (cn : Int32) (h0 : Heap) (n0 : Nat) (Z0 : n0 ≤ h0.size) (I1 : Exa Z h0 a cB) (I2 : Fld Z h0 a cA "count" "I" (.int cn)) :
    MF l Z M35_ (Jvm.Cond.code M35_ jdk_67_method_93_code 1 (some .int) :: ws) R_rmSLen #[(.ref a)] h0 (Q_rmSLen Z a cn h0 n0) := by
  refine MetFree.of_bodySF (plainFor_of_name pn_java_lang_StringBuilder) hisR ?_
  intro p e s m args below meth c s₁ Bd hml0 hP hK
  obtain ⟨rfl, hZ, hh⟩ := hP
  have hx := Bd.exec
  have hy := Bd.bytes
  have hml : c.maxLocals = 1 := hml0
  have hown : s.vm.findClass "java/lang/StringBuilder" = some m.cls := findClass_of_methodNamed Bd.named
  have hnm := (name_of_methodNamed Bd.named Bd.method).1
  have X0 : Stand p l e R_rmSLen s m #[(.ref a)] below meth c s₁ [] 0 0 := Stand.of_body Bd
  have e0 : s₁.heap = h0 := by rw [← hh, Bd.state]; rfl
  have N0 := Fr.nil n0
  have pre0 := own_pre (p := p) (e := e) (below := below) (T := s₁) (ef_rmSLen m a)
  have lt_I1 : @LT.lt Nat _ a h0.size := I1.lt
  have Zc1 : n0 ≤ h0.size := by omega
  obtain ⟨_, _, ⟨T2, L2, k2, n2⟩, -, X2, ⟨Lc2, hQ2, l2, y2, z2⟩, st2⟩ := superBack X0 hx hZ (y := M33_) hown (own_m hw 155 rfl) (own_same (own_m hw 151 rfl) (own_nf (y := M33_) (z := M34_) rfl (own_m hw 109 rfl)) (by decide)) (own_m hw 151 rfl) (own_m hw 100 rfl) (by decide) (backOf (W := 0) (rmALen l Z a0 hw [] a cn h0 n0 Zc1 I1 I2) hZ (own_m hw 156 rfl) (own_m hw 48 rfl) (by decide) (by decide)) e0 (Ins.self I1) (g := (mkF m 1 #[.val (.ref a)] [(.ref a)])) rfl (by rw [hml]; rfl) (own_m hw 156 rfl) (argsL := []) (rest := []) (lenOf pd___I rfl) rfl (by show 2 * 0 + _ ≤ _; exact Nat.le_of_eq rfl) (dd hy dJ67_93_1) (fun _ _ => ⟨rfl, e0, (by decide : 0 + 0 ≤ _), (by decide : 0 + 0 ≤ _)⟩)
  dsimp only [Pt.U, Pt.locs, Pt.cells, Pt.slots] at X2 l2 y2 z2 st2 hQ2
  subst l2 y2 z2
  obtain ⟨rfl, N2q, e2⟩ := hQ2
  have N2 := Fr.app N0 N2q
  have s3 : ∀ t_, Steps p.tables e below (T2.setTop (mkF m 4 #[.val (.ref a)] [(.int cn)])) t_ → Steps _ _ _ _ t_ := fun t_ k_ => pre0 t_ (by
    refine XS.aloadN X0.here hx rfl (dd hy dJ67_93_0) rfl rfl ?_
    refine st2.trans ?_
    show Steps _ _ _ (T2.setTop (mkF m 4 #[.val (.ref a)] [(.int cn)])) _
    exact k_)
  obtain ⟨fs, hr, hrun, hended, hW, hsame⟩ := X2.leave (v := some (.int cn)) (fun h => by rw [Bd.returns] at h; cases h)
  refine ⟨_, _, s3 _ ?_, hrun, hended, _, _, rfl, ?_, ⟨_, rfl⟩, hW, hsame.mono (by decide) (by decide)⟩
  · exact retI X2 hx Bd.returns (dd hy dJ67_93_4) hr
  · show Q_rmSLen Z _ _ h0 n0 _ T2.heap _
    rw [e2]
    exact ⟨rfl, N2, rfl⟩
theorem dJ68_64_0 : decode CJ68_64 0 = .ok (.aload_n 0, 1) := by decide +kernel
theorem dJ68_64_1 : decode CJ68_64 1 = .ok (.getfield 15, 3) := by decide +kernel
theorem dJ68_64_4 : decode CJ68_64 4 = .ok (.areturn, 1) := by decide +kernel
theorem ef_rmGV (m : MethodId) (x0 : Addr) : entryFrame m #[(.ref x0)] 1 = mkF m 0 #[.val (.ref x0)] [] := by first | (simp [entryFrame, mkF, argsToLocals, Value.category]; done) | rfl
abbrev R_rmGV : Room := ({ frames := 0, cells := 0, slots := 0, locals := 0 } : Room)
def Q_rmGV (Z : State) (a : Addr) (va : Addr) (h0 : Heap) (n0 : Nat) (v : Option Value) (h : Heap) (L : List Loc) : Prop := (v = some (.ref va)) ∧ (Fr n0 L) ∧ (h = h0)
set_option maxRecDepth 65536 in
set_option maxHeartbeats 40000000 in
theorem rmGV (l : Launch) (Z : State) (a0 : Array Value) (hw : HW Z a0) (ws : List Jvm.Cond) (a : Addr) (va : Addr) (h0 : Heap) (n0 : Nat) (Z0 : n0 ≤ h0.size) (I1 : Fld Z h0 a cA "value" "[B" (.ref va)) :
    MF l Z M36_ (Jvm.Cond.code M36_ jdk_68_method_64_code 1 (some (.array .byte)) :: ws) R_rmGV #[(.ref a)] h0 (Q_rmGV Z a va h0 n0) := by
  refine MetFree.of_bodySF (plainFor_of_name pn_java_lang_AbstractStringBuilder) hisR ?_
  intro p e s m args below meth c s₁ Bd hml0 hP hK
  obtain ⟨rfl, hZ, hh⟩ := hP
  have hx := Bd.exec
  have hy := Bd.bytes
  have hml : c.maxLocals = 1 := hml0
  have hown : s.vm.findClass "java/lang/AbstractStringBuilder" = some m.cls := findClass_of_methodNamed Bd.named
  have hnm := (name_of_methodNamed Bd.named Bd.method).1
  have X0 : Stand p l e R_rmGV s m #[(.ref a)] below meth c s₁ [] 0 0 := Stand.of_body Bd
  have e0 : s₁.heap = h0 := by rw [← hh, Bd.state]; rfl
  have N0 := Fr.nil n0
  have pre0 := own_pre (p := p) (e := e) (below := below) (T := s₁) (ef_rmGV m a)
  have lt_I1 : @LT.lt Nat _ a h0.size := I1.lt
  obtain ⟨T1, X1, e1, st1⟩ := getF X0 hx hZ hown (host := "") (Or.inl (own_m hw 52 rfl)) Via.refl e0 I1 (g := (mkF m 1 #[.val (.ref a)] [(.ref a)])) rfl rfl (dd hy dJ68_64_1)
  have s2 : ∀ t_, Steps p.tables e below (T1.setTop (mkF m 4 #[.val (.ref a)] [(.ref va)])) t_ → Steps _ _ _ _ t_ := fun t_ k_ => pre0 t_ (by
    refine XS.aloadN X0.here hx rfl (dd hy dJ68_64_0) rfl rfl ?_
    refine st1 _ ?_
    exact k_)
  obtain ⟨fs, hr, hrun, hended, hW, hsame⟩ := X1.leave (v := some (.ref va)) (fun h => by rw [Bd.returns] at h; cases h)
  refine ⟨_, _, s2 _ ?_, hrun, hended, _, _, rfl, ?_, ⟨_, rfl⟩, hW, hsame.mono (by decide) (by decide)⟩
  · jvm_step X1.here [X1.here.top, hx, (dd hy dJ68_64_4), X1.method', Bd.returns, Value.isRef, FieldType.isReference]
    first | (intro acts; rw [hr _ acts rfl rfl rfl]) | rw [hr _ _ rfl rfl rfl]
    exact Steps.refl _
  · show Q_rmGV Z _ _ h0 n0 _ T1.heap _
    rw [e1]
    exact ⟨rfl, N0, rfl⟩
theorem dJ68_68_0 : decode CJ68_68 0 = .ok (.getstatic 18, 3) := by decide +kernel
theorem dJ68_68_3 : decode CJ68_68 3 = .ok (.ifCond .eq 14, 3) := by decide +kernel
theorem dJ68_68_6 : decode CJ68_68 6 = .ok (.aload_n 0, 1) := by decide +kernel
theorem dJ68_68_7 : decode CJ68_68 7 = .ok (.getfield 22, 3) := by decide +kernel
theorem dJ68_68_10 : decode CJ68_68 10 = .ok (.ifCond .ne 7, 3) := by decide +kernel
theorem dJ68_68_13 : decode CJ68_68 13 = .ok (.iconst 1, 1) := by decide +kernel
theorem dJ68_68_14 : decode CJ68_68 14 = .ok (.goto 4, 3) := by decide +kernel
theorem dJ68_68_18 : decode CJ68_68 18 = .ok (.ireturn, 1) := by decide +kernel
theorem ef_rmALat (m : MethodId) (x0 : Addr) : entryFrame m #[(.ref x0)] 1 = mkF m 0 #[.val (.ref x0)] [] := by first | (simp [entryFrame, mkF, argsToLocals, Value.category]; done) | rfl
abbrev R_rmALat : Room := ({ frames := 0, cells := 0, slots := 0, locals := 0 } : Room)
def Q_rmALat (Z : State) (a : Addr) (cst : Int32) (h0 : Heap) (n0 : Nat) (v : Option Value) (h : Heap) (L : List Loc) : Prop := (v = some (.int (1 : Int32))) ∧ (Fr n0 L) ∧ (h = h0)
set_option maxRecDepth 65536 in
set_option maxHeartbeats 40000000 in
theorem rmALat (l : Launch) (Z : State) (a0 : Array Value) (hw : HW Z a0) (ws : List Jvm.Cond) (a : Addr) (cst : Int32) (h0 : Heap) (n0 : Nat) (Z0 : n0 ≤ h0.size) (I1 : Sta Z Z.heap cS cC "Z" (.int cst)) (OX : Old Z n0 h0) (hcst : ¬ (cst = (0 : Int32))) (I2 : Fld Z h0 a cA "coder" "B" (.int (0 : Int32))) :
    MF l Z M37_ (Jvm.Cond.code M37_ jdk_68_method_68_code 1 (some .boolean) :: ws) R_rmALat #[(.ref a)] h0 (Q_rmALat Z a cst h0 n0) := by
  refine MetFree.of_bodySF (plainFor_of_name pn_java_lang_AbstractStringBuilder) hisR ?_
  intro p e s m args below meth c s₁ Bd hml0 hP hK
  obtain ⟨rfl, hZ, hh⟩ := hP
  have hx := Bd.exec
  have hy := Bd.bytes
  have hml : c.maxLocals = 1 := hml0
  have hown : s.vm.findClass "java/lang/AbstractStringBuilder" = some m.cls := findClass_of_methodNamed Bd.named
  have hnm := (name_of_methodNamed Bd.named Bd.method).1
  have X0 : Stand p l e R_rmALat s m #[(.ref a)] below meth c s₁ [] 0 0 := Stand.of_body Bd
  have e0 : s₁.heap = h0 := by rw [← hh, Bd.state]; rfl
  have N0 := Fr.nil n0
  have pre0 := own_pre (p := p) (e := e) (below := below) (T := s₁) (ef_rmALat m a)
  have lt_I2 : @LT.lt Nat _ a h0.size := I2.lt
  obtain ⟨T1, X1, e1, st1⟩ := getS2 X0 hx hZ hown (host := "") (Or.inl (own_m hw 51 rfl)) Via.refl e0 (I1.ext OX.2) (g := (mkF m 0 #[.val (.ref a)] [])) rfl (dd hy dJ68_68_0)
  obtain ⟨T2, X2, e2, st2⟩ := getF X1 hx hZ hown (host := "") (Or.inl (own_m hw 54 rfl)) Via.refl e1 I2 (g := (mkF m 7 #[.val (.ref a)] [(.ref a)])) rfl rfl (dd hy dJ68_68_7)
  have s3 : ∀ t_, Steps p.tables e below (T2.setTop (mkF m 18 #[.val (.ref a)] [(.int (1 : Int32))])) t_ → Steps _ _ _ _ t_ := fun t_ k_ => pre0 t_ (by
    refine st1 _ ?_
    refine XS.ifNo X1.here hx rfl (dd hy dJ68_68_3) rfl ((if0 _ _).trans (feq hcst).1) ?_
    show Steps _ _ _ (T1.setTop (mkF m 6 #[.val (.ref a)] [])) _
    refine XS.aloadN X1.here hx rfl (dd hy dJ68_68_6) rfl rfl ?_
    refine st2 _ ?_
    refine XS.ifNo X2.here hx rfl (dd hy dJ68_68_10) rfl ((if0 _ _).trans (teq (rfl : (0 : Int32) = (0 : Int32))).2) ?_
    show Steps _ _ _ (T2.setTop (mkF m 13 #[.val (.ref a)] [])) _
    refine XS.iconst X2.here hx rfl (dd hy dJ68_68_13) ?_
    refine XS.goto X2.here hx rfl (pc0 := 14) (pc' := 18) rfl (dd hy dJ68_68_14) (by decide) (by decide) ?_
    exact k_)
  obtain ⟨fs, hr, hrun, hended, hW, hsame⟩ := X2.leave (v := some (.int (1 : Int32))) (fun h => by rw [Bd.returns] at h; cases h)
  refine ⟨_, _, s3 _ ?_, hrun, hended, _, _, rfl, ?_, ⟨_, rfl⟩, hW, hsame.mono (by decide) (by decide)⟩
  · exact retN X2 hx (t := .boolean) Bd.returns (by simp) (dd hy dJ68_68_18) hr
  · show Q_rmALat Z _ _ h0 n0 _ T2.heap _
    rw [e2]
    exact ⟨rfl, N0, rfl⟩
theorem dJ68_68_17 : decode CJ68_68 17 = .ok (.iconst 0, 1) := by decide +kernel
theorem ef_rmALat1 (m : MethodId) (x0 : Addr) : entryFrame m #[(.ref x0)] 1 = mkF m 0 #[.val (.ref x0)] [] := by first | (simp [entryFrame, mkF, argsToLocals, Value.category]; done) | rfl
abbrev R_rmALat1 : Room := ({ frames := 0, cells := 0, slots := 0, locals := 0 } : Room)
def Q_rmALat1 (Z : State) (a : Addr) (cst : Int32) (h0 : Heap) (n0 : Nat) (v : Option Value) (h : Heap) (L : List Loc) : Prop := (v = some (.int (0 : Int32))) ∧ (Fr n0 L) ∧ (h = h0)
set_option maxRecDepth 65536 in
set_option maxHeartbeats 40000000 in
theorem rmALat1 (l : Launch) (Z : State) (a0 : Array Value) (hw : HW Z a0) (ws : List Jvm.Cond) (a : Addr) (cst : Int32) (h0 : Heap) (n0 : Nat) (Z0 : n0 ≤ h0.size) (I1 : Sta Z Z.heap cS cC "Z" (.int cst)) (OX : Old Z n0 h0) (hcst : ¬ (cst = (0 : Int32))) (I2 : Fld Z h0 a cA "coder" "B" (.int (1 : Int32))) :
    MF l Z M37_ (Jvm.Cond.code M37_ jdk_68_method_68_code 1 (some .boolean) :: ws) R_rmALat1 #[(.ref a)] h0 (Q_rmALat1 Z a cst h0 n0) := by
  refine MetFree.of_bodySF (plainFor_of_name pn_java_lang_AbstractStringBuilder) hisR ?_
  intro p e s m args below meth c s₁ Bd hml0 hP hK
  obtain ⟨rfl, hZ, hh⟩ := hP
  have hx := Bd.exec
  have hy := Bd.bytes
  have hml : c.maxLocals = 1 := hml0
  have hown : s.vm.findClass "java/lang/AbstractStringBuilder" = some m.cls := findClass_of_methodNamed Bd.named
  have hnm := (name_of_methodNamed Bd.named Bd.method).1
  have X0 : Stand p l e R_rmALat1 s m #[(.ref a)] below meth c s₁ [] 0 0 := Stand.of_body Bd
  have e0 : s₁.heap = h0 := by rw [← hh, Bd.state]; rfl
  have N0 := Fr.nil n0
  have pre0 := own_pre (p := p) (e := e) (below := below) (T := s₁) (ef_rmALat1 m a)
  have lt_I2 : @LT.lt Nat _ a h0.size := I2.lt
  obtain ⟨T1, X1, e1, st1⟩ := getS2 X0 hx hZ hown (host := "") (Or.inl (own_m hw 51 rfl)) Via.refl e0 (I1.ext OX.2) (g := (mkF m 0 #[.val (.ref a)] [])) rfl (dd hy dJ68_68_0)
  obtain ⟨T2, X2, e2, st2⟩ := getF X1 hx hZ hown (host := "") (Or.inl (own_m hw 54 rfl)) Via.refl e1 I2 (g := (mkF m 7 #[.val (.ref a)] [(.ref a)])) rfl rfl (dd hy dJ68_68_7)
  have s3 : ∀ t_, Steps p.tables e below (T2.setTop (mkF m 18 #[.val (.ref a)] [(.int (0 : Int32))])) t_ → Steps _ _ _ _ t_ := fun t_ k_ => pre0 t_ (by
    refine st1 _ ?_
    refine XS.ifNo X1.here hx rfl (dd hy dJ68_68_3) rfl ((if0 _ _).trans (feq hcst).1) ?_
    show Steps _ _ _ (T1.setTop (mkF m 6 #[.val (.ref a)] [])) _
    refine XS.aloadN X1.here hx rfl (dd hy dJ68_68_6) rfl rfl ?_
    refine st2 _ ?_
    refine XS.ifYes X2.here hx rfl (pc0 := 10) (pc' := 17) rfl (dd hy dJ68_68_10) rfl ((if0 _ _).trans (feq (by decide : ¬ ((1 : Int32) = (0 : Int32)))).2) (by decide) (by decide) ?_
    show Steps _ _ _ (T2.setTop (mkF m 17 #[.val (.ref a)] [])) _
    refine XS.iconst X2.here hx rfl (dd hy dJ68_68_17) ?_
    exact k_)
  obtain ⟨fs, hr, hrun, hended, hW, hsame⟩ := X2.leave (v := some (.int (0 : Int32))) (fun h => by rw [Bd.returns] at h; cases h)
  refine ⟨_, _, s3 _ ?_, hrun, hended, _, _, rfl, ?_, ⟨_, rfl⟩, hW, hsame.mono (by decide) (by decide)⟩
  · exact retN X2 hx (t := .boolean) Bd.returns (by simp) (dd hy dJ68_68_18) hr
  · show Q_rmALat1 Z _ _ h0 n0 _ T2.heap _
    rw [e2]
    exact ⟨rfl, N0, rfl⟩
theorem dJ68_9_0 : decode CJ68_9 0 = .ok (.aload_n 0, 1) := by decide +kernel
theorem dJ68_9_1 : decode CJ68_9 1 = .ok (.getfield 15, 3) := by decide +kernel
theorem dJ68_9_4 : decode CJ68_9 4 = .ok (.arraylength, 1) := by decide +kernel
theorem dJ68_9_5 : decode CJ68_9 5 = .ok (.aload_n 0, 1) := by decide +kernel
theorem dJ68_9_6 : decode CJ68_9 6 = .ok (.getfield 22, 3) := by decide +kernel
theorem dJ68_9_9 : decode CJ68_9 9 = .ok (.ishr, 1) := by decide +kernel
theorem dJ68_9_10 : decode CJ68_9 10 = .ok (.istore_n 2, 1) := by decide +kernel
theorem dJ68_9_11 : decode CJ68_9 11 = .ok (.iload_n 1, 1) := by decide +kernel
theorem dJ68_9_12 : decode CJ68_9 12 = .ok (.iload_n 2, 1) := by decide +kernel
theorem dJ68_9_13 : decode CJ68_9 13 = .ok (.isub, 1) := by decide +kernel
theorem dJ68_9_14 : decode CJ68_9 14 = .ok (.ifCond .le 24, 3) := by decide +kernel
theorem dJ68_9_38 : decode CJ68_9 38 = .ok (.return_, 1) := by decide +kernel
theorem ef_rmEns (m : MethodId) (x0 : Addr) (x1 : Int32) : entryFrame m #[(.ref x0), (.int x1)] 3 = mkF m 0 #[.val (.ref x0), .val (.int x1), .unset] [] := by first | (simp [entryFrame, mkF, argsToLocals, Value.category]; done) | rfl
abbrev R_rmEns : Room := ({ frames := 0, cells := 0, slots := 0, locals := 0 } : Room)
def Q_rmEns (Z : State) (a : Addr) (va : Addr) (kc : ClassId) (xs : List Int32) (m_ : Nat) (h0 : Heap) (n0 : Nat) (v : Option Value) (h : Heap) (L : List Loc) : Prop := (v = none) ∧ (Fr n0 L) ∧ (h = h0)
set_option maxRecDepth 65536 in
set_option maxHeartbeats 40000000 in
theorem rmEns (l : Launch) (Z : State) (a0 : Array Value) (hw : HW Z a0) (ws : List Jvm.Cond) (a : Addr) (va : Addr) (kc : ClassId) (xs : List Int32) (m_ : Nat) (h0 : Heap) (n0 : Nat) (Z0 : n0 ≤ h0.size) (I1 : Fld Z h0 a cA "value" "[B" (.ref va)) (I2 : Fld Z h0 a cA "coder" "B" (.int (0 : Int32))) (I3 : Arv Z h0 va kc .byte (16 : Int32) (xs.map Value.int) v0_) (hm : m_ ≤ 16) :
    MF l Z M34_ (Jvm.Cond.code M34_ jdk_68_method_9_code 3 none :: ws) R_rmEns #[(.ref a), (.int (Int32.ofNat m_))] h0 (Q_rmEns Z a va kc xs m_ h0 n0) := by
  refine MetFree.of_bodySF (plainFor_of_name pn_java_lang_AbstractStringBuilder) hisR ?_
  intro p e s m args below meth c s₁ Bd hml0 hP hK
  obtain ⟨rfl, hZ, hh⟩ := hP
  have hx := Bd.exec
  have hy := Bd.bytes
  have hml : c.maxLocals = 3 := hml0
  have hown : s.vm.findClass "java/lang/AbstractStringBuilder" = some m.cls := findClass_of_methodNamed Bd.named
  have hnm := (name_of_methodNamed Bd.named Bd.method).1
  have X0 : Stand p l e R_rmEns s m #[(.ref a), (.int (Int32.ofNat m_))] below meth c s₁ [] 0 0 := Stand.of_body Bd
  have e0 : s₁.heap = h0 := by rw [← hh, Bd.state]; rfl
  have N0 := Fr.nil n0
  have pre0 := own_pre (p := p) (e := e) (below := below) (T := s₁) (ef_rmEns m a (Int32.ofNat m_))
  have lt_I1 : @LT.lt Nat _ a h0.size := I1.lt
  have lt_I3 : @LT.lt Nat _ va h0.size := I3.lt
  obtain ⟨T1, X1, e1, st1⟩ := getF X0 hx hZ hown (host := "") (Or.inl (own_m hw 52 rfl)) Via.refl e0 I1 (g := (mkF m 1 #[.val (.ref a), .val (.int (Int32.ofNat m_)), .unset] [(.ref a)])) rfl rfl (dd hy dJ68_9_1)
  obtain ⟨cl2, Ar2, -, S2, M2, -, -⟩ := id I3
  obtain ⟨T3, X3, e3, st3⟩ := getF X1 hx hZ hown (host := "") (Or.inl (own_m hw 54 rfl)) Via.refl e1 I2 (g := (mkF m 6 #[.val (.ref a), .val (.int (Int32.ofNat m_)), .unset] [(.ref a), (.int (16 : Int32))])) rfl rfl (dd hy dJ68_9_6)
  have s4 : ∀ t_, Steps p.tables e below (T3.setTop (mkF m 38 #[.val (.ref a), .val (.int (Int32.ofNat m_)), .val (.int ((16 : Int32) >>> ((0 : Int32) &&& 31)))] [])) t_ → Steps _ _ _ _ t_ := fun t_ k_ => pre0 t_ (by
    refine XS.aloadN X0.here hx rfl (dd hy dJ68_9_0) rfl rfl ?_
    refine st1 _ ?_
    refine X1.arraylength hx (by rw [e1]; exact Ar2.1) (State.isArrayOf_alike hZ.alike Ar2.2.1) (g := (mkF m 4 #[.val (.ref a), .val (.int (Int32.ofNat m_)), .unset] [(.ref va)])) rfl rfl (dd hy dJ68_9_4) _ ?_
    rw [len_of S2 M2]
    show Steps _ _ _ (T1.setTop (mkF m 5 #[.val (.ref a), .val (.int (Int32.ofNat m_)), .unset] [(.int (16 : Int32))])) _
    refine XS.aloadN X1.here hx rfl (dd hy dJ68_9_5) rfl rfl ?_
    refine st3 _ ?_
    refine XS.ishr X3.here hx rfl (dd hy dJ68_9_9) rfl ?_
    refine XS.istoreN X3.here hx rfl (dd hy dJ68_9_10) rfl (l' := #[.val (.ref a), .val (.int (Int32.ofNat m_)), .val (.int ((16 : Int32) >>> ((0 : Int32) &&& 31)))]) rfl ?_
    refine XS.iloadN X3.here hx rfl (dd hy dJ68_9_11) rfl ?_
    refine XS.iloadN X3.here hx rfl (dd hy dJ68_9_12) rfl ?_
    show Steps _ _ _ (T3.setTop (mkF m 13 #[.val (.ref a), .val (.int (Int32.ofNat m_)), .val (.int ((16 : Int32) >>> ((0 : Int32) &&& 31)))] [(.int ((16 : Int32) >>> ((0 : Int32) &&& 31))), (.int (Int32.ofNat m_))])) _
    refine XS.isub X3.here hx rfl (dd hy dJ68_9_13) rfl ?_
    refine XS.ifYes X3.here hx rfl (pc0 := 14) (pc' := 38) rfl (dd hy dJ68_9_14) rfl ((if0 _ _).trans (flt (own_cap16 hm)).2.2.2) (by decide) (by decide) ?_
    show Steps _ _ _ (T3.setTop (mkF m 38 #[.val (.ref a), .val (.int (Int32.ofNat m_)), .val (.int ((16 : Int32) >>> ((0 : Int32) &&& 31)))] [])) _
    exact k_)
  obtain ⟨fs, hr, hrun, hended, hW, hsame⟩ := X3.leave (v := none) (fun _ => rfl)
  refine ⟨_, _, s4 _ ?_, hrun, hended, _, _, rfl, ?_, ⟨_, rfl⟩, hW, hsame.mono (by decide) (by decide)⟩
  · exact X3.returnOut hx Bd.returns (dd hy dJ68_9_38) hr
  · show Q_rmEns Z _ _ _ _ _ h0 n0 _ T3.heap _
    rw [e3]
    exact ⟨rfl, N0, rfl⟩
theorem ef_rmEns1 (m : MethodId) (x0 : Addr) (x1 : Int32) : entryFrame m #[(.ref x0), (.int x1)] 3 = mkF m 0 #[.val (.ref x0), .val (.int x1), .unset] [] := by first | (simp [entryFrame, mkF, argsToLocals, Value.category]; done) | rfl
abbrev R_rmEns1 : Room := ({ frames := 0, cells := 0, slots := 0, locals := 0 } : Room)
def Q_rmEns1 (Z : State) (a : Addr) (va : Addr) (kc : ClassId) (xs : List Int32) (m_ : Nat) (h0 : Heap) (n0 : Nat) (v : Option Value) (h : Heap) (L : List Loc) : Prop := (v = none) ∧ (Fr n0 L) ∧ (h = h0)
set_option maxRecDepth 65536 in
set_option maxHeartbeats 40000000 in
theorem rmEns1 (l : Launch) (Z : State) (a0 : Array Value) (hw : HW Z a0) (ws : List Jvm.Cond) (a : Addr) (va : Addr) (kc : ClassId) (xs : List Int32) (m_ : Nat) (h0 : Heap) (n0 : Nat) (Z0 : n0 ≤ h0.size) (I1 : Fld Z h0 a cA "value" "[B" (.ref va)) (I2 : Fld Z h0 a cA "coder" "B" (.int (1 : Int32))) (I3 : Arv Z h0 va kc .byte (Int32.ofNat (2 * 16)) (xs.map Value.int) v0_) (hm : m_ ≤ 16) :
    MF l Z M34_ (Jvm.Cond.code M34_ jdk_68_method_9_code 3 none :: ws) R_rmEns1 #[(.ref a), (.int (Int32.ofNat m_))] h0 (Q_rmEns1 Z a va kc xs m_ h0 n0) := by
  refine MetFree.of_bodySF (plainFor_of_name pn_java_lang_AbstractStringBuilder) hisR ?_
  intro p e s m args below meth c s₁ Bd hml0 hP hK
  obtain ⟨rfl, hZ, hh⟩ := hP
  have hx := Bd.exec
  have hy := Bd.bytes
  have hml : c.maxLocals = 3 := hml0
  have hown : s.vm.findClass "java/lang/AbstractStringBuilder" = some m.cls := findClass_of_methodNamed Bd.named
  have hnm := (name_of_methodNamed Bd.named Bd.method).1
  have X0 : Stand p l e R_rmEns1 s m #[(.ref a), (.int (Int32.ofNat m_))] below meth c s₁ [] 0 0 := Stand.of_body Bd
  have e0 : s₁.heap = h0 := by rw [← hh, Bd.state]; rfl
  have N0 := Fr.nil n0
  have pre0 := own_pre (p := p) (e := e) (below := below) (T := s₁) (ef_rmEns1 m a (Int32.ofNat m_))
  have lt_I1 : @LT.lt Nat _ a h0.size := I1.lt
  have lt_I3 : @LT.lt Nat _ va h0.size := I3.lt
  obtain ⟨T1, X1, e1, st1⟩ := getF X0 hx hZ hown (host := "") (Or.inl (own_m hw 52 rfl)) Via.refl e0 I1 (g := (mkF m 1 #[.val (.ref a), .val (.int (Int32.ofNat m_)), .unset] [(.ref a)])) rfl rfl (dd hy dJ68_9_1)
  obtain ⟨cl2, Ar2, -, S2, M2, -, -⟩ := id I3
  obtain ⟨T3, X3, e3, st3⟩ := getF X1 hx hZ hown (host := "") (Or.inl (own_m hw 54 rfl)) Via.refl e1 I2 (g := (mkF m 6 #[.val (.ref a), .val (.int (Int32.ofNat m_)), .unset] [(.ref a), (.int (Int32.ofNat (2 * 16)))])) rfl rfl (dd hy dJ68_9_6)
  have s4 : ∀ t_, Steps p.tables e below (T3.setTop (mkF m 38 #[.val (.ref a), .val (.int (Int32.ofNat m_)), .val (.int ((Int32.ofNat (2 * 16)) >>> ((1 : Int32) &&& 31)))] [])) t_ → Steps _ _ _ _ t_ := fun t_ k_ => pre0 t_ (by
    refine XS.aloadN X0.here hx rfl (dd hy dJ68_9_0) rfl rfl ?_
    refine st1 _ ?_
    refine X1.arraylength hx (by rw [e1]; exact Ar2.1) (State.isArrayOf_alike hZ.alike Ar2.2.1) (g := (mkF m 4 #[.val (.ref a), .val (.int (Int32.ofNat m_)), .unset] [(.ref va)])) rfl rfl (dd hy dJ68_9_4) _ ?_
    rw [len_of S2 M2]
    show Steps _ _ _ (T1.setTop (mkF m 5 #[.val (.ref a), .val (.int (Int32.ofNat m_)), .unset] [(.int (Int32.ofNat (2 * 16)))])) _
    refine XS.aloadN X1.here hx rfl (dd hy dJ68_9_5) rfl rfl ?_
    refine st3 _ ?_
    refine XS.ishr X3.here hx rfl (dd hy dJ68_9_9) rfl ?_
    refine XS.istoreN X3.here hx rfl (dd hy dJ68_9_10) rfl (l' := #[.val (.ref a), .val (.int (Int32.ofNat m_)), .val (.int ((Int32.ofNat (2 * 16)) >>> ((1 : Int32) &&& 31)))]) rfl ?_
    refine XS.iloadN X3.here hx rfl (dd hy dJ68_9_11) rfl ?_
    refine XS.iloadN X3.here hx rfl (dd hy dJ68_9_12) rfl ?_
    show Steps _ _ _ (T3.setTop (mkF m 13 #[.val (.ref a), .val (.int (Int32.ofNat m_)), .val (.int ((Int32.ofNat (2 * 16)) >>> ((1 : Int32) &&& 31)))] [(.int ((Int32.ofNat (2 * 16)) >>> ((1 : Int32) &&& 31))), (.int (Int32.ofNat m_))])) _
    refine XS.isub X3.here hx rfl (dd hy dJ68_9_13) rfl ?_
    refine XS.ifYes X3.here hx rfl (pc0 := 14) (pc' := 38) rfl (dd hy dJ68_9_14) rfl ((if0 _ _).trans (flt (own_cap32 hm)).2.2.2) (by decide) (by decide) ?_
    show Steps _ _ _ (T3.setTop (mkF m 38 #[.val (.ref a), .val (.int (Int32.ofNat m_)), .val (.int ((Int32.ofNat (2 * 16)) >>> ((1 : Int32) &&& 31)))] [])) _
    exact k_)
  obtain ⟨fs, hr, hrun, hended, hW, hsame⟩ := X3.leave (v := none) (fun _ => rfl)
  refine ⟨_, _, s4 _ ?_, hrun, hended, _, _, rfl, ?_, ⟨_, rfl⟩, hW, hsame.mono (by decide) (by decide)⟩
  · exact X3.returnOut hx Bd.returns (dd hy dJ68_9_38) hr
  · show Q_rmEns1 Z _ _ _ _ _ h0 n0 _ T3.heap _
    rw [e3]
    exact ⟨rfl, N0, rfl⟩
theorem dJ68_71_0 : decode CJ68_71 0 = .ok (.getstatic 18, 3) := by decide +kernel
theorem dJ68_71_3 : decode CJ68_71 3 = .ok (.ifCond .eq 18, 3) := by decide +kernel
theorem dJ68_71_6 : decode CJ68_71 6 = .ok (.aload_n 0, 1) := by decide +kernel
theorem dJ68_71_7 : decode CJ68_71 7 = .ok (.getfield 22, 3) := by decide +kernel
theorem dJ68_71_10 : decode CJ68_71 10 = .ok (.aload_n 1, 1) := by decide +kernel
theorem dJ68_71_11 : decode CJ68_71 11 = .ok (.invokevirtual 40, 3) := by decide +kernel
theorem dJ68_71_14 : decode CJ68_71 14 = .ok (.if_icmp .eq 7, 3) := by decide +kernel
theorem dJ68_71_21 : decode CJ68_71 21 = .ok (.return_, 1) := by decide +kernel
theorem ef_rmInf (m : MethodId) (x0 : Addr) (x1 : Addr) : entryFrame m #[(.ref x0), (.ref x1)] 2 = mkF m 0 #[.val (.ref x0), .val (.ref x1)] [] := by first | (simp [entryFrame, mkF, argsToLocals, Value.category]; done) | rfl
abbrev R_rmInf : Room := ({ frames := 1, cells := 0, slots := 0, locals := 13 } : Room)
def Q_rmInf (Z : State) (a : Addr) (sx : Addr) (cst : Int32) (cs : List Int32) (h0 : Heap) (n0 : Nat) (v : Option Value) (h : Heap) (L : List Loc) : Prop := (v = none) ∧ (Fr n0 L) ∧ (h = h0)
set_option maxRecDepth 65536 in
set_option maxHeartbeats 40000000 in
theorem rmInf (l : Launch) (Z : State) (a0 : Array Value) (hw : HW Z a0) (ws : List Jvm.Cond) (a : Addr) (sx : Addr) (cst : Int32) (cs : List Int32) (h0 : Heap) (n0 : Nat) (Z0 : n0 ≤ h0.size) (I1 : Sta Z Z.heap cS cC "Z" (.int cst)) (OX : Old Z n0 h0) (hcst : ¬ (cst = (0 : Int32))) (I2 : Fld Z h0 a cA "coder" "B" (.int (0 : Int32))) (I3 : Exa Z h0 sx cS) (I4 : Fld Z h0 sx cS "coder" "B" (.int (own_cod cs))) (hlat : own_lat cs) :
    MF l Z M38_ (Jvm.Cond.code M38_ jdk_68_method_71_code 2 none :: ws) R_rmInf #[(.ref a), (.ref sx)] h0 (Q_rmInf Z a sx cst cs h0 n0) := by
  refine MetFree.of_bodySF (plainFor_of_name pn_java_lang_AbstractStringBuilder) hisR ?_
  intro p e s m args below meth c s₁ Bd hml0 hP hK
  obtain ⟨rfl, hZ, hh⟩ := hP
  have hx := Bd.exec
  have hy := Bd.bytes
  have hml : c.maxLocals = 2 := hml0
  have hown : s.vm.findClass "java/lang/AbstractStringBuilder" = some m.cls := findClass_of_methodNamed Bd.named
  have hnm := (name_of_methodNamed Bd.named Bd.method).1
  have X0 : Stand p l e R_rmInf s m #[(.ref a), (.ref sx)] below meth c s₁ [] 0 0 := Stand.of_body Bd
  have e0 : s₁.heap = h0 := by rw [← hh, Bd.state]; rfl
  have N0 := Fr.nil n0
  have pre0 := own_pre (p := p) (e := e) (below := below) (T := s₁) (ef_rmInf m a sx)
  have lt_I2 : @LT.lt Nat _ a h0.size := I2.lt
  have lt_I3 : @LT.lt Nat _ sx h0.size := I3.lt
  obtain ⟨T1, X1, e1, st1⟩ := getS2 X0 hx hZ hown (host := "") (Or.inl (own_m hw 51 rfl)) Via.refl e0 (I1.ext OX.2) (g := (mkF m 0 #[.val (.ref a), .val (.ref sx)] [])) rfl (dd hy dJ68_71_0)
  obtain ⟨T2, X2, e2, st2⟩ := getF X1 hx hZ hown (host := "") (Or.inl (own_m hw 54 rfl)) Via.refl e1 I2 (g := (mkF m 7 #[.val (.ref a), .val (.ref sx)] [(.ref a)])) rfl rfl (dd hy dJ68_71_7)
  have Zc3 : n0 ≤ h0.size := by omega
  obtain ⟨cq4, kq4, q4a, q4b, q4c⟩ := isOf hZ e2 I3
  obtain ⟨_, _, ⟨T4, L4, k4, n4⟩, -, X4, ⟨Lc4, hQ4, l4, y4, z4⟩, st4⟩ := X2.virtualBack hx (y := M10_) (z := M10_) hown (mvT hZ (own_m hw 121 rfl)) (mvT hZ (own_m hw 62 rfl)) (notFace_of_selects (args := #[]) (mvT hZ (own_m hw 64 rfl))) (mvT hZ (own_m hw 64 rfl)) (mvT hZ (own_m hw 63 rfl)) (by decide) (backOf (W := 1) (rmCdr l Z a0 hw [] sx cst cs h0 n0 Zc3 I1 OX hcst I4) hZ (own_m hw 65 rfl) (own_m hw 7 rfl) (by decide) (by decide)) q4a q4c (g := (mkF m 11 #[.val (.ref a), .val (.ref sx)] [(.ref sx), (.int (0 : Int32))])) rfl (by rw [hml]; rfl) (Steps.refl _) (argsL := []) (rest := [(.int (0 : Int32))]) (lenOf pd___B rfl) rfl (by show 2 * 0 + _ ≤ _; exact Nat.le_of_eq rfl) (dd hy dJ68_71_11) (fun _ _ => ⟨rfl, e2, (by decide : 0 + 0 ≤ _), (by decide : 0 + 0 ≤ _)⟩)
  dsimp only [Pt.U, Pt.locs, Pt.cells, Pt.slots] at X4 l4 y4 z4 st4 hQ4
  subst l4 y4 z4
  obtain ⟨rfl, N4q, e4⟩ := hQ4
  have N4 := Fr.app N0 N4q
  have s5 : ∀ t_, Steps p.tables e below (T4.setTop (mkF m 21 #[.val (.ref a), .val (.ref sx)] [])) t_ → Steps _ _ _ _ t_ := fun t_ k_ => pre0 t_ (by
    refine st1 _ ?_
    refine XS.ifNo X1.here hx rfl (dd hy dJ68_71_3) rfl ((if0 _ _).trans (feq hcst).1) ?_
    show Steps _ _ _ (T1.setTop (mkF m 6 #[.val (.ref a), .val (.ref sx)] [])) _
    refine XS.aloadN X1.here hx rfl (dd hy dJ68_71_6) rfl rfl ?_
    refine st2 _ ?_
    refine XS.aloadN X2.here hx rfl (dd hy dJ68_71_10) rfl rfl ?_
    refine st4.trans ?_
    show Steps _ _ _ (T4.setTop (mkF m 14 #[.val (.ref a), .val (.ref sx)] [(.int (own_cod cs)), (.int (0 : Int32))])) _
    refine XS.icmpYes X4.here hx rfl (pc0 := 14) (pc' := 21) rfl (dd hy dJ68_71_14) rfl (teq (own_cod0 hlat).symm).1 (by decide) (by decide) ?_
    show Steps _ _ _ (T4.setTop (mkF m 21 #[.val (.ref a), .val (.ref sx)] [])) _
    exact k_)
  obtain ⟨fs, hr, hrun, hended, hW, hsame⟩ := X4.leave (v := none) (fun _ => rfl)
  refine ⟨_, _, s5 _ ?_, hrun, hended, _, _, rfl, ?_, ⟨_, rfl⟩, hW, hsame.mono (by decide) (by decide)⟩
  · exact X4.returnOut hx Bd.returns (dd hy dJ68_71_21) hr
  · show Q_rmInf Z _ _ _ _ h0 n0 _ T4.heap _
    rw [e4]
    exact ⟨rfl, N4, rfl⟩
theorem dJ68_11_0 : decode CJ68_11 0 = .ok (.aload_n 0, 1) := by decide +kernel
theorem dJ68_11_1 : decode CJ68_11 1 = .ok (.invokevirtual 83, 3) := by decide +kernel
theorem dJ68_11_4 : decode CJ68_11 4 = .ok (.ifCond .ne 4, 3) := by decide +kernel
theorem dJ68_11_7 : decode CJ68_11 7 = .ok (.return_, 1) := by decide +kernel
theorem ef_rmInfl1 (m : MethodId) (x0 : Addr) : entryFrame m #[(.ref x0)] 2 = mkF m 0 #[.val (.ref x0), .unset] [] := by first | (simp [entryFrame, mkF, argsToLocals, Value.category]; done) | rfl
abbrev R_rmInfl1 : Room := ({ frames := 1, cells := 0, slots := 0, locals := 12 } : Room)
def Q_rmInfl1 (Z : State) (a : Addr) (cst : Int32) (h0 : Heap) (n0 : Nat) (v : Option Value) (h : Heap) (L : List Loc) : Prop := (v = none) ∧ (Fr n0 L) ∧ (h = h0)
set_option maxRecDepth 65536 in
set_option maxHeartbeats 40000000 in
theorem rmInfl1 (l : Launch) (Z : State) (a0 : Array Value) (hw : HW Z a0) (ws : List Jvm.Cond) (a : Addr) (cst : Int32) (h0 : Heap) (n0 : Nat) (Z0 : n0 ≤ h0.size) (I1 : Sta Z Z.heap cS cC "Z" (.int cst)) (OX : Old Z n0 h0) (hcst : ¬ (cst = (0 : Int32))) (I2 : Exa Z h0 a cB) (I3 : Fld Z h0 a cA "coder" "B" (.int (1 : Int32))) :
    MF l Z M39_ (Jvm.Cond.code M39_ jdk_68_method_11_code 2 none :: ws) R_rmInfl1 #[(.ref a)] h0 (Q_rmInfl1 Z a cst h0 n0) := by
  refine MetFree.of_bodySF (plainFor_of_name pn_java_lang_AbstractStringBuilder) hisR ?_
  intro p e s m args below meth c s₁ Bd hml0 hP hK
  obtain ⟨rfl, hZ, hh⟩ := hP
  have hx := Bd.exec
  have hy := Bd.bytes
  have hml : c.maxLocals = 2 := hml0
  have hown : s.vm.findClass "java/lang/AbstractStringBuilder" = some m.cls := findClass_of_methodNamed Bd.named
  have hnm := (name_of_methodNamed Bd.named Bd.method).1
  have X0 : Stand p l e R_rmInfl1 s m #[(.ref a)] below meth c s₁ [] 0 0 := Stand.of_body Bd
  have e0 : s₁.heap = h0 := by rw [← hh, Bd.state]; rfl
  have N0 := Fr.nil n0
  have pre0 := own_pre (p := p) (e := e) (below := below) (T := s₁) (ef_rmInfl1 m a)
  have lt_I2 : @LT.lt Nat _ a h0.size := I2.lt
  have Zc1 : n0 ≤ h0.size := by omega
  obtain ⟨cq2, kq2, q2a, q2b, q2c⟩ := isOf hZ e0 I2
  obtain ⟨_, _, ⟨T2, L2, k2, n2⟩, -, X2, ⟨Lc2, hQ2, l2, y2, z2⟩, st2⟩ := X0.virtualBack hx (y := M37_) (z := M37_) hown (mvT hZ (own_m hw 241 rfl)) (mvT hZ (own_m hw 158 rfl)) (notFace_of_selects (args := #[]) (mvT hZ (own_m hw 160 rfl))) (mvT hZ (own_m hw 160 rfl)) (mvT hZ (own_m hw 159 rfl)) (by decide) (backOf (W := 0) (rmALat1 l Z a0 hw [] a cst h0 n0 Zc1 I1 OX hcst I3) hZ (own_m hw 161 rfl) (own_m hw 48 rfl) (by decide) (by decide)) q2a q2c (g := (mkF m 1 #[.val (.ref a), .unset] [(.ref a)])) rfl (by rw [hml]; rfl) (Steps.refl _) (argsL := []) (rest := []) (lenOf pd___Z rfl) rfl (by show 2 * 0 + _ ≤ _; exact Nat.le_of_eq rfl) (dd hy dJ68_11_1) (fun _ _ => ⟨rfl, e0, (by decide : 0 + 0 ≤ _), (by decide : 0 + 0 ≤ _)⟩)
  dsimp only [Pt.U, Pt.locs, Pt.cells, Pt.slots] at X2 l2 y2 z2 st2 hQ2
  subst l2 y2 z2
  obtain ⟨rfl, N2q, e2⟩ := hQ2
  have N2 := Fr.app N0 N2q
  have s3 : ∀ t_, Steps p.tables e below (T2.setTop (mkF m 7 #[.val (.ref a), .unset] [])) t_ → Steps _ _ _ _ t_ := fun t_ k_ => pre0 t_ (by
    refine XS.aloadN X0.here hx rfl (dd hy dJ68_11_0) rfl rfl ?_
    refine st2.trans ?_
    show Steps _ _ _ (T2.setTop (mkF m 4 #[.val (.ref a), .unset] [(.int (0 : Int32))])) _
    refine XS.ifNo X2.here hx rfl (dd hy dJ68_11_4) rfl ((if0 _ _).trans (teq (rfl : (0 : Int32) = (0 : Int32))).2) ?_
    show Steps _ _ _ (T2.setTop (mkF m 7 #[.val (.ref a), .unset] [])) _
    exact k_)
  obtain ⟨fs, hr, hrun, hended, hW, hsame⟩ := X2.leave (v := none) (fun _ => rfl)
  refine ⟨_, _, s3 _ ?_, hrun, hended, _, _, rfl, ?_, ⟨_, rfl⟩, hW, hsame.mono (by decide) (by decide)⟩
  · exact X2.returnOut hx Bd.returns (dd hy dJ68_11_7) hr
  · show Q_rmInfl1 Z _ _ h0 n0 _ T2.heap _
    rw [e2]
    exact ⟨rfl, N2, rfl⟩
theorem dJ68_71_17 : decode CJ68_71 17 = .ok (.aload_n 0, 1) := by decide +kernel
theorem pd___V : parseMethodDescriptor "()V" = some ⟨[], none⟩ := by decide +kernel
theorem dJ68_71_18 : decode CJ68_71 18 = .ok (.invokevirtual 195, 3) := by decide +kernel
theorem ef_rmInf1 (m : MethodId) (x0 : Addr) (x1 : Addr) : entryFrame m #[(.ref x0), (.ref x1)] 2 = mkF m 0 #[.val (.ref x0), .val (.ref x1)] [] := by first | (simp [entryFrame, mkF, argsToLocals, Value.category]; done) | rfl
abbrev R_rmInf1 : Room := ({ frames := 2, cells := 0, slots := 0, locals := 25 } : Room)
def Q_rmInf1 (Z : State) (a : Addr) (sx : Addr) (cst : Int32) (cs : List Int32) (h0 : Heap) (n0 : Nat) (v : Option Value) (h : Heap) (L : List Loc) : Prop := (v = none) ∧ (Fr n0 L) ∧ (h = h0)
set_option maxRecDepth 65536 in
set_option maxHeartbeats 40000000 in
theorem rmInf1 (l : Launch) (Z : State) (a0 : Array Value) (hw : HW Z a0) (ws : List Jvm.Cond) (a : Addr) (sx : Addr) (cst : Int32) (cs : List Int32) (h0 : Heap) (n0 : Nat) (Z0 : n0 ≤ h0.size) (I1 : Sta Z Z.heap cS cC "Z" (.int cst)) (OX : Old Z n0 h0) (hcst : ¬ (cst = (0 : Int32))) (I2 : Exa Z h0 a cB) (I3 : Fld Z h0 a cA "coder" "B" (.int (1 : Int32))) (I4 : Exa Z h0 sx cS) (I5 : Fld Z h0 sx cS "coder" "B" (.int (own_cod cs))) (hlat : own_lat cs) :
    MF l Z M38_ (Jvm.Cond.code M38_ jdk_68_method_71_code 2 none :: ws) R_rmInf1 #[(.ref a), (.ref sx)] h0 (Q_rmInf1 Z a sx cst cs h0 n0) := by
  refine MetFree.of_bodySF (plainFor_of_name pn_java_lang_AbstractStringBuilder) hisR ?_
  intro p e s m args below meth c s₁ Bd hml0 hP hK
  obtain ⟨rfl, hZ, hh⟩ := hP
  have hx := Bd.exec
  have hy := Bd.bytes
  have hml : c.maxLocals = 2 := hml0
  have hown : s.vm.findClass "java/lang/AbstractStringBuilder" = some m.cls := findClass_of_methodNamed Bd.named
  have hnm := (name_of_methodNamed Bd.named Bd.method).1
  have X0 : Stand p l e R_rmInf1 s m #[(.ref a), (.ref sx)] below meth c s₁ [] 0 0 := Stand.of_body Bd
  have e0 : s₁.heap = h0 := by rw [← hh, Bd.state]; rfl
  have N0 := Fr.nil n0
  have pre0 := own_pre (p := p) (e := e) (below := below) (T := s₁) (ef_rmInf1 m a sx)
  have lt_I2 : @LT.lt Nat _ a h0.size := I2.lt
  have lt_I4 : @LT.lt Nat _ sx h0.size := I4.lt
  obtain ⟨T1, X1, e1, st1⟩ := getS2 X0 hx hZ hown (host := "") (Or.inl (own_m hw 51 rfl)) Via.refl e0 (I1.ext OX.2) (g := (mkF m 0 #[.val (.ref a), .val (.ref sx)] [])) rfl (dd hy dJ68_71_0)
  obtain ⟨T2, X2, e2, st2⟩ := getF X1 hx hZ hown (host := "") (Or.inl (own_m hw 54 rfl)) Via.refl e1 I3 (g := (mkF m 7 #[.val (.ref a), .val (.ref sx)] [(.ref a)])) rfl rfl (dd hy dJ68_71_7)
  have Zc3 : n0 ≤ h0.size := by omega
  obtain ⟨cq4, kq4, q4a, q4b, q4c⟩ := isOf hZ e2 I4
  obtain ⟨_, _, ⟨T4, L4, k4, n4⟩, -, X4, ⟨Lc4, hQ4, l4, y4, z4⟩, st4⟩ := X2.virtualBack hx (y := M10_) (z := M10_) hown (mvT hZ (own_m hw 121 rfl)) (mvT hZ (own_m hw 62 rfl)) (notFace_of_selects (args := #[]) (mvT hZ (own_m hw 64 rfl))) (mvT hZ (own_m hw 64 rfl)) (mvT hZ (own_m hw 63 rfl)) (by decide) (backOf (W := 1) (rmCdr l Z a0 hw [] sx cst cs h0 n0 Zc3 I1 OX hcst I5) hZ (own_m hw 65 rfl) (own_m hw 7 rfl) (by decide) (by decide)) q4a q4c (g := (mkF m 11 #[.val (.ref a), .val (.ref sx)] [(.ref sx), (.int (1 : Int32))])) rfl (by rw [hml]; rfl) (Steps.refl _) (argsL := []) (rest := [(.int (1 : Int32))]) (lenOf pd___B rfl) rfl (by show 2 * 0 + _ ≤ _; exact Nat.le_of_eq rfl) (dd hy dJ68_71_11) (fun _ _ => ⟨rfl, e2, (by decide : 0 + 0 ≤ _), (by decide : 0 + 0 ≤ _)⟩)
  dsimp only [Pt.U, Pt.locs, Pt.cells, Pt.slots] at X4 l4 y4 z4 st4 hQ4
  subst l4 y4 z4
  obtain ⟨rfl, N4q, e4⟩ := hQ4
  have N4 := Fr.app N0 N4q
  have Zc5 : n0 ≤ h0.size := by omega
  obtain ⟨cq6, kq6, q6a, q6b, q6c⟩ := isOf hZ e4 I2
  obtain ⟨_, _, ⟨T6, L6, k6, n6⟩, -, X6, ⟨Lc6, hQ6, l6, y6, z6⟩, st6⟩ := X4.virtualBack hx (y := M39_) (z := M39_) hown (mvT hZ (own_m hw 236 rfl)) (mvT hZ (own_declares (own_m hw 237 rfl) (own_m hw 240 rfl))) (notFace_of_selects (args := #[]) (mvT hZ (own_m hw 239 rfl))) (mvT hZ (own_m hw 239 rfl)) (mvT hZ (own_m hw 237 rfl)) (by decide) (backOf (W := 0) (rmInfl1 l Z a0 hw [] a cst h0 n0 Zc5 I1 OX hcst I2 I3) hZ (own_m hw 240 rfl) (own_m hw 48 rfl) (by decide) (by decide)) q6a q6c (g := (mkF m 18 #[.val (.ref a), .val (.ref sx)] [(.ref a)])) rfl (by rw [hml]; rfl) (Steps.refl _) (argsL := []) (rest := []) (lenOf pd___V rfl) rfl (by show 2 * 0 + _ ≤ _; exact Nat.le_of_eq rfl) (dd hy dJ68_71_18) (fun _ _ => ⟨rfl, e4, (by decide : 0 + 0 ≤ _), (by decide : 0 + 0 ≤ _)⟩)
  dsimp only [Pt.U, Pt.locs, Pt.cells, Pt.slots] at X6 l6 y6 z6 st6 hQ6
  subst l6 y6 z6
  obtain ⟨rfl, N6q, e6⟩ := hQ6
  have N6 := Fr.app N4 N6q
  have s7 : ∀ t_, Steps p.tables e below (T6.setTop (mkF m 21 #[.val (.ref a), .val (.ref sx)] [])) t_ → Steps _ _ _ _ t_ := fun t_ k_ => pre0 t_ (by
    refine st1 _ ?_
    refine XS.ifNo X1.here hx rfl (dd hy dJ68_71_3) rfl ((if0 _ _).trans (feq hcst).1) ?_
    show Steps _ _ _ (T1.setTop (mkF m 6 #[.val (.ref a), .val (.ref sx)] [])) _
    refine XS.aloadN X1.here hx rfl (dd hy dJ68_71_6) rfl rfl ?_
    refine st2 _ ?_
    refine XS.aloadN X2.here hx rfl (dd hy dJ68_71_10) rfl rfl ?_
    refine st4.trans ?_
    show Steps _ _ _ (T4.setTop (mkF m 14 #[.val (.ref a), .val (.ref sx)] [(.int (own_cod cs)), (.int (1 : Int32))])) _
    refine XS.icmpNo X4.here hx rfl (dd hy dJ68_71_14) rfl (feq (fun e => absurd (e.trans (own_cod0 hlat)) (by decide))).1 ?_
    show Steps _ _ _ (T4.setTop (mkF m 17 #[.val (.ref a), .val (.ref sx)] [])) _
    refine XS.aloadN X4.here hx rfl (dd hy dJ68_71_17) rfl rfl ?_
    refine st6.trans ?_
    show Steps _ _ _ (T6.setTop (mkF m 21 #[.val (.ref a), .val (.ref sx)] [])) _
    exact k_)
  obtain ⟨fs, hr, hrun, hended, hW, hsame⟩ := X6.leave (v := none) (fun _ => rfl)
  refine ⟨_, _, s7 _ ?_, hrun, hended, _, _, rfl, ?_, ⟨_, rfl⟩, hW, hsame.mono (by decide) (by decide)⟩
  · exact X6.returnOut hx Bd.returns (dd hy dJ68_71_21) hr
  · show Q_rmInf1 Z _ _ _ _ h0 n0 _ T6.heap _
    rw [e6]
    exact ⟨rfl, N6, rfl⟩
theorem dJ52_86_0 : decode CJ52_86 0 = .ok (.iload_n 3, 1) := by decide +kernel
theorem dJ52_86_1 : decode CJ52_86 1 = .ok (.iload 4, 2) := by decide +kernel
theorem dJ52_86_3 : decode CJ52_86 3 = .ok (.aload_n 2, 1) := by decide +kernel
theorem dJ52_86_4 : decode CJ52_86 4 = .ok (.invokestatic 173, 3) := by decide +kernel
theorem dJ52_86_7 : decode CJ52_86 7 = .ok (.iconst 0, 1) := by decide +kernel
theorem dJ52_86_8 : decode CJ52_86 8 = .ok (.istore 5, 2) := by decide +kernel
theorem dJ52_86_10 : decode CJ52_86 10 = .ok (.iload 5, 2) := by decide +kernel
theorem dJ52_86_12 : decode CJ52_86 12 = .ok (.iload 4, 2) := by decide +kernel
theorem dJ52_86_14 : decode CJ52_86 14 = .ok (.if_icmp .ge 27, 3) := by decide +kernel
theorem dJ52_86_41 : decode CJ52_86 41 = .ok (.return_, 1) := by decide +kernel
theorem ef_rmInU0 (m : MethodId) (x0 : Addr) (x1 : Int32) (x2 : Addr) (x3 : Int32) (x4 : Int32) : entryFrame m #[(.ref x0), (.int x1), (.ref x2), (.int x3), (.int x4)] 6 = mkF m 0 #[.val (.ref x0), .val (.int x1), .val (.ref x2), .val (.int x3), .val (.int x4), .unset] [] := by first | (simp [entryFrame, mkF, argsToLocals, Value.category]; done) | rfl
abbrev R_rmInU0 : Room := ({ frames := 3, cells := 0, slots := 0, locals := 43 } : Room)
def Q_rmInU0 (Z : State) (sa : Addr) (ba : Addr) (kb : ClassId) (vs : List Value) (n : Nat) (fmt : Value) (h0 : Heap) (n0 : Nat) (v : Option Value) (h : Heap) (L : List Loc) : Prop := (v = none) ∧ (Fr n0 L) ∧ (h = h0)
set_option maxRecDepth 65536 in
set_option maxHeartbeats 40000000 in
theorem rmInU0 (l : Launch) (Z : State) (a0 : Array Value) (hw : HW Z a0) (ws : List Jvm.Cond) (sa : Addr) (ba : Addr) (kb : ClassId) (vs : List Value) (n : Nat) (fmt : Value) (h0 : Heap) (n0 : Nat) (Z0 : n0 ≤ h0.size) (hfmt : fmt.isRef = true) (I1 : Sta Z Z.heap cP cG cF fmt) (OX : Old Z n0 h0) (I2 : Arv Z h0 ba kb .byte (Int32.ofNat (2 * n)) vs v0_) (hn : n ≤ 4000) :
    MF l Z M40_ (Jvm.Cond.code M40_ jdk_52_method_86_code 6 none :: ws) R_rmInU0 #[(.ref sa), (.int (0 : Int32)), (.ref ba), (.int (0 : Int32)), (.int (0 : Int32))] h0 (Q_rmInU0 Z sa ba kb vs n fmt h0 n0) := by
  refine MetFree.of_bodySF (plainFor_of_name pn_java_lang_StringUTF16) hisR ?_
  intro p e s m args below meth c s₁ Bd hml0 hP hK
  obtain ⟨rfl, hZ, hh⟩ := hP
  have hx := Bd.exec
  have hy := Bd.bytes
  have hml : c.maxLocals = 6 := hml0
  have hown : s.vm.findClass "java/lang/StringUTF16" = some m.cls := findClass_of_methodNamed Bd.named
  have hnm := (name_of_methodNamed Bd.named Bd.method).1
  have X0 : Stand p l e R_rmInU0 s m #[(.ref sa), (.int (0 : Int32)), (.ref ba), (.int (0 : Int32)), (.int (0 : Int32))] below meth c s₁ [] 0 0 := Stand.of_body Bd
  have e0 : s₁.heap = h0 := by rw [← hh, Bd.state]; rfl
  have N0 := Fr.nil n0
  have pre0 := own_pre (p := p) (e := e) (below := below) (T := s₁) (ef_rmInU0 m sa (0 : Int32) ba (0 : Int32) (0 : Int32))
  have lt_I2 : @LT.lt Nat _ ba h0.size := I2.lt
  have Zc1 : n0 ≤ h0.size := by omega
  obtain ⟨_, _, ⟨T2, L2, k2, n2⟩, -, X2, ⟨Lc2, hQ2, l2, y2, z2⟩, st2⟩ := Jvm.LawKit.callS X0 hx (y := M26_) hown (mvT hZ (own_m hw 220 rfl)) (mvT hZ (own_m hw 221 rfl)) (mvT hZ (own_m hw 21 rfl)) (mvT hZ (own_m hw 222 rfl)) (by decide) (backOf (W := 0) (rmCBO l Z a0 hw [] ba 0 0 n kb vs fmt h0 n0 Zc1 hfmt I1 OX I2 (by omega) hn) hZ (own_m hw 222 rfl) (own_m hw 21 rfl) (by decide) (by decide)) (g := (mkF m 4 #[.val (.ref sa), .val (.int (0 : Int32)), .val (.ref ba), .val (.int (0 : Int32)), .val (.int (0 : Int32)), .unset] [(.ref ba), (.int (0 : Int32)), (.int (0 : Int32))])) rfl (by rw [hml]; rfl) (argsL := [(.int (0 : Int32)), (.int (0 : Int32)), (.ref ba)]) (rest := []) (lenOf pd__II_B_V rfl) rfl (by show 2 * 0 + _ ≤ _; exact Nat.le_of_eq rfl) (dd hy dJ52_86_4) (fun _ _ => ⟨rfl, e0, (by decide : 0 + 0 ≤ _), (by decide : 0 + 0 ≤ _)⟩)
  dsimp only [Pt.U, Pt.locs, Pt.cells, Pt.slots] at X2 l2 y2 z2 st2 hQ2
  subst l2 y2 z2
  obtain ⟨rfl, N2q, e2⟩ := hQ2
  have N2 := Fr.app N0 N2q
  have s3 : ∀ t_, Steps p.tables e below (T2.setTop (mkF m 41 #[.val (.ref sa), .val (.int (0 : Int32)), .val (.ref ba), .val (.int (0 : Int32)), .val (.int (0 : Int32)), .val (.int (0 : Int32))] [])) t_ → Steps _ _ _ _ t_ := fun t_ k_ => pre0 t_ (by
    refine XS.iloadN X0.here hx rfl (dd hy dJ52_86_0) rfl ?_
    refine XS.iload X0.here hx rfl (dd hy dJ52_86_1) rfl ?_
    refine XS.aloadN X0.here hx rfl (dd hy dJ52_86_3) rfl rfl ?_
    refine st2 _ ?_
    show Steps _ _ _ (T2.setTop (mkF m 7 #[.val (.ref sa), .val (.int (0 : Int32)), .val (.ref ba), .val (.int (0 : Int32)), .val (.int (0 : Int32)), .unset] [])) _
    refine XS.iconst X2.here hx rfl (dd hy dJ52_86_7) ?_
    refine XS.istore X2.here hx rfl (dd hy dJ52_86_8) rfl (l' := #[.val (.ref sa), .val (.int (0 : Int32)), .val (.ref ba), .val (.int (0 : Int32)), .val (.int (0 : Int32)), .val (.int (0 : Int32))]) rfl ?_
    refine XS.iload X2.here hx rfl (dd hy dJ52_86_10) rfl ?_
    refine XS.iload X2.here hx rfl (dd hy dJ52_86_12) rfl ?_
    refine XS.icmpYes X2.here hx rfl (pc0 := 14) (pc' := 41) rfl (dd hy dJ52_86_14) rfl (flt (by decide : ¬ ((0 : Int32) < (0 : Int32)))).2.1 (by decide) (by decide) ?_
    show Steps _ _ _ (T2.setTop (mkF m 41 #[.val (.ref sa), .val (.int (0 : Int32)), .val (.ref ba), .val (.int (0 : Int32)), .val (.int (0 : Int32)), .val (.int (0 : Int32))] [])) _
    exact k_)
  obtain ⟨fs, hr, hrun, hended, hW, hsame⟩ := X2.leave (v := none) (fun _ => rfl)
  refine ⟨_, _, s3 _ ?_, hrun, hended, _, _, rfl, ?_, ⟨_, rfl⟩, hW, hsame.mono (by decide) (by decide)⟩
  · exact X2.returnOut hx Bd.returns (dd hy dJ52_86_41) hr
  · show Q_rmInU0 Z _ _ _ _ _ _ h0 n0 _ T2.heap _
    rw [e2]
    exact ⟨rfl, N2, rfl⟩
theorem dJ43_50_0 : decode CJ43_50 0 = .ok (.aload_n 0, 1) := by decide +kernel
theorem dJ43_50_1 : decode CJ43_50 1 = .ok (.iload_n 1, 1) := by decide +kernel
theorem dJ43_50_2 : decode CJ43_50 2 = .ok (.aload_n 2, 1) := by decide +kernel
theorem dJ43_50_3 : decode CJ43_50 3 = .ok (.iload_n 3, 1) := by decide +kernel
theorem dJ43_50_4 : decode CJ43_50 4 = .ok (.iload 4, 2) := by decide +kernel
theorem pd___BI_BII_V : parseMethodDescriptor "([BI[BII)V" = some ⟨[(.array .byte), .int, (.array .byte), .int, .int], none⟩ := by decide +kernel
theorem dJ43_50_6 : decode CJ43_50 6 = .ok (.invokestatic 240, 3) := by decide +kernel
theorem dJ43_50_9 : decode CJ43_50 9 = .ok (.return_, 1) := by decide +kernel
theorem ef_rmInL0 (m : MethodId) (x0 : Addr) (x1 : Int32) (x2 : Addr) (x3 : Int32) (x4 : Int32) : entryFrame m #[(.ref x0), (.int x1), (.ref x2), (.int x3), (.int x4)] 5 = mkF m 0 #[.val (.ref x0), .val (.int x1), .val (.ref x2), .val (.int x3), .val (.int x4)] [] := by first | (simp [entryFrame, mkF, argsToLocals, Value.category]; done) | rfl
abbrev R_rmInL0 : Room := ({ frames := 4, cells := 0, slots := 0, locals := 60 } : Room)
def Q_rmInL0 (Z : State) (sa : Addr) (ba : Addr) (kb : ClassId) (vs : List Value) (n : Nat) (fmt : Value) (h0 : Heap) (n0 : Nat) (v : Option Value) (h : Heap) (L : List Loc) : Prop := (v = none) ∧ (Fr n0 L) ∧ (h = h0)
set_option maxRecDepth 65536 in
set_option maxHeartbeats 40000000 in
theorem rmInL0 (l : Launch) (Z : State) (a0 : Array Value) (hw : HW Z a0) (ws : List Jvm.Cond) (sa : Addr) (ba : Addr) (kb : ClassId) (vs : List Value) (n : Nat) (fmt : Value) (h0 : Heap) (n0 : Nat) (Z0 : n0 ≤ h0.size) (hfmt : fmt.isRef = true) (I1 : Sta Z Z.heap cP cG cF fmt) (OX : Old Z n0 h0) (I2 : Arv Z h0 ba kb .byte (Int32.ofNat (2 * n)) vs v0_) (hn : n ≤ 4000) :
    MF l Z M41_ (Jvm.Cond.code M41_ jdk_43_method_50_code 5 none :: ws) R_rmInL0 #[(.ref sa), (.int (0 : Int32)), (.ref ba), (.int (0 : Int32)), (.int (0 : Int32))] h0 (Q_rmInL0 Z sa ba kb vs n fmt h0 n0) := by
  refine MetFree.of_bodySF (plainFor_of_name pn_java_lang_StringLatin1) hisR ?_
  intro p e s m args below meth c s₁ Bd hml0 hP hK
  obtain ⟨rfl, hZ, hh⟩ := hP
  have hx := Bd.exec
  have hy := Bd.bytes
  have hml : c.maxLocals = 5 := hml0
  have hown : s.vm.findClass "java/lang/StringLatin1" = some m.cls := findClass_of_methodNamed Bd.named
  have hnm := (name_of_methodNamed Bd.named Bd.method).1
  have X0 : Stand p l e R_rmInL0 s m #[(.ref sa), (.int (0 : Int32)), (.ref ba), (.int (0 : Int32)), (.int (0 : Int32))] below meth c s₁ [] 0 0 := Stand.of_body Bd
  have e0 : s₁.heap = h0 := by rw [← hh, Bd.state]; rfl
  have N0 := Fr.nil n0
  have pre0 := own_pre (p := p) (e := e) (below := below) (T := s₁) (ef_rmInL0 m sa (0 : Int32) ba (0 : Int32) (0 : Int32))
  have lt_I2 : @LT.lt Nat _ ba h0.size := I2.lt
  have Zc1 : n0 ≤ h0.size := by omega
  obtain ⟨_, _, ⟨T2, L2, k2, n2⟩, -, X2, ⟨Lc2, hQ2, l2, y2, z2⟩, st2⟩ := Jvm.LawKit.callS X0 hx (y := M40_) hown (mvT hZ (own_m hw 246 rfl)) (mvT hZ (own_m hw 247 rfl)) (mvT hZ (own_m hw 21 rfl)) (mvT hZ (own_m hw 248 rfl)) (by decide) (backOf (W := 0) (rmInU0 l Z a0 hw [] sa ba kb vs n fmt h0 n0 Zc1 hfmt I1 OX I2 hn) hZ (own_m hw 248 rfl) (own_m hw 21 rfl) (by decide) (by decide)) (g := (mkF m 6 #[.val (.ref sa), .val (.int (0 : Int32)), .val (.ref ba), .val (.int (0 : Int32)), .val (.int (0 : Int32))] [(.int (0 : Int32)), (.int (0 : Int32)), (.ref ba), (.int (0 : Int32)), (.ref sa)])) rfl (by rw [hml]; rfl) (argsL := [(.ref sa), (.int (0 : Int32)), (.ref ba), (.int (0 : Int32)), (.int (0 : Int32))]) (rest := []) (lenOf pd___BI_BII_V rfl) rfl (by show 2 * 0 + _ ≤ _; exact Nat.le_of_eq rfl) (dd hy dJ43_50_6) (fun _ _ => ⟨rfl, e0, (by decide : 0 + 0 ≤ _), (by decide : 0 + 0 ≤ _)⟩)
  dsimp only [Pt.U, Pt.locs, Pt.cells, Pt.slots] at X2 l2 y2 z2 st2 hQ2
  subst l2 y2 z2
  obtain ⟨rfl, N2q, e2⟩ := hQ2
  have N2 := Fr.app N0 N2q
  have s3 : ∀ t_, Steps p.tables e below (T2.setTop (mkF m 9 #[.val (.ref sa), .val (.int (0 : Int32)), .val (.ref ba), .val (.int (0 : Int32)), .val (.int (0 : Int32))] [])) t_ → Steps _ _ _ _ t_ := fun t_ k_ => pre0 t_ (by
    refine XS.aloadN X0.here hx rfl (dd hy dJ43_50_0) rfl rfl ?_
    refine XS.iloadN X0.here hx rfl (dd hy dJ43_50_1) rfl ?_
    refine XS.aloadN X0.here hx rfl (dd hy dJ43_50_2) rfl rfl ?_
    refine XS.iloadN X0.here hx rfl (dd hy dJ43_50_3) rfl ?_
    refine XS.iload X0.here hx rfl (dd hy dJ43_50_4) rfl ?_
    refine st2 _ ?_
    show Steps _ _ _ (T2.setTop (mkF m 9 #[.val (.ref sa), .val (.int (0 : Int32)), .val (.ref ba), .val (.int (0 : Int32)), .val (.int (0 : Int32))] [])) _
    exact k_)
  obtain ⟨fs, hr, hrun, hended, hW, hsame⟩ := X2.leave (v := none) (fun _ => rfl)
  refine ⟨_, _, s3 _ ?_, hrun, hended, _, _, rfl, ?_, ⟨_, rfl⟩, hW, hsame.mono (by decide) (by decide)⟩
  · exact X2.returnOut hx Bd.returns (dd hy dJ43_50_9) hr
  · show Q_rmInL0 Z _ _ _ _ _ _ h0 n0 _ T2.heap _
    rw [e2]
    exact ⟨rfl, N2, rfl⟩
theorem dJ68_11_8 : decode CJ68_11 8 = .ok (.aload_n 0, 1) := by decide +kernel
theorem dJ68_11_9 : decode CJ68_11 9 = .ok (.getfield 15, 3) := by decide +kernel
theorem dJ68_11_12 : decode CJ68_11 12 = .ok (.arraylength, 1) := by decide +kernel
theorem dJ68_11_13 : decode CJ68_11 13 = .ok (.invokestatic 26, 3) := by decide +kernel
theorem dJ68_11_16 : decode CJ68_11 16 = .ok (.astore_n 1, 1) := by decide +kernel
theorem dJ68_11_17 : decode CJ68_11 17 = .ok (.aload_n 0, 1) := by decide +kernel
theorem dJ68_11_18 : decode CJ68_11 18 = .ok (.getfield 15, 3) := by decide +kernel
theorem dJ68_11_21 : decode CJ68_11 21 = .ok (.iconst 0, 1) := by decide +kernel
theorem dJ68_11_22 : decode CJ68_11 22 = .ok (.aload_n 1, 1) := by decide +kernel
theorem dJ68_11_23 : decode CJ68_11 23 = .ok (.iconst 0, 1) := by decide +kernel
theorem dJ68_11_24 : decode CJ68_11 24 = .ok (.aload_n 0, 1) := by decide +kernel
theorem dJ68_11_25 : decode CJ68_11 25 = .ok (.getfield 79, 3) := by decide +kernel
theorem dJ68_11_28 : decode CJ68_11 28 = .ok (.invokestatic 125, 3) := by decide +kernel
theorem dJ68_11_31 : decode CJ68_11 31 = .ok (.aload_n 0, 1) := by decide +kernel
theorem dJ68_11_32 : decode CJ68_11 32 = .ok (.aload_n 1, 1) := by decide +kernel
theorem dJ68_11_33 : decode CJ68_11 33 = .ok (.putfield 15, 3) := by decide +kernel
theorem dJ68_11_36 : decode CJ68_11 36 = .ok (.aload_n 0, 1) := by decide +kernel
theorem dJ68_11_37 : decode CJ68_11 37 = .ok (.iconst 1, 1) := by decide +kernel
theorem dJ68_11_38 : decode CJ68_11 38 = .ok (.putfield 22, 3) := by decide +kernel
theorem dJ68_11_41 : decode CJ68_11 41 = .ok (.return_, 1) := by decide +kernel
theorem ef_rmInfl0 (m : MethodId) (x0 : Addr) : entryFrame m #[(.ref x0)] 2 = mkF m 0 #[.val (.ref x0), .unset] [] := by first | (simp [entryFrame, mkF, argsToLocals, Value.category]; done) | rfl
abbrev R_rmInfl0 : Room := ({ frames := 5, cells := 1, slots := 32, locals := 76 } : Room)
def Q_rmInfl0 (Z : State) (a : Addr) (cst : Int32) (va : Addr) (kc : ClassId) (xs : List Int32) (fmt : Value) (h0 : Heap) (n0 : Nat) (v : Option Value) (h : Heap) (L : List Loc) : Prop := ∃ (vb : Addr), ∃ (kd : ClassId), (v = none) ∧ (Fr n0 L) ∧ (Keep h0 h [a]) ∧ (Exa Z h a cB) ∧ (Fld Z h a cA "value" "[B" (.ref vb)) ∧ (Fld Z h a cA "coder" "B" (.int (1 : Int32))) ∧ (Fld Z h a cA "count" "I" (.int (0 : Int32))) ∧ (Fld Z h a cA "maybeLatin1" "Z" (.int (0 : Int32))) ∧ (Arv Z h vb kd .byte (Int32.ofNat (2 * 16)) ((List.replicate 32 (0 : Int32)).map Value.int) v0_) ∧ (h0.size ≤ vb)
set_option maxRecDepth 65536 in
set_option maxHeartbeats 40000000 in
theorem rmInfl0 (l : Launch) (Z : State) (a0 : Array Value) (hw : HW Z a0) (ws : List Jvm.Cond) (a : Addr) (cst : Int32) (va : Addr) (kc : ClassId) (xs : List Int32) (fmt : Value) (h0 : Heap) (n0 : Nat) (Z0 : n0 ≤ h0.size) (I1 : Sta Z Z.heap cS cC "Z" (.int cst)) (I2 : Sta Z Z.heap cU cD "Z" (.int (1 : Int32))) (I3 : Sta Z Z.heap cU cH "I" (.int (0 : Int32))) (I4 : Sta Z Z.heap cU cL "I" (.int (8 : Int32))) (hfmt : fmt.isRef = true) (I5 : Sta Z Z.heap cP cG cF fmt) (OX : Old Z n0 h0) (hcst : ¬ (cst = (0 : Int32))) (I6 : Exa Z h0 a cB) (I7 : Fld Z h0 a cA "value" "[B" (.ref va)) (I8 : Fld Z h0 a cA "coder" "B" (.int (0 : Int32))) (I9 : Fld Z h0 a cA "count" "I" (.int (0 : Int32))) (I10 : Fld Z h0 a cA "maybeLatin1" "Z" (.int (0 : Int32))) (I11 : Arv Z h0 va kc .byte (16 : Int32) (xs.map Value.int) v0_) (ga : n0 ≤ a) :
    MF l Z M39_ (Jvm.Cond.code M39_ jdk_68_method_11_code 2 none :: ws) R_rmInfl0 #[(.ref a)] h0 (Q_rmInfl0 Z a cst va kc xs fmt h0 n0) := by
  refine MetFree.of_bodySF (plainFor_of_name pn_java_lang_AbstractStringBuilder) hisR ?_
  intro p e s m args below meth c s₁ Bd hml0 hP hK
  obtain ⟨rfl, hZ, hh⟩ := hP
  have hx := Bd.exec
  have hy := Bd.bytes
  have hml : c.maxLocals = 2 := hml0
  have hown : s.vm.findClass "java/lang/AbstractStringBuilder" = some m.cls := findClass_of_methodNamed Bd.named
  have hnm := (name_of_methodNamed Bd.named Bd.method).1
  have X0 : Stand p l e R_rmInfl0 s m #[(.ref a)] below meth c s₁ [] 0 0 := Stand.of_body Bd
  have e0 : s₁.heap = h0 := by rw [← hh, Bd.state]; rfl
  have N0 := Fr.nil n0
  have pre0 := own_pre (p := p) (e := e) (below := below) (T := s₁) (ef_rmInfl0 m a)
  have lt_I6 : @LT.lt Nat _ a h0.size := I6.lt
  have lt_I11 : @LT.lt Nat _ va h0.size := I11.lt
  have Zc1 : n0 ≤ h0.size := by omega
  obtain ⟨cq2, kq2, q2a, q2b, q2c⟩ := isOf hZ e0 I6
  obtain ⟨_, _, ⟨T2, L2, k2, n2⟩, -, X2, ⟨Lc2, hQ2, l2, y2, z2⟩, st2⟩ := X0.virtualBack hx (y := M37_) (z := M37_) hown (mvT hZ (own_m hw 241 rfl)) (mvT hZ (own_m hw 158 rfl)) (notFace_of_selects (args := #[]) (mvT hZ (own_m hw 160 rfl))) (mvT hZ (own_m hw 160 rfl)) (mvT hZ (own_m hw 159 rfl)) (by decide) (backOf (W := 0) (rmALat l Z a0 hw [] a cst h0 n0 Zc1 I1 OX hcst I8) hZ (own_m hw 161 rfl) (own_m hw 48 rfl) (by decide) (by decide)) q2a q2c (g := (mkF m 1 #[.val (.ref a), .unset] [(.ref a)])) rfl (by rw [hml]; rfl) (Steps.refl _) (argsL := []) (rest := []) (lenOf pd___Z rfl) rfl (by show 2 * 0 + _ ≤ _; exact Nat.le_of_eq rfl) (dd hy dJ68_11_1) (fun _ _ => ⟨rfl, e0, (by decide : 0 + 0 ≤ _), (by decide : 0 + 0 ≤ _)⟩)
  dsimp only [Pt.U, Pt.locs, Pt.cells, Pt.slots] at X2 l2 y2 z2 st2 hQ2
  subst l2 y2 z2
  obtain ⟨rfl, N2q, e2⟩ := hQ2
  have N2 := Fr.app N0 N2q
  obtain ⟨T3, X3, e3, st3⟩ := getF X2 hx hZ hown (host := "") (Or.inl (own_m hw 52 rfl)) Via.refl e2 I7 (g := (mkF m 9 #[.val (.ref a), .unset] [(.ref a)])) rfl rfl (dd hy dJ68_11_9)
  obtain ⟨cl4, Ar4, -, S4, M4, -, -⟩ := id I11
  have Zc5 : n0 ≤ h0.size := by omega
  obtain ⟨_, _, ⟨T6, L6, k6, n6⟩, -, X6, ⟨Lc6, hQ6, l6, y6, z6⟩, st6⟩ := Jvm.LawKit.callS X3 hx (y := M3_) hown (mvT hZ (own_m hw 242 rfl)) (mvT hZ (own_m hw 195 rfl)) (mvT hZ (own_m hw 21 rfl)) (mvT hZ (own_m hw 196 rfl)) (by decide) (backOf (W := 0) (rmNBF l Z a0 hw [] 16 h0 n0 Zc5 (by decide)) hZ (own_m hw 196 rfl) (own_m hw 21 rfl) (by decide) (by decide)) (g := (mkF m 13 #[.val (.ref a), .unset] [(.int (16 : Int32))])) rfl (by rw [hml]; rfl) (argsL := [(.int (16 : Int32))]) (rest := []) (lenOf pd__I__B rfl) rfl (by show 2 * 0 + _ ≤ _; exact Nat.le_of_eq rfl) (dd hy dJ68_11_13) (fun _ _ => ⟨rfl, e3, (by decide : 0 + 1 ≤ _), (by decide : 0 + 32 ≤ _)⟩)
  dsimp only [Pt.U, Pt.locs, Pt.cells, Pt.slots] at X6 l6 y6 z6 st6 hQ6
  subst l6 y6 z6
  obtain ⟨b_6, kb_6, rfl, N6q, K6, Fq6_0, P6_0⟩ := hQ6
  have N6 := Fr.app N2 N6q
  obtain ⟨h6, e6⟩ : ∃ z, T6.heap = z := ⟨_, rfl⟩
  rw [e6] at K6 Fq6_0
  have z7 : h0.size ≤ h6.size := K6.1
  have lt6_0 : @LT.lt Nat _ b_6 h6.size := Fq6_0.lt
  have f8 : Fld Z h6 a cA "value" "[B" (.ref va) := (I7.keep K6 nin0)
  obtain ⟨T9, X9, e9, st9⟩ := getF X6 hx hZ hown (host := "") (Or.inl (own_m hw 52 rfl)) Via.refl e6 f8 (g := (mkF m 18 #[.val (.ref a), .val (.ref b_6)] [(.ref a)])) rfl rfl (dd hy dJ68_11_18)
  have f10 : Fld Z h6 a cA "count" "I" (.int (0 : Int32)) := (I9.keep K6 nin0)
  obtain ⟨T11, X11, e11, st11⟩ := getF X9 hx hZ hown (host := "") (Or.inl (own_m hw 104 rfl)) Via.refl e9 f10 (g := (mkF m 25 #[.val (.ref a), .val (.ref b_6)] [(.ref a), (.int (0 : Int32)), (.ref b_6), (.int (0 : Int32)), (.ref va)])) rfl rfl (dd hy dJ68_11_25)
  have O12 : Old Z n0 h6 := (OX.keep K6 all0)
  have Zc13 : n0 ≤ h6.size := by omega
  obtain ⟨_, _, ⟨T14, L14, k14, n14⟩, -, X14, ⟨Lc14, hQ14, l14, y14, z14⟩, st14⟩ := Jvm.LawKit.callS X11 hx (y := M41_) hown (mvT hZ (own_m hw 243 rfl)) (mvT hZ (own_m hw 244 rfl)) (mvT hZ (own_m hw 90 rfl)) (mvT hZ (own_m hw 245 rfl)) (by decide) (backOf (W := 0) (rmInL0 l Z a0 hw [] va b_6 kb_6 (List.replicate (2 * 16) (.int (0 : Int32))) 16 fmt h6 n0 Zc13 hfmt I5 O12 Fq6_0 (by decide)) hZ (own_m hw 245 rfl) (own_m hw 90 rfl) (by decide) (by decide)) (g := (mkF m 28 #[.val (.ref a), .val (.ref b_6)] [(.int (0 : Int32)), (.int (0 : Int32)), (.ref b_6), (.int (0 : Int32)), (.ref va)])) rfl (by rw [hml]; rfl) (argsL := [(.ref va), (.int (0 : Int32)), (.ref b_6), (.int (0 : Int32)), (.int (0 : Int32))]) (rest := []) (lenOf pd___BI_BII_V rfl) rfl (by show 2 * 0 + _ ≤ _; exact Nat.le_of_eq rfl) (dd hy dJ68_11_28) (fun _ _ => ⟨rfl, e11, (by decide : 1 + 0 ≤ _), (by decide : 32 + 0 ≤ _)⟩)
  dsimp only [Pt.U, Pt.locs, Pt.cells, Pt.slots] at X14 l14 y14 z14 st14 hQ14
  subst l14 y14 z14
  obtain ⟨rfl, N14q, e14⟩ := hQ14
  have N14 := Fr.app N6 N14q
  have f15 : Exa Z h6 a cB := (I6.keep K6)
  obtain ⟨T16, h16, X16, e16, W16, st16⟩ := putF X14 hx hZ hown (host := "") (Or.inl (own_m hw 52 rfl)) Via.refl e14 f8 f15 (Or.inl (own_m hw 53 rfl)) (own_m hw 39 rfl) (ty := (.array .byte)) (by decide) rfl rfl (g := (mkF m 33 #[.val (.ref a), .val (.ref b_6)] [(.ref b_6), (.ref a)])) rfl rfl (dd hy dJ68_11_33)
  have z17 : h6.size ≤ h16.size := Nat.le_of_eq W16.size.symm
  have F16 : Fld Z h16 a cA "value" "[B" (.ref b_6) := f8.same W16
  have N16 := Fr.snoc X16 N14 (show n0 ≤ a by omega)
  have f18 : Exa Z h16 a cB := (f15.wr W16)
  have f19 : Fld Z h16 a cA "coder" "B" (.int (0 : Int32)) := ((I8.keep K6 nin0).other W16 (Or.inr (slot_ne (Or.inl (own_m hw 55 rfl)) (Or.inl (own_m hw 53 rfl)) (by decide) (t := .byte) (t' := (.array .byte)) (by decide) (by decide))))
  obtain ⟨T20, h20, X20, e20, W20, st20⟩ := putFN X16 hx hZ hown (own_m hw 54 rfl) Via.refl e16 f19 f18 (Or.inl (own_m hw 55 rfl)) (own_m hw 39 rfl) (ty := .byte) (v' := (.int (1 : Int32))) (by decide) rfl rfl (g := (mkF m 38 #[.val (.ref a), .val (.ref b_6)] [(.int (1 : Int32)), (.ref a)])) rfl rfl (dd hy dJ68_11_38)
  have z21 : h16.size ≤ h20.size := Nat.le_of_eq W20.size.symm
  have F20 : Fld Z h20 a cA "coder" "B" (.int (1 : Int32)) := f19.same W20
  have N20 := Fr.snoc X20 N16 (show n0 ≤ a by omega)
  have s22 : ∀ t_, Steps p.tables e below (T20.setTop (mkF m 41 #[.val (.ref a), .val (.ref b_6)] [])) t_ → Steps _ _ _ _ t_ := fun t_ k_ => pre0 t_ (by
    refine XS.aloadN X0.here hx rfl (dd hy dJ68_11_0) rfl rfl ?_
    refine st2.trans ?_
    show Steps _ _ _ (T2.setTop (mkF m 4 #[.val (.ref a), .unset] [(.int (1 : Int32))])) _
    refine XS.ifYes X2.here hx rfl (pc0 := 4) (pc' := 8) rfl (dd hy dJ68_11_4) rfl ((if0 _ _).trans (feq (by decide : ¬ ((1 : Int32) = (0 : Int32)))).2) (by decide) (by decide) ?_
    show Steps _ _ _ (T2.setTop (mkF m 8 #[.val (.ref a), .unset] [])) _
    refine XS.aloadN X2.here hx rfl (dd hy dJ68_11_8) rfl rfl ?_
    refine st3 _ ?_
    refine X3.arraylength hx (by rw [e3]; exact Ar4.1) (State.isArrayOf_alike hZ.alike Ar4.2.1) (g := (mkF m 12 #[.val (.ref a), .unset] [(.ref va)])) rfl rfl (dd hy dJ68_11_12) _ ?_
    rw [len_of S4 M4]
    show Steps _ _ _ (T3.setTop (mkF m 13 #[.val (.ref a), .unset] [(.int (16 : Int32))])) _
    refine st6 _ ?_
    show Steps _ _ _ (T6.setTop (mkF m 16 #[.val (.ref a), .unset] [(.ref b_6)])) _
    refine XS.astoreN X6.here hx rfl (dd hy dJ68_11_16) rfl rfl (l' := #[.val (.ref a), .val (.ref b_6)]) rfl ?_
    refine XS.aloadN X6.here hx rfl (dd hy dJ68_11_17) rfl rfl ?_
    refine st9 _ ?_
    refine XS.iconst X9.here hx rfl (dd hy dJ68_11_21) ?_
    refine XS.aloadN X9.here hx rfl (dd hy dJ68_11_22) rfl rfl ?_
    refine XS.iconst X9.here hx rfl (dd hy dJ68_11_23) ?_
    show Steps _ _ _ (T9.setTop (mkF m 24 #[.val (.ref a), .val (.ref b_6)] [(.int (0 : Int32)), (.ref b_6), (.int (0 : Int32)), (.ref va)])) _
    refine XS.aloadN X9.here hx rfl (dd hy dJ68_11_24) rfl rfl ?_
    refine st11 _ ?_
    refine st14 _ ?_
    show Steps _ _ _ (T14.setTop (mkF m 31 #[.val (.ref a), .val (.ref b_6)] [])) _
    refine XS.aloadN X14.here hx rfl (dd hy dJ68_11_31) rfl rfl ?_
    refine XS.aloadN X14.here hx rfl (dd hy dJ68_11_32) rfl rfl ?_
    refine st16 _ ?_
    refine XS.aloadN X16.here hx rfl (dd hy dJ68_11_36) rfl rfl ?_
    refine XS.iconst X16.here hx rfl (dd hy dJ68_11_37) ?_
    refine st20 _ ?_
    show Steps _ _ _ (T20.setTop (mkF m 41 #[.val (.ref a), .val (.ref b_6)] [])) _
    exact k_)
  obtain ⟨fs, hr, hrun, hended, hW, hsame⟩ := X20.leave (v := none) (fun _ => rfl)
  have f23 : Arv Z h20 b_6 kb_6 .byte (Int32.ofNat (2 * 16)) (List.replicate (2 * 16) (.int (0 : Int32))) v0_ := ((Fq6_0.other W16 (show @Ne Nat b_6 a by omega)).other W20 (show @Ne Nat b_6 a by omega))
  have f24 : Exa Z h20 a cB := (f18.wr W20)
  have f25 : Fld Z h20 a cA "value" "[B" (.ref b_6) := (F16.other W20 (Or.inr (slot_ne (Or.inl (own_m hw 53 rfl)) (Or.inl (own_m hw 55 rfl)) (by decide) (t := (.array .byte)) (t' := .byte) (by decide) (by decide))))
  have f26 : Fld Z h20 a cA "count" "I" (.int (0 : Int32)) := ((f10.other W16 (Or.inr (slot_ne (Or.inl (own_m hw 105 rfl)) (Or.inl (own_m hw 53 rfl)) (by decide) (t := .int) (t' := (.array .byte)) (by decide) (by decide)))).other W20 (Or.inr (slot_ne (Or.inl (own_m hw 105 rfl)) (Or.inl (own_m hw 55 rfl)) (by decide) (t := .int) (t' := .byte) (by decide) (by decide))))
  have f27 : Fld Z h20 a cA "maybeLatin1" "Z" (.int (0 : Int32)) := (((I10.keep K6 nin0).other W16 (Or.inr (slot_ne (Or.inl (own_m hw 251 rfl)) (Or.inl (own_m hw 53 rfl)) (by decide) (t := .boolean) (t' := (.array .byte)) (by decide) (by decide)))).other W20 (Or.inr (slot_ne (Or.inl (own_m hw 251 rfl)) (Or.inl (own_m hw 55 rfl)) (by decide) (t := .boolean) (t' := .byte) (by decide) (by decide))))
  refine ⟨_, _, s22 _ ?_, hrun, hended, _, _, rfl, ?_, ⟨_, rfl⟩, hW, hsame.mono (by decide) (by decide)⟩
  · exact X20.returnOut hx Bd.returns (dd hy dJ68_11_41) hr
  · show Q_rmInfl0 Z _ _ _ _ _ _ h0 n0 _ T20.heap _
    rw [e20]
    exact ⟨b_6, kb_6, rfl, N20, ((((Keep.refl h0 [a]).trans K6 all0).wr W16 (Or.inl (by simp))).wr W20 (Or.inl (by simp))), f24, f25, F20, f26, f27, (by rw [List.map_replicate]; exact f23), by omega⟩
theorem ef_rmInfW (m : MethodId) (x0 : Addr) (x1 : Addr) : entryFrame m #[(.ref x0), (.ref x1)] 2 = mkF m 0 #[.val (.ref x0), .val (.ref x1)] [] := by first | (simp [entryFrame, mkF, argsToLocals, Value.category]; done) | rfl
abbrev R_rmInfW : Room := ({ frames := 6, cells := 1, slots := 32, locals := 89 } : Room)
def Q_rmInfW (Z : State) (a : Addr) (sx : Addr) (cst : Int32) (va : Addr) (kc : ClassId) (xs : List Int32) (cs : List Int32) (fmt : Value) (h0 : Heap) (n0 : Nat) (v : Option Value) (h : Heap) (L : List Loc) : Prop := ∃ (vb : Addr), ∃ (kd : ClassId), (v = none) ∧ (Fr n0 L) ∧ (Keep h0 h [a]) ∧ (Exa Z h a cB) ∧ (Fld Z h a cA "value" "[B" (.ref vb)) ∧ (Fld Z h a cA "coder" "B" (.int (1 : Int32))) ∧ (Fld Z h a cA "count" "I" (.int (0 : Int32))) ∧ (Fld Z h a cA "maybeLatin1" "Z" (.int (0 : Int32))) ∧ (Arv Z h vb kd .byte (Int32.ofNat (2 * 16)) ((List.replicate 32 (0 : Int32)).map Value.int) v0_) ∧ (h0.size ≤ vb)
set_option maxRecDepth 65536 in
set_option maxHeartbeats 40000000 in
theorem rmInfW (l : Launch) (Z : State) (a0 : Array Value) (hw : HW Z a0) (ws : List Jvm.Cond) (a : Addr) (sx : Addr) (cst : Int32) (va : Addr) (kc : ClassId) (xs : List Int32) (cs : List Int32) (fmt : Value) (h0 : Heap) (n0 : Nat) (Z0 : n0 ≤ h0.size) (I1 : Sta Z Z.heap cS cC "Z" (.int cst)) (I2 : Sta Z Z.heap cU cD "Z" (.int (1 : Int32))) (I3 : Sta Z Z.heap cU cH "I" (.int (0 : Int32))) (I4 : Sta Z Z.heap cU cL "I" (.int (8 : Int32))) (hfmt : fmt.isRef = true) (I5 : Sta Z Z.heap cP cG cF fmt) (OX : Old Z n0 h0) (hcst : ¬ (cst = (0 : Int32))) (I6 : Exa Z h0 a cB) (I7 : Fld Z h0 a cA "value" "[B" (.ref va)) (I8 : Fld Z h0 a cA "coder" "B" (.int (0 : Int32))) (I9 : Fld Z h0 a cA "count" "I" (.int (0 : Int32))) (I10 : Fld Z h0 a cA "maybeLatin1" "Z" (.int (0 : Int32))) (I11 : Arv Z h0 va kc .byte (16 : Int32) (xs.map Value.int) v0_) (ga : n0 ≤ a) (I12 : Exa Z h0 sx cS) (I13 : Fld Z h0 sx cS "coder" "B" (.int (own_cod cs))) (hnl : ¬ own_lat cs) :
    MF l Z M38_ (Jvm.Cond.code M38_ jdk_68_method_71_code 2 none :: ws) R_rmInfW #[(.ref a), (.ref sx)] h0 (Q_rmInfW Z a sx cst va kc xs cs fmt h0 n0) := by
  refine MetFree.of_bodySF (plainFor_of_name pn_java_lang_AbstractStringBuilder) hisR ?_
  intro p e s m args below meth c s₁ Bd hml0 hP hK
  obtain ⟨rfl, hZ, hh⟩ := hP
  have hx := Bd.exec
  have hy := Bd.bytes
  have hml : c.maxLocals = 2 := hml0
  have hown : s.vm.findClass "java/lang/AbstractStringBuilder" = some m.cls := findClass_of_methodNamed Bd.named
  have hnm := (name_of_methodNamed Bd.named Bd.method).1
  have X0 : Stand p l e R_rmInfW s m #[(.ref a), (.ref sx)] below meth c s₁ [] 0 0 := Stand.of_body Bd
  have e0 : s₁.heap = h0 := by rw [← hh, Bd.state]; rfl
  have N0 := Fr.nil n0
  have pre0 := own_pre (p := p) (e := e) (below := below) (T := s₁) (ef_rmInfW m a sx)
  have lt_I6 : @LT.lt Nat _ a h0.size := I6.lt
  have lt_I11 : @LT.lt Nat _ va h0.size := I11.lt
  have lt_I12 : @LT.lt Nat _ sx h0.size := I12.lt
  obtain ⟨T1, X1, e1, st1⟩ := getS2 X0 hx hZ hown (host := "") (Or.inl (own_m hw 51 rfl)) Via.refl e0 (I1.ext OX.2) (g := (mkF m 0 #[.val (.ref a), .val (.ref sx)] [])) rfl (dd hy dJ68_71_0)
  obtain ⟨T2, X2, e2, st2⟩ := getF X1 hx hZ hown (host := "") (Or.inl (own_m hw 54 rfl)) Via.refl e1 I8 (g := (mkF m 7 #[.val (.ref a), .val (.ref sx)] [(.ref a)])) rfl rfl (dd hy dJ68_71_7)
  have Zc3 : n0 ≤ h0.size := by omega
  obtain ⟨cq4, kq4, q4a, q4b, q4c⟩ := isOf hZ e2 I12
  obtain ⟨_, _, ⟨T4, L4, k4, n4⟩, -, X4, ⟨Lc4, hQ4, l4, y4, z4⟩, st4⟩ := X2.virtualBack hx (y := M10_) (z := M10_) hown (mvT hZ (own_m hw 121 rfl)) (mvT hZ (own_m hw 62 rfl)) (notFace_of_selects (args := #[]) (mvT hZ (own_m hw 64 rfl))) (mvT hZ (own_m hw 64 rfl)) (mvT hZ (own_m hw 63 rfl)) (by decide) (backOf (W := 1) (rmCdr l Z a0 hw [] sx cst cs h0 n0 Zc3 I1 OX hcst I13) hZ (own_m hw 65 rfl) (own_m hw 7 rfl) (by decide) (by decide)) q4a q4c (g := (mkF m 11 #[.val (.ref a), .val (.ref sx)] [(.ref sx), (.int (0 : Int32))])) rfl (by rw [hml]; rfl) (Steps.refl _) (argsL := []) (rest := [(.int (0 : Int32))]) (lenOf pd___B rfl) rfl (by show 2 * 0 + _ ≤ _; exact Nat.le_of_eq rfl) (dd hy dJ68_71_11) (fun _ _ => ⟨rfl, e2, (by decide : 0 + 0 ≤ _), (by decide : 0 + 0 ≤ _)⟩)
  dsimp only [Pt.U, Pt.locs, Pt.cells, Pt.slots] at X4 l4 y4 z4 st4 hQ4
  subst l4 y4 z4
  obtain ⟨rfl, N4q, e4⟩ := hQ4
  have N4 := Fr.app N0 N4q
  have Zc5 : n0 ≤ h0.size := by omega
  obtain ⟨cq6, kq6, q6a, q6b, q6c⟩ := isOf hZ e4 I6
  obtain ⟨_, _, ⟨T6, L6, k6, n6⟩, -, X6, ⟨Lc6, hQ6, l6, y6, z6⟩, st6⟩ := X4.virtualBack hx (y := M39_) (z := M39_) hown (mvT hZ (own_m hw 236 rfl)) (mvT hZ (own_declares (own_m hw 237 rfl) (own_m hw 240 rfl))) (notFace_of_selects (args := #[]) (mvT hZ (own_m hw 239 rfl))) (mvT hZ (own_m hw 239 rfl)) (mvT hZ (own_m hw 237 rfl)) (by decide) (backOf (W := 0) (rmInfl0 l Z a0 hw [] a cst va kc xs fmt h0 n0 Zc5 I1 I2 I3 I4 hfmt I5 OX hcst I6 I7 I8 I9 I10 I11 ga) hZ (own_m hw 240 rfl) (own_m hw 48 rfl) (by decide) (by decide)) q6a q6c (g := (mkF m 18 #[.val (.ref a), .val (.ref sx)] [(.ref a)])) rfl (by rw [hml]; rfl) (Steps.refl _) (argsL := []) (rest := []) (lenOf pd___V rfl) rfl (by show 2 * 0 + _ ≤ _; exact Nat.le_of_eq rfl) (dd hy dJ68_71_18) (fun _ _ => ⟨rfl, e4, (by decide : 0 + 1 ≤ _), (by decide : 0 + 32 ≤ _)⟩)
  dsimp only [Pt.U, Pt.locs, Pt.cells, Pt.slots] at X6 l6 y6 z6 st6 hQ6
  subst l6 y6 z6
  obtain ⟨vb_6, kd_6, rfl, N6q, K6, Fq6_0, Fq6_1, Fq6_2, Fq6_3, Fq6_4, Fq6_5, P6_0⟩ := hQ6
  have N6 := Fr.app N4 N6q
  obtain ⟨h6, e6⟩ : ∃ z, T6.heap = z := ⟨_, rfl⟩
  rw [e6] at K6 Fq6_0 Fq6_1 Fq6_2 Fq6_3 Fq6_4 Fq6_5
  have z7 : h0.size ≤ h6.size := K6.1
  have lt6_0 : @LT.lt Nat _ a h6.size := Fq6_0.lt
  have lt6_5 : @LT.lt Nat _ vb_6 h6.size := Fq6_5.lt
  have s8 : ∀ t_, Steps p.tables e below (T6.setTop (mkF m 21 #[.val (.ref a), .val (.ref sx)] [])) t_ → Steps _ _ _ _ t_ := fun t_ k_ => pre0 t_ (by
    refine st1 _ ?_
    refine XS.ifNo X1.here hx rfl (dd hy dJ68_71_3) rfl ((if0 _ _).trans (feq hcst).1) ?_
    show Steps _ _ _ (T1.setTop (mkF m 6 #[.val (.ref a), .val (.ref sx)] [])) _
    refine XS.aloadN X1.here hx rfl (dd hy dJ68_71_6) rfl rfl ?_
    refine st2 _ ?_
    refine XS.aloadN X2.here hx rfl (dd hy dJ68_71_10) rfl rfl ?_
    refine st4.trans ?_
    show Steps _ _ _ (T4.setTop (mkF m 14 #[.val (.ref a), .val (.ref sx)] [(.int (own_cod cs)), (.int (0 : Int32))])) _
    refine XS.icmpNo X4.here hx rfl (dd hy dJ68_71_14) rfl (feq (fun e => own_cod1 hnl e.symm)).1 ?_
    show Steps _ _ _ (T4.setTop (mkF m 17 #[.val (.ref a), .val (.ref sx)] [])) _
    refine XS.aloadN X4.here hx rfl (dd hy dJ68_71_17) rfl rfl ?_
    refine st6.trans ?_
    show Steps _ _ _ (T6.setTop (mkF m 21 #[.val (.ref a), .val (.ref sx)] [])) _
    exact k_)
  obtain ⟨fs, hr, hrun, hended, hW, hsame⟩ := X6.leave (v := none) (fun _ => rfl)
  refine ⟨_, _, s8 _ ?_, hrun, hended, _, _, rfl, ?_, ⟨_, rfl⟩, hW, hsame.mono (by decide) (by decide)⟩
  · exact X6.returnOut hx Bd.returns (dd hy dJ68_71_21) hr
  · show Q_rmInfW Z _ _ _ _ _ _ _ _ h0 n0 _ T6.heap _
    rw [e6]
    exact ⟨vb_6, kd_6, rfl, N6, ((Keep.refl h0 [a]).trans K6 (allS (Or.inl (by simp)) all0)), Fq6_0, Fq6_1, Fq6_2, Fq6_3, Fq6_4, Fq6_5, by omega⟩
theorem dJ42_147_0 : decode CJ42_147 0 = .ok (.aload_n 0, 1) := by decide +kernel
theorem dJ42_147_1 : decode CJ42_147 1 = .ok (.invokevirtual 335, 3) := by decide +kernel
theorem dJ42_147_4 : decode CJ42_147 4 = .ok (.iload_n 3, 1) := by decide +kernel
theorem dJ42_147_5 : decode CJ42_147 5 = .ok (.if_icmp .ne 23, 3) := by decide +kernel
theorem dJ42_147_8 : decode CJ42_147 8 = .ok (.aload_n 0, 1) := by decide +kernel
theorem dJ42_147_9 : decode CJ42_147 9 = .ok (.getfield 9, 3) := by decide +kernel
theorem dJ42_147_12 : decode CJ42_147 12 = .ok (.iconst 0, 1) := by decide +kernel
theorem dJ42_147_13 : decode CJ42_147 13 = .ok (.aload_n 1, 1) := by decide +kernel
theorem dJ42_147_14 : decode CJ42_147 14 = .ok (.iload_n 2, 1) := by decide +kernel
theorem dJ42_147_15 : decode CJ42_147 15 = .ok (.iload_n 3, 1) := by decide +kernel
theorem dJ42_147_16 : decode CJ42_147 16 = .ok (.ishl, 1) := by decide +kernel
theorem dJ42_147_17 : decode CJ42_147 17 = .ok (.aload_n 0, 1) := by decide +kernel
theorem dJ42_147_18 : decode CJ42_147 18 = .ok (.getfield 9, 3) := by decide +kernel
theorem dJ42_147_21 : decode CJ42_147 21 = .ok (.arraylength, 1) := by decide +kernel
theorem dJ42_147_22 : decode CJ42_147 22 = .ok (.invokestatic 212, 3) := by decide +kernel
theorem dJ42_147_25 : decode CJ42_147 25 = .ok (.goto 18, 3) := by decide +kernel
theorem dJ42_147_43 : decode CJ42_147 43 = .ok (.return_, 1) := by decide +kernel
theorem ef_rmGB (m : MethodId) (x0 : Addr) (x1 : Addr) (x2 : Int32) (x3 : Int32) : entryFrame m #[(.ref x0), (.ref x1), (.int x2), (.int x3)] 4 = mkF m 0 #[.val (.ref x0), .val (.ref x1), .val (.int x2), .val (.int x3)] [] := by first | (simp [entryFrame, mkF, argsToLocals, Value.category]; done) | rfl
abbrev R_rmGB : Room := ({ frames := 1, cells := 0, slots := 0, locals := 40 } : Room)
def Q_rmGB (Z : State) (sx : Addr) (va : Addr) (cst : Int32) (sb : Addr) (ks : ClassId) (cs : List Int32) (kc : ClassId) (xs : List Int32) (k : Nat) (h0 : Heap) (n0 : Nat) (v : Option Value) (h : Heap) (L : List Loc) : Prop := (v = none) ∧ (Fr n0 L) ∧ (Keep h0 h [va]) ∧ (Arv Z h va kc .byte (16 : Int32) ((xs.take k ++ cs.map own_lo ++ xs.drop (k + cs.length)).map Value.int) v0_)
set_option maxRecDepth 65536 in
set_option maxHeartbeats 40000000 in
theorem rmGB (l : Launch) (Z : State) (a0 : Array Value) (hw : HW Z a0) (ws : List Jvm.Cond) (sx : Addr) (va : Addr) (cst : Int32) (sb : Addr) (ks : ClassId) (cs : List Int32) (kc : ClassId) (xs : List Int32) (k : Nat) (h0 : Heap) (n0 : Nat) (Z0 : n0 ≤ h0.size) (I1 : Sta Z Z.heap cS cC "Z" (.int cst)) (OX : Old Z n0 h0) (hcst : ¬ (cst = (0 : Int32))) (I2 : Exa Z h0 sx cS) (I3 : Fld Z h0 sx cS "value" "[B" (.ref sb)) (I4 : Fld Z h0 sx cS "coder" "B" (.int (own_cod cs))) (I5 : Arv Z h0 sb ks .byte (Int32.ofNat (own_enl cs)) (own_enc cs) v0_) (I6 : Arv Z h0 va kc .byte (16 : Int32) (xs.map Value.int) v0_) (hx16 : xs.length = 16) (gv : n0 ≤ va) (hlat : own_lat cs) (hkc : k + cs.length ≤ 16) :
    MF l Z M42_ (Jvm.Cond.code M42_ jdk_42_method_147_code 4 none :: ws) R_rmGB #[(.ref sx), (.ref va), (.int (Int32.ofNat k)), (.int (0 : Int32))] h0 (Q_rmGB Z sx va cst sb ks cs kc xs k h0 n0) := by
  refine MetFree.of_bodySF (plainFor_of_name pn_java_lang_String) hisR ?_
  intro p e s m args below meth c s₁ Bd hml0 hP hK
  obtain ⟨rfl, hZ, hh⟩ := hP
  have hx := Bd.exec
  have hy := Bd.bytes
  have hml : c.maxLocals = 4 := hml0
  have hown : s.vm.findClass "java/lang/String" = some m.cls := findClass_of_methodNamed Bd.named
  have hnm := (name_of_methodNamed Bd.named Bd.method).1
  have X0 : Stand p l e R_rmGB s m #[(.ref sx), (.ref va), (.int (Int32.ofNat k)), (.int (0 : Int32))] below meth c s₁ [] 0 0 := Stand.of_body Bd
  have e0 : s₁.heap = h0 := by rw [← hh, Bd.state]; rfl
  have N0 := Fr.nil n0
  have pre0 := own_pre (p := p) (e := e) (below := below) (T := s₁) (ef_rmGB m sx va (Int32.ofNat k) (0 : Int32))
  have lt_I2 : @LT.lt Nat _ sx h0.size := I2.lt
  have lt_I5 : @LT.lt Nat _ sb h0.size := I5.lt
  have lt_I6 : @LT.lt Nat _ va h0.size := I6.lt
  have Zc1 : n0 ≤ h0.size := by omega
  obtain ⟨cq2, kq2, q2a, q2b, q2c⟩ := isOf hZ e0 I2
  obtain ⟨_, _, ⟨T2, L2, k2, n2⟩, -, X2, ⟨Lc2, hQ2, l2, y2, z2⟩, st2⟩ := X0.virtualBack hx (y := M10_) (z := M10_) hown (mvT hZ (own_m hw 61 rfl)) (mvT hZ (own_m hw 62 rfl)) (notFace_of_selects (args := #[]) (mvT hZ (own_m hw 64 rfl))) (mvT hZ (own_m hw 64 rfl)) (mvT hZ (own_m hw 63 rfl)) (by decide) (backOf (W := 0) (rmCdr l Z a0 hw [] sx cst cs h0 n0 Zc1 I1 OX hcst I4) hZ (own_m hw 65 rfl) (own_m hw 7 rfl) (by decide) (by decide)) q2a q2c (g := (mkF m 1 #[.val (.ref sx), .val (.ref va), .val (.int (Int32.ofNat k)), .val (.int (0 : Int32))] [(.ref sx)])) rfl (by rw [hml]; rfl) (Steps.refl _) (argsL := []) (rest := []) (lenOf pd___B rfl) rfl (by show 2 * 0 + _ ≤ _; exact Nat.le_of_eq rfl) (dd hy dJ42_147_1) (fun _ _ => ⟨rfl, e0, (by decide : 0 + 0 ≤ _), (by decide : 0 + 0 ≤ _)⟩)
  dsimp only [Pt.U, Pt.locs, Pt.cells, Pt.slots] at X2 l2 y2 z2 st2 hQ2
  subst l2 y2 z2
  obtain ⟨rfl, N2q, e2⟩ := hQ2
  have N2 := Fr.app N0 N2q
  have V3 : Arv Z h0 sb ks .byte (Int32.ofNat cs.length) ((cs.map own_lo).map Value.int) v0_ := own_ofenc hlat I5
  have V3b : Arv Z h0 sb ks .byte (Int32.ofNat (cs.map own_lo).length) ((cs.map own_lo).map Value.int) v0_ := by rw [List.length_map]; exact V3
  obtain ⟨T4, X4, e4, st4⟩ := getF X2 hx hZ hown (host := "") (Or.inl (own_m hw 32 rfl)) Via.refl e2 I3 (g := (mkF m 9 #[.val (.ref sx), .val (.ref va), .val (.int (Int32.ofNat k)), .val (.int (0 : Int32))] [(.ref sx)])) rfl rfl (dd hy dJ42_147_9)
  obtain ⟨T5, X5, e5, st5⟩ := getF X4 hx hZ hown (host := "") (Or.inl (own_m hw 32 rfl)) Via.refl e4 I3 (g := (mkF m 18 #[.val (.ref sx), .val (.ref va), .val (.int (Int32.ofNat k)), .val (.int (0 : Int32))] [(.ref sx), (.int (Int32.ofNat k)), (.ref va), (.int (0 : Int32)), (.ref sb)])) rfl rfl (dd hy dJ42_147_18)
  obtain ⟨cl6, Ar6, -, S6, M6, -, -⟩ := id V3b
  obtain ⟨T7, h7, L7, X7, e7, N7, K7, Vr7, st7⟩ := cpA X5 hx hZ hown (own_m hw 127 rfl) (own_m hw 130 rfl) (own_m hw 128 rfl) (own_m hw 129 rfl) e5 V3b I6 (Or.inl ⟨rfl, rfl⟩) (sp := (0 : Int32)) (dp := (Int32.ofNat k)) (nn := (Int32.ofNat cs.length)) (by decide) (own_nn (by omega)) (own_nn (by omega)) (by rw [own_z0, own_tn (by omega), own_tn (by rw [List.length_map]; omega), List.length_map]; omega) (by rw [own_tn (by omega), own_tn (by omega)]; show k + cs.length ≤ 16; omega) rfl (by rw [own_tn (by omega), own_tn (by omega), List.length_map]; omega) N2 (show n0 ≤ va by omega) (g := (mkF m 22 #[.val (.ref sx), .val (.ref va), .val (.int (Int32.ofNat k)), .val (.int (0 : Int32))] [(.int (Int32.ofNat cs.length)), (.int (Int32.ofNat k)), (.ref va), (.int (0 : Int32)), (.ref sb)])) rfl (by rw [hml]; rfl) rfl (dd hy dJ42_147_22) (by decide) (W := 0) (by show 2 * 0 + _ ≤ _; exact Nat.le_of_eq rfl) (by decide)
  have z8 : h0.size ≤ h7.size := K7.1
  have V7 : Arv Z h7 va kc .byte (16 : Int32) ((xs.take k ++ cs.map own_lo ++ xs.drop (k + cs.length)).map Value.int) v0_ := own_arvcast (own_cpG xs cs k (by omega) (by omega)) Vr7
  have s9 : ∀ t_, Steps p.tables e below (T7.setTop (mkF m 43 #[.val (.ref sx), .val (.ref va), .val (.int (Int32.ofNat k)), .val (.int (0 : Int32))] [])) t_ → Steps _ _ _ _ t_ := fun t_ k_ => pre0 t_ (by
    refine XS.aloadN X0.here hx rfl (dd hy dJ42_147_0) rfl rfl ?_
    refine st2.trans ?_
    show Steps _ _ _ (T2.setTop (mkF m 4 #[.val (.ref sx), .val (.ref va), .val (.int (Int32.ofNat k)), .val (.int (0 : Int32))] [(.int (own_cod cs))])) _
    refine XS.iloadN X2.here hx rfl (dd hy dJ42_147_4) rfl ?_
    refine XS.icmpNo X2.here hx rfl (dd hy dJ42_147_5) rfl (teq (own_cod0 hlat)).2 ?_
    show Steps _ _ _ (T2.setTop (mkF m 8 #[.val (.ref sx), .val (.ref va), .val (.int (Int32.ofNat k)), .val (.int (0 : Int32))] [])) _
    refine XS.aloadN X2.here hx rfl (dd hy dJ42_147_8) rfl rfl ?_
    refine st4 _ ?_
    refine XS.iconst X4.here hx rfl (dd hy dJ42_147_12) ?_
    refine XS.aloadN X4.here hx rfl (dd hy dJ42_147_13) rfl rfl ?_
    refine XS.iloadN X4.here hx rfl (dd hy dJ42_147_14) rfl ?_
    refine XS.iloadN X4.here hx rfl (dd hy dJ42_147_15) rfl ?_
    show Steps _ _ _ (T4.setTop (mkF m 16 #[.val (.ref sx), .val (.ref va), .val (.int (Int32.ofNat k)), .val (.int (0 : Int32))] [(.int (0 : Int32)), (.int (Int32.ofNat k)), (.ref va), (.int (0 : Int32)), (.ref sb)])) _
    refine XS.ishl X4.here hx rfl (dd hy dJ42_147_16) rfl ?_
    show Steps _ _ _ (T4.setTop (mkF m 17 #[.val (.ref sx), .val (.ref va), .val (.int (Int32.ofNat k)), .val (.int (0 : Int32))] [(.int ((Int32.ofNat k) <<< ((0 : Int32) &&& 31))), (.ref va), (.int (0 : Int32)), (.ref sb)])) _
    refine castTop (g' := (mkF m 17 #[.val (.ref sx), .val (.ref va), .val (.int (Int32.ofNat k)), .val (.int (0 : Int32))] [(.int (Int32.ofNat k)), (.ref va), (.int (0 : Int32)), (.ref sb)])) (by rw [own_shl0]) ?_
    show Steps _ _ _ (T4.setTop (mkF m 17 #[.val (.ref sx), .val (.ref va), .val (.int (Int32.ofNat k)), .val (.int (0 : Int32))] [(.int (Int32.ofNat k)), (.ref va), (.int (0 : Int32)), (.ref sb)])) _
    refine XS.aloadN X4.here hx rfl (dd hy dJ42_147_17) rfl rfl ?_
    refine st5 _ ?_
    refine X5.arraylength hx (by rw [e5]; exact Ar6.1) (State.isArrayOf_alike hZ.alike Ar6.2.1) (g := (mkF m 21 #[.val (.ref sx), .val (.ref va), .val (.int (Int32.ofNat k)), .val (.int (0 : Int32))] [(.ref sb), (.int (Int32.ofNat k)), (.ref va), (.int (0 : Int32)), (.ref sb)])) rfl rfl (dd hy dJ42_147_21) _ ?_
    rw [len_of S6 M6]
    show Steps _ _ _ (T5.setTop (mkF m 22 #[.val (.ref sx), .val (.ref va), .val (.int (Int32.ofNat k)), .val (.int (0 : Int32))] [(.int (Int32.ofNat (cs.map own_lo).length)), (.int (Int32.ofNat k)), (.ref va), (.int (0 : Int32)), (.ref sb)])) _
    refine castTop (g' := (mkF m 22 #[.val (.ref sx), .val (.ref va), .val (.int (Int32.ofNat k)), .val (.int (0 : Int32))] [(.int (Int32.ofNat cs.length)), (.int (Int32.ofNat k)), (.ref va), (.int (0 : Int32)), (.ref sb)])) (by rw [List.length_map]) ?_
    show Steps _ _ _ (T5.setTop (mkF m 22 #[.val (.ref sx), .val (.ref va), .val (.int (Int32.ofNat k)), .val (.int (0 : Int32))] [(.int (Int32.ofNat cs.length)), (.int (Int32.ofNat k)), (.ref va), (.int (0 : Int32)), (.ref sb)])) _
    refine st7 _ ?_
    show Steps _ _ _ (T7.setTop (mkF m 25 #[.val (.ref sx), .val (.ref va), .val (.int (Int32.ofNat k)), .val (.int (0 : Int32))] [])) _
    refine XS.goto X7.here hx rfl (pc0 := 25) (pc' := 43) rfl (dd hy dJ42_147_25) (by decide) (by decide) ?_
    exact k_)
  obtain ⟨fs, hr, hrun, hended, hW, hsame⟩ := X7.leave (v := none) (fun _ => rfl)
  refine ⟨_, _, s9 _ ?_, hrun, hended, _, _, rfl, ?_, ⟨_, rfl⟩, hW, hsame.mono (by decide) (by decide)⟩
  · exact X7.returnOut hx Bd.returns (dd hy dJ42_147_43) hr
  · show Q_rmGB Z _ _ _ _ _ _ _ _ _ h0 n0 _ T7.heap _
    rw [e7]
    exact ⟨rfl, N7, ((Keep.refl h0 [va]).trans K7 (allS (Or.inl (by simp)) all0)), V7⟩
theorem ef_rmGBw (m : MethodId) (x0 : Addr) (x1 : Addr) (x2 : Int32) (x3 : Int32) : entryFrame m #[(.ref x0), (.ref x1), (.int x2), (.int x3)] 4 = mkF m 0 #[.val (.ref x0), .val (.ref x1), .val (.int x2), .val (.int x3)] [] := by first | (simp [entryFrame, mkF, argsToLocals, Value.category]; done) | rfl
abbrev R_rmGBw : Room := ({ frames := 1, cells := 0, slots := 0, locals := 40 } : Room)
def Q_rmGBw (Z : State) (sx : Addr) (va : Addr) (cst : Int32) (sb : Addr) (ks : ClassId) (cs : List Int32) (kc : ClassId) (xs : List Int32) (h0 : Heap) (n0 : Nat) (v : Option Value) (h : Heap) (L : List Loc) : Prop := (v = none) ∧ (Fr n0 L) ∧ (Keep h0 h [va]) ∧ (Arv Z h va kc .byte (Int32.ofNat (2 * 16)) ((own_wb cs ++ xs.drop (2 * cs.length)).map Value.int) v0_)
set_option maxRecDepth 65536 in
set_option maxHeartbeats 40000000 in
theorem rmGBw (l : Launch) (Z : State) (a0 : Array Value) (hw : HW Z a0) (ws : List Jvm.Cond) (sx : Addr) (va : Addr) (cst : Int32) (sb : Addr) (ks : ClassId) (cs : List Int32) (kc : ClassId) (xs : List Int32) (h0 : Heap) (n0 : Nat) (Z0 : n0 ≤ h0.size) (I1 : Sta Z Z.heap cS cC "Z" (.int cst)) (OX : Old Z n0 h0) (hcst : ¬ (cst = (0 : Int32))) (I2 : Exa Z h0 sx cS) (I3 : Fld Z h0 sx cS "value" "[B" (.ref sb)) (I4 : Fld Z h0 sx cS "coder" "B" (.int (own_cod cs))) (I5 : Arv Z h0 sb ks .byte (Int32.ofNat (own_enl cs)) (own_enc cs) v0_) (I6 : Arv Z h0 va kc .byte (Int32.ofNat (2 * 16)) (xs.map Value.int) v0_) (hx32 : xs.length = 32) (gv : n0 ≤ va) (hnl : ¬ own_lat cs) (hkc : cs.length ≤ 16) :
    MF l Z M42_ (Jvm.Cond.code M42_ jdk_42_method_147_code 4 none :: ws) R_rmGBw #[(.ref sx), (.ref va), (.int (0 : Int32)), (.int (1 : Int32))] h0 (Q_rmGBw Z sx va cst sb ks cs kc xs h0 n0) := by
  refine MetFree.of_bodySF (plainFor_of_name pn_java_lang_String) hisR ?_
  intro p e s m args below meth c s₁ Bd hml0 hP hK
  obtain ⟨rfl, hZ, hh⟩ := hP
  have hx := Bd.exec
  have hy := Bd.bytes
  have hml : c.maxLocals = 4 := hml0
  have hown : s.vm.findClass "java/lang/String" = some m.cls := findClass_of_methodNamed Bd.named
  have hnm := (name_of_methodNamed Bd.named Bd.method).1
  have X0 : Stand p l e R_rmGBw s m #[(.ref sx), (.ref va), (.int (0 : Int32)), (.int (1 : Int32))] below meth c s₁ [] 0 0 := Stand.of_body Bd
  have e0 : s₁.heap = h0 := by rw [← hh, Bd.state]; rfl
  have N0 := Fr.nil n0
  have pre0 := own_pre (p := p) (e := e) (below := below) (T := s₁) (ef_rmGBw m sx va (0 : Int32) (1 : Int32))
  have lt_I2 : @LT.lt Nat _ sx h0.size := I2.lt
  have lt_I5 : @LT.lt Nat _ sb h0.size := I5.lt
  have lt_I6 : @LT.lt Nat _ va h0.size := I6.lt
  have Zc1 : n0 ≤ h0.size := by omega
  obtain ⟨cq2, kq2, q2a, q2b, q2c⟩ := isOf hZ e0 I2
  obtain ⟨_, _, ⟨T2, L2, k2, n2⟩, -, X2, ⟨Lc2, hQ2, l2, y2, z2⟩, st2⟩ := X0.virtualBack hx (y := M10_) (z := M10_) hown (mvT hZ (own_m hw 61 rfl)) (mvT hZ (own_m hw 62 rfl)) (notFace_of_selects (args := #[]) (mvT hZ (own_m hw 64 rfl))) (mvT hZ (own_m hw 64 rfl)) (mvT hZ (own_m hw 63 rfl)) (by decide) (backOf (W := 0) (rmCdr l Z a0 hw [] sx cst cs h0 n0 Zc1 I1 OX hcst I4) hZ (own_m hw 65 rfl) (own_m hw 7 rfl) (by decide) (by decide)) q2a q2c (g := (mkF m 1 #[.val (.ref sx), .val (.ref va), .val (.int (0 : Int32)), .val (.int (1 : Int32))] [(.ref sx)])) rfl (by rw [hml]; rfl) (Steps.refl _) (argsL := []) (rest := []) (lenOf pd___B rfl) rfl (by show 2 * 0 + _ ≤ _; exact Nat.le_of_eq rfl) (dd hy dJ42_147_1) (fun _ _ => ⟨rfl, e0, (by decide : 0 + 0 ≤ _), (by decide : 0 + 0 ≤ _)⟩)
  dsimp only [Pt.U, Pt.locs, Pt.cells, Pt.slots] at X2 l2 y2 z2 st2 hQ2
  subst l2 y2 z2
  obtain ⟨rfl, N2q, e2⟩ := hQ2
  have N2 := Fr.app N0 N2q
  have V3 : Arv Z h0 sb ks .byte (Int32.ofNat (own_wb cs).length) ((own_wb cs).map Value.int) v0_ := own_towb hnl I5
  obtain ⟨T4, X4, e4, st4⟩ := getF X2 hx hZ hown (host := "") (Or.inl (own_m hw 32 rfl)) Via.refl e2 I3 (g := (mkF m 9 #[.val (.ref sx), .val (.ref va), .val (.int (0 : Int32)), .val (.int (1 : Int32))] [(.ref sx)])) rfl rfl (dd hy dJ42_147_9)
  obtain ⟨T5, X5, e5, st5⟩ := getF X4 hx hZ hown (host := "") (Or.inl (own_m hw 32 rfl)) Via.refl e4 I3 (g := (mkF m 18 #[.val (.ref sx), .val (.ref va), .val (.int (0 : Int32)), .val (.int (1 : Int32))] [(.ref sx), (.int (0 : Int32)), (.ref va), (.int (0 : Int32)), (.ref sb)])) rfl rfl (dd hy dJ42_147_18)
  obtain ⟨cl6, Ar6, -, S6, M6, -, -⟩ := id V3
  obtain ⟨T7, h7, L7, X7, e7, N7, K7, Vr7, st7⟩ := cpA X5 hx hZ hown (own_m hw 127 rfl) (own_m hw 130 rfl) (own_m hw 128 rfl) (own_m hw 129 rfl) e5 V3 I6 (Or.inl ⟨rfl, rfl⟩) (sp := (0 : Int32)) (dp := (0 : Int32)) (nn := (Int32.ofNat (2 * cs.length))) (by decide) (by decide) (own_nn (by omega)) (by rw [own_z0, own_wbl, own_tn (n := 2 * cs.length) (by omega)] <;> omega) (by rw [own_z0, own_tn (n := 2 * cs.length) (by omega), own_tn (n := 2 * 16) (by omega)]; omega) rfl (by rw [own_z0, own_tn (n := 2 * cs.length) (by omega), List.length_map]; omega) N2 (show n0 ≤ va by omega) (g := (mkF m 22 #[.val (.ref sx), .val (.ref va), .val (.int (0 : Int32)), .val (.int (1 : Int32))] [(.int (Int32.ofNat (2 * cs.length))), (.int (0 : Int32)), (.ref va), (.int (0 : Int32)), (.ref sb)])) rfl (by rw [hml]; rfl) rfl (dd hy dJ42_147_22) (by decide) (W := 0) (by show 2 * 0 + _ ≤ _; exact Nat.le_of_eq rfl) (by decide)
  have z8 : h0.size ≤ h7.size := K7.1
  have V7 : Arv Z h7 va kc .byte (Int32.ofNat (2 * 16)) ((own_wb cs ++ xs.drop (2 * cs.length)).map Value.int) v0_ := own_arvcast (own_cpW0 xs (own_wb cs) (2 * cs.length) (own_wbl cs) (by omega)) Vr7
  have s9 : ∀ t_, Steps p.tables e below (T7.setTop (mkF m 43 #[.val (.ref sx), .val (.ref va), .val (.int (0 : Int32)), .val (.int (1 : Int32))] [])) t_ → Steps _ _ _ _ t_ := fun t_ k_ => pre0 t_ (by
    refine XS.aloadN X0.here hx rfl (dd hy dJ42_147_0) rfl rfl ?_
    refine st2.trans ?_
    show Steps _ _ _ (T2.setTop (mkF m 4 #[.val (.ref sx), .val (.ref va), .val (.int (0 : Int32)), .val (.int (1 : Int32))] [(.int (own_cod cs))])) _
    refine XS.iloadN X2.here hx rfl (dd hy dJ42_147_4) rfl ?_
    refine XS.icmpNo X2.here hx rfl (dd hy dJ42_147_5) rfl (teq (own_codw hnl)).2 ?_
    show Steps _ _ _ (T2.setTop (mkF m 8 #[.val (.ref sx), .val (.ref va), .val (.int (0 : Int32)), .val (.int (1 : Int32))] [])) _
    refine XS.aloadN X2.here hx rfl (dd hy dJ42_147_8) rfl rfl ?_
    refine st4 _ ?_
    refine XS.iconst X4.here hx rfl (dd hy dJ42_147_12) ?_
    refine XS.aloadN X4.here hx rfl (dd hy dJ42_147_13) rfl rfl ?_
    refine XS.iloadN X4.here hx rfl (dd hy dJ42_147_14) rfl ?_
    refine XS.iloadN X4.here hx rfl (dd hy dJ42_147_15) rfl ?_
    show Steps _ _ _ (T4.setTop (mkF m 16 #[.val (.ref sx), .val (.ref va), .val (.int (0 : Int32)), .val (.int (1 : Int32))] [(.int (1 : Int32)), (.int (0 : Int32)), (.ref va), (.int (0 : Int32)), (.ref sb)])) _
    refine XS.ishl X4.here hx rfl (dd hy dJ42_147_16) rfl ?_
    show Steps _ _ _ (T4.setTop (mkF m 17 #[.val (.ref sx), .val (.ref va), .val (.int (0 : Int32)), .val (.int (1 : Int32))] [(.int ((0 : Int32) <<< ((1 : Int32) &&& 31))), (.ref va), (.int (0 : Int32)), (.ref sb)])) _
    refine castTop (g' := (mkF m 17 #[.val (.ref sx), .val (.ref va), .val (.int (0 : Int32)), .val (.int (1 : Int32))] [(.int (0 : Int32)), (.ref va), (.int (0 : Int32)), (.ref sb)])) (by rw [own_shl01]) ?_
    show Steps _ _ _ (T4.setTop (mkF m 17 #[.val (.ref sx), .val (.ref va), .val (.int (0 : Int32)), .val (.int (1 : Int32))] [(.int (0 : Int32)), (.ref va), (.int (0 : Int32)), (.ref sb)])) _
    refine XS.aloadN X4.here hx rfl (dd hy dJ42_147_17) rfl rfl ?_
    refine st5 _ ?_
    refine X5.arraylength hx (by rw [e5]; exact Ar6.1) (State.isArrayOf_alike hZ.alike Ar6.2.1) (g := (mkF m 21 #[.val (.ref sx), .val (.ref va), .val (.int (0 : Int32)), .val (.int (1 : Int32))] [(.ref sb), (.int (0 : Int32)), (.ref va), (.int (0 : Int32)), (.ref sb)])) rfl rfl (dd hy dJ42_147_21) _ ?_
    rw [len_of S6 M6]
    show Steps _ _ _ (T5.setTop (mkF m 22 #[.val (.ref sx), .val (.ref va), .val (.int (0 : Int32)), .val (.int (1 : Int32))] [(.int (Int32.ofNat (own_wb cs).length)), (.int (0 : Int32)), (.ref va), (.int (0 : Int32)), (.ref sb)])) _
    refine castTop (g' := (mkF m 22 #[.val (.ref sx), .val (.ref va), .val (.int (0 : Int32)), .val (.int (1 : Int32))] [(.int (Int32.ofNat (2 * cs.length))), (.int (0 : Int32)), (.ref va), (.int (0 : Int32)), (.ref sb)])) (by rw [own_wbl]) ?_
    show Steps _ _ _ (T5.setTop (mkF m 22 #[.val (.ref sx), .val (.ref va), .val (.int (0 : Int32)), .val (.int (1 : Int32))] [(.int (Int32.ofNat (2 * cs.length))), (.int (0 : Int32)), (.ref va), (.int (0 : Int32)), (.ref sb)])) _
    refine st7 _ ?_
    show Steps _ _ _ (T7.setTop (mkF m 25 #[.val (.ref sx), .val (.ref va), .val (.int (0 : Int32)), .val (.int (1 : Int32))] [])) _
    refine XS.goto X7.here hx rfl (pc0 := 25) (pc' := 43) rfl (dd hy dJ42_147_25) (by decide) (by decide) ?_
    exact k_)
  obtain ⟨fs, hr, hrun, hended, hW, hsame⟩ := X7.leave (v := none) (fun _ => rfl)
  refine ⟨_, _, s9 _ ?_, hrun, hended, _, _, rfl, ?_, ⟨_, rfl⟩, hW, hsame.mono (by decide) (by decide)⟩
  · exact X7.returnOut hx Bd.returns (dd hy dJ42_147_43) hr
  · show Q_rmGBw Z _ _ _ _ _ _ _ _ h0 n0 _ T7.heap _
    rw [e7]
    exact ⟨rfl, N7, ((Keep.refl h0 [va]).trans K7 (allS (Or.inl (by simp)) all0)), V7⟩
theorem dJ52_86_17 : decode CJ52_86 17 = .ok (.aload_n 2, 1) := by decide +kernel
theorem dJ52_86_18 : decode CJ52_86 18 = .ok (.iload_n 3, 1) := by decide +kernel
theorem dJ52_86_19 : decode CJ52_86 19 = .ok (.iinc 3 1, 3) := by decide +kernel
theorem dJ52_86_22 : decode CJ52_86 22 = .ok (.aload_n 0, 1) := by decide +kernel
theorem dJ52_86_23 : decode CJ52_86 23 = .ok (.iload_n 1, 1) := by decide +kernel
theorem dJ52_86_24 : decode CJ52_86 24 = .ok (.iinc 1 1, 3) := by decide +kernel
theorem dJ52_86_27 : decode CJ52_86 27 = .ok (.baload, 1) := by decide +kernel
theorem dJ52_86_28 : decode CJ52_86 28 = .ok (.sipush 255, 3) := by decide +kernel
theorem dJ52_86_31 : decode CJ52_86 31 = .ok (.iand, 1) := by decide +kernel
theorem dJ52_86_32 : decode CJ52_86 32 = .ok (.invokestatic 111, 3) := by decide +kernel
theorem dJ52_86_35 : decode CJ52_86 35 = .ok (.iinc 5 1, 3) := by decide +kernel
theorem dJ52_86_38 : decode CJ52_86 38 = .ok (.goto (-28), 3) := by decide +kernel
theorem ef_rmInU (m : MethodId) (x0 : Addr) (x1 : Int32) (x2 : Addr) (x3 : Int32) (x4 : Int32) : entryFrame m #[(.ref x0), (.int x1), (.ref x2), (.int x3), (.int x4)] 6 = mkF m 0 #[.val (.ref x0), .val (.int x1), .val (.ref x2), .val (.int x3), .val (.int x4), .unset] [] := by first | (simp [entryFrame, mkF, argsToLocals, Value.category]; done) | rfl
abbrev R_rmInU : Room := ({ frames := 3, cells := 0, slots := 0, locals := 43 } : Room)
def Q_rmInU (Z : State) (sb : Addr) (va : Addr) (ks : ClassId) (cs : List Int32) (kc : ClassId) (xs : List Int32) (k : Nat) (fmt : Value) (h0 : Heap) (n0 : Nat) (v : Option Value) (h : Heap) (L : List Loc) : Prop := (v = none) ∧ (Fr n0 L) ∧ (Keep h0 h [va]) ∧ (Arv Z h va kc .byte (Int32.ofNat (2 * 16)) ((own_pl xs cs k).map Value.int) v0_)
set_option maxRecDepth 65536 in
set_option maxHeartbeats 40000000 in
theorem rmInU (l : Launch) (Z : State) (a0 : Array Value) (hw : HW Z a0) (ws : List Jvm.Cond) (sb : Addr) (va : Addr) (ks : ClassId) (cs : List Int32) (kc : ClassId) (xs : List Int32) (k : Nat) (fmt : Value) (h0 : Heap) (n0 : Nat) (Z0 : n0 ≤ h0.size) (I1 : Sta Z Z.heap cU cD "Z" (.int (1 : Int32))) (I2 : Sta Z Z.heap cU cH "I" (.int (0 : Int32))) (I3 : Sta Z Z.heap cU cL "I" (.int (8 : Int32))) (hfmt : fmt.isRef = true) (I4 : Sta Z Z.heap cP cG cF fmt) (OX : Old Z n0 h0) (I5 : Arv Z h0 sb ks .byte (Int32.ofNat cs.length) (own_enc cs) v0_) (I6 : Arv Z h0 va kc .byte (Int32.ofNat (2 * 16)) (xs.map Value.int) v0_) (hx32 : xs.length = 32) (gv : n0 ≤ va) (hsv : @Ne Nat sb va) (hlat : own_lat cs) (hkc : k + cs.length ≤ 16) (hchs : own_chs cs) :
    MF l Z M40_ (Jvm.Cond.code M40_ jdk_52_method_86_code 6 none :: ws) R_rmInU #[(.ref sb), (.int (0 : Int32)), (.ref va), (.int (Int32.ofNat k)), (.int (Int32.ofNat cs.length))] h0 (Q_rmInU Z sb va ks cs kc xs k fmt h0 n0) := by
  refine MetFree.of_bodySF (plainFor_of_name pn_java_lang_StringUTF16) hisR ?_
  intro p e s m args below meth c s₁ Bd hml0 hP hK
  obtain ⟨rfl, hZ, hh⟩ := hP
  have hx := Bd.exec
  have hy := Bd.bytes
  have hml : c.maxLocals = 6 := hml0
  have hown : s.vm.findClass "java/lang/StringUTF16" = some m.cls := findClass_of_methodNamed Bd.named
  have hnm := (name_of_methodNamed Bd.named Bd.method).1
  have X0 : Stand p l e R_rmInU s m #[(.ref sb), (.int (0 : Int32)), (.ref va), (.int (Int32.ofNat k)), (.int (Int32.ofNat cs.length))] below meth c s₁ [] 0 0 := Stand.of_body Bd
  have e0 : s₁.heap = h0 := by rw [← hh, Bd.state]; rfl
  have N0 := Fr.nil n0
  have pre0 := own_pre (p := p) (e := e) (below := below) (T := s₁) (ef_rmInU m sb (0 : Int32) va (Int32.ofNat k) (Int32.ofNat cs.length))
  have lt_I5 : @LT.lt Nat _ sb h0.size := I5.lt
  have lt_I6 : @LT.lt Nat _ va h0.size := I6.lt
  have Zc1 : n0 ≤ h0.size := by omega
  obtain ⟨_, _, ⟨T2, L2, k2, n2⟩, -, X2, ⟨Lc2, hQ2, l2, y2, z2⟩, st2⟩ := Jvm.LawKit.callS X0 hx (y := M26_) hown (mvT hZ (own_m hw 220 rfl)) (mvT hZ (own_m hw 221 rfl)) (mvT hZ (own_m hw 21 rfl)) (mvT hZ (own_m hw 222 rfl)) (by decide) (backOf (W := 0) (rmCBO l Z a0 hw [] va k cs.length 16 kc (xs.map Value.int) fmt h0 n0 Zc1 hfmt I4 OX I6 (by omega) (by decide)) hZ (own_m hw 222 rfl) (own_m hw 21 rfl) (by decide) (by decide)) (g := (mkF m 4 #[.val (.ref sb), .val (.int (0 : Int32)), .val (.ref va), .val (.int (Int32.ofNat k)), .val (.int (Int32.ofNat cs.length)), .unset] [(.ref va), (.int (Int32.ofNat cs.length)), (.int (Int32.ofNat k))])) rfl (by rw [hml]; rfl) (argsL := [(.int (Int32.ofNat k)), (.int (Int32.ofNat cs.length)), (.ref va)]) (rest := []) (lenOf pd__II_B_V rfl) rfl (by show 2 * 0 + _ ≤ _; exact Nat.le_of_eq rfl) (dd hy dJ52_86_4) (fun _ _ => ⟨rfl, e0, (by decide : 0 + 0 ≤ _), (by decide : 0 + 0 ≤ _)⟩)
  dsimp only [Pt.U, Pt.locs, Pt.cells, Pt.slots] at X2 l2 y2 z2 st2 hQ2
  subst l2 y2 z2
  obtain ⟨rfl, N2q, e2⟩ := hQ2
  have N2 := Fr.app N0 N2q
  have s3 : ∀ t_, Steps p.tables e below (T2.setTop (mkF m 10 #[.val (.ref sb), .val (.int (0 : Int32)), .val (.ref va), .val (.int (Int32.ofNat k)), .val (.int (Int32.ofNat cs.length)), .val (.int (0 : Int32))] [])) t_ → Steps _ _ _ _ t_ := fun t_ k_ => pre0 t_ (by
    refine XS.iloadN X0.here hx rfl (dd hy dJ52_86_0) rfl ?_
    refine XS.iload X0.here hx rfl (dd hy dJ52_86_1) rfl ?_
    refine XS.aloadN X0.here hx rfl (dd hy dJ52_86_3) rfl rfl ?_
    refine st2 _ ?_
    show Steps _ _ _ (T2.setTop (mkF m 7 #[.val (.ref sb), .val (.int (0 : Int32)), .val (.ref va), .val (.int (Int32.ofNat k)), .val (.int (Int32.ofNat cs.length)), .unset] [])) _
    refine XS.iconst X2.here hx rfl (dd hy dJ52_86_7) ?_
    refine XS.istore X2.here hx rfl (dd hy dJ52_86_8) rfl (l' := #[.val (.ref sb), .val (.int (0 : Int32)), .val (.ref va), .val (.int (Int32.ofNat k)), .val (.int (Int32.ofNat cs.length)), .val (.int (0 : Int32))]) rfl ?_
    exact k_)
  have lp4 : ∀ (k_ : Nat) (j : Nat) (T_ : State) (lo_ : List Loc) (hh4 : Heap), j + k_ = cs.length → Stand p l e R_rmInU s m #[(.ref sb), (.int (0 : Int32)), (.ref va), (.int (Int32.ofNat k)), (.int (Int32.ofNat cs.length))] below meth c T_ lo_ 0 0 → T_.heap = hh4 → Fr n0 lo_ → Keep h0 hh4 [va] → Arv Z hh4 va kc .byte (Int32.ofNat (2 * 16)) (own_mix ((own_pl xs cs k).map Value.int) (xs.map Value.int) (2 * (k + j))) v0_ → ∃ (T' : State) (lo' : List Loc) (hx_ : Heap) (fe_ : JFrame), Stand p l e R_rmInU s m #[(.ref sb), (.int (0 : Int32)), (.ref va), (.int (Int32.ofNat k)), (.int (Int32.ofNat cs.length))] below meth c T' lo' 0 0 ∧ T'.heap = hx_ ∧ Fr n0 lo' ∧ Keep h0 hx_ [va] ∧ ((fe_ = (mkF m 41 #[.val (.ref sb), .val (.int (Int32.ofNat cs.length)), .val (.ref va), .val (.int (Int32.ofNat (k + cs.length))), .val (.int (Int32.ofNat cs.length)), .val (.int (Int32.ofNat cs.length))] []) ∧ Arv Z hx_ va kc .byte (Int32.ofNat (2 * 16)) (own_mix ((own_pl xs cs k).map Value.int) (xs.map Value.int) (2 * (k + cs.length))) v0_)) ∧ ∀ t_, Steps p.tables e below (T'.setTop fe_) t_ → Steps p.tables e below (T_.setTop (mkF m 10 #[.val (.ref sb), .val (.int (Int32.ofNat j)), .val (.ref va), .val (.int (Int32.ofNat (k + j))), .val (.int (Int32.ofNat cs.length)), .val (.int (Int32.ofNat j))] [])) t_ := by
    intro k_
    induction k_ with
    | zero => 
      intro j T_ lo_ hh4 hm_ X_ e_ N_ K_ F_0
      have zk_ : h0.size ≤ hh4.size := K_.1
      have s5 : ∀ t_, Steps p.tables e below (T_.setTop (mkF m 41 #[.val (.ref sb), .val (.int (Int32.ofNat j)), .val (.ref va), .val (.int (Int32.ofNat (k + j))), .val (.int (Int32.ofNat cs.length)), .val (.int (Int32.ofNat j))] [])) t_ → Steps p.tables e below (T_.setTop (mkF m 10 #[.val (.ref sb), .val (.int (Int32.ofNat j)), .val (.ref va), .val (.int (Int32.ofNat (k + j))), .val (.int (Int32.ofNat cs.length)), .val (.int (Int32.ofNat j))] [])) t_ := fun t_ k_ => (fun _ k_ => k_) t_ (by
        refine XS.iload X_.here hx rfl (dd hy dJ52_86_10) rfl ?_
        refine XS.iload X_.here hx rfl (dd hy dJ52_86_12) rfl ?_
        refine XS.icmpYes X_.here hx rfl (pc0 := 14) (pc' := 41) rfl (dd hy dJ52_86_14) rfl (flt (own_nlt (by omega) (by omega))).2.1 (by decide) (by decide) ?_
        show Steps _ _ _ (T_.setTop (mkF m 41 #[.val (.ref sb), .val (.int (Int32.ofNat j)), .val (.ref va), .val (.int (Int32.ofNat (k + j))), .val (.int (Int32.ofNat cs.length)), .val (.int (Int32.ofNat j))] [])) _
        exact k_)
      exact ⟨T_, _, _, _, X_, e_, N_, ((Keep.refl h0 [va]).trans K_ (allS (Or.inl (by simp)) all0)), ⟨(by rw [show j = cs.length by omega]), (by have q := F_0; rw [show j = cs.length by omega] at q; exact q)⟩, s5⟩
    | succ k_ ih => 
      intro j T_ lo_ hh4 hm_ X_ e_ N_ K_ F_0
      have zk_ : h0.size ≤ hh4.size := K_.1
      have f6 : Arv Z hh4 sb ks .byte (Int32.ofNat cs.length) (own_enc cs) v0_ := (I5.keep K_ (ninS (show @Ne Nat sb va by omega) nin0))
      obtain ⟨cl7, Ar7, -, S7, M7, H7, -⟩ := id f6
      have hin7 : ¬ ((Int32.ofNat j) < 0 ∨ cl7.slots.size ≤ ((Int32.ofNat j)).toNatClampNeg) := inb_of S7 (own_in (by omega) (by omega))
      have hat7 : cl7.slots[((Int32.ofNat j)).toNatClampNeg]? = some (.int (own_lo (cs.getD j 0))) := H7.at hin7 (own_geth cs j _ hlat (by omega) (by omega))
      have O8 : Old Z n0 hh4 := (OX.keep K_ (allS (show n0 ≤ va by omega) all0))
      have Zc9 : n0 ≤ hh4.size := by omega
      obtain ⟨_, _, ⟨T10, L10, k10, n10⟩, -, X10, ⟨Lc10, hQ10, l10, y10, z10⟩, st10⟩ := Jvm.LawKit.callS X_ hx (y := M4_) hown (mvT hZ (own_m hw 201 rfl)) (mvT hZ (own_m hw 202 rfl)) (mvT hZ (own_m hw 21 rfl)) (mvT hZ (own_m hw 203 rfl)) (by decide) (backOf (W := 0) (rmPut l Z a0 hw [] va (cs.getD j 0) kc (own_mix ((own_pl xs cs k).map Value.int) (xs.map Value.int) (2 * (k + j))) 16 (k + j) hh4 n0 Zc9 I1 I2 I3 O8 F_0 (by decide) (by omega) (by rw [own_mixl _ _ _ (by rw [List.length_map, List.length_map, own_pll hx32 hkc, hx32]), List.length_map, hx32]) gv) hZ (own_m hw 203 rfl) (own_m hw 21 rfl) (by decide) (by decide)) (g := (mkF m 32 #[.val (.ref sb), .val (.int ((Int32.ofNat j) + (1 : Int32))), .val (.ref va), .val (.int ((Int32.ofNat (k + j)) + (1 : Int32))), .val (.int (Int32.ofNat cs.length)), .val (.int (Int32.ofNat j))] [(.int (cs.getD j 0)), (.int (Int32.ofNat (k + j))), (.ref va)])) rfl (by rw [hml]; rfl) (argsL := [(.ref va), (.int (Int32.ofNat (k + j))), (.int (cs.getD j 0))]) (rest := []) (lenOf pd___BII_V rfl) rfl (by show 2 * 0 + _ ≤ _; exact Nat.le_of_eq rfl) (dd hy dJ52_86_32) (fun _ _ => ⟨rfl, e_, (by decide : 0 + 0 ≤ _), (by decide : 0 + 0 ≤ _)⟩)
      dsimp only [Pt.U, Pt.locs, Pt.cells, Pt.slots] at X10 l10 y10 z10 st10 hQ10
      subst l10 y10 z10
      obtain ⟨rfl, N10q, K10, Fq10_0⟩ := hQ10
      have N10 := Fr.app N_ N10q
      obtain ⟨h10, e10⟩ : ∃ z, T10.heap = z := ⟨_, rfl⟩
      rw [e10] at K10 Fq10_0
      have z11 : hh4.size ≤ h10.size := K10.1
      have lt10_0 : @LT.lt Nat _ va h10.size := Fq10_0.lt
      have V12 : Arv Z h10 va kc .byte (Int32.ofNat (2 * 16)) (own_mix ((own_pl xs cs k).map Value.int) (xs.map Value.int) (2 * (k + (j + 1)))) v0_ := by have q := Fq10_0; rw [own_mixp xs cs k j hx32 (by omega) hkc] at q; exact q
      have s13 : ∀ t_, Steps p.tables e below (T10.setTop (mkF m 10 #[.val (.ref sb), .val (.int ((Int32.ofNat j) + (1 : Int32))), .val (.ref va), .val (.int ((Int32.ofNat (k + j)) + (1 : Int32))), .val (.int (Int32.ofNat cs.length)), .val (.int ((Int32.ofNat j) + (1 : Int32)))] [])) t_ → Steps p.tables e below (T_.setTop (mkF m 10 #[.val (.ref sb), .val (.int (Int32.ofNat j)), .val (.ref va), .val (.int (Int32.ofNat (k + j))), .val (.int (Int32.ofNat cs.length)), .val (.int (Int32.ofNat j))] [])) t_ := fun t_ k_ => (fun _ k_ => k_) t_ (by
        refine XS.iload X_.here hx rfl (dd hy dJ52_86_10) rfl ?_
        refine XS.iload X_.here hx rfl (dd hy dJ52_86_12) rfl ?_
        refine XS.icmpNo X_.here hx rfl (dd hy dJ52_86_14) rfl (tlt (own_lt (by omega) (by omega))).2.1 ?_
        show Steps _ _ _ (T_.setTop (mkF m 17 #[.val (.ref sb), .val (.int (Int32.ofNat j)), .val (.ref va), .val (.int (Int32.ofNat (k + j))), .val (.int (Int32.ofNat cs.length)), .val (.int (Int32.ofNat j))] [])) _
        refine XS.aloadN X_.here hx rfl (dd hy dJ52_86_17) rfl rfl ?_
        refine XS.iloadN X_.here hx rfl (dd hy dJ52_86_18) rfl ?_
        refine XS.iinc X_.here hx rfl (dd hy dJ52_86_19) rfl (l' := #[.val (.ref sb), .val (.int (Int32.ofNat j)), .val (.ref va), .val (.int ((Int32.ofNat (k + j)) + (1 : Int32))), .val (.int (Int32.ofNat cs.length)), .val (.int (Int32.ofNat j))]) rfl ?_
        refine XS.aloadN X_.here hx rfl (dd hy dJ52_86_22) rfl rfl ?_
        refine XS.iloadN X_.here hx rfl (dd hy dJ52_86_23) rfl ?_
        refine XS.iinc X_.here hx rfl (dd hy dJ52_86_24) rfl (l' := #[.val (.ref sb), .val (.int ((Int32.ofNat j) + (1 : Int32))), .val (.ref va), .val (.int ((Int32.ofNat (k + j)) + (1 : Int32))), .val (.int (Int32.ofNat cs.length)), .val (.int (Int32.ofNat j))]) rfl ?_
        show Steps _ _ _ (T_.setTop (mkF m 27 #[.val (.ref sb), .val (.int ((Int32.ofNat j) + (1 : Int32))), .val (.ref va), .val (.int ((Int32.ofNat (k + j)) + (1 : Int32))), .val (.int (Int32.ofNat cs.length)), .val (.int (Int32.ofNat j))] [(.int (Int32.ofNat j)), (.ref sb), (.int (Int32.ofNat (k + j))), (.ref va)])) _
        refine X_.baloadBytes hx (j := (Int32.ofNat j)) (v := (.int (own_lo (cs.getD j 0)))) (by rw [e_]; exact Ar7.1) (State.isArrayOf_alike hZ.alike Ar7.2.1) Ar7.2.2 hin7 hat7 (g := (mkF m 27 #[.val (.ref sb), .val (.int ((Int32.ofNat j) + (1 : Int32))), .val (.ref va), .val (.int ((Int32.ofNat (k + j)) + (1 : Int32))), .val (.int (Int32.ofNat cs.length)), .val (.int (Int32.ofNat j))] [(.int (Int32.ofNat j)), (.ref sb), (.int (Int32.ofNat (k + j))), (.ref va)])) rfl rfl (dd hy dJ52_86_27) _ ?_
        refine XS.sipush X_.here hx rfl (dd hy dJ52_86_28) ?_
        refine XS.iand X_.here hx rfl (dd hy dJ52_86_31) rfl ?_
        show Steps _ _ _ (T_.setTop (mkF m 32 #[.val (.ref sb), .val (.int ((Int32.ofNat j) + (1 : Int32))), .val (.ref va), .val (.int ((Int32.ofNat (k + j)) + (1 : Int32))), .val (.int (Int32.ofNat cs.length)), .val (.int (Int32.ofNat j))] [(.int ((own_lo (cs.getD j 0)) &&& (255 : Int32))), (.int (Int32.ofNat (k + j))), (.ref va)])) _
        refine castTop (g' := (mkF m 32 #[.val (.ref sb), .val (.int ((Int32.ofNat j) + (1 : Int32))), .val (.ref va), .val (.int ((Int32.ofNat (k + j)) + (1 : Int32))), .val (.int (Int32.ofNat cs.length)), .val (.int (Int32.ofNat j))] [(.int (cs.getD j 0)), (.int (Int32.ofNat (k + j))), (.ref va)])) (by rw [own_lo255 (hchs _ (own_mem cs j (by omega))).1 (hlat _ (own_mem cs j (by omega)))]) ?_
        show Steps _ _ _ (T_.setTop (mkF m 32 #[.val (.ref sb), .val (.int ((Int32.ofNat j) + (1 : Int32))), .val (.ref va), .val (.int ((Int32.ofNat (k + j)) + (1 : Int32))), .val (.int (Int32.ofNat cs.length)), .val (.int (Int32.ofNat j))] [(.int (cs.getD j 0)), (.int (Int32.ofNat (k + j))), (.ref va)])) _
        refine st10 _ ?_
        show Steps _ _ _ (T10.setTop (mkF m 35 #[.val (.ref sb), .val (.int ((Int32.ofNat j) + (1 : Int32))), .val (.ref va), .val (.int ((Int32.ofNat (k + j)) + (1 : Int32))), .val (.int (Int32.ofNat cs.length)), .val (.int (Int32.ofNat j))] [])) _
        refine XS.iinc X10.here hx rfl (dd hy dJ52_86_35) rfl (l' := #[.val (.ref sb), .val (.int ((Int32.ofNat j) + (1 : Int32))), .val (.ref va), .val (.int ((Int32.ofNat (k + j)) + (1 : Int32))), .val (.int (Int32.ofNat cs.length)), .val (.int ((Int32.ofNat j) + (1 : Int32)))]) rfl ?_
        refine XS.goto X10.here hx rfl (pc0 := 38) (pc' := 10) rfl (dd hy dJ52_86_38) (by decide) (by decide) ?_
        exact k_)
      obtain ⟨T14, lo14, h14, fe14, X14, e14, N14, K14, A14, st14⟩ := ih (j + 1) T10 _ h10 (by omega) X10 e10 N10 (((Keep.refl h0 [va]).trans K_ (allS (Or.inl (by simp)) all0)).trans K10 (allS (Or.inl (by simp)) all0)) V12 
      exact ⟨T14, lo14, h14, fe14, X14, e14, N14, K14, A14, fun t_ k_ => s13 t_ (castTop (by rw [show k + (j + 1) = (k + j) + 1 from rfl, own_up (k + j), own_up j]) (st14 t_ k_))⟩
  obtain ⟨T15, lo15, h15, fe15, X15, e15, N15, K15, A15, st15⟩ := lp4 cs.length 0 T2 _ h0 (by omega) X2 e2 N2 (Keep.refl _ _) (by rw [own_mixa xs cs k hx32 hkc]; exact I6) 
  have z16 : h0.size ≤ h15.size := K15.1
  obtain ⟨rfl, G15_0⟩ := A15
  have s17 : ∀ t_, Steps p.tables e below (T15.setTop (mkF m 41 #[.val (.ref sb), .val (.int (Int32.ofNat cs.length)), .val (.ref va), .val (.int (Int32.ofNat (k + cs.length))), .val (.int (Int32.ofNat cs.length)), .val (.int (Int32.ofNat cs.length))] [])) t_ → Steps p.tables e below (s₁.setTop (entryFrame m #[(.ref sb), (.int (0 : Int32)), (.ref va), (.int (Int32.ofNat k)), (.int (Int32.ofNat cs.length))] 6)) t_ := fun t_ k_ => s3 t_ (st15 t_ k_)
  obtain ⟨fs, hr, hrun, hended, hW, hsame⟩ := X15.leave (v := none) (fun _ => rfl)
  refine ⟨_, _, s17 _ ?_, hrun, hended, _, _, rfl, ?_, ⟨_, rfl⟩, hW, hsame.mono (by decide) (by decide)⟩
  · exact X15.returnOut hx Bd.returns (dd hy dJ52_86_41) hr
  · show Q_rmInU Z _ _ _ _ _ _ _ _ h0 n0 _ T15.heap _
    rw [e15]
    exact ⟨rfl, N15, ((Keep.refl h0 [va]).trans K15 (allS (Or.inl (by simp)) all0)), (by have q := G15_0; rw [own_mixz xs cs k hx32 hkc] at q; exact q)⟩
theorem ef_rmInL (m : MethodId) (x0 : Addr) (x1 : Int32) (x2 : Addr) (x3 : Int32) (x4 : Int32) : entryFrame m #[(.ref x0), (.int x1), (.ref x2), (.int x3), (.int x4)] 5 = mkF m 0 #[.val (.ref x0), .val (.int x1), .val (.ref x2), .val (.int x3), .val (.int x4)] [] := by first | (simp [entryFrame, mkF, argsToLocals, Value.category]; done) | rfl
abbrev R_rmInL : Room := ({ frames := 4, cells := 0, slots := 0, locals := 60 } : Room)
def Q_rmInL (Z : State) (sb : Addr) (va : Addr) (ks : ClassId) (cs : List Int32) (kc : ClassId) (xs : List Int32) (k : Nat) (fmt : Value) (h0 : Heap) (n0 : Nat) (v : Option Value) (h : Heap) (L : List Loc) : Prop := (v = none) ∧ (Fr n0 L) ∧ (Keep h0 h [va]) ∧ (Arv Z h va kc .byte (Int32.ofNat (2 * 16)) ((own_pl xs cs k).map Value.int) v0_)
set_option maxRecDepth 65536 in
set_option maxHeartbeats 40000000 in
theorem rmInL (l : Launch) (Z : State) (a0 : Array Value) (hw : HW Z a0) (ws : List Jvm.Cond) (sb : Addr) (va : Addr) (ks : ClassId) (cs : List Int32) (kc : ClassId) (xs : List Int32) (k : Nat) (fmt : Value) (h0 : Heap) (n0 : Nat) (Z0 : n0 ≤ h0.size) (I1 : Sta Z Z.heap cU cD "Z" (.int (1 : Int32))) (I2 : Sta Z Z.heap cU cH "I" (.int (0 : Int32))) (I3 : Sta Z Z.heap cU cL "I" (.int (8 : Int32))) (hfmt : fmt.isRef = true) (I4 : Sta Z Z.heap cP cG cF fmt) (OX : Old Z n0 h0) (I5 : Arv Z h0 sb ks .byte (Int32.ofNat cs.length) (own_enc cs) v0_) (I6 : Arv Z h0 va kc .byte (Int32.ofNat (2 * 16)) (xs.map Value.int) v0_) (hx32 : xs.length = 32) (gv : n0 ≤ va) (hsv : @Ne Nat sb va) (hlat : own_lat cs) (hkc : k + cs.length ≤ 16) (hchs : own_chs cs) :
    MF l Z M41_ (Jvm.Cond.code M41_ jdk_43_method_50_code 5 none :: ws) R_rmInL #[(.ref sb), (.int (0 : Int32)), (.ref va), (.int (Int32.ofNat k)), (.int (Int32.ofNat cs.length))] h0 (Q_rmInL Z sb va ks cs kc xs k fmt h0 n0) := by
  refine MetFree.of_bodySF (plainFor_of_name pn_java_lang_StringLatin1) hisR ?_
  intro p e s m args below meth c s₁ Bd hml0 hP hK
  obtain ⟨rfl, hZ, hh⟩ := hP
  have hx := Bd.exec
  have hy := Bd.bytes
  have hml : c.maxLocals = 5 := hml0
  have hown : s.vm.findClass "java/lang/StringLatin1" = some m.cls := findClass_of_methodNamed Bd.named
  have hnm := (name_of_methodNamed Bd.named Bd.method).1
  have X0 : Stand p l e R_rmInL s m #[(.ref sb), (.int (0 : Int32)), (.ref va), (.int (Int32.ofNat k)), (.int (Int32.ofNat cs.length))] below meth c s₁ [] 0 0 := Stand.of_body Bd
  have e0 : s₁.heap = h0 := by rw [← hh, Bd.state]; rfl
  have N0 := Fr.nil n0
  have pre0 := own_pre (p := p) (e := e) (below := below) (T := s₁) (ef_rmInL m sb (0 : Int32) va (Int32.ofNat k) (Int32.ofNat cs.length))
  have lt_I5 : @LT.lt Nat _ sb h0.size := I5.lt
  have lt_I6 : @LT.lt Nat _ va h0.size := I6.lt
  have Zc1 : n0 ≤ h0.size := by omega
  obtain ⟨_, _, ⟨T2, L2, k2, n2⟩, -, X2, ⟨Lc2, hQ2, l2, y2, z2⟩, st2⟩ := Jvm.LawKit.callS X0 hx (y := M40_) hown (mvT hZ (own_m hw 246 rfl)) (mvT hZ (own_m hw 247 rfl)) (mvT hZ (own_m hw 21 rfl)) (mvT hZ (own_m hw 248 rfl)) (by decide) (backOf (W := 0) (rmInU l Z a0 hw [] sb va ks cs kc xs k fmt h0 n0 Zc1 I1 I2 I3 hfmt I4 OX I5 I6 hx32 gv hsv hlat hkc hchs) hZ (own_m hw 248 rfl) (own_m hw 21 rfl) (by decide) (by decide)) (g := (mkF m 6 #[.val (.ref sb), .val (.int (0 : Int32)), .val (.ref va), .val (.int (Int32.ofNat k)), .val (.int (Int32.ofNat cs.length))] [(.int (Int32.ofNat cs.length)), (.int (Int32.ofNat k)), (.ref va), (.int (0 : Int32)), (.ref sb)])) rfl (by rw [hml]; rfl) (argsL := [(.ref sb), (.int (0 : Int32)), (.ref va), (.int (Int32.ofNat k)), (.int (Int32.ofNat cs.length))]) (rest := []) (lenOf pd___BI_BII_V rfl) rfl (by show 2 * 0 + _ ≤ _; exact Nat.le_of_eq rfl) (dd hy dJ43_50_6) (fun _ _ => ⟨rfl, e0, (by decide : 0 + 0 ≤ _), (by decide : 0 + 0 ≤ _)⟩)
  dsimp only [Pt.U, Pt.locs, Pt.cells, Pt.slots] at X2 l2 y2 z2 st2 hQ2
  subst l2 y2 z2
  obtain ⟨rfl, N2q, K2, Fq2_0⟩ := hQ2
  have N2 := Fr.app N0 N2q
  obtain ⟨h2, e2⟩ : ∃ z, T2.heap = z := ⟨_, rfl⟩
  rw [e2] at K2 Fq2_0
  have z3 : h0.size ≤ h2.size := K2.1
  have lt2_0 : @LT.lt Nat _ va h2.size := Fq2_0.lt
  have s4 : ∀ t_, Steps p.tables e below (T2.setTop (mkF m 9 #[.val (.ref sb), .val (.int (0 : Int32)), .val (.ref va), .val (.int (Int32.ofNat k)), .val (.int (Int32.ofNat cs.length))] [])) t_ → Steps _ _ _ _ t_ := fun t_ k_ => pre0 t_ (by
    refine XS.aloadN X0.here hx rfl (dd hy dJ43_50_0) rfl rfl ?_
    refine XS.iloadN X0.here hx rfl (dd hy dJ43_50_1) rfl ?_
    refine XS.aloadN X0.here hx rfl (dd hy dJ43_50_2) rfl rfl ?_
    refine XS.iloadN X0.here hx rfl (dd hy dJ43_50_3) rfl ?_
    refine XS.iload X0.here hx rfl (dd hy dJ43_50_4) rfl ?_
    refine st2 _ ?_
    show Steps _ _ _ (T2.setTop (mkF m 9 #[.val (.ref sb), .val (.int (0 : Int32)), .val (.ref va), .val (.int (Int32.ofNat k)), .val (.int (Int32.ofNat cs.length))] [])) _
    exact k_)
  obtain ⟨fs, hr, hrun, hended, hW, hsame⟩ := X2.leave (v := none) (fun _ => rfl)
  refine ⟨_, _, s4 _ ?_, hrun, hended, _, _, rfl, ?_, ⟨_, rfl⟩, hW, hsame.mono (by decide) (by decide)⟩
  · exact X2.returnOut hx Bd.returns (dd hy dJ43_50_9) hr
  · show Q_rmInL Z _ _ _ _ _ _ _ _ h0 n0 _ T2.heap _
    rw [e2]
    exact ⟨rfl, N2, ((Keep.refl h0 [va]).trans K2 (allS (Or.inl (by simp)) all0)), Fq2_0⟩
theorem dJ42_147_28 : decode CJ42_147 28 = .ok (.aload_n 0, 1) := by decide +kernel
theorem dJ42_147_29 : decode CJ42_147 29 = .ok (.getfield 9, 3) := by decide +kernel
theorem dJ42_147_32 : decode CJ42_147 32 = .ok (.iconst 0, 1) := by decide +kernel
theorem dJ42_147_33 : decode CJ42_147 33 = .ok (.aload_n 1, 1) := by decide +kernel
theorem dJ42_147_34 : decode CJ42_147 34 = .ok (.iload_n 2, 1) := by decide +kernel
theorem dJ42_147_35 : decode CJ42_147 35 = .ok (.aload_n 0, 1) := by decide +kernel
theorem dJ42_147_36 : decode CJ42_147 36 = .ok (.getfield 9, 3) := by decide +kernel
theorem dJ42_147_39 : decode CJ42_147 39 = .ok (.arraylength, 1) := by decide +kernel
theorem dJ42_147_40 : decode CJ42_147 40 = .ok (.invokestatic 106, 3) := by decide +kernel
theorem ef_rmGBi (m : MethodId) (x0 : Addr) (x1 : Addr) (x2 : Int32) (x3 : Int32) : entryFrame m #[(.ref x0), (.ref x1), (.int x2), (.int x3)] 4 = mkF m 0 #[.val (.ref x0), .val (.ref x1), .val (.int x2), .val (.int x3)] [] := by first | (simp [entryFrame, mkF, argsToLocals, Value.category]; done) | rfl
abbrev R_rmGBi : Room := ({ frames := 5, cells := 0, slots := 0, locals := 76 } : Room)
def Q_rmGBi (Z : State) (sx : Addr) (va : Addr) (cst : Int32) (sb : Addr) (ks : ClassId) (cs : List Int32) (kc : ClassId) (xs : List Int32) (k : Nat) (fmt : Value) (h0 : Heap) (n0 : Nat) (v : Option Value) (h : Heap) (L : List Loc) : Prop := (v = none) ∧ (Fr n0 L) ∧ (Keep h0 h [va]) ∧ (Arv Z h va kc .byte (Int32.ofNat (2 * 16)) ((own_pl xs cs k).map Value.int) v0_)
set_option maxRecDepth 65536 in
set_option maxHeartbeats 40000000 in
theorem rmGBi (l : Launch) (Z : State) (a0 : Array Value) (hw : HW Z a0) (ws : List Jvm.Cond) (sx : Addr) (va : Addr) (cst : Int32) (sb : Addr) (ks : ClassId) (cs : List Int32) (kc : ClassId) (xs : List Int32) (k : Nat) (fmt : Value) (h0 : Heap) (n0 : Nat) (Z0 : n0 ≤ h0.size) (I1 : Sta Z Z.heap cS cC "Z" (.int cst)) (I2 : Sta Z Z.heap cU cD "Z" (.int (1 : Int32))) (I3 : Sta Z Z.heap cU cH "I" (.int (0 : Int32))) (I4 : Sta Z Z.heap cU cL "I" (.int (8 : Int32))) (hfmt : fmt.isRef = true) (I5 : Sta Z Z.heap cP cG cF fmt) (OX : Old Z n0 h0) (hcst : ¬ (cst = (0 : Int32))) (I6 : Exa Z h0 sx cS) (I7 : Fld Z h0 sx cS "value" "[B" (.ref sb)) (I8 : Fld Z h0 sx cS "coder" "B" (.int (own_cod cs))) (I9 : Arv Z h0 sb ks .byte (Int32.ofNat (own_enl cs)) (own_enc cs) v0_) (I10 : Arv Z h0 va kc .byte (Int32.ofNat (2 * 16)) (xs.map Value.int) v0_) (hx32 : xs.length = 32) (gv : n0 ≤ va) (hsv : @Ne Nat sb va) (hlat : own_lat cs) (hkc : k + cs.length ≤ 16) (hchs : own_chs cs) :
    MF l Z M42_ (Jvm.Cond.code M42_ jdk_42_method_147_code 4 none :: ws) R_rmGBi #[(.ref sx), (.ref va), (.int (Int32.ofNat k)), (.int (1 : Int32))] h0 (Q_rmGBi Z sx va cst sb ks cs kc xs k fmt h0 n0) := by
  refine MetFree.of_bodySF (plainFor_of_name pn_java_lang_String) hisR ?_
  intro p e s m args below meth c s₁ Bd hml0 hP hK
  obtain ⟨rfl, hZ, hh⟩ := hP
  have hx := Bd.exec
  have hy := Bd.bytes
  have hml : c.maxLocals = 4 := hml0
  have hown : s.vm.findClass "java/lang/String" = some m.cls := findClass_of_methodNamed Bd.named
  have hnm := (name_of_methodNamed Bd.named Bd.method).1
  have X0 : Stand p l e R_rmGBi s m #[(.ref sx), (.ref va), (.int (Int32.ofNat k)), (.int (1 : Int32))] below meth c s₁ [] 0 0 := Stand.of_body Bd
  have e0 : s₁.heap = h0 := by rw [← hh, Bd.state]; rfl
  have N0 := Fr.nil n0
  have pre0 := own_pre (p := p) (e := e) (below := below) (T := s₁) (ef_rmGBi m sx va (Int32.ofNat k) (1 : Int32))
  have lt_I6 : @LT.lt Nat _ sx h0.size := I6.lt
  have lt_I9 : @LT.lt Nat _ sb h0.size := I9.lt
  have lt_I10 : @LT.lt Nat _ va h0.size := I10.lt
  have Zc1 : n0 ≤ h0.size := by omega
  obtain ⟨cq2, kq2, q2a, q2b, q2c⟩ := isOf hZ e0 I6
  obtain ⟨_, _, ⟨T2, L2, k2, n2⟩, -, X2, ⟨Lc2, hQ2, l2, y2, z2⟩, st2⟩ := X0.virtualBack hx (y := M10_) (z := M10_) hown (mvT hZ (own_m hw 61 rfl)) (mvT hZ (own_m hw 62 rfl)) (notFace_of_selects (args := #[]) (mvT hZ (own_m hw 64 rfl))) (mvT hZ (own_m hw 64 rfl)) (mvT hZ (own_m hw 63 rfl)) (by decide) (backOf (W := 0) (rmCdr l Z a0 hw [] sx cst cs h0 n0 Zc1 I1 OX hcst I8) hZ (own_m hw 65 rfl) (own_m hw 7 rfl) (by decide) (by decide)) q2a q2c (g := (mkF m 1 #[.val (.ref sx), .val (.ref va), .val (.int (Int32.ofNat k)), .val (.int (1 : Int32))] [(.ref sx)])) rfl (by rw [hml]; rfl) (Steps.refl _) (argsL := []) (rest := []) (lenOf pd___B rfl) rfl (by show 2 * 0 + _ ≤ _; exact Nat.le_of_eq rfl) (dd hy dJ42_147_1) (fun _ _ => ⟨rfl, e0, (by decide : 0 + 0 ≤ _), (by decide : 0 + 0 ≤ _)⟩)
  dsimp only [Pt.U, Pt.locs, Pt.cells, Pt.slots] at X2 l2 y2 z2 st2 hQ2
  subst l2 y2 z2
  obtain ⟨rfl, N2q, e2⟩ := hQ2
  have N2 := Fr.app N0 N2q
  have V3 : Arv Z h0 sb ks .byte (Int32.ofNat cs.length) (own_enc cs) v0_ := own_tolat hlat I9
  obtain ⟨T4, X4, e4, st4⟩ := getF X2 hx hZ hown (host := "") (Or.inl (own_m hw 32 rfl)) Via.refl e2 I7 (g := (mkF m 29 #[.val (.ref sx), .val (.ref va), .val (.int (Int32.ofNat k)), .val (.int (1 : Int32))] [(.ref sx)])) rfl rfl (dd hy dJ42_147_29)
  obtain ⟨T5, X5, e5, st5⟩ := getF X4 hx hZ hown (host := "") (Or.inl (own_m hw 32 rfl)) Via.refl e4 I7 (g := (mkF m 36 #[.val (.ref sx), .val (.ref va), .val (.int (Int32.ofNat k)), .val (.int (1 : Int32))] [(.ref sx), (.int (Int32.ofNat k)), (.ref va), (.int (0 : Int32)), (.ref sb)])) rfl rfl (dd hy dJ42_147_36)
  obtain ⟨cl6, Ar6, -, S6, M6, -, -⟩ := id V3
  have Zc7 : n0 ≤ h0.size := by omega
  obtain ⟨_, _, ⟨T8, L8, k8, n8⟩, -, X8, ⟨Lc8, hQ8, l8, y8, z8⟩, st8⟩ := Jvm.LawKit.callS X5 hx (y := M41_) hown (mvT hZ (own_m hw 249 rfl)) (mvT hZ (own_m hw 244 rfl)) (mvT hZ (own_m hw 90 rfl)) (mvT hZ (own_m hw 245 rfl)) (by decide) (backOf (W := 0) (rmInL l Z a0 hw [] sb va ks cs kc xs k fmt h0 n0 Zc7 I2 I3 I4 hfmt I5 OX V3 I10 hx32 gv hsv hlat hkc hchs) hZ (own_m hw 245 rfl) (own_m hw 90 rfl) (by decide) (by decide)) (g := (mkF m 40 #[.val (.ref sx), .val (.ref va), .val (.int (Int32.ofNat k)), .val (.int (1 : Int32))] [(.int (Int32.ofNat cs.length)), (.int (Int32.ofNat k)), (.ref va), (.int (0 : Int32)), (.ref sb)])) rfl (by rw [hml]; rfl) (argsL := [(.ref sb), (.int (0 : Int32)), (.ref va), (.int (Int32.ofNat k)), (.int (Int32.ofNat cs.length))]) (rest := []) (lenOf pd___BI_BII_V rfl) rfl (by show 2 * 0 + _ ≤ _; exact Nat.le_of_eq rfl) (dd hy dJ42_147_40) (fun _ _ => ⟨rfl, e5, (by decide : 0 + 0 ≤ _), (by decide : 0 + 0 ≤ _)⟩)
  dsimp only [Pt.U, Pt.locs, Pt.cells, Pt.slots] at X8 l8 y8 z8 st8 hQ8
  subst l8 y8 z8
  obtain ⟨rfl, N8q, K8, Fq8_0⟩ := hQ8
  have N8 := Fr.app N2 N8q
  obtain ⟨h8, e8⟩ : ∃ z, T8.heap = z := ⟨_, rfl⟩
  rw [e8] at K8 Fq8_0
  have z9 : h0.size ≤ h8.size := K8.1
  have lt8_0 : @LT.lt Nat _ va h8.size := Fq8_0.lt
  have s10 : ∀ t_, Steps p.tables e below (T8.setTop (mkF m 43 #[.val (.ref sx), .val (.ref va), .val (.int (Int32.ofNat k)), .val (.int (1 : Int32))] [])) t_ → Steps _ _ _ _ t_ := fun t_ k_ => pre0 t_ (by
    refine XS.aloadN X0.here hx rfl (dd hy dJ42_147_0) rfl rfl ?_
    refine st2.trans ?_
    show Steps _ _ _ (T2.setTop (mkF m 4 #[.val (.ref sx), .val (.ref va), .val (.int (Int32.ofNat k)), .val (.int (1 : Int32))] [(.int (own_cod cs))])) _
    refine XS.iloadN X2.here hx rfl (dd hy dJ42_147_4) rfl ?_
    refine XS.icmpYes X2.here hx rfl (pc0 := 5) (pc' := 28) rfl (dd hy dJ42_147_5) rfl (feq (fun e => absurd ((own_cod0 hlat).symm.trans e) (by decide))).2 (by decide) (by decide) ?_
    show Steps _ _ _ (T2.setTop (mkF m 28 #[.val (.ref sx), .val (.ref va), .val (.int (Int32.ofNat k)), .val (.int (1 : Int32))] [])) _
    refine XS.aloadN X2.here hx rfl (dd hy dJ42_147_28) rfl rfl ?_
    refine st4 _ ?_
    refine XS.iconst X4.here hx rfl (dd hy dJ42_147_32) ?_
    refine XS.aloadN X4.here hx rfl (dd hy dJ42_147_33) rfl rfl ?_
    refine XS.iloadN X4.here hx rfl (dd hy dJ42_147_34) rfl ?_
    refine XS.aloadN X4.here hx rfl (dd hy dJ42_147_35) rfl rfl ?_
    show Steps _ _ _ (T4.setTop (mkF m 36 #[.val (.ref sx), .val (.ref va), .val (.int (Int32.ofNat k)), .val (.int (1 : Int32))] [(.ref sx), (.int (Int32.ofNat k)), (.ref va), (.int (0 : Int32)), (.ref sb)])) _
    refine st5 _ ?_
    refine X5.arraylength hx (by rw [e5]; exact Ar6.1) (State.isArrayOf_alike hZ.alike Ar6.2.1) (g := (mkF m 39 #[.val (.ref sx), .val (.ref va), .val (.int (Int32.ofNat k)), .val (.int (1 : Int32))] [(.ref sb), (.int (Int32.ofNat k)), (.ref va), (.int (0 : Int32)), (.ref sb)])) rfl rfl (dd hy dJ42_147_39) _ ?_
    rw [len_of S6 M6]
    show Steps _ _ _ (T5.setTop (mkF m 40 #[.val (.ref sx), .val (.ref va), .val (.int (Int32.ofNat k)), .val (.int (1 : Int32))] [(.int (Int32.ofNat cs.length)), (.int (Int32.ofNat k)), (.ref va), (.int (0 : Int32)), (.ref sb)])) _
    refine st8 _ ?_
    show Steps _ _ _ (T8.setTop (mkF m 43 #[.val (.ref sx), .val (.ref va), .val (.int (Int32.ofNat k)), .val (.int (1 : Int32))] [])) _
    exact k_)
  obtain ⟨fs, hr, hrun, hended, hW, hsame⟩ := X8.leave (v := none) (fun _ => rfl)
  refine ⟨_, _, s10 _ ?_, hrun, hended, _, _, rfl, ?_, ⟨_, rfl⟩, hW, hsame.mono (by decide) (by decide)⟩
  · exact X8.returnOut hx Bd.returns (dd hy dJ42_147_43) hr
  · show Q_rmGBi Z _ _ _ _ _ _ _ _ _ _ h0 n0 _ T8.heap _
    rw [e8]
    exact ⟨rfl, N8, ((Keep.refl h0 [va]).trans K8 (allS (Or.inl (by simp)) all0)), Fq8_0⟩
theorem dJ68_73_0 : decode CJ68_73 0 = .ok (.aload_n 0, 1) := by decide +kernel
theorem dJ68_73_1 : decode CJ68_73 1 = .ok (.aload_n 2, 1) := by decide +kernel
theorem pd__Ljava_lang_String__V : parseMethodDescriptor "(Ljava/lang/String;)V" = some ⟨[(.object "java/lang/String")], none⟩ := by decide +kernel
theorem dJ68_73_2 : decode CJ68_73 2 = .ok (.invokevirtual 397, 3) := by decide +kernel
theorem dJ68_73_5 : decode CJ68_73 5 = .ok (.aload_n 2, 1) := by decide +kernel
theorem dJ68_73_6 : decode CJ68_73 6 = .ok (.aload_n 0, 1) := by decide +kernel
theorem dJ68_73_7 : decode CJ68_73 7 = .ok (.getfield 15, 3) := by decide +kernel
theorem dJ68_73_10 : decode CJ68_73 10 = .ok (.iload_n 1, 1) := by decide +kernel
theorem dJ68_73_11 : decode CJ68_73 11 = .ok (.aload_n 0, 1) := by decide +kernel
theorem dJ68_73_12 : decode CJ68_73 12 = .ok (.getfield 22, 3) := by decide +kernel
theorem pd___BIB_V : parseMethodDescriptor "([BIB)V" = some ⟨[(.array .byte), .int, .byte], none⟩ := by decide +kernel
theorem dJ68_73_15 : decode CJ68_73 15 = .ok (.invokevirtual 399, 3) := by decide +kernel
theorem dJ68_73_18 : decode CJ68_73 18 = .ok (.return_, 1) := by decide +kernel
theorem ef_rmPsa (m : MethodId) (x0 : Addr) (x1 : Int32) (x2 : Addr) : entryFrame m #[(.ref x0), (.int x1), (.ref x2)] 3 = mkF m 0 #[.val (.ref x0), .val (.int x1), .val (.ref x2)] [] := by first | (simp [entryFrame, mkF, argsToLocals, Value.category]; done) | rfl
abbrev R_rmPsa : Room := ({ frames := 2, cells := 0, slots := 0, locals := 55 } : Room)
def Q_rmPsa (Z : State) (a : Addr) (sx : Addr) (cst : Int32) (sb : Addr) (ks : ClassId) (cs : List Int32) (va : Addr) (kc : ClassId) (xs : List Int32) (k : Nat) (h0 : Heap) (n0 : Nat) (v : Option Value) (h : Heap) (L : List Loc) : Prop := (v = none) ∧ (Fr n0 L) ∧ (Keep h0 h [va]) ∧ (Arv Z h va kc .byte (16 : Int32) ((xs.take k ++ cs.map own_lo ++ xs.drop (k + cs.length)).map Value.int) v0_)
set_option maxRecDepth 65536 in
set_option maxHeartbeats 40000000 in
theorem rmPsa (l : Launch) (Z : State) (a0 : Array Value) (hw : HW Z a0) (ws : List Jvm.Cond) (a : Addr) (sx : Addr) (cst : Int32) (sb : Addr) (ks : ClassId) (cs : List Int32) (va : Addr) (kc : ClassId) (xs : List Int32) (k : Nat) (h0 : Heap) (n0 : Nat) (Z0 : n0 ≤ h0.size) (I1 : Sta Z Z.heap cS cC "Z" (.int cst)) (OX : Old Z n0 h0) (hcst : ¬ (cst = (0 : Int32))) (I2 : Exa Z h0 a cB) (I3 : Fld Z h0 a cA "value" "[B" (.ref va)) (I4 : Fld Z h0 a cA "coder" "B" (.int (0 : Int32))) (I5 : Fld Z h0 a cA "count" "I" (.int (Int32.ofNat k))) (I6 : Fld Z h0 a cA "maybeLatin1" "Z" (.int (0 : Int32))) (I7 : Arv Z h0 va kc .byte (16 : Int32) (xs.map Value.int) v0_) (I8 : Exa Z h0 sx cS) (I9 : Fld Z h0 sx cS "value" "[B" (.ref sb)) (I10 : Fld Z h0 sx cS "coder" "B" (.int (own_cod cs))) (I11 : Arv Z h0 sb ks .byte (Int32.ofNat (own_enl cs)) (own_enc cs) v0_) (hx16 : xs.length = 16) (ga : n0 ≤ a) (gv : n0 ≤ va) (hav : @Ne Nat a va) (hlat : own_lat cs) (hkc : k + cs.length ≤ 16) :
    MF l Z M43_ (Jvm.Cond.code M43_ jdk_68_method_73_code 3 none :: ws) R_rmPsa #[(.ref a), (.int (Int32.ofNat k)), (.ref sx)] h0 (Q_rmPsa Z a sx cst sb ks cs va kc xs k h0 n0) := by
  refine MetFree.of_bodySF (plainFor_of_name pn_java_lang_AbstractStringBuilder) hisR ?_
  intro p e s m args below meth c s₁ Bd hml0 hP hK
  obtain ⟨rfl, hZ, hh⟩ := hP
  have hx := Bd.exec
  have hy := Bd.bytes
  have hml : c.maxLocals = 3 := hml0
  have hown : s.vm.findClass "java/lang/AbstractStringBuilder" = some m.cls := findClass_of_methodNamed Bd.named
  have hnm := (name_of_methodNamed Bd.named Bd.method).1
  have X0 : Stand p l e R_rmPsa s m #[(.ref a), (.int (Int32.ofNat k)), (.ref sx)] below meth c s₁ [] 0 0 := Stand.of_body Bd
  have e0 : s₁.heap = h0 := by rw [← hh, Bd.state]; rfl
  have N0 := Fr.nil n0
  have pre0 := own_pre (p := p) (e := e) (below := below) (T := s₁) (ef_rmPsa m a (Int32.ofNat k) sx)
  have lt_I2 : @LT.lt Nat _ a h0.size := I2.lt
  have lt_I7 : @LT.lt Nat _ va h0.size := I7.lt
  have lt_I8 : @LT.lt Nat _ sx h0.size := I8.lt
  have lt_I11 : @LT.lt Nat _ sb h0.size := I11.lt
  have Zc1 : n0 ≤ h0.size := by omega
  obtain ⟨cq2, kq2, q2a, q2b, q2c⟩ := isOf hZ e0 I2
  obtain ⟨_, _, ⟨T2, L2, k2, n2⟩, -, X2, ⟨Lc2, hQ2, l2, y2, z2⟩, st2⟩ := X0.virtualBack hx (y := M38_) (z := M38_) hown (mvT hZ (own_m hw 116 rfl)) (mvT hZ (own_declares (own_m hw 117 rfl) (own_m hw 120 rfl))) (notFace_of_selects (args := #[]) (mvT hZ (own_m hw 119 rfl))) (mvT hZ (own_m hw 119 rfl)) (mvT hZ (own_m hw 117 rfl)) (by decide) (backOf (W := 0) (rmInf l Z a0 hw [] a sx cst cs h0 n0 Zc1 I1 OX hcst I4 I8 I10 hlat) hZ (own_m hw 120 rfl) (own_m hw 48 rfl) (by decide) (by decide)) q2a q2c (g := (mkF m 2 #[.val (.ref a), .val (.int (Int32.ofNat k)), .val (.ref sx)] [(.ref sx), (.ref a)])) rfl (by rw [hml]; rfl) (Steps.refl _) (argsL := [(.ref sx)]) (rest := []) (lenOf pd__Ljava_lang_String__V rfl) rfl (by show 2 * 0 + _ ≤ _; exact Nat.le_of_eq rfl) (dd hy dJ68_73_2) (fun _ _ => ⟨rfl, e0, (by decide : 0 + 0 ≤ _), (by decide : 0 + 0 ≤ _)⟩)
  dsimp only [Pt.U, Pt.locs, Pt.cells, Pt.slots] at X2 l2 y2 z2 st2 hQ2
  subst l2 y2 z2
  obtain ⟨rfl, N2q, e2⟩ := hQ2
  have N2 := Fr.app N0 N2q
  obtain ⟨T3, X3, e3, st3⟩ := getF X2 hx hZ hown (host := "") (Or.inl (own_m hw 52 rfl)) Via.refl e2 I3 (g := (mkF m 7 #[.val (.ref a), .val (.int (Int32.ofNat k)), .val (.ref sx)] [(.ref a), (.ref sx)])) rfl rfl (dd hy dJ68_73_7)
  obtain ⟨T4, X4, e4, st4⟩ := getF X3 hx hZ hown (host := "") (Or.inl (own_m hw 54 rfl)) Via.refl e3 I4 (g := (mkF m 12 #[.val (.ref a), .val (.int (Int32.ofNat k)), .val (.ref sx)] [(.ref a), (.int (Int32.ofNat k)), (.ref va), (.ref sx)])) rfl rfl (dd hy dJ68_73_12)
  have Zc5 : n0 ≤ h0.size := by omega
  obtain ⟨cq6, kq6, q6a, q6b, q6c⟩ := isOf hZ e4 I8
  obtain ⟨_, _, ⟨T6, L6, k6, n6⟩, -, X6, ⟨Lc6, hQ6, l6, y6, z6⟩, st6⟩ := X4.virtualBack hx (y := M42_) (z := M42_) hown (mvT hZ (own_m hw 122 rfl)) (mvT hZ (own_m hw 123 rfl)) (notFace_of_selects (args := #[]) (mvT hZ (own_m hw 125 rfl))) (mvT hZ (own_m hw 125 rfl)) (mvT hZ (own_m hw 124 rfl)) (by decide) (backOf (W := 0) (rmGB l Z a0 hw [] sx va cst sb ks cs kc xs k h0 n0 Zc5 I1 OX hcst I8 I9 I10 I11 I7 hx16 gv hlat hkc) hZ (own_m hw 126 rfl) (own_m hw 7 rfl) (by decide) (by decide)) q6a q6c (g := (mkF m 15 #[.val (.ref a), .val (.int (Int32.ofNat k)), .val (.ref sx)] [(.int (0 : Int32)), (.int (Int32.ofNat k)), (.ref va), (.ref sx)])) rfl (by rw [hml]; rfl) (Steps.refl _) (argsL := [(.ref va), (.int (Int32.ofNat k)), (.int (0 : Int32))]) (rest := []) (lenOf pd___BIB_V rfl) rfl (by show 2 * 0 + _ ≤ _; exact Nat.le_of_eq rfl) (dd hy dJ68_73_15) (fun _ _ => ⟨rfl, e4, (by decide : 0 + 0 ≤ _), (by decide : 0 + 0 ≤ _)⟩)
  dsimp only [Pt.U, Pt.locs, Pt.cells, Pt.slots] at X6 l6 y6 z6 st6 hQ6
  subst l6 y6 z6
  obtain ⟨rfl, N6q, K6, Fq6_0⟩ := hQ6
  have N6 := Fr.app N2 N6q
  obtain ⟨h6, e6⟩ : ∃ z, T6.heap = z := ⟨_, rfl⟩
  rw [e6] at K6 Fq6_0
  have z7 : h0.size ≤ h6.size := K6.1
  have lt6_0 : @LT.lt Nat _ va h6.size := Fq6_0.lt
  have s8 : ∀ t_, Steps p.tables e below (T6.setTop (mkF m 18 #[.val (.ref a), .val (.int (Int32.ofNat k)), .val (.ref sx)] [])) t_ → Steps _ _ _ _ t_ := fun t_ k_ => pre0 t_ (by
    refine XS.aloadN X0.here hx rfl (dd hy dJ68_73_0) rfl rfl ?_
    refine XS.aloadN X0.here hx rfl (dd hy dJ68_73_1) rfl rfl ?_
    refine st2.trans ?_
    show Steps _ _ _ (T2.setTop (mkF m 5 #[.val (.ref a), .val (.int (Int32.ofNat k)), .val (.ref sx)] [])) _
    refine XS.aloadN X2.here hx rfl (dd hy dJ68_73_5) rfl rfl ?_
    refine XS.aloadN X2.here hx rfl (dd hy dJ68_73_6) rfl rfl ?_
    refine st3 _ ?_
    refine XS.iloadN X3.here hx rfl (dd hy dJ68_73_10) rfl ?_
    refine XS.aloadN X3.here hx rfl (dd hy dJ68_73_11) rfl rfl ?_
    refine st4 _ ?_
    show Steps _ _ _ (T4.setTop (mkF m 15 #[.val (.ref a), .val (.int (Int32.ofNat k)), .val (.ref sx)] [(.int (0 : Int32)), (.int (Int32.ofNat k)), (.ref va), (.ref sx)])) _
    refine st6.trans ?_
    show Steps _ _ _ (T6.setTop (mkF m 18 #[.val (.ref a), .val (.int (Int32.ofNat k)), .val (.ref sx)] [])) _
    exact k_)
  obtain ⟨fs, hr, hrun, hended, hW, hsame⟩ := X6.leave (v := none) (fun _ => rfl)
  refine ⟨_, _, s8 _ ?_, hrun, hended, _, _, rfl, ?_, ⟨_, rfl⟩, hW, hsame.mono (by decide) (by decide)⟩
  · exact X6.returnOut hx Bd.returns (dd hy dJ68_73_18) hr
  · show Q_rmPsa Z _ _ _ _ _ _ _ _ _ _ h0 n0 _ T6.heap _
    rw [e6]
    exact ⟨rfl, N6, ((Keep.refl h0 [va]).trans K6 (allS (Or.inl (by simp)) all0)), Fq6_0⟩
theorem dJ68_22_0 : decode CJ68_22 0 = .ok (.aload_n 1, 1) := by decide +kernel
theorem dJ68_22_1 : decode CJ68_22 1 = .ok (.ifnonnull 8, 3) := by decide +kernel
theorem dJ68_22_9 : decode CJ68_22 9 = .ok (.aload_n 1, 1) := by decide +kernel
theorem dJ68_22_10 : decode CJ68_22 10 = .ok (.invokevirtual 32, 3) := by decide +kernel
theorem dJ68_22_13 : decode CJ68_22 13 = .ok (.istore_n 2, 1) := by decide +kernel
theorem dJ68_22_14 : decode CJ68_22 14 = .ok (.aload_n 0, 1) := by decide +kernel
theorem dJ68_22_15 : decode CJ68_22 15 = .ok (.aload_n 0, 1) := by decide +kernel
theorem dJ68_22_16 : decode CJ68_22 16 = .ok (.getfield 79, 3) := by decide +kernel
theorem dJ68_22_19 : decode CJ68_22 19 = .ok (.iload_n 2, 1) := by decide +kernel
theorem dJ68_22_20 : decode CJ68_22 20 = .ok (.iadd, 1) := by decide +kernel
theorem dJ68_22_21 : decode CJ68_22 21 = .ok (.invokevirtual 100, 3) := by decide +kernel
theorem dJ68_22_24 : decode CJ68_22 24 = .ok (.aload_n 0, 1) := by decide +kernel
theorem dJ68_22_25 : decode CJ68_22 25 = .ok (.aload_n 0, 1) := by decide +kernel
theorem dJ68_22_26 : decode CJ68_22 26 = .ok (.getfield 79, 3) := by decide +kernel
theorem dJ68_22_29 : decode CJ68_22 29 = .ok (.aload_n 1, 1) := by decide +kernel
theorem pd__ILjava_lang_String__V : parseMethodDescriptor "(ILjava/lang/String;)V" = some ⟨[.int, (.object "java/lang/String")], none⟩ := by decide +kernel
theorem dJ68_22_30 : decode CJ68_22 30 = .ok (.invokevirtual 208, 3) := by decide +kernel
theorem dJ68_22_33 : decode CJ68_22 33 = .ok (.aload_n 0, 1) := by decide +kernel
theorem dJ68_22_34 : decode CJ68_22 34 = .ok (.dup, 1) := by decide +kernel
theorem dJ68_22_35 : decode CJ68_22 35 = .ok (.getfield 79, 3) := by decide +kernel
theorem dJ68_22_38 : decode CJ68_22 38 = .ok (.iload_n 2, 1) := by decide +kernel
theorem dJ68_22_39 : decode CJ68_22 39 = .ok (.iadd, 1) := by decide +kernel
theorem dJ68_22_40 : decode CJ68_22 40 = .ok (.putfield 79, 3) := by decide +kernel
theorem dJ68_22_43 : decode CJ68_22 43 = .ok (.aload_n 0, 1) := by decide +kernel
theorem dJ68_22_44 : decode CJ68_22 44 = .ok (.areturn, 1) := by decide +kernel
theorem ef_rmAApp (m : MethodId) (x0 : Addr) (x1 : Addr) : entryFrame m #[(.ref x0), (.ref x1)] 3 = mkF m 0 #[.val (.ref x0), .val (.ref x1), .unset] [] := by first | (simp [entryFrame, mkF, argsToLocals, Value.category]; done) | rfl
abbrev R_rmAApp : Room := ({ frames := 3, cells := 0, slots := 0, locals := 69 } : Room)
def Q_rmAApp (Z : State) (a : Addr) (sx : Addr) (cst : Int32) (sb : Addr) (ks : ClassId) (cs : List Int32) (va : Addr) (kc : ClassId) (xs : List Int32) (k : Nat) (h0 : Heap) (n0 : Nat) (v : Option Value) (h : Heap) (L : List Loc) : Prop := (v = some (.ref a)) ∧ (Fr n0 L) ∧ (Keep h0 h [a, va]) ∧ (Exa Z h a cB) ∧ (Fld Z h a cA "value" "[B" (.ref va)) ∧ (Fld Z h a cA "coder" "B" (.int (0 : Int32))) ∧ (Fld Z h a cA "count" "I" (.int (Int32.ofNat (k + cs.length)))) ∧ (Fld Z h a cA "maybeLatin1" "Z" (.int (0 : Int32))) ∧ (Arv Z h va kc .byte (16 : Int32) ((xs.take k ++ cs.map own_lo ++ xs.drop (k + cs.length)).map Value.int) v0_)
set_option maxRecDepth 65536 in
set_option maxHeartbeats 40000000 in
theorem rmAApp (l : Launch) (Z : State) (a0 : Array Value) (hw : HW Z a0) (ws : List Jvm.Cond) (a : Addr) (sx : Addr) (cst : Int32) (sb : Addr) (ks : ClassId) (cs : List Int32) (va : Addr) (kc : ClassId) (xs : List Int32) (k : Nat) (h0 : Heap) (n0 : Nat) (Z0 : n0 ≤ h0.size) (I1 : Sta Z Z.heap cS cC "Z" (.int cst)) (OX : Old Z n0 h0) (hcst : ¬ (cst = (0 : Int32))) (I2 : Exa Z h0 a cB) (I3 : Fld Z h0 a cA "value" "[B" (.ref va)) (I4 : Fld Z h0 a cA "coder" "B" (.int (0 : Int32))) (I5 : Fld Z h0 a cA "count" "I" (.int (Int32.ofNat k))) (I6 : Fld Z h0 a cA "maybeLatin1" "Z" (.int (0 : Int32))) (I7 : Arv Z h0 va kc .byte (16 : Int32) (xs.map Value.int) v0_) (I8 : Exa Z h0 sx cS) (I9 : Fld Z h0 sx cS "value" "[B" (.ref sb)) (I10 : Fld Z h0 sx cS "coder" "B" (.int (own_cod cs))) (I11 : Arv Z h0 sb ks .byte (Int32.ofNat (own_enl cs)) (own_enc cs) v0_) (hx16 : xs.length = 16) (ga : n0 ≤ a) (gv : n0 ≤ va) (hav : @Ne Nat a va) (hlat : own_lat cs) (hkc : k + cs.length ≤ 16) :
    MF l Z M44_ (Jvm.Cond.code M44_ jdk_68_method_22_code 3 (some (.object "java/lang/AbstractStringBuilder")) :: ws) R_rmAApp #[(.ref a), (.ref sx)] h0 (Q_rmAApp Z a sx cst sb ks cs va kc xs k h0 n0) := by
  refine MetFree.of_bodySF (plainFor_of_name pn_java_lang_AbstractStringBuilder) hisR ?_
  intro p e s m args below meth c s₁ Bd hml0 hP hK
  obtain ⟨rfl, hZ, hh⟩ := hP
  have hx := Bd.exec
  have hy := Bd.bytes
  have hml : c.maxLocals = 3 := hml0
  have hown : s.vm.findClass "java/lang/AbstractStringBuilder" = some m.cls := findClass_of_methodNamed Bd.named
  have hnm := (name_of_methodNamed Bd.named Bd.method).1
  have X0 : Stand p l e R_rmAApp s m #[(.ref a), (.ref sx)] below meth c s₁ [] 0 0 := Stand.of_body Bd
  have e0 : s₁.heap = h0 := by rw [← hh, Bd.state]; rfl
  have N0 := Fr.nil n0
  have pre0 := own_pre (p := p) (e := e) (below := below) (T := s₁) (ef_rmAApp m a sx)
  have lt_I2 : @LT.lt Nat _ a h0.size := I2.lt
  have lt_I7 : @LT.lt Nat _ va h0.size := I7.lt
  have lt_I8 : @LT.lt Nat _ sx h0.size := I8.lt
  have lt_I11 : @LT.lt Nat _ sb h0.size := I11.lt
  have Zc1 : n0 ≤ h0.size := by omega
  obtain ⟨cq2, kq2, q2a, q2b, q2c⟩ := isOf hZ e0 I8
  obtain ⟨_, _, ⟨T2, L2, k2, n2⟩, -, X2, ⟨Lc2, hQ2, l2, y2, z2⟩, st2⟩ := X0.virtualBack hx (y := M11_) (z := M11_) hown (mvT hZ (own_m hw 103 rfl)) (mvT hZ (own_m hw 57 rfl)) (notFace_of_selects (args := #[]) (mvT hZ (own_m hw 59 rfl))) (mvT hZ (own_m hw 59 rfl)) (mvT hZ (own_m hw 58 rfl)) (by decide) (backOf (W := 0) (rmLen l Z a0 hw [] sx cst sb ks cs h0 n0 Zc1 I1 OX hcst I8 I9 I10 I11 (by omega)) hZ (own_m hw 60 rfl) (own_m hw 7 rfl) (by decide) (by decide)) q2a q2c (g := (mkF m 10 #[.val (.ref a), .val (.ref sx), .unset] [(.ref sx)])) rfl (by rw [hml]; rfl) (Steps.refl _) (argsL := []) (rest := []) (lenOf pd___I rfl) rfl (by show 2 * 0 + _ ≤ _; exact Nat.le_of_eq rfl) (dd hy dJ68_22_10) (fun _ _ => ⟨rfl, e0, (by decide : 0 + 0 ≤ _), (by decide : 0 + 0 ≤ _)⟩)
  dsimp only [Pt.U, Pt.locs, Pt.cells, Pt.slots] at X2 l2 y2 z2 st2 hQ2
  subst l2 y2 z2
  obtain ⟨rfl, N2q, e2⟩ := hQ2
  have N2 := Fr.app N0 N2q
  obtain ⟨T3, X3, e3, st3⟩ := getF X2 hx hZ hown (host := "") (Or.inl (own_m hw 104 rfl)) Via.refl e2 I5 (g := (mkF m 16 #[.val (.ref a), .val (.ref sx), .val (.int (Int32.ofNat cs.length))] [(.ref a), (.ref a)])) rfl rfl (dd hy dJ68_22_16)
  have Zc4 : n0 ≤ h0.size := by omega
  obtain ⟨cq5, kq5, q5a, q5b, q5c⟩ := isOf hZ e3 I2
  obtain ⟨_, _, ⟨T5, L5, k5, n5⟩, -, X5, ⟨Lc5, hQ5, l5, y5, z5⟩, st5⟩ := X3.virtualBack hx (y := M34_) (z := M34_) hown (mvT hZ (own_m hw 106 rfl)) (mvT hZ (own_declares (own_m hw 107 rfl) (own_m hw 110 rfl))) (notFace_of_selects (args := #[]) (mvT hZ (own_m hw 109 rfl))) (mvT hZ (own_m hw 109 rfl)) (mvT hZ (own_m hw 107 rfl)) (by decide) (backOf (W := 0) (rmEns l Z a0 hw [] a va kc xs (k + cs.length) h0 n0 Zc4 I3 I4 I7 (by first | assumption | omega | rfl | decide)) hZ (own_m hw 110 rfl) (own_m hw 48 rfl) (by decide) (by decide)) q5a q5c (g := (mkF m 21 #[.val (.ref a), .val (.ref sx), .val (.int (Int32.ofNat cs.length))] [(.int (Int32.ofNat (k + cs.length))), (.ref a)])) rfl (by rw [hml]; rfl) (Steps.refl _) (argsL := [(.int (Int32.ofNat (k + cs.length)))]) (rest := []) (lenOf pd__I_V rfl) rfl (by show 2 * 0 + _ ≤ _; exact Nat.le_of_eq rfl) (dd hy dJ68_22_21) (fun _ _ => ⟨rfl, e3, (by decide : 0 + 0 ≤ _), (by decide : 0 + 0 ≤ _)⟩)
  dsimp only [Pt.U, Pt.locs, Pt.cells, Pt.slots] at X5 l5 y5 z5 st5 hQ5
  subst l5 y5 z5
  obtain ⟨rfl, N5q, e5⟩ := hQ5
  have N5 := Fr.app N2 N5q
  obtain ⟨T6, X6, e6, st6⟩ := getF X5 hx hZ hown (host := "") (Or.inl (own_m hw 104 rfl)) Via.refl e5 I5 (g := (mkF m 26 #[.val (.ref a), .val (.ref sx), .val (.int (Int32.ofNat cs.length))] [(.ref a), (.ref a)])) rfl rfl (dd hy dJ68_22_26)
  have Zc7 : n0 ≤ h0.size := by omega
  obtain ⟨cq8, kq8, q8a, q8b, q8c⟩ := isOf hZ e6 I2
  obtain ⟨_, _, ⟨T8, L8, k8, n8⟩, -, X8, ⟨Lc8, hQ8, l8, y8, z8⟩, st8⟩ := X6.virtualBack hx (y := M43_) (z := M43_) hown (mvT hZ (own_m hw 111 rfl)) (mvT hZ (own_declares (own_m hw 112 rfl) (own_m hw 115 rfl))) (notFace_of_selects (args := #[]) (mvT hZ (own_m hw 114 rfl))) (mvT hZ (own_m hw 114 rfl)) (mvT hZ (own_m hw 112 rfl)) (by decide) (backOf (W := 0) (rmPsa l Z a0 hw [] a sx cst sb ks cs va kc xs k h0 n0 Zc7 I1 OX hcst I2 I3 I4 I5 I6 I7 I8 I9 I10 I11 hx16 ga gv hav hlat hkc) hZ (own_m hw 115 rfl) (own_m hw 48 rfl) (by decide) (by decide)) q8a q8c (g := (mkF m 30 #[.val (.ref a), .val (.ref sx), .val (.int (Int32.ofNat cs.length))] [(.ref sx), (.int (Int32.ofNat k)), (.ref a)])) rfl (by rw [hml]; rfl) (Steps.refl _) (argsL := [(.int (Int32.ofNat k)), (.ref sx)]) (rest := []) (lenOf pd__ILjava_lang_String__V rfl) rfl (by show 2 * 0 + _ ≤ _; exact Nat.le_of_eq rfl) (dd hy dJ68_22_30) (fun _ _ => ⟨rfl, e6, (by decide : 0 + 0 ≤ _), (by decide : 0 + 0 ≤ _)⟩)
  dsimp only [Pt.U, Pt.locs, Pt.cells, Pt.slots] at X8 l8 y8 z8 st8 hQ8
  subst l8 y8 z8
  obtain ⟨rfl, N8q, K8, Fq8_0⟩ := hQ8
  have N8 := Fr.app N5 N8q
  obtain ⟨h8, e8⟩ : ∃ z, T8.heap = z := ⟨_, rfl⟩
  rw [e8] at K8 Fq8_0
  have z9 : h0.size ≤ h8.size := K8.1
  have lt8_0 : @LT.lt Nat _ va h8.size := Fq8_0.lt
  have f10 : Fld Z h8 a cA "count" "I" (.int (Int32.ofNat k)) := (I5.keep K8 (ninS (show @Ne Nat a va by omega) nin0))
  obtain ⟨T11, X11, e11, st11⟩ := getF X8 hx hZ hown (host := "") (Or.inl (own_m hw 104 rfl)) Via.refl e8 f10 (g := (mkF m 35 #[.val (.ref a), .val (.ref sx), .val (.int (Int32.ofNat cs.length))] [(.ref a), (.ref a)])) rfl rfl (dd hy dJ68_22_35)
  have f12 : Exa Z h8 a cB := (I2.keep K8)
  obtain ⟨T13, h13, X13, e13, W13, st13⟩ := putF X11 hx hZ hown (host := "") (Or.inl (own_m hw 104 rfl)) Via.refl e11 f10 f12 (Or.inl (own_m hw 105 rfl)) (own_m hw 39 rfl) (ty := .int) (by decide) rfl rfl (g := (mkF m 40 #[.val (.ref a), .val (.ref sx), .val (.int (Int32.ofNat cs.length))] [(.int (Int32.ofNat (k + cs.length))), (.ref a)])) rfl rfl (dd hy dJ68_22_40)
  have z14 : h8.size ≤ h13.size := Nat.le_of_eq W13.size.symm
  have F13 : Fld Z h13 a cA "count" "I" (.int (Int32.ofNat (k + cs.length))) := f10.same W13
  have N13 := Fr.snoc X13 N8 (show n0 ≤ a by omega)
  have s15 : ∀ t_, Steps p.tables e below (T13.setTop (mkF m 44 #[.val (.ref a), .val (.ref sx), .val (.int (Int32.ofNat cs.length))] [(.ref a)])) t_ → Steps _ _ _ _ t_ := fun t_ k_ => pre0 t_ (by
    refine XS.aloadN X0.here hx rfl (dd hy dJ68_22_0) rfl rfl ?_
    refine XS.ifnonnullYes X0.here hx rfl (pc0 := 1) (pc' := 9) rfl (dd hy dJ68_22_1) rfl (by decide) (by decide) ?_
    show Steps _ _ _ (s₁.setTop (mkF m 9 #[.val (.ref a), .val (.ref sx), .unset] [])) _
    refine XS.aloadN X0.here hx rfl (dd hy dJ68_22_9) rfl rfl ?_
    refine st2.trans ?_
    show Steps _ _ _ (T2.setTop (mkF m 13 #[.val (.ref a), .val (.ref sx), .unset] [(.int (Int32.ofNat cs.length))])) _
    refine XS.istoreN X2.here hx rfl (dd hy dJ68_22_13) rfl (l' := #[.val (.ref a), .val (.ref sx), .val (.int (Int32.ofNat cs.length))]) rfl ?_
    refine XS.aloadN X2.here hx rfl (dd hy dJ68_22_14) rfl rfl ?_
    refine XS.aloadN X2.here hx rfl (dd hy dJ68_22_15) rfl rfl ?_
    refine st3 _ ?_
    refine XS.iloadN X3.here hx rfl (dd hy dJ68_22_19) rfl ?_
    refine XS.iadd X3.here hx rfl (dd hy dJ68_22_20) rfl ?_
    show Steps _ _ _ (T3.setTop (mkF m 21 #[.val (.ref a), .val (.ref sx), .val (.int (Int32.ofNat cs.length))] [(.int ((Int32.ofNat k) + (Int32.ofNat cs.length))), (.ref a)])) _
    refine castTop (g' := (mkF m 21 #[.val (.ref a), .val (.ref sx), .val (.int (Int32.ofNat cs.length))] [(.int (Int32.ofNat (k + cs.length))), (.ref a)])) (by rw [own_addn]) ?_
    show Steps _ _ _ (T3.setTop (mkF m 21 #[.val (.ref a), .val (.ref sx), .val (.int (Int32.ofNat cs.length))] [(.int (Int32.ofNat (k + cs.length))), (.ref a)])) _
    refine st5.trans ?_
    show Steps _ _ _ (T5.setTop (mkF m 24 #[.val (.ref a), .val (.ref sx), .val (.int (Int32.ofNat cs.length))] [])) _
    refine XS.aloadN X5.here hx rfl (dd hy dJ68_22_24) rfl rfl ?_
    refine XS.aloadN X5.here hx rfl (dd hy dJ68_22_25) rfl rfl ?_
    refine st6 _ ?_
    refine XS.aloadN X6.here hx rfl (dd hy dJ68_22_29) rfl rfl ?_
    refine st8.trans ?_
    show Steps _ _ _ (T8.setTop (mkF m 33 #[.val (.ref a), .val (.ref sx), .val (.int (Int32.ofNat cs.length))] [])) _
    refine XS.aloadN X8.here hx rfl (dd hy dJ68_22_33) rfl rfl ?_
    refine XS.dup X8.here hx rfl (dd hy dJ68_22_34) rfl rfl ?_
    refine st11 _ ?_
    refine XS.iloadN X11.here hx rfl (dd hy dJ68_22_38) rfl ?_
    refine XS.iadd X11.here hx rfl (dd hy dJ68_22_39) rfl ?_
    show Steps _ _ _ (T11.setTop (mkF m 40 #[.val (.ref a), .val (.ref sx), .val (.int (Int32.ofNat cs.length))] [(.int ((Int32.ofNat k) + (Int32.ofNat cs.length))), (.ref a)])) _
    refine castTop (g' := (mkF m 40 #[.val (.ref a), .val (.ref sx), .val (.int (Int32.ofNat cs.length))] [(.int (Int32.ofNat (k + cs.length))), (.ref a)])) (by rw [own_addn]) ?_
    show Steps _ _ _ (T11.setTop (mkF m 40 #[.val (.ref a), .val (.ref sx), .val (.int (Int32.ofNat cs.length))] [(.int (Int32.ofNat (k + cs.length))), (.ref a)])) _
    refine st13 _ ?_
    refine XS.aloadN X13.here hx rfl (dd hy dJ68_22_43) rfl rfl ?_
    exact k_)
  obtain ⟨fs, hr, hrun, hended, hW, hsame⟩ := X13.leave (v := some (.ref a)) (fun h => by rw [Bd.returns] at h; cases h)
  have f16 : Exa Z h13 a cB := (f12.wr W13)
  have f17 : Fld Z h13 a cA "value" "[B" (.ref va) := ((I3.keep K8 (ninS (show @Ne Nat a va by omega) nin0)).other W13 (Or.inr (slot_ne (Or.inl (own_m hw 53 rfl)) (Or.inl (own_m hw 105 rfl)) (by decide) (t := (.array .byte)) (t' := .int) (by decide) (by decide))))
  have f18 : Fld Z h13 a cA "coder" "B" (.int (0 : Int32)) := ((I4.keep K8 (ninS (show @Ne Nat a va by omega) nin0)).other W13 (Or.inr (slot_ne (Or.inl (own_m hw 55 rfl)) (Or.inl (own_m hw 105 rfl)) (by decide) (t := .byte) (t' := .int) (by decide) (by decide))))
  have f19 : Fld Z h13 a cA "maybeLatin1" "Z" (.int (0 : Int32)) := ((I6.keep K8 (ninS (show @Ne Nat a va by omega) nin0)).other W13 (Or.inr (slot_ne (Or.inl (own_m hw 251 rfl)) (Or.inl (own_m hw 105 rfl)) (by decide) (t := .boolean) (t' := .int) (by decide) (by decide))))
  have f20 : Arv Z h13 va kc .byte (16 : Int32) ((xs.take k ++ cs.map own_lo ++ xs.drop (k + cs.length)).map Value.int) v0_ := (Fq8_0.other W13 (show @Ne Nat va a by omega))
  refine ⟨_, _, s15 _ ?_, hrun, hended, _, _, rfl, ?_, ⟨_, rfl⟩, hW, hsame.mono (by decide) (by decide)⟩
  · jvm_step X13.here [X13.here.top, hx, (dd hy dJ68_22_44), X13.method', Bd.returns, Value.isRef, FieldType.isReference]
    first | (intro acts; rw [hr _ acts rfl rfl rfl]) | rw [hr _ _ rfl rfl rfl]
    exact Steps.refl _
  · show Q_rmAApp Z _ _ _ _ _ _ _ _ _ _ h0 n0 _ T13.heap _
    rw [e13]
    exact ⟨rfl, N13, (((Keep.refl h0 [a, va]).trans K8 (allS (Or.inl (by simp)) all0)).wr W13 (Or.inl (by simp))), f16, f17, f18, F13, f19, f20⟩
theorem dJ67_7_0 : decode CJ67_7 0 = .ok (.aload_n 0, 1) := by decide +kernel
theorem dJ67_7_1 : decode CJ67_7 1 = .ok (.aload_n 1, 1) := by decide +kernel
theorem pd__Ljava_lang_String__Ljava_lang_AbstractStringBuilder_ : parseMethodDescriptor "(Ljava/lang/String;)Ljava/lang/AbstractStringBuilder;" = some ⟨[(.object "java/lang/String")], some (.object "java/lang/AbstractStringBuilder")⟩ := by decide +kernel
theorem dJ67_7_2 : decode CJ67_7 2 = .ok (.invokespecial 29, 3) := by decide +kernel
theorem dJ67_7_5 : decode CJ67_7 5 = .ok (.pop, 1) := by decide +kernel
theorem dJ67_7_6 : decode CJ67_7 6 = .ok (.aload_n 0, 1) := by decide +kernel
theorem dJ67_7_7 : decode CJ67_7 7 = .ok (.areturn, 1) := by decide +kernel
theorem ef_rmSApp (m : MethodId) (x0 : Addr) (x1 : Addr) : entryFrame m #[(.ref x0), (.ref x1)] 2 = mkF m 0 #[.val (.ref x0), .val (.ref x1)] [] := by first | (simp [entryFrame, mkF, argsToLocals, Value.category]; done) | rfl
abbrev R_rmSApp : Room := ({ frames := 4, cells := 0, slots := 0, locals := 83 } : Room)
def Q_rmSApp (Z : State) (a : Addr) (sx : Addr) (cst : Int32) (sb : Addr) (ks : ClassId) (cs : List Int32) (va : Addr) (kc : ClassId) (xs : List Int32) (k : Nat) (h0 : Heap) (n0 : Nat) (v : Option Value) (h : Heap) (L : List Loc) : Prop := (v = some (.ref a)) ∧ (Fr n0 L) ∧ (Keep h0 h [a, va]) ∧ (Exa Z h a cB) ∧ (Fld Z h a cA "value" "[B" (.ref va)) ∧ (Fld Z h a cA "coder" "B" (.int (0 : Int32))) ∧ (Fld Z h a cA "count" "I" (.int (Int32.ofNat (k + cs.length)))) ∧ (Fld Z h a cA "maybeLatin1" "Z" (.int (0 : Int32))) ∧ (Arv Z h va kc .byte (16 : Int32) ((xs.take k ++ cs.map own_lo ++ xs.drop (k + cs.length)).map Value.int) v0_)
set_option maxRecDepth 65536 in
set_option maxHeartbeats 40000000 in
theorem rmSApp (l : Launch) (Z : State) (a0 : Array Value) (hw : HW Z a0) (ws : List Jvm.Cond) (a : Addr) (sx : Addr) (cst : Int32) (sb : Addr) (ks : ClassId) (cs : List Int32) (va : Addr) (kc : ClassId) (xs : List Int32) (k : Nat) (h0 : Heap) (n0 : Nat) (Z0 : n0 ≤ h0.size) (I1 : Sta Z Z.heap cS cC "Z" (.int cst)) (OX : Old Z n0 h0) (hcst : ¬ (cst = (0 : Int32))) (I2 : Exa Z h0 a cB) (I3 : Fld Z h0 a cA "value" "[B" (.ref va)) (I4 : Fld Z h0 a cA "coder" "B" (.int (0 : Int32))) (I5 : Fld Z h0 a cA "count" "I" (.int (Int32.ofNat k))) (I6 : Fld Z h0 a cA "maybeLatin1" "Z" (.int (0 : Int32))) (I7 : Arv Z h0 va kc .byte (16 : Int32) (xs.map Value.int) v0_) (I8 : Exa Z h0 sx cS) (I9 : Fld Z h0 sx cS "value" "[B" (.ref sb)) (I10 : Fld Z h0 sx cS "coder" "B" (.int (own_cod cs))) (I11 : Arv Z h0 sb ks .byte (Int32.ofNat (own_enl cs)) (own_enc cs) v0_) (hx16 : xs.length = 16) (ga : n0 ≤ a) (gv : n0 ≤ va) (hav : @Ne Nat a va) (hlat : own_lat cs) (hkc : k + cs.length ≤ 16) :
    MF l Z M45_ (Jvm.Cond.code M45_ jdk_67_method_7_code 2 (some (.object "java/lang/StringBuilder")) :: ws) R_rmSApp #[(.ref a), (.ref sx)] h0 (Q_rmSApp Z a sx cst sb ks cs va kc xs k h0 n0) := by
  refine MetFree.of_bodySF (plainFor_of_name pn_java_lang_StringBuilder) hisR ?_
  intro p e s m args below meth c s₁ Bd hml0 hP hK
  obtain ⟨rfl, hZ, hh⟩ := hP
  have hx := Bd.exec
  have hy := Bd.bytes
  have hml : c.maxLocals = 2 := hml0
  have hown : s.vm.findClass "java/lang/StringBuilder" = some m.cls := findClass_of_methodNamed Bd.named
  have hnm := (name_of_methodNamed Bd.named Bd.method).1
  have X0 : Stand p l e R_rmSApp s m #[(.ref a), (.ref sx)] below meth c s₁ [] 0 0 := Stand.of_body Bd
  have e0 : s₁.heap = h0 := by rw [← hh, Bd.state]; rfl
  have N0 := Fr.nil n0
  have pre0 := own_pre (p := p) (e := e) (below := below) (T := s₁) (ef_rmSApp m a sx)
  have lt_I2 : @LT.lt Nat _ a h0.size := I2.lt
  have lt_I7 : @LT.lt Nat _ va h0.size := I7.lt
  have lt_I8 : @LT.lt Nat _ sx h0.size := I8.lt
  have lt_I11 : @LT.lt Nat _ sb h0.size := I11.lt
  have Zc1 : n0 ≤ h0.size := by omega
  obtain ⟨_, _, ⟨T2, L2, k2, n2⟩, -, X2, ⟨Lc2, hQ2, l2, y2, z2⟩, st2⟩ := superBack X0 hx hZ (y := M44_) hown (own_m hw 98 rfl) (own_same (own_m hw 99 rfl) (own_nf (y := M44_) (z := M34_) rfl (own_m hw 109 rfl)) (by decide)) (own_m hw 99 rfl) (own_m hw 100 rfl) (by decide) (backOf (W := 0) (rmAApp l Z a0 hw [] a sx cst sb ks cs va kc xs k h0 n0 Zc1 I1 OX hcst I2 I3 I4 I5 I6 I7 I8 I9 I10 I11 hx16 ga gv hav hlat hkc) hZ (own_m hw 102 rfl) (own_m hw 48 rfl) (by decide) (by decide)) e0 (Ins.self I2) (g := (mkF m 2 #[.val (.ref a), .val (.ref sx)] [(.ref sx), (.ref a)])) rfl (by rw [hml]; rfl) (own_m hw 102 rfl) (argsL := [(.ref sx)]) (rest := []) (lenOf pd__Ljava_lang_String__Ljava_lang_AbstractStringBuilder_ rfl) rfl (by show 2 * 0 + _ ≤ _; exact Nat.le_of_eq rfl) (dd hy dJ67_7_2) (fun _ _ => ⟨rfl, e0, (by decide : 0 + 0 ≤ _), (by decide : 0 + 0 ≤ _)⟩)
  dsimp only [Pt.U, Pt.locs, Pt.cells, Pt.slots] at X2 l2 y2 z2 st2 hQ2
  subst l2 y2 z2
  obtain ⟨rfl, N2q, K2, Fq2_0, Fq2_1, Fq2_2, Fq2_3, Fq2_4, Fq2_5⟩ := hQ2
  have N2 := Fr.app N0 N2q
  obtain ⟨h2, e2⟩ : ∃ z, T2.heap = z := ⟨_, rfl⟩
  rw [e2] at K2 Fq2_0 Fq2_1 Fq2_2 Fq2_3 Fq2_4 Fq2_5
  have z3 : h0.size ≤ h2.size := K2.1
  have lt2_0 : @LT.lt Nat _ a h2.size := Fq2_0.lt
  have lt2_5 : @LT.lt Nat _ va h2.size := Fq2_5.lt
  have s4 : ∀ t_, Steps p.tables e below (T2.setTop (mkF m 7 #[.val (.ref a), .val (.ref sx)] [(.ref a)])) t_ → Steps _ _ _ _ t_ := fun t_ k_ => pre0 t_ (by
    refine XS.aloadN X0.here hx rfl (dd hy dJ67_7_0) rfl rfl ?_
    refine XS.aloadN X0.here hx rfl (dd hy dJ67_7_1) rfl rfl ?_
    refine st2.trans ?_
    show Steps _ _ _ (T2.setTop (mkF m 5 #[.val (.ref a), .val (.ref sx)] [(.ref a)])) _
    refine XS.pop X2.here hx rfl (dd hy dJ67_7_5) rfl rfl ?_
    refine XS.aloadN X2.here hx rfl (dd hy dJ67_7_6) rfl rfl ?_
    exact k_)
  obtain ⟨fs, hr, hrun, hended, hW, hsame⟩ := X2.leave (v := some (.ref a)) (fun h => by rw [Bd.returns] at h; cases h)
  refine ⟨_, _, s4 _ ?_, hrun, hended, _, _, rfl, ?_, ⟨_, rfl⟩, hW, hsame.mono (by decide) (by decide)⟩
  · jvm_step X2.here [X2.here.top, hx, (dd hy dJ67_7_7), X2.method', Bd.returns, Value.isRef, FieldType.isReference]
    first | (intro acts; rw [hr _ acts rfl rfl rfl]) | rw [hr _ _ rfl rfl rfl]
    exact Steps.refl _
  · show Q_rmSApp Z _ _ _ _ _ _ _ _ _ _ h0 n0 _ T2.heap _
    rw [e2]
    exact ⟨rfl, N2, ((Keep.refl h0 [a, va]).trans K2 (allS (Or.inl (by simp)) (allS (Or.inl (by simp)) all0))), Fq2_0, Fq2_1, Fq2_2, Fq2_3, Fq2_4, Fq2_5⟩
theorem ef_rmPsaW (m : MethodId) (x0 : Addr) (x1 : Int32) (x2 : Addr) : entryFrame m #[(.ref x0), (.int x1), (.ref x2)] 3 = mkF m 0 #[.val (.ref x0), .val (.int x1), .val (.ref x2)] [] := by first | (simp [entryFrame, mkF, argsToLocals, Value.category]; done) | rfl
abbrev R_rmPsaW : Room := ({ frames := 7, cells := 1, slots := 32, locals := 102 } : Room)
def Q_rmPsaW (Z : State) (a : Addr) (sx : Addr) (cst : Int32) (sb : Addr) (ks : ClassId) (cs : List Int32) (va : Addr) (kc : ClassId) (xs : List Int32) (fmt : Value) (h0 : Heap) (n0 : Nat) (v : Option Value) (h : Heap) (L : List Loc) : Prop := ∃ (vb : Addr), ∃ (kd : ClassId), (v = none) ∧ (Fr n0 L) ∧ (Keep h0 h [a]) ∧ (Exa Z h a cB) ∧ (Fld Z h a cA "value" "[B" (.ref vb)) ∧ (Fld Z h a cA "coder" "B" (.int (1 : Int32))) ∧ (Fld Z h a cA "count" "I" (.int (0 : Int32))) ∧ (Fld Z h a cA "maybeLatin1" "Z" (.int (0 : Int32))) ∧ (Arv Z h vb kd .byte (Int32.ofNat (2 * 16)) ((own_wb cs ++ (List.replicate 32 (0 : Int32)).drop (2 * cs.length)).map Value.int) v0_) ∧ (h0.size ≤ vb)
set_option maxRecDepth 65536 in
set_option maxHeartbeats 40000000 in
theorem rmPsaW (l : Launch) (Z : State) (a0 : Array Value) (hw : HW Z a0) (ws : List Jvm.Cond) (a : Addr) (sx : Addr) (cst : Int32) (sb : Addr) (ks : ClassId) (cs : List Int32) (va : Addr) (kc : ClassId) (xs : List Int32) (fmt : Value) (h0 : Heap) (n0 : Nat) (Z0 : n0 ≤ h0.size) (I1 : Sta Z Z.heap cS cC "Z" (.int cst)) (I2 : Sta Z Z.heap cU cD "Z" (.int (1 : Int32))) (I3 : Sta Z Z.heap cU cH "I" (.int (0 : Int32))) (I4 : Sta Z Z.heap cU cL "I" (.int (8 : Int32))) (hfmt : fmt.isRef = true) (I5 : Sta Z Z.heap cP cG cF fmt) (OX : Old Z n0 h0) (hcst : ¬ (cst = (0 : Int32))) (I6 : Exa Z h0 a cB) (I7 : Fld Z h0 a cA "value" "[B" (.ref va)) (I8 : Fld Z h0 a cA "coder" "B" (.int (0 : Int32))) (I9 : Fld Z h0 a cA "count" "I" (.int (0 : Int32))) (I10 : Fld Z h0 a cA "maybeLatin1" "Z" (.int (0 : Int32))) (I11 : Arv Z h0 va kc .byte (16 : Int32) (xs.map Value.int) v0_) (ga : n0 ≤ a) (I12 : Exa Z h0 sx cS) (I13 : Fld Z h0 sx cS "value" "[B" (.ref sb)) (I14 : Fld Z h0 sx cS "coder" "B" (.int (own_cod cs))) (I15 : Arv Z h0 sb ks .byte (Int32.ofNat (own_enl cs)) (own_enc cs) v0_) (hsa : @Ne Nat sx a) (hba : @Ne Nat sb a) (hnl : ¬ own_lat cs) (hkc : cs.length ≤ 16) :
    MF l Z M43_ (Jvm.Cond.code M43_ jdk_68_method_73_code 3 none :: ws) R_rmPsaW #[(.ref a), (.int (0 : Int32)), (.ref sx)] h0 (Q_rmPsaW Z a sx cst sb ks cs va kc xs fmt h0 n0) := by
  refine MetFree.of_bodySF (plainFor_of_name pn_java_lang_AbstractStringBuilder) hisR ?_
  intro p e s m args below meth c s₁ Bd hml0 hP hK
  obtain ⟨rfl, hZ, hh⟩ := hP
  have hx := Bd.exec
  have hy := Bd.bytes
  have hml : c.maxLocals = 3 := hml0
  have hown : s.vm.findClass "java/lang/AbstractStringBuilder" = some m.cls := findClass_of_methodNamed Bd.named
  have hnm := (name_of_methodNamed Bd.named Bd.method).1
  have X0 : Stand p l e R_rmPsaW s m #[(.ref a), (.int (0 : Int32)), (.ref sx)] below meth c s₁ [] 0 0 := Stand.of_body Bd
  have e0 : s₁.heap = h0 := by rw [← hh, Bd.state]; rfl
  have N0 := Fr.nil n0
  have pre0 := own_pre (p := p) (e := e) (below := below) (T := s₁) (ef_rmPsaW m a (0 : Int32) sx)
  have lt_I6 : @LT.lt Nat _ a h0.size := I6.lt
  have lt_I11 : @LT.lt Nat _ va h0.size := I11.lt
  have lt_I12 : @LT.lt Nat _ sx h0.size := I12.lt
  have lt_I15 : @LT.lt Nat _ sb h0.size := I15.lt
  have Zc1 : n0 ≤ h0.size := by omega
  obtain ⟨cq2, kq2, q2a, q2b, q2c⟩ := isOf hZ e0 I6
  obtain ⟨_, _, ⟨T2, L2, k2, n2⟩, -, X2, ⟨Lc2, hQ2, l2, y2, z2⟩, st2⟩ := X0.virtualBack hx (y := M38_) (z := M38_) hown (mvT hZ (own_m hw 116 rfl)) (mvT hZ (own_declares (own_m hw 117 rfl) (own_m hw 120 rfl))) (notFace_of_selects (args := #[]) (mvT hZ (own_m hw 119 rfl))) (mvT hZ (own_m hw 119 rfl)) (mvT hZ (own_m hw 117 rfl)) (by decide) (backOf (W := 0) (rmInfW l Z a0 hw [] a sx cst va kc xs cs fmt h0 n0 Zc1 I1 I2 I3 I4 hfmt I5 OX hcst I6 I7 I8 I9 I10 I11 ga I12 I14 hnl) hZ (own_m hw 120 rfl) (own_m hw 48 rfl) (by decide) (by decide)) q2a q2c (g := (mkF m 2 #[.val (.ref a), .val (.int (0 : Int32)), .val (.ref sx)] [(.ref sx), (.ref a)])) rfl (by rw [hml]; rfl) (Steps.refl _) (argsL := [(.ref sx)]) (rest := []) (lenOf pd__Ljava_lang_String__V rfl) rfl (by show 2 * 0 + _ ≤ _; exact Nat.le_of_eq rfl) (dd hy dJ68_73_2) (fun _ _ => ⟨rfl, e0, (by decide : 0 + 1 ≤ _), (by decide : 0 + 32 ≤ _)⟩)
  dsimp only [Pt.U, Pt.locs, Pt.cells, Pt.slots] at X2 l2 y2 z2 st2 hQ2
  subst l2 y2 z2
  obtain ⟨vb_2, kd_2, rfl, N2q, K2, Fq2_0, Fq2_1, Fq2_2, Fq2_3, Fq2_4, Fq2_5, P2_0⟩ := hQ2
  have N2 := Fr.app N0 N2q
  obtain ⟨h2, e2⟩ : ∃ z, T2.heap = z := ⟨_, rfl⟩
  rw [e2] at K2 Fq2_0 Fq2_1 Fq2_2 Fq2_3 Fq2_4 Fq2_5
  have z3 : h0.size ≤ h2.size := K2.1
  have lt2_0 : @LT.lt Nat _ a h2.size := Fq2_0.lt
  have lt2_5 : @LT.lt Nat _ vb_2 h2.size := Fq2_5.lt
  obtain ⟨T4, X4, e4, st4⟩ := getF X2 hx hZ hown (host := "") (Or.inl (own_m hw 52 rfl)) Via.refl e2 Fq2_1 (g := (mkF m 7 #[.val (.ref a), .val (.int (0 : Int32)), .val (.ref sx)] [(.ref a), (.ref sx)])) rfl rfl (dd hy dJ68_73_7)
  obtain ⟨T5, X5, e5, st5⟩ := getF X4 hx hZ hown (host := "") (Or.inl (own_m hw 54 rfl)) Via.refl e4 Fq2_2 (g := (mkF m 12 #[.val (.ref a), .val (.int (0 : Int32)), .val (.ref sx)] [(.ref a), (.int (0 : Int32)), (.ref vb_2), (.ref sx)])) rfl rfl (dd hy dJ68_73_12)
  have O6 : Old Z n0 h2 := (OX.keep K2 (allS (show n0 ≤ a by omega) all0))
  have f7 : Exa Z h2 sx cS := (I12.keep K2)
  have f8 : Fld Z h2 sx cS "value" "[B" (.ref sb) := (I13.keep K2 (ninS (show @Ne Nat sx a by omega) nin0))
  have f9 : Fld Z h2 sx cS "coder" "B" (.int (own_cod cs)) := (I14.keep K2 (ninS (show @Ne Nat sx a by omega) nin0))
  have f10 : Arv Z h2 sb ks .byte (Int32.ofNat (own_enl cs)) (own_enc cs) v0_ := (I15.keep K2 (ninS (show @Ne Nat sb a by omega) nin0))
  have Zc11 : n0 ≤ h2.size := by omega
  obtain ⟨cq12, kq12, q12a, q12b, q12c⟩ := isOf hZ e5 f7
  obtain ⟨_, _, ⟨T12, L12, k12, n12⟩, -, X12, ⟨Lc12, hQ12, l12, y12, z12⟩, st12⟩ := X5.virtualBack hx (y := M42_) (z := M42_) hown (mvT hZ (own_m hw 122 rfl)) (mvT hZ (own_m hw 123 rfl)) (notFace_of_selects (args := #[]) (mvT hZ (own_m hw 125 rfl))) (mvT hZ (own_m hw 125 rfl)) (mvT hZ (own_m hw 124 rfl)) (by decide) (backOf (W := 0) (rmGBw l Z a0 hw [] sx vb_2 cst sb ks cs kd_2 (List.replicate 32 (0 : Int32)) h2 n0 Zc11 I1 O6 hcst f7 f8 f9 f10 Fq2_5 rfl (by first | assumption | omega | rfl | decide) hnl hkc) hZ (own_m hw 126 rfl) (own_m hw 7 rfl) (by decide) (by decide)) q12a q12c (g := (mkF m 15 #[.val (.ref a), .val (.int (0 : Int32)), .val (.ref sx)] [(.int (1 : Int32)), (.int (0 : Int32)), (.ref vb_2), (.ref sx)])) rfl (by rw [hml]; rfl) (Steps.refl _) (argsL := [(.ref vb_2), (.int (0 : Int32)), (.int (1 : Int32))]) (rest := []) (lenOf pd___BIB_V rfl) rfl (by show 2 * 0 + _ ≤ _; exact Nat.le_of_eq rfl) (dd hy dJ68_73_15) (fun _ _ => ⟨rfl, e5, (by decide : 1 + 0 ≤ _), (by decide : 32 + 0 ≤ _)⟩)
  dsimp only [Pt.U, Pt.locs, Pt.cells, Pt.slots] at X12 l12 y12 z12 st12 hQ12
  subst l12 y12 z12
  obtain ⟨rfl, N12q, K12, Fq12_0⟩ := hQ12
  have N12 := Fr.app N2 N12q
  obtain ⟨h12, e12⟩ : ∃ z, T12.heap = z := ⟨_, rfl⟩
  rw [e12] at K12 Fq12_0
  have z13 : h2.size ≤ h12.size := K12.1
  have lt12_0 : @LT.lt Nat _ vb_2 h12.size := Fq12_0.lt
  have s14 : ∀ t_, Steps p.tables e below (T12.setTop (mkF m 18 #[.val (.ref a), .val (.int (0 : Int32)), .val (.ref sx)] [])) t_ → Steps _ _ _ _ t_ := fun t_ k_ => pre0 t_ (by
    refine XS.aloadN X0.here hx rfl (dd hy dJ68_73_0) rfl rfl ?_
    refine XS.aloadN X0.here hx rfl (dd hy dJ68_73_1) rfl rfl ?_
    refine st2.trans ?_
    show Steps _ _ _ (T2.setTop (mkF m 5 #[.val (.ref a), .val (.int (0 : Int32)), .val (.ref sx)] [])) _
    refine XS.aloadN X2.here hx rfl (dd hy dJ68_73_5) rfl rfl ?_
    refine XS.aloadN X2.here hx rfl (dd hy dJ68_73_6) rfl rfl ?_
    refine st4 _ ?_
    refine XS.iloadN X4.here hx rfl (dd hy dJ68_73_10) rfl ?_
    refine XS.aloadN X4.here hx rfl (dd hy dJ68_73_11) rfl rfl ?_
    refine st5 _ ?_
    show Steps _ _ _ (T5.setTop (mkF m 15 #[.val (.ref a), .val (.int (0 : Int32)), .val (.ref sx)] [(.int (1 : Int32)), (.int (0 : Int32)), (.ref vb_2), (.ref sx)])) _
    refine st12.trans ?_
    show Steps _ _ _ (T12.setTop (mkF m 18 #[.val (.ref a), .val (.int (0 : Int32)), .val (.ref sx)] [])) _
    exact k_)
  obtain ⟨fs, hr, hrun, hended, hW, hsame⟩ := X12.leave (v := none) (fun _ => rfl)
  have f15 : Exa Z h12 a cB := (Fq2_0.keep K12)
  have f16 : Fld Z h12 a cA "value" "[B" (.ref vb_2) := (Fq2_1.keep K12 (ninS (show @Ne Nat a vb_2 by omega) nin0))
  have f17 : Fld Z h12 a cA "coder" "B" (.int (1 : Int32)) := (Fq2_2.keep K12 (ninS (show @Ne Nat a vb_2 by omega) nin0))
  have f18 : Fld Z h12 a cA "count" "I" (.int (0 : Int32)) := (Fq2_3.keep K12 (ninS (show @Ne Nat a vb_2 by omega) nin0))
  have f19 : Fld Z h12 a cA "maybeLatin1" "Z" (.int (0 : Int32)) := (Fq2_4.keep K12 (ninS (show @Ne Nat a vb_2 by omega) nin0))
  refine ⟨_, _, s14 _ ?_, hrun, hended, _, _, rfl, ?_, ⟨_, rfl⟩, hW, hsame.mono (by decide) (by decide)⟩
  · exact X12.returnOut hx Bd.returns (dd hy dJ68_73_18) hr
  · show Q_rmPsaW Z _ _ _ _ _ _ _ _ _ _ h0 n0 _ T12.heap _
    rw [e12]
    exact ⟨vb_2, kd_2, rfl, N12, (((Keep.refl h0 [a]).trans K2 (allS (Or.inl (by simp)) all0)).trans K12 (allS (Or.inr (show h0.size ≤ vb_2 by omega)) all0)), f15, f16, f17, f18, f19, Fq12_0, by omega⟩
theorem ef_rmAAppW (m : MethodId) (x0 : Addr) (x1 : Addr) : entryFrame m #[(.ref x0), (.ref x1)] 3 = mkF m 0 #[.val (.ref x0), .val (.ref x1), .unset] [] := by first | (simp [entryFrame, mkF, argsToLocals, Value.category]; done) | rfl
abbrev R_rmAAppW : Room := ({ frames := 8, cells := 1, slots := 32, locals := 116 } : Room)
def Q_rmAAppW (Z : State) (a : Addr) (sx : Addr) (cst : Int32) (sb : Addr) (ks : ClassId) (cs : List Int32) (va : Addr) (kc : ClassId) (xs : List Int32) (fmt : Value) (h0 : Heap) (n0 : Nat) (v : Option Value) (h : Heap) (L : List Loc) : Prop := ∃ (vb : Addr), ∃ (kd : ClassId), (v = some (.ref a)) ∧ (Fr n0 L) ∧ (Keep h0 h [a]) ∧ (Exa Z h a cB) ∧ (Fld Z h a cA "value" "[B" (.ref vb)) ∧ (Fld Z h a cA "coder" "B" (.int (1 : Int32))) ∧ (Fld Z h a cA "count" "I" (.int (Int32.ofNat cs.length))) ∧ (Fld Z h a cA "maybeLatin1" "Z" (.int (0 : Int32))) ∧ (Arv Z h vb kd .byte (Int32.ofNat (2 * 16)) ((own_wb cs ++ (List.replicate 32 (0 : Int32)).drop (2 * cs.length)).map Value.int) v0_) ∧ (h0.size ≤ vb)
set_option maxRecDepth 65536 in
set_option maxHeartbeats 40000000 in
theorem rmAAppW (l : Launch) (Z : State) (a0 : Array Value) (hw : HW Z a0) (ws : List Jvm.Cond) (a : Addr) (sx : Addr) (cst : Int32) (sb : Addr) (ks : ClassId) (cs : List Int32) (va : Addr) (kc : ClassId) (xs : List Int32) (fmt : Value) (h0 : Heap) (n0 : Nat) (Z0 : n0 ≤ h0.size) (I1 : Sta Z Z.heap cS cC "Z" (.int cst)) (I2 : Sta Z Z.heap cU cD "Z" (.int (1 : Int32))) (I3 : Sta Z Z.heap cU cH "I" (.int (0 : Int32))) (I4 : Sta Z Z.heap cU cL "I" (.int (8 : Int32))) (hfmt : fmt.isRef = true) (I5 : Sta Z Z.heap cP cG cF fmt) (OX : Old Z n0 h0) (hcst : ¬ (cst = (0 : Int32))) (I6 : Exa Z h0 a cB) (I7 : Fld Z h0 a cA "value" "[B" (.ref va)) (I8 : Fld Z h0 a cA "coder" "B" (.int (0 : Int32))) (I9 : Fld Z h0 a cA "count" "I" (.int (0 : Int32))) (I10 : Fld Z h0 a cA "maybeLatin1" "Z" (.int (0 : Int32))) (I11 : Arv Z h0 va kc .byte (16 : Int32) (xs.map Value.int) v0_) (ga : n0 ≤ a) (I12 : Exa Z h0 sx cS) (I13 : Fld Z h0 sx cS "value" "[B" (.ref sb)) (I14 : Fld Z h0 sx cS "coder" "B" (.int (own_cod cs))) (I15 : Arv Z h0 sb ks .byte (Int32.ofNat (own_enl cs)) (own_enc cs) v0_) (hsa : @Ne Nat sx a) (hba : @Ne Nat sb a) (hnl : ¬ own_lat cs) (hkc : cs.length ≤ 16) :
    MF l Z M44_ (Jvm.Cond.code M44_ jdk_68_method_22_code 3 (some (.object "java/lang/AbstractStringBuilder")) :: ws) R_rmAAppW #[(.ref a), (.ref sx)] h0 (Q_rmAAppW Z a sx cst sb ks cs va kc xs fmt h0 n0) := by
  refine MetFree.of_bodySF (plainFor_of_name pn_java_lang_AbstractStringBuilder) hisR ?_
  intro p e s m args below meth c s₁ Bd hml0 hP hK
  obtain ⟨rfl, hZ, hh⟩ := hP
  have hx := Bd.exec
  have hy := Bd.bytes
  have hml : c.maxLocals = 3 := hml0
  have hown : s.vm.findClass "java/lang/AbstractStringBuilder" = some m.cls := findClass_of_methodNamed Bd.named
  have hnm := (name_of_methodNamed Bd.named Bd.method).1
  have X0 : Stand p l e R_rmAAppW s m #[(.ref a), (.ref sx)] below meth c s₁ [] 0 0 := Stand.of_body Bd
  have e0 : s₁.heap = h0 := by rw [← hh, Bd.state]; rfl
  have N0 := Fr.nil n0
  have pre0 := own_pre (p := p) (e := e) (below := below) (T := s₁) (ef_rmAAppW m a sx)
  have lt_I6 : @LT.lt Nat _ a h0.size := I6.lt
  have lt_I11 : @LT.lt Nat _ va h0.size := I11.lt
  have lt_I12 : @LT.lt Nat _ sx h0.size := I12.lt
  have lt_I15 : @LT.lt Nat _ sb h0.size := I15.lt
  have Zc1 : n0 ≤ h0.size := by omega
  obtain ⟨cq2, kq2, q2a, q2b, q2c⟩ := isOf hZ e0 I12
  obtain ⟨_, _, ⟨T2, L2, k2, n2⟩, -, X2, ⟨Lc2, hQ2, l2, y2, z2⟩, st2⟩ := X0.virtualBack hx (y := M11_) (z := M11_) hown (mvT hZ (own_m hw 103 rfl)) (mvT hZ (own_m hw 57 rfl)) (notFace_of_selects (args := #[]) (mvT hZ (own_m hw 59 rfl))) (mvT hZ (own_m hw 59 rfl)) (mvT hZ (own_m hw 58 rfl)) (by decide) (backOf (W := 0) (rmLen l Z a0 hw [] sx cst sb ks cs h0 n0 Zc1 I1 OX hcst I12 I13 I14 I15 (by omega)) hZ (own_m hw 60 rfl) (own_m hw 7 rfl) (by decide) (by decide)) q2a q2c (g := (mkF m 10 #[.val (.ref a), .val (.ref sx), .unset] [(.ref sx)])) rfl (by rw [hml]; rfl) (Steps.refl _) (argsL := []) (rest := []) (lenOf pd___I rfl) rfl (by show 2 * 0 + _ ≤ _; exact Nat.le_of_eq rfl) (dd hy dJ68_22_10) (fun _ _ => ⟨rfl, e0, (by decide : 0 + 0 ≤ _), (by decide : 0 + 0 ≤ _)⟩)
  dsimp only [Pt.U, Pt.locs, Pt.cells, Pt.slots] at X2 l2 y2 z2 st2 hQ2
  subst l2 y2 z2
  obtain ⟨rfl, N2q, e2⟩ := hQ2
  have N2 := Fr.app N0 N2q
  obtain ⟨T3, X3, e3, st3⟩ := getF X2 hx hZ hown (host := "") (Or.inl (own_m hw 104 rfl)) Via.refl e2 I9 (g := (mkF m 16 #[.val (.ref a), .val (.ref sx), .val (.int (Int32.ofNat cs.length))] [(.ref a), (.ref a)])) rfl rfl (dd hy dJ68_22_16)
  have Zc4 : n0 ≤ h0.size := by omega
  obtain ⟨cq5, kq5, q5a, q5b, q5c⟩ := isOf hZ e3 I6
  obtain ⟨_, _, ⟨T5, L5, k5, n5⟩, -, X5, ⟨Lc5, hQ5, l5, y5, z5⟩, st5⟩ := X3.virtualBack hx (y := M34_) (z := M34_) hown (mvT hZ (own_m hw 106 rfl)) (mvT hZ (own_declares (own_m hw 107 rfl) (own_m hw 110 rfl))) (notFace_of_selects (args := #[]) (mvT hZ (own_m hw 109 rfl))) (mvT hZ (own_m hw 109 rfl)) (mvT hZ (own_m hw 107 rfl)) (by decide) (backOf (W := 0) (rmEns l Z a0 hw [] a va kc xs cs.length h0 n0 Zc4 I7 I8 I11 hkc) hZ (own_m hw 110 rfl) (own_m hw 48 rfl) (by decide) (by decide)) q5a q5c (g := (mkF m 21 #[.val (.ref a), .val (.ref sx), .val (.int (Int32.ofNat cs.length))] [(.int (Int32.ofNat cs.length)), (.ref a)])) rfl (by rw [hml]; rfl) (Steps.refl _) (argsL := [(.int (Int32.ofNat cs.length))]) (rest := []) (lenOf pd__I_V rfl) rfl (by show 2 * 0 + _ ≤ _; exact Nat.le_of_eq rfl) (dd hy dJ68_22_21) (fun _ _ => ⟨rfl, e3, (by decide : 0 + 0 ≤ _), (by decide : 0 + 0 ≤ _)⟩)
  dsimp only [Pt.U, Pt.locs, Pt.cells, Pt.slots] at X5 l5 y5 z5 st5 hQ5
  subst l5 y5 z5
  obtain ⟨rfl, N5q, e5⟩ := hQ5
  have N5 := Fr.app N2 N5q
  obtain ⟨T6, X6, e6, st6⟩ := getF X5 hx hZ hown (host := "") (Or.inl (own_m hw 104 rfl)) Via.refl e5 I9 (g := (mkF m 26 #[.val (.ref a), .val (.ref sx), .val (.int (Int32.ofNat cs.length))] [(.ref a), (.ref a)])) rfl rfl (dd hy dJ68_22_26)
  have Zc7 : n0 ≤ h0.size := by omega
  obtain ⟨cq8, kq8, q8a, q8b, q8c⟩ := isOf hZ e6 I6
  obtain ⟨_, _, ⟨T8, L8, k8, n8⟩, -, X8, ⟨Lc8, hQ8, l8, y8, z8⟩, st8⟩ := X6.virtualBack hx (y := M43_) (z := M43_) hown (mvT hZ (own_m hw 111 rfl)) (mvT hZ (own_declares (own_m hw 112 rfl) (own_m hw 115 rfl))) (notFace_of_selects (args := #[]) (mvT hZ (own_m hw 114 rfl))) (mvT hZ (own_m hw 114 rfl)) (mvT hZ (own_m hw 112 rfl)) (by decide) (backOf (W := 0) (rmPsaW l Z a0 hw [] a sx cst sb ks cs va kc xs fmt h0 n0 Zc7 I1 I2 I3 I4 hfmt I5 OX hcst I6 I7 I8 I9 I10 I11 ga I12 I13 I14 I15 hsa hba hnl hkc) hZ (own_m hw 115 rfl) (own_m hw 48 rfl) (by decide) (by decide)) q8a q8c (g := (mkF m 30 #[.val (.ref a), .val (.ref sx), .val (.int (Int32.ofNat cs.length))] [(.ref sx), (.int (0 : Int32)), (.ref a)])) rfl (by rw [hml]; rfl) (Steps.refl _) (argsL := [(.int (0 : Int32)), (.ref sx)]) (rest := []) (lenOf pd__ILjava_lang_String__V rfl) rfl (by show 2 * 0 + _ ≤ _; exact Nat.le_of_eq rfl) (dd hy dJ68_22_30) (fun _ _ => ⟨rfl, e6, (by decide : 0 + 1 ≤ _), (by decide : 0 + 32 ≤ _)⟩)
  dsimp only [Pt.U, Pt.locs, Pt.cells, Pt.slots] at X8 l8 y8 z8 st8 hQ8
  subst l8 y8 z8
  obtain ⟨vb_8, kd_8, rfl, N8q, K8, Fq8_0, Fq8_1, Fq8_2, Fq8_3, Fq8_4, Fq8_5, P8_0⟩ := hQ8
  have N8 := Fr.app N5 N8q
  obtain ⟨h8, e8⟩ : ∃ z, T8.heap = z := ⟨_, rfl⟩
  rw [e8] at K8 Fq8_0 Fq8_1 Fq8_2 Fq8_3 Fq8_4 Fq8_5
  have z9 : h0.size ≤ h8.size := K8.1
  have lt8_0 : @LT.lt Nat _ a h8.size := Fq8_0.lt
  have lt8_5 : @LT.lt Nat _ vb_8 h8.size := Fq8_5.lt
  obtain ⟨T10, X10, e10, st10⟩ := getF X8 hx hZ hown (host := "") (Or.inl (own_m hw 104 rfl)) Via.refl e8 Fq8_3 (g := (mkF m 35 #[.val (.ref a), .val (.ref sx), .val (.int (Int32.ofNat cs.length))] [(.ref a), (.ref a)])) rfl rfl (dd hy dJ68_22_35)
  obtain ⟨T11, h11, X11, e11, W11, st11⟩ := putF X10 hx hZ hown (host := "") (Or.inl (own_m hw 104 rfl)) Via.refl e10 Fq8_3 Fq8_0 (Or.inl (own_m hw 105 rfl)) (own_m hw 39 rfl) (ty := .int) (by decide) rfl rfl (g := (mkF m 40 #[.val (.ref a), .val (.ref sx), .val (.int (Int32.ofNat cs.length))] [(.int (Int32.ofNat cs.length)), (.ref a)])) rfl rfl (dd hy dJ68_22_40)
  have z12 : h8.size ≤ h11.size := Nat.le_of_eq W11.size.symm
  have F11 : Fld Z h11 a cA "count" "I" (.int (Int32.ofNat cs.length)) := Fq8_3.same W11
  have N11 := Fr.snoc X11 N8 (show n0 ≤ a by omega)
  have s13 : ∀ t_, Steps p.tables e below (T11.setTop (mkF m 44 #[.val (.ref a), .val (.ref sx), .val (.int (Int32.ofNat cs.length))] [(.ref a)])) t_ → Steps _ _ _ _ t_ := fun t_ k_ => pre0 t_ (by
    refine XS.aloadN X0.here hx rfl (dd hy dJ68_22_0) rfl rfl ?_
    refine XS.ifnonnullYes X0.here hx rfl (pc0 := 1) (pc' := 9) rfl (dd hy dJ68_22_1) rfl (by decide) (by decide) ?_
    show Steps _ _ _ (s₁.setTop (mkF m 9 #[.val (.ref a), .val (.ref sx), .unset] [])) _
    refine XS.aloadN X0.here hx rfl (dd hy dJ68_22_9) rfl rfl ?_
    refine st2.trans ?_
    show Steps _ _ _ (T2.setTop (mkF m 13 #[.val (.ref a), .val (.ref sx), .unset] [(.int (Int32.ofNat cs.length))])) _
    refine XS.istoreN X2.here hx rfl (dd hy dJ68_22_13) rfl (l' := #[.val (.ref a), .val (.ref sx), .val (.int (Int32.ofNat cs.length))]) rfl ?_
    refine XS.aloadN X2.here hx rfl (dd hy dJ68_22_14) rfl rfl ?_
    refine XS.aloadN X2.here hx rfl (dd hy dJ68_22_15) rfl rfl ?_
    refine st3 _ ?_
    refine XS.iloadN X3.here hx rfl (dd hy dJ68_22_19) rfl ?_
    refine XS.iadd X3.here hx rfl (dd hy dJ68_22_20) rfl ?_
    show Steps _ _ _ (T3.setTop (mkF m 21 #[.val (.ref a), .val (.ref sx), .val (.int (Int32.ofNat cs.length))] [(.int ((0 : Int32) + (Int32.ofNat cs.length))), (.ref a)])) _
    refine castTop (g' := (mkF m 21 #[.val (.ref a), .val (.ref sx), .val (.int (Int32.ofNat cs.length))] [(.int (Int32.ofNat cs.length)), (.ref a)])) (by rw [Int32.zero_add]) ?_
    show Steps _ _ _ (T3.setTop (mkF m 21 #[.val (.ref a), .val (.ref sx), .val (.int (Int32.ofNat cs.length))] [(.int (Int32.ofNat cs.length)), (.ref a)])) _
    refine st5.trans ?_
    show Steps _ _ _ (T5.setTop (mkF m 24 #[.val (.ref a), .val (.ref sx), .val (.int (Int32.ofNat cs.length))] [])) _
    refine XS.aloadN X5.here hx rfl (dd hy dJ68_22_24) rfl rfl ?_
    refine XS.aloadN X5.here hx rfl (dd hy dJ68_22_25) rfl rfl ?_
    refine st6 _ ?_
    refine XS.aloadN X6.here hx rfl (dd hy dJ68_22_29) rfl rfl ?_
    refine st8.trans ?_
    show Steps _ _ _ (T8.setTop (mkF m 33 #[.val (.ref a), .val (.ref sx), .val (.int (Int32.ofNat cs.length))] [])) _
    refine XS.aloadN X8.here hx rfl (dd hy dJ68_22_33) rfl rfl ?_
    refine XS.dup X8.here hx rfl (dd hy dJ68_22_34) rfl rfl ?_
    refine st10 _ ?_
    refine XS.iloadN X10.here hx rfl (dd hy dJ68_22_38) rfl ?_
    refine XS.iadd X10.here hx rfl (dd hy dJ68_22_39) rfl ?_
    show Steps _ _ _ (T10.setTop (mkF m 40 #[.val (.ref a), .val (.ref sx), .val (.int (Int32.ofNat cs.length))] [(.int ((0 : Int32) + (Int32.ofNat cs.length))), (.ref a)])) _
    refine castTop (g' := (mkF m 40 #[.val (.ref a), .val (.ref sx), .val (.int (Int32.ofNat cs.length))] [(.int (Int32.ofNat cs.length)), (.ref a)])) (by rw [Int32.zero_add]) ?_
    show Steps _ _ _ (T10.setTop (mkF m 40 #[.val (.ref a), .val (.ref sx), .val (.int (Int32.ofNat cs.length))] [(.int (Int32.ofNat cs.length)), (.ref a)])) _
    refine st11 _ ?_
    refine XS.aloadN X11.here hx rfl (dd hy dJ68_22_43) rfl rfl ?_
    exact k_)
  obtain ⟨fs, hr, hrun, hended, hW, hsame⟩ := X11.leave (v := some (.ref a)) (fun h => by rw [Bd.returns] at h; cases h)
  have f14 : Arv Z h11 vb_8 kd_8 .byte (Int32.ofNat (2 * 16)) ((own_wb cs ++ (List.replicate 32 (0 : Int32)).drop (2 * cs.length)).map Value.int) v0_ := (Fq8_5.other W11 (show @Ne Nat vb_8 a by omega))
  have f15 : Exa Z h11 a cB := (Fq8_0.wr W11)
  have f16 : Fld Z h11 a cA "value" "[B" (.ref vb_8) := (Fq8_1.other W11 (Or.inr (slot_ne (Or.inl (own_m hw 53 rfl)) (Or.inl (own_m hw 105 rfl)) (by decide) (t := (.array .byte)) (t' := .int) (by decide) (by decide))))
  have f17 : Fld Z h11 a cA "coder" "B" (.int (1 : Int32)) := (Fq8_2.other W11 (Or.inr (slot_ne (Or.inl (own_m hw 55 rfl)) (Or.inl (own_m hw 105 rfl)) (by decide) (t := .byte) (t' := .int) (by decide) (by decide))))
  have f18 : Fld Z h11 a cA "maybeLatin1" "Z" (.int (0 : Int32)) := (Fq8_4.other W11 (Or.inr (slot_ne (Or.inl (own_m hw 251 rfl)) (Or.inl (own_m hw 105 rfl)) (by decide) (t := .boolean) (t' := .int) (by decide) (by decide))))
  refine ⟨_, _, s13 _ ?_, hrun, hended, _, _, rfl, ?_, ⟨_, rfl⟩, hW, hsame.mono (by decide) (by decide)⟩
  · jvm_step X11.here [X11.here.top, hx, (dd hy dJ68_22_44), X11.method', Bd.returns, Value.isRef, FieldType.isReference]
    first | (intro acts; rw [hr _ acts rfl rfl rfl]) | rw [hr _ _ rfl rfl rfl]
    exact Steps.refl _
  · show Q_rmAAppW Z _ _ _ _ _ _ _ _ _ _ h0 n0 _ T11.heap _
    rw [e11]
    exact ⟨vb_8, kd_8, rfl, N11, (((Keep.refl h0 [a]).trans K8 (allS (Or.inl (by simp)) all0)).wr W11 (Or.inl (by simp))), f15, f16, f17, F11, f18, f14, by omega⟩
theorem ef_rmSAppW (m : MethodId) (x0 : Addr) (x1 : Addr) : entryFrame m #[(.ref x0), (.ref x1)] 2 = mkF m 0 #[.val (.ref x0), .val (.ref x1)] [] := by first | (simp [entryFrame, mkF, argsToLocals, Value.category]; done) | rfl
abbrev R_rmSAppW : Room := ({ frames := 9, cells := 1, slots := 32, locals := 130 } : Room)
def Q_rmSAppW (Z : State) (a : Addr) (sx : Addr) (cst : Int32) (sb : Addr) (ks : ClassId) (cs : List Int32) (va : Addr) (kc : ClassId) (xs : List Int32) (fmt : Value) (h0 : Heap) (n0 : Nat) (v : Option Value) (h : Heap) (L : List Loc) : Prop := ∃ (vb : Addr), ∃ (kd : ClassId), (v = some (.ref a)) ∧ (Fr n0 L) ∧ (Keep h0 h [a]) ∧ (Exa Z h a cB) ∧ (Fld Z h a cA "value" "[B" (.ref vb)) ∧ (Fld Z h a cA "coder" "B" (.int (1 : Int32))) ∧ (Fld Z h a cA "count" "I" (.int (Int32.ofNat cs.length))) ∧ (Fld Z h a cA "maybeLatin1" "Z" (.int (0 : Int32))) ∧ (Arv Z h vb kd .byte (Int32.ofNat (2 * 16)) ((own_wb cs ++ (List.replicate 32 (0 : Int32)).drop (2 * cs.length)).map Value.int) v0_) ∧ (h0.size ≤ vb)
set_option maxRecDepth 65536 in
set_option maxHeartbeats 40000000 in
theorem rmSAppW (l : Launch) (Z : State) (a0 : Array Value) (hw : HW Z a0) (ws : List Jvm.Cond) (a : Addr) (sx : Addr) (cst : Int32) (sb : Addr) (ks : ClassId) (cs : List Int32) (va : Addr) (kc : ClassId) (xs : List Int32) (fmt : Value) (h0 : Heap) (n0 : Nat) (Z0 : n0 ≤ h0.size) (I1 : Sta Z Z.heap cS cC "Z" (.int cst)) (I2 : Sta Z Z.heap cU cD "Z" (.int (1 : Int32))) (I3 : Sta Z Z.heap cU cH "I" (.int (0 : Int32))) (I4 : Sta Z Z.heap cU cL "I" (.int (8 : Int32))) (hfmt : fmt.isRef = true) (I5 : Sta Z Z.heap cP cG cF fmt) (OX : Old Z n0 h0) (hcst : ¬ (cst = (0 : Int32))) (I6 : Exa Z h0 a cB) (I7 : Fld Z h0 a cA "value" "[B" (.ref va)) (I8 : Fld Z h0 a cA "coder" "B" (.int (0 : Int32))) (I9 : Fld Z h0 a cA "count" "I" (.int (0 : Int32))) (I10 : Fld Z h0 a cA "maybeLatin1" "Z" (.int (0 : Int32))) (I11 : Arv Z h0 va kc .byte (16 : Int32) (xs.map Value.int) v0_) (ga : n0 ≤ a) (I12 : Exa Z h0 sx cS) (I13 : Fld Z h0 sx cS "value" "[B" (.ref sb)) (I14 : Fld Z h0 sx cS "coder" "B" (.int (own_cod cs))) (I15 : Arv Z h0 sb ks .byte (Int32.ofNat (own_enl cs)) (own_enc cs) v0_) (hsa : @Ne Nat sx a) (hba : @Ne Nat sb a) (hnl : ¬ own_lat cs) (hkc : cs.length ≤ 16) :
    MF l Z M45_ (Jvm.Cond.code M45_ jdk_67_method_7_code 2 (some (.object "java/lang/StringBuilder")) :: ws) R_rmSAppW #[(.ref a), (.ref sx)] h0 (Q_rmSAppW Z a sx cst sb ks cs va kc xs fmt h0 n0) := by
  refine MetFree.of_bodySF (plainFor_of_name pn_java_lang_StringBuilder) hisR ?_
  intro p e s m args below meth c s₁ Bd hml0 hP hK
  obtain ⟨rfl, hZ, hh⟩ := hP
  have hx := Bd.exec
  have hy := Bd.bytes
  have hml : c.maxLocals = 2 := hml0
  have hown : s.vm.findClass "java/lang/StringBuilder" = some m.cls := findClass_of_methodNamed Bd.named
  have hnm := (name_of_methodNamed Bd.named Bd.method).1
  have X0 : Stand p l e R_rmSAppW s m #[(.ref a), (.ref sx)] below meth c s₁ [] 0 0 := Stand.of_body Bd
  have e0 : s₁.heap = h0 := by rw [← hh, Bd.state]; rfl
  have N0 := Fr.nil n0
  have pre0 := own_pre (p := p) (e := e) (below := below) (T := s₁) (ef_rmSAppW m a sx)
  have lt_I6 : @LT.lt Nat _ a h0.size := I6.lt
  have lt_I11 : @LT.lt Nat _ va h0.size := I11.lt
  have lt_I12 : @LT.lt Nat _ sx h0.size := I12.lt
  have lt_I15 : @LT.lt Nat _ sb h0.size := I15.lt
  have Zc1 : n0 ≤ h0.size := by omega
  obtain ⟨_, _, ⟨T2, L2, k2, n2⟩, -, X2, ⟨Lc2, hQ2, l2, y2, z2⟩, st2⟩ := superBack X0 hx hZ (y := M44_) hown (own_m hw 98 rfl) (own_same (own_m hw 99 rfl) (own_nf (y := M44_) (z := M34_) rfl (own_m hw 109 rfl)) (by decide)) (own_m hw 99 rfl) (own_m hw 100 rfl) (by decide) (backOf (W := 0) (rmAAppW l Z a0 hw [] a sx cst sb ks cs va kc xs fmt h0 n0 Zc1 I1 I2 I3 I4 hfmt I5 OX hcst I6 I7 I8 I9 I10 I11 ga I12 I13 I14 I15 hsa hba hnl hkc) hZ (own_m hw 102 rfl) (own_m hw 48 rfl) (by decide) (by decide)) e0 (Ins.self I6) (g := (mkF m 2 #[.val (.ref a), .val (.ref sx)] [(.ref sx), (.ref a)])) rfl (by rw [hml]; rfl) (own_m hw 102 rfl) (argsL := [(.ref sx)]) (rest := []) (lenOf pd__Ljava_lang_String__Ljava_lang_AbstractStringBuilder_ rfl) rfl (by show 2 * 0 + _ ≤ _; exact Nat.le_of_eq rfl) (dd hy dJ67_7_2) (fun _ _ => ⟨rfl, e0, (by decide : 0 + 1 ≤ _), (by decide : 0 + 32 ≤ _)⟩)
  dsimp only [Pt.U, Pt.locs, Pt.cells, Pt.slots] at X2 l2 y2 z2 st2 hQ2
  subst l2 y2 z2
  obtain ⟨vb_2, kd_2, rfl, N2q, K2, Fq2_0, Fq2_1, Fq2_2, Fq2_3, Fq2_4, Fq2_5, P2_0⟩ := hQ2
  have N2 := Fr.app N0 N2q
  obtain ⟨h2, e2⟩ : ∃ z, T2.heap = z := ⟨_, rfl⟩
  rw [e2] at K2 Fq2_0 Fq2_1 Fq2_2 Fq2_3 Fq2_4 Fq2_5
  have z3 : h0.size ≤ h2.size := K2.1
  have lt2_0 : @LT.lt Nat _ a h2.size := Fq2_0.lt
  have lt2_5 : @LT.lt Nat _ vb_2 h2.size := Fq2_5.lt
  have s4 : ∀ t_, Steps p.tables e below (T2.setTop (mkF m 7 #[.val (.ref a), .val (.ref sx)] [(.ref a)])) t_ → Steps _ _ _ _ t_ := fun t_ k_ => pre0 t_ (by
    refine XS.aloadN X0.here hx rfl (dd hy dJ67_7_0) rfl rfl ?_
    refine XS.aloadN X0.here hx rfl (dd hy dJ67_7_1) rfl rfl ?_
    refine st2.trans ?_
    show Steps _ _ _ (T2.setTop (mkF m 5 #[.val (.ref a), .val (.ref sx)] [(.ref a)])) _
    refine XS.pop X2.here hx rfl (dd hy dJ67_7_5) rfl rfl ?_
    refine XS.aloadN X2.here hx rfl (dd hy dJ67_7_6) rfl rfl ?_
    exact k_)
  obtain ⟨fs, hr, hrun, hended, hW, hsame⟩ := X2.leave (v := some (.ref a)) (fun h => by rw [Bd.returns] at h; cases h)
  refine ⟨_, _, s4 _ ?_, hrun, hended, _, _, rfl, ?_, ⟨_, rfl⟩, hW, hsame.mono (by decide) (by decide)⟩
  · jvm_step X2.here [X2.here.top, hx, (dd hy dJ67_7_7), X2.method', Bd.returns, Value.isRef, FieldType.isReference]
    first | (intro acts; rw [hr _ acts rfl rfl rfl]) | rw [hr _ _ rfl rfl rfl]
    exact Steps.refl _
  · show Q_rmSAppW Z _ _ _ _ _ _ _ _ _ _ h0 n0 _ T2.heap _
    rw [e2]
    exact ⟨vb_2, kd_2, rfl, N2, ((Keep.refl h0 [a]).trans K2 (allS (Or.inl (by simp)) all0)), Fq2_0, Fq2_1, Fq2_2, Fq2_3, Fq2_4, Fq2_5, by omega⟩
theorem ef_rmPsaI (m : MethodId) (x0 : Addr) (x1 : Int32) (x2 : Addr) : entryFrame m #[(.ref x0), (.int x1), (.ref x2)] 3 = mkF m 0 #[.val (.ref x0), .val (.int x1), .val (.ref x2)] [] := by first | (simp [entryFrame, mkF, argsToLocals, Value.category]; done) | rfl
abbrev R_rmPsaI : Room := ({ frames := 6, cells := 0, slots := 0, locals := 91 } : Room)
def Q_rmPsaI (Z : State) (a : Addr) (sx : Addr) (cst : Int32) (sb : Addr) (ks : ClassId) (cs : List Int32) (va : Addr) (kc : ClassId) (xs : List Int32) (k : Nat) (fmt : Value) (h0 : Heap) (n0 : Nat) (v : Option Value) (h : Heap) (L : List Loc) : Prop := (v = none) ∧ (Fr n0 L) ∧ (Keep h0 h [va]) ∧ (Arv Z h va kc .byte (Int32.ofNat (2 * 16)) ((own_pl xs cs k).map Value.int) v0_)
set_option maxRecDepth 65536 in
set_option maxHeartbeats 40000000 in
theorem rmPsaI (l : Launch) (Z : State) (a0 : Array Value) (hw : HW Z a0) (ws : List Jvm.Cond) (a : Addr) (sx : Addr) (cst : Int32) (sb : Addr) (ks : ClassId) (cs : List Int32) (va : Addr) (kc : ClassId) (xs : List Int32) (k : Nat) (fmt : Value) (h0 : Heap) (n0 : Nat) (Z0 : n0 ≤ h0.size) (I1 : Sta Z Z.heap cS cC "Z" (.int cst)) (I2 : Sta Z Z.heap cU cD "Z" (.int (1 : Int32))) (I3 : Sta Z Z.heap cU cH "I" (.int (0 : Int32))) (I4 : Sta Z Z.heap cU cL "I" (.int (8 : Int32))) (hfmt : fmt.isRef = true) (I5 : Sta Z Z.heap cP cG cF fmt) (OX : Old Z n0 h0) (hcst : ¬ (cst = (0 : Int32))) (I6 : Exa Z h0 a cB) (I7 : Fld Z h0 a cA "value" "[B" (.ref va)) (I8 : Fld Z h0 a cA "coder" "B" (.int (1 : Int32))) (I9 : Fld Z h0 a cA "count" "I" (.int (Int32.ofNat k))) (I10 : Fld Z h0 a cA "maybeLatin1" "Z" (.int (0 : Int32))) (I11 : Arv Z h0 va kc .byte (Int32.ofNat (2 * 16)) (xs.map Value.int) v0_) (I12 : Exa Z h0 sx cS) (I13 : Fld Z h0 sx cS "value" "[B" (.ref sb)) (I14 : Fld Z h0 sx cS "coder" "B" (.int (own_cod cs))) (I15 : Arv Z h0 sb ks .byte (Int32.ofNat (own_enl cs)) (own_enc cs) v0_) (hx32 : xs.length = 32) (ga : n0 ≤ a) (gv : n0 ≤ va) (hav : @Ne Nat a va) (hsv : @Ne Nat sb va) (hlat : own_lat cs) (hkc : k + cs.length ≤ 16) (hchs : own_chs cs) :
    MF l Z M43_ (Jvm.Cond.code M43_ jdk_68_method_73_code 3 none :: ws) R_rmPsaI #[(.ref a), (.int (Int32.ofNat k)), (.ref sx)] h0 (Q_rmPsaI Z a sx cst sb ks cs va kc xs k fmt h0 n0) := by
  refine MetFree.of_bodySF (plainFor_of_name pn_java_lang_AbstractStringBuilder) hisR ?_
  intro p e s m args below meth c s₁ Bd hml0 hP hK
  obtain ⟨rfl, hZ, hh⟩ := hP
  have hx := Bd.exec
  have hy := Bd.bytes
  have hml : c.maxLocals = 3 := hml0
  have hown : s.vm.findClass "java/lang/AbstractStringBuilder" = some m.cls := findClass_of_methodNamed Bd.named
  have hnm := (name_of_methodNamed Bd.named Bd.method).1
  have X0 : Stand p l e R_rmPsaI s m #[(.ref a), (.int (Int32.ofNat k)), (.ref sx)] below meth c s₁ [] 0 0 := Stand.of_body Bd
  have e0 : s₁.heap = h0 := by rw [← hh, Bd.state]; rfl
  have N0 := Fr.nil n0
  have pre0 := own_pre (p := p) (e := e) (below := below) (T := s₁) (ef_rmPsaI m a (Int32.ofNat k) sx)
  have lt_I6 : @LT.lt Nat _ a h0.size := I6.lt
  have lt_I11 : @LT.lt Nat _ va h0.size := I11.lt
  have lt_I12 : @LT.lt Nat _ sx h0.size := I12.lt
  have lt_I15 : @LT.lt Nat _ sb h0.size := I15.lt
  have Zc1 : n0 ≤ h0.size := by omega
  obtain ⟨cq2, kq2, q2a, q2b, q2c⟩ := isOf hZ e0 I6
  obtain ⟨_, _, ⟨T2, L2, k2, n2⟩, -, X2, ⟨Lc2, hQ2, l2, y2, z2⟩, st2⟩ := X0.virtualBack hx (y := M38_) (z := M38_) hown (mvT hZ (own_m hw 116 rfl)) (mvT hZ (own_declares (own_m hw 117 rfl) (own_m hw 120 rfl))) (notFace_of_selects (args := #[]) (mvT hZ (own_m hw 119 rfl))) (mvT hZ (own_m hw 119 rfl)) (mvT hZ (own_m hw 117 rfl)) (by decide) (backOf (W := 0) (rmInf1 l Z a0 hw [] a sx cst cs h0 n0 Zc1 I1 OX hcst I6 I8 I12 I14 hlat) hZ (own_m hw 120 rfl) (own_m hw 48 rfl) (by decide) (by decide)) q2a q2c (g := (mkF m 2 #[.val (.ref a), .val (.int (Int32.ofNat k)), .val (.ref sx)] [(.ref sx), (.ref a)])) rfl (by rw [hml]; rfl) (Steps.refl _) (argsL := [(.ref sx)]) (rest := []) (lenOf pd__Ljava_lang_String__V rfl) rfl (by show 2 * 0 + _ ≤ _; exact Nat.le_of_eq rfl) (dd hy dJ68_73_2) (fun _ _ => ⟨rfl, e0, (by decide : 0 + 0 ≤ _), (by decide : 0 + 0 ≤ _)⟩)
  dsimp only [Pt.U, Pt.locs, Pt.cells, Pt.slots] at X2 l2 y2 z2 st2 hQ2
  subst l2 y2 z2
  obtain ⟨rfl, N2q, e2⟩ := hQ2
  have N2 := Fr.app N0 N2q
  obtain ⟨T3, X3, e3, st3⟩ := getF X2 hx hZ hown (host := "") (Or.inl (own_m hw 52 rfl)) Via.refl e2 I7 (g := (mkF m 7 #[.val (.ref a), .val (.int (Int32.ofNat k)), .val (.ref sx)] [(.ref a), (.ref sx)])) rfl rfl (dd hy dJ68_73_7)
  obtain ⟨T4, X4, e4, st4⟩ := getF X3 hx hZ hown (host := "") (Or.inl (own_m hw 54 rfl)) Via.refl e3 I8 (g := (mkF m 12 #[.val (.ref a), .val (.int (Int32.ofNat k)), .val (.ref sx)] [(.ref a), (.int (Int32.ofNat k)), (.ref va), (.ref sx)])) rfl rfl (dd hy dJ68_73_12)
  have Zc5 : n0 ≤ h0.size := by omega
  obtain ⟨cq6, kq6, q6a, q6b, q6c⟩ := isOf hZ e4 I12
  obtain ⟨_, _, ⟨T6, L6, k6, n6⟩, -, X6, ⟨Lc6, hQ6, l6, y6, z6⟩, st6⟩ := X4.virtualBack hx (y := M42_) (z := M42_) hown (mvT hZ (own_m hw 122 rfl)) (mvT hZ (own_m hw 123 rfl)) (notFace_of_selects (args := #[]) (mvT hZ (own_m hw 125 rfl))) (mvT hZ (own_m hw 125 rfl)) (mvT hZ (own_m hw 124 rfl)) (by decide) (backOf (W := 0) (rmGBi l Z a0 hw [] sx va cst sb ks cs kc xs k fmt h0 n0 Zc5 I1 I2 I3 I4 hfmt I5 OX hcst I12 I13 I14 I15 I11 hx32 gv hsv hlat hkc hchs) hZ (own_m hw 126 rfl) (own_m hw 7 rfl) (by decide) (by decide)) q6a q6c (g := (mkF m 15 #[.val (.ref a), .val (.int (Int32.ofNat k)), .val (.ref sx)] [(.int (1 : Int32)), (.int (Int32.ofNat k)), (.ref va), (.ref sx)])) rfl (by rw [hml]; rfl) (Steps.refl _) (argsL := [(.ref va), (.int (Int32.ofNat k)), (.int (1 : Int32))]) (rest := []) (lenOf pd___BIB_V rfl) rfl (by show 2 * 0 + _ ≤ _; exact Nat.le_of_eq rfl) (dd hy dJ68_73_15) (fun _ _ => ⟨rfl, e4, (by decide : 0 + 0 ≤ _), (by decide : 0 + 0 ≤ _)⟩)
  dsimp only [Pt.U, Pt.locs, Pt.cells, Pt.slots] at X6 l6 y6 z6 st6 hQ6
  subst l6 y6 z6
  obtain ⟨rfl, N6q, K6, Fq6_0⟩ := hQ6
  have N6 := Fr.app N2 N6q
  obtain ⟨h6, e6⟩ : ∃ z, T6.heap = z := ⟨_, rfl⟩
  rw [e6] at K6 Fq6_0
  have z7 : h0.size ≤ h6.size := K6.1
  have lt6_0 : @LT.lt Nat _ va h6.size := Fq6_0.lt
  have s8 : ∀ t_, Steps p.tables e below (T6.setTop (mkF m 18 #[.val (.ref a), .val (.int (Int32.ofNat k)), .val (.ref sx)] [])) t_ → Steps _ _ _ _ t_ := fun t_ k_ => pre0 t_ (by
    refine XS.aloadN X0.here hx rfl (dd hy dJ68_73_0) rfl rfl ?_
    refine XS.aloadN X0.here hx rfl (dd hy dJ68_73_1) rfl rfl ?_
    refine st2.trans ?_
    show Steps _ _ _ (T2.setTop (mkF m 5 #[.val (.ref a), .val (.int (Int32.ofNat k)), .val (.ref sx)] [])) _
    refine XS.aloadN X2.here hx rfl (dd hy dJ68_73_5) rfl rfl ?_
    refine XS.aloadN X2.here hx rfl (dd hy dJ68_73_6) rfl rfl ?_
    refine st3 _ ?_
    refine XS.iloadN X3.here hx rfl (dd hy dJ68_73_10) rfl ?_
    refine XS.aloadN X3.here hx rfl (dd hy dJ68_73_11) rfl rfl ?_
    refine st4 _ ?_
    show Steps _ _ _ (T4.setTop (mkF m 15 #[.val (.ref a), .val (.int (Int32.ofNat k)), .val (.ref sx)] [(.int (1 : Int32)), (.int (Int32.ofNat k)), (.ref va), (.ref sx)])) _
    refine st6.trans ?_
    show Steps _ _ _ (T6.setTop (mkF m 18 #[.val (.ref a), .val (.int (Int32.ofNat k)), .val (.ref sx)] [])) _
    exact k_)
  obtain ⟨fs, hr, hrun, hended, hW, hsame⟩ := X6.leave (v := none) (fun _ => rfl)
  refine ⟨_, _, s8 _ ?_, hrun, hended, _, _, rfl, ?_, ⟨_, rfl⟩, hW, hsame.mono (by decide) (by decide)⟩
  · exact X6.returnOut hx Bd.returns (dd hy dJ68_73_18) hr
  · show Q_rmPsaI Z _ _ _ _ _ _ _ _ _ _ _ h0 n0 _ T6.heap _
    rw [e6]
    exact ⟨rfl, N6, ((Keep.refl h0 [va]).trans K6 (allS (Or.inl (by simp)) all0)), Fq6_0⟩
theorem ef_rmAAppI (m : MethodId) (x0 : Addr) (x1 : Addr) : entryFrame m #[(.ref x0), (.ref x1)] 3 = mkF m 0 #[.val (.ref x0), .val (.ref x1), .unset] [] := by first | (simp [entryFrame, mkF, argsToLocals, Value.category]; done) | rfl
abbrev R_rmAAppI : Room := ({ frames := 7, cells := 0, slots := 0, locals := 105 } : Room)
def Q_rmAAppI (Z : State) (a : Addr) (sx : Addr) (cst : Int32) (sb : Addr) (ks : ClassId) (cs : List Int32) (va : Addr) (kc : ClassId) (xs : List Int32) (k : Nat) (fmt : Value) (h0 : Heap) (n0 : Nat) (v : Option Value) (h : Heap) (L : List Loc) : Prop := (v = some (.ref a)) ∧ (Fr n0 L) ∧ (Keep h0 h [a, va]) ∧ (Exa Z h a cB) ∧ (Fld Z h a cA "value" "[B" (.ref va)) ∧ (Fld Z h a cA "coder" "B" (.int (1 : Int32))) ∧ (Fld Z h a cA "count" "I" (.int (Int32.ofNat (k + cs.length)))) ∧ (Fld Z h a cA "maybeLatin1" "Z" (.int (0 : Int32))) ∧ (Arv Z h va kc .byte (Int32.ofNat (2 * 16)) ((own_pl xs cs k).map Value.int) v0_)
set_option maxRecDepth 65536 in
set_option maxHeartbeats 40000000 in
theorem rmAAppI (l : Launch) (Z : State) (a0 : Array Value) (hw : HW Z a0) (ws : List Jvm.Cond) (a : Addr) (sx : Addr) (cst : Int32) (sb : Addr) (ks : ClassId) (cs : List Int32) (va : Addr) (kc : ClassId) (xs : List Int32) (k : Nat) (fmt : Value) (h0 : Heap) (n0 : Nat) (Z0 : n0 ≤ h0.size) (I1 : Sta Z Z.heap cS cC "Z" (.int cst)) (I2 : Sta Z Z.heap cU cD "Z" (.int (1 : Int32))) (I3 : Sta Z Z.heap cU cH "I" (.int (0 : Int32))) (I4 : Sta Z Z.heap cU cL "I" (.int (8 : Int32))) (hfmt : fmt.isRef = true) (I5 : Sta Z Z.heap cP cG cF fmt) (OX : Old Z n0 h0) (hcst : ¬ (cst = (0 : Int32))) (I6 : Exa Z h0 a cB) (I7 : Fld Z h0 a cA "value" "[B" (.ref va)) (I8 : Fld Z h0 a cA "coder" "B" (.int (1 : Int32))) (I9 : Fld Z h0 a cA "count" "I" (.int (Int32.ofNat k))) (I10 : Fld Z h0 a cA "maybeLatin1" "Z" (.int (0 : Int32))) (I11 : Arv Z h0 va kc .byte (Int32.ofNat (2 * 16)) (xs.map Value.int) v0_) (I12 : Exa Z h0 sx cS) (I13 : Fld Z h0 sx cS "value" "[B" (.ref sb)) (I14 : Fld Z h0 sx cS "coder" "B" (.int (own_cod cs))) (I15 : Arv Z h0 sb ks .byte (Int32.ofNat (own_enl cs)) (own_enc cs) v0_) (hx32 : xs.length = 32) (ga : n0 ≤ a) (gv : n0 ≤ va) (hav : @Ne Nat a va) (hsv : @Ne Nat sb va) (hlat : own_lat cs) (hkc : k + cs.length ≤ 16) (hchs : own_chs cs) :
    MF l Z M44_ (Jvm.Cond.code M44_ jdk_68_method_22_code 3 (some (.object "java/lang/AbstractStringBuilder")) :: ws) R_rmAAppI #[(.ref a), (.ref sx)] h0 (Q_rmAAppI Z a sx cst sb ks cs va kc xs k fmt h0 n0) := by
  refine MetFree.of_bodySF (plainFor_of_name pn_java_lang_AbstractStringBuilder) hisR ?_
  intro p e s m args below meth c s₁ Bd hml0 hP hK
  obtain ⟨rfl, hZ, hh⟩ := hP
  have hx := Bd.exec
  have hy := Bd.bytes
  have hml : c.maxLocals = 3 := hml0
  have hown : s.vm.findClass "java/lang/AbstractStringBuilder" = some m.cls := findClass_of_methodNamed Bd.named
  have hnm := (name_of_methodNamed Bd.named Bd.method).1
  have X0 : Stand p l e R_rmAAppI s m #[(.ref a), (.ref sx)] below meth c s₁ [] 0 0 := Stand.of_body Bd
  have e0 : s₁.heap = h0 := by rw [← hh, Bd.state]; rfl
  have N0 := Fr.nil n0
  have pre0 := own_pre (p := p) (e := e) (below := below) (T := s₁) (ef_rmAAppI m a sx)
  have lt_I6 : @LT.lt Nat _ a h0.size := I6.lt
  have lt_I11 : @LT.lt Nat _ va h0.size := I11.lt
  have lt_I12 : @LT.lt Nat _ sx h0.size := I12.lt
  have lt_I15 : @LT.lt Nat _ sb h0.size := I15.lt
  have Zc1 : n0 ≤ h0.size := by omega
  obtain ⟨cq2, kq2, q2a, q2b, q2c⟩ := isOf hZ e0 I12
  obtain ⟨_, _, ⟨T2, L2, k2, n2⟩, -, X2, ⟨Lc2, hQ2, l2, y2, z2⟩, st2⟩ := X0.virtualBack hx (y := M11_) (z := M11_) hown (mvT hZ (own_m hw 103 rfl)) (mvT hZ (own_m hw 57 rfl)) (notFace_of_selects (args := #[]) (mvT hZ (own_m hw 59 rfl))) (mvT hZ (own_m hw 59 rfl)) (mvT hZ (own_m hw 58 rfl)) (by decide) (backOf (W := 0) (rmLen l Z a0 hw [] sx cst sb ks cs h0 n0 Zc1 I1 OX hcst I12 I13 I14 I15 (by omega)) hZ (own_m hw 60 rfl) (own_m hw 7 rfl) (by decide) (by decide)) q2a q2c (g := (mkF m 10 #[.val (.ref a), .val (.ref sx), .unset] [(.ref sx)])) rfl (by rw [hml]; rfl) (Steps.refl _) (argsL := []) (rest := []) (lenOf pd___I rfl) rfl (by show 2 * 0 + _ ≤ _; exact Nat.le_of_eq rfl) (dd hy dJ68_22_10) (fun _ _ => ⟨rfl, e0, (by decide : 0 + 0 ≤ _), (by decide : 0 + 0 ≤ _)⟩)
  dsimp only [Pt.U, Pt.locs, Pt.cells, Pt.slots] at X2 l2 y2 z2 st2 hQ2
  subst l2 y2 z2
  obtain ⟨rfl, N2q, e2⟩ := hQ2
  have N2 := Fr.app N0 N2q
  obtain ⟨T3, X3, e3, st3⟩ := getF X2 hx hZ hown (host := "") (Or.inl (own_m hw 104 rfl)) Via.refl e2 I9 (g := (mkF m 16 #[.val (.ref a), .val (.ref sx), .val (.int (Int32.ofNat cs.length))] [(.ref a), (.ref a)])) rfl rfl (dd hy dJ68_22_16)
  have Zc4 : n0 ≤ h0.size := by omega
  obtain ⟨cq5, kq5, q5a, q5b, q5c⟩ := isOf hZ e3 I6
  obtain ⟨_, _, ⟨T5, L5, k5, n5⟩, -, X5, ⟨Lc5, hQ5, l5, y5, z5⟩, st5⟩ := X3.virtualBack hx (y := M34_) (z := M34_) hown (mvT hZ (own_m hw 106 rfl)) (mvT hZ (own_declares (own_m hw 107 rfl) (own_m hw 110 rfl))) (notFace_of_selects (args := #[]) (mvT hZ (own_m hw 109 rfl))) (mvT hZ (own_m hw 109 rfl)) (mvT hZ (own_m hw 107 rfl)) (by decide) (backOf (W := 0) (rmEns1 l Z a0 hw [] a va kc xs (k + cs.length) h0 n0 Zc4 I7 I8 I11 (by first | assumption | omega | rfl | decide)) hZ (own_m hw 110 rfl) (own_m hw 48 rfl) (by decide) (by decide)) q5a q5c (g := (mkF m 21 #[.val (.ref a), .val (.ref sx), .val (.int (Int32.ofNat cs.length))] [(.int (Int32.ofNat (k + cs.length))), (.ref a)])) rfl (by rw [hml]; rfl) (Steps.refl _) (argsL := [(.int (Int32.ofNat (k + cs.length)))]) (rest := []) (lenOf pd__I_V rfl) rfl (by show 2 * 0 + _ ≤ _; exact Nat.le_of_eq rfl) (dd hy dJ68_22_21) (fun _ _ => ⟨rfl, e3, (by decide : 0 + 0 ≤ _), (by decide : 0 + 0 ≤ _)⟩)
  dsimp only [Pt.U, Pt.locs, Pt.cells, Pt.slots] at X5 l5 y5 z5 st5 hQ5
  subst l5 y5 z5
  obtain ⟨rfl, N5q, e5⟩ := hQ5
  have N5 := Fr.app N2 N5q
  obtain ⟨T6, X6, e6, st6⟩ := getF X5 hx hZ hown (host := "") (Or.inl (own_m hw 104 rfl)) Via.refl e5 I9 (g := (mkF m 26 #[.val (.ref a), .val (.ref sx), .val (.int (Int32.ofNat cs.length))] [(.ref a), (.ref a)])) rfl rfl (dd hy dJ68_22_26)
  have Zc7 : n0 ≤ h0.size := by omega
  obtain ⟨cq8, kq8, q8a, q8b, q8c⟩ := isOf hZ e6 I6
  obtain ⟨_, _, ⟨T8, L8, k8, n8⟩, -, X8, ⟨Lc8, hQ8, l8, y8, z8⟩, st8⟩ := X6.virtualBack hx (y := M43_) (z := M43_) hown (mvT hZ (own_m hw 111 rfl)) (mvT hZ (own_declares (own_m hw 112 rfl) (own_m hw 115 rfl))) (notFace_of_selects (args := #[]) (mvT hZ (own_m hw 114 rfl))) (mvT hZ (own_m hw 114 rfl)) (mvT hZ (own_m hw 112 rfl)) (by decide) (backOf (W := 0) (rmPsaI l Z a0 hw [] a sx cst sb ks cs va kc xs k fmt h0 n0 Zc7 I1 I2 I3 I4 hfmt I5 OX hcst I6 I7 I8 I9 I10 I11 I12 I13 I14 I15 hx32 ga gv hav hsv hlat hkc hchs) hZ (own_m hw 115 rfl) (own_m hw 48 rfl) (by decide) (by decide)) q8a q8c (g := (mkF m 30 #[.val (.ref a), .val (.ref sx), .val (.int (Int32.ofNat cs.length))] [(.ref sx), (.int (Int32.ofNat k)), (.ref a)])) rfl (by rw [hml]; rfl) (Steps.refl _) (argsL := [(.int (Int32.ofNat k)), (.ref sx)]) (rest := []) (lenOf pd__ILjava_lang_String__V rfl) rfl (by show 2 * 0 + _ ≤ _; exact Nat.le_of_eq rfl) (dd hy dJ68_22_30) (fun _ _ => ⟨rfl, e6, (by decide : 0 + 0 ≤ _), (by decide : 0 + 0 ≤ _)⟩)
  dsimp only [Pt.U, Pt.locs, Pt.cells, Pt.slots] at X8 l8 y8 z8 st8 hQ8
  subst l8 y8 z8
  obtain ⟨rfl, N8q, K8, Fq8_0⟩ := hQ8
  have N8 := Fr.app N5 N8q
  obtain ⟨h8, e8⟩ : ∃ z, T8.heap = z := ⟨_, rfl⟩
  rw [e8] at K8 Fq8_0
  have z9 : h0.size ≤ h8.size := K8.1
  have lt8_0 : @LT.lt Nat _ va h8.size := Fq8_0.lt
  have f10 : Fld Z h8 a cA "count" "I" (.int (Int32.ofNat k)) := (I9.keep K8 (ninS (show @Ne Nat a va by omega) nin0))
  obtain ⟨T11, X11, e11, st11⟩ := getF X8 hx hZ hown (host := "") (Or.inl (own_m hw 104 rfl)) Via.refl e8 f10 (g := (mkF m 35 #[.val (.ref a), .val (.ref sx), .val (.int (Int32.ofNat cs.length))] [(.ref a), (.ref a)])) rfl rfl (dd hy dJ68_22_35)
  have f12 : Exa Z h8 a cB := (I6.keep K8)
  obtain ⟨T13, h13, X13, e13, W13, st13⟩ := putF X11 hx hZ hown (host := "") (Or.inl (own_m hw 104 rfl)) Via.refl e11 f10 f12 (Or.inl (own_m hw 105 rfl)) (own_m hw 39 rfl) (ty := .int) (by decide) rfl rfl (g := (mkF m 40 #[.val (.ref a), .val (.ref sx), .val (.int (Int32.ofNat cs.length))] [(.int (Int32.ofNat (k + cs.length))), (.ref a)])) rfl rfl (dd hy dJ68_22_40)
  have z14 : h8.size ≤ h13.size := Nat.le_of_eq W13.size.symm
  have F13 : Fld Z h13 a cA "count" "I" (.int (Int32.ofNat (k + cs.length))) := f10.same W13
  have N13 := Fr.snoc X13 N8 (show n0 ≤ a by omega)
  have s15 : ∀ t_, Steps p.tables e below (T13.setTop (mkF m 44 #[.val (.ref a), .val (.ref sx), .val (.int (Int32.ofNat cs.length))] [(.ref a)])) t_ → Steps _ _ _ _ t_ := fun t_ k_ => pre0 t_ (by
    refine XS.aloadN X0.here hx rfl (dd hy dJ68_22_0) rfl rfl ?_
    refine XS.ifnonnullYes X0.here hx rfl (pc0 := 1) (pc' := 9) rfl (dd hy dJ68_22_1) rfl (by decide) (by decide) ?_
    show Steps _ _ _ (s₁.setTop (mkF m 9 #[.val (.ref a), .val (.ref sx), .unset] [])) _
    refine XS.aloadN X0.here hx rfl (dd hy dJ68_22_9) rfl rfl ?_
    refine st2.trans ?_
    show Steps _ _ _ (T2.setTop (mkF m 13 #[.val (.ref a), .val (.ref sx), .unset] [(.int (Int32.ofNat cs.length))])) _
    refine XS.istoreN X2.here hx rfl (dd hy dJ68_22_13) rfl (l' := #[.val (.ref a), .val (.ref sx), .val (.int (Int32.ofNat cs.length))]) rfl ?_
    refine XS.aloadN X2.here hx rfl (dd hy dJ68_22_14) rfl rfl ?_
    refine XS.aloadN X2.here hx rfl (dd hy dJ68_22_15) rfl rfl ?_
    refine st3 _ ?_
    refine XS.iloadN X3.here hx rfl (dd hy dJ68_22_19) rfl ?_
    refine XS.iadd X3.here hx rfl (dd hy dJ68_22_20) rfl ?_
    show Steps _ _ _ (T3.setTop (mkF m 21 #[.val (.ref a), .val (.ref sx), .val (.int (Int32.ofNat cs.length))] [(.int ((Int32.ofNat k) + (Int32.ofNat cs.length))), (.ref a)])) _
    refine castTop (g' := (mkF m 21 #[.val (.ref a), .val (.ref sx), .val (.int (Int32.ofNat cs.length))] [(.int (Int32.ofNat (k + cs.length))), (.ref a)])) (by rw [own_addn]) ?_
    show Steps _ _ _ (T3.setTop (mkF m 21 #[.val (.ref a), .val (.ref sx), .val (.int (Int32.ofNat cs.length))] [(.int (Int32.ofNat (k + cs.length))), (.ref a)])) _
    refine st5.trans ?_
    show Steps _ _ _ (T5.setTop (mkF m 24 #[.val (.ref a), .val (.ref sx), .val (.int (Int32.ofNat cs.length))] [])) _
    refine XS.aloadN X5.here hx rfl (dd hy dJ68_22_24) rfl rfl ?_
    refine XS.aloadN X5.here hx rfl (dd hy dJ68_22_25) rfl rfl ?_
    refine st6 _ ?_
    refine XS.aloadN X6.here hx rfl (dd hy dJ68_22_29) rfl rfl ?_
    refine st8.trans ?_
    show Steps _ _ _ (T8.setTop (mkF m 33 #[.val (.ref a), .val (.ref sx), .val (.int (Int32.ofNat cs.length))] [])) _
    refine XS.aloadN X8.here hx rfl (dd hy dJ68_22_33) rfl rfl ?_
    refine XS.dup X8.here hx rfl (dd hy dJ68_22_34) rfl rfl ?_
    refine st11 _ ?_
    refine XS.iloadN X11.here hx rfl (dd hy dJ68_22_38) rfl ?_
    refine XS.iadd X11.here hx rfl (dd hy dJ68_22_39) rfl ?_
    show Steps _ _ _ (T11.setTop (mkF m 40 #[.val (.ref a), .val (.ref sx), .val (.int (Int32.ofNat cs.length))] [(.int ((Int32.ofNat k) + (Int32.ofNat cs.length))), (.ref a)])) _
    refine castTop (g' := (mkF m 40 #[.val (.ref a), .val (.ref sx), .val (.int (Int32.ofNat cs.length))] [(.int (Int32.ofNat (k + cs.length))), (.ref a)])) (by rw [own_addn]) ?_
    show Steps _ _ _ (T11.setTop (mkF m 40 #[.val (.ref a), .val (.ref sx), .val (.int (Int32.ofNat cs.length))] [(.int (Int32.ofNat (k + cs.length))), (.ref a)])) _
    refine st13 _ ?_
    refine XS.aloadN X13.here hx rfl (dd hy dJ68_22_43) rfl rfl ?_
    exact k_)
  obtain ⟨fs, hr, hrun, hended, hW, hsame⟩ := X13.leave (v := some (.ref a)) (fun h => by rw [Bd.returns] at h; cases h)
  have f16 : Exa Z h13 a cB := (f12.wr W13)
  have f17 : Fld Z h13 a cA "value" "[B" (.ref va) := ((I7.keep K8 (ninS (show @Ne Nat a va by omega) nin0)).other W13 (Or.inr (slot_ne (Or.inl (own_m hw 53 rfl)) (Or.inl (own_m hw 105 rfl)) (by decide) (t := (.array .byte)) (t' := .int) (by decide) (by decide))))
  have f18 : Fld Z h13 a cA "coder" "B" (.int (1 : Int32)) := ((I8.keep K8 (ninS (show @Ne Nat a va by omega) nin0)).other W13 (Or.inr (slot_ne (Or.inl (own_m hw 55 rfl)) (Or.inl (own_m hw 105 rfl)) (by decide) (t := .byte) (t' := .int) (by decide) (by decide))))
  have f19 : Fld Z h13 a cA "maybeLatin1" "Z" (.int (0 : Int32)) := ((I10.keep K8 (ninS (show @Ne Nat a va by omega) nin0)).other W13 (Or.inr (slot_ne (Or.inl (own_m hw 251 rfl)) (Or.inl (own_m hw 105 rfl)) (by decide) (t := .boolean) (t' := .int) (by decide) (by decide))))
  have f20 : Arv Z h13 va kc .byte (Int32.ofNat (2 * 16)) ((own_pl xs cs k).map Value.int) v0_ := (Fq8_0.other W13 (show @Ne Nat va a by omega))
  refine ⟨_, _, s15 _ ?_, hrun, hended, _, _, rfl, ?_, ⟨_, rfl⟩, hW, hsame.mono (by decide) (by decide)⟩
  · jvm_step X13.here [X13.here.top, hx, (dd hy dJ68_22_44), X13.method', Bd.returns, Value.isRef, FieldType.isReference]
    first | (intro acts; rw [hr _ acts rfl rfl rfl]) | rw [hr _ _ rfl rfl rfl]
    exact Steps.refl _
  · show Q_rmAAppI Z _ _ _ _ _ _ _ _ _ _ _ h0 n0 _ T13.heap _
    rw [e13]
    exact ⟨rfl, N13, (((Keep.refl h0 [a, va]).trans K8 (allS (Or.inl (by simp)) all0)).wr W13 (Or.inl (by simp))), f16, f17, f18, F13, f19, f20⟩
theorem ef_rmSAppI (m : MethodId) (x0 : Addr) (x1 : Addr) : entryFrame m #[(.ref x0), (.ref x1)] 2 = mkF m 0 #[.val (.ref x0), .val (.ref x1)] [] := by first | (simp [entryFrame, mkF, argsToLocals, Value.category]; done) | rfl
abbrev R_rmSAppI : Room := ({ frames := 8, cells := 0, slots := 0, locals := 119 } : Room)
def Q_rmSAppI (Z : State) (a : Addr) (sx : Addr) (cst : Int32) (sb : Addr) (ks : ClassId) (cs : List Int32) (va : Addr) (kc : ClassId) (xs : List Int32) (k : Nat) (fmt : Value) (h0 : Heap) (n0 : Nat) (v : Option Value) (h : Heap) (L : List Loc) : Prop := (v = some (.ref a)) ∧ (Fr n0 L) ∧ (Keep h0 h [a, va]) ∧ (Exa Z h a cB) ∧ (Fld Z h a cA "value" "[B" (.ref va)) ∧ (Fld Z h a cA "coder" "B" (.int (1 : Int32))) ∧ (Fld Z h a cA "count" "I" (.int (Int32.ofNat (k + cs.length)))) ∧ (Fld Z h a cA "maybeLatin1" "Z" (.int (0 : Int32))) ∧ (Arv Z h va kc .byte (Int32.ofNat (2 * 16)) ((own_pl xs cs k).map Value.int) v0_)
set_option maxRecDepth 65536 in
set_option maxHeartbeats 40000000 in
theorem rmSAppI (l : Launch) (Z : State) (a0 : Array Value) (hw : HW Z a0) (ws : List Jvm.Cond) (a : Addr) (sx : Addr) (cst : Int32) (sb : Addr) (ks : ClassId) (cs : List Int32) (va : Addr) (kc : ClassId) (xs : List Int32) (k : Nat) (fmt : Value) (h0 : Heap) (n0 : Nat) (Z0 : n0 ≤ h0.size) (I1 : Sta Z Z.heap cS cC "Z" (.int cst)) (I2 : Sta Z Z.heap cU cD "Z" (.int (1 : Int32))) (I3 : Sta Z Z.heap cU cH "I" (.int (0 : Int32))) (I4 : Sta Z Z.heap cU cL "I" (.int (8 : Int32))) (hfmt : fmt.isRef = true) (I5 : Sta Z Z.heap cP cG cF fmt) (OX : Old Z n0 h0) (hcst : ¬ (cst = (0 : Int32))) (I6 : Exa Z h0 a cB) (I7 : Fld Z h0 a cA "value" "[B" (.ref va)) (I8 : Fld Z h0 a cA "coder" "B" (.int (1 : Int32))) (I9 : Fld Z h0 a cA "count" "I" (.int (Int32.ofNat k))) (I10 : Fld Z h0 a cA "maybeLatin1" "Z" (.int (0 : Int32))) (I11 : Arv Z h0 va kc .byte (Int32.ofNat (2 * 16)) (xs.map Value.int) v0_) (I12 : Exa Z h0 sx cS) (I13 : Fld Z h0 sx cS "value" "[B" (.ref sb)) (I14 : Fld Z h0 sx cS "coder" "B" (.int (own_cod cs))) (I15 : Arv Z h0 sb ks .byte (Int32.ofNat (own_enl cs)) (own_enc cs) v0_) (hx32 : xs.length = 32) (ga : n0 ≤ a) (gv : n0 ≤ va) (hav : @Ne Nat a va) (hsv : @Ne Nat sb va) (hlat : own_lat cs) (hkc : k + cs.length ≤ 16) (hchs : own_chs cs) :
    MF l Z M45_ (Jvm.Cond.code M45_ jdk_67_method_7_code 2 (some (.object "java/lang/StringBuilder")) :: ws) R_rmSAppI #[(.ref a), (.ref sx)] h0 (Q_rmSAppI Z a sx cst sb ks cs va kc xs k fmt h0 n0) := by
  refine MetFree.of_bodySF (plainFor_of_name pn_java_lang_StringBuilder) hisR ?_
  intro p e s m args below meth c s₁ Bd hml0 hP hK
  obtain ⟨rfl, hZ, hh⟩ := hP
  have hx := Bd.exec
  have hy := Bd.bytes
  have hml : c.maxLocals = 2 := hml0
  have hown : s.vm.findClass "java/lang/StringBuilder" = some m.cls := findClass_of_methodNamed Bd.named
  have hnm := (name_of_methodNamed Bd.named Bd.method).1
  have X0 : Stand p l e R_rmSAppI s m #[(.ref a), (.ref sx)] below meth c s₁ [] 0 0 := Stand.of_body Bd
  have e0 : s₁.heap = h0 := by rw [← hh, Bd.state]; rfl
  have N0 := Fr.nil n0
  have pre0 := own_pre (p := p) (e := e) (below := below) (T := s₁) (ef_rmSAppI m a sx)
  have lt_I6 : @LT.lt Nat _ a h0.size := I6.lt
  have lt_I11 : @LT.lt Nat _ va h0.size := I11.lt
  have lt_I12 : @LT.lt Nat _ sx h0.size := I12.lt
  have lt_I15 : @LT.lt Nat _ sb h0.size := I15.lt
  have Zc1 : n0 ≤ h0.size := by omega
  obtain ⟨_, _, ⟨T2, L2, k2, n2⟩, -, X2, ⟨Lc2, hQ2, l2, y2, z2⟩, st2⟩ := superBack X0 hx hZ (y := M44_) hown (own_m hw 98 rfl) (own_same (own_m hw 99 rfl) (own_nf (y := M44_) (z := M34_) rfl (own_m hw 109 rfl)) (by decide)) (own_m hw 99 rfl) (own_m hw 100 rfl) (by decide) (backOf (W := 0) (rmAAppI l Z a0 hw [] a sx cst sb ks cs va kc xs k fmt h0 n0 Zc1 I1 I2 I3 I4 hfmt I5 OX hcst I6 I7 I8 I9 I10 I11 I12 I13 I14 I15 hx32 ga gv hav hsv hlat hkc hchs) hZ (own_m hw 102 rfl) (own_m hw 48 rfl) (by decide) (by decide)) e0 (Ins.self I6) (g := (mkF m 2 #[.val (.ref a), .val (.ref sx)] [(.ref sx), (.ref a)])) rfl (by rw [hml]; rfl) (own_m hw 102 rfl) (argsL := [(.ref sx)]) (rest := []) (lenOf pd__Ljava_lang_String__Ljava_lang_AbstractStringBuilder_ rfl) rfl (by show 2 * 0 + _ ≤ _; exact Nat.le_of_eq rfl) (dd hy dJ67_7_2) (fun _ _ => ⟨rfl, e0, (by decide : 0 + 0 ≤ _), (by decide : 0 + 0 ≤ _)⟩)
  dsimp only [Pt.U, Pt.locs, Pt.cells, Pt.slots] at X2 l2 y2 z2 st2 hQ2
  subst l2 y2 z2
  obtain ⟨rfl, N2q, K2, Fq2_0, Fq2_1, Fq2_2, Fq2_3, Fq2_4, Fq2_5⟩ := hQ2
  have N2 := Fr.app N0 N2q
  obtain ⟨h2, e2⟩ : ∃ z, T2.heap = z := ⟨_, rfl⟩
  rw [e2] at K2 Fq2_0 Fq2_1 Fq2_2 Fq2_3 Fq2_4 Fq2_5
  have z3 : h0.size ≤ h2.size := K2.1
  have lt2_0 : @LT.lt Nat _ a h2.size := Fq2_0.lt
  have lt2_5 : @LT.lt Nat _ va h2.size := Fq2_5.lt
  have s4 : ∀ t_, Steps p.tables e below (T2.setTop (mkF m 7 #[.val (.ref a), .val (.ref sx)] [(.ref a)])) t_ → Steps _ _ _ _ t_ := fun t_ k_ => pre0 t_ (by
    refine XS.aloadN X0.here hx rfl (dd hy dJ67_7_0) rfl rfl ?_
    refine XS.aloadN X0.here hx rfl (dd hy dJ67_7_1) rfl rfl ?_
    refine st2.trans ?_
    show Steps _ _ _ (T2.setTop (mkF m 5 #[.val (.ref a), .val (.ref sx)] [(.ref a)])) _
    refine XS.pop X2.here hx rfl (dd hy dJ67_7_5) rfl rfl ?_
    refine XS.aloadN X2.here hx rfl (dd hy dJ67_7_6) rfl rfl ?_
    exact k_)
  obtain ⟨fs, hr, hrun, hended, hW, hsame⟩ := X2.leave (v := some (.ref a)) (fun h => by rw [Bd.returns] at h; cases h)
  refine ⟨_, _, s4 _ ?_, hrun, hended, _, _, rfl, ?_, ⟨_, rfl⟩, hW, hsame.mono (by decide) (by decide)⟩
  · jvm_step X2.here [X2.here.top, hx, (dd hy dJ67_7_7), X2.method', Bd.returns, Value.isRef, FieldType.isReference]
    first | (intro acts; rw [hr _ acts rfl rfl rfl]) | rw [hr _ _ rfl rfl rfl]
    exact Steps.refl _
  · show Q_rmSAppI Z _ _ _ _ _ _ _ _ _ _ _ h0 n0 _ T2.heap _
    rw [e2]
    exact ⟨rfl, N2, ((Keep.refl h0 [a, va]).trans K2 (allS (Or.inl (by simp)) (allS (Or.inl (by simp)) all0))), Fq2_0, Fq2_1, Fq2_2, Fq2_3, Fq2_4, Fq2_5⟩
theorem dJ42_150_0 : decode CJ42_150 0 = .ok (.aload_n 0, 1) := by decide +kernel
theorem dJ42_150_1 : decode CJ42_150 1 = .ok (.invokespecial 1, 3) := by decide +kernel
theorem dJ42_150_4 : decode CJ42_150 4 = .ok (.aload_n 1, 1) := by decide +kernel
theorem pd____B : parseMethodDescriptor "()[B" = some ⟨[], some (.array .byte)⟩ := by decide +kernel
theorem dJ42_150_5 : decode CJ42_150 5 = .ok (.invokevirtual 552, 3) := by decide +kernel
theorem dJ42_150_8 : decode CJ42_150 8 = .ok (.astore_n 3, 1) := by decide +kernel
theorem dJ42_150_9 : decode CJ42_150 9 = .ok (.aload_n 1, 1) := by decide +kernel
theorem dJ42_150_10 : decode CJ42_150 10 = .ok (.invokevirtual 549, 3) := by decide +kernel
theorem dJ42_150_13 : decode CJ42_150 13 = .ok (.istore 4, 2) := by decide +kernel
theorem dJ42_150_15 : decode CJ42_150 15 = .ok (.aload_n 1, 1) := by decide +kernel
theorem dJ42_150_16 : decode CJ42_150 16 = .ok (.invokevirtual 1047, 3) := by decide +kernel
theorem dJ42_150_19 : decode CJ42_150 19 = .ok (.ifCond .eq 22, 3) := by decide +kernel
theorem dJ42_150_22 : decode CJ42_150 22 = .ok (.aload_n 0, 1) := by decide +kernel
theorem dJ42_150_23 : decode CJ42_150 23 = .ok (.iconst 0, 1) := by decide +kernel
theorem dJ42_150_24 : decode CJ42_150 24 = .ok (.putfield 15, 3) := by decide +kernel
theorem dJ42_150_27 : decode CJ42_150 27 = .ok (.aload_n 0, 1) := by decide +kernel
theorem dJ42_150_28 : decode CJ42_150 28 = .ok (.aload_n 3, 1) := by decide +kernel
theorem dJ42_150_29 : decode CJ42_150 29 = .ok (.iconst 0, 1) := by decide +kernel
theorem dJ42_150_30 : decode CJ42_150 30 = .ok (.iload 4, 2) := by decide +kernel
theorem dJ42_150_32 : decode CJ42_150 32 = .ok (.invokestatic 54, 3) := by decide +kernel
theorem dJ42_150_35 : decode CJ42_150 35 = .ok (.putfield 9, 3) := by decide +kernel
theorem dJ42_150_38 : decode CJ42_150 38 = .ok (.goto 59, 3) := by decide +kernel
theorem dJ42_150_97 : decode CJ42_150 97 = .ok (.return_, 1) := by decide +kernel
theorem ef_rmSAV (m : MethodId) (x0 : Addr) (x1 : Addr) : entryFrame m #[(.ref x0), (.ref x1), .null] 5 = mkF m 0 #[.val (.ref x0), .val (.ref x1), .val .null, .unset, .unset] [] := by first | (simp [entryFrame, mkF, argsToLocals, Value.category]; done) | rfl
abbrev R_rmSAV : Room := ({ frames := 3, cells := 1, slots := 32, locals := 71 } : Room)
def Q_rmSAV (Z : State) (a : Addr) (sb_ : Addr) (cst : Int32) (va : Addr) (kc : ClassId) (xs : List Int32) (k : Nat) (ts : List Int32) (h0 : Heap) (n0 : Nat) (v : Option Value) (h : Heap) (L : List Loc) : Prop := ∃ (b : Addr), ∃ (kb : ClassId), (v = none) ∧ (Fr n0 L) ∧ (Keep h0 h [a]) ∧ (Exa Z h a cS) ∧ (Fld Z h a cS "value" "[B" (.ref b)) ∧ (Fld Z h a cS "coder" "B" (.int (own_cod ts))) ∧ (Arv Z h b kb .byte (Int32.ofNat (own_enl ts)) (own_enc ts) v0_) ∧ (h0.size ≤ b)
set_option maxRecDepth 65536 in
set_option maxHeartbeats 40000000 in
theorem rmSAV (l : Launch) (Z : State) (a0 : Array Value) (hw : HW Z a0) (ws : List Jvm.Cond) (a : Addr) (sb_ : Addr) (cst : Int32) (va : Addr) (kc : ClassId) (xs : List Int32) (k : Nat) (ts : List Int32) (h0 : Heap) (n0 : Nat) (Z0 : n0 ≤ h0.size) (I1 : Sta Z Z.heap cS cC "Z" (.int cst)) (OX : Old Z n0 h0) (hcst : ¬ (cst = (0 : Int32))) (I2 : Exa Z h0 sb_ cB) (I3 : Fld Z h0 sb_ cA "value" "[B" (.ref va)) (I4 : Fld Z h0 sb_ cA "coder" "B" (.int (0 : Int32))) (I5 : Fld Z h0 sb_ cA "count" "I" (.int (Int32.ofNat k))) (I6 : Fld Z h0 sb_ cA "maybeLatin1" "Z" (.int (0 : Int32))) (I7 : Arv Z h0 va kc .byte (16 : Int32) (xs.map Value.int) v0_) (hx16 : xs.length = 16) (hk16 : k < 16) (hts : xs.take k = ts.map own_lo) (hlt : own_lat ts) (htl : ts.length = k) (I8 : Exa Z h0 a cS) (I9 : Fld Z h0 a cS "value" "[B" .null) (I10 : Fld Z h0 a cS "coder" "B" (.int (0 : Int32))) (ga : n0 ≤ a) (hax : @Ne Nat a sb_) (hav : @Ne Nat a va) :
    MF l Z M46_ (Jvm.Cond.code M46_ jdk_42_method_150_code 5 none :: ws) R_rmSAV #[(.ref a), (.ref sb_), .null] h0 (Q_rmSAV Z a sb_ cst va kc xs k ts h0 n0) := by
  refine MetFree.of_bodySF (plainFor_of_name pn_java_lang_String) hisR ?_
  intro p e s m args below meth c s₁ Bd hml0 hP hK
  obtain ⟨rfl, hZ, hh⟩ := hP
  have hx := Bd.exec
  have hy := Bd.bytes
  have hml : c.maxLocals = 5 := hml0
  have hown : s.vm.findClass "java/lang/String" = some m.cls := findClass_of_methodNamed Bd.named
  have hnm := (name_of_methodNamed Bd.named Bd.method).1
  have X0 : Stand p l e R_rmSAV s m #[(.ref a), (.ref sb_), .null] below meth c s₁ [] 0 0 := Stand.of_body Bd
  have e0 : s₁.heap = h0 := by rw [← hh, Bd.state]; rfl
  have N0 := Fr.nil n0
  have pre0 := own_pre (p := p) (e := e) (below := below) (T := s₁) (ef_rmSAV m a sb_)
  have lt_I2 : @LT.lt Nat _ sb_ h0.size := I2.lt
  have lt_I7 : @LT.lt Nat _ va h0.size := I7.lt
  have lt_I8 : @LT.lt Nat _ a h0.size := I8.lt
  obtain ⟨T1, X1, e1, st1⟩ := initO X0 hx hZ hown (own_m hw 15 rfl) (own_m hw 16 rfl) (own_m hw 17 rfl) e0 (g := (mkF m 1 #[.val (.ref a), .val (.ref sb_), .val .null, .unset, .unset] [(.ref a)])) rfl (by rw [hml]; rfl) rfl (dd hy dJ42_150_1) (by decide) (W := 0) (by show 2 * 0 + _ ≤ _; exact Nat.le_of_eq rfl) (by decide)
  have Zc2 : n0 ≤ h0.size := by omega
  obtain ⟨cq3, kq3, q3a, q3b, q3c⟩ := isOf hZ e1 I2
  obtain ⟨_, _, ⟨T3, L3, k3, n3⟩, -, X3, ⟨Lc3, hQ3, l3, y3, z3⟩, st3⟩ := X1.virtualBack hx (y := M36_) (z := M36_) hown (mvT hZ (own_m hw 144 rfl)) (mvT hZ (own_m hw 145 rfl)) (notFace_of_selects (args := #[]) (mvT hZ (own_m hw 147 rfl))) (mvT hZ (own_m hw 147 rfl)) (mvT hZ (own_m hw 146 rfl)) (by decide) (backOf (W := 0) (rmGV l Z a0 hw [] sb_ va h0 n0 Zc2 I3) hZ (own_m hw 148 rfl) (own_m hw 48 rfl) (by decide) (by decide)) q3a q3c (g := (mkF m 5 #[.val (.ref a), .val (.ref sb_), .val .null, .unset, .unset] [(.ref sb_)])) rfl (by rw [hml]; rfl) (Steps.refl _) (argsL := []) (rest := []) (lenOf pd____B rfl) rfl (by show 2 * 0 + _ ≤ _; exact Nat.le_of_eq rfl) (dd hy dJ42_150_5) (fun _ _ => ⟨rfl, e1, (by decide : 0 + 0 ≤ _), (by decide : 0 + 0 ≤ _)⟩)
  dsimp only [Pt.U, Pt.locs, Pt.cells, Pt.slots] at X3 l3 y3 z3 st3 hQ3
  subst l3 y3 z3
  obtain ⟨rfl, N3q, e3⟩ := hQ3
  have N3 := Fr.app N0 N3q
  have Zc4 : n0 ≤ h0.size := by omega
  obtain ⟨cq5, kq5, q5a, q5b, q5c⟩ := isOf hZ e3 I2
  obtain ⟨_, _, ⟨T5, L5, k5, n5⟩, -, X5, ⟨Lc5, hQ5, l5, y5, z5⟩, st5⟩ := X3.virtualBack hx (y := M33_) (z := M35_) hown (mvT hZ (own_m hw 149 rfl)) (mvT hZ (own_m hw 150 rfl)) (own_nf (a0 := #[]) (y := M33_) (z := M34_) rfl (mvT hZ (own_m hw 109 rfl))) (mvT hZ (own_m hw 152 rfl)) (mvT hZ (own_m hw 153 rfl)) (by decide) (backOf (W := 0) (rmSLen l Z a0 hw [] sb_ (Int32.ofNat k) h0 n0 Zc4 I2 I5) hZ (own_m hw 154 rfl) (own_m hw 40 rfl) (by decide) (by decide)) q5a q5c (g := (mkF m 10 #[.val (.ref a), .val (.ref sb_), .val .null, .val (.ref va), .unset] [(.ref sb_)])) rfl (by rw [hml]; rfl) (Steps.refl _) (argsL := []) (rest := []) (lenOf pd___I rfl) rfl (by show 2 * 0 + _ ≤ _; exact Nat.le_of_eq rfl) (dd hy dJ42_150_10) (fun _ _ => ⟨rfl, e3, (by decide : 0 + 0 ≤ _), (by decide : 0 + 0 ≤ _)⟩)
  dsimp only [Pt.U, Pt.locs, Pt.cells, Pt.slots] at X5 l5 y5 z5 st5 hQ5
  subst l5 y5 z5
  obtain ⟨rfl, N5q, e5⟩ := hQ5
  have N5 := Fr.app N3 N5q
  have Zc6 : n0 ≤ h0.size := by omega
  obtain ⟨cq7, kq7, q7a, q7b, q7c⟩ := isOf hZ e5 I2
  obtain ⟨_, _, ⟨T7, L7, k7, n7⟩, -, X7, ⟨Lc7, hQ7, l7, y7, z7⟩, st7⟩ := X5.virtualBack hx (y := M37_) (z := M37_) hown (mvT hZ (own_m hw 157 rfl)) (mvT hZ (own_m hw 158 rfl)) (notFace_of_selects (args := #[]) (mvT hZ (own_m hw 160 rfl))) (mvT hZ (own_m hw 160 rfl)) (mvT hZ (own_m hw 159 rfl)) (by decide) (backOf (W := 0) (rmALat l Z a0 hw [] sb_ cst h0 n0 Zc6 I1 OX hcst I4) hZ (own_m hw 161 rfl) (own_m hw 48 rfl) (by decide) (by decide)) q7a q7c (g := (mkF m 16 #[.val (.ref a), .val (.ref sb_), .val .null, .val (.ref va), .val (.int (Int32.ofNat k))] [(.ref sb_)])) rfl (by rw [hml]; rfl) (Steps.refl _) (argsL := []) (rest := []) (lenOf pd___Z rfl) rfl (by show 2 * 0 + _ ≤ _; exact Nat.le_of_eq rfl) (dd hy dJ42_150_16) (fun _ _ => ⟨rfl, e5, (by decide : 0 + 0 ≤ _), (by decide : 0 + 0 ≤ _)⟩)
  dsimp only [Pt.U, Pt.locs, Pt.cells, Pt.slots] at X7 l7 y7 z7 st7 hQ7
  subst l7 y7 z7
  obtain ⟨rfl, N7q, e7⟩ := hQ7
  have N7 := Fr.app N5 N7q
  obtain ⟨T8, h8, X8, e8, W8, st8⟩ := putFN X7 hx hZ hown (own_m hw 30 rfl) Via.refl e7 I10 I8 (Or.inr ⟨(own_m hw 31 rfl), rfl, hnm⟩) (own_m hw 6 rfl) (ty := .byte) (v' := (.int (0 : Int32))) (by decide) rfl rfl (g := (mkF m 24 #[.val (.ref a), .val (.ref sb_), .val .null, .val (.ref va), .val (.int (Int32.ofNat k))] [(.int (0 : Int32)), (.ref a)])) rfl rfl (dd hy dJ42_150_24)
  have z9 : h0.size ≤ h8.size := Nat.le_of_eq W8.size.symm
  have F8 : Fld Z h8 a cS "coder" "B" (.int (0 : Int32)) := I10.same W8
  have N8 := Fr.snoc X8 N7 (show n0 ≤ a by omega)
  have f10 : Arv Z h8 va kc .byte (16 : Int32) (xs.map Value.int) v0_ := (I7.other W8 (show @Ne Nat va a by omega))
  have V11 : Arv Z h8 va kc .byte (Int32.ofNat xs.length) (xs.map Value.int) v0_ := by rw [hx16]; exact f10
  have Zc12 : n0 ≤ h8.size := by omega
  obtain ⟨_, _, ⟨T13, L13, k13, n13⟩, -, X13, ⟨Lc13, hQ13, l13, y13, z13⟩, st13⟩ := Jvm.LawKit.callS X8 hx (y := M18_) hown (mvT hZ (own_m hw 162 rfl)) (mvT hZ (own_m hw 163 rfl)) (mvT hZ (own_m hw 164 rfl)) (mvT hZ (own_m hw 165 rfl)) (by decide) (backOf (W := 1) (rmCR l Z a0 hw [] va kc xs k h8 n0 Zc12 V11 (by omega) (by omega)) hZ (own_m hw 165 rfl) (own_m hw 164 rfl) (by decide) (by decide)) (g := (mkF m 32 #[.val (.ref a), .val (.ref sb_), .val .null, .val (.ref va), .val (.int (Int32.ofNat k))] [(.int (Int32.ofNat k)), (.int (0 : Int32)), (.ref va), (.ref a)])) rfl (by rw [hml]; rfl) (argsL := [(.ref va), (.int (0 : Int32)), (.int (Int32.ofNat k))]) (rest := [(.ref a)]) (lenOf pd___BII__B rfl) rfl (by show 2 * 0 + _ ≤ _; exact Nat.le_of_eq rfl) (dd hy dJ42_150_32) (fun _ _ => ⟨rfl, e8, (by decide : 0 + 1 ≤ _), (by decide : 0 + 32 ≤ _)⟩)
  dsimp only [Pt.U, Pt.locs, Pt.cells, Pt.slots] at X13 l13 y13 z13 st13 hQ13
  subst l13 y13 z13
  obtain ⟨b_13, kb_13, rfl, N13q, K13, Fq13_0, P13_0⟩ := hQ13
  have N13 := Fr.app N8 N13q
  obtain ⟨h13, e13⟩ : ∃ z, T13.heap = z := ⟨_, rfl⟩
  rw [e13] at K13 Fq13_0
  have z14 : h8.size ≤ h13.size := K13.1
  have lt13_0 : @LT.lt Nat _ b_13 h13.size := Fq13_0.lt
  have f15 : Exa Z h13 a cS := ((I8.wr W8).keep K13)
  have f16 : Fld Z h13 a cS "value" "[B" .null := ((I9.other W8 (Or.inr (slot_ne (Or.inr (own_m hw 33 rfl)) (Or.inr (own_m hw 31 rfl)) (by decide) (t := (.array .byte)) (t' := .byte) (by decide) (by decide)))).keep K13 nin0)
  obtain ⟨T17, h17, X17, e17, W17, st17⟩ := putF X13 hx hZ hown (host := "") (Or.inl (own_m hw 32 rfl)) Via.refl e13 f16 f15 (Or.inr ⟨(own_m hw 33 rfl), rfl, hnm⟩) (own_m hw 6 rfl) (ty := (.array .byte)) (by decide) rfl rfl (g := (mkF m 35 #[.val (.ref a), .val (.ref sb_), .val .null, .val (.ref va), .val (.int (Int32.ofNat k))] [(.ref b_13), (.ref a)])) rfl rfl (dd hy dJ42_150_35)
  have z18 : h13.size ≤ h17.size := Nat.le_of_eq W17.size.symm
  have F17 : Fld Z h17 a cS "value" "[B" (.ref b_13) := f16.same W17
  have N17 := Fr.snoc X17 N13 (show n0 ≤ a by omega)
  have s19 : ∀ t_, Steps p.tables e below (T17.setTop (mkF m 97 #[.val (.ref a), .val (.ref sb_), .val .null, .val (.ref va), .val (.int (Int32.ofNat k))] [])) t_ → Steps _ _ _ _ t_ := fun t_ k_ => pre0 t_ (by
    refine XS.aloadN X0.here hx rfl (dd hy dJ42_150_0) rfl rfl ?_
    refine st1 _ ?_
    show Steps _ _ _ (T1.setTop (mkF m 4 #[.val (.ref a), .val (.ref sb_), .val .null, .unset, .unset] [])) _
    refine XS.aloadN X1.here hx rfl (dd hy dJ42_150_4) rfl rfl ?_
    refine st3.trans ?_
    show Steps _ _ _ (T3.setTop (mkF m 8 #[.val (.ref a), .val (.ref sb_), .val .null, .unset, .unset] [(.ref va)])) _
    refine XS.astoreN X3.here hx rfl (dd hy dJ42_150_8) rfl rfl (l' := #[.val (.ref a), .val (.ref sb_), .val .null, .val (.ref va), .unset]) rfl ?_
    refine XS.aloadN X3.here hx rfl (dd hy dJ42_150_9) rfl rfl ?_
    refine st5.trans ?_
    show Steps _ _ _ (T5.setTop (mkF m 13 #[.val (.ref a), .val (.ref sb_), .val .null, .val (.ref va), .unset] [(.int (Int32.ofNat k))])) _
    refine XS.istore X5.here hx rfl (dd hy dJ42_150_13) rfl (l' := #[.val (.ref a), .val (.ref sb_), .val .null, .val (.ref va), .val (.int (Int32.ofNat k))]) rfl ?_
    refine XS.aloadN X5.here hx rfl (dd hy dJ42_150_15) rfl rfl ?_
    refine st7.trans ?_
    show Steps _ _ _ (T7.setTop (mkF m 19 #[.val (.ref a), .val (.ref sb_), .val .null, .val (.ref va), .val (.int (Int32.ofNat k))] [(.int (1 : Int32))])) _
    refine XS.ifNo X7.here hx rfl (dd hy dJ42_150_19) rfl ((if0 _ _).trans (feq (by decide : ¬ ((1 : Int32) = (0 : Int32)))).1) ?_
    show Steps _ _ _ (T7.setTop (mkF m 22 #[.val (.ref a), .val (.ref sb_), .val .null, .val (.ref va), .val (.int (Int32.ofNat k))] [])) _
    refine XS.aloadN X7.here hx rfl (dd hy dJ42_150_22) rfl rfl ?_
    refine XS.iconst X7.here hx rfl (dd hy dJ42_150_23) ?_
    refine st8 _ ?_
    refine XS.aloadN X8.here hx rfl (dd hy dJ42_150_27) rfl rfl ?_
    refine XS.aloadN X8.here hx rfl (dd hy dJ42_150_28) rfl rfl ?_
    refine XS.iconst X8.here hx rfl (dd hy dJ42_150_29) ?_
    show Steps _ _ _ (T8.setTop (mkF m 30 #[.val (.ref a), .val (.ref sb_), .val .null, .val (.ref va), .val (.int (Int32.ofNat k))] [(.int (0 : Int32)), (.ref va), (.ref a)])) _
    refine XS.iload X8.here hx rfl (dd hy dJ42_150_30) rfl ?_
    refine st13 _ ?_
    show Steps _ _ _ (T13.setTop (mkF m 35 #[.val (.ref a), .val (.ref sb_), .val .null, .val (.ref va), .val (.int (Int32.ofNat k))] [(.ref b_13), (.ref a)])) _
    refine st17 _ ?_
    refine XS.goto X17.here hx rfl (pc0 := 38) (pc' := 97) rfl (dd hy dJ42_150_38) (by decide) (by decide) ?_
    exact k_)
  obtain ⟨fs, hr, hrun, hended, hW, hsame⟩ := X17.leave (v := none) (fun _ => rfl)
  have f20 : Arv Z h17 b_13 kb_13 .byte (Int32.ofNat k) ((xs.take k).map Value.int) v0_ := (Fq13_0.other W17 (show @Ne Nat b_13 a by omega))
  have f21 : Exa Z h17 a cS := (f15.wr W17)
  have f22 : Fld Z h17 a cS "coder" "B" (.int (0 : Int32)) := ((F8.keep K13 nin0).other W17 (Or.inr (slot_ne (Or.inr (own_m hw 31 rfl)) (Or.inr (own_m hw 33 rfl)) (by decide) (t := .byte) (t' := (.array .byte)) (by decide) (by decide))))
  refine ⟨_, _, s19 _ ?_, hrun, hended, _, _, rfl, ?_, ⟨_, rfl⟩, hW, hsame.mono (by decide) (by decide)⟩
  · exact X17.returnOut hx Bd.returns (dd hy dJ42_150_97) hr
  · show Q_rmSAV Z _ _ _ _ _ _ _ _ h0 n0 _ T17.heap _
    rw [e17]
    exact ⟨b_13, kb_13, rfl, N17, ((((Keep.refl h0 [a]).wr W8 (Or.inl (by simp))).trans K13 all0).wr W17 (Or.inl (by simp))), f21, F17, (by rw [own_cod0 hlt]; exact f22), (own_toenc hlt (by rw [htl, ← hts]; exact f20)), by omega⟩
theorem dJ42_53_0 : decode CJ42_53 0 = .ok (.aload_n 0, 1) := by decide +kernel
theorem dJ42_53_1 : decode CJ42_53 1 = .ok (.aload_n 1, 1) := by decide +kernel
theorem dJ42_53_2 : decode CJ42_53 2 = .ok (.aconst_null, 1) := by decide +kernel
theorem pd__Ljava_lang_AbstractStringBuilder_Ljava_lang_Void__V : parseMethodDescriptor "(Ljava/lang/AbstractStringBuilder;Ljava/lang/Void;)V" = some ⟨[(.object "java/lang/AbstractStringBuilder"), (.object "java/lang/Void")], none⟩ := by decide +kernel
theorem dJ42_53_3 : decode CJ42_53 3 = .ok (.invokespecial 489, 3) := by decide +kernel
theorem dJ42_53_6 : decode CJ42_53 6 = .ok (.return_, 1) := by decide +kernel
theorem ef_rmSSB (m : MethodId) (x0 : Addr) (x1 : Addr) : entryFrame m #[(.ref x0), (.ref x1)] 2 = mkF m 0 #[.val (.ref x0), .val (.ref x1)] [] := by first | (simp [entryFrame, mkF, argsToLocals, Value.category]; done) | rfl
abbrev R_rmSSB : Room := ({ frames := 4, cells := 1, slots := 32, locals := 87 } : Room)
def Q_rmSSB (Z : State) (a : Addr) (sb_ : Addr) (cst : Int32) (va : Addr) (kc : ClassId) (xs : List Int32) (k : Nat) (ts : List Int32) (h0 : Heap) (n0 : Nat) (v : Option Value) (h : Heap) (L : List Loc) : Prop := ∃ (b : Addr), ∃ (kb : ClassId), (v = none) ∧ (Fr n0 L) ∧ (Keep h0 h [a]) ∧ (Exa Z h a cS) ∧ (Fld Z h a cS "value" "[B" (.ref b)) ∧ (Fld Z h a cS "coder" "B" (.int (own_cod ts))) ∧ (Arv Z h b kb .byte (Int32.ofNat (own_enl ts)) (own_enc ts) v0_) ∧ (h0.size ≤ b)
set_option maxRecDepth 65536 in
set_option maxHeartbeats 40000000 in
theorem rmSSB (l : Launch) (Z : State) (a0 : Array Value) (hw : HW Z a0) (ws : List Jvm.Cond) (a : Addr) (sb_ : Addr) (cst : Int32) (va : Addr) (kc : ClassId) (xs : List Int32) (k : Nat) (ts : List Int32) (h0 : Heap) (n0 : Nat) (Z0 : n0 ≤ h0.size) (I1 : Sta Z Z.heap cS cC "Z" (.int cst)) (OX : Old Z n0 h0) (hcst : ¬ (cst = (0 : Int32))) (I2 : Exa Z h0 sb_ cB) (I3 : Fld Z h0 sb_ cA "value" "[B" (.ref va)) (I4 : Fld Z h0 sb_ cA "coder" "B" (.int (0 : Int32))) (I5 : Fld Z h0 sb_ cA "count" "I" (.int (Int32.ofNat k))) (I6 : Fld Z h0 sb_ cA "maybeLatin1" "Z" (.int (0 : Int32))) (I7 : Arv Z h0 va kc .byte (16 : Int32) (xs.map Value.int) v0_) (hx16 : xs.length = 16) (hk16 : k < 16) (hts : xs.take k = ts.map own_lo) (hlt : own_lat ts) (htl : ts.length = k) (I8 : Exa Z h0 a cS) (I9 : Fld Z h0 a cS "value" "[B" .null) (I10 : Fld Z h0 a cS "coder" "B" (.int (0 : Int32))) (ga : n0 ≤ a) (hax : @Ne Nat a sb_) (hav : @Ne Nat a va) :
    MF l Z M47_ (Jvm.Cond.code M47_ jdk_42_method_53_code 2 none :: ws) R_rmSSB #[(.ref a), (.ref sb_)] h0 (Q_rmSSB Z a sb_ cst va kc xs k ts h0 n0) := by
  refine MetFree.of_bodySF (plainFor_of_name pn_java_lang_String) hisR ?_
  intro p e s m args below meth c s₁ Bd hml0 hP hK
  obtain ⟨rfl, hZ, hh⟩ := hP
  have hx := Bd.exec
  have hy := Bd.bytes
  have hml : c.maxLocals = 2 := hml0
  have hown : s.vm.findClass "java/lang/String" = some m.cls := findClass_of_methodNamed Bd.named
  have hnm := (name_of_methodNamed Bd.named Bd.method).1
  have X0 : Stand p l e R_rmSSB s m #[(.ref a), (.ref sb_)] below meth c s₁ [] 0 0 := Stand.of_body Bd
  have e0 : s₁.heap = h0 := by rw [← hh, Bd.state]; rfl
  have N0 := Fr.nil n0
  have pre0 := own_pre (p := p) (e := e) (below := below) (T := s₁) (ef_rmSSB m a sb_)
  have lt_I2 : @LT.lt Nat _ sb_ h0.size := I2.lt
  have lt_I7 : @LT.lt Nat _ va h0.size := I7.lt
  have lt_I8 : @LT.lt Nat _ a h0.size := I8.lt
  have Zc1 : n0 ≤ h0.size := by omega
  obtain ⟨_, _, ⟨T2, L2, k2, n2⟩, -, X2, ⟨Lc2, hQ2, l2, y2, z2⟩, st2⟩ := X0.specialBack hx (y := M46_) rfl hown (mvT hZ (own_m hw 141 rfl)) (mvT hZ (own_m hw 142 rfl)) (mvT hZ (own_m hw 143 rfl)) (by decide) (backOf (W := 0) (rmSAV l Z a0 hw [] a sb_ cst va kc xs k ts h0 n0 Zc1 I1 OX hcst I2 I3 I4 I5 I6 I7 hx16 hk16 hts hlt htl I8 I9 I10 ga hax hav) hZ (own_m hw 143 rfl) (own_m hw 7 rfl) (by decide) (by decide)) (g := (mkF m 3 #[.val (.ref a), .val (.ref sb_)] [.null, (.ref sb_), (.ref a)])) rfl (by rw [hml]; rfl) (Steps.refl _) (a := a) (argsL := [(.ref sb_), .null]) (rest := []) (lenOf pd__Ljava_lang_AbstractStringBuilder_Ljava_lang_Void__V rfl) rfl (by show 2 * 0 + _ ≤ _; exact Nat.le_of_eq rfl) (dd hy dJ42_53_3) (fun _ _ => ⟨rfl, e0, (by decide : 0 + 1 ≤ _), (by decide : 0 + 32 ≤ _)⟩)
  dsimp only [Pt.U, Pt.locs, Pt.cells, Pt.slots] at X2 l2 y2 z2 st2 hQ2
  subst l2 y2 z2
  obtain ⟨b_2, kb_2, rfl, N2q, K2, Fq2_0, Fq2_1, Fq2_2, Fq2_3, P2_0⟩ := hQ2
  have N2 := Fr.app N0 N2q
  obtain ⟨h2, e2⟩ : ∃ z, T2.heap = z := ⟨_, rfl⟩
  rw [e2] at K2 Fq2_0 Fq2_1 Fq2_2 Fq2_3
  have z3 : h0.size ≤ h2.size := K2.1
  have lt2_0 : @LT.lt Nat _ a h2.size := Fq2_0.lt
  have lt2_3 : @LT.lt Nat _ b_2 h2.size := Fq2_3.lt
  have s4 : ∀ t_, Steps p.tables e below (T2.setTop (mkF m 6 #[.val (.ref a), .val (.ref sb_)] [])) t_ → Steps _ _ _ _ t_ := fun t_ k_ => pre0 t_ (by
    refine XS.aloadN X0.here hx rfl (dd hy dJ42_53_0) rfl rfl ?_
    refine XS.aloadN X0.here hx rfl (dd hy dJ42_53_1) rfl rfl ?_
    refine XS.aconstNull X0.here hx rfl (dd hy dJ42_53_2) ?_
    refine st2.trans ?_
    show Steps _ _ _ (T2.setTop (mkF m 6 #[.val (.ref a), .val (.ref sb_)] [])) _
    exact k_)
  obtain ⟨fs, hr, hrun, hended, hW, hsame⟩ := X2.leave (v := none) (fun _ => rfl)
  refine ⟨_, _, s4 _ ?_, hrun, hended, _, _, rfl, ?_, ⟨_, rfl⟩, hW, hsame.mono (by decide) (by decide)⟩
  · exact X2.returnOut hx Bd.returns (dd hy dJ42_53_6) hr
  · show Q_rmSSB Z _ _ _ _ _ _ _ _ h0 n0 _ T2.heap _
    rw [e2]
    exact ⟨b_2, kb_2, rfl, N2, ((Keep.refl h0 [a]).trans K2 (allS (Or.inl (by simp)) all0)), Fq2_0, Fq2_1, Fq2_2, Fq2_3, by omega⟩
theorem dJ67_42_0 : decode CJ67_42 0 = .ok (.new 18, 3) := by decide +kernel
theorem dJ67_42_3 : decode CJ67_42 3 = .ok (.dup, 1) := by decide +kernel
theorem dJ67_42_4 : decode CJ67_42 4 = .ok (.aload_n 0, 1) := by decide +kernel
theorem pd__Ljava_lang_StringBuilder__V : parseMethodDescriptor "(Ljava/lang/StringBuilder;)V" = some ⟨[(.object "java/lang/StringBuilder")], none⟩ := by decide +kernel
theorem dJ67_42_5 : decode CJ67_42 5 = .ok (.invokespecial 137, 3) := by decide +kernel
theorem dJ67_42_8 : decode CJ67_42 8 = .ok (.areturn, 1) := by decide +kernel
theorem ef_rmTS (m : MethodId) (x0 : Addr) : entryFrame m #[(.ref x0)] 1 = mkF m 0 #[.val (.ref x0)] [] := by first | (simp [entryFrame, mkF, argsToLocals, Value.category]; done) | rfl
abbrev R_rmTS : Room := ({ frames := 5, cells := 2, slots := 36, locals := 101 } : Room)
def Q_rmTS (Z : State) (sb_ : Addr) (cst : Int32) (va : Addr) (kc : ClassId) (xs : List Int32) (k : Nat) (ts : List Int32) (h0 : Heap) (n0 : Nat) (v : Option Value) (h : Heap) (L : List Loc) : Prop := ∃ (a : Addr), ∃ (b : Addr), ∃ (kb : ClassId), (v = some (.ref a)) ∧ (Fr n0 L) ∧ (Keep h0 h []) ∧ (Exa Z h a cS) ∧ (Fld Z h a cS "value" "[B" (.ref b)) ∧ (Fld Z h a cS "coder" "B" (.int (own_cod ts))) ∧ (Arv Z h b kb .byte (Int32.ofNat (own_enl ts)) (own_enc ts) v0_) ∧ (h0.size ≤ a) ∧ (h0.size ≤ b)
set_option maxRecDepth 65536 in
set_option maxHeartbeats 40000000 in
theorem rmTS (l : Launch) (Z : State) (a0 : Array Value) (hw : HW Z a0) (ws : List Jvm.Cond) (sb_ : Addr) (cst : Int32) (va : Addr) (kc : ClassId) (xs : List Int32) (k : Nat) (ts : List Int32) (h0 : Heap) (n0 : Nat) (Z0 : n0 ≤ h0.size) (I1 : Sta Z Z.heap cS cC "Z" (.int cst)) (OX : Old Z n0 h0) (hcst : ¬ (cst = (0 : Int32))) (I2 : Exa Z h0 sb_ cB) (I3 : Fld Z h0 sb_ cA "value" "[B" (.ref va)) (I4 : Fld Z h0 sb_ cA "coder" "B" (.int (0 : Int32))) (I5 : Fld Z h0 sb_ cA "count" "I" (.int (Int32.ofNat k))) (I6 : Fld Z h0 sb_ cA "maybeLatin1" "Z" (.int (0 : Int32))) (I7 : Arv Z h0 va kc .byte (16 : Int32) (xs.map Value.int) v0_) (hx16 : xs.length = 16) (hk16 : k < 16) (hts : xs.take k = ts.map own_lo) (hlt : own_lat ts) (htl : ts.length = k) :
    MF l Z M48_ (Jvm.Cond.code M48_ jdk_67_method_42_code 1 (some (.object "java/lang/String")) :: ws) R_rmTS #[(.ref sb_)] h0 (Q_rmTS Z sb_ cst va kc xs k ts h0 n0) := by
  refine MetFree.of_bodySF (plainFor_of_name pn_java_lang_StringBuilder) hisR ?_
  intro p e s m args below meth c s₁ Bd hml0 hP hK
  obtain ⟨rfl, hZ, hh⟩ := hP
  have hx := Bd.exec
  have hy := Bd.bytes
  have hml : c.maxLocals = 1 := hml0
  have hown : s.vm.findClass "java/lang/StringBuilder" = some m.cls := findClass_of_methodNamed Bd.named
  have hnm := (name_of_methodNamed Bd.named Bd.method).1
  have X0 : Stand p l e R_rmTS s m #[(.ref sb_)] below meth c s₁ [] 0 0 := Stand.of_body Bd
  have e0 : s₁.heap = h0 := by rw [← hh, Bd.state]; rfl
  have N0 := Fr.nil n0
  have pre0 := own_pre (p := p) (e := e) (below := below) (T := s₁) (ef_rmTS m sb_)
  have lt_I2 : @LT.lt Nat _ sb_ h0.size := I2.lt
  have lt_I7 : @LT.lt Nat _ va h0.size := I7.lt
  obtain ⟨T1, h1, X1, e1, E1, A1, D1, -, st1⟩ := newO X0 hx hZ hown (own_m hw 137 rfl) (own_m hw 6 rfl) (own_m hw 7 rfl) e0 (g := (mkF m 0 #[.val (.ref sb_)] [])) rfl (dd hy dJ67_42_0) (by decide) (by decide)
  obtain ⟨b1, g1⟩ : ∃ z, z = h0.size := ⟨_, rfl⟩
  rw [← g1] at A1 D1 st1
  have z2 : h0.size ≤ h1.size := E1.1
  have l1 : b1 < h1.size := A1.lt
  have F3 : Fld Z h1 b1 cS "coder" "B" (.int (0 : Int32)) := D1 (Or.inr (own_m hw 31 rfl)) (ty := .byte) (by decide)
  have F4 : Fld Z h1 b1 cS "value" "[B" .null := D1 (Or.inr (own_m hw 33 rfl)) (ty := (.array .byte)) (by decide)
  have O5 : Old Z n0 h1 := (OX.ext E1)
  have f6 : Exa Z h1 sb_ cB := (I2.ext E1)
  have f7 : Fld Z h1 sb_ cA "value" "[B" (.ref va) := (I3.ext E1)
  have f8 : Fld Z h1 sb_ cA "coder" "B" (.int (0 : Int32)) := (I4.ext E1)
  have f9 : Fld Z h1 sb_ cA "count" "I" (.int (Int32.ofNat k)) := (I5.ext E1)
  have f10 : Fld Z h1 sb_ cA "maybeLatin1" "Z" (.int (0 : Int32)) := (I6.ext E1)
  have f11 : Arv Z h1 va kc .byte (16 : Int32) (xs.map Value.int) v0_ := (I7.ext E1)
  have Zc12 : n0 ≤ h1.size := by omega
  obtain ⟨_, _, ⟨T13, L13, k13, n13⟩, -, X13, ⟨Lc13, hQ13, l13, y13, z13⟩, st13⟩ := X1.specialBack hx (y := M47_) rfl hown (mvT hZ (own_m hw 138 rfl)) (mvT hZ (own_m hw 139 rfl)) (mvT hZ (own_m hw 140 rfl)) (by decide) (backOf (W := 1) (rmSSB l Z a0 hw [] b1 sb_ cst va kc xs k ts h1 n0 Zc12 I1 O5 hcst f6 f7 f8 f9 f10 f11 hx16 hk16 hts hlt htl A1 F4 F3 (by first | assumption | omega | rfl | decide) (by first | assumption | omega | rfl | decide) (by first | assumption | omega | rfl | decide)) hZ (own_m hw 140 rfl) (own_m hw 7 rfl) (by decide) (by decide)) (g := (mkF m 5 #[.val (.ref sb_)] [(.ref sb_), (.ref b1), (.ref b1)])) rfl (by rw [hml]; rfl) (Steps.refl _) (a := b1) (argsL := [(.ref sb_)]) (rest := [(.ref b1)]) (lenOf pd__Ljava_lang_StringBuilder__V rfl) rfl (by show 2 * 0 + _ ≤ _; exact Nat.le_of_eq rfl) (dd hy dJ67_42_5) (fun _ _ => ⟨rfl, e1, (by decide : 1 + 1 ≤ _), (by decide : 4 + 32 ≤ _)⟩)
  dsimp only [Pt.U, Pt.locs, Pt.cells, Pt.slots] at X13 l13 y13 z13 st13 hQ13
  subst l13 y13 z13
  obtain ⟨b_13, kb_13, rfl, N13q, K13, Fq13_0, Fq13_1, Fq13_2, Fq13_3, P13_0⟩ := hQ13
  have N13 := Fr.app N0 N13q
  obtain ⟨h13, e13⟩ : ∃ z, T13.heap = z := ⟨_, rfl⟩
  rw [e13] at K13 Fq13_0 Fq13_1 Fq13_2 Fq13_3
  have z14 : h1.size ≤ h13.size := K13.1
  have lt13_0 : @LT.lt Nat _ b1 h13.size := Fq13_0.lt
  have lt13_3 : @LT.lt Nat _ b_13 h13.size := Fq13_3.lt
  have s15 : ∀ t_, Steps p.tables e below (T13.setTop (mkF m 8 #[.val (.ref sb_)] [(.ref b1)])) t_ → Steps _ _ _ _ t_ := fun t_ k_ => pre0 t_ (by
    refine st1 _ ?_
    refine XS.dup X1.here hx rfl (dd hy dJ67_42_3) rfl rfl ?_
    refine XS.aloadN X1.here hx rfl (dd hy dJ67_42_4) rfl rfl ?_
    refine st13.trans ?_
    show Steps _ _ _ (T13.setTop (mkF m 8 #[.val (.ref sb_)] [(.ref b1)])) _
    exact k_)
  obtain ⟨fs, hr, hrun, hended, hW, hsame⟩ := X13.leave (v := some (.ref b1)) (fun h => by rw [Bd.returns] at h; cases h)
  refine ⟨_, _, s15 _ ?_, hrun, hended, _, _, rfl, ?_, ⟨_, rfl⟩, hW, hsame.mono (by decide) (by decide)⟩
  · jvm_step X13.here [X13.here.top, hx, (dd hy dJ67_42_8), X13.method', Bd.returns, Value.isRef, FieldType.isReference]
    first | (intro acts; rw [hr _ acts rfl rfl rfl]) | rw [hr _ _ rfl rfl rfl]
    exact Steps.refl _
  · show Q_rmTS Z _ _ _ _ _ _ _ h0 n0 _ T13.heap _
    rw [e13]
    exact ⟨b1, b_13, kb_13, rfl, N13, (((Keep.refl h0 []).ext E1).trans K13 (allS (Or.inr (show h0.size ≤ b1 by omega)) all0)), Fq13_0, Fq13_1, Fq13_2, Fq13_3, by omega, by omega⟩
theorem dJ42_150_41 : decode CJ42_150 41 = .ok (.getstatic 38, 3) := by decide +kernel
theorem dJ42_150_44 : decode CJ42_150 44 = .ok (.ifCond .eq 35, 3) := by decide +kernel
theorem dJ42_150_47 : decode CJ42_150 47 = .ok (.aload_n 1, 1) := by decide +kernel
theorem dJ42_150_48 : decode CJ42_150 48 = .ok (.getfield 1048, 3) := by decide +kernel
theorem dJ42_150_51 : decode CJ42_150 51 = .ok (.ifCond .eq 28, 3) := by decide +kernel
theorem dJ42_150_79 : decode CJ42_150 79 = .ok (.aload_n 0, 1) := by decide +kernel
theorem dJ42_150_80 : decode CJ42_150 80 = .ok (.iconst 1, 1) := by decide +kernel
theorem dJ42_150_81 : decode CJ42_150 81 = .ok (.putfield 15, 3) := by decide +kernel
theorem dJ42_150_84 : decode CJ42_150 84 = .ok (.aload_n 0, 1) := by decide +kernel
theorem dJ42_150_85 : decode CJ42_150 85 = .ok (.aload_n 3, 1) := by decide +kernel
theorem dJ42_150_86 : decode CJ42_150 86 = .ok (.iconst 0, 1) := by decide +kernel
theorem dJ42_150_87 : decode CJ42_150 87 = .ok (.iload 4, 2) := by decide +kernel
theorem dJ42_150_89 : decode CJ42_150 89 = .ok (.iconst 1, 1) := by decide +kernel
theorem dJ42_150_90 : decode CJ42_150 90 = .ok (.ishl, 1) := by decide +kernel
theorem dJ42_150_91 : decode CJ42_150 91 = .ok (.invokestatic 54, 3) := by decide +kernel
theorem dJ42_150_94 : decode CJ42_150 94 = .ok (.putfield 9, 3) := by decide +kernel
theorem ef_rmSAVw (m : MethodId) (x0 : Addr) (x1 : Addr) : entryFrame m #[(.ref x0), (.ref x1), .null] 5 = mkF m 0 #[.val (.ref x0), .val (.ref x1), .val .null, .unset, .unset] [] := by first | (simp [entryFrame, mkF, argsToLocals, Value.category]; done) | rfl
abbrev R_rmSAVw : Room := ({ frames := 3, cells := 1, slots := 32, locals := 71 } : Room)
def Q_rmSAVw (Z : State) (a : Addr) (sb_ : Addr) (cst : Int32) (va : Addr) (kc : ClassId) (xs : List Int32) (k : Nat) (ts : List Int32) (h0 : Heap) (n0 : Nat) (v : Option Value) (h : Heap) (L : List Loc) : Prop := ∃ (b : Addr), ∃ (kb : ClassId), (v = none) ∧ (Fr n0 L) ∧ (Keep h0 h [a]) ∧ (Exa Z h a cS) ∧ (Fld Z h a cS "value" "[B" (.ref b)) ∧ (Fld Z h a cS "coder" "B" (.int (own_cod ts))) ∧ (Arv Z h b kb .byte (Int32.ofNat (own_enl ts)) (own_enc ts) v0_) ∧ (h0.size ≤ b)
set_option maxRecDepth 65536 in
set_option maxHeartbeats 40000000 in
theorem rmSAVw (l : Launch) (Z : State) (a0 : Array Value) (hw : HW Z a0) (ws : List Jvm.Cond) (a : Addr) (sb_ : Addr) (cst : Int32) (va : Addr) (kc : ClassId) (xs : List Int32) (k : Nat) (ts : List Int32) (h0 : Heap) (n0 : Nat) (Z0 : n0 ≤ h0.size) (I1 : Sta Z Z.heap cS cC "Z" (.int cst)) (OX : Old Z n0 h0) (hcst : ¬ (cst = (0 : Int32))) (I2 : Exa Z h0 sb_ cB) (I3 : Fld Z h0 sb_ cA "value" "[B" (.ref va)) (I4 : Fld Z h0 sb_ cA "coder" "B" (.int (1 : Int32))) (I5 : Fld Z h0 sb_ cA "count" "I" (.int (Int32.ofNat k))) (I6 : Fld Z h0 sb_ cA "maybeLatin1" "Z" (.int (0 : Int32))) (I7 : Arv Z h0 va kc .byte (Int32.ofNat (2 * 16)) (xs.map Value.int) v0_) (hx32 : xs.length = 32) (hk16 : k < 16) (hts : xs.take (2 * k) = own_wb ts) (hlt : ¬ own_lat ts) (htl : ts.length = k) (I8 : Exa Z h0 a cS) (I9 : Fld Z h0 a cS "value" "[B" .null) (I10 : Fld Z h0 a cS "coder" "B" (.int (0 : Int32))) (ga : n0 ≤ a) (hax : @Ne Nat a sb_) (hav : @Ne Nat a va) :
    MF l Z M46_ (Jvm.Cond.code M46_ jdk_42_method_150_code 5 none :: ws) R_rmSAVw #[(.ref a), (.ref sb_), .null] h0 (Q_rmSAVw Z a sb_ cst va kc xs k ts h0 n0) := by
  refine MetFree.of_bodySF (plainFor_of_name pn_java_lang_String) hisR ?_
  intro p e s m args below meth c s₁ Bd hml0 hP hK
  obtain ⟨rfl, hZ, hh⟩ := hP
  have hx := Bd.exec
  have hy := Bd.bytes
  have hml : c.maxLocals = 5 := hml0
  have hown : s.vm.findClass "java/lang/String" = some m.cls := findClass_of_methodNamed Bd.named
  have hnm := (name_of_methodNamed Bd.named Bd.method).1
  have X0 : Stand p l e R_rmSAVw s m #[(.ref a), (.ref sb_), .null] below meth c s₁ [] 0 0 := Stand.of_body Bd
  have e0 : s₁.heap = h0 := by rw [← hh, Bd.state]; rfl
  have N0 := Fr.nil n0
  have pre0 := own_pre (p := p) (e := e) (below := below) (T := s₁) (ef_rmSAVw m a sb_)
  have lt_I2 : @LT.lt Nat _ sb_ h0.size := I2.lt
  have lt_I7 : @LT.lt Nat _ va h0.size := I7.lt
  have lt_I8 : @LT.lt Nat _ a h0.size := I8.lt
  obtain ⟨T1, X1, e1, st1⟩ := initO X0 hx hZ hown (own_m hw 15 rfl) (own_m hw 16 rfl) (own_m hw 17 rfl) e0 (g := (mkF m 1 #[.val (.ref a), .val (.ref sb_), .val .null, .unset, .unset] [(.ref a)])) rfl (by rw [hml]; rfl) rfl (dd hy dJ42_150_1) (by decide) (W := 0) (by show 2 * 0 + _ ≤ _; exact Nat.le_of_eq rfl) (by decide)
  have Zc2 : n0 ≤ h0.size := by omega
  obtain ⟨cq3, kq3, q3a, q3b, q3c⟩ := isOf hZ e1 I2
  obtain ⟨_, _, ⟨T3, L3, k3, n3⟩, -, X3, ⟨Lc3, hQ3, l3, y3, z3⟩, st3⟩ := X1.virtualBack hx (y := M36_) (z := M36_) hown (mvT hZ (own_m hw 144 rfl)) (mvT hZ (own_m hw 145 rfl)) (notFace_of_selects (args := #[]) (mvT hZ (own_m hw 147 rfl))) (mvT hZ (own_m hw 147 rfl)) (mvT hZ (own_m hw 146 rfl)) (by decide) (backOf (W := 0) (rmGV l Z a0 hw [] sb_ va h0 n0 Zc2 I3) hZ (own_m hw 148 rfl) (own_m hw 48 rfl) (by decide) (by decide)) q3a q3c (g := (mkF m 5 #[.val (.ref a), .val (.ref sb_), .val .null, .unset, .unset] [(.ref sb_)])) rfl (by rw [hml]; rfl) (Steps.refl _) (argsL := []) (rest := []) (lenOf pd____B rfl) rfl (by show 2 * 0 + _ ≤ _; exact Nat.le_of_eq rfl) (dd hy dJ42_150_5) (fun _ _ => ⟨rfl, e1, (by decide : 0 + 0 ≤ _), (by decide : 0 + 0 ≤ _)⟩)
  dsimp only [Pt.U, Pt.locs, Pt.cells, Pt.slots] at X3 l3 y3 z3 st3 hQ3
  subst l3 y3 z3
  obtain ⟨rfl, N3q, e3⟩ := hQ3
  have N3 := Fr.app N0 N3q
  have Zc4 : n0 ≤ h0.size := by omega
  obtain ⟨cq5, kq5, q5a, q5b, q5c⟩ := isOf hZ e3 I2
  obtain ⟨_, _, ⟨T5, L5, k5, n5⟩, -, X5, ⟨Lc5, hQ5, l5, y5, z5⟩, st5⟩ := X3.virtualBack hx (y := M33_) (z := M35_) hown (mvT hZ (own_m hw 149 rfl)) (mvT hZ (own_m hw 150 rfl)) (own_nf (a0 := #[]) (y := M33_) (z := M34_) rfl (mvT hZ (own_m hw 109 rfl))) (mvT hZ (own_m hw 152 rfl)) (mvT hZ (own_m hw 153 rfl)) (by decide) (backOf (W := 0) (rmSLen l Z a0 hw [] sb_ (Int32.ofNat k) h0 n0 Zc4 I2 I5) hZ (own_m hw 154 rfl) (own_m hw 40 rfl) (by decide) (by decide)) q5a q5c (g := (mkF m 10 #[.val (.ref a), .val (.ref sb_), .val .null, .val (.ref va), .unset] [(.ref sb_)])) rfl (by rw [hml]; rfl) (Steps.refl _) (argsL := []) (rest := []) (lenOf pd___I rfl) rfl (by show 2 * 0 + _ ≤ _; exact Nat.le_of_eq rfl) (dd hy dJ42_150_10) (fun _ _ => ⟨rfl, e3, (by decide : 0 + 0 ≤ _), (by decide : 0 + 0 ≤ _)⟩)
  dsimp only [Pt.U, Pt.locs, Pt.cells, Pt.slots] at X5 l5 y5 z5 st5 hQ5
  subst l5 y5 z5
  obtain ⟨rfl, N5q, e5⟩ := hQ5
  have N5 := Fr.app N3 N5q
  have Zc6 : n0 ≤ h0.size := by omega
  obtain ⟨cq7, kq7, q7a, q7b, q7c⟩ := isOf hZ e5 I2
  obtain ⟨_, _, ⟨T7, L7, k7, n7⟩, -, X7, ⟨Lc7, hQ7, l7, y7, z7⟩, st7⟩ := X5.virtualBack hx (y := M37_) (z := M37_) hown (mvT hZ (own_m hw 157 rfl)) (mvT hZ (own_m hw 158 rfl)) (notFace_of_selects (args := #[]) (mvT hZ (own_m hw 160 rfl))) (mvT hZ (own_m hw 160 rfl)) (mvT hZ (own_m hw 159 rfl)) (by decide) (backOf (W := 0) (rmALat1 l Z a0 hw [] sb_ cst h0 n0 Zc6 I1 OX hcst I4) hZ (own_m hw 161 rfl) (own_m hw 48 rfl) (by decide) (by decide)) q7a q7c (g := (mkF m 16 #[.val (.ref a), .val (.ref sb_), .val .null, .val (.ref va), .val (.int (Int32.ofNat k))] [(.ref sb_)])) rfl (by rw [hml]; rfl) (Steps.refl _) (argsL := []) (rest := []) (lenOf pd___Z rfl) rfl (by show 2 * 0 + _ ≤ _; exact Nat.le_of_eq rfl) (dd hy dJ42_150_16) (fun _ _ => ⟨rfl, e5, (by decide : 0 + 0 ≤ _), (by decide : 0 + 0 ≤ _)⟩)
  dsimp only [Pt.U, Pt.locs, Pt.cells, Pt.slots] at X7 l7 y7 z7 st7 hQ7
  subst l7 y7 z7
  obtain ⟨rfl, N7q, e7⟩ := hQ7
  have N7 := Fr.app N5 N7q
  obtain ⟨T8, X8, e8, st8⟩ := getS2 X7 hx hZ hown (host := "") (Or.inl (own_m hw 18 rfl)) Via.refl e7 (I1.ext OX.2) (g := (mkF m 41 #[.val (.ref a), .val (.ref sb_), .val .null, .val (.ref va), .val (.int (Int32.ofNat k))] [])) rfl (dd hy dJ42_150_41)
  obtain ⟨T9, X9, e9, st9⟩ := getF X8 hx hZ hown (host := "") (Or.inl (own_m hw 250 rfl)) Via.refl e8 I6 (g := (mkF m 48 #[.val (.ref a), .val (.ref sb_), .val .null, .val (.ref va), .val (.int (Int32.ofNat k))] [(.ref sb_)])) rfl rfl (dd hy dJ42_150_48)
  obtain ⟨T10, h10, X10, e10, W10, st10⟩ := putFN X9 hx hZ hown (own_m hw 30 rfl) Via.refl e9 I10 I8 (Or.inr ⟨(own_m hw 31 rfl), rfl, hnm⟩) (own_m hw 6 rfl) (ty := .byte) (v' := (.int (1 : Int32))) (by decide) rfl rfl (g := (mkF m 81 #[.val (.ref a), .val (.ref sb_), .val .null, .val (.ref va), .val (.int (Int32.ofNat k))] [(.int (1 : Int32)), (.ref a)])) rfl rfl (dd hy dJ42_150_81)
  have z11 : h0.size ≤ h10.size := Nat.le_of_eq W10.size.symm
  have F10 : Fld Z h10 a cS "coder" "B" (.int (1 : Int32)) := I10.same W10
  have N10 := Fr.snoc X10 N7 (show n0 ≤ a by omega)
  have f12 : Arv Z h10 va kc .byte (Int32.ofNat (2 * 16)) (xs.map Value.int) v0_ := (I7.other W10 (show @Ne Nat va a by omega))
  have V13 : Arv Z h10 va kc .byte (Int32.ofNat xs.length) (xs.map Value.int) v0_ := by rw [hx32]; exact f12
  have Zc14 : n0 ≤ h10.size := by omega
  obtain ⟨_, _, ⟨T15, L15, k15, n15⟩, -, X15, ⟨Lc15, hQ15, l15, y15, z15⟩, st15⟩ := Jvm.LawKit.callS X10 hx (y := M18_) hown (mvT hZ (own_m hw 162 rfl)) (mvT hZ (own_m hw 163 rfl)) (mvT hZ (own_m hw 164 rfl)) (mvT hZ (own_m hw 165 rfl)) (by decide) (backOf (W := 1) (rmCR l Z a0 hw [] va kc xs (2 * k) h10 n0 Zc14 V13 (by omega) (by omega)) hZ (own_m hw 165 rfl) (own_m hw 164 rfl) (by decide) (by decide)) (g := (mkF m 91 #[.val (.ref a), .val (.ref sb_), .val .null, .val (.ref va), .val (.int (Int32.ofNat k))] [(.int (Int32.ofNat (2 * k))), (.int (0 : Int32)), (.ref va), (.ref a)])) rfl (by rw [hml]; rfl) (argsL := [(.ref va), (.int (0 : Int32)), (.int (Int32.ofNat (2 * k)))]) (rest := [(.ref a)]) (lenOf pd___BII__B rfl) rfl (by show 2 * 0 + _ ≤ _; exact Nat.le_of_eq rfl) (dd hy dJ42_150_91) (fun _ _ => ⟨rfl, e10, (by decide : 0 + 1 ≤ _), (by decide : 0 + 32 ≤ _)⟩)
  dsimp only [Pt.U, Pt.locs, Pt.cells, Pt.slots] at X15 l15 y15 z15 st15 hQ15
  subst l15 y15 z15
  obtain ⟨b_15, kb_15, rfl, N15q, K15, Fq15_0, P15_0⟩ := hQ15
  have N15 := Fr.app N10 N15q
  obtain ⟨h15, e15⟩ : ∃ z, T15.heap = z := ⟨_, rfl⟩
  rw [e15] at K15 Fq15_0
  have z16 : h10.size ≤ h15.size := K15.1
  have lt15_0 : @LT.lt Nat _ b_15 h15.size := Fq15_0.lt
  have f17 : Exa Z h15 a cS := ((I8.wr W10).keep K15)
  have f18 : Fld Z h15 a cS "value" "[B" .null := ((I9.other W10 (Or.inr (slot_ne (Or.inr (own_m hw 33 rfl)) (Or.inr (own_m hw 31 rfl)) (by decide) (t := (.array .byte)) (t' := .byte) (by decide) (by decide)))).keep K15 nin0)
  obtain ⟨T19, h19, X19, e19, W19, st19⟩ := putF X15 hx hZ hown (host := "") (Or.inl (own_m hw 32 rfl)) Via.refl e15 f18 f17 (Or.inr ⟨(own_m hw 33 rfl), rfl, hnm⟩) (own_m hw 6 rfl) (ty := (.array .byte)) (by decide) rfl rfl (g := (mkF m 94 #[.val (.ref a), .val (.ref sb_), .val .null, .val (.ref va), .val (.int (Int32.ofNat k))] [(.ref b_15), (.ref a)])) rfl rfl (dd hy dJ42_150_94)
  have z20 : h15.size ≤ h19.size := Nat.le_of_eq W19.size.symm
  have F19 : Fld Z h19 a cS "value" "[B" (.ref b_15) := f18.same W19
  have N19 := Fr.snoc X19 N15 (show n0 ≤ a by omega)
  have s21 : ∀ t_, Steps p.tables e below (T19.setTop (mkF m 97 #[.val (.ref a), .val (.ref sb_), .val .null, .val (.ref va), .val (.int (Int32.ofNat k))] [])) t_ → Steps _ _ _ _ t_ := fun t_ k_ => pre0 t_ (by
    refine XS.aloadN X0.here hx rfl (dd hy dJ42_150_0) rfl rfl ?_
    refine st1 _ ?_
    show Steps _ _ _ (T1.setTop (mkF m 4 #[.val (.ref a), .val (.ref sb_), .val .null, .unset, .unset] [])) _
    refine XS.aloadN X1.here hx rfl (dd hy dJ42_150_4) rfl rfl ?_
    refine st3.trans ?_
    show Steps _ _ _ (T3.setTop (mkF m 8 #[.val (.ref a), .val (.ref sb_), .val .null, .unset, .unset] [(.ref va)])) _
    refine XS.astoreN X3.here hx rfl (dd hy dJ42_150_8) rfl rfl (l' := #[.val (.ref a), .val (.ref sb_), .val .null, .val (.ref va), .unset]) rfl ?_
    refine XS.aloadN X3.here hx rfl (dd hy dJ42_150_9) rfl rfl ?_
    refine st5.trans ?_
    show Steps _ _ _ (T5.setTop (mkF m 13 #[.val (.ref a), .val (.ref sb_), .val .null, .val (.ref va), .unset] [(.int (Int32.ofNat k))])) _
    refine XS.istore X5.here hx rfl (dd hy dJ42_150_13) rfl (l' := #[.val (.ref a), .val (.ref sb_), .val .null, .val (.ref va), .val (.int (Int32.ofNat k))]) rfl ?_
    refine XS.aloadN X5.here hx rfl (dd hy dJ42_150_15) rfl rfl ?_
    refine st7.trans ?_
    show Steps _ _ _ (T7.setTop (mkF m 19 #[.val (.ref a), .val (.ref sb_), .val .null, .val (.ref va), .val (.int (Int32.ofNat k))] [(.int (0 : Int32))])) _
    refine XS.ifYes X7.here hx rfl (pc0 := 19) (pc' := 41) rfl (dd hy dJ42_150_19) rfl ((if0 _ _).trans (teq (rfl : (0 : Int32) = (0 : Int32))).1) (by decide) (by decide) ?_
    show Steps _ _ _ (T7.setTop (mkF m 41 #[.val (.ref a), .val (.ref sb_), .val .null, .val (.ref va), .val (.int (Int32.ofNat k))] [])) _
    refine st8 _ ?_
    refine XS.ifNo X8.here hx rfl (dd hy dJ42_150_44) rfl ((if0 _ _).trans (feq hcst).1) ?_
    show Steps _ _ _ (T8.setTop (mkF m 47 #[.val (.ref a), .val (.ref sb_), .val .null, .val (.ref va), .val (.int (Int32.ofNat k))] [])) _
    refine XS.aloadN X8.here hx rfl (dd hy dJ42_150_47) rfl rfl ?_
    refine st9 _ ?_
    refine XS.ifYes X9.here hx rfl (pc0 := 51) (pc' := 79) rfl (dd hy dJ42_150_51) rfl ((if0 _ _).trans (teq (rfl : (0 : Int32) = (0 : Int32))).1) (by decide) (by decide) ?_
    show Steps _ _ _ (T9.setTop (mkF m 79 #[.val (.ref a), .val (.ref sb_), .val .null, .val (.ref va), .val (.int (Int32.ofNat k))] [])) _
    refine XS.aloadN X9.here hx rfl (dd hy dJ42_150_79) rfl rfl ?_
    refine XS.iconst X9.here hx rfl (dd hy dJ42_150_80) ?_
    refine st10 _ ?_
    refine XS.aloadN X10.here hx rfl (dd hy dJ42_150_84) rfl rfl ?_
    refine XS.aloadN X10.here hx rfl (dd hy dJ42_150_85) rfl rfl ?_
    refine XS.iconst X10.here hx rfl (dd hy dJ42_150_86) ?_
    show Steps _ _ _ (T10.setTop (mkF m 87 #[.val (.ref a), .val (.ref sb_), .val .null, .val (.ref va), .val (.int (Int32.ofNat k))] [(.int (0 : Int32)), (.ref va), (.ref a)])) _
    refine XS.iload X10.here hx rfl (dd hy dJ42_150_87) rfl ?_
    refine XS.iconst X10.here hx rfl (dd hy dJ42_150_89) ?_
    refine XS.ishl X10.here hx rfl (dd hy dJ42_150_90) rfl ?_
    show Steps _ _ _ (T10.setTop (mkF m 91 #[.val (.ref a), .val (.ref sb_), .val .null, .val (.ref va), .val (.int (Int32.ofNat k))] [(.int ((Int32.ofNat k) <<< ((1 : Int32) &&& 31))), (.int (0 : Int32)), (.ref va), (.ref a)])) _
    refine castTop (g' := (mkF m 91 #[.val (.ref a), .val (.ref sb_), .val .null, .val (.ref va), .val (.int (Int32.ofNat k))] [(.int (Int32.ofNat (2 * k))), (.int (0 : Int32)), (.ref va), (.ref a)])) (by rw [own_shl1 (by omega)]) ?_
    show Steps _ _ _ (T10.setTop (mkF m 91 #[.val (.ref a), .val (.ref sb_), .val .null, .val (.ref va), .val (.int (Int32.ofNat k))] [(.int (Int32.ofNat (2 * k))), (.int (0 : Int32)), (.ref va), (.ref a)])) _
    refine st15 _ ?_
    show Steps _ _ _ (T15.setTop (mkF m 94 #[.val (.ref a), .val (.ref sb_), .val .null, .val (.ref va), .val (.int (Int32.ofNat k))] [(.ref b_15), (.ref a)])) _
    refine st19 _ ?_
    exact k_)
  obtain ⟨fs, hr, hrun, hended, hW, hsame⟩ := X19.leave (v := none) (fun _ => rfl)
  have f22 : Arv Z h19 b_15 kb_15 .byte (Int32.ofNat (2 * k)) ((xs.take (2 * k)).map Value.int) v0_ := (Fq15_0.other W19 (show @Ne Nat b_15 a by omega))
  have f23 : Exa Z h19 a cS := (f17.wr W19)
  have f24 : Fld Z h19 a cS "coder" "B" (.int (1 : Int32)) := ((F10.keep K15 nin0).other W19 (Or.inr (slot_ne (Or.inr (own_m hw 31 rfl)) (Or.inr (own_m hw 33 rfl)) (by decide) (t := .byte) (t' := (.array .byte)) (by decide) (by decide))))
  refine ⟨_, _, s21 _ ?_, hrun, hended, _, _, rfl, ?_, ⟨_, rfl⟩, hW, hsame.mono (by decide) (by decide)⟩
  · exact X19.returnOut hx Bd.returns (dd hy dJ42_150_97) hr
  · show Q_rmSAVw Z _ _ _ _ _ _ _ _ h0 n0 _ T19.heap _
    rw [e19]
    exact ⟨b_15, kb_15, rfl, N19, ((((Keep.refl h0 [a]).wr W10 (Or.inl (by simp))).trans K15 all0).wr W19 (Or.inl (by simp))), f23, F19, (by rw [own_codw hlt]; exact f24), (own_ofwb hlt (by rw [htl, ← hts]; exact f22)), by omega⟩
theorem ef_rmSSBw (m : MethodId) (x0 : Addr) (x1 : Addr) : entryFrame m #[(.ref x0), (.ref x1)] 2 = mkF m 0 #[.val (.ref x0), .val (.ref x1)] [] := by first | (simp [entryFrame, mkF, argsToLocals, Value.category]; done) | rfl
abbrev R_rmSSBw : Room := ({ frames := 4, cells := 1, slots := 32, locals := 87 } : Room)
def Q_rmSSBw (Z : State) (a : Addr) (sb_ : Addr) (cst : Int32) (va : Addr) (kc : ClassId) (xs : List Int32) (k : Nat) (ts : List Int32) (h0 : Heap) (n0 : Nat) (v : Option Value) (h : Heap) (L : List Loc) : Prop := ∃ (b : Addr), ∃ (kb : ClassId), (v = none) ∧ (Fr n0 L) ∧ (Keep h0 h [a]) ∧ (Exa Z h a cS) ∧ (Fld Z h a cS "value" "[B" (.ref b)) ∧ (Fld Z h a cS "coder" "B" (.int (own_cod ts))) ∧ (Arv Z h b kb .byte (Int32.ofNat (own_enl ts)) (own_enc ts) v0_) ∧ (h0.size ≤ b)
set_option maxRecDepth 65536 in
set_option maxHeartbeats 40000000 in
theorem rmSSBw (l : Launch) (Z : State) (a0 : Array Value) (hw : HW Z a0) (ws : List Jvm.Cond) (a : Addr) (sb_ : Addr) (cst : Int32) (va : Addr) (kc : ClassId) (xs : List Int32) (k : Nat) (ts : List Int32) (h0 : Heap) (n0 : Nat) (Z0 : n0 ≤ h0.size) (I1 : Sta Z Z.heap cS cC "Z" (.int cst)) (OX : Old Z n0 h0) (hcst : ¬ (cst = (0 : Int32))) (I2 : Exa Z h0 sb_ cB) (I3 : Fld Z h0 sb_ cA "value" "[B" (.ref va)) (I4 : Fld Z h0 sb_ cA "coder" "B" (.int (1 : Int32))) (I5 : Fld Z h0 sb_ cA "count" "I" (.int (Int32.ofNat k))) (I6 : Fld Z h0 sb_ cA "maybeLatin1" "Z" (.int (0 : Int32))) (I7 : Arv Z h0 va kc .byte (Int32.ofNat (2 * 16)) (xs.map Value.int) v0_) (hx32 : xs.length = 32) (hk16 : k < 16) (hts : xs.take (2 * k) = own_wb ts) (hlt : ¬ own_lat ts) (htl : ts.length = k) (I8 : Exa Z h0 a cS) (I9 : Fld Z h0 a cS "value" "[B" .null) (I10 : Fld Z h0 a cS "coder" "B" (.int (0 : Int32))) (ga : n0 ≤ a) (hax : @Ne Nat a sb_) (hav : @Ne Nat a va) :
    MF l Z M47_ (Jvm.Cond.code M47_ jdk_42_method_53_code 2 none :: ws) R_rmSSBw #[(.ref a), (.ref sb_)] h0 (Q_rmSSBw Z a sb_ cst va kc xs k ts h0 n0) := by
  refine MetFree.of_bodySF (plainFor_of_name pn_java_lang_String) hisR ?_
  intro p e s m args below meth c s₁ Bd hml0 hP hK
  obtain ⟨rfl, hZ, hh⟩ := hP
  have hx := Bd.exec
  have hy := Bd.bytes
  have hml : c.maxLocals = 2 := hml0
  have hown : s.vm.findClass "java/lang/String" = some m.cls := findClass_of_methodNamed Bd.named
  have hnm := (name_of_methodNamed Bd.named Bd.method).1
  have X0 : Stand p l e R_rmSSBw s m #[(.ref a), (.ref sb_)] below meth c s₁ [] 0 0 := Stand.of_body Bd
  have e0 : s₁.heap = h0 := by rw [← hh, Bd.state]; rfl
  have N0 := Fr.nil n0
  have pre0 := own_pre (p := p) (e := e) (below := below) (T := s₁) (ef_rmSSBw m a sb_)
  have lt_I2 : @LT.lt Nat _ sb_ h0.size := I2.lt
  have lt_I7 : @LT.lt Nat _ va h0.size := I7.lt
  have lt_I8 : @LT.lt Nat _ a h0.size := I8.lt
  have Zc1 : n0 ≤ h0.size := by omega
  obtain ⟨_, _, ⟨T2, L2, k2, n2⟩, -, X2, ⟨Lc2, hQ2, l2, y2, z2⟩, st2⟩ := X0.specialBack hx (y := M46_) rfl hown (mvT hZ (own_m hw 141 rfl)) (mvT hZ (own_m hw 142 rfl)) (mvT hZ (own_m hw 143 rfl)) (by decide) (backOf (W := 0) (rmSAVw l Z a0 hw [] a sb_ cst va kc xs k ts h0 n0 Zc1 I1 OX hcst I2 I3 I4 I5 I6 I7 hx32 hk16 hts hlt htl I8 I9 I10 ga hax hav) hZ (own_m hw 143 rfl) (own_m hw 7 rfl) (by decide) (by decide)) (g := (mkF m 3 #[.val (.ref a), .val (.ref sb_)] [.null, (.ref sb_), (.ref a)])) rfl (by rw [hml]; rfl) (Steps.refl _) (a := a) (argsL := [(.ref sb_), .null]) (rest := []) (lenOf pd__Ljava_lang_AbstractStringBuilder_Ljava_lang_Void__V rfl) rfl (by show 2 * 0 + _ ≤ _; exact Nat.le_of_eq rfl) (dd hy dJ42_53_3) (fun _ _ => ⟨rfl, e0, (by decide : 0 + 1 ≤ _), (by decide : 0 + 32 ≤ _)⟩)
  dsimp only [Pt.U, Pt.locs, Pt.cells, Pt.slots] at X2 l2 y2 z2 st2 hQ2
  subst l2 y2 z2
  obtain ⟨b_2, kb_2, rfl, N2q, K2, Fq2_0, Fq2_1, Fq2_2, Fq2_3, P2_0⟩ := hQ2
  have N2 := Fr.app N0 N2q
  obtain ⟨h2, e2⟩ : ∃ z, T2.heap = z := ⟨_, rfl⟩
  rw [e2] at K2 Fq2_0 Fq2_1 Fq2_2 Fq2_3
  have z3 : h0.size ≤ h2.size := K2.1
  have lt2_0 : @LT.lt Nat _ a h2.size := Fq2_0.lt
  have lt2_3 : @LT.lt Nat _ b_2 h2.size := Fq2_3.lt
  have s4 : ∀ t_, Steps p.tables e below (T2.setTop (mkF m 6 #[.val (.ref a), .val (.ref sb_)] [])) t_ → Steps _ _ _ _ t_ := fun t_ k_ => pre0 t_ (by
    refine XS.aloadN X0.here hx rfl (dd hy dJ42_53_0) rfl rfl ?_
    refine XS.aloadN X0.here hx rfl (dd hy dJ42_53_1) rfl rfl ?_
    refine XS.aconstNull X0.here hx rfl (dd hy dJ42_53_2) ?_
    refine st2.trans ?_
    show Steps _ _ _ (T2.setTop (mkF m 6 #[.val (.ref a), .val (.ref sb_)] [])) _
    exact k_)
  obtain ⟨fs, hr, hrun, hended, hW, hsame⟩ := X2.leave (v := none) (fun _ => rfl)
  refine ⟨_, _, s4 _ ?_, hrun, hended, _, _, rfl, ?_, ⟨_, rfl⟩, hW, hsame.mono (by decide) (by decide)⟩
  · exact X2.returnOut hx Bd.returns (dd hy dJ42_53_6) hr
  · show Q_rmSSBw Z _ _ _ _ _ _ _ _ h0 n0 _ T2.heap _
    rw [e2]
    exact ⟨b_2, kb_2, rfl, N2, ((Keep.refl h0 [a]).trans K2 (allS (Or.inl (by simp)) all0)), Fq2_0, Fq2_1, Fq2_2, Fq2_3, by omega⟩
theorem ef_rmTSw (m : MethodId) (x0 : Addr) : entryFrame m #[(.ref x0)] 1 = mkF m 0 #[.val (.ref x0)] [] := by first | (simp [entryFrame, mkF, argsToLocals, Value.category]; done) | rfl
abbrev R_rmTSw : Room := ({ frames := 5, cells := 2, slots := 36, locals := 101 } : Room)
def Q_rmTSw (Z : State) (sb_ : Addr) (cst : Int32) (va : Addr) (kc : ClassId) (xs : List Int32) (k : Nat) (ts : List Int32) (h0 : Heap) (n0 : Nat) (v : Option Value) (h : Heap) (L : List Loc) : Prop := ∃ (a : Addr), ∃ (b : Addr), ∃ (kb : ClassId), (v = some (.ref a)) ∧ (Fr n0 L) ∧ (Keep h0 h []) ∧ (Exa Z h a cS) ∧ (Fld Z h a cS "value" "[B" (.ref b)) ∧ (Fld Z h a cS "coder" "B" (.int (own_cod ts))) ∧ (Arv Z h b kb .byte (Int32.ofNat (own_enl ts)) (own_enc ts) v0_) ∧ (h0.size ≤ a) ∧ (h0.size ≤ b)
set_option maxRecDepth 65536 in
set_option maxHeartbeats 40000000 in
theorem rmTSw (l : Launch) (Z : State) (a0 : Array Value) (hw : HW Z a0) (ws : List Jvm.Cond) (sb_ : Addr) (cst : Int32) (va : Addr) (kc : ClassId) (xs : List Int32) (k : Nat) (ts : List Int32) (h0 : Heap) (n0 : Nat) (Z0 : n0 ≤ h0.size) (I1 : Sta Z Z.heap cS cC "Z" (.int cst)) (OX : Old Z n0 h0) (hcst : ¬ (cst = (0 : Int32))) (I2 : Exa Z h0 sb_ cB) (I3 : Fld Z h0 sb_ cA "value" "[B" (.ref va)) (I4 : Fld Z h0 sb_ cA "coder" "B" (.int (1 : Int32))) (I5 : Fld Z h0 sb_ cA "count" "I" (.int (Int32.ofNat k))) (I6 : Fld Z h0 sb_ cA "maybeLatin1" "Z" (.int (0 : Int32))) (I7 : Arv Z h0 va kc .byte (Int32.ofNat (2 * 16)) (xs.map Value.int) v0_) (hx32 : xs.length = 32) (hk16 : k < 16) (hts : xs.take (2 * k) = own_wb ts) (hlt : ¬ own_lat ts) (htl : ts.length = k) :
    MF l Z M48_ (Jvm.Cond.code M48_ jdk_67_method_42_code 1 (some (.object "java/lang/String")) :: ws) R_rmTSw #[(.ref sb_)] h0 (Q_rmTSw Z sb_ cst va kc xs k ts h0 n0) := by
  refine MetFree.of_bodySF (plainFor_of_name pn_java_lang_StringBuilder) hisR ?_
  intro p e s m args below meth c s₁ Bd hml0 hP hK
  obtain ⟨rfl, hZ, hh⟩ := hP
  have hx := Bd.exec
  have hy := Bd.bytes
  have hml : c.maxLocals = 1 := hml0
  have hown : s.vm.findClass "java/lang/StringBuilder" = some m.cls := findClass_of_methodNamed Bd.named
  have hnm := (name_of_methodNamed Bd.named Bd.method).1
  have X0 : Stand p l e R_rmTSw s m #[(.ref sb_)] below meth c s₁ [] 0 0 := Stand.of_body Bd
  have e0 : s₁.heap = h0 := by rw [← hh, Bd.state]; rfl
  have N0 := Fr.nil n0
  have pre0 := own_pre (p := p) (e := e) (below := below) (T := s₁) (ef_rmTSw m sb_)
  have lt_I2 : @LT.lt Nat _ sb_ h0.size := I2.lt
  have lt_I7 : @LT.lt Nat _ va h0.size := I7.lt
  obtain ⟨T1, h1, X1, e1, E1, A1, D1, -, st1⟩ := newO X0 hx hZ hown (own_m hw 137 rfl) (own_m hw 6 rfl) (own_m hw 7 rfl) e0 (g := (mkF m 0 #[.val (.ref sb_)] [])) rfl (dd hy dJ67_42_0) (by decide) (by decide)
  obtain ⟨b1, g1⟩ : ∃ z, z = h0.size := ⟨_, rfl⟩
  rw [← g1] at A1 D1 st1
  have z2 : h0.size ≤ h1.size := E1.1
  have l1 : b1 < h1.size := A1.lt
  have F3 : Fld Z h1 b1 cS "coder" "B" (.int (0 : Int32)) := D1 (Or.inr (own_m hw 31 rfl)) (ty := .byte) (by decide)
  have F4 : Fld Z h1 b1 cS "value" "[B" .null := D1 (Or.inr (own_m hw 33 rfl)) (ty := (.array .byte)) (by decide)
  have O5 : Old Z n0 h1 := (OX.ext E1)
  have f6 : Exa Z h1 sb_ cB := (I2.ext E1)
  have f7 : Fld Z h1 sb_ cA "value" "[B" (.ref va) := (I3.ext E1)
  have f8 : Fld Z h1 sb_ cA "coder" "B" (.int (1 : Int32)) := (I4.ext E1)
  have f9 : Fld Z h1 sb_ cA "count" "I" (.int (Int32.ofNat k)) := (I5.ext E1)
  have f10 : Fld Z h1 sb_ cA "maybeLatin1" "Z" (.int (0 : Int32)) := (I6.ext E1)
  have f11 : Arv Z h1 va kc .byte (Int32.ofNat (2 * 16)) (xs.map Value.int) v0_ := (I7.ext E1)
  have Zc12 : n0 ≤ h1.size := by omega
  obtain ⟨_, _, ⟨T13, L13, k13, n13⟩, -, X13, ⟨Lc13, hQ13, l13, y13, z13⟩, st13⟩ := X1.specialBack hx (y := M47_) rfl hown (mvT hZ (own_m hw 138 rfl)) (mvT hZ (own_m hw 139 rfl)) (mvT hZ (own_m hw 140 rfl)) (by decide) (backOf (W := 1) (rmSSBw l Z a0 hw [] b1 sb_ cst va kc xs k ts h1 n0 Zc12 I1 O5 hcst f6 f7 f8 f9 f10 f11 hx32 hk16 hts hlt htl A1 F4 F3 (by first | assumption | omega | rfl | decide) (by first | assumption | omega | rfl | decide) (by first | assumption | omega | rfl | decide)) hZ (own_m hw 140 rfl) (own_m hw 7 rfl) (by decide) (by decide)) (g := (mkF m 5 #[.val (.ref sb_)] [(.ref sb_), (.ref b1), (.ref b1)])) rfl (by rw [hml]; rfl) (Steps.refl _) (a := b1) (argsL := [(.ref sb_)]) (rest := [(.ref b1)]) (lenOf pd__Ljava_lang_StringBuilder__V rfl) rfl (by show 2 * 0 + _ ≤ _; exact Nat.le_of_eq rfl) (dd hy dJ67_42_5) (fun _ _ => ⟨rfl, e1, (by decide : 1 + 1 ≤ _), (by decide : 4 + 32 ≤ _)⟩)
  dsimp only [Pt.U, Pt.locs, Pt.cells, Pt.slots] at X13 l13 y13 z13 st13 hQ13
  subst l13 y13 z13
  obtain ⟨b_13, kb_13, rfl, N13q, K13, Fq13_0, Fq13_1, Fq13_2, Fq13_3, P13_0⟩ := hQ13
  have N13 := Fr.app N0 N13q
  obtain ⟨h13, e13⟩ : ∃ z, T13.heap = z := ⟨_, rfl⟩
  rw [e13] at K13 Fq13_0 Fq13_1 Fq13_2 Fq13_3
  have z14 : h1.size ≤ h13.size := K13.1
  have lt13_0 : @LT.lt Nat _ b1 h13.size := Fq13_0.lt
  have lt13_3 : @LT.lt Nat _ b_13 h13.size := Fq13_3.lt
  have s15 : ∀ t_, Steps p.tables e below (T13.setTop (mkF m 8 #[.val (.ref sb_)] [(.ref b1)])) t_ → Steps _ _ _ _ t_ := fun t_ k_ => pre0 t_ (by
    refine st1 _ ?_
    refine XS.dup X1.here hx rfl (dd hy dJ67_42_3) rfl rfl ?_
    refine XS.aloadN X1.here hx rfl (dd hy dJ67_42_4) rfl rfl ?_
    refine st13.trans ?_
    show Steps _ _ _ (T13.setTop (mkF m 8 #[.val (.ref sb_)] [(.ref b1)])) _
    exact k_)
  obtain ⟨fs, hr, hrun, hended, hW, hsame⟩ := X13.leave (v := some (.ref b1)) (fun h => by rw [Bd.returns] at h; cases h)
  refine ⟨_, _, s15 _ ?_, hrun, hended, _, _, rfl, ?_, ⟨_, rfl⟩, hW, hsame.mono (by decide) (by decide)⟩
  · jvm_step X13.here [X13.here.top, hx, (dd hy dJ67_42_8), X13.method', Bd.returns, Value.isRef, FieldType.isReference]
    first | (intro acts; rw [hr _ acts rfl rfl rfl]) | rw [hr _ _ rfl rfl rfl]
    exact Steps.refl _
  · show Q_rmTSw Z _ _ _ _ _ _ _ h0 n0 _ T13.heap _
    rw [e13]
    exact ⟨b1, b_13, kb_13, rfl, N13, (((Keep.refl h0 []).ext E1).trans K13 (allS (Or.inr (show h0.size ≤ b1 by omega)) all0)), Fq13_0, Fq13_1, Fq13_2, Fq13_3, by omega, by omega⟩
theorem pn_io_dyeline_store_Layout : plainName "io/dyeline/store/Layout" = true := by first | (simp [plainName, overriddenIn]; done) | decide +kernel
theorem dP8_4_0 : decode CP8_4 0 = .ok (.new 25, 3) := by decide +kernel
theorem dP8_4_3 : decode CP8_4 3 = .ok (.dup, 1) := by decide +kernel
theorem dP8_4_4 : decode CP8_4 4 = .ok (.invokespecial 27, 3) := by decide +kernel
theorem dP8_4_7 : decode CP8_4 7 = .ok (.aload_n 0, 1) := by decide +kernel
theorem dP8_4_8 : decode CP8_4 8 = .ok (.iconst 0, 1) := by decide +kernel
theorem dP8_4_9 : decode CP8_4 9 = .ok (.aload_n 0, 1) := by decide +kernel
theorem dP8_4_10 : decode CP8_4 10 = .ok (.invokevirtual 28, 3) := by decide +kernel
theorem dP8_4_13 : decode CP8_4 13 = .ok (.ldc 20, 2) := by decide +kernel
theorem dP8_4_15 : decode CP8_4 15 = .ok (.invokevirtual 28, 3) := by decide +kernel
theorem dP8_4_18 : decode CP8_4 18 = .ok (.isub, 1) := by decide +kernel
theorem pd__II_Ljava_lang_String_ : parseMethodDescriptor "(II)Ljava/lang/String;" = some ⟨[.int, .int], some (.object "java/lang/String")⟩ := by decide +kernel
theorem dP8_4_19 : decode CP8_4 19 = .ok (.invokevirtual 32, 3) := by decide +kernel
theorem pd__Ljava_lang_String__Ljava_lang_StringBuilder_ : parseMethodDescriptor "(Ljava/lang/String;)Ljava/lang/StringBuilder;" = some ⟨[(.object "java/lang/String")], some (.object "java/lang/StringBuilder")⟩ := by decide +kernel
theorem dP8_4_22 : decode CP8_4 22 = .ok (.invokevirtual 36, 3) := by decide +kernel
theorem dP8_4_25 : decode CP8_4 25 = .ok (.ldc 46, 2) := by decide +kernel
theorem dP8_4_27 : decode CP8_4 27 = .ok (.invokevirtual 36, 3) := by decide +kernel
theorem pd___Ljava_lang_String_ : parseMethodDescriptor "()Ljava/lang/String;" = some ⟨[], some (.object "java/lang/String")⟩ := by decide +kernel
theorem dP8_4_30 : decode CP8_4 30 = .ok (.invokevirtual 42, 3) := by decide +kernel
theorem dP8_4_33 : decode CP8_4 33 = .ok (.areturn, 1) := by decide +kernel
theorem ef_rmSPL (m : MethodId) (x0 : Addr) : entryFrame m #[(.ref x0)] 1 = mkF m 0 #[.val (.ref x0)] [] := by first | (simp [entryFrame, mkF, argsToLocals, Value.category]; done) | rfl
abbrev R_rmSPL : Room := ({ frames := 6, cells := 10, slots := 140, locals := 113 } : Room)
def Q_rmSPL (Z : State) (sx : Addr) (cst : Int32) (bs : Addr) (ks : ClassId) (cs : List Int32) (fmt : Value) (h0 : Heap) (n0 : Nat) (v : Option Value) (h : Heap) (L : List Loc) : Prop := ∃ (a : Addr), ∃ (b : Addr), ∃ (kb : ClassId), (v = some (.ref a)) ∧ (Fr n0 L) ∧ (Keep h0 h []) ∧ (Exa Z h a cS) ∧ (Fld Z h a cS "value" "[B" (.ref b)) ∧ (Fld Z h a cS "coder" "B" (.int (own_cod (cs.take (cs.length - 5) ++ own_tx1)))) ∧ (Arv Z h b kb .byte (Int32.ofNat (own_enl (cs.take (cs.length - 5) ++ own_tx1))) (own_enc (cs.take (cs.length - 5) ++ own_tx1)) v0_) ∧ (h0.size ≤ a)
set_option maxRecDepth 65536 in
set_option maxHeartbeats 40000000 in
theorem rmSPL (l : Launch) (Z : State) (a0 : Array Value) (hw : HW Z a0) (ws : List Jvm.Cond) (sx : Addr) (cst : Int32) (bs : Addr) (ks : ClassId) (cs : List Int32) (fmt : Value) (h0 : Heap) (n0 : Nat) (Z0 : n0 ≤ h0.size) (I1 : Sta Z Z.heap cS cC "Z" (.int cst)) (I2 : Sta Z Z.heap cU cD "Z" (.int (1 : Int32))) (I3 : Sta Z Z.heap cU cH "I" (.int (0 : Int32))) (I4 : Sta Z Z.heap cU cL "I" (.int (8 : Int32))) (hfmt : fmt.isRef = true) (I5 : Sta Z Z.heap cP cG cF fmt) (OX : Old Z n0 h0) (hcst : ¬ (cst = (0 : Int32))) (I6 : Exa Z h0 sx cS) (I7 : Fld Z h0 sx cS "value" "[B" (.ref bs)) (I8 : Fld Z h0 sx cS "coder" "B" (.int (own_cod cs))) (I9 : Arv Z h0 bs ks .byte (Int32.ofNat (own_enl cs)) (own_enc cs) v0_) (hlat : own_lat cs) (hb5 : 5 ≤ cs.length) (hb8 : cs.length ≤ 8) :
    MetFree l M49_ (head1 (Jvm.Cond.code M49_ prog_8_method_4_code 1 (some (.object "java/lang/String")) :: ws) R_rmSPL) (fun ar_ U => ar_ = #[(.ref sx)] ∧ Z.Warmed39 U.vm ∧ U.heap = h0 ∧ CHv Z ELs U.vm h0) (fun _ _ _ _ _ => True) (fun _ U oc_ U' => ∃ v L, oc_ = .returned v ∧ Q_rmSPL Z sx cst bs ks cs fmt h0 n0 v U'.heap L ∧ CHr Z ELs U.vm U.heap U'.vm U'.heap ∧ ReturnedEndW U oc_ U' L R_rmSPL.cells R_rmSPL.slots) := by
  refine MetFree.of_bodySF (plainFor_of_name pn_io_dyeline_store_Layout) hisR ?_
  intro p e s m args below meth c s₁ Bd hml0 hP hK
  obtain ⟨rfl, hZ, hh, hCH⟩ := hP
  have hx := Bd.exec
  have hy := Bd.bytes
  have hml : c.maxLocals = 1 := hml0
  have hown : s.vm.findClass "io/dyeline/store/Layout" = some m.cls := findClass_of_methodNamed Bd.named
  have hnm := (name_of_methodNamed Bd.named Bd.method).1
  have X0 : Stand p l e R_rmSPL (s.setVm s.vm) m #[(.ref sx)] below meth c s₁ [] 0 0 := Stand.of_body Bd
  have e0 : s₁.heap = h0 := by rw [← hh, Bd.state]; rfl
  have N0 := Fr.nil n0
  have pre0 := own_pre (p := p) (e := e) (below := below) (T := s₁) (ef_rmSPL m sx)
  have hEL : EW Z a0 ELs := own_EW hw
  have wS : ∀ a ∈ Bundle.stringAtoms, a.before a0 Z = true := own_wS hw
  have hS : s.Since s.vm s.heap.size := (State.WarmedH.refl s).since _
  have hk : s.heap.size ≤ h0.size := by rw [hh]; exact Nat.le_refl _
  have CR : CHr Z ELs s.vm h0 s.vm h0 := CHr.refl hCH
  have lt_I6 : @LT.lt Nat _ sx h0.size := I6.lt
  have lt_I9 : @LT.lt Nat _ bs h0.size := I9.lt
  obtain ⟨T1, h1, X1, e1, E1, A1, D1, -, st1⟩ := newO X0 hx hZ hown (own_m hw 38 rfl) (own_m hw 39 rfl) (own_m hw 40 rfl) e0 (g := (mkF m 0 #[.val (.ref sx)] [])) rfl (dd hy dP8_4_0) (by decide) (by decide)
  obtain ⟨b1, g1⟩ : ∃ z, z = h0.size := ⟨_, rfl⟩
  rw [← g1] at A1 D1 st1
  have z2 : h0.size ≤ h1.size := E1.1
  have Cp2 : CHr Z ELs s.vm h0 s.vm h1 := CHr.ext E1 CR.1
  have hk := Nat.le_trans hk z2
  have CR := CR.trans Cp2
  have l1 : b1 < h1.size := A1.lt
  have F3 : Fld Z h1 b1 cA "value" "[B" .null := D1 (Or.inl (own_m hw 53 rfl)) (ty := (.array .byte)) (by decide)
  have F4 : Fld Z h1 b1 cA "coder" "B" (.int (0 : Int32)) := D1 (Or.inl (own_m hw 55 rfl)) (ty := .byte) (by decide)
  have F5 : Fld Z h1 b1 cA "count" "I" (.int (0 : Int32)) := D1 (Or.inl (own_m hw 105 rfl)) (ty := .int) (by decide)
  have F6 : Fld Z h1 b1 cA "maybeLatin1" "Z" (.int (0 : Int32)) := D1 (Or.inl (own_m hw 251 rfl)) (ty := .boolean) (by decide)
  have O7 : Old Z n0 h1 := (OX.ext E1)
  have Zc8 : n0 ≤ h1.size := by omega
  obtain ⟨_, _, ⟨T9, L9, k9, n9⟩, -, X9, ⟨Lc9, hQ9, l9, y9, z9⟩, st9⟩ := X1.specialBack hx (y := M32_) rfl hown (mvT hZ (own_m hw 41 rfl)) (mvT hZ (own_m hw 42 rfl)) (mvT hZ (own_m hw 43 rfl)) (by decide) (backOf (W := 1) (rmSBi l Z a0 hw [] b1 cst h1 n0 Zc8 I1 O7 hcst A1 F3 F4 F5 F6 (by first | assumption | omega | rfl | decide)) hZ (own_m hw 43 rfl) (own_m hw 40 rfl) (by decide) (by decide)) (g := (mkF m 4 #[.val (.ref sx)] [(.ref b1), (.ref b1)])) rfl (by rw [hml]; rfl) (Steps.refl _) (a := b1) (argsL := []) (rest := [(.ref b1)]) (lenOf pd___V rfl) rfl (by show 2 * 0 + _ ≤ _; exact Nat.le_of_eq rfl) (dd hy dP8_4_4) (fun _ _ => ⟨rfl, e1, (by decide : 1 + 1 ≤ _), (by decide : 4 + 16 ≤ _)⟩)
  dsimp only [Pt.U, Pt.locs, Pt.cells, Pt.slots] at X9 l9 y9 z9 st9 hQ9
  subst l9 y9 z9
  obtain ⟨va_9, kc_9, rfl, N9q, K9, Fq9_0, Fq9_1, Fq9_2, Fq9_3, Fq9_4, Fq9_5, P9_0⟩ := hQ9
  have N9 := Fr.app N0 N9q
  obtain ⟨h9, e9⟩ : ∃ z, T9.heap = z := ⟨_, rfl⟩
  rw [e9] at K9 Fq9_0 Fq9_1 Fq9_2 Fq9_3 Fq9_4 Fq9_5
  have z10 : h1.size ≤ h9.size := K9.1
  have Sf11 : Safe Z ELs s.vm h9 va_9 := Safe.keep K9 (sfS (Safe.exa hZ.alike A1 (by decide) (by decide)) sf0) CR.1 (Safe.new (by omega))
  have Cp10 : CHr Z ELs s.vm h1 s.vm h9 := CHr.keep K9 (sfS (Safe.exa hZ.alike A1 (by decide) (by decide)) sf0) CR.1
  have hk := Nat.le_trans hk z10
  have CR := CR.trans Cp10
  have lt9_0 : @LT.lt Nat _ b1 h9.size := Fq9_0.lt
  have lt9_5 : @LT.lt Nat _ va_9 h9.size := Fq9_5.lt
  have O12 : Old Z n0 h9 := (O7.keep K9 (allS (show n0 ≤ b1 by omega) all0))
  have f13 : Exa Z h9 sx cS := ((I6.ext E1).keep K9)
  have f14 : Fld Z h9 sx cS "value" "[B" (.ref bs) := ((I7.ext E1).keep K9 (ninS (show @Ne Nat sx b1 by omega) nin0))
  have f15 : Fld Z h9 sx cS "coder" "B" (.int (own_cod cs)) := ((I8.ext E1).keep K9 (ninS (show @Ne Nat sx b1 by omega) nin0))
  have f16 : Arv Z h9 bs ks .byte (Int32.ofNat (own_enl cs)) (own_enc cs) v0_ := ((I9.ext E1).keep K9 (ninS (show @Ne Nat bs b1 by omega) nin0))
  have Zc17 : n0 ≤ h9.size := by omega
  obtain ⟨cq18, kq18, q18a, q18b, q18c⟩ := isOf hZ e9 f13
  obtain ⟨_, _, ⟨T18, L18, k18, n18⟩, -, X18, ⟨Lc18, hQ18, l18, y18, z18⟩, st18⟩ := X9.virtualBack hx (y := M11_) (z := M11_) hown (mvT hZ (own_m hw 56 rfl)) (mvT hZ (own_m hw 57 rfl)) (notFace_of_selects (args := #[]) (mvT hZ (own_m hw 59 rfl))) (mvT hZ (own_m hw 59 rfl)) (mvT hZ (own_m hw 58 rfl)) (by decide) (backOf (W := 3) (rmLen l Z a0 hw [] sx cst bs ks cs h9 n0 Zc17 I1 O12 hcst f13 f14 f15 f16 (by omega)) hZ (own_m hw 60 rfl) (own_m hw 7 rfl) (by decide) (by decide)) q18a q18c (g := (mkF m 10 #[.val (.ref sx)] [(.ref sx), (.int (0 : Int32)), (.ref sx), (.ref b1)])) rfl (by rw [hml]; rfl) (Steps.refl _) (argsL := []) (rest := [(.int (0 : Int32)), (.ref sx), (.ref b1)]) (lenOf pd___I rfl) rfl (by show 2 * 0 + _ ≤ _; exact Nat.le_of_eq rfl) (dd hy dP8_4_10) (fun _ _ => ⟨rfl, e9, (by decide : 2 + 0 ≤ _), (by decide : 20 + 0 ≤ _)⟩)
  dsimp only [Pt.U, Pt.locs, Pt.cells, Pt.slots] at X18 l18 y18 z18 st18 hQ18
  subst l18 y18 z18
  obtain ⟨rfl, N18q, e18⟩ := hQ18
  have N18 := Fr.app N9 N18q
  have s20 : ∀ t_, Steps p.tables e below (T18.setTop (mkF m 13 #[.val (.ref sx)] [(.int (Int32.ofNat cs.length)), (.int (0 : Int32)), (.ref sx), (.ref b1)])) t_ → Steps _ _ _ _ t_ := fun t_ k_ => pre0 t_ (by
    refine st1 _ ?_
    refine XS.dup X1.here hx rfl (dd hy dP8_4_3) rfl rfl ?_
    refine st9.trans ?_
    show Steps _ _ _ (T9.setTop (mkF m 7 #[.val (.ref sx)] [(.ref b1)])) _
    refine XS.aloadN X9.here hx rfl (dd hy dP8_4_7) rfl rfl ?_
    refine XS.iconst X9.here hx rfl (dd hy dP8_4_8) ?_
    refine XS.aloadN X9.here hx rfl (dd hy dP8_4_9) rfl rfl ?_
    refine st18.trans ?_
    show Steps _ _ _ (T18.setTop (mkF m 13 #[.val (.ref sx)] [(.int (Int32.ofNat cs.length)), (.int (0 : Int32)), (.ref sx), (.ref b1)])) _
    exact k_)
  obtain ⟨a19, T19, h19, k19, b19, kk19, X19, e19, E19, hS, hk, hZ, hown, Ex19, Fc19, Fv19, Av19, la19, lb19, Cp19, Li19, Sa19, st19⟩ := ldcCH X18 hx hZ hown (own_m hw 66 rfl) wS e18 hS hk hEL (List.mem_of_getElem? (i := 0) rfl) CR.1 (vs := [(.int (46 : Int32)), (.int (106 : Int32)), (.int (115 : Int32)), (.int (111 : Int32)), (.int (110 : Int32))]) (z := (5 : Int32)) ⟨by decide, by decide⟩ (by decide) rfl (g := (mkF m 13 #[.val (.ref sx)] [(.int (Int32.ofNat cs.length)), (.int (0 : Int32)), (.ref sx), (.ref b1)])) rfl (dd hy dP8_4_13) (n := 20) (by decide) (by decide) (by decide) (by decide)
  have z21 : h9.size ≤ h19.size := E19.1
  have CR := CR.trans Cp19
  have la19 : @LT.lt Nat _ a19 h19.size := la19
  have lb19 : @LT.lt Nat _ b19 h19.size := lb19
  have Fc22 : Fld Z h19 a19 cS "coder" "B" (.int (own_cod own_tx0)) := Fc19
  have Av22 : Arv Z h19 b19 kk19 .byte (Int32.ofNat (own_enl own_tx0)) (own_enc own_tx0) v0_ := own_tx0_lit Av19
  have O23 : Old Z n0 h19 := (O12.ext E19)
  have Zc24 : n0 ≤ h19.size := by omega
  obtain ⟨cq25, kq25, q25a, q25b, q25c⟩ := isOf hZ e19 Ex19
  obtain ⟨_, _, ⟨T25, L25, k25, n25⟩, -, X25, ⟨Lc25, hQ25, l25, y25, z25⟩, st25⟩ := X19.virtualBack hx (y := M11_) (z := M11_) hown (mvT hZ (own_m hw 56 rfl)) (mvT hZ (own_m hw 57 rfl)) (notFace_of_selects (args := #[]) (mvT hZ (own_m hw 59 rfl))) (mvT hZ (own_m hw 59 rfl)) (mvT hZ (own_m hw 58 rfl)) (by decide) (backOf (W := 4) (rmLen l Z a0 hw [] a19 cst b19 kk19 own_tx0 h19 n0 Zc24 I1 O23 hcst Ex19 Fv19 Fc22 Av22 (by decide)) hZ (own_m hw 60 rfl) (own_m hw 7 rfl) (by decide) (by decide)) q25a q25c (g := (mkF m 15 #[.val (.ref sx)] [(.ref a19), (.int (Int32.ofNat cs.length)), (.int (0 : Int32)), (.ref sx), (.ref b1)])) rfl (by rw [hml]; rfl) (Steps.refl _) (argsL := []) (rest := [(.int (Int32.ofNat cs.length)), (.int (0 : Int32)), (.ref sx), (.ref b1)]) (lenOf pd___I rfl) rfl (by show 2 * 0 + _ ≤ _; exact Nat.le_of_eq rfl) (dd hy dP8_4_15) (fun _ _ => ⟨rfl, e19, (by decide : 4 + 0 ≤ _), (by decide : 44 + 0 ≤ _)⟩)
  dsimp only [Pt.U, Pt.locs, Pt.cells, Pt.slots] at X25 l25 y25 z25 st25 hQ25
  subst l25 y25 z25
  obtain ⟨rfl, N25q, e25⟩ := hQ25
  have N25 := Fr.app N18 N25q
  have f26 : Exa Z h19 sx cS := (f13.ext E19)
  have f27 : Fld Z h19 sx cS "value" "[B" (.ref bs) := (f14.ext E19)
  have f28 : Fld Z h19 sx cS "coder" "B" (.int (own_cod cs)) := (f15.ext E19)
  have f29 : Arv Z h19 bs ks .byte (Int32.ofNat (own_enl cs)) (own_enc cs) v0_ := (f16.ext E19)
  have Zc30 : n0 ≤ h19.size := by omega
  have s32 : ∀ t_, Steps p.tables e below (T25.setTop (mkF m 19 #[.val (.ref sx)] [(.int (Int32.ofNat (cs.length - 5))), (.int (0 : Int32)), (.ref sx), (.ref b1)])) t_ → Steps _ _ _ _ t_ := fun t_ k_ => s20 t_ (by
    refine st19 _ ?_
    show Steps _ _ _ (T19.setTop (mkF m 15 #[.val (.ref sx)] [(.ref a19), (.int (Int32.ofNat cs.length)), (.int (0 : Int32)), (.ref sx), (.ref b1)])) _
    refine st25.trans ?_
    show Steps _ _ _ (T25.setTop (mkF m 18 #[.val (.ref sx)] [(.int (Int32.ofNat own_tx0.length)), (.int (Int32.ofNat cs.length)), (.int (0 : Int32)), (.ref sx), (.ref b1)])) _
    refine XS.isub X25.here hx rfl (dd hy dP8_4_18) rfl ?_
    show Steps _ _ _ (T25.setTop (mkF m 19 #[.val (.ref sx)] [(.int ((Int32.ofNat cs.length) - (Int32.ofNat own_tx0.length))), (.int (0 : Int32)), (.ref sx), (.ref b1)])) _
    refine castTop (g' := (mkF m 19 #[.val (.ref sx)] [(.int (Int32.ofNat (cs.length - 5))), (.int (0 : Int32)), (.ref sx), (.ref b1)])) (by rw [show (Int32.ofNat cs.length) - (Int32.ofNat own_tx0.length) = Int32.ofNat (cs.length - 5) from own_subn (k := 5) (by omega)]) ?_
    show Steps _ _ _ (T25.setTop (mkF m 19 #[.val (.ref sx)] [(.int (Int32.ofNat (cs.length - 5))), (.int (0 : Int32)), (.ref sx), (.ref b1)])) _
    exact k_)
  obtain ⟨cq31, kq31, q31a, q31b, q31c⟩ := isOf hZ e25 f26
  obtain ⟨_, _, ⟨T31, L31, k31, n31⟩, -, Xr31, hSr31, hg31, ⟨Lc31, hQ31, l31, y31, z31, Cp31⟩, st31⟩ := X25.virtualBackS hx (y := M27_) (z := M27_) hown (mvT hZ (own_m hw 69 rfl)) (mvT hZ (own_m hw 70 rfl)) (notFace_of_selects (args := #[]) (mvT hZ (own_m hw 72 rfl))) (mvT hZ (own_m hw 72 rfl)) (mvT hZ (own_m hw 71 rfl)) (by decide) (backOfSH (s := s) (vm0 := T19.vm) (W := 1) (rmSubA l Z a0 hw [] sx cst bs ks cs (cs.length - 5) fmt h19 n0 Zc30 I1 hfmt I5 O23 hcst f26 f27 f28 f29 hlat hb8 (by omega)) hZ (own_m hw 73 rfl) (own_m hw 7 rfl) (by decide) (by decide) hEL CR.1) q31a q31c (g := (mkF m 19 #[.val (.ref sx)] [(.int (Int32.ofNat (cs.length - 5))), (.int (0 : Int32)), (.ref sx), (.ref b1)])) rfl (by rw [hml]; rfl) (Steps.refl _) (argsL := [(.int (0 : Int32)), (.int (Int32.ofNat (cs.length - 5)))]) (rest := [(.ref b1)]) (lenOf pd__II_Ljava_lang_String_ rfl) rfl (by show 2 * 0 + _ ≤ _; exact Nat.le_of_eq rfl) (dd hy dP8_4_19) (fun _ _ => ⟨rfl, e25, (by decide : 4 + 2 ≤ _), (by decide : 44 + 36 ≤ _)⟩)
  dsimp only [Pt.U, Pt.locs, Pt.cells, Pt.slots] at Xr31 hSr31 hg31 l31 y31 z31 st31 hQ31 Cp31
  subst l31 y31 z31
  obtain ⟨X31, hS, hZ, hown⟩ := rebS (own := "io/dyeline/store/Layout") hS (by first | exact Nat.le_refl _ | (rw [e25]; exact hk)) Xr31 hSr31 hg31 hZ hown
  obtain ⟨sa_31, sb_31, ks_31, rfl, N31q, K31, Fq31_0, Fq31_1, Fq31_2, Fq31_3⟩ := hQ31
  have N31 := Fr.app N25 N31q
  obtain ⟨h31, e31⟩ : ∃ z, T31.heap = z := ⟨_, rfl⟩
  rw [e31] at K31 Fq31_0 Fq31_1 Fq31_2 Fq31_3 Cp31
  have hk : T31.heap.size ≤ h31.size := Nat.le_of_eq (congrArg Array.size e31)
  have z33 : h19.size ≤ h31.size := K31.1
  have CR := CR.trans Cp31
  have lt31_0 : @LT.lt Nat _ sa_31 h31.size := Fq31_0.lt
  have lt31_3 : @LT.lt Nat _ sb_31 h31.size := Fq31_3.lt
  have O34 : Old Z n0 h31 := (O23.keep K31 all0)
  have f35 : Exa Z h31 b1 cB := ((Fq9_0.ext E19).keep K31)
  have f36 : Fld Z h31 b1 cA "value" "[B" (.ref va_9) := ((Fq9_1.ext E19).keep K31 nin0)
  have f37 : Fld Z h31 b1 cA "coder" "B" (.int (0 : Int32)) := ((Fq9_2.ext E19).keep K31 nin0)
  have f38 : Fld Z h31 b1 cA "count" "I" (.int (0 : Int32)) := ((Fq9_3.ext E19).keep K31 nin0)
  have f39 : Fld Z h31 b1 cA "maybeLatin1" "Z" (.int (0 : Int32)) := ((Fq9_4.ext E19).keep K31 nin0)
  have f40 : Arv Z h31 va_9 kc_9 .byte (16 : Int32) ((List.replicate 16 (0 : Int32)).map Value.int) v0_ := ((Fq9_5.ext E19).keep K31 nin0)
  have Zc41 : n0 ≤ h31.size := by omega
  obtain ⟨cq42, kq42, q42a, q42b, q42c⟩ := isOf hZ e31 f35
  obtain ⟨_, _, ⟨T42, L42, k42, n42⟩, -, X42, ⟨Lc42, hQ42, l42, y42, z42⟩, st42⟩ := X31.virtualBack hx (y := M45_) (z := M45_) hown (mvT hZ (own_m hw 93 rfl)) (mvT hZ (own_m hw 94 rfl)) (notFace_of_selects (args := #[]) (mvT hZ (own_m hw 96 rfl))) (mvT hZ (own_m hw 96 rfl)) (mvT hZ (own_m hw 95 rfl)) (by decide) (backOf (W := 0) (rmSApp l Z a0 hw [] b1 sa_31 cst sb_31 ks_31 (cs.take (cs.length - 5)) va_9 kc_9 (List.replicate 16 (0 : Int32)) 0 h31 n0 Zc41 I1 O34 hcst f35 f36 f37 f38 f39 f40 Fq31_0 Fq31_1 Fq31_2 Fq31_3 rfl (by first | assumption | omega | rfl | decide) (by first | assumption | omega | rfl | decide) (by first | assumption | omega | rfl | decide) (own_lattake hlat) (by simp only [List.length_take]; omega)) hZ (own_m hw 97 rfl) (own_m hw 40 rfl) (by decide) (by decide)) q42a q42c (g := (mkF m 22 #[.val (.ref sx)] [(.ref sa_31), (.ref b1)])) rfl (by rw [hml]; rfl) (Steps.refl _) (argsL := [(.ref sa_31)]) (rest := []) (lenOf pd__Ljava_lang_String__Ljava_lang_StringBuilder_ rfl) rfl (by show 2 * 0 + _ ≤ _; exact Nat.le_of_eq rfl) (dd hy dP8_4_22) (fun _ _ => ⟨rfl, e31, (by decide : 6 + 0 ≤ _), (by decide : 80 + 0 ≤ _)⟩)
  dsimp only [Pt.U, Pt.locs, Pt.cells, Pt.slots] at X42 l42 y42 z42 st42 hQ42
  subst l42 y42 z42
  obtain ⟨rfl, N42q, K42, Fq42_0, Fq42_1, Fq42_2, Fq42_3, Fq42_4, Fq42_5⟩ := hQ42
  have N42 := Fr.app N31 N42q
  obtain ⟨h42, e42⟩ : ∃ z, T42.heap = z := ⟨_, rfl⟩
  rw [e42] at K42 Fq42_0 Fq42_1 Fq42_2 Fq42_3 Fq42_4 Fq42_5
  have Sf44 : Safe Z ELs T31.vm h31 va_9 := (Cp31.safe (show @LT.lt Nat _ va_9 h19.size by omega) (Cp19.safe (show @LT.lt Nat _ va_9 h9.size by omega) Sf11))
  have z43 : h31.size ≤ h42.size := K42.1
  have Cp43 : CHr Z ELs T31.vm h31 T31.vm h42 := CHr.keep K42 (sfS (Safe.exa hZ.alike f35 (by decide) (by decide)) (sfS Sf44 sf0)) CR.1
  have hk := Nat.le_trans hk z43
  have CR := CR.trans Cp43
  have lt42_0 : @LT.lt Nat _ b1 h42.size := Fq42_0.lt
  have lt42_5 : @LT.lt Nat _ va_9 h42.size := Fq42_5.lt
  have s46 : ∀ t_, Steps p.tables e below (T42.setTop (mkF m 25 #[.val (.ref sx)] [(.ref b1)])) t_ → Steps _ _ _ _ t_ := fun t_ k_ => s32 t_ (by
    refine st31.trans ?_
    show Steps _ _ _ (T31.setTop (mkF m 22 #[.val (.ref sx)] [(.ref sa_31), (.ref b1)])) _
    refine st42.trans ?_
    show Steps _ _ _ (T42.setTop (mkF m 25 #[.val (.ref sx)] [(.ref b1)])) _
    exact k_)
  obtain ⟨a45, T45, h45, k45, b45, kk45, X45, e45, E45, hS, hk, hZ, hown, Ex45, Fc45, Fv45, Av45, la45, lb45, Cp45, Li45, Sa45, st45⟩ := ldcCH X42 hx hZ hown (own_m hw 131 rfl) wS e42 hS hk hEL (List.mem_of_getElem? (i := 1) rfl) CR.1 (vs := [(.int (46 : Int32)), (.int (115 : Int32)), (.int (101 : Int32)), (.int (116 : Int32)), (.int (115 : Int32))]) (z := (5 : Int32)) ⟨by decide, by decide⟩ (by decide) rfl (g := (mkF m 25 #[.val (.ref sx)] [(.ref b1)])) rfl (dd hy dP8_4_25) (n := 20) (by decide) (by decide) (by decide) (by decide)
  have z47 : h42.size ≤ h45.size := E45.1
  have CR := CR.trans Cp45
  have la45 : @LT.lt Nat _ a45 h45.size := la45
  have lb45 : @LT.lt Nat _ b45 h45.size := lb45
  have Fc48 : Fld Z h45 a45 cS "coder" "B" (.int (own_cod own_tx1)) := Fc45
  have Av48 : Arv Z h45 b45 kk45 .byte (Int32.ofNat (own_enl own_tx1)) (own_enc own_tx1) v0_ := own_tx1_lit Av45
  have O49 : Old Z n0 h45 := ((O34.keep K42 (allS (show n0 ≤ b1 by omega) (allS (show n0 ≤ va_9 by omega) all0))).ext E45)
  have f50 : Exa Z h45 b1 cB := (Fq42_0.ext E45)
  have f51 : Fld Z h45 b1 cA "value" "[B" (.ref va_9) := (Fq42_1.ext E45)
  have f52 : Fld Z h45 b1 cA "coder" "B" (.int (0 : Int32)) := (Fq42_2.ext E45)
  have f53 : Fld Z h45 b1 cA "count" "I" (.int (Int32.ofNat (0 + (cs.take (cs.length - 5)).length))) := (Fq42_3.ext E45)
  have f54 : Fld Z h45 b1 cA "maybeLatin1" "Z" (.int (0 : Int32)) := (Fq42_4.ext E45)
  have f55 : Arv Z h45 va_9 kc_9 .byte (16 : Int32) (((List.replicate 16 (0 : Int32)).take 0 ++ (cs.take (cs.length - 5)).map own_lo ++ (List.replicate 16 (0 : Int32)).drop (0 + (cs.take (cs.length - 5)).length)).map Value.int) v0_ := (Fq42_5.ext E45)
  have Zc56 : n0 ≤ h45.size := by omega
  obtain ⟨cq57, kq57, q57a, q57b, q57c⟩ := isOf hZ e45 f50
  obtain ⟨_, _, ⟨T57, L57, k57, n57⟩, -, X57, ⟨Lc57, hQ57, l57, y57, z57⟩, st57⟩ := X45.virtualBack hx (y := M45_) (z := M45_) hown (mvT hZ (own_m hw 93 rfl)) (mvT hZ (own_m hw 94 rfl)) (notFace_of_selects (args := #[]) (mvT hZ (own_m hw 96 rfl))) (mvT hZ (own_m hw 96 rfl)) (mvT hZ (own_m hw 95 rfl)) (by decide) (backOf (W := 0) (rmSApp l Z a0 hw [] b1 a45 cst b45 kk45 own_tx1 va_9 kc_9 ((List.replicate 16 (0 : Int32)).take 0 ++ (cs.take (cs.length - 5)).map own_lo ++ (List.replicate 16 (0 : Int32)).drop (0 + (cs.take (cs.length - 5)).length)) (0 + (cs.take (cs.length - 5)).length) h45 n0 Zc56 I1 O49 hcst f50 f51 f52 f53 f54 f55 Ex45 Fv45 Fc48 Av48 (by simp only [List.length_append, List.length_take, List.length_drop, List.length_map, List.length_replicate]; omega) (by first | assumption | omega | rfl | decide) (by first | assumption | omega | rfl | decide) (by first | assumption | omega | rfl | decide) own_tx1_lat (by simp only [List.length_take]; show _ + 5 ≤ 16; omega)) hZ (own_m hw 97 rfl) (own_m hw 40 rfl) (by decide) (by decide)) q57a q57c (g := (mkF m 27 #[.val (.ref sx)] [(.ref a45), (.ref b1)])) rfl (by rw [hml]; rfl) (Steps.refl _) (argsL := [(.ref a45)]) (rest := []) (lenOf pd__Ljava_lang_String__Ljava_lang_StringBuilder_ rfl) rfl (by show 2 * 0 + _ ≤ _; exact Nat.le_of_eq rfl) (dd hy dP8_4_27) (fun _ _ => ⟨rfl, e45, (by decide : 8 + 0 ≤ _), (by decide : 104 + 0 ≤ _)⟩)
  dsimp only [Pt.U, Pt.locs, Pt.cells, Pt.slots] at X57 l57 y57 z57 st57 hQ57
  subst l57 y57 z57
  obtain ⟨rfl, N57q, K57, Fq57_0, Fq57_1, Fq57_2, Fq57_3, Fq57_4, Fq57_5⟩ := hQ57
  have N57 := Fr.app N42 N57q
  obtain ⟨h57, e57⟩ : ∃ z, T57.heap = z := ⟨_, rfl⟩
  rw [e57] at K57 Fq57_0 Fq57_1 Fq57_2 Fq57_3 Fq57_4 Fq57_5
  have Sf59 : Safe Z ELs T45.vm h45 va_9 := (Cp45.safe (show @LT.lt Nat _ va_9 h42.size by omega) (Cp43.safe (show @LT.lt Nat _ va_9 h31.size by omega) Sf44))
  have z58 : h45.size ≤ h57.size := K57.1
  have Cp58 : CHr Z ELs T45.vm h45 T45.vm h57 := CHr.keep K57 (sfS (Safe.exa hZ.alike f50 (by decide) (by decide)) (sfS Sf59 sf0)) CR.1
  have hk := Nat.le_trans hk z58
  have CR := CR.trans Cp58
  have lt57_0 : @LT.lt Nat _ b1 h57.size := Fq57_0.lt
  have lt57_5 : @LT.lt Nat _ va_9 h57.size := Fq57_5.lt
  have O60 : Old Z n0 h57 := (O49.keep K57 (allS (show n0 ≤ b1 by omega) (allS (show n0 ≤ va_9 by omega) all0)))
  have Zc61 : n0 ≤ h57.size := by omega
  obtain ⟨cq62, kq62, q62a, q62b, q62c⟩ := isOf hZ e57 Fq57_0
  obtain ⟨_, _, ⟨T62, L62, k62, n62⟩, -, X62, ⟨Lc62, hQ62, l62, y62, z62⟩, st62⟩ := X57.virtualBack hx (y := M48_) (z := M48_) hown (mvT hZ (own_m hw 132 rfl)) (mvT hZ (own_m hw 133 rfl)) (notFace_of_selects (args := #[]) (mvT hZ (own_m hw 135 rfl))) (mvT hZ (own_m hw 135 rfl)) (mvT hZ (own_m hw 134 rfl)) (by decide) (backOf (W := 0) (rmTS l Z a0 hw [] b1 cst va_9 kc_9 (((List.replicate 16 (0 : Int32)).take 0 ++ (cs.take (cs.length - 5)).map own_lo ++ (List.replicate 16 (0 : Int32)).drop (0 + (cs.take (cs.length - 5)).length)).take (0 + (cs.take (cs.length - 5)).length) ++ own_tx1.map own_lo ++ ((List.replicate 16 (0 : Int32)).take 0 ++ (cs.take (cs.length - 5)).map own_lo ++ (List.replicate 16 (0 : Int32)).drop (0 + (cs.take (cs.length - 5)).length)).drop ((0 + (cs.take (cs.length - 5)).length) + own_tx1.length)) ((0 + (cs.take (cs.length - 5)).length) + own_tx1.length) (cs.take (cs.length - 5) ++ own_tx1) h57 n0 Zc61 I1 O60 hcst Fq57_0 Fq57_1 Fq57_2 Fq57_3 Fq57_4 Fq57_5 (by have e5 : own_tx1.length = 5 := rfl; simp only [List.length_append, List.length_take, List.length_drop, List.length_map, List.length_replicate]; omega) (by simp only [List.length_take]; show _ + 5 < 16; omega) (own_tagts (cs.take (cs.length - 5))) (own_latapp (own_lattake hlat) own_tx1_lat) (by rw [List.length_append, Nat.zero_add])) hZ (own_m hw 136 rfl) (own_m hw 40 rfl) (by decide) (by decide)) q62a q62c (g := (mkF m 30 #[.val (.ref sx)] [(.ref b1)])) rfl (by rw [hml]; rfl) (Steps.refl _) (argsL := []) (rest := []) (lenOf pd___Ljava_lang_String_ rfl) rfl (by show 2 * 0 + _ ≤ _; exact Nat.le_of_eq rfl) (dd hy dP8_4_30) (fun _ _ => ⟨rfl, e57, (by decide : 8 + 2 ≤ _), (by decide : 104 + 36 ≤ _)⟩)
  dsimp only [Pt.U, Pt.locs, Pt.cells, Pt.slots] at X62 l62 y62 z62 st62 hQ62
  subst l62 y62 z62
  obtain ⟨a_62, b_62, kb_62, rfl, N62q, K62, Fq62_0, Fq62_1, Fq62_2, Fq62_3, P62_0, P62_1⟩ := hQ62
  have N62 := Fr.app N57 N62q
  obtain ⟨h62, e62⟩ : ∃ z, T62.heap = z := ⟨_, rfl⟩
  rw [e62] at K62 Fq62_0 Fq62_1 Fq62_2 Fq62_3
  have z63 : h57.size ≤ h62.size := K62.1
  have Cp63 : CHr Z ELs T45.vm h57 T45.vm h62 := CHr.keep K62 sf0 CR.1
  have hk := Nat.le_trans hk z63
  have CR := CR.trans Cp63
  have lt62_0 : @LT.lt Nat _ a_62 h62.size := Fq62_0.lt
  have lt62_3 : @LT.lt Nat _ b_62 h62.size := Fq62_3.lt
  have s64 : ∀ t_, Steps p.tables e below (T62.setTop (mkF m 33 #[.val (.ref sx)] [(.ref a_62)])) t_ → Steps _ _ _ _ t_ := fun t_ k_ => s46 t_ (by
    refine st45 _ ?_
    show Steps _ _ _ (T45.setTop (mkF m 27 #[.val (.ref sx)] [(.ref a45), (.ref b1)])) _
    refine st57.trans ?_
    show Steps _ _ _ (T57.setTop (mkF m 30 #[.val (.ref sx)] [(.ref b1)])) _
    refine st62.trans ?_
    show Steps _ _ _ (T62.setTop (mkF m 33 #[.val (.ref sx)] [(.ref a_62)])) _
    exact k_)
  obtain ⟨fs, hr, hrun, hended, hREW⟩ := X62.leaveW hS (by first | exact Nat.le_refl _ | (rw [e62]; exact hk)) (v := some (.ref a_62)) (fun h => by rw [Bd.returns] at h; cases h)
  refine ⟨_, _, s64 _ ?_, hrun, hended, _, _, rfl, ?_, (by show CHr Z ELs s.vm s.heap T62.vm T62.heap; rw [hh, e62]; exact CR.trans (CHv.at X62 hZ hEL CR.1)), hREW.1, hREW.2.1, hREW.2.2.1, hREW.2.2.2.mono (by decide) (by decide)⟩
  · jvm_step X62.here [X62.here.top, hx, (dd hy dP8_4_33), X62.method', Bd.returns, Value.isRef, FieldType.isReference]
    first | (intro acts; rw [hr _ acts rfl rfl rfl]) | rw [hr _ _ rfl rfl rfl]
    exact Steps.refl _
  · show Q_rmSPL Z _ _ _ _ _ _ h0 n0 _ T62.heap _
    rw [e62]
    exact ⟨a_62, b_62, kb_62, rfl, N62, (((((((((Keep.refl h0 []).ext E1).trans K9 (allS (Or.inr (show h0.size ≤ b1 by omega)) all0)).ext E19).trans K31 all0).trans K42 (allS (Or.inr (show h0.size ≤ b1 by omega)) (allS (Or.inr (show h0.size ≤ va_9 by omega)) all0))).ext E45).trans K57 (allS (Or.inr (show h0.size ≤ b1 by omega)) (allS (Or.inr (show h0.size ≤ va_9 by omega)) all0))).trans K62 all0), Fq62_0, Fq62_1, Fq62_2, Fq62_3, by omega⟩
theorem ef_rmSPW (m : MethodId) (x0 : Addr) : entryFrame m #[(.ref x0)] 1 = mkF m 0 #[.val (.ref x0)] [] := by first | (simp [entryFrame, mkF, argsToLocals, Value.category]; done) | rfl
abbrev R_rmSPW : Room := ({ frames := 10, cells := 12, slots := 180, locals := 143 } : Room)
def Q_rmSPW (Z : State) (sx : Addr) (cst : Int32) (bs : Addr) (ks : ClassId) (cs : List Int32) (fmt : Value) (h0 : Heap) (n0 : Nat) (v : Option Value) (h : Heap) (L : List Loc) : Prop := ∃ (a : Addr), ∃ (b : Addr), ∃ (kb : ClassId), (v = some (.ref a)) ∧ (Fr n0 L) ∧ (Keep h0 h []) ∧ (Exa Z h a cS) ∧ (Fld Z h a cS "value" "[B" (.ref b)) ∧ (Fld Z h a cS "coder" "B" (.int (own_cod (cs.take (cs.length - 5) ++ own_tx1)))) ∧ (Arv Z h b kb .byte (Int32.ofNat (own_enl (cs.take (cs.length - 5) ++ own_tx1))) (own_enc (cs.take (cs.length - 5) ++ own_tx1)) v0_) ∧ (h0.size ≤ a)
set_option maxRecDepth 65536 in
set_option maxHeartbeats 40000000 in
theorem rmSPW (l : Launch) (Z : State) (a0 : Array Value) (hw : HW Z a0) (ws : List Jvm.Cond) (sx : Addr) (cst : Int32) (bs : Addr) (ks : ClassId) (cs : List Int32) (fmt : Value) (h0 : Heap) (n0 : Nat) (Z0 : n0 ≤ h0.size) (I1 : Sta Z Z.heap cS cC "Z" (.int cst)) (I2 : Sta Z Z.heap cU cD "Z" (.int (1 : Int32))) (I3 : Sta Z Z.heap cU cH "I" (.int (0 : Int32))) (I4 : Sta Z Z.heap cU cL "I" (.int (8 : Int32))) (hfmt : fmt.isRef = true) (I5 : Sta Z Z.heap cP cG cF fmt) (OX : Old Z n0 h0) (hcst : ¬ (cst = (0 : Int32))) (I6 : Exa Z h0 sx cS) (I7 : Fld Z h0 sx cS "value" "[B" (.ref bs)) (I8 : Fld Z h0 sx cS "coder" "B" (.int (own_cod cs))) (I9 : Arv Z h0 bs ks .byte (Int32.ofNat (own_enl cs)) (own_enc cs) v0_) (hnl : ¬ own_lat cs) (hnk : ¬ own_lat (cs.take (cs.length - 5))) (hchs : own_chs cs) (hb5 : 5 ≤ cs.length) (hb8 : cs.length ≤ 8) :
    MetFree l M49_ (head1 (Jvm.Cond.code M49_ prog_8_method_4_code 1 (some (.object "java/lang/String")) :: ws) R_rmSPW) (fun ar_ U => ar_ = #[(.ref sx)] ∧ Z.Warmed39 U.vm ∧ U.heap = h0 ∧ CHv Z ELs U.vm h0) (fun _ _ _ _ _ => True) (fun _ U oc_ U' => ∃ v L, oc_ = .returned v ∧ Q_rmSPW Z sx cst bs ks cs fmt h0 n0 v U'.heap L ∧ CHr Z ELs U.vm U.heap U'.vm U'.heap ∧ ReturnedEndW U oc_ U' L R_rmSPW.cells R_rmSPW.slots) := by
  refine MetFree.of_bodySF (plainFor_of_name pn_io_dyeline_store_Layout) hisR ?_
  intro p e s m args below meth c s₁ Bd hml0 hP hK
  obtain ⟨rfl, hZ, hh, hCH⟩ := hP
  have hx := Bd.exec
  have hy := Bd.bytes
  have hml : c.maxLocals = 1 := hml0
  have hown : s.vm.findClass "io/dyeline/store/Layout" = some m.cls := findClass_of_methodNamed Bd.named
  have hnm := (name_of_methodNamed Bd.named Bd.method).1
  have X0 : Stand p l e R_rmSPW (s.setVm s.vm) m #[(.ref sx)] below meth c s₁ [] 0 0 := Stand.of_body Bd
  have e0 : s₁.heap = h0 := by rw [← hh, Bd.state]; rfl
  have N0 := Fr.nil n0
  have pre0 := own_pre (p := p) (e := e) (below := below) (T := s₁) (ef_rmSPW m sx)
  have hEL : EW Z a0 ELs := own_EW hw
  have wS : ∀ a ∈ Bundle.stringAtoms, a.before a0 Z = true := own_wS hw
  have hS : s.Since s.vm s.heap.size := (State.WarmedH.refl s).since _
  have hk : s.heap.size ≤ h0.size := by rw [hh]; exact Nat.le_refl _
  have CR : CHr Z ELs s.vm h0 s.vm h0 := CHr.refl hCH
  have lt_I6 : @LT.lt Nat _ sx h0.size := I6.lt
  have lt_I9 : @LT.lt Nat _ bs h0.size := I9.lt
  obtain ⟨T1, h1, X1, e1, E1, A1, D1, -, st1⟩ := newO X0 hx hZ hown (own_m hw 38 rfl) (own_m hw 39 rfl) (own_m hw 40 rfl) e0 (g := (mkF m 0 #[.val (.ref sx)] [])) rfl (dd hy dP8_4_0) (by decide) (by decide)
  obtain ⟨b1, g1⟩ : ∃ z, z = h0.size := ⟨_, rfl⟩
  rw [← g1] at A1 D1 st1
  have z2 : h0.size ≤ h1.size := E1.1
  have Cp2 : CHr Z ELs s.vm h0 s.vm h1 := CHr.ext E1 CR.1
  have hk := Nat.le_trans hk z2
  have CR := CR.trans Cp2
  have l1 : b1 < h1.size := A1.lt
  have F3 : Fld Z h1 b1 cA "value" "[B" .null := D1 (Or.inl (own_m hw 53 rfl)) (ty := (.array .byte)) (by decide)
  have F4 : Fld Z h1 b1 cA "coder" "B" (.int (0 : Int32)) := D1 (Or.inl (own_m hw 55 rfl)) (ty := .byte) (by decide)
  have F5 : Fld Z h1 b1 cA "count" "I" (.int (0 : Int32)) := D1 (Or.inl (own_m hw 105 rfl)) (ty := .int) (by decide)
  have F6 : Fld Z h1 b1 cA "maybeLatin1" "Z" (.int (0 : Int32)) := D1 (Or.inl (own_m hw 251 rfl)) (ty := .boolean) (by decide)
  have O7 : Old Z n0 h1 := (OX.ext E1)
  have Zc8 : n0 ≤ h1.size := by omega
  obtain ⟨_, _, ⟨T9, L9, k9, n9⟩, -, X9, ⟨Lc9, hQ9, l9, y9, z9⟩, st9⟩ := X1.specialBack hx (y := M32_) rfl hown (mvT hZ (own_m hw 41 rfl)) (mvT hZ (own_m hw 42 rfl)) (mvT hZ (own_m hw 43 rfl)) (by decide) (backOf (W := 1) (rmSBi l Z a0 hw [] b1 cst h1 n0 Zc8 I1 O7 hcst A1 F3 F4 F5 F6 (by first | assumption | omega | rfl | decide)) hZ (own_m hw 43 rfl) (own_m hw 40 rfl) (by decide) (by decide)) (g := (mkF m 4 #[.val (.ref sx)] [(.ref b1), (.ref b1)])) rfl (by rw [hml]; rfl) (Steps.refl _) (a := b1) (argsL := []) (rest := [(.ref b1)]) (lenOf pd___V rfl) rfl (by show 2 * 0 + _ ≤ _; exact Nat.le_of_eq rfl) (dd hy dP8_4_4) (fun _ _ => ⟨rfl, e1, (by decide : 1 + 1 ≤ _), (by decide : 4 + 16 ≤ _)⟩)
  dsimp only [Pt.U, Pt.locs, Pt.cells, Pt.slots] at X9 l9 y9 z9 st9 hQ9
  subst l9 y9 z9
  obtain ⟨va_9, kc_9, rfl, N9q, K9, Fq9_0, Fq9_1, Fq9_2, Fq9_3, Fq9_4, Fq9_5, P9_0⟩ := hQ9
  have N9 := Fr.app N0 N9q
  obtain ⟨h9, e9⟩ : ∃ z, T9.heap = z := ⟨_, rfl⟩
  rw [e9] at K9 Fq9_0 Fq9_1 Fq9_2 Fq9_3 Fq9_4 Fq9_5
  have z10 : h1.size ≤ h9.size := K9.1
  have Sf11 : Safe Z ELs s.vm h9 va_9 := Safe.keep K9 (sfS (Safe.exa hZ.alike A1 (by decide) (by decide)) sf0) CR.1 (Safe.new (by omega))
  have Cp10 : CHr Z ELs s.vm h1 s.vm h9 := CHr.keep K9 (sfS (Safe.exa hZ.alike A1 (by decide) (by decide)) sf0) CR.1
  have hk := Nat.le_trans hk z10
  have CR := CR.trans Cp10
  have lt9_0 : @LT.lt Nat _ b1 h9.size := Fq9_0.lt
  have lt9_5 : @LT.lt Nat _ va_9 h9.size := Fq9_5.lt
  have O12 : Old Z n0 h9 := (O7.keep K9 (allS (show n0 ≤ b1 by omega) all0))
  have f13 : Exa Z h9 sx cS := ((I6.ext E1).keep K9)
  have f14 : Fld Z h9 sx cS "value" "[B" (.ref bs) := ((I7.ext E1).keep K9 (ninS (show @Ne Nat sx b1 by omega) nin0))
  have f15 : Fld Z h9 sx cS "coder" "B" (.int (own_cod cs)) := ((I8.ext E1).keep K9 (ninS (show @Ne Nat sx b1 by omega) nin0))
  have f16 : Arv Z h9 bs ks .byte (Int32.ofNat (own_enl cs)) (own_enc cs) v0_ := ((I9.ext E1).keep K9 (ninS (show @Ne Nat bs b1 by omega) nin0))
  have Zc17 : n0 ≤ h9.size := by omega
  obtain ⟨cq18, kq18, q18a, q18b, q18c⟩ := isOf hZ e9 f13
  obtain ⟨_, _, ⟨T18, L18, k18, n18⟩, -, X18, ⟨Lc18, hQ18, l18, y18, z18⟩, st18⟩ := X9.virtualBack hx (y := M11_) (z := M11_) hown (mvT hZ (own_m hw 56 rfl)) (mvT hZ (own_m hw 57 rfl)) (notFace_of_selects (args := #[]) (mvT hZ (own_m hw 59 rfl))) (mvT hZ (own_m hw 59 rfl)) (mvT hZ (own_m hw 58 rfl)) (by decide) (backOf (W := 3) (rmLen l Z a0 hw [] sx cst bs ks cs h9 n0 Zc17 I1 O12 hcst f13 f14 f15 f16 (by omega)) hZ (own_m hw 60 rfl) (own_m hw 7 rfl) (by decide) (by decide)) q18a q18c (g := (mkF m 10 #[.val (.ref sx)] [(.ref sx), (.int (0 : Int32)), (.ref sx), (.ref b1)])) rfl (by rw [hml]; rfl) (Steps.refl _) (argsL := []) (rest := [(.int (0 : Int32)), (.ref sx), (.ref b1)]) (lenOf pd___I rfl) rfl (by show 2 * 0 + _ ≤ _; exact Nat.le_of_eq rfl) (dd hy dP8_4_10) (fun _ _ => ⟨rfl, e9, (by decide : 2 + 0 ≤ _), (by decide : 20 + 0 ≤ _)⟩)
  dsimp only [Pt.U, Pt.locs, Pt.cells, Pt.slots] at X18 l18 y18 z18 st18 hQ18
  subst l18 y18 z18
  obtain ⟨rfl, N18q, e18⟩ := hQ18
  have N18 := Fr.app N9 N18q
  have s20 : ∀ t_, Steps p.tables e below (T18.setTop (mkF m 13 #[.val (.ref sx)] [(.int (Int32.ofNat cs.length)), (.int (0 : Int32)), (.ref sx), (.ref b1)])) t_ → Steps _ _ _ _ t_ := fun t_ k_ => pre0 t_ (by
    refine st1 _ ?_
    refine XS.dup X1.here hx rfl (dd hy dP8_4_3) rfl rfl ?_
    refine st9.trans ?_
    show Steps _ _ _ (T9.setTop (mkF m 7 #[.val (.ref sx)] [(.ref b1)])) _
    refine XS.aloadN X9.here hx rfl (dd hy dP8_4_7) rfl rfl ?_
    refine XS.iconst X9.here hx rfl (dd hy dP8_4_8) ?_
    refine XS.aloadN X9.here hx rfl (dd hy dP8_4_9) rfl rfl ?_
    refine st18.trans ?_
    show Steps _ _ _ (T18.setTop (mkF m 13 #[.val (.ref sx)] [(.int (Int32.ofNat cs.length)), (.int (0 : Int32)), (.ref sx), (.ref b1)])) _
    exact k_)
  obtain ⟨a19, T19, h19, k19, b19, kk19, X19, e19, E19, hS, hk, hZ, hown, Ex19, Fc19, Fv19, Av19, la19, lb19, Cp19, Li19, Sa19, st19⟩ := ldcCH X18 hx hZ hown (own_m hw 66 rfl) wS e18 hS hk hEL (List.mem_of_getElem? (i := 0) rfl) CR.1 (vs := [(.int (46 : Int32)), (.int (106 : Int32)), (.int (115 : Int32)), (.int (111 : Int32)), (.int (110 : Int32))]) (z := (5 : Int32)) ⟨by decide, by decide⟩ (by decide) rfl (g := (mkF m 13 #[.val (.ref sx)] [(.int (Int32.ofNat cs.length)), (.int (0 : Int32)), (.ref sx), (.ref b1)])) rfl (dd hy dP8_4_13) (n := 20) (by decide) (by decide) (by decide) (by decide)
  have z21 : h9.size ≤ h19.size := E19.1
  have CR := CR.trans Cp19
  have la19 : @LT.lt Nat _ a19 h19.size := la19
  have lb19 : @LT.lt Nat _ b19 h19.size := lb19
  have Fc22 : Fld Z h19 a19 cS "coder" "B" (.int (own_cod own_tx0)) := Fc19
  have Av22 : Arv Z h19 b19 kk19 .byte (Int32.ofNat (own_enl own_tx0)) (own_enc own_tx0) v0_ := own_tx0_lit Av19
  have O23 : Old Z n0 h19 := (O12.ext E19)
  have Zc24 : n0 ≤ h19.size := by omega
  obtain ⟨cq25, kq25, q25a, q25b, q25c⟩ := isOf hZ e19 Ex19
  obtain ⟨_, _, ⟨T25, L25, k25, n25⟩, -, X25, ⟨Lc25, hQ25, l25, y25, z25⟩, st25⟩ := X19.virtualBack hx (y := M11_) (z := M11_) hown (mvT hZ (own_m hw 56 rfl)) (mvT hZ (own_m hw 57 rfl)) (notFace_of_selects (args := #[]) (mvT hZ (own_m hw 59 rfl))) (mvT hZ (own_m hw 59 rfl)) (mvT hZ (own_m hw 58 rfl)) (by decide) (backOf (W := 4) (rmLen l Z a0 hw [] a19 cst b19 kk19 own_tx0 h19 n0 Zc24 I1 O23 hcst Ex19 Fv19 Fc22 Av22 (by decide)) hZ (own_m hw 60 rfl) (own_m hw 7 rfl) (by decide) (by decide)) q25a q25c (g := (mkF m 15 #[.val (.ref sx)] [(.ref a19), (.int (Int32.ofNat cs.length)), (.int (0 : Int32)), (.ref sx), (.ref b1)])) rfl (by rw [hml]; rfl) (Steps.refl _) (argsL := []) (rest := [(.int (Int32.ofNat cs.length)), (.int (0 : Int32)), (.ref sx), (.ref b1)]) (lenOf pd___I rfl) rfl (by show 2 * 0 + _ ≤ _; exact Nat.le_of_eq rfl) (dd hy dP8_4_15) (fun _ _ => ⟨rfl, e19, (by decide : 4 + 0 ≤ _), (by decide : 44 + 0 ≤ _)⟩)
  dsimp only [Pt.U, Pt.locs, Pt.cells, Pt.slots] at X25 l25 y25 z25 st25 hQ25
  subst l25 y25 z25
  obtain ⟨rfl, N25q, e25⟩ := hQ25
  have N25 := Fr.app N18 N25q
  have f26 : Exa Z h19 sx cS := (f13.ext E19)
  have f27 : Fld Z h19 sx cS "value" "[B" (.ref bs) := (f14.ext E19)
  have f28 : Fld Z h19 sx cS "coder" "B" (.int (own_cod cs)) := (f15.ext E19)
  have f29 : Arv Z h19 bs ks .byte (Int32.ofNat (own_enl cs)) (own_enc cs) v0_ := (f16.ext E19)
  have Zc30 : n0 ≤ h19.size := by omega
  obtain ⟨cq31, kq31, q31a, q31b, q31c⟩ := isOf hZ e25 f26
  obtain ⟨_, _, ⟨T31, L31, k31, n31⟩, -, X31, ⟨Lc31, hQ31, l31, y31, z31⟩, st31⟩ := X25.virtualBack hx (y := M27_) (z := M27_) hown (mvT hZ (own_m hw 69 rfl)) (mvT hZ (own_m hw 70 rfl)) (notFace_of_selects (args := #[]) (mvT hZ (own_m hw 72 rfl))) (mvT hZ (own_m hw 72 rfl)) (mvT hZ (own_m hw 71 rfl)) (by decide) (backOf (W := 1) (rmSubW l Z a0 hw [] sx cst bs ks cs (cs.length - 5) fmt h19 n0 Zc30 I1 I2 I3 I4 hfmt I5 O23 hcst f26 f27 f28 f29 hnl hb8 (by omega) hchs hnk (Nat.pos_of_ne_zero fun e => hnk (by rw [e]; exact own_lat0))) hZ (own_m hw 73 rfl) (own_m hw 7 rfl) (by decide) (by decide)) q31a q31c (g := (mkF m 19 #[.val (.ref sx)] [(.int (Int32.ofNat (cs.length - 5))), (.int (0 : Int32)), (.ref sx), (.ref b1)])) rfl (by rw [hml]; rfl) (Steps.refl _) (argsL := [(.int (0 : Int32)), (.int (Int32.ofNat (cs.length - 5)))]) (rest := [(.ref b1)]) (lenOf pd__II_Ljava_lang_String_ rfl) rfl (by show 2 * 0 + _ ≤ _; exact Nat.le_of_eq rfl) (dd hy dP8_4_19) (fun _ _ => ⟨rfl, e25, (by decide : 4 + 3 ≤ _), (by decide : 44 + 44 ≤ _)⟩)
  dsimp only [Pt.U, Pt.locs, Pt.cells, Pt.slots] at X31 l31 y31 z31 st31 hQ31
  subst l31 y31 z31
  obtain ⟨sa_31, sb_31, ks_31, rfl, N31q, K31, Fq31_0, Fq31_1, Fq31_2, Fq31_3, P31_0, P31_1⟩ := hQ31
  have N31 := Fr.app N25 N31q
  obtain ⟨h31, e31⟩ : ∃ z, T31.heap = z := ⟨_, rfl⟩
  rw [e31] at K31 Fq31_0 Fq31_1 Fq31_2 Fq31_3
  have z32 : h19.size ≤ h31.size := K31.1
  have Cp32 : CHr Z ELs T19.vm h19 T19.vm h31 := CHr.keep K31 sf0 CR.1
  have hk := Nat.le_trans hk z32
  have CR := CR.trans Cp32
  have lt31_0 : @LT.lt Nat _ sa_31 h31.size := Fq31_0.lt
  have lt31_3 : @LT.lt Nat _ sb_31 h31.size := Fq31_3.lt
  have O33 : Old Z n0 h31 := (O23.keep K31 all0)
  have f34 : Exa Z h31 b1 cB := ((Fq9_0.ext E19).keep K31)
  have f35 : Fld Z h31 b1 cA "value" "[B" (.ref va_9) := ((Fq9_1.ext E19).keep K31 nin0)
  have f36 : Fld Z h31 b1 cA "coder" "B" (.int (0 : Int32)) := ((Fq9_2.ext E19).keep K31 nin0)
  have f37 : Fld Z h31 b1 cA "count" "I" (.int (0 : Int32)) := ((Fq9_3.ext E19).keep K31 nin0)
  have f38 : Fld Z h31 b1 cA "maybeLatin1" "Z" (.int (0 : Int32)) := ((Fq9_4.ext E19).keep K31 nin0)
  have f39 : Arv Z h31 va_9 kc_9 .byte (16 : Int32) ((List.replicate 16 (0 : Int32)).map Value.int) v0_ := ((Fq9_5.ext E19).keep K31 nin0)
  have Zc40 : n0 ≤ h31.size := by omega
  obtain ⟨cq41, kq41, q41a, q41b, q41c⟩ := isOf hZ e31 f34
  obtain ⟨_, _, ⟨T41, L41, k41, n41⟩, -, X41, ⟨Lc41, hQ41, l41, y41, z41⟩, st41⟩ := X31.virtualBack hx (y := M45_) (z := M45_) hown (mvT hZ (own_m hw 93 rfl)) (mvT hZ (own_m hw 94 rfl)) (notFace_of_selects (args := #[]) (mvT hZ (own_m hw 96 rfl))) (mvT hZ (own_m hw 96 rfl)) (mvT hZ (own_m hw 95 rfl)) (by decide) (backOf (W := 0) (rmSAppW l Z a0 hw [] b1 sa_31 cst sb_31 ks_31 (cs.take (cs.length - 5)) va_9 kc_9 (List.replicate 16 (0 : Int32)) fmt h31 n0 Zc40 I1 I2 I3 I4 hfmt I5 O33 hcst f34 f35 f36 f37 f38 f39 (by first | assumption | omega | rfl | decide) Fq31_0 Fq31_1 Fq31_2 Fq31_3 (by first | assumption | omega | rfl | decide) (by first | assumption | omega | rfl | decide) hnk (by rw [List.length_take]; omega)) hZ (own_m hw 97 rfl) (own_m hw 40 rfl) (by decide) (by decide)) q41a q41c (g := (mkF m 22 #[.val (.ref sx)] [(.ref sa_31), (.ref b1)])) rfl (by rw [hml]; rfl) (Steps.refl _) (argsL := [(.ref sa_31)]) (rest := []) (lenOf pd__Ljava_lang_String__Ljava_lang_StringBuilder_ rfl) rfl (by show 2 * 0 + _ ≤ _; exact Nat.le_of_eq rfl) (dd hy dP8_4_22) (fun _ _ => ⟨rfl, e31, (by decide : 7 + 1 ≤ _), (by decide : 88 + 32 ≤ _)⟩)
  dsimp only [Pt.U, Pt.locs, Pt.cells, Pt.slots] at X41 l41 y41 z41 st41 hQ41
  subst l41 y41 z41
  obtain ⟨vb_41, kd_41, rfl, N41q, K41, Fq41_0, Fq41_1, Fq41_2, Fq41_3, Fq41_4, Fq41_5, P41_0⟩ := hQ41
  have N41 := Fr.app N31 N41q
  obtain ⟨h41, e41⟩ : ∃ z, T41.heap = z := ⟨_, rfl⟩
  rw [e41] at K41 Fq41_0 Fq41_1 Fq41_2 Fq41_3 Fq41_4 Fq41_5
  have z42 : h31.size ≤ h41.size := K41.1
  have Sf43 : Safe Z ELs T19.vm h41 vb_41 := Safe.keep K41 (sfS (Safe.exa hZ.alike f34 (by decide) (by decide)) sf0) CR.1 (Safe.new (by omega))
  have Cp42 : CHr Z ELs T19.vm h31 T19.vm h41 := CHr.keep K41 (sfS (Safe.exa hZ.alike f34 (by decide) (by decide)) sf0) CR.1
  have hk := Nat.le_trans hk z42
  have CR := CR.trans Cp42
  have lt41_0 : @LT.lt Nat _ b1 h41.size := Fq41_0.lt
  have lt41_5 : @LT.lt Nat _ vb_41 h41.size := Fq41_5.lt
  have s45 : ∀ t_, Steps p.tables e below (T41.setTop (mkF m 25 #[.val (.ref sx)] [(.ref b1)])) t_ → Steps _ _ _ _ t_ := fun t_ k_ => s20 t_ (by
    refine st19 _ ?_
    show Steps _ _ _ (T19.setTop (mkF m 15 #[.val (.ref sx)] [(.ref a19), (.int (Int32.ofNat cs.length)), (.int (0 : Int32)), (.ref sx), (.ref b1)])) _
    refine st25.trans ?_
    show Steps _ _ _ (T25.setTop (mkF m 18 #[.val (.ref sx)] [(.int (Int32.ofNat own_tx0.length)), (.int (Int32.ofNat cs.length)), (.int (0 : Int32)), (.ref sx), (.ref b1)])) _
    refine XS.isub X25.here hx rfl (dd hy dP8_4_18) rfl ?_
    show Steps _ _ _ (T25.setTop (mkF m 19 #[.val (.ref sx)] [(.int ((Int32.ofNat cs.length) - (Int32.ofNat own_tx0.length))), (.int (0 : Int32)), (.ref sx), (.ref b1)])) _
    refine castTop (g' := (mkF m 19 #[.val (.ref sx)] [(.int (Int32.ofNat (cs.length - 5))), (.int (0 : Int32)), (.ref sx), (.ref b1)])) (by rw [show (Int32.ofNat cs.length) - (Int32.ofNat own_tx0.length) = Int32.ofNat (cs.length - 5) from own_subn (k := 5) (by omega)]) ?_
    show Steps _ _ _ (T25.setTop (mkF m 19 #[.val (.ref sx)] [(.int (Int32.ofNat (cs.length - 5))), (.int (0 : Int32)), (.ref sx), (.ref b1)])) _
    refine st31.trans ?_
    show Steps _ _ _ (T31.setTop (mkF m 22 #[.val (.ref sx)] [(.ref sa_31), (.ref b1)])) _
    refine st41.trans ?_
    show Steps _ _ _ (T41.setTop (mkF m 25 #[.val (.ref sx)] [(.ref b1)])) _
    exact k_)
  obtain ⟨a44, T44, h44, k44, b44, kk44, X44, e44, E44, hS, hk, hZ, hown, Ex44, Fc44, Fv44, Av44, la44, lb44, Cp44, Li44, Sa44, st44⟩ := ldcCH X41 hx hZ hown (own_m hw 131 rfl) wS e41 hS hk hEL (List.mem_of_getElem? (i := 1) rfl) CR.1 (vs := [(.int (46 : Int32)), (.int (115 : Int32)), (.int (101 : Int32)), (.int (116 : Int32)), (.int (115 : Int32))]) (z := (5 : Int32)) ⟨by decide, by decide⟩ (by decide) rfl (g := (mkF m 25 #[.val (.ref sx)] [(.ref b1)])) rfl (dd hy dP8_4_25) (n := 20) (by decide) (by decide) (by decide) (by decide)
  have z46 : h41.size ≤ h44.size := E44.1
  have CR := CR.trans Cp44
  have la44 : @LT.lt Nat _ a44 h44.size := la44
  have lb44 : @LT.lt Nat _ b44 h44.size := lb44
  have Fc47 : Fld Z h44 a44 cS "coder" "B" (.int (own_cod own_tx1)) := Fc44
  have Av47 : Arv Z h44 b44 kk44 .byte (Int32.ofNat (own_enl own_tx1)) (own_enc own_tx1) v0_ := own_tx1_lit Av44
  have Sf48 : Safe Z ELs T44.vm h44 vb_41 := (Cp44.safe (show @LT.lt Nat _ vb_41 h41.size by omega) Sf43)
  have O49 : Old Z n0 h44 := ((O33.keep K41 (allS (show n0 ≤ b1 by omega) all0)).ext E44)
  have f50 : Exa Z h44 b1 cB := (Fq41_0.ext E44)
  have f51 : Fld Z h44 b1 cA "value" "[B" (.ref vb_41) := (Fq41_1.ext E44)
  have f52 : Fld Z h44 b1 cA "coder" "B" (.int (1 : Int32)) := (Fq41_2.ext E44)
  have f53 : Fld Z h44 b1 cA "count" "I" (.int (Int32.ofNat (cs.take (cs.length - 5)).length)) := (Fq41_3.ext E44)
  have f54 : Fld Z h44 b1 cA "maybeLatin1" "Z" (.int (0 : Int32)) := (Fq41_4.ext E44)
  have f55 : Arv Z h44 vb_41 kd_41 .byte (Int32.ofNat (2 * 16)) ((own_wb (cs.take (cs.length - 5)) ++ (List.replicate 32 (0 : Int32)).drop (2 * (cs.take (cs.length - 5)).length)).map Value.int) v0_ := (Fq41_5.ext E44)
  have Zc56 : n0 ≤ h44.size := by omega
  obtain ⟨cq57, kq57, q57a, q57b, q57c⟩ := isOf hZ e44 f50
  obtain ⟨_, _, ⟨T57, L57, k57, n57⟩, -, X57, ⟨Lc57, hQ57, l57, y57, z57⟩, st57⟩ := X44.virtualBack hx (y := M45_) (z := M45_) hown (mvT hZ (own_m hw 93 rfl)) (mvT hZ (own_m hw 94 rfl)) (notFace_of_selects (args := #[]) (mvT hZ (own_m hw 96 rfl))) (mvT hZ (own_m hw 96 rfl)) (mvT hZ (own_m hw 95 rfl)) (by decide) (backOf (W := 0) (rmSAppI l Z a0 hw [] b1 a44 cst b44 kk44 own_tx1 vb_41 kd_41 (own_wb (cs.take (cs.length - 5)) ++ (List.replicate 32 (0 : Int32)).drop (2 * (cs.take (cs.length - 5)).length)) (cs.take (cs.length - 5)).length fmt h44 n0 Zc56 I1 I2 I3 I4 hfmt I5 O49 hcst f50 f51 f52 f53 f54 f55 Ex44 Fv44 Fc47 Av47 (by rw [List.length_append, own_wbl, List.length_drop, List.length_replicate, List.length_take]; omega) (by first | assumption | omega | rfl | decide) (by first | assumption | omega | rfl | decide) (by first | assumption | omega | rfl | decide) (fun e => (Sa44 _ Sf48).2 e.symm) own_tx1_lat (by rw [List.length_take]; show _ + 5 ≤ 16; omega) own_tx1_chs) hZ (own_m hw 97 rfl) (own_m hw 40 rfl) (by decide) (by decide)) q57a q57c (g := (mkF m 27 #[.val (.ref sx)] [(.ref a44), (.ref b1)])) rfl (by rw [hml]; rfl) (Steps.refl _) (argsL := [(.ref a44)]) (rest := []) (lenOf pd__Ljava_lang_String__Ljava_lang_StringBuilder_ rfl) rfl (by show 2 * 0 + _ ≤ _; exact Nat.le_of_eq rfl) (dd hy dP8_4_27) (fun _ _ => ⟨rfl, e44, (by decide : 10 + 0 ≤ _), (by decide : 144 + 0 ≤ _)⟩)
  dsimp only [Pt.U, Pt.locs, Pt.cells, Pt.slots] at X57 l57 y57 z57 st57 hQ57
  subst l57 y57 z57
  obtain ⟨rfl, N57q, K57, Fq57_0, Fq57_1, Fq57_2, Fq57_3, Fq57_4, Fq57_5⟩ := hQ57
  have N57 := Fr.app N41 N57q
  obtain ⟨h57, e57⟩ : ∃ z, T57.heap = z := ⟨_, rfl⟩
  rw [e57] at K57 Fq57_0 Fq57_1 Fq57_2 Fq57_3 Fq57_4 Fq57_5
  have z58 : h44.size ≤ h57.size := K57.1
  have Cp58 : CHr Z ELs T44.vm h44 T44.vm h57 := CHr.keep K57 (sfS (Safe.exa hZ.alike f50 (by decide) (by decide)) (sfS Sf48 sf0)) CR.1
  have hk := Nat.le_trans hk z58
  have CR := CR.trans Cp58
  have lt57_0 : @LT.lt Nat _ b1 h57.size := Fq57_0.lt
  have lt57_5 : @LT.lt Nat _ vb_41 h57.size := Fq57_5.lt
  have O59 : Old Z n0 h57 := (O49.keep K57 (allS (show n0 ≤ b1 by omega) (allS (show n0 ≤ vb_41 by omega) all0)))
  have Zc60 : n0 ≤ h57.size := by omega
  obtain ⟨cq61, kq61, q61a, q61b, q61c⟩ := isOf hZ e57 Fq57_0
  obtain ⟨_, _, ⟨T61, L61, k61, n61⟩, -, X61, ⟨Lc61, hQ61, l61, y61, z61⟩, st61⟩ := X57.virtualBack hx (y := M48_) (z := M48_) hown (mvT hZ (own_m hw 132 rfl)) (mvT hZ (own_m hw 133 rfl)) (notFace_of_selects (args := #[]) (mvT hZ (own_m hw 135 rfl))) (mvT hZ (own_m hw 135 rfl)) (mvT hZ (own_m hw 134 rfl)) (by decide) (backOf (W := 0) (rmTSw l Z a0 hw [] b1 cst vb_41 kd_41 (own_pl (own_wb (cs.take (cs.length - 5)) ++ (List.replicate 32 (0 : Int32)).drop (2 * (cs.take (cs.length - 5)).length)) own_tx1 (cs.take (cs.length - 5)).length) ((cs.take (cs.length - 5)).length + own_tx1.length) (cs.take (cs.length - 5) ++ own_tx1) h57 n0 Zc60 I1 O59 hcst Fq57_0 Fq57_1 Fq57_2 Fq57_3 Fq57_4 Fq57_5 (own_pll (by rw [List.length_append, own_wbl, List.length_drop, List.length_replicate, List.length_take]; omega) (by rw [List.length_take]; show _ + 5 ≤ 16; omega)) (by rw [List.length_take]; show _ + 5 < 16; omega) (own_wtag (cs.take (cs.length - 5))) (fun g => hnk (fun c hc => g c (List.mem_append_left _ hc))) List.length_append) hZ (own_m hw 136 rfl) (own_m hw 40 rfl) (by decide) (by decide)) q61a q61c (g := (mkF m 30 #[.val (.ref sx)] [(.ref b1)])) rfl (by rw [hml]; rfl) (Steps.refl _) (argsL := []) (rest := []) (lenOf pd___Ljava_lang_String_ rfl) rfl (by show 2 * 0 + _ ≤ _; exact Nat.le_of_eq rfl) (dd hy dP8_4_30) (fun _ _ => ⟨rfl, e57, (by decide : 10 + 2 ≤ _), (by decide : 144 + 36 ≤ _)⟩)
  dsimp only [Pt.U, Pt.locs, Pt.cells, Pt.slots] at X61 l61 y61 z61 st61 hQ61
  subst l61 y61 z61
  obtain ⟨a_61, b_61, kb_61, rfl, N61q, K61, Fq61_0, Fq61_1, Fq61_2, Fq61_3, P61_0, P61_1⟩ := hQ61
  have N61 := Fr.app N57 N61q
  obtain ⟨h61, e61⟩ : ∃ z, T61.heap = z := ⟨_, rfl⟩
  rw [e61] at K61 Fq61_0 Fq61_1 Fq61_2 Fq61_3
  have z62 : h57.size ≤ h61.size := K61.1
  have Cp62 : CHr Z ELs T44.vm h57 T44.vm h61 := CHr.keep K61 sf0 CR.1
  have hk := Nat.le_trans hk z62
  have CR := CR.trans Cp62
  have lt61_0 : @LT.lt Nat _ a_61 h61.size := Fq61_0.lt
  have lt61_3 : @LT.lt Nat _ b_61 h61.size := Fq61_3.lt
  have s63 : ∀ t_, Steps p.tables e below (T61.setTop (mkF m 33 #[.val (.ref sx)] [(.ref a_61)])) t_ → Steps _ _ _ _ t_ := fun t_ k_ => s45 t_ (by
    refine st44 _ ?_
    show Steps _ _ _ (T44.setTop (mkF m 27 #[.val (.ref sx)] [(.ref a44), (.ref b1)])) _
    refine st57.trans ?_
    show Steps _ _ _ (T57.setTop (mkF m 30 #[.val (.ref sx)] [(.ref b1)])) _
    refine st61.trans ?_
    show Steps _ _ _ (T61.setTop (mkF m 33 #[.val (.ref sx)] [(.ref a_61)])) _
    exact k_)
  obtain ⟨fs, hr, hrun, hended, hREW⟩ := X61.leaveW hS (by first | exact Nat.le_refl _ | (rw [e61]; exact hk)) (v := some (.ref a_61)) (fun h => by rw [Bd.returns] at h; cases h)
  refine ⟨_, _, s63 _ ?_, hrun, hended, _, _, rfl, ?_, (by show CHr Z ELs s.vm s.heap T61.vm T61.heap; rw [hh, e61]; exact CR.trans (CHv.at X61 hZ hEL CR.1)), hREW.1, hREW.2.1, hREW.2.2.1, hREW.2.2.2.mono (by decide) (by decide)⟩
  · jvm_step X61.here [X61.here.top, hx, (dd hy dP8_4_33), X61.method', Bd.returns, Value.isRef, FieldType.isReference]
    first | (intro acts; rw [hr _ acts rfl rfl rfl]) | rw [hr _ _ rfl rfl rfl]
    exact Steps.refl _
  · show Q_rmSPW Z _ _ _ _ _ _ h0 n0 _ T61.heap _
    rw [e61]
    exact ⟨a_61, b_61, kb_61, rfl, N61, (((((((((Keep.refl h0 []).ext E1).trans K9 (allS (Or.inr (show h0.size ≤ b1 by omega)) all0)).ext E19).trans K31 all0).trans K41 (allS (Or.inr (show h0.size ≤ b1 by omega)) all0)).ext E44).trans K57 (allS (Or.inr (show h0.size ≤ b1 by omega)) (allS (Or.inr (show h0.size ≤ vb_41 by omega)) all0))).trans K61 all0), Fq61_0, Fq61_1, Fq61_2, Fq61_3, by omega⟩
theorem pn_io_dyeline_store_LayoutSetsPartPinLaw : plainName "io/dyeline/store/LayoutSetsPartPinLaw" = true := by first | (simp [plainName, overriddenIn]; done) | decide +kernel
theorem d3_0 : decode C3 0 = .ok (.iload_n 0, 1) := by decide +kernel
theorem d3_1 : decode C3 1 = .ok (.iconst 5, 1) := by decide +kernel
theorem d3_2 : decode C3 2 = .ok (.iadd, 1) := by decide +kernel
theorem d3_3 : decode C3 3 = .ok (.newarray .char, 2) := by decide +kernel
theorem d3_5 : decode C3 5 = .ok (.astore 9, 2) := by decide +kernel
theorem d3_7 : decode C3 7 = .ok (.iload_n 0, 1) := by decide +kernel
theorem d3_8 : decode C3 8 = .ok (.ifCond .le 8, 3) := by decide +kernel
theorem d3_16 : decode C3 16 = .ok (.iload_n 0, 1) := by decide +kernel
theorem d3_17 : decode C3 17 = .ok (.iconst 1, 1) := by decide +kernel
theorem d3_18 : decode C3 18 = .ok (.if_icmp .le 8, 3) := by decide +kernel
theorem d3_26 : decode C3 26 = .ok (.iload_n 0, 1) := by decide +kernel
theorem d3_27 : decode C3 27 = .ok (.iconst 2, 1) := by decide +kernel
theorem d3_28 : decode C3 28 = .ok (.if_icmp .le 8, 3) := by decide +kernel
theorem d3_36 : decode C3 36 = .ok (.aload 9, 2) := by decide +kernel
theorem d3_38 : decode C3 38 = .ok (.iload_n 0, 1) := by decide +kernel
theorem d3_39 : decode C3 39 = .ok (.iload 4, 2) := by decide +kernel
theorem d3_41 : decode C3 41 = .ok (.castore, 1) := by decide +kernel
theorem d3_42 : decode C3 42 = .ok (.aload 9, 2) := by decide +kernel
theorem d3_44 : decode C3 44 = .ok (.iload_n 0, 1) := by decide +kernel
theorem d3_45 : decode C3 45 = .ok (.iconst 1, 1) := by decide +kernel
theorem d3_46 : decode C3 46 = .ok (.iadd, 1) := by decide +kernel
theorem d3_47 : decode C3 47 = .ok (.iload 5, 2) := by decide +kernel
theorem d3_49 : decode C3 49 = .ok (.castore, 1) := by decide +kernel
theorem d3_50 : decode C3 50 = .ok (.aload 9, 2) := by decide +kernel
theorem d3_52 : decode C3 52 = .ok (.iload_n 0, 1) := by decide +kernel
theorem d3_53 : decode C3 53 = .ok (.iconst 2, 1) := by decide +kernel
theorem d3_54 : decode C3 54 = .ok (.iadd, 1) := by decide +kernel
theorem d3_55 : decode C3 55 = .ok (.iload 6, 2) := by decide +kernel
theorem d3_57 : decode C3 57 = .ok (.castore, 1) := by decide +kernel
theorem d3_58 : decode C3 58 = .ok (.aload 9, 2) := by decide +kernel
theorem d3_60 : decode C3 60 = .ok (.iload_n 0, 1) := by decide +kernel
theorem d3_61 : decode C3 61 = .ok (.iconst 3, 1) := by decide +kernel
theorem d3_62 : decode C3 62 = .ok (.iadd, 1) := by decide +kernel
theorem d3_63 : decode C3 63 = .ok (.iload 7, 2) := by decide +kernel
theorem d3_65 : decode C3 65 = .ok (.castore, 1) := by decide +kernel
theorem d3_66 : decode C3 66 = .ok (.aload 9, 2) := by decide +kernel
theorem d3_68 : decode C3 68 = .ok (.iload_n 0, 1) := by decide +kernel
theorem d3_69 : decode C3 69 = .ok (.iconst 4, 1) := by decide +kernel
theorem d3_70 : decode C3 70 = .ok (.iadd, 1) := by decide +kernel
theorem d3_71 : decode C3 71 = .ok (.iload 8, 2) := by decide +kernel
theorem d3_73 : decode C3 73 = .ok (.castore, 1) := by decide +kernel
theorem d3_74 : decode C3 74 = .ok (.aload 9, 2) := by decide +kernel
theorem d3_76 : decode C3 76 = .ok (.areturn, 1) := by decide +kernel
theorem d3_11 : decode C3 11 = .ok (.aload 9, 2) := by decide +kernel
theorem d3_13 : decode C3 13 = .ok (.iconst 0, 1) := by decide +kernel
theorem d3_14 : decode C3 14 = .ok (.iload_n 1, 1) := by decide +kernel
theorem d3_15 : decode C3 15 = .ok (.castore, 1) := by decide +kernel
theorem d3_21 : decode C3 21 = .ok (.aload 9, 2) := by decide +kernel
theorem d3_23 : decode C3 23 = .ok (.iconst 1, 1) := by decide +kernel
theorem d3_24 : decode C3 24 = .ok (.iload_n 2, 1) := by decide +kernel
theorem d3_25 : decode C3 25 = .ok (.castore, 1) := by decide +kernel
theorem d3_31 : decode C3 31 = .ok (.aload 9, 2) := by decide +kernel
theorem d3_33 : decode C3 33 = .ok (.iconst 2, 1) := by decide +kernel
theorem d3_34 : decode C3 34 = .ok (.iload_n 3, 1) := by decide +kernel
theorem d3_35 : decode C3 35 = .ok (.castore, 1) := by decide +kernel
theorem ef_rmMk (m : MethodId) (x0 : Int32) (x1 : Int32) (x2 : Int32) (x3 : Int32) (x4 : Int32) (x5 : Int32) (x6 : Int32) (x7 : Int32) (x8 : Int32) : entryFrame m #[(.int x0), (.int x1), (.int x2), (.int x3), (.int x4), (.int x5), (.int x6), (.int x7), (.int x8)] 10 = mkF m 0 #[.val (.int x0), .val (.int x1), .val (.int x2), .val (.int x3), .val (.int x4), .val (.int x5), .val (.int x6), .val (.int x7), .val (.int x8), .unset] [] := by first | (simp [entryFrame, mkF, argsToLocals, Value.category]; done) | rfl
abbrev R_rmMk : Room := ({ frames := 0, cells := 1, slots := 8, locals := 0 } : Room)
def Q_rmMk (Z : State) (cx : Int32) (cy : Int32) (cz : Int32) (sa : Int32) (sb : Int32) (sc : Int32) (sd : Int32) (se : Int32) (n : Nat) (h0 : Heap) (n0 : Nat) (v : Option Value) (h : Heap) (L : List Loc) : Prop := ∃ (b : Addr), ∃ (kb : ClassId), (v = some (.ref b)) ∧ (Fr n0 L) ∧ (Keep h0 h []) ∧ (Arv Z h b kb .char (Int32.ofNat (n + 5)) ((own_mk n cx cy cz ++ [sa, sb, sc, sd, se]).map Value.int) v0_) ∧ (h0.size ≤ b)
set_option maxRecDepth 65536 in
set_option maxHeartbeats 40000000 in
theorem rmMk (l : Launch) (Z : State) (a0 : Array Value) (hw : HW Z a0) (ws : List Jvm.Cond) (cx : Int32) (cy : Int32) (cz : Int32) (sa : Int32) (sb : Int32) (sc : Int32) (sd : Int32) (se : Int32) (n : Nat) (h0 : Heap) (n0 : Nat) (Z0 : n0 ≤ h0.size) (hn4 : n < 4) (r0a : ¬ (cx < (0 : Int32))) (r0b : ¬ ((65535 : Int32) < cx)) (r1a : ¬ (cy < (0 : Int32))) (r1b : ¬ ((65535 : Int32) < cy)) (r2a : ¬ (cz < (0 : Int32))) (r2b : ¬ ((65535 : Int32) < cz)) (r3a : ¬ (sa < (0 : Int32))) (r3b : ¬ ((65535 : Int32) < sa)) (r4a : ¬ (sb < (0 : Int32))) (r4b : ¬ ((65535 : Int32) < sb)) (r5a : ¬ (sc < (0 : Int32))) (r5b : ¬ ((65535 : Int32) < sc)) (r6a : ¬ (sd < (0 : Int32))) (r6b : ¬ ((65535 : Int32) < sd)) (r7a : ¬ (se < (0 : Int32))) (r7b : ¬ ((65535 : Int32) < se)) :
    MF l Z M50_ (Jvm.Cond.code M50_ method_3_code 10 (some (.array .char)) :: ws) R_rmMk #[(.int (Int32.ofNat n)), (.int cx), (.int cy), (.int cz), (.int sa), (.int sb), (.int sc), (.int sd), (.int se)] h0 (Q_rmMk Z cx cy cz sa sb sc sd se n h0 n0) := by
  refine MetFree.of_bodySF (plainFor_of_name pn_io_dyeline_store_LayoutSetsPartPinLaw) hisR ?_
  intro p e s m args below meth c s₁ Bd hml0 hP hK
  obtain ⟨rfl, hZ, hh⟩ := hP
  have hx := Bd.exec
  have hy := Bd.bytes
  have hml : c.maxLocals = 10 := hml0
  have hown : s.vm.findClass "io/dyeline/store/LayoutSetsPartPinLaw" = some m.cls := findClass_of_methodNamed Bd.named
  have hnm := (name_of_methodNamed Bd.named Bd.method).1
  have X0 : Stand p l e R_rmMk s m #[(.int (Int32.ofNat n)), (.int cx), (.int cy), (.int cz), (.int sa), (.int sb), (.int sc), (.int sd), (.int se)] below meth c s₁ [] 0 0 := Stand.of_body Bd
  have e0 : s₁.heap = h0 := by rw [← hh, Bd.state]; rfl
  have N0 := Fr.nil n0
  have pre0 := own_pre (p := p) (e := e) (below := below) (T := s₁) (ef_rmMk m (Int32.ofNat n) cx cy cz sa sb sc sd se)
  obtain rfl | rfl | rfl | rfl : n = 0 ∨ n = 1 ∨ n = 2 ∨ n = 3 := by omega
  · have hcase := trivial
    obtain ⟨T1, h1, k1, X1, e1, E1, A1, st1⟩ := newP X0 hx hZ (own_m hw 4 rfl) e0 (g := (mkF m 3 #[.val (.int (0 : Int32)), .val (.int cx), .val (.int cy), .val (.int cz), .val (.int sa), .val (.int sb), .val (.int sc), .val (.int sd), .val (.int se), .unset] [(.int (5 : Int32))])) rfl (dd hy d3_3) rfl (by decide) (cap := 5) (by decide) (by decide) (by decide) (by decide)
    obtain ⟨b1, g1⟩ : ∃ z, z = h0.size := ⟨_, rfl⟩
    rw [← g1] at A1 st1
    have z2 : h0.size ≤ h1.size := E1.1
    have l1 : b1 < h1.size := A1.lt
    have V1 : Arv Z h1 b1 k1 .char (5 : Int32) [(.int (0 : Int32)), (.int (0 : Int32)), (.int (0 : Int32)), (.int (0 : Int32)), (.int (0 : Int32))] v0_ := (Arv.new A1 (by decide)).pad (pad_rep [] (.int (0 : Int32)) 5)
    obtain ⟨cl3, Ar3, q3, S3, M3, H3, G3⟩ := id V1
    have hin3 : ¬ ((0 : Int32) < 0 ∨ cl3.slots.size ≤ ((0 : Int32)).toNatClampNeg) := inb_of S3 ⟨by decide, by decide⟩
    obtain ⟨T4, h4, X4, e4, W4, st4⟩ := stC X1 hx hZ e1 Ar3 (j := (0 : Int32)) hin3 (g := (mkF m 41 #[.val (.int (0 : Int32)), .val (.int cx), .val (.int cy), .val (.int cz), .val (.int sa), .val (.int sb), .val (.int sc), .val (.int sd), .val (.int se), .val (.ref b1)] [(.int sa), (.int (0 : Int32)), (.ref b1)])) rfl rfl (dd hy d3_41)
    have z5 : h1.size ≤ h4.size := Nat.le_of_eq W4.size.symm
    have V4 : Arv Z h4 b1 k1 .char (5 : Int32) [(.int sa), (.int (0 : Int32)), (.int (0 : Int32)), (.int (0 : Int32)), (.int (0 : Int32))] v0_ := by have q : Arv Z h4 b1 k1 .char (5 : Int32) [(.int (nar .char sa)), (.int (0 : Int32)), (.int (0 : Int32)), (.int (0 : Int32)), (.int (0 : Int32))] v0_ := Arv.set Ar3 q3 S3 M3 H3 G3 (fits_nar_char _) W4 0 rfl (Nat.le_of_ble_eq_true rfl); rw [show nar .char sa = sa from own_narc r3a r3b] at q; exact q
    have N4 := Fr.snoc X4 N0 (show n0 ≤ b1 by omega)
    obtain ⟨cl6, Ar6, q6, S6, M6, H6, G6⟩ := id V4
    have hin6 : ¬ ((1 : Int32) < 0 ∨ cl6.slots.size ≤ ((1 : Int32)).toNatClampNeg) := inb_of S6 ⟨by decide, by decide⟩
    obtain ⟨T7, h7, X7, e7, W7, st7⟩ := stC X4 hx hZ e4 Ar6 (j := (1 : Int32)) hin6 (g := (mkF m 49 #[.val (.int (0 : Int32)), .val (.int cx), .val (.int cy), .val (.int cz), .val (.int sa), .val (.int sb), .val (.int sc), .val (.int sd), .val (.int se), .val (.ref b1)] [(.int sb), (.int (1 : Int32)), (.ref b1)])) rfl rfl (dd hy d3_49)
    have z8 : h4.size ≤ h7.size := Nat.le_of_eq W7.size.symm
    have V7 : Arv Z h7 b1 k1 .char (5 : Int32) [(.int sa), (.int sb), (.int (0 : Int32)), (.int (0 : Int32)), (.int (0 : Int32))] v0_ := by have q : Arv Z h7 b1 k1 .char (5 : Int32) [(.int sa), (.int (nar .char sb)), (.int (0 : Int32)), (.int (0 : Int32)), (.int (0 : Int32))] v0_ := Arv.set Ar6 q6 S6 M6 H6 G6 (fits_nar_char _) W7 1 rfl (Nat.le_of_ble_eq_true rfl); rw [show nar .char sb = sb from own_narc r4a r4b] at q; exact q
    have N7 := Fr.snoc X7 N4 (show n0 ≤ b1 by omega)
    obtain ⟨cl9, Ar9, q9, S9, M9, H9, G9⟩ := id V7
    have hin9 : ¬ ((2 : Int32) < 0 ∨ cl9.slots.size ≤ ((2 : Int32)).toNatClampNeg) := inb_of S9 ⟨by decide, by decide⟩
    obtain ⟨T10, h10, X10, e10, W10, st10⟩ := stC X7 hx hZ e7 Ar9 (j := (2 : Int32)) hin9 (g := (mkF m 57 #[.val (.int (0 : Int32)), .val (.int cx), .val (.int cy), .val (.int cz), .val (.int sa), .val (.int sb), .val (.int sc), .val (.int sd), .val (.int se), .val (.ref b1)] [(.int sc), (.int (2 : Int32)), (.ref b1)])) rfl rfl (dd hy d3_57)
    have z11 : h7.size ≤ h10.size := Nat.le_of_eq W10.size.symm
    have V10 : Arv Z h10 b1 k1 .char (5 : Int32) [(.int sa), (.int sb), (.int sc), (.int (0 : Int32)), (.int (0 : Int32))] v0_ := by have q : Arv Z h10 b1 k1 .char (5 : Int32) [(.int sa), (.int sb), (.int (nar .char sc)), (.int (0 : Int32)), (.int (0 : Int32))] v0_ := Arv.set Ar9 q9 S9 M9 H9 G9 (fits_nar_char _) W10 2 rfl (Nat.le_of_ble_eq_true rfl); rw [show nar .char sc = sc from own_narc r5a r5b] at q; exact q
    have N10 := Fr.snoc X10 N7 (show n0 ≤ b1 by omega)
    obtain ⟨cl12, Ar12, q12, S12, M12, H12, G12⟩ := id V10
    have hin12 : ¬ ((3 : Int32) < 0 ∨ cl12.slots.size ≤ ((3 : Int32)).toNatClampNeg) := inb_of S12 ⟨by decide, by decide⟩
    obtain ⟨T13, h13, X13, e13, W13, st13⟩ := stC X10 hx hZ e10 Ar12 (j := (3 : Int32)) hin12 (g := (mkF m 65 #[.val (.int (0 : Int32)), .val (.int cx), .val (.int cy), .val (.int cz), .val (.int sa), .val (.int sb), .val (.int sc), .val (.int sd), .val (.int se), .val (.ref b1)] [(.int sd), (.int (3 : Int32)), (.ref b1)])) rfl rfl (dd hy d3_65)
    have z14 : h10.size ≤ h13.size := Nat.le_of_eq W13.size.symm
    have V13 : Arv Z h13 b1 k1 .char (5 : Int32) [(.int sa), (.int sb), (.int sc), (.int sd), (.int (0 : Int32))] v0_ := by have q : Arv Z h13 b1 k1 .char (5 : Int32) [(.int sa), (.int sb), (.int sc), (.int (nar .char sd)), (.int (0 : Int32))] v0_ := Arv.set Ar12 q12 S12 M12 H12 G12 (fits_nar_char _) W13 3 rfl (Nat.le_of_ble_eq_true rfl); rw [show nar .char sd = sd from own_narc r6a r6b] at q; exact q
    have N13 := Fr.snoc X13 N10 (show n0 ≤ b1 by omega)
    obtain ⟨cl15, Ar15, q15, S15, M15, H15, G15⟩ := id V13
    have hin15 : ¬ ((4 : Int32) < 0 ∨ cl15.slots.size ≤ ((4 : Int32)).toNatClampNeg) := inb_of S15 ⟨by decide, by decide⟩
    obtain ⟨T16, h16, X16, e16, W16, st16⟩ := stC X13 hx hZ e13 Ar15 (j := (4 : Int32)) hin15 (g := (mkF m 73 #[.val (.int (0 : Int32)), .val (.int cx), .val (.int cy), .val (.int cz), .val (.int sa), .val (.int sb), .val (.int sc), .val (.int sd), .val (.int se), .val (.ref b1)] [(.int se), (.int (4 : Int32)), (.ref b1)])) rfl rfl (dd hy d3_73)
    have z17 : h13.size ≤ h16.size := Nat.le_of_eq W16.size.symm
    have V16 : Arv Z h16 b1 k1 .char (5 : Int32) [(.int sa), (.int sb), (.int sc), (.int sd), (.int se)] v0_ := by have q : Arv Z h16 b1 k1 .char (5 : Int32) [(.int sa), (.int sb), (.int sc), (.int sd), (.int (nar .char se))] v0_ := Arv.set Ar15 q15 S15 M15 H15 G15 (fits_nar_char _) W16 4 rfl (Nat.le_of_ble_eq_true rfl); rw [show nar .char se = se from own_narc r7a r7b] at q; exact q
    have N16 := Fr.snoc X16 N13 (show n0 ≤ b1 by omega)
    have s18 : ∀ t_, Steps p.tables e below (T16.setTop (mkF m 76 #[.val (.int (0 : Int32)), .val (.int cx), .val (.int cy), .val (.int cz), .val (.int sa), .val (.int sb), .val (.int sc), .val (.int sd), .val (.int se), .val (.ref b1)] [(.ref b1)])) t_ → Steps _ _ _ _ t_ := fun t_ k_ => pre0 t_ (by
      refine XS.iloadN X0.here hx rfl (dd hy d3_0) rfl ?_
      refine XS.iconst X0.here hx rfl (dd hy d3_1) ?_
      refine XS.iadd X0.here hx rfl (dd hy d3_2) rfl ?_
      refine st1 _ ?_
      refine XS.astore X1.here hx rfl (dd hy d3_5) rfl rfl (l' := #[.val (.int (0 : Int32)), .val (.int cx), .val (.int cy), .val (.int cz), .val (.int sa), .val (.int sb), .val (.int sc), .val (.int sd), .val (.int se), .val (.ref b1)]) rfl ?_
      refine XS.iloadN X1.here hx rfl (dd hy d3_7) rfl ?_
      show Steps _ _ _ (T1.setTop (mkF m 8 #[.val (.int (0 : Int32)), .val (.int cx), .val (.int cy), .val (.int cz), .val (.int sa), .val (.int sb), .val (.int sc), .val (.int sd), .val (.int se), .val (.ref b1)] [(.int (0 : Int32))])) _
      refine XS.ifYes X1.here hx rfl (pc0 := 8) (pc' := 16) rfl (dd hy d3_8) rfl ((if0 _ _).trans (flt (by decide : ¬ ((0 : Int32) < (0 : Int32)))).2.2.2) (by decide) (by decide) ?_
      show Steps _ _ _ (T1.setTop (mkF m 16 #[.val (.int (0 : Int32)), .val (.int cx), .val (.int cy), .val (.int cz), .val (.int sa), .val (.int sb), .val (.int sc), .val (.int sd), .val (.int se), .val (.ref b1)] [])) _
      refine XS.iloadN X1.here hx rfl (dd hy d3_16) rfl ?_
      refine XS.iconst X1.here hx rfl (dd hy d3_17) ?_
      refine XS.icmpYes X1.here hx rfl (pc0 := 18) (pc' := 26) rfl (dd hy d3_18) rfl (flt (by decide : ¬ ((1 : Int32) < (0 : Int32)))).2.2.2 (by decide) (by decide) ?_
      show Steps _ _ _ (T1.setTop (mkF m 26 #[.val (.int (0 : Int32)), .val (.int cx), .val (.int cy), .val (.int cz), .val (.int sa), .val (.int sb), .val (.int sc), .val (.int sd), .val (.int se), .val (.ref b1)] [])) _
      refine XS.iloadN X1.here hx rfl (dd hy d3_26) rfl ?_
      refine XS.iconst X1.here hx rfl (dd hy d3_27) ?_
      refine XS.icmpYes X1.here hx rfl (pc0 := 28) (pc' := 36) rfl (dd hy d3_28) rfl (flt (by decide : ¬ ((2 : Int32) < (0 : Int32)))).2.2.2 (by decide) (by decide) ?_
      show Steps _ _ _ (T1.setTop (mkF m 36 #[.val (.int (0 : Int32)), .val (.int cx), .val (.int cy), .val (.int cz), .val (.int sa), .val (.int sb), .val (.int sc), .val (.int sd), .val (.int se), .val (.ref b1)] [])) _
      refine XS.aload X1.here hx rfl (dd hy d3_36) rfl rfl ?_
      refine XS.iloadN X1.here hx rfl (dd hy d3_38) rfl ?_
      refine XS.iload X1.here hx rfl (dd hy d3_39) rfl ?_
      refine st4 _ ?_
      refine XS.aload X4.here hx rfl (dd hy d3_42) rfl rfl ?_
      refine XS.iloadN X4.here hx rfl (dd hy d3_44) rfl ?_
      show Steps _ _ _ (T4.setTop (mkF m 45 #[.val (.int (0 : Int32)), .val (.int cx), .val (.int cy), .val (.int cz), .val (.int sa), .val (.int sb), .val (.int sc), .val (.int sd), .val (.int se), .val (.ref b1)] [(.int (0 : Int32)), (.ref b1)])) _
      refine XS.iconst X4.here hx rfl (dd hy d3_45) ?_
      refine XS.iadd X4.here hx rfl (dd hy d3_46) rfl ?_
      refine XS.iload X4.here hx rfl (dd hy d3_47) rfl ?_
      refine st7 _ ?_
      refine XS.aload X7.here hx rfl (dd hy d3_50) rfl rfl ?_
      refine XS.iloadN X7.here hx rfl (dd hy d3_52) rfl ?_
      show Steps _ _ _ (T7.setTop (mkF m 53 #[.val (.int (0 : Int32)), .val (.int cx), .val (.int cy), .val (.int cz), .val (.int sa), .val (.int sb), .val (.int sc), .val (.int sd), .val (.int se), .val (.ref b1)] [(.int (0 : Int32)), (.ref b1)])) _
      refine XS.iconst X7.here hx rfl (dd hy d3_53) ?_
      refine XS.iadd X7.here hx rfl (dd hy d3_54) rfl ?_
      refine XS.iload X7.here hx rfl (dd hy d3_55) rfl ?_
      refine st10 _ ?_
      refine XS.aload X10.here hx rfl (dd hy d3_58) rfl rfl ?_
      refine XS.iloadN X10.here hx rfl (dd hy d3_60) rfl ?_
      show Steps _ _ _ (T10.setTop (mkF m 61 #[.val (.int (0 : Int32)), .val (.int cx), .val (.int cy), .val (.int cz), .val (.int sa), .val (.int sb), .val (.int sc), .val (.int sd), .val (.int se), .val (.ref b1)] [(.int (0 : Int32)), (.ref b1)])) _
      refine XS.iconst X10.here hx rfl (dd hy d3_61) ?_
      refine XS.iadd X10.here hx rfl (dd hy d3_62) rfl ?_
      refine XS.iload X10.here hx rfl (dd hy d3_63) rfl ?_
      refine st13 _ ?_
      refine XS.aload X13.here hx rfl (dd hy d3_66) rfl rfl ?_
      refine XS.iloadN X13.here hx rfl (dd hy d3_68) rfl ?_
      show Steps _ _ _ (T13.setTop (mkF m 69 #[.val (.int (0 : Int32)), .val (.int cx), .val (.int cy), .val (.int cz), .val (.int sa), .val (.int sb), .val (.int sc), .val (.int sd), .val (.int se), .val (.ref b1)] [(.int (0 : Int32)), (.ref b1)])) _
      refine XS.iconst X13.here hx rfl (dd hy d3_69) ?_
      refine XS.iadd X13.here hx rfl (dd hy d3_70) rfl ?_
      refine XS.iload X13.here hx rfl (dd hy d3_71) rfl ?_
      refine st16 _ ?_
      refine XS.aload X16.here hx rfl (dd hy d3_74) rfl rfl ?_
      exact k_)
    obtain ⟨fs, hr, hrun, hended, hW, hsame⟩ := X16.leave (v := some (.ref b1)) (fun h => by rw [Bd.returns] at h; cases h)
    refine ⟨_, _, s18 _ ?_, hrun, hended, _, _, rfl, ?_, ⟨_, rfl⟩, hW, hsame.mono (by decide) (by decide)⟩
    · jvm_step X16.here [X16.here.top, hx, (dd hy d3_76), X16.method', Bd.returns, Value.isRef, FieldType.isReference]
      first | (intro acts; rw [hr _ acts rfl rfl rfl]) | rw [hr _ _ rfl rfl rfl]
      exact Steps.refl _
    · show Q_rmMk Z _ _ _ _ _ _ _ _ _ h0 n0 _ T16.heap _
      rw [e16]
      exact ⟨b1, k1, rfl, N16, (((((((Keep.refl h0 []).ext E1).wr W4 (Or.inr (show h0.size ≤ b1 by omega))).wr W7 (Or.inr (show h0.size ≤ b1 by omega))).wr W10 (Or.inr (show h0.size ≤ b1 by omega))).wr W13 (Or.inr (show h0.size ≤ b1 by omega))).wr W16 (Or.inr (show h0.size ≤ b1 by omega))), V16, by omega⟩
  · have hcase := trivial
    obtain ⟨T19, h19, k19, X19, e19, E19, A19, st19⟩ := newP X0 hx hZ (own_m hw 4 rfl) e0 (g := (mkF m 3 #[.val (.int (1 : Int32)), .val (.int cx), .val (.int cy), .val (.int cz), .val (.int sa), .val (.int sb), .val (.int sc), .val (.int sd), .val (.int se), .unset] [(.int (6 : Int32))])) rfl (dd hy d3_3) rfl (by decide) (cap := 6) (by decide) (by decide) (by decide) (by decide)
    obtain ⟨b19, g19⟩ : ∃ z, z = h0.size := ⟨_, rfl⟩
    rw [← g19] at A19 st19
    have z20 : h0.size ≤ h19.size := E19.1
    have l19 : b19 < h19.size := A19.lt
    have V19 : Arv Z h19 b19 k19 .char (6 : Int32) [(.int (0 : Int32)), (.int (0 : Int32)), (.int (0 : Int32)), (.int (0 : Int32)), (.int (0 : Int32)), (.int (0 : Int32))] v0_ := (Arv.new A19 (by decide)).pad (pad_rep [] (.int (0 : Int32)) 6)
    obtain ⟨cl21, Ar21, q21, S21, M21, H21, G21⟩ := id V19
    have hin21 : ¬ ((0 : Int32) < 0 ∨ cl21.slots.size ≤ ((0 : Int32)).toNatClampNeg) := inb_of S21 ⟨by decide, by decide⟩
    obtain ⟨T22, h22, X22, e22, W22, st22⟩ := stC X19 hx hZ e19 Ar21 (j := (0 : Int32)) hin21 (g := (mkF m 15 #[.val (.int (1 : Int32)), .val (.int cx), .val (.int cy), .val (.int cz), .val (.int sa), .val (.int sb), .val (.int sc), .val (.int sd), .val (.int se), .val (.ref b19)] [(.int cx), (.int (0 : Int32)), (.ref b19)])) rfl rfl (dd hy d3_15)
    have z23 : h19.size ≤ h22.size := Nat.le_of_eq W22.size.symm
    have V22 : Arv Z h22 b19 k19 .char (6 : Int32) [(.int cx), (.int (0 : Int32)), (.int (0 : Int32)), (.int (0 : Int32)), (.int (0 : Int32)), (.int (0 : Int32))] v0_ := by have q : Arv Z h22 b19 k19 .char (6 : Int32) [(.int (nar .char cx)), (.int (0 : Int32)), (.int (0 : Int32)), (.int (0 : Int32)), (.int (0 : Int32)), (.int (0 : Int32))] v0_ := Arv.set Ar21 q21 S21 M21 H21 G21 (fits_nar_char _) W22 0 rfl (Nat.le_of_ble_eq_true rfl); rw [show nar .char cx = cx from own_narc r0a r0b] at q; exact q
    have N22 := Fr.snoc X22 N0 (show n0 ≤ b19 by omega)
    obtain ⟨cl24, Ar24, q24, S24, M24, H24, G24⟩ := id V22
    have hin24 : ¬ ((1 : Int32) < 0 ∨ cl24.slots.size ≤ ((1 : Int32)).toNatClampNeg) := inb_of S24 ⟨by decide, by decide⟩
    obtain ⟨T25, h25, X25, e25, W25, st25⟩ := stC X22 hx hZ e22 Ar24 (j := (1 : Int32)) hin24 (g := (mkF m 41 #[.val (.int (1 : Int32)), .val (.int cx), .val (.int cy), .val (.int cz), .val (.int sa), .val (.int sb), .val (.int sc), .val (.int sd), .val (.int se), .val (.ref b19)] [(.int sa), (.int (1 : Int32)), (.ref b19)])) rfl rfl (dd hy d3_41)
    have z26 : h22.size ≤ h25.size := Nat.le_of_eq W25.size.symm
    have V25 : Arv Z h25 b19 k19 .char (6 : Int32) [(.int cx), (.int sa), (.int (0 : Int32)), (.int (0 : Int32)), (.int (0 : Int32)), (.int (0 : Int32))] v0_ := by have q : Arv Z h25 b19 k19 .char (6 : Int32) [(.int cx), (.int (nar .char sa)), (.int (0 : Int32)), (.int (0 : Int32)), (.int (0 : Int32)), (.int (0 : Int32))] v0_ := Arv.set Ar24 q24 S24 M24 H24 G24 (fits_nar_char _) W25 1 rfl (Nat.le_of_ble_eq_true rfl); rw [show nar .char sa = sa from own_narc r3a r3b] at q; exact q
    have N25 := Fr.snoc X25 N22 (show n0 ≤ b19 by omega)
    obtain ⟨cl27, Ar27, q27, S27, M27, H27, G27⟩ := id V25
    have hin27 : ¬ ((2 : Int32) < 0 ∨ cl27.slots.size ≤ ((2 : Int32)).toNatClampNeg) := inb_of S27 ⟨by decide, by decide⟩
    obtain ⟨T28, h28, X28, e28, W28, st28⟩ := stC X25 hx hZ e25 Ar27 (j := (2 : Int32)) hin27 (g := (mkF m 49 #[.val (.int (1 : Int32)), .val (.int cx), .val (.int cy), .val (.int cz), .val (.int sa), .val (.int sb), .val (.int sc), .val (.int sd), .val (.int se), .val (.ref b19)] [(.int sb), (.int (2 : Int32)), (.ref b19)])) rfl rfl (dd hy d3_49)
    have z29 : h25.size ≤ h28.size := Nat.le_of_eq W28.size.symm
    have V28 : Arv Z h28 b19 k19 .char (6 : Int32) [(.int cx), (.int sa), (.int sb), (.int (0 : Int32)), (.int (0 : Int32)), (.int (0 : Int32))] v0_ := by have q : Arv Z h28 b19 k19 .char (6 : Int32) [(.int cx), (.int sa), (.int (nar .char sb)), (.int (0 : Int32)), (.int (0 : Int32)), (.int (0 : Int32))] v0_ := Arv.set Ar27 q27 S27 M27 H27 G27 (fits_nar_char _) W28 2 rfl (Nat.le_of_ble_eq_true rfl); rw [show nar .char sb = sb from own_narc r4a r4b] at q; exact q
    have N28 := Fr.snoc X28 N25 (show n0 ≤ b19 by omega)
    obtain ⟨cl30, Ar30, q30, S30, M30, H30, G30⟩ := id V28
    have hin30 : ¬ ((3 : Int32) < 0 ∨ cl30.slots.size ≤ ((3 : Int32)).toNatClampNeg) := inb_of S30 ⟨by decide, by decide⟩
    obtain ⟨T31, h31, X31, e31, W31, st31⟩ := stC X28 hx hZ e28 Ar30 (j := (3 : Int32)) hin30 (g := (mkF m 57 #[.val (.int (1 : Int32)), .val (.int cx), .val (.int cy), .val (.int cz), .val (.int sa), .val (.int sb), .val (.int sc), .val (.int sd), .val (.int se), .val (.ref b19)] [(.int sc), (.int (3 : Int32)), (.ref b19)])) rfl rfl (dd hy d3_57)
    have z32 : h28.size ≤ h31.size := Nat.le_of_eq W31.size.symm
    have V31 : Arv Z h31 b19 k19 .char (6 : Int32) [(.int cx), (.int sa), (.int sb), (.int sc), (.int (0 : Int32)), (.int (0 : Int32))] v0_ := by have q : Arv Z h31 b19 k19 .char (6 : Int32) [(.int cx), (.int sa), (.int sb), (.int (nar .char sc)), (.int (0 : Int32)), (.int (0 : Int32))] v0_ := Arv.set Ar30 q30 S30 M30 H30 G30 (fits_nar_char _) W31 3 rfl (Nat.le_of_ble_eq_true rfl); rw [show nar .char sc = sc from own_narc r5a r5b] at q; exact q
    have N31 := Fr.snoc X31 N28 (show n0 ≤ b19 by omega)
    obtain ⟨cl33, Ar33, q33, S33, M33, H33, G33⟩ := id V31
    have hin33 : ¬ ((4 : Int32) < 0 ∨ cl33.slots.size ≤ ((4 : Int32)).toNatClampNeg) := inb_of S33 ⟨by decide, by decide⟩
    obtain ⟨T34, h34, X34, e34, W34, st34⟩ := stC X31 hx hZ e31 Ar33 (j := (4 : Int32)) hin33 (g := (mkF m 65 #[.val (.int (1 : Int32)), .val (.int cx), .val (.int cy), .val (.int cz), .val (.int sa), .val (.int sb), .val (.int sc), .val (.int sd), .val (.int se), .val (.ref b19)] [(.int sd), (.int (4 : Int32)), (.ref b19)])) rfl rfl (dd hy d3_65)
    have z35 : h31.size ≤ h34.size := Nat.le_of_eq W34.size.symm
    have V34 : Arv Z h34 b19 k19 .char (6 : Int32) [(.int cx), (.int sa), (.int sb), (.int sc), (.int sd), (.int (0 : Int32))] v0_ := by have q : Arv Z h34 b19 k19 .char (6 : Int32) [(.int cx), (.int sa), (.int sb), (.int sc), (.int (nar .char sd)), (.int (0 : Int32))] v0_ := Arv.set Ar33 q33 S33 M33 H33 G33 (fits_nar_char _) W34 4 rfl (Nat.le_of_ble_eq_true rfl); rw [show nar .char sd = sd from own_narc r6a r6b] at q; exact q
    have N34 := Fr.snoc X34 N31 (show n0 ≤ b19 by omega)
    obtain ⟨cl36, Ar36, q36, S36, M36, H36, G36⟩ := id V34
    have hin36 : ¬ ((5 : Int32) < 0 ∨ cl36.slots.size ≤ ((5 : Int32)).toNatClampNeg) := inb_of S36 ⟨by decide, by decide⟩
    obtain ⟨T37, h37, X37, e37, W37, st37⟩ := stC X34 hx hZ e34 Ar36 (j := (5 : Int32)) hin36 (g := (mkF m 73 #[.val (.int (1 : Int32)), .val (.int cx), .val (.int cy), .val (.int cz), .val (.int sa), .val (.int sb), .val (.int sc), .val (.int sd), .val (.int se), .val (.ref b19)] [(.int se), (.int (5 : Int32)), (.ref b19)])) rfl rfl (dd hy d3_73)
    have z38 : h34.size ≤ h37.size := Nat.le_of_eq W37.size.symm
    have V37 : Arv Z h37 b19 k19 .char (6 : Int32) [(.int cx), (.int sa), (.int sb), (.int sc), (.int sd), (.int se)] v0_ := by have q : Arv Z h37 b19 k19 .char (6 : Int32) [(.int cx), (.int sa), (.int sb), (.int sc), (.int sd), (.int (nar .char se))] v0_ := Arv.set Ar36 q36 S36 M36 H36 G36 (fits_nar_char _) W37 5 rfl (Nat.le_of_ble_eq_true rfl); rw [show nar .char se = se from own_narc r7a r7b] at q; exact q
    have N37 := Fr.snoc X37 N34 (show n0 ≤ b19 by omega)
    have s39 : ∀ t_, Steps p.tables e below (T37.setTop (mkF m 76 #[.val (.int (1 : Int32)), .val (.int cx), .val (.int cy), .val (.int cz), .val (.int sa), .val (.int sb), .val (.int sc), .val (.int sd), .val (.int se), .val (.ref b19)] [(.ref b19)])) t_ → Steps _ _ _ _ t_ := fun t_ k_ => pre0 t_ (by
      refine XS.iloadN X0.here hx rfl (dd hy d3_0) rfl ?_
      refine XS.iconst X0.here hx rfl (dd hy d3_1) ?_
      refine XS.iadd X0.here hx rfl (dd hy d3_2) rfl ?_
      refine st19 _ ?_
      refine XS.astore X19.here hx rfl (dd hy d3_5) rfl rfl (l' := #[.val (.int (1 : Int32)), .val (.int cx), .val (.int cy), .val (.int cz), .val (.int sa), .val (.int sb), .val (.int sc), .val (.int sd), .val (.int se), .val (.ref b19)]) rfl ?_
      refine XS.iloadN X19.here hx rfl (dd hy d3_7) rfl ?_
      show Steps _ _ _ (T19.setTop (mkF m 8 #[.val (.int (1 : Int32)), .val (.int cx), .val (.int cy), .val (.int cz), .val (.int sa), .val (.int sb), .val (.int sc), .val (.int sd), .val (.int se), .val (.ref b19)] [(.int (1 : Int32))])) _
      refine XS.ifNo X19.here hx rfl (dd hy d3_8) rfl ((if0 _ _).trans (tlt (by decide : ((0 : Int32) < (1 : Int32)))).2.2.2) ?_
      show Steps _ _ _ (T19.setTop (mkF m 11 #[.val (.int (1 : Int32)), .val (.int cx), .val (.int cy), .val (.int cz), .val (.int sa), .val (.int sb), .val (.int sc), .val (.int sd), .val (.int se), .val (.ref b19)] [])) _
      refine XS.aload X19.here hx rfl (dd hy d3_11) rfl rfl ?_
      refine XS.iconst X19.here hx rfl (dd hy d3_13) ?_
      refine XS.iloadN X19.here hx rfl (dd hy d3_14) rfl ?_
      refine st22 _ ?_
      refine XS.iloadN X22.here hx rfl (dd hy d3_16) rfl ?_
      refine XS.iconst X22.here hx rfl (dd hy d3_17) ?_
      show Steps _ _ _ (T22.setTop (mkF m 18 #[.val (.int (1 : Int32)), .val (.int cx), .val (.int cy), .val (.int cz), .val (.int sa), .val (.int sb), .val (.int sc), .val (.int sd), .val (.int se), .val (.ref b19)] [(.int (1 : Int32)), (.int (1 : Int32))])) _
      refine XS.icmpYes X22.here hx rfl (pc0 := 18) (pc' := 26) rfl (dd hy d3_18) rfl (flt (by decide : ¬ ((1 : Int32) < (1 : Int32)))).2.2.2 (by decide) (by decide) ?_
      show Steps _ _ _ (T22.setTop (mkF m 26 #[.val (.int (1 : Int32)), .val (.int cx), .val (.int cy), .val (.int cz), .val (.int sa), .val (.int sb), .val (.int sc), .val (.int sd), .val (.int se), .val (.ref b19)] [])) _
      refine XS.iloadN X22.here hx rfl (dd hy d3_26) rfl ?_
      refine XS.iconst X22.here hx rfl (dd hy d3_27) ?_
      refine XS.icmpYes X22.here hx rfl (pc0 := 28) (pc' := 36) rfl (dd hy d3_28) rfl (flt (by decide : ¬ ((2 : Int32) < (1 : Int32)))).2.2.2 (by decide) (by decide) ?_
      show Steps _ _ _ (T22.setTop (mkF m 36 #[.val (.int (1 : Int32)), .val (.int cx), .val (.int cy), .val (.int cz), .val (.int sa), .val (.int sb), .val (.int sc), .val (.int sd), .val (.int se), .val (.ref b19)] [])) _
      refine XS.aload X22.here hx rfl (dd hy d3_36) rfl rfl ?_
      refine XS.iloadN X22.here hx rfl (dd hy d3_38) rfl ?_
      refine XS.iload X22.here hx rfl (dd hy d3_39) rfl ?_
      refine st25 _ ?_
      refine XS.aload X25.here hx rfl (dd hy d3_42) rfl rfl ?_
      refine XS.iloadN X25.here hx rfl (dd hy d3_44) rfl ?_
      show Steps _ _ _ (T25.setTop (mkF m 45 #[.val (.int (1 : Int32)), .val (.int cx), .val (.int cy), .val (.int cz), .val (.int sa), .val (.int sb), .val (.int sc), .val (.int sd), .val (.int se), .val (.ref b19)] [(.int (1 : Int32)), (.ref b19)])) _
      refine XS.iconst X25.here hx rfl (dd hy d3_45) ?_
      refine XS.iadd X25.here hx rfl (dd hy d3_46) rfl ?_
      refine XS.iload X25.here hx rfl (dd hy d3_47) rfl ?_
      refine st28 _ ?_
      refine XS.aload X28.here hx rfl (dd hy d3_50) rfl rfl ?_
      refine XS.iloadN X28.here hx rfl (dd hy d3_52) rfl ?_
      show Steps _ _ _ (T28.setTop (mkF m 53 #[.val (.int (1 : Int32)), .val (.int cx), .val (.int cy), .val (.int cz), .val (.int sa), .val (.int sb), .val (.int sc), .val (.int sd), .val (.int se), .val (.ref b19)] [(.int (1 : Int32)), (.ref b19)])) _
      refine XS.iconst X28.here hx rfl (dd hy d3_53) ?_
      refine XS.iadd X28.here hx rfl (dd hy d3_54) rfl ?_
      refine XS.iload X28.here hx rfl (dd hy d3_55) rfl ?_
      refine st31 _ ?_
      refine XS.aload X31.here hx rfl (dd hy d3_58) rfl rfl ?_
      refine XS.iloadN X31.here hx rfl (dd hy d3_60) rfl ?_
      show Steps _ _ _ (T31.setTop (mkF m 61 #[.val (.int (1 : Int32)), .val (.int cx), .val (.int cy), .val (.int cz), .val (.int sa), .val (.int sb), .val (.int sc), .val (.int sd), .val (.int se), .val (.ref b19)] [(.int (1 : Int32)), (.ref b19)])) _
      refine XS.iconst X31.here hx rfl (dd hy d3_61) ?_
      refine XS.iadd X31.here hx rfl (dd hy d3_62) rfl ?_
      refine XS.iload X31.here hx rfl (dd hy d3_63) rfl ?_
      refine st34 _ ?_
      refine XS.aload X34.here hx rfl (dd hy d3_66) rfl rfl ?_
      refine XS.iloadN X34.here hx rfl (dd hy d3_68) rfl ?_
      show Steps _ _ _ (T34.setTop (mkF m 69 #[.val (.int (1 : Int32)), .val (.int cx), .val (.int cy), .val (.int cz), .val (.int sa), .val (.int sb), .val (.int sc), .val (.int sd), .val (.int se), .val (.ref b19)] [(.int (1 : Int32)), (.ref b19)])) _
      refine XS.iconst X34.here hx rfl (dd hy d3_69) ?_
      refine XS.iadd X34.here hx rfl (dd hy d3_70) rfl ?_
      refine XS.iload X34.here hx rfl (dd hy d3_71) rfl ?_
      refine st37 _ ?_
      refine XS.aload X37.here hx rfl (dd hy d3_74) rfl rfl ?_
      exact k_)
    obtain ⟨fs, hr, hrun, hended, hW, hsame⟩ := X37.leave (v := some (.ref b19)) (fun h => by rw [Bd.returns] at h; cases h)
    refine ⟨_, _, s39 _ ?_, hrun, hended, _, _, rfl, ?_, ⟨_, rfl⟩, hW, hsame.mono (by decide) (by decide)⟩
    · jvm_step X37.here [X37.here.top, hx, (dd hy d3_76), X37.method', Bd.returns, Value.isRef, FieldType.isReference]
      first | (intro acts; rw [hr _ acts rfl rfl rfl]) | rw [hr _ _ rfl rfl rfl]
      exact Steps.refl _
    · show Q_rmMk Z _ _ _ _ _ _ _ _ _ h0 n0 _ T37.heap _
      rw [e37]
      exact ⟨b19, k19, rfl, N37, ((((((((Keep.refl h0 []).ext E19).wr W22 (Or.inr (show h0.size ≤ b19 by omega))).wr W25 (Or.inr (show h0.size ≤ b19 by omega))).wr W28 (Or.inr (show h0.size ≤ b19 by omega))).wr W31 (Or.inr (show h0.size ≤ b19 by omega))).wr W34 (Or.inr (show h0.size ≤ b19 by omega))).wr W37 (Or.inr (show h0.size ≤ b19 by omega))), V37, by omega⟩
  · have hcase := trivial
    obtain ⟨T40, h40, k40, X40, e40, E40, A40, st40⟩ := newP X0 hx hZ (own_m hw 4 rfl) e0 (g := (mkF m 3 #[.val (.int (2 : Int32)), .val (.int cx), .val (.int cy), .val (.int cz), .val (.int sa), .val (.int sb), .val (.int sc), .val (.int sd), .val (.int se), .unset] [(.int (7 : Int32))])) rfl (dd hy d3_3) rfl (by decide) (cap := 7) (by decide) (by decide) (by decide) (by decide)
    obtain ⟨b40, g40⟩ : ∃ z, z = h0.size := ⟨_, rfl⟩
    rw [← g40] at A40 st40
    have z41 : h0.size ≤ h40.size := E40.1
    have l40 : b40 < h40.size := A40.lt
    have V40 : Arv Z h40 b40 k40 .char (7 : Int32) [(.int (0 : Int32)), (.int (0 : Int32)), (.int (0 : Int32)), (.int (0 : Int32)), (.int (0 : Int32)), (.int (0 : Int32)), (.int (0 : Int32))] v0_ := (Arv.new A40 (by decide)).pad (pad_rep [] (.int (0 : Int32)) 7)
    obtain ⟨cl42, Ar42, q42, S42, M42, H42, G42⟩ := id V40
    have hin42 : ¬ ((0 : Int32) < 0 ∨ cl42.slots.size ≤ ((0 : Int32)).toNatClampNeg) := inb_of S42 ⟨by decide, by decide⟩
    obtain ⟨T43, h43, X43, e43, W43, st43⟩ := stC X40 hx hZ e40 Ar42 (j := (0 : Int32)) hin42 (g := (mkF m 15 #[.val (.int (2 : Int32)), .val (.int cx), .val (.int cy), .val (.int cz), .val (.int sa), .val (.int sb), .val (.int sc), .val (.int sd), .val (.int se), .val (.ref b40)] [(.int cx), (.int (0 : Int32)), (.ref b40)])) rfl rfl (dd hy d3_15)
    have z44 : h40.size ≤ h43.size := Nat.le_of_eq W43.size.symm
    have V43 : Arv Z h43 b40 k40 .char (7 : Int32) [(.int cx), (.int (0 : Int32)), (.int (0 : Int32)), (.int (0 : Int32)), (.int (0 : Int32)), (.int (0 : Int32)), (.int (0 : Int32))] v0_ := by have q : Arv Z h43 b40 k40 .char (7 : Int32) [(.int (nar .char cx)), (.int (0 : Int32)), (.int (0 : Int32)), (.int (0 : Int32)), (.int (0 : Int32)), (.int (0 : Int32)), (.int (0 : Int32))] v0_ := Arv.set Ar42 q42 S42 M42 H42 G42 (fits_nar_char _) W43 0 rfl (Nat.le_of_ble_eq_true rfl); rw [show nar .char cx = cx from own_narc r0a r0b] at q; exact q
    have N43 := Fr.snoc X43 N0 (show n0 ≤ b40 by omega)
    obtain ⟨cl45, Ar45, q45, S45, M45, H45, G45⟩ := id V43
    have hin45 : ¬ ((1 : Int32) < 0 ∨ cl45.slots.size ≤ ((1 : Int32)).toNatClampNeg) := inb_of S45 ⟨by decide, by decide⟩
    obtain ⟨T46, h46, X46, e46, W46, st46⟩ := stC X43 hx hZ e43 Ar45 (j := (1 : Int32)) hin45 (g := (mkF m 25 #[.val (.int (2 : Int32)), .val (.int cx), .val (.int cy), .val (.int cz), .val (.int sa), .val (.int sb), .val (.int sc), .val (.int sd), .val (.int se), .val (.ref b40)] [(.int cy), (.int (1 : Int32)), (.ref b40)])) rfl rfl (dd hy d3_25)
    have z47 : h43.size ≤ h46.size := Nat.le_of_eq W46.size.symm
    have V46 : Arv Z h46 b40 k40 .char (7 : Int32) [(.int cx), (.int cy), (.int (0 : Int32)), (.int (0 : Int32)), (.int (0 : Int32)), (.int (0 : Int32)), (.int (0 : Int32))] v0_ := by have q : Arv Z h46 b40 k40 .char (7 : Int32) [(.int cx), (.int (nar .char cy)), (.int (0 : Int32)), (.int (0 : Int32)), (.int (0 : Int32)), (.int (0 : Int32)), (.int (0 : Int32))] v0_ := Arv.set Ar45 q45 S45 M45 H45 G45 (fits_nar_char _) W46 1 rfl (Nat.le_of_ble_eq_true rfl); rw [show nar .char cy = cy from own_narc r1a r1b] at q; exact q
    have N46 := Fr.snoc X46 N43 (show n0 ≤ b40 by omega)
    obtain ⟨cl48, Ar48, q48, S48, M48, H48, G48⟩ := id V46
    have hin48 : ¬ ((2 : Int32) < 0 ∨ cl48.slots.size ≤ ((2 : Int32)).toNatClampNeg) := inb_of S48 ⟨by decide, by decide⟩
    obtain ⟨T49, h49, X49, e49, W49, st49⟩ := stC X46 hx hZ e46 Ar48 (j := (2 : Int32)) hin48 (g := (mkF m 41 #[.val (.int (2 : Int32)), .val (.int cx), .val (.int cy), .val (.int cz), .val (.int sa), .val (.int sb), .val (.int sc), .val (.int sd), .val (.int se), .val (.ref b40)] [(.int sa), (.int (2 : Int32)), (.ref b40)])) rfl rfl (dd hy d3_41)
    have z50 : h46.size ≤ h49.size := Nat.le_of_eq W49.size.symm
    have V49 : Arv Z h49 b40 k40 .char (7 : Int32) [(.int cx), (.int cy), (.int sa), (.int (0 : Int32)), (.int (0 : Int32)), (.int (0 : Int32)), (.int (0 : Int32))] v0_ := by have q : Arv Z h49 b40 k40 .char (7 : Int32) [(.int cx), (.int cy), (.int (nar .char sa)), (.int (0 : Int32)), (.int (0 : Int32)), (.int (0 : Int32)), (.int (0 : Int32))] v0_ := Arv.set Ar48 q48 S48 M48 H48 G48 (fits_nar_char _) W49 2 rfl (Nat.le_of_ble_eq_true rfl); rw [show nar .char sa = sa from own_narc r3a r3b] at q; exact q
    have N49 := Fr.snoc X49 N46 (show n0 ≤ b40 by omega)
    obtain ⟨cl51, Ar51, q51, S51, M51, H51, G51⟩ := id V49
    have hin51 : ¬ ((3 : Int32) < 0 ∨ cl51.slots.size ≤ ((3 : Int32)).toNatClampNeg) := inb_of S51 ⟨by decide, by decide⟩
    obtain ⟨T52, h52, X52, e52, W52, st52⟩ := stC X49 hx hZ e49 Ar51 (j := (3 : Int32)) hin51 (g := (mkF m 49 #[.val (.int (2 : Int32)), .val (.int cx), .val (.int cy), .val (.int cz), .val (.int sa), .val (.int sb), .val (.int sc), .val (.int sd), .val (.int se), .val (.ref b40)] [(.int sb), (.int (3 : Int32)), (.ref b40)])) rfl rfl (dd hy d3_49)
    have z53 : h49.size ≤ h52.size := Nat.le_of_eq W52.size.symm
    have V52 : Arv Z h52 b40 k40 .char (7 : Int32) [(.int cx), (.int cy), (.int sa), (.int sb), (.int (0 : Int32)), (.int (0 : Int32)), (.int (0 : Int32))] v0_ := by have q : Arv Z h52 b40 k40 .char (7 : Int32) [(.int cx), (.int cy), (.int sa), (.int (nar .char sb)), (.int (0 : Int32)), (.int (0 : Int32)), (.int (0 : Int32))] v0_ := Arv.set Ar51 q51 S51 M51 H51 G51 (fits_nar_char _) W52 3 rfl (Nat.le_of_ble_eq_true rfl); rw [show nar .char sb = sb from own_narc r4a r4b] at q; exact q
    have N52 := Fr.snoc X52 N49 (show n0 ≤ b40 by omega)
    obtain ⟨cl54, Ar54, q54, S54, M54, H54, G54⟩ := id V52
    have hin54 : ¬ ((4 : Int32) < 0 ∨ cl54.slots.size ≤ ((4 : Int32)).toNatClampNeg) := inb_of S54 ⟨by decide, by decide⟩
    obtain ⟨T55, h55, X55, e55, W55, st55⟩ := stC X52 hx hZ e52 Ar54 (j := (4 : Int32)) hin54 (g := (mkF m 57 #[.val (.int (2 : Int32)), .val (.int cx), .val (.int cy), .val (.int cz), .val (.int sa), .val (.int sb), .val (.int sc), .val (.int sd), .val (.int se), .val (.ref b40)] [(.int sc), (.int (4 : Int32)), (.ref b40)])) rfl rfl (dd hy d3_57)
    have z56 : h52.size ≤ h55.size := Nat.le_of_eq W55.size.symm
    have V55 : Arv Z h55 b40 k40 .char (7 : Int32) [(.int cx), (.int cy), (.int sa), (.int sb), (.int sc), (.int (0 : Int32)), (.int (0 : Int32))] v0_ := by have q : Arv Z h55 b40 k40 .char (7 : Int32) [(.int cx), (.int cy), (.int sa), (.int sb), (.int (nar .char sc)), (.int (0 : Int32)), (.int (0 : Int32))] v0_ := Arv.set Ar54 q54 S54 M54 H54 G54 (fits_nar_char _) W55 4 rfl (Nat.le_of_ble_eq_true rfl); rw [show nar .char sc = sc from own_narc r5a r5b] at q; exact q
    have N55 := Fr.snoc X55 N52 (show n0 ≤ b40 by omega)
    obtain ⟨cl57, Ar57, q57, S57, M57, H57, G57⟩ := id V55
    have hin57 : ¬ ((5 : Int32) < 0 ∨ cl57.slots.size ≤ ((5 : Int32)).toNatClampNeg) := inb_of S57 ⟨by decide, by decide⟩
    obtain ⟨T58, h58, X58, e58, W58, st58⟩ := stC X55 hx hZ e55 Ar57 (j := (5 : Int32)) hin57 (g := (mkF m 65 #[.val (.int (2 : Int32)), .val (.int cx), .val (.int cy), .val (.int cz), .val (.int sa), .val (.int sb), .val (.int sc), .val (.int sd), .val (.int se), .val (.ref b40)] [(.int sd), (.int (5 : Int32)), (.ref b40)])) rfl rfl (dd hy d3_65)
    have z59 : h55.size ≤ h58.size := Nat.le_of_eq W58.size.symm
    have V58 : Arv Z h58 b40 k40 .char (7 : Int32) [(.int cx), (.int cy), (.int sa), (.int sb), (.int sc), (.int sd), (.int (0 : Int32))] v0_ := by have q : Arv Z h58 b40 k40 .char (7 : Int32) [(.int cx), (.int cy), (.int sa), (.int sb), (.int sc), (.int (nar .char sd)), (.int (0 : Int32))] v0_ := Arv.set Ar57 q57 S57 M57 H57 G57 (fits_nar_char _) W58 5 rfl (Nat.le_of_ble_eq_true rfl); rw [show nar .char sd = sd from own_narc r6a r6b] at q; exact q
    have N58 := Fr.snoc X58 N55 (show n0 ≤ b40 by omega)
    obtain ⟨cl60, Ar60, q60, S60, M60, H60, G60⟩ := id V58
    have hin60 : ¬ ((6 : Int32) < 0 ∨ cl60.slots.size ≤ ((6 : Int32)).toNatClampNeg) := inb_of S60 ⟨by decide, by decide⟩
    obtain ⟨T61, h61, X61, e61, W61, st61⟩ := stC X58 hx hZ e58 Ar60 (j := (6 : Int32)) hin60 (g := (mkF m 73 #[.val (.int (2 : Int32)), .val (.int cx), .val (.int cy), .val (.int cz), .val (.int sa), .val (.int sb), .val (.int sc), .val (.int sd), .val (.int se), .val (.ref b40)] [(.int se), (.int (6 : Int32)), (.ref b40)])) rfl rfl (dd hy d3_73)
    have z62 : h58.size ≤ h61.size := Nat.le_of_eq W61.size.symm
    have V61 : Arv Z h61 b40 k40 .char (7 : Int32) [(.int cx), (.int cy), (.int sa), (.int sb), (.int sc), (.int sd), (.int se)] v0_ := by have q : Arv Z h61 b40 k40 .char (7 : Int32) [(.int cx), (.int cy), (.int sa), (.int sb), (.int sc), (.int sd), (.int (nar .char se))] v0_ := Arv.set Ar60 q60 S60 M60 H60 G60 (fits_nar_char _) W61 6 rfl (Nat.le_of_ble_eq_true rfl); rw [show nar .char se = se from own_narc r7a r7b] at q; exact q
    have N61 := Fr.snoc X61 N58 (show n0 ≤ b40 by omega)
    have s63 : ∀ t_, Steps p.tables e below (T61.setTop (mkF m 76 #[.val (.int (2 : Int32)), .val (.int cx), .val (.int cy), .val (.int cz), .val (.int sa), .val (.int sb), .val (.int sc), .val (.int sd), .val (.int se), .val (.ref b40)] [(.ref b40)])) t_ → Steps _ _ _ _ t_ := fun t_ k_ => pre0 t_ (by
      refine XS.iloadN X0.here hx rfl (dd hy d3_0) rfl ?_
      refine XS.iconst X0.here hx rfl (dd hy d3_1) ?_
      refine XS.iadd X0.here hx rfl (dd hy d3_2) rfl ?_
      refine st40 _ ?_
      refine XS.astore X40.here hx rfl (dd hy d3_5) rfl rfl (l' := #[.val (.int (2 : Int32)), .val (.int cx), .val (.int cy), .val (.int cz), .val (.int sa), .val (.int sb), .val (.int sc), .val (.int sd), .val (.int se), .val (.ref b40)]) rfl ?_
      refine XS.iloadN X40.here hx rfl (dd hy d3_7) rfl ?_
      show Steps _ _ _ (T40.setTop (mkF m 8 #[.val (.int (2 : Int32)), .val (.int cx), .val (.int cy), .val (.int cz), .val (.int sa), .val (.int sb), .val (.int sc), .val (.int sd), .val (.int se), .val (.ref b40)] [(.int (2 : Int32))])) _
      refine XS.ifNo X40.here hx rfl (dd hy d3_8) rfl ((if0 _ _).trans (tlt (by decide : ((0 : Int32) < (2 : Int32)))).2.2.2) ?_
      show Steps _ _ _ (T40.setTop (mkF m 11 #[.val (.int (2 : Int32)), .val (.int cx), .val (.int cy), .val (.int cz), .val (.int sa), .val (.int sb), .val (.int sc), .val (.int sd), .val (.int se), .val (.ref b40)] [])) _
      refine XS.aload X40.here hx rfl (dd hy d3_11) rfl rfl ?_
      refine XS.iconst X40.here hx rfl (dd hy d3_13) ?_
      refine XS.iloadN X40.here hx rfl (dd hy d3_14) rfl ?_
      refine st43 _ ?_
      refine XS.iloadN X43.here hx rfl (dd hy d3_16) rfl ?_
      refine XS.iconst X43.here hx rfl (dd hy d3_17) ?_
      show Steps _ _ _ (T43.setTop (mkF m 18 #[.val (.int (2 : Int32)), .val (.int cx), .val (.int cy), .val (.int cz), .val (.int sa), .val (.int sb), .val (.int sc), .val (.int sd), .val (.int se), .val (.ref b40)] [(.int (1 : Int32)), (.int (2 : Int32))])) _
      refine XS.icmpNo X43.here hx rfl (dd hy d3_18) rfl (tlt (by decide : ((1 : Int32) < (2 : Int32)))).2.2.2 ?_
      show Steps _ _ _ (T43.setTop (mkF m 21 #[.val (.int (2 : Int32)), .val (.int cx), .val (.int cy), .val (.int cz), .val (.int sa), .val (.int sb), .val (.int sc), .val (.int sd), .val (.int se), .val (.ref b40)] [])) _
      refine XS.aload X43.here hx rfl (dd hy d3_21) rfl rfl ?_
      refine XS.iconst X43.here hx rfl (dd hy d3_23) ?_
      refine XS.iloadN X43.here hx rfl (dd hy d3_24) rfl ?_
      refine st46 _ ?_
      refine XS.iloadN X46.here hx rfl (dd hy d3_26) rfl ?_
      refine XS.iconst X46.here hx rfl (dd hy d3_27) ?_
      show Steps _ _ _ (T46.setTop (mkF m 28 #[.val (.int (2 : Int32)), .val (.int cx), .val (.int cy), .val (.int cz), .val (.int sa), .val (.int sb), .val (.int sc), .val (.int sd), .val (.int se), .val (.ref b40)] [(.int (2 : Int32)), (.int (2 : Int32))])) _
      refine XS.icmpYes X46.here hx rfl (pc0 := 28) (pc' := 36) rfl (dd hy d3_28) rfl (flt (by decide : ¬ ((2 : Int32) < (2 : Int32)))).2.2.2 (by decide) (by decide) ?_
      show Steps _ _ _ (T46.setTop (mkF m 36 #[.val (.int (2 : Int32)), .val (.int cx), .val (.int cy), .val (.int cz), .val (.int sa), .val (.int sb), .val (.int sc), .val (.int sd), .val (.int se), .val (.ref b40)] [])) _
      refine XS.aload X46.here hx rfl (dd hy d3_36) rfl rfl ?_
      refine XS.iloadN X46.here hx rfl (dd hy d3_38) rfl ?_
      refine XS.iload X46.here hx rfl (dd hy d3_39) rfl ?_
      refine st49 _ ?_
      refine XS.aload X49.here hx rfl (dd hy d3_42) rfl rfl ?_
      refine XS.iloadN X49.here hx rfl (dd hy d3_44) rfl ?_
      show Steps _ _ _ (T49.setTop (mkF m 45 #[.val (.int (2 : Int32)), .val (.int cx), .val (.int cy), .val (.int cz), .val (.int sa), .val (.int sb), .val (.int sc), .val (.int sd), .val (.int se), .val (.ref b40)] [(.int (2 : Int32)), (.ref b40)])) _
      refine XS.iconst X49.here hx rfl (dd hy d3_45) ?_
      refine XS.iadd X49.here hx rfl (dd hy d3_46) rfl ?_
      refine XS.iload X49.here hx rfl (dd hy d3_47) rfl ?_
      refine st52 _ ?_
      refine XS.aload X52.here hx rfl (dd hy d3_50) rfl rfl ?_
      refine XS.iloadN X52.here hx rfl (dd hy d3_52) rfl ?_
      show Steps _ _ _ (T52.setTop (mkF m 53 #[.val (.int (2 : Int32)), .val (.int cx), .val (.int cy), .val (.int cz), .val (.int sa), .val (.int sb), .val (.int sc), .val (.int sd), .val (.int se), .val (.ref b40)] [(.int (2 : Int32)), (.ref b40)])) _
      refine XS.iconst X52.here hx rfl (dd hy d3_53) ?_
      refine XS.iadd X52.here hx rfl (dd hy d3_54) rfl ?_
      refine XS.iload X52.here hx rfl (dd hy d3_55) rfl ?_
      refine st55 _ ?_
      refine XS.aload X55.here hx rfl (dd hy d3_58) rfl rfl ?_
      refine XS.iloadN X55.here hx rfl (dd hy d3_60) rfl ?_
      show Steps _ _ _ (T55.setTop (mkF m 61 #[.val (.int (2 : Int32)), .val (.int cx), .val (.int cy), .val (.int cz), .val (.int sa), .val (.int sb), .val (.int sc), .val (.int sd), .val (.int se), .val (.ref b40)] [(.int (2 : Int32)), (.ref b40)])) _
      refine XS.iconst X55.here hx rfl (dd hy d3_61) ?_
      refine XS.iadd X55.here hx rfl (dd hy d3_62) rfl ?_
      refine XS.iload X55.here hx rfl (dd hy d3_63) rfl ?_
      refine st58 _ ?_
      refine XS.aload X58.here hx rfl (dd hy d3_66) rfl rfl ?_
      refine XS.iloadN X58.here hx rfl (dd hy d3_68) rfl ?_
      show Steps _ _ _ (T58.setTop (mkF m 69 #[.val (.int (2 : Int32)), .val (.int cx), .val (.int cy), .val (.int cz), .val (.int sa), .val (.int sb), .val (.int sc), .val (.int sd), .val (.int se), .val (.ref b40)] [(.int (2 : Int32)), (.ref b40)])) _
      refine XS.iconst X58.here hx rfl (dd hy d3_69) ?_
      refine XS.iadd X58.here hx rfl (dd hy d3_70) rfl ?_
      refine XS.iload X58.here hx rfl (dd hy d3_71) rfl ?_
      refine st61 _ ?_
      refine XS.aload X61.here hx rfl (dd hy d3_74) rfl rfl ?_
      exact k_)
    obtain ⟨fs, hr, hrun, hended, hW, hsame⟩ := X61.leave (v := some (.ref b40)) (fun h => by rw [Bd.returns] at h; cases h)
    refine ⟨_, _, s63 _ ?_, hrun, hended, _, _, rfl, ?_, ⟨_, rfl⟩, hW, hsame.mono (by decide) (by decide)⟩
    · jvm_step X61.here [X61.here.top, hx, (dd hy d3_76), X61.method', Bd.returns, Value.isRef, FieldType.isReference]
      first | (intro acts; rw [hr _ acts rfl rfl rfl]) | rw [hr _ _ rfl rfl rfl]
      exact Steps.refl _
    · show Q_rmMk Z _ _ _ _ _ _ _ _ _ h0 n0 _ T61.heap _
      rw [e61]
      exact ⟨b40, k40, rfl, N61, (((((((((Keep.refl h0 []).ext E40).wr W43 (Or.inr (show h0.size ≤ b40 by omega))).wr W46 (Or.inr (show h0.size ≤ b40 by omega))).wr W49 (Or.inr (show h0.size ≤ b40 by omega))).wr W52 (Or.inr (show h0.size ≤ b40 by omega))).wr W55 (Or.inr (show h0.size ≤ b40 by omega))).wr W58 (Or.inr (show h0.size ≤ b40 by omega))).wr W61 (Or.inr (show h0.size ≤ b40 by omega))), V61, by omega⟩
  · have hcase := trivial
    obtain ⟨T64, h64, k64, X64, e64, E64, A64, st64⟩ := newP X0 hx hZ (own_m hw 4 rfl) e0 (g := (mkF m 3 #[.val (.int (3 : Int32)), .val (.int cx), .val (.int cy), .val (.int cz), .val (.int sa), .val (.int sb), .val (.int sc), .val (.int sd), .val (.int se), .unset] [(.int (8 : Int32))])) rfl (dd hy d3_3) rfl (by decide) (cap := 8) (by decide) (by decide) (by decide) (by decide)
    obtain ⟨b64, g64⟩ : ∃ z, z = h0.size := ⟨_, rfl⟩
    rw [← g64] at A64 st64
    have z65 : h0.size ≤ h64.size := E64.1
    have l64 : b64 < h64.size := A64.lt
    have V64 : Arv Z h64 b64 k64 .char (8 : Int32) [(.int (0 : Int32)), (.int (0 : Int32)), (.int (0 : Int32)), (.int (0 : Int32)), (.int (0 : Int32)), (.int (0 : Int32)), (.int (0 : Int32)), (.int (0 : Int32))] v0_ := (Arv.new A64 (by decide)).pad (pad_rep [] (.int (0 : Int32)) 8)
    obtain ⟨cl66, Ar66, q66, S66, M66, H66, G66⟩ := id V64
    have hin66 : ¬ ((0 : Int32) < 0 ∨ cl66.slots.size ≤ ((0 : Int32)).toNatClampNeg) := inb_of S66 ⟨by decide, by decide⟩
    obtain ⟨T67, h67, X67, e67, W67, st67⟩ := stC X64 hx hZ e64 Ar66 (j := (0 : Int32)) hin66 (g := (mkF m 15 #[.val (.int (3 : Int32)), .val (.int cx), .val (.int cy), .val (.int cz), .val (.int sa), .val (.int sb), .val (.int sc), .val (.int sd), .val (.int se), .val (.ref b64)] [(.int cx), (.int (0 : Int32)), (.ref b64)])) rfl rfl (dd hy d3_15)
    have z68 : h64.size ≤ h67.size := Nat.le_of_eq W67.size.symm
    have V67 : Arv Z h67 b64 k64 .char (8 : Int32) [(.int cx), (.int (0 : Int32)), (.int (0 : Int32)), (.int (0 : Int32)), (.int (0 : Int32)), (.int (0 : Int32)), (.int (0 : Int32)), (.int (0 : Int32))] v0_ := by have q : Arv Z h67 b64 k64 .char (8 : Int32) [(.int (nar .char cx)), (.int (0 : Int32)), (.int (0 : Int32)), (.int (0 : Int32)), (.int (0 : Int32)), (.int (0 : Int32)), (.int (0 : Int32)), (.int (0 : Int32))] v0_ := Arv.set Ar66 q66 S66 M66 H66 G66 (fits_nar_char _) W67 0 rfl (Nat.le_of_ble_eq_true rfl); rw [show nar .char cx = cx from own_narc r0a r0b] at q; exact q
    have N67 := Fr.snoc X67 N0 (show n0 ≤ b64 by omega)
    obtain ⟨cl69, Ar69, q69, S69, M69, H69, G69⟩ := id V67
    have hin69 : ¬ ((1 : Int32) < 0 ∨ cl69.slots.size ≤ ((1 : Int32)).toNatClampNeg) := inb_of S69 ⟨by decide, by decide⟩
    obtain ⟨T70, h70, X70, e70, W70, st70⟩ := stC X67 hx hZ e67 Ar69 (j := (1 : Int32)) hin69 (g := (mkF m 25 #[.val (.int (3 : Int32)), .val (.int cx), .val (.int cy), .val (.int cz), .val (.int sa), .val (.int sb), .val (.int sc), .val (.int sd), .val (.int se), .val (.ref b64)] [(.int cy), (.int (1 : Int32)), (.ref b64)])) rfl rfl (dd hy d3_25)
    have z71 : h67.size ≤ h70.size := Nat.le_of_eq W70.size.symm
    have V70 : Arv Z h70 b64 k64 .char (8 : Int32) [(.int cx), (.int cy), (.int (0 : Int32)), (.int (0 : Int32)), (.int (0 : Int32)), (.int (0 : Int32)), (.int (0 : Int32)), (.int (0 : Int32))] v0_ := by have q : Arv Z h70 b64 k64 .char (8 : Int32) [(.int cx), (.int (nar .char cy)), (.int (0 : Int32)), (.int (0 : Int32)), (.int (0 : Int32)), (.int (0 : Int32)), (.int (0 : Int32)), (.int (0 : Int32))] v0_ := Arv.set Ar69 q69 S69 M69 H69 G69 (fits_nar_char _) W70 1 rfl (Nat.le_of_ble_eq_true rfl); rw [show nar .char cy = cy from own_narc r1a r1b] at q; exact q
    have N70 := Fr.snoc X70 N67 (show n0 ≤ b64 by omega)
    obtain ⟨cl72, Ar72, q72, S72, M72, H72, G72⟩ := id V70
    have hin72 : ¬ ((2 : Int32) < 0 ∨ cl72.slots.size ≤ ((2 : Int32)).toNatClampNeg) := inb_of S72 ⟨by decide, by decide⟩
    obtain ⟨T73, h73, X73, e73, W73, st73⟩ := stC X70 hx hZ e70 Ar72 (j := (2 : Int32)) hin72 (g := (mkF m 35 #[.val (.int (3 : Int32)), .val (.int cx), .val (.int cy), .val (.int cz), .val (.int sa), .val (.int sb), .val (.int sc), .val (.int sd), .val (.int se), .val (.ref b64)] [(.int cz), (.int (2 : Int32)), (.ref b64)])) rfl rfl (dd hy d3_35)
    have z74 : h70.size ≤ h73.size := Nat.le_of_eq W73.size.symm
    have V73 : Arv Z h73 b64 k64 .char (8 : Int32) [(.int cx), (.int cy), (.int cz), (.int (0 : Int32)), (.int (0 : Int32)), (.int (0 : Int32)), (.int (0 : Int32)), (.int (0 : Int32))] v0_ := by have q : Arv Z h73 b64 k64 .char (8 : Int32) [(.int cx), (.int cy), (.int (nar .char cz)), (.int (0 : Int32)), (.int (0 : Int32)), (.int (0 : Int32)), (.int (0 : Int32)), (.int (0 : Int32))] v0_ := Arv.set Ar72 q72 S72 M72 H72 G72 (fits_nar_char _) W73 2 rfl (Nat.le_of_ble_eq_true rfl); rw [show nar .char cz = cz from own_narc r2a r2b] at q; exact q
    have N73 := Fr.snoc X73 N70 (show n0 ≤ b64 by omega)
    obtain ⟨cl75, Ar75, q75, S75, M75, H75, G75⟩ := id V73
    have hin75 : ¬ ((3 : Int32) < 0 ∨ cl75.slots.size ≤ ((3 : Int32)).toNatClampNeg) := inb_of S75 ⟨by decide, by decide⟩
    obtain ⟨T76, h76, X76, e76, W76, st76⟩ := stC X73 hx hZ e73 Ar75 (j := (3 : Int32)) hin75 (g := (mkF m 41 #[.val (.int (3 : Int32)), .val (.int cx), .val (.int cy), .val (.int cz), .val (.int sa), .val (.int sb), .val (.int sc), .val (.int sd), .val (.int se), .val (.ref b64)] [(.int sa), (.int (3 : Int32)), (.ref b64)])) rfl rfl (dd hy d3_41)
    have z77 : h73.size ≤ h76.size := Nat.le_of_eq W76.size.symm
    have V76 : Arv Z h76 b64 k64 .char (8 : Int32) [(.int cx), (.int cy), (.int cz), (.int sa), (.int (0 : Int32)), (.int (0 : Int32)), (.int (0 : Int32)), (.int (0 : Int32))] v0_ := by have q : Arv Z h76 b64 k64 .char (8 : Int32) [(.int cx), (.int cy), (.int cz), (.int (nar .char sa)), (.int (0 : Int32)), (.int (0 : Int32)), (.int (0 : Int32)), (.int (0 : Int32))] v0_ := Arv.set Ar75 q75 S75 M75 H75 G75 (fits_nar_char _) W76 3 rfl (Nat.le_of_ble_eq_true rfl); rw [show nar .char sa = sa from own_narc r3a r3b] at q; exact q
    have N76 := Fr.snoc X76 N73 (show n0 ≤ b64 by omega)
    obtain ⟨cl78, Ar78, q78, S78, M78, H78, G78⟩ := id V76
    have hin78 : ¬ ((4 : Int32) < 0 ∨ cl78.slots.size ≤ ((4 : Int32)).toNatClampNeg) := inb_of S78 ⟨by decide, by decide⟩
    obtain ⟨T79, h79, X79, e79, W79, st79⟩ := stC X76 hx hZ e76 Ar78 (j := (4 : Int32)) hin78 (g := (mkF m 49 #[.val (.int (3 : Int32)), .val (.int cx), .val (.int cy), .val (.int cz), .val (.int sa), .val (.int sb), .val (.int sc), .val (.int sd), .val (.int se), .val (.ref b64)] [(.int sb), (.int (4 : Int32)), (.ref b64)])) rfl rfl (dd hy d3_49)
    have z80 : h76.size ≤ h79.size := Nat.le_of_eq W79.size.symm
    have V79 : Arv Z h79 b64 k64 .char (8 : Int32) [(.int cx), (.int cy), (.int cz), (.int sa), (.int sb), (.int (0 : Int32)), (.int (0 : Int32)), (.int (0 : Int32))] v0_ := by have q : Arv Z h79 b64 k64 .char (8 : Int32) [(.int cx), (.int cy), (.int cz), (.int sa), (.int (nar .char sb)), (.int (0 : Int32)), (.int (0 : Int32)), (.int (0 : Int32))] v0_ := Arv.set Ar78 q78 S78 M78 H78 G78 (fits_nar_char _) W79 4 rfl (Nat.le_of_ble_eq_true rfl); rw [show nar .char sb = sb from own_narc r4a r4b] at q; exact q
    have N79 := Fr.snoc X79 N76 (show n0 ≤ b64 by omega)
    obtain ⟨cl81, Ar81, q81, S81, M81, H81, G81⟩ := id V79
    have hin81 : ¬ ((5 : Int32) < 0 ∨ cl81.slots.size ≤ ((5 : Int32)).toNatClampNeg) := inb_of S81 ⟨by decide, by decide⟩
    obtain ⟨T82, h82, X82, e82, W82, st82⟩ := stC X79 hx hZ e79 Ar81 (j := (5 : Int32)) hin81 (g := (mkF m 57 #[.val (.int (3 : Int32)), .val (.int cx), .val (.int cy), .val (.int cz), .val (.int sa), .val (.int sb), .val (.int sc), .val (.int sd), .val (.int se), .val (.ref b64)] [(.int sc), (.int (5 : Int32)), (.ref b64)])) rfl rfl (dd hy d3_57)
    have z83 : h79.size ≤ h82.size := Nat.le_of_eq W82.size.symm
    have V82 : Arv Z h82 b64 k64 .char (8 : Int32) [(.int cx), (.int cy), (.int cz), (.int sa), (.int sb), (.int sc), (.int (0 : Int32)), (.int (0 : Int32))] v0_ := by have q : Arv Z h82 b64 k64 .char (8 : Int32) [(.int cx), (.int cy), (.int cz), (.int sa), (.int sb), (.int (nar .char sc)), (.int (0 : Int32)), (.int (0 : Int32))] v0_ := Arv.set Ar81 q81 S81 M81 H81 G81 (fits_nar_char _) W82 5 rfl (Nat.le_of_ble_eq_true rfl); rw [show nar .char sc = sc from own_narc r5a r5b] at q; exact q
    have N82 := Fr.snoc X82 N79 (show n0 ≤ b64 by omega)
    obtain ⟨cl84, Ar84, q84, S84, M84, H84, G84⟩ := id V82
    have hin84 : ¬ ((6 : Int32) < 0 ∨ cl84.slots.size ≤ ((6 : Int32)).toNatClampNeg) := inb_of S84 ⟨by decide, by decide⟩
    obtain ⟨T85, h85, X85, e85, W85, st85⟩ := stC X82 hx hZ e82 Ar84 (j := (6 : Int32)) hin84 (g := (mkF m 65 #[.val (.int (3 : Int32)), .val (.int cx), .val (.int cy), .val (.int cz), .val (.int sa), .val (.int sb), .val (.int sc), .val (.int sd), .val (.int se), .val (.ref b64)] [(.int sd), (.int (6 : Int32)), (.ref b64)])) rfl rfl (dd hy d3_65)
    have z86 : h82.size ≤ h85.size := Nat.le_of_eq W85.size.symm
    have V85 : Arv Z h85 b64 k64 .char (8 : Int32) [(.int cx), (.int cy), (.int cz), (.int sa), (.int sb), (.int sc), (.int sd), (.int (0 : Int32))] v0_ := by have q : Arv Z h85 b64 k64 .char (8 : Int32) [(.int cx), (.int cy), (.int cz), (.int sa), (.int sb), (.int sc), (.int (nar .char sd)), (.int (0 : Int32))] v0_ := Arv.set Ar84 q84 S84 M84 H84 G84 (fits_nar_char _) W85 6 rfl (Nat.le_of_ble_eq_true rfl); rw [show nar .char sd = sd from own_narc r6a r6b] at q; exact q
    have N85 := Fr.snoc X85 N82 (show n0 ≤ b64 by omega)
    obtain ⟨cl87, Ar87, q87, S87, M87, H87, G87⟩ := id V85
    have hin87 : ¬ ((7 : Int32) < 0 ∨ cl87.slots.size ≤ ((7 : Int32)).toNatClampNeg) := inb_of S87 ⟨by decide, by decide⟩
    obtain ⟨T88, h88, X88, e88, W88, st88⟩ := stC X85 hx hZ e85 Ar87 (j := (7 : Int32)) hin87 (g := (mkF m 73 #[.val (.int (3 : Int32)), .val (.int cx), .val (.int cy), .val (.int cz), .val (.int sa), .val (.int sb), .val (.int sc), .val (.int sd), .val (.int se), .val (.ref b64)] [(.int se), (.int (7 : Int32)), (.ref b64)])) rfl rfl (dd hy d3_73)
    have z89 : h85.size ≤ h88.size := Nat.le_of_eq W88.size.symm
    have V88 : Arv Z h88 b64 k64 .char (8 : Int32) [(.int cx), (.int cy), (.int cz), (.int sa), (.int sb), (.int sc), (.int sd), (.int se)] v0_ := by have q : Arv Z h88 b64 k64 .char (8 : Int32) [(.int cx), (.int cy), (.int cz), (.int sa), (.int sb), (.int sc), (.int sd), (.int (nar .char se))] v0_ := Arv.set Ar87 q87 S87 M87 H87 G87 (fits_nar_char _) W88 7 rfl (Nat.le_of_ble_eq_true rfl); rw [show nar .char se = se from own_narc r7a r7b] at q; exact q
    have N88 := Fr.snoc X88 N85 (show n0 ≤ b64 by omega)
    have s90 : ∀ t_, Steps p.tables e below (T88.setTop (mkF m 76 #[.val (.int (3 : Int32)), .val (.int cx), .val (.int cy), .val (.int cz), .val (.int sa), .val (.int sb), .val (.int sc), .val (.int sd), .val (.int se), .val (.ref b64)] [(.ref b64)])) t_ → Steps _ _ _ _ t_ := fun t_ k_ => pre0 t_ (by
      refine XS.iloadN X0.here hx rfl (dd hy d3_0) rfl ?_
      refine XS.iconst X0.here hx rfl (dd hy d3_1) ?_
      refine XS.iadd X0.here hx rfl (dd hy d3_2) rfl ?_
      refine st64 _ ?_
      refine XS.astore X64.here hx rfl (dd hy d3_5) rfl rfl (l' := #[.val (.int (3 : Int32)), .val (.int cx), .val (.int cy), .val (.int cz), .val (.int sa), .val (.int sb), .val (.int sc), .val (.int sd), .val (.int se), .val (.ref b64)]) rfl ?_
      refine XS.iloadN X64.here hx rfl (dd hy d3_7) rfl ?_
      show Steps _ _ _ (T64.setTop (mkF m 8 #[.val (.int (3 : Int32)), .val (.int cx), .val (.int cy), .val (.int cz), .val (.int sa), .val (.int sb), .val (.int sc), .val (.int sd), .val (.int se), .val (.ref b64)] [(.int (3 : Int32))])) _
      refine XS.ifNo X64.here hx rfl (dd hy d3_8) rfl ((if0 _ _).trans (tlt (by decide : ((0 : Int32) < (3 : Int32)))).2.2.2) ?_
      show Steps _ _ _ (T64.setTop (mkF m 11 #[.val (.int (3 : Int32)), .val (.int cx), .val (.int cy), .val (.int cz), .val (.int sa), .val (.int sb), .val (.int sc), .val (.int sd), .val (.int se), .val (.ref b64)] [])) _
      refine XS.aload X64.here hx rfl (dd hy d3_11) rfl rfl ?_
      refine XS.iconst X64.here hx rfl (dd hy d3_13) ?_
      refine XS.iloadN X64.here hx rfl (dd hy d3_14) rfl ?_
      refine st67 _ ?_
      refine XS.iloadN X67.here hx rfl (dd hy d3_16) rfl ?_
      refine XS.iconst X67.here hx rfl (dd hy d3_17) ?_
      show Steps _ _ _ (T67.setTop (mkF m 18 #[.val (.int (3 : Int32)), .val (.int cx), .val (.int cy), .val (.int cz), .val (.int sa), .val (.int sb), .val (.int sc), .val (.int sd), .val (.int se), .val (.ref b64)] [(.int (1 : Int32)), (.int (3 : Int32))])) _
      refine XS.icmpNo X67.here hx rfl (dd hy d3_18) rfl (tlt (by decide : ((1 : Int32) < (3 : Int32)))).2.2.2 ?_
      show Steps _ _ _ (T67.setTop (mkF m 21 #[.val (.int (3 : Int32)), .val (.int cx), .val (.int cy), .val (.int cz), .val (.int sa), .val (.int sb), .val (.int sc), .val (.int sd), .val (.int se), .val (.ref b64)] [])) _
      refine XS.aload X67.here hx rfl (dd hy d3_21) rfl rfl ?_
      refine XS.iconst X67.here hx rfl (dd hy d3_23) ?_
      refine XS.iloadN X67.here hx rfl (dd hy d3_24) rfl ?_
      refine st70 _ ?_
      refine XS.iloadN X70.here hx rfl (dd hy d3_26) rfl ?_
      refine XS.iconst X70.here hx rfl (dd hy d3_27) ?_
      show Steps _ _ _ (T70.setTop (mkF m 28 #[.val (.int (3 : Int32)), .val (.int cx), .val (.int cy), .val (.int cz), .val (.int sa), .val (.int sb), .val (.int sc), .val (.int sd), .val (.int se), .val (.ref b64)] [(.int (2 : Int32)), (.int (3 : Int32))])) _
      refine XS.icmpNo X70.here hx rfl (dd hy d3_28) rfl (tlt (by decide : ((2 : Int32) < (3 : Int32)))).2.2.2 ?_
      show Steps _ _ _ (T70.setTop (mkF m 31 #[.val (.int (3 : Int32)), .val (.int cx), .val (.int cy), .val (.int cz), .val (.int sa), .val (.int sb), .val (.int sc), .val (.int sd), .val (.int se), .val (.ref b64)] [])) _
      refine XS.aload X70.here hx rfl (dd hy d3_31) rfl rfl ?_
      refine XS.iconst X70.here hx rfl (dd hy d3_33) ?_
      refine XS.iloadN X70.here hx rfl (dd hy d3_34) rfl ?_
      refine st73 _ ?_
      refine XS.aload X73.here hx rfl (dd hy d3_36) rfl rfl ?_
      refine XS.iloadN X73.here hx rfl (dd hy d3_38) rfl ?_
      show Steps _ _ _ (T73.setTop (mkF m 39 #[.val (.int (3 : Int32)), .val (.int cx), .val (.int cy), .val (.int cz), .val (.int sa), .val (.int sb), .val (.int sc), .val (.int sd), .val (.int se), .val (.ref b64)] [(.int (3 : Int32)), (.ref b64)])) _
      refine XS.iload X73.here hx rfl (dd hy d3_39) rfl ?_
      refine st76 _ ?_
      refine XS.aload X76.here hx rfl (dd hy d3_42) rfl rfl ?_
      refine XS.iloadN X76.here hx rfl (dd hy d3_44) rfl ?_
      refine XS.iconst X76.here hx rfl (dd hy d3_45) ?_
      refine XS.iadd X76.here hx rfl (dd hy d3_46) rfl ?_
      show Steps _ _ _ (T76.setTop (mkF m 47 #[.val (.int (3 : Int32)), .val (.int cx), .val (.int cy), .val (.int cz), .val (.int sa), .val (.int sb), .val (.int sc), .val (.int sd), .val (.int se), .val (.ref b64)] [(.int (4 : Int32)), (.ref b64)])) _
      refine XS.iload X76.here hx rfl (dd hy d3_47) rfl ?_
      refine st79 _ ?_
      refine XS.aload X79.here hx rfl (dd hy d3_50) rfl rfl ?_
      refine XS.iloadN X79.here hx rfl (dd hy d3_52) rfl ?_
      refine XS.iconst X79.here hx rfl (dd hy d3_53) ?_
      refine XS.iadd X79.here hx rfl (dd hy d3_54) rfl ?_
      show Steps _ _ _ (T79.setTop (mkF m 55 #[.val (.int (3 : Int32)), .val (.int cx), .val (.int cy), .val (.int cz), .val (.int sa), .val (.int sb), .val (.int sc), .val (.int sd), .val (.int se), .val (.ref b64)] [(.int (5 : Int32)), (.ref b64)])) _
      refine XS.iload X79.here hx rfl (dd hy d3_55) rfl ?_
      refine st82 _ ?_
      refine XS.aload X82.here hx rfl (dd hy d3_58) rfl rfl ?_
      refine XS.iloadN X82.here hx rfl (dd hy d3_60) rfl ?_
      refine XS.iconst X82.here hx rfl (dd hy d3_61) ?_
      refine XS.iadd X82.here hx rfl (dd hy d3_62) rfl ?_
      show Steps _ _ _ (T82.setTop (mkF m 63 #[.val (.int (3 : Int32)), .val (.int cx), .val (.int cy), .val (.int cz), .val (.int sa), .val (.int sb), .val (.int sc), .val (.int sd), .val (.int se), .val (.ref b64)] [(.int (6 : Int32)), (.ref b64)])) _
      refine XS.iload X82.here hx rfl (dd hy d3_63) rfl ?_
      refine st85 _ ?_
      refine XS.aload X85.here hx rfl (dd hy d3_66) rfl rfl ?_
      refine XS.iloadN X85.here hx rfl (dd hy d3_68) rfl ?_
      refine XS.iconst X85.here hx rfl (dd hy d3_69) ?_
      refine XS.iadd X85.here hx rfl (dd hy d3_70) rfl ?_
      show Steps _ _ _ (T85.setTop (mkF m 71 #[.val (.int (3 : Int32)), .val (.int cx), .val (.int cy), .val (.int cz), .val (.int sa), .val (.int sb), .val (.int sc), .val (.int sd), .val (.int se), .val (.ref b64)] [(.int (7 : Int32)), (.ref b64)])) _
      refine XS.iload X85.here hx rfl (dd hy d3_71) rfl ?_
      refine st88 _ ?_
      refine XS.aload X88.here hx rfl (dd hy d3_74) rfl rfl ?_
      exact k_)
    obtain ⟨fs, hr, hrun, hended, hW, hsame⟩ := X88.leave (v := some (.ref b64)) (fun h => by rw [Bd.returns] at h; cases h)
    refine ⟨_, _, s90 _ ?_, hrun, hended, _, _, rfl, ?_, ⟨_, rfl⟩, hW, hsame.mono (by decide) (by decide)⟩
    · jvm_step X88.here [X88.here.top, hx, (dd hy d3_76), X88.method', Bd.returns, Value.isRef, FieldType.isReference]
      first | (intro acts; rw [hr _ acts rfl rfl rfl]) | rw [hr _ _ rfl rfl rfl]
      exact Steps.refl _
    · show Q_rmMk Z _ _ _ _ _ _ _ _ _ h0 n0 _ T88.heap _
      rw [e88]
      exact ⟨b64, k64, rfl, N88, ((((((((((Keep.refl h0 []).ext E64).wr W67 (Or.inr (show h0.size ≤ b64 by omega))).wr W70 (Or.inr (show h0.size ≤ b64 by omega))).wr W73 (Or.inr (show h0.size ≤ b64 by omega))).wr W76 (Or.inr (show h0.size ≤ b64 by omega))).wr W79 (Or.inr (show h0.size ≤ b64 by omega))).wr W82 (Or.inr (show h0.size ≤ b64 by omega))).wr W85 (Or.inr (show h0.size ≤ b64 by omega))).wr W88 (Or.inr (show h0.size ≤ b64 by omega))), V88, by omega⟩
theorem pd__ICCCCCCCC__C : parseMethodDescriptor "(ICCCCCCCC)[C" = some ⟨[.int, .char, .char, .char, .char, .char, .char, .char, .char], some (.array .char)⟩ := by decide +kernel
theorem pd___C_V : parseMethodDescriptor "([C)V" = some ⟨[(.array .char)], none⟩ := by decide +kernel
theorem pd__Ljava_lang_String__Ljava_lang_String_ : parseMethodDescriptor "(Ljava/lang/String;)Ljava/lang/String;" = some ⟨[(.object "java/lang/String")], some (.object "java/lang/String")⟩ := by decide +kernel
theorem pd__Ljava_lang_Object__Z : parseMethodDescriptor "(Ljava/lang/Object;)Z" = some ⟨[(.object "java/lang/Object")], some .boolean⟩ := by decide +kernel
theorem ef_rmLaw (m : MethodId) (x0 : Int32) (x1 : Int32) (x2 : Int32) : entryFrame m #[(.int x0), (.int x1), (.int x2)] maxLocals = mkF m 0 #[.val (.int x0), .val (.int x1), .val (.int x2), .unset, .unset, .unset, .unset, .unset, .unset, .unset] [] := by first | (simp [entryFrame, mkF, argsToLocals, Value.category, maxLocals]; done) | rfl
def Q_rmLaw (Z : State) (len : Int32) (ab : Int32) (cc_ : Int32) (cst : Int32) (fmt : Value) (h0 : Heap) (n0 : Nat) (v : Option Value) (h : Heap) (L : List Loc) : Prop := v = some (.int 1) ∧ Fr n0 L
set_option maxRecDepth 65536 in
set_option maxHeartbeats 40000000 in
theorem rmLaw (l : Launch) (Z : State) (a0 : Array Value) (hw : HW Z a0) (ws : List Jvm.Cond) (len : Int32) (ab : Int32) (cc_ : Int32) (cst : Int32) (fmt : Value) (h0 : Heap) (n0 : Nat) (Z0 : n0 ≤ h0.size) (I1 : Sta Z Z.heap cS cC "Z" (.int cst)) (I2 : Sta Z Z.heap cU cD "Z" (.int (1 : Int32))) (I3 : Sta Z Z.heap cU cH "I" (.int (0 : Int32))) (I4 : Sta Z Z.heap cU cL "I" (.int (8 : Int32))) (hfmt : fmt.isRef = true) (I5 : Sta Z Z.heap cP cG cF fmt) (OX : Old Z n0 h0) (hcst : ¬ (cst = (0 : Int32))) :
    MetFree l x (head1 (Jvm.Cond.code x code maxLocals ret :: ws) room_1) (fun ar_ U => ar_ = #[(.int len), (.int ab), (.int cc_)] ∧ Z.Warmed39 U.vm ∧ U.heap = h0 ∧ CHv Z ELs U.vm h0) (fun _ _ _ _ _ => True) (fun _ U oc_ U' => ∃ v L, oc_ = .returned v ∧ Q_rmLaw Z len ab cc_ cst fmt h0 n0 v U'.heap L ∧ CHr Z ELs U.vm U.heap U'.vm U'.heap ∧ ReturnedEndW U oc_ U' L room_1.cells room_1.slots) := by
  refine MetFree.of_bodySF (plainFor_of_name pn_io_dyeline_store_LayoutSetsPartPinLaw) hisR ?_
  intro p e s m args below meth c s₁ Bd hml0 hP hK
  obtain ⟨rfl, hZ, hh, hCH⟩ := hP
  have hx := Bd.exec
  have hy := Bd.bytes
  have hml : c.maxLocals = 10 := hml0
  have hown : s.vm.findClass "io/dyeline/store/LayoutSetsPartPinLaw" = some m.cls := findClass_of_methodNamed Bd.named
  have hnm := (name_of_methodNamed Bd.named Bd.method).1
  have X0 : Stand p l e room_1 (s.setVm s.vm) m #[(.int len), (.int ab), (.int cc_)] below meth c s₁ [] 0 0 := Stand.of_body Bd
  have e0 : s₁.heap = h0 := by rw [← hh, Bd.state]; rfl
  have N0 := Fr.nil n0
  have pre0 := own_pre (p := p) (e := e) (below := below) (T := s₁) (ef_rmLaw m len ab cc_)
  have hEL : EW Z a0 ELs := own_EW hw
  have wS : ∀ a ∈ Bundle.stringAtoms, a.before a0 Z = true := own_wS hw
  have hS : s.Since s.vm s.heap.size := (State.WarmedH.refl s).since _
  have hk : s.heap.size ≤ h0.size := by rw [hh]; exact Nat.le_refl _
  have CR : CHr Z ELs s.vm h0 s.vm h0 := CHr.refl hCH
  obtain ⟨nn, hnn, hnl⟩ := own_and3 len
  obtain ⟨q1, hq1⟩ : ∃ z : Int32, z = (i2c (ushr ab (16 : Int32))) := ⟨_, rfl⟩
  have s2 : ∀ t_, Steps p.tables e below (s₁.setTop (mkF m 36 #[.val (.int len), .val (.int ab), .val (.int cc_), .val (.int (Int32.ofNat nn)), .val (.int (i2c ab)), .val (.int q1), .val (.int (i2c cc_)), .unset, .unset, .unset] [(.int (110 : Int32)), (.int (111 : Int32)), (.int (115 : Int32)), (.int (106 : Int32)), (.int (46 : Int32)), (.int (i2c cc_)), (.int q1), (.int (i2c ab)), (.int (Int32.ofNat nn))])) t_ → Steps _ _ _ _ t_ := fun t_ k_ => pre0 t_ (by
    refine XS.iloadN X0.here hx rfl (dd hy at_0) rfl ?_
    refine XS.iconst X0.here hx rfl (dd hy at_1) ?_
    refine XS.iand X0.here hx rfl (dd hy at_2) rfl ?_
    refine XS.istoreN X0.here hx rfl (dd hy at_3) rfl (l' := #[.val (.int len), .val (.int ab), .val (.int cc_), .val (.int (len &&& (3 : Int32))), .unset, .unset, .unset, .unset, .unset, .unset]) rfl ?_
    refine XS.iloadN X0.here hx rfl (dd hy at_4) rfl ?_
    refine XS.i2c X0.here hx rfl (dd hy at_5) rfl ?_
    show Steps _ _ _ (s₁.setTop (mkF m 6 #[.val (.int len), .val (.int ab), .val (.int cc_), .val (.int (len &&& (3 : Int32))), .unset, .unset, .unset, .unset, .unset, .unset] [(.int (i2c ab))])) _
    refine XS.istore X0.here hx rfl (dd hy at_6) rfl (l' := #[.val (.int len), .val (.int ab), .val (.int cc_), .val (.int (len &&& (3 : Int32))), .val (.int (i2c ab)), .unset, .unset, .unset, .unset, .unset]) rfl ?_
    refine XS.iloadN X0.here hx rfl (dd hy at_8) rfl ?_
    refine XS.bipush X0.here hx rfl (dd hy at_9) ?_
    refine XS.iushr X0.here hx rfl (dd hy at_11) rfl ?_
    refine XS.i2c X0.here hx rfl (dd hy at_12) rfl ?_
    refine XS.istore X0.here hx rfl (dd hy at_13) rfl (l' := #[.val (.int len), .val (.int ab), .val (.int cc_), .val (.int (len &&& (3 : Int32))), .val (.int (i2c ab)), .val (.int (i2c (ushr ab (16 : Int32)))), .unset, .unset, .unset, .unset]) rfl ?_
    show Steps _ _ _ (s₁.setTop (mkF m 15 #[.val (.int len), .val (.int ab), .val (.int cc_), .val (.int (len &&& (3 : Int32))), .val (.int (i2c ab)), .val (.int (i2c (ushr ab (16 : Int32)))), .unset, .unset, .unset, .unset] [])) _
    refine XS.iloadN X0.here hx rfl (dd hy at_15) rfl ?_
    refine XS.i2c X0.here hx rfl (dd hy at_16) rfl ?_
    refine XS.istore X0.here hx rfl (dd hy at_17) rfl (l' := #[.val (.int len), .val (.int ab), .val (.int cc_), .val (.int (len &&& (3 : Int32))), .val (.int (i2c ab)), .val (.int (i2c (ushr ab (16 : Int32)))), .val (.int (i2c cc_)), .unset, .unset, .unset]) rfl ?_
    refine XS.iloadN X0.here hx rfl (dd hy at_19) rfl ?_
    refine XS.iload X0.here hx rfl (dd hy at_20) rfl ?_
    refine XS.iload X0.here hx rfl (dd hy at_22) rfl ?_
    show Steps _ _ _ (s₁.setTop (mkF m 24 #[.val (.int len), .val (.int ab), .val (.int cc_), .val (.int (len &&& (3 : Int32))), .val (.int (i2c ab)), .val (.int (i2c (ushr ab (16 : Int32)))), .val (.int (i2c cc_)), .unset, .unset, .unset] [(.int (i2c (ushr ab (16 : Int32)))), (.int (i2c ab)), (.int (len &&& (3 : Int32)))])) _
    refine XS.iload X0.here hx rfl (dd hy at_24) rfl ?_
    refine XS.bipush X0.here hx rfl (dd hy at_26) ?_
    refine XS.bipush X0.here hx rfl (dd hy at_28) ?_
    refine XS.bipush X0.here hx rfl (dd hy at_30) ?_
    refine XS.bipush X0.here hx rfl (dd hy at_32) ?_
    refine XS.bipush X0.here hx rfl (dd hy at_34) ?_
    show Steps _ _ _ (s₁.setTop (mkF m 36 #[.val (.int len), .val (.int ab), .val (.int cc_), .val (.int (len &&& (3 : Int32))), .val (.int (i2c ab)), .val (.int (i2c (ushr ab (16 : Int32)))), .val (.int (i2c cc_)), .unset, .unset, .unset] [(.int (110 : Int32)), (.int (111 : Int32)), (.int (115 : Int32)), (.int (106 : Int32)), (.int (46 : Int32)), (.int (i2c cc_)), (.int (i2c (ushr ab (16 : Int32)))), (.int (i2c ab)), (.int (len &&& (3 : Int32)))])) _
    exact castTop (by simp only [hnn, hq1]) k_)
  have Zc3 : n0 ≤ h0.size := by omega
  obtain ⟨_, _, ⟨T4, L4, k4, n4⟩, -, X4, ⟨Lc4, hQ4, l4, y4, z4⟩, st4⟩ := Jvm.LawKit.callS X0 hx (y := M50_) hown (mvT hZ (own_m hw 0 rfl)) (mvT hZ (own_m hw 1 rfl)) (mvT hZ (own_m hw 2 rfl)) (mvT hZ (own_m hw 3 rfl)) (by decide) (backOf (W := 0) (rmMk l Z a0 hw [] (i2c ab) q1 (i2c cc_) (46 : Int32) (106 : Int32) (115 : Int32) (111 : Int32) (110 : Int32) nn h0 n0 Zc3 hnl (own_rng (q := (i2c ab)) rfl).1 (own_rng (q := (i2c ab)) rfl).2 (own_rng hq1).1 (own_rng hq1).2 (own_rng (q := (i2c cc_)) rfl).1 (own_rng (q := (i2c cc_)) rfl).2 (by first | assumption | omega | rfl | decide) (by first | assumption | omega | rfl | decide) (by first | assumption | omega | rfl | decide) (by first | assumption | omega | rfl | decide) (by first | assumption | omega | rfl | decide) (by first | assumption | omega | rfl | decide) (by first | assumption | omega | rfl | decide) (by first | assumption | omega | rfl | decide) (by first | assumption | omega | rfl | decide) (by first | assumption | omega | rfl | decide)) hZ (own_m hw 3 rfl) (own_m hw 2 rfl) (by decide) (by decide)) (g := (mkF m 36 #[.val (.int len), .val (.int ab), .val (.int cc_), .val (.int (Int32.ofNat nn)), .val (.int (i2c ab)), .val (.int q1), .val (.int (i2c cc_)), .unset, .unset, .unset] [(.int (110 : Int32)), (.int (111 : Int32)), (.int (115 : Int32)), (.int (106 : Int32)), (.int (46 : Int32)), (.int (i2c cc_)), (.int q1), (.int (i2c ab)), (.int (Int32.ofNat nn))])) rfl (by rw [hml]; rfl) (argsL := [(.int (Int32.ofNat nn)), (.int (i2c ab)), (.int q1), (.int (i2c cc_)), (.int (46 : Int32)), (.int (106 : Int32)), (.int (115 : Int32)), (.int (111 : Int32)), (.int (110 : Int32))]) (rest := []) (lenOf pd__ICCCCCCCC__C rfl) rfl (by show 2 * 0 + _ ≤ _; exact Nat.le_of_eq rfl) (dd hy at_36) (fun _ _ => ⟨rfl, e0, (by decide : 0 + 1 ≤ _), (by decide : 0 + 8 ≤ _)⟩)
  dsimp only [Pt.U, Pt.locs, Pt.cells, Pt.slots] at X4 l4 y4 z4 st4 hQ4
  subst l4 y4 z4
  obtain ⟨b_4, kb_4, rfl, N4q, K4, Fq4_0, P4_0⟩ := hQ4
  have N4 := Fr.app N0 N4q
  obtain ⟨h4, e4⟩ : ∃ z, T4.heap = z := ⟨_, rfl⟩
  rw [e4] at K4 Fq4_0
  have z5 : h0.size ≤ h4.size := K4.1
  have Cp5 : CHr Z ELs s.vm h0 s.vm h4 := CHr.keep K4 sf0 CR.1
  have hk := Nat.le_trans hk z5
  have CR := CR.trans Cp5
  have lt4_0 : @LT.lt Nat _ b_4 h4.size := Fq4_0.lt
  obtain ⟨xs6, hxs6⟩ : ∃ z : List Int32, z = (own_mk nn (i2c ab) q1 (i2c cc_) ++ [(46 : Int32), (106 : Int32), (115 : Int32), (111 : Int32), (110 : Int32)]) := ⟨_, rfl⟩
  have lxs6 : xs6.length = nn + 5 := by rw [hxs6]; exact own_mklen hnl rfl
  have V6 : Arv Z h4 b_4 kb_4 .char (Int32.ofNat xs6.length) (xs6.map Value.int) v0_ := by rw [lxs6, hxs6]; exact Fq4_0
  have s7 : ∀ t_, Steps p.tables e below (T4.setTop (mkF m 58 #[.val (.int len), .val (.int ab), .val (.int cc_), .val (.int (Int32.ofNat nn)), .val (.int (i2c ab)), .val (.int q1), .val (.int (i2c cc_)), .val (.ref b_4), .unset, .unset] [(.int (115 : Int32)), (.int (116 : Int32)), (.int (101 : Int32)), (.int (115 : Int32)), (.int (46 : Int32)), (.int (i2c cc_)), (.int q1), (.int (i2c ab)), (.int (Int32.ofNat nn))])) t_ → Steps _ _ _ _ t_ := fun t_ k_ => s2 t_ (by
    refine st4 _ ?_
    show Steps _ _ _ (T4.setTop (mkF m 39 #[.val (.int len), .val (.int ab), .val (.int cc_), .val (.int (Int32.ofNat nn)), .val (.int (i2c ab)), .val (.int q1), .val (.int (i2c cc_)), .unset, .unset, .unset] [(.ref b_4)])) _
    refine XS.astore X4.here hx rfl (dd hy at_39) rfl rfl (l' := #[.val (.int len), .val (.int ab), .val (.int cc_), .val (.int (Int32.ofNat nn)), .val (.int (i2c ab)), .val (.int q1), .val (.int (i2c cc_)), .val (.ref b_4), .unset, .unset]) rfl ?_
    refine XS.iloadN X4.here hx rfl (dd hy at_41) rfl ?_
    refine XS.iload X4.here hx rfl (dd hy at_42) rfl ?_
    refine XS.iload X4.here hx rfl (dd hy at_44) rfl ?_
    refine XS.iload X4.here hx rfl (dd hy at_46) rfl ?_
    refine XS.bipush X4.here hx rfl (dd hy at_48) ?_
    show Steps _ _ _ (T4.setTop (mkF m 50 #[.val (.int len), .val (.int ab), .val (.int cc_), .val (.int (Int32.ofNat nn)), .val (.int (i2c ab)), .val (.int q1), .val (.int (i2c cc_)), .val (.ref b_4), .unset, .unset] [(.int (46 : Int32)), (.int (i2c cc_)), (.int q1), (.int (i2c ab)), (.int (Int32.ofNat nn))])) _
    refine XS.bipush X4.here hx rfl (dd hy at_50) ?_
    refine XS.bipush X4.here hx rfl (dd hy at_52) ?_
    refine XS.bipush X4.here hx rfl (dd hy at_54) ?_
    refine XS.bipush X4.here hx rfl (dd hy at_56) ?_
    exact k_)
  have Zc8 : n0 ≤ h4.size := by omega
  obtain ⟨_, _, ⟨T9, L9, k9, n9⟩, -, X9, ⟨Lc9, hQ9, l9, y9, z9⟩, st9⟩ := Jvm.LawKit.callS X4 hx (y := M50_) hown (mvT hZ (own_m hw 0 rfl)) (mvT hZ (own_m hw 1 rfl)) (mvT hZ (own_m hw 2 rfl)) (mvT hZ (own_m hw 3 rfl)) (by decide) (backOf (W := 0) (rmMk l Z a0 hw [] (i2c ab) q1 (i2c cc_) (46 : Int32) (115 : Int32) (101 : Int32) (116 : Int32) (115 : Int32) nn h4 n0 Zc8 hnl (own_rng (q := (i2c ab)) rfl).1 (own_rng (q := (i2c ab)) rfl).2 (own_rng hq1).1 (own_rng hq1).2 (own_rng (q := (i2c cc_)) rfl).1 (own_rng (q := (i2c cc_)) rfl).2 (by first | assumption | omega | rfl | decide) (by first | assumption | omega | rfl | decide) (by first | assumption | omega | rfl | decide) (by first | assumption | omega | rfl | decide) (by first | assumption | omega | rfl | decide) (by first | assumption | omega | rfl | decide) (by first | assumption | omega | rfl | decide) (by first | assumption | omega | rfl | decide) (by first | assumption | omega | rfl | decide) (by first | assumption | omega | rfl | decide)) hZ (own_m hw 3 rfl) (own_m hw 2 rfl) (by decide) (by decide)) (g := (mkF m 58 #[.val (.int len), .val (.int ab), .val (.int cc_), .val (.int (Int32.ofNat nn)), .val (.int (i2c ab)), .val (.int q1), .val (.int (i2c cc_)), .val (.ref b_4), .unset, .unset] [(.int (115 : Int32)), (.int (116 : Int32)), (.int (101 : Int32)), (.int (115 : Int32)), (.int (46 : Int32)), (.int (i2c cc_)), (.int q1), (.int (i2c ab)), (.int (Int32.ofNat nn))])) rfl (by rw [hml]; rfl) (argsL := [(.int (Int32.ofNat nn)), (.int (i2c ab)), (.int q1), (.int (i2c cc_)), (.int (46 : Int32)), (.int (115 : Int32)), (.int (101 : Int32)), (.int (116 : Int32)), (.int (115 : Int32))]) (rest := []) (lenOf pd__ICCCCCCCC__C rfl) rfl (by show 2 * 0 + _ ≤ _; exact Nat.le_of_eq rfl) (dd hy at_58) (fun _ _ => ⟨rfl, e4, (by decide : 1 + 1 ≤ _), (by decide : 8 + 8 ≤ _)⟩)
  dsimp only [Pt.U, Pt.locs, Pt.cells, Pt.slots] at X9 l9 y9 z9 st9 hQ9
  subst l9 y9 z9
  obtain ⟨b_9, kb_9, rfl, N9q, K9, Fq9_0, P9_0⟩ := hQ9
  have N9 := Fr.app N4 N9q
  obtain ⟨h9, e9⟩ : ∃ z, T9.heap = z := ⟨_, rfl⟩
  rw [e9] at K9 Fq9_0
  have z10 : h4.size ≤ h9.size := K9.1
  have Cp10 : CHr Z ELs s.vm h4 s.vm h9 := CHr.keep K9 sf0 CR.1
  have hk := Nat.le_trans hk z10
  have CR := CR.trans Cp10
  have lt9_0 : @LT.lt Nat _ b_9 h9.size := Fq9_0.lt
  obtain ⟨xs11, hxs11⟩ : ∃ z : List Int32, z = (own_mk nn (i2c ab) q1 (i2c cc_) ++ [(46 : Int32), (115 : Int32), (101 : Int32), (116 : Int32), (115 : Int32)]) := ⟨_, rfl⟩
  have lxs11 : xs11.length = nn + 5 := by rw [hxs11]; exact own_mklen hnl rfl
  have V11 : Arv Z h9 b_9 kb_9 .char (Int32.ofNat xs11.length) (xs11.map Value.int) v0_ := by rw [lxs11, hxs11]; exact Fq9_0
  obtain ⟨T12, h12, X12, e12, E12, A12, D12, -, st12⟩ := newO X9 hx hZ hown (own_m hw 5 rfl) (own_m hw 6 rfl) (own_m hw 7 rfl) e9 (g := (mkF m 63 #[.val (.int len), .val (.int ab), .val (.int cc_), .val (.int (Int32.ofNat nn)), .val (.int (i2c ab)), .val (.int q1), .val (.int (i2c cc_)), .val (.ref b_4), .val (.ref b_9), .unset] [])) rfl (dd hy at_63) (by decide) (by decide)
  obtain ⟨b12, g12⟩ : ∃ z, z = h9.size := ⟨_, rfl⟩
  rw [← g12] at A12 D12 st12
  have z13 : h9.size ≤ h12.size := E12.1
  have Sf14 : Safe Z ELs s.vm h12 b12 := Safe.ext E12 CR.1 (Safe.new (by omega))
  have Cp13 : CHr Z ELs s.vm h9 s.vm h12 := CHr.ext E12 CR.1
  have hk := Nat.le_trans hk z13
  have CR := CR.trans Cp13
  have l12 : b12 < h12.size := A12.lt
  have F15 : Fld Z h12 b12 cS "coder" "B" (.int (0 : Int32)) := D12 (Or.inr (own_m hw 31 rfl)) (ty := .byte) (by decide)
  have F16 : Fld Z h12 b12 cS "value" "[B" .null := D12 (Or.inr (own_m hw 33 rfl)) (ty := (.array .byte)) (by decide)
  have s17 : ∀ t_, Steps p.tables e below (T12.setTop (mkF m 69 #[.val (.int len), .val (.int ab), .val (.int cc_), .val (.int (Int32.ofNat nn)), .val (.int (i2c ab)), .val (.int q1), .val (.int (i2c cc_)), .val (.ref b_4), .val (.ref b_9), .unset] [(.ref b_4), (.ref b12), (.ref b12)])) t_ → Steps _ _ _ _ t_ := fun t_ k_ => s7 t_ (by
    refine st9 _ ?_
    show Steps _ _ _ (T9.setTop (mkF m 61 #[.val (.int len), .val (.int ab), .val (.int cc_), .val (.int (Int32.ofNat nn)), .val (.int (i2c ab)), .val (.int q1), .val (.int (i2c cc_)), .val (.ref b_4), .unset, .unset] [(.ref b_9)])) _
    refine XS.astore X9.here hx rfl (dd hy at_61) rfl rfl (l' := #[.val (.int len), .val (.int ab), .val (.int cc_), .val (.int (Int32.ofNat nn)), .val (.int (i2c ab)), .val (.int q1), .val (.int (i2c cc_)), .val (.ref b_4), .val (.ref b_9), .unset]) rfl ?_
    refine st12 _ ?_
    refine XS.dup X12.here hx rfl (dd hy at_66) rfl rfl ?_
    refine XS.aload X12.here hx rfl (dd hy at_67) rfl rfl ?_
    exact k_)
  have O18 : Old Z n0 h12 := (((OX.keep K4 all0).keep K9 all0).ext E12)
  have f19 : Arv Z h12 b_4 kb_4 .char (Int32.ofNat xs6.length) (xs6.map Value.int) v0_ := ((V6.keep K9 nin0).ext E12)
  have Zc20 : n0 ≤ h12.size := by omega
  obtain ⟨_, _, ⟨T21, L21, k21, n21⟩, -, X21, ⟨Lc21, hQ21, l21, y21, z21⟩, st21⟩ := X12.specialBack hx (y := M9_) rfl hown (mvT hZ (own_m hw 8 rfl)) (mvT hZ (own_m hw 9 rfl)) (mvT hZ (own_m hw 10 rfl)) (by decide) (backOf (W := 1) (rmIni1 l Z a0 hw [] b12 b_4 cst xs6 kb_4 xs6.length h12 n0 Zc20 I1 I2 I3 I4 O18 hcst A12 F16 F15 f19 rfl (by omega) (by omega) (by rw [hxs6]; exact own_chsapp (own_mkchs hnl (own_rng (q := (i2c ab)) rfl) (own_rng hq1) (own_rng (q := (i2c cc_)) rfl)) (by decide)) (by first | assumption | omega | rfl | decide) (by first | assumption | omega | rfl | decide)) hZ (own_m hw 10 rfl) (own_m hw 7 rfl) (by decide) (by decide)) (g := (mkF m 69 #[.val (.int len), .val (.int ab), .val (.int cc_), .val (.int (Int32.ofNat nn)), .val (.int (i2c ab)), .val (.int q1), .val (.int (i2c cc_)), .val (.ref b_4), .val (.ref b_9), .unset] [(.ref b_4), (.ref b12), (.ref b12)])) rfl (by rw [hml]; rfl) (Steps.refl _) (a := b12) (argsL := [(.ref b_4)]) (rest := [(.ref b12)]) (lenOf pd___C_V rfl) rfl (by show 2 * 0 + _ ≤ _; exact Nat.le_of_eq rfl) (dd hy at_69) (fun _ _ => ⟨rfl, e12, (by decide : 3 + 2 ≤ _), (by decide : 20 + 48 ≤ _)⟩)
  dsimp only [Pt.U, Pt.locs, Pt.cells, Pt.slots] at X21 l21 y21 z21 st21 hQ21
  subst l21 y21 z21
  obtain ⟨b_21, kb_21, rfl, N21q, K21, Fq21_0, Fq21_1, Fq21_2, Fq21_3, P21_0⟩ := hQ21
  have N21 := Fr.app N9 N21q
  obtain ⟨h21, e21⟩ : ∃ z, T21.heap = z := ⟨_, rfl⟩
  rw [e21] at K21 Fq21_0 Fq21_1 Fq21_2 Fq21_3
  have z22 : h12.size ≤ h21.size := K21.1
  have Cp22 : CHr Z ELs s.vm h12 s.vm h21 := CHr.keep K21 (sfS Sf14 sf0) CR.1
  have hk := Nat.le_trans hk z22
  have CR := CR.trans Cp22
  have lt21_0 : @LT.lt Nat _ b12 h21.size := Fq21_0.lt
  have lt21_3 : @LT.lt Nat _ b_21 h21.size := Fq21_3.lt
  have s23 : ∀ t_, Steps p.tables e below (T21.setTop (mkF m 72 #[.val (.int len), .val (.int ab), .val (.int cc_), .val (.int (Int32.ofNat nn)), .val (.int (i2c ab)), .val (.int q1), .val (.int (i2c cc_)), .val (.ref b_4), .val (.ref b_9), .unset] [(.ref b12)])) t_ → Steps _ _ _ _ t_ := fun t_ k_ => s17 t_ (by
    refine st21.trans ?_
    show Steps _ _ _ (T21.setTop (mkF m 72 #[.val (.int len), .val (.int ab), .val (.int cc_), .val (.int (Int32.ofNat nn)), .val (.int (i2c ab)), .val (.int q1), .val (.int (i2c cc_)), .val (.ref b_4), .val (.ref b_9), .unset] [(.ref b12)])) _
    exact k_)
  by_cases h24 : own_lat xs6
  · have s25 : ∀ t_, Steps p.tables e below (T21.setTop (mkF m 72 #[.val (.int len), .val (.int ab), .val (.int cc_), .val (.int (Int32.ofNat nn)), .val (.int (i2c ab)), .val (.int q1), .val (.int (i2c cc_)), .val (.ref b_4), .val (.ref b_9), .unset] [(.ref b12)])) t_ → Steps p.tables e below (s₁.setTop (entryFrame m #[(.int len), (.int ab), (.int cc_)] maxLocals)) t_ := fun t_ k_ => s23 t_ (castTop (by rfl) k_)
    have O26 : Old Z n0 h21 := (O18.keep K21 (allS (show n0 ≤ b12 by omega) all0))
    have Zc27 : n0 ≤ h21.size := by omega
    obtain ⟨_, _, ⟨T28, L28, k28, n28⟩, -, Xr28, hSr28, hg28, ⟨Lc28, hQ28, l28, y28, z28, Cp28⟩, st28⟩ := callSS X21 hx (y := M49_) hown (mvT hZ (own_m hw 34 rfl)) (mvT hZ (own_m hw 35 rfl)) (mvT hZ (own_m hw 36 rfl)) (mvT hZ (own_m hw 37 rfl)) (by decide) (backOfSH (s := s) (vm0 := s.vm) (W := 0) (rmSPL l Z a0 hw [] b12 cst b_21 kb_21 xs6 fmt h21 n0 Zc27 I1 I2 I3 I4 hfmt I5 O26 hcst Fq21_0 Fq21_1 Fq21_2 Fq21_3 h24 (by omega) (by omega)) hZ (own_m hw 37 rfl) (own_m hw 36 rfl) (by decide) (by decide) hEL CR.1) (g := (mkF m 72 #[.val (.int len), .val (.int ab), .val (.int cc_), .val (.int (Int32.ofNat nn)), .val (.int (i2c ab)), .val (.int q1), .val (.int (i2c cc_)), .val (.ref b_4), .val (.ref b_9), .unset] [(.ref b12)])) rfl (by rw [hml]; rfl) (argsL := [(.ref b12)]) (rest := []) (lenOf pd__Ljava_lang_String__Ljava_lang_String_ rfl) rfl (by show 2 * 0 + _ ≤ _; exact Nat.le_of_eq rfl) (dd hy at_72) (fun _ _ => ⟨rfl, e21, (by decide : 5 + 10 ≤ _), (by decide : 68 + 140 ≤ _)⟩)
    dsimp only [Pt.U, Pt.locs, Pt.cells, Pt.slots] at Xr28 hSr28 hg28 l28 y28 z28 st28 hQ28 Cp28
    subst l28 y28 z28
    obtain ⟨X28, hS, hZ, hown⟩ := rebS (own := "io/dyeline/store/LayoutSetsPartPinLaw") hS (by first | exact Nat.le_refl _ | (rw [e21]; exact hk)) Xr28 hSr28 hg28 hZ hown
    obtain ⟨a_28, b_28, kb_28, rfl, N28q, K28, Fq28_0, Fq28_1, Fq28_2, Fq28_3, P28_0⟩ := hQ28
    have N28 := Fr.app N21 N28q
    obtain ⟨h28, e28⟩ : ∃ z, T28.heap = z := ⟨_, rfl⟩
    rw [e28] at K28 Fq28_0 Fq28_1 Fq28_2 Fq28_3 Cp28
    have hk : T28.heap.size ≤ h28.size := Nat.le_of_eq (congrArg Array.size e28)
    have z29 : h21.size ≤ h28.size := K28.1
    have CR := CR.trans Cp28
    have lt28_0 : @LT.lt Nat _ a_28 h28.size := Fq28_0.lt
    have lt28_3 : @LT.lt Nat _ b_28 h28.size := Fq28_3.lt
    obtain ⟨T30, h30, X30, e30, E30, A30, D30, -, st30⟩ := newO X28 hx hZ hown (own_m hw 5 rfl) (own_m hw 6 rfl) (own_m hw 7 rfl) e28 (g := (mkF m 79 #[.val (.int len), .val (.int ab), .val (.int cc_), .val (.int (Int32.ofNat nn)), .val (.int (i2c ab)), .val (.int q1), .val (.int (i2c cc_)), .val (.ref b_4), .val (.ref b_9), .val (.ref a_28)] [(.ref a_28)])) rfl (dd hy at_79) (by decide) (by decide)
    obtain ⟨b30, g30⟩ : ∃ z, z = h28.size := ⟨_, rfl⟩
    rw [← g30] at A30 D30 st30
    have z31 : h28.size ≤ h30.size := E30.1
    have Sf32 : Safe Z ELs T28.vm h30 b30 := Safe.ext E30 CR.1 (Safe.new (by omega))
    have Cp31 : CHr Z ELs T28.vm h28 T28.vm h30 := CHr.ext E30 CR.1
    have hk := Nat.le_trans hk z31
    have CR := CR.trans Cp31
    have l30 : b30 < h30.size := A30.lt
    have F33 : Fld Z h30 b30 cS "coder" "B" (.int (0 : Int32)) := D30 (Or.inr (own_m hw 31 rfl)) (ty := .byte) (by decide)
    have F34 : Fld Z h30 b30 cS "value" "[B" .null := D30 (Or.inr (own_m hw 33 rfl)) (ty := (.array .byte)) (by decide)
    have s35 : ∀ t_, Steps p.tables e below (T30.setTop (mkF m 85 #[.val (.int len), .val (.int ab), .val (.int cc_), .val (.int (Int32.ofNat nn)), .val (.int (i2c ab)), .val (.int q1), .val (.int (i2c cc_)), .val (.ref b_4), .val (.ref b_9), .val (.ref a_28)] [(.ref b_9), (.ref b30), (.ref b30), (.ref a_28)])) t_ → Steps _ _ _ _ t_ := fun t_ k_ => s25 t_ (by
      refine st28.trans ?_
      show Steps _ _ _ (T28.setTop (mkF m 75 #[.val (.int len), .val (.int ab), .val (.int cc_), .val (.int (Int32.ofNat nn)), .val (.int (i2c ab)), .val (.int q1), .val (.int (i2c cc_)), .val (.ref b_4), .val (.ref b_9), .unset] [(.ref a_28)])) _
      refine XS.astore X28.here hx rfl (dd hy at_75) rfl rfl (l' := #[.val (.int len), .val (.int ab), .val (.int cc_), .val (.int (Int32.ofNat nn)), .val (.int (i2c ab)), .val (.int q1), .val (.int (i2c cc_)), .val (.ref b_4), .val (.ref b_9), .val (.ref a_28)]) rfl ?_
      refine XS.aload X28.here hx rfl (dd hy at_77) rfl rfl ?_
      refine st30 _ ?_
      refine XS.dup X30.here hx rfl (dd hy at_82) rfl rfl ?_
      refine XS.aload X30.here hx rfl (dd hy at_83) rfl rfl ?_
      exact k_)
    have O36 : Old Z n0 h30 := ((O26.keep K28 all0).ext E30)
    have f37 : Arv Z h30 b_9 kb_9 .char (Int32.ofNat xs11.length) (xs11.map Value.int) v0_ := ((((V11.ext E12).keep K21 (ninS (show @Ne Nat b_9 b12 by omega) nin0)).keep K28 nin0).ext E30)
    have Zc38 : n0 ≤ h30.size := by omega
    obtain ⟨_, _, ⟨T39, L39, k39, n39⟩, -, X39, ⟨Lc39, hQ39, l39, y39, z39⟩, st39⟩ := X30.specialBack hx (y := M9_) rfl hown (mvT hZ (own_m hw 8 rfl)) (mvT hZ (own_m hw 9 rfl)) (mvT hZ (own_m hw 10 rfl)) (by decide) (backOf (W := 2) (rmIni1 l Z a0 hw [] b30 b_9 cst xs11 kb_9 xs11.length h30 n0 Zc38 I1 I2 I3 I4 O36 hcst A30 F34 F33 f37 rfl (by omega) (by omega) (by rw [hxs11]; exact own_chsapp (own_mkchs hnl (own_rng (q := (i2c ab)) rfl) (own_rng hq1) (own_rng (q := (i2c cc_)) rfl)) (by decide)) (by first | assumption | omega | rfl | decide) (by first | assumption | omega | rfl | decide)) hZ (own_m hw 10 rfl) (own_m hw 7 rfl) (by decide) (by decide)) (g := (mkF m 85 #[.val (.int len), .val (.int ab), .val (.int cc_), .val (.int (Int32.ofNat nn)), .val (.int (i2c ab)), .val (.int q1), .val (.int (i2c cc_)), .val (.ref b_4), .val (.ref b_9), .val (.ref a_28)] [(.ref b_9), (.ref b30), (.ref b30), (.ref a_28)])) rfl (by rw [hml]; rfl) (Steps.refl _) (a := b30) (argsL := [(.ref b_9)]) (rest := [(.ref b30), (.ref a_28)]) (lenOf pd___C_V rfl) rfl (by show 2 * 0 + _ ≤ _; exact Nat.le_of_eq rfl) (dd hy at_85) (fun _ _ => ⟨rfl, e30, (by decide : 16 + 2 ≤ _), (by decide : 212 + 48 ≤ _)⟩)
    dsimp only [Pt.U, Pt.locs, Pt.cells, Pt.slots] at X39 l39 y39 z39 st39 hQ39
    subst l39 y39 z39
    obtain ⟨b_39, kb_39, rfl, N39q, K39, Fq39_0, Fq39_1, Fq39_2, Fq39_3, P39_0⟩ := hQ39
    have N39 := Fr.app N28 N39q
    obtain ⟨h39, e39⟩ : ∃ z, T39.heap = z := ⟨_, rfl⟩
    rw [e39] at K39 Fq39_0 Fq39_1 Fq39_2 Fq39_3
    have z40 : h30.size ≤ h39.size := K39.1
    have Cp40 : CHr Z ELs T28.vm h30 T28.vm h39 := CHr.keep K39 (sfS Sf32 sf0) CR.1
    have hk := Nat.le_trans hk z40
    have CR := CR.trans Cp40
    have lt39_0 : @LT.lt Nat _ b30 h39.size := Fq39_0.lt
    have lt39_3 : @LT.lt Nat _ b_39 h39.size := Fq39_3.lt
    have s41 : ∀ t_, Steps p.tables e below (T39.setTop (mkF m 88 #[.val (.int len), .val (.int ab), .val (.int cc_), .val (.int (Int32.ofNat nn)), .val (.int (i2c ab)), .val (.int q1), .val (.int (i2c cc_)), .val (.ref b_4), .val (.ref b_9), .val (.ref a_28)] [(.ref b30), (.ref a_28)])) t_ → Steps _ _ _ _ t_ := fun t_ k_ => s35 t_ (by
      refine st39.trans ?_
      show Steps _ _ _ (T39.setTop (mkF m 88 #[.val (.int len), .val (.int ab), .val (.int cc_), .val (.int (Int32.ofNat nn)), .val (.int (i2c ab)), .val (.int q1), .val (.int (i2c cc_)), .val (.ref b_4), .val (.ref b_9), .val (.ref a_28)] [(.ref b30), (.ref a_28)])) _
      exact k_)
    have O42 : Old Z n0 h39 := (O36.keep K39 (allS (show n0 ≤ b30 by omega) all0))
    have f43 : Exa Z h39 a_28 cS := ((Fq28_0.ext E30).keep K39)
    have f44 : Fld Z h39 a_28 cS "value" "[B" (.ref b_28) := ((Fq28_1.ext E30).keep K39 (ninS (show @Ne Nat a_28 b30 by omega) nin0))
    have f45 : Fld Z h39 a_28 cS "coder" "B" (.int (own_cod (xs6.take (xs6.length - 5) ++ own_tx1))) := ((Fq28_2.ext E30).keep K39 (ninS (show @Ne Nat a_28 b30 by omega) nin0))
    have f46 : Arv Z h39 b_28 kb_28 .byte (Int32.ofNat (own_enl (xs6.take (xs6.length - 5) ++ own_tx1))) (own_enc (xs6.take (xs6.length - 5) ++ own_tx1)) v0_ := ((Fq28_3.ext E30).keep K39 (ninS (show @Ne Nat b_28 b30 by omega) nin0))
    have Zc47 : n0 ≤ h39.size := by omega
    obtain ⟨cq48, kq48, q48a, q48b, q48c⟩ := isOf hZ e39 f43
    obtain ⟨_, _, ⟨T48, L48, k48, n48⟩, -, X48, ⟨Lc48, hQ48, l48, y48, z48⟩, st48⟩ := X39.virtualBack hx (y := M14_) (z := M14_) hown (mvT hZ (own_m hw 177 rfl)) (mvT hZ (own_m hw 178 rfl)) (notFace_of_selects (args := #[]) (mvT hZ (own_m hw 180 rfl))) (mvT hZ (own_m hw 180 rfl)) (mvT hZ (own_m hw 179 rfl)) (by decide) (backOf (W := 0) (rmSEq l Z a0 hw [] a_28 b30 cst b_28 kb_28 (xs6.take (xs6.length - 5) ++ own_tx1) b_39 kb_39 xs11 h39 n0 Zc47 I1 O42 hcst f43 f44 f45 f46 Fq39_0 Fq39_1 Fq39_2 Fq39_3 (own_neN (by omega)) (own_chsapp (own_chstake (by rw [hxs6]; exact own_chsapp (own_mkchs hnl (own_rng (q := (i2c ab)) rfl) (own_rng hq1) (own_rng (q := (i2c cc_)) rfl)) (by decide))) own_tx1_chs) (by rw [hxs11]; exact own_chsapp (own_mkchs hnl (own_rng (q := (i2c ab)) rfl) (own_rng hq1) (own_rng (q := (i2c cc_)) rfl)) (by decide)) (by rw [List.length_append, List.length_take]; show _ + 5 ≤ 15; omega) (by omega)) hZ (own_m hw 181 rfl) (own_m hw 7 rfl) (by decide) (by decide)) q48a q48c (g := (mkF m 88 #[.val (.int len), .val (.int ab), .val (.int cc_), .val (.int (Int32.ofNat nn)), .val (.int (i2c ab)), .val (.int q1), .val (.int (i2c cc_)), .val (.ref b_4), .val (.ref b_9), .val (.ref a_28)] [(.ref b30), (.ref a_28)])) rfl (by rw [hml]; rfl) (Steps.refl _) (argsL := [(.ref b30)]) (rest := []) (lenOf pd__Ljava_lang_Object__Z rfl) rfl (by show 2 * 0 + _ ≤ _; exact Nat.le_of_eq rfl) (dd hy at_88) (fun _ _ => ⟨rfl, e39, (by decide : 18 + 0 ≤ _), (by decide : 260 + 0 ≤ _)⟩)
    dsimp only [Pt.U, Pt.locs, Pt.cells, Pt.slots] at X48 l48 y48 z48 st48 hQ48
    subst l48 y48 z48
    obtain ⟨rfl, N48q, e48⟩ := hQ48
    have N48 := Fr.app N39 N48q
    obtain ⟨q49, hq49⟩ : ∃ z : Int32, z = (if (xs6.take (xs6.length - 5) ++ own_tx1) = xs11 then (1 : Int32) else (0 : Int32)) := ⟨_, rfl⟩
    rw [← hq49] at st48
    have s50 : ∀ t_, Steps p.tables e below (T48.setTop (mkF m 91 #[.val (.int len), .val (.int ab), .val (.int cc_), .val (.int (Int32.ofNat nn)), .val (.int (i2c ab)), .val (.int q1), .val (.int (i2c cc_)), .val (.ref b_4), .val (.ref b_9), .val (.ref a_28)] [(.int q49)])) t_ → Steps _ _ _ _ t_ := fun t_ k_ => s41 t_ (by
      refine st48.trans ?_
      show Steps _ _ _ (T48.setTop (mkF m 91 #[.val (.int len), .val (.int ab), .val (.int cc_), .val (.int (Int32.ofNat nn)), .val (.int (i2c ab)), .val (.int q1), .val (.int (i2c cc_)), .val (.ref b_4), .val (.ref b_9), .val (.ref a_28)] [(.int q49)])) _
      exact k_)
    obtain ⟨fs, hr, hrun, hended, hREW⟩ := X48.leaveW hS (by first | exact Nat.le_refl _ | (rw [e48]; exact hk)) (v := some (.int (nar .boolean q49))) (fun h => by rw [Bd.returns] at h; cases h)
    have hone : q49 = 1 := by
      rw [hq49, if_pos]
      rw [hxs6, hxs11]
      exact congrArg (· ++ own_tx1) (own_mkt rfl)
    refine ⟨_, _, s50 _ ?_, hrun, hended, _, _, rfl, ?_, (by show CHr Z ELs s.vm s.heap T48.vm T48.heap; rw [hh, e48]; exact CR.trans (CHv.at X48 hZ hEL CR.1)), hREW.1, hREW.2.1, hREW.2.2.1, hREW.2.2.2.mono (by decide) (by decide)⟩
    · exact retN X48 hx (t := .boolean) Bd.returns (by simp) (dd hy at_91) hr
    · show Q_rmLaw Z _ _ _ _ _ h0 n0 _ T48.heap _
      rw [e48]
      exact ⟨by rw [hone]; rfl, N48⟩
  · have s51 : ∀ t_, Steps p.tables e below (T21.setTop (mkF m 72 #[.val (.int len), .val (.int ab), .val (.int cc_), .val (.int (Int32.ofNat nn)), .val (.int (i2c ab)), .val (.int q1), .val (.int (i2c cc_)), .val (.ref b_4), .val (.ref b_9), .unset] [(.ref b12)])) t_ → Steps p.tables e below (s₁.setTop (entryFrame m #[(.int len), (.int ab), (.int cc_)] maxLocals)) t_ := fun t_ k_ => s23 t_ (castTop (by rfl) k_)
    have O52 : Old Z n0 h21 := (O18.keep K21 (allS (show n0 ≤ b12 by omega) all0))
    have Zc53 : n0 ≤ h21.size := by omega
    obtain ⟨_, _, ⟨T54, L54, k54, n54⟩, -, Xr54, hSr54, hg54, ⟨Lc54, hQ54, l54, y54, z54, Cp54⟩, st54⟩ := callSS X21 hx (y := M49_) hown (mvT hZ (own_m hw 34 rfl)) (mvT hZ (own_m hw 35 rfl)) (mvT hZ (own_m hw 36 rfl)) (mvT hZ (own_m hw 37 rfl)) (by decide) (backOfSH (s := s) (vm0 := s.vm) (W := 0) (rmSPW l Z a0 hw [] b12 cst b_21 kb_21 xs6 fmt h21 n0 Zc53 I1 I2 I3 I4 hfmt I5 O52 hcst Fq21_0 Fq21_1 Fq21_2 Fq21_3 h24 (by rw [hxs6]; exact own_nlk rfl (by decide) (by rw [← hxs6]; exact h24)) (by rw [hxs6]; exact own_chsapp (own_mkchs hnl (own_rng (q := (i2c ab)) rfl) (own_rng hq1) (own_rng (q := (i2c cc_)) rfl)) (by decide)) (by omega) (by omega)) hZ (own_m hw 37 rfl) (own_m hw 36 rfl) (by decide) (by decide) hEL CR.1) (g := (mkF m 72 #[.val (.int len), .val (.int ab), .val (.int cc_), .val (.int (Int32.ofNat nn)), .val (.int (i2c ab)), .val (.int q1), .val (.int (i2c cc_)), .val (.ref b_4), .val (.ref b_9), .unset] [(.ref b12)])) rfl (by rw [hml]; rfl) (argsL := [(.ref b12)]) (rest := []) (lenOf pd__Ljava_lang_String__Ljava_lang_String_ rfl) rfl (by show 2 * 0 + _ ≤ _; exact Nat.le_of_eq rfl) (dd hy at_72) (fun _ _ => ⟨rfl, e21, (by decide : 5 + 12 ≤ _), (by decide : 68 + 180 ≤ _)⟩)
    dsimp only [Pt.U, Pt.locs, Pt.cells, Pt.slots] at Xr54 hSr54 hg54 l54 y54 z54 st54 hQ54 Cp54
    subst l54 y54 z54
    obtain ⟨X54, hS, hZ, hown⟩ := rebS (own := "io/dyeline/store/LayoutSetsPartPinLaw") hS (by first | exact Nat.le_refl _ | (rw [e21]; exact hk)) Xr54 hSr54 hg54 hZ hown
    obtain ⟨a_54, b_54, kb_54, rfl, N54q, K54, Fq54_0, Fq54_1, Fq54_2, Fq54_3, P54_0⟩ := hQ54
    have N54 := Fr.app N21 N54q
    obtain ⟨h54, e54⟩ : ∃ z, T54.heap = z := ⟨_, rfl⟩
    rw [e54] at K54 Fq54_0 Fq54_1 Fq54_2 Fq54_3 Cp54
    have hk : T54.heap.size ≤ h54.size := Nat.le_of_eq (congrArg Array.size e54)
    have z55 : h21.size ≤ h54.size := K54.1
    have CR := CR.trans Cp54
    have lt54_0 : @LT.lt Nat _ a_54 h54.size := Fq54_0.lt
    have lt54_3 : @LT.lt Nat _ b_54 h54.size := Fq54_3.lt
    obtain ⟨T56, h56, X56, e56, E56, A56, D56, -, st56⟩ := newO X54 hx hZ hown (own_m hw 5 rfl) (own_m hw 6 rfl) (own_m hw 7 rfl) e54 (g := (mkF m 79 #[.val (.int len), .val (.int ab), .val (.int cc_), .val (.int (Int32.ofNat nn)), .val (.int (i2c ab)), .val (.int q1), .val (.int (i2c cc_)), .val (.ref b_4), .val (.ref b_9), .val (.ref a_54)] [(.ref a_54)])) rfl (dd hy at_79) (by decide) (by decide)
    obtain ⟨b56, g56⟩ : ∃ z, z = h54.size := ⟨_, rfl⟩
    rw [← g56] at A56 D56 st56
    have z57 : h54.size ≤ h56.size := E56.1
    have Sf58 : Safe Z ELs T54.vm h56 b56 := Safe.ext E56 CR.1 (Safe.new (by omega))
    have Cp57 : CHr Z ELs T54.vm h54 T54.vm h56 := CHr.ext E56 CR.1
    have hk := Nat.le_trans hk z57
    have CR := CR.trans Cp57
    have l56 : b56 < h56.size := A56.lt
    have F59 : Fld Z h56 b56 cS "coder" "B" (.int (0 : Int32)) := D56 (Or.inr (own_m hw 31 rfl)) (ty := .byte) (by decide)
    have F60 : Fld Z h56 b56 cS "value" "[B" .null := D56 (Or.inr (own_m hw 33 rfl)) (ty := (.array .byte)) (by decide)
    have s61 : ∀ t_, Steps p.tables e below (T56.setTop (mkF m 85 #[.val (.int len), .val (.int ab), .val (.int cc_), .val (.int (Int32.ofNat nn)), .val (.int (i2c ab)), .val (.int q1), .val (.int (i2c cc_)), .val (.ref b_4), .val (.ref b_9), .val (.ref a_54)] [(.ref b_9), (.ref b56), (.ref b56), (.ref a_54)])) t_ → Steps _ _ _ _ t_ := fun t_ k_ => s51 t_ (by
      refine st54.trans ?_
      show Steps _ _ _ (T54.setTop (mkF m 75 #[.val (.int len), .val (.int ab), .val (.int cc_), .val (.int (Int32.ofNat nn)), .val (.int (i2c ab)), .val (.int q1), .val (.int (i2c cc_)), .val (.ref b_4), .val (.ref b_9), .unset] [(.ref a_54)])) _
      refine XS.astore X54.here hx rfl (dd hy at_75) rfl rfl (l' := #[.val (.int len), .val (.int ab), .val (.int cc_), .val (.int (Int32.ofNat nn)), .val (.int (i2c ab)), .val (.int q1), .val (.int (i2c cc_)), .val (.ref b_4), .val (.ref b_9), .val (.ref a_54)]) rfl ?_
      refine XS.aload X54.here hx rfl (dd hy at_77) rfl rfl ?_
      refine st56 _ ?_
      refine XS.dup X56.here hx rfl (dd hy at_82) rfl rfl ?_
      refine XS.aload X56.here hx rfl (dd hy at_83) rfl rfl ?_
      exact k_)
    have O62 : Old Z n0 h56 := ((O52.keep K54 all0).ext E56)
    have f63 : Arv Z h56 b_9 kb_9 .char (Int32.ofNat xs11.length) (xs11.map Value.int) v0_ := ((((V11.ext E12).keep K21 (ninS (show @Ne Nat b_9 b12 by omega) nin0)).keep K54 nin0).ext E56)
    have Zc64 : n0 ≤ h56.size := by omega
    obtain ⟨_, _, ⟨T65, L65, k65, n65⟩, -, X65, ⟨Lc65, hQ65, l65, y65, z65⟩, st65⟩ := X56.specialBack hx (y := M9_) rfl hown (mvT hZ (own_m hw 8 rfl)) (mvT hZ (own_m hw 9 rfl)) (mvT hZ (own_m hw 10 rfl)) (by decide) (backOf (W := 2) (rmIni1 l Z a0 hw [] b56 b_9 cst xs11 kb_9 xs11.length h56 n0 Zc64 I1 I2 I3 I4 O62 hcst A56 F60 F59 f63 rfl (by omega) (by omega) (by rw [hxs11]; exact own_chsapp (own_mkchs hnl (own_rng (q := (i2c ab)) rfl) (own_rng hq1) (own_rng (q := (i2c cc_)) rfl)) (by decide)) (by first | assumption | omega | rfl | decide) (by first | assumption | omega | rfl | decide)) hZ (own_m hw 10 rfl) (own_m hw 7 rfl) (by decide) (by decide)) (g := (mkF m 85 #[.val (.int len), .val (.int ab), .val (.int cc_), .val (.int (Int32.ofNat nn)), .val (.int (i2c ab)), .val (.int q1), .val (.int (i2c cc_)), .val (.ref b_4), .val (.ref b_9), .val (.ref a_54)] [(.ref b_9), (.ref b56), (.ref b56), (.ref a_54)])) rfl (by rw [hml]; rfl) (Steps.refl _) (a := b56) (argsL := [(.ref b_9)]) (rest := [(.ref b56), (.ref a_54)]) (lenOf pd___C_V rfl) rfl (by show 2 * 0 + _ ≤ _; exact Nat.le_of_eq rfl) (dd hy at_85) (fun _ _ => ⟨rfl, e56, (by decide : 18 + 2 ≤ _), (by decide : 252 + 48 ≤ _)⟩)
    dsimp only [Pt.U, Pt.locs, Pt.cells, Pt.slots] at X65 l65 y65 z65 st65 hQ65
    subst l65 y65 z65
    obtain ⟨b_65, kb_65, rfl, N65q, K65, Fq65_0, Fq65_1, Fq65_2, Fq65_3, P65_0⟩ := hQ65
    have N65 := Fr.app N54 N65q
    obtain ⟨h65, e65⟩ : ∃ z, T65.heap = z := ⟨_, rfl⟩
    rw [e65] at K65 Fq65_0 Fq65_1 Fq65_2 Fq65_3
    have z66 : h56.size ≤ h65.size := K65.1
    have Cp66 : CHr Z ELs T54.vm h56 T54.vm h65 := CHr.keep K65 (sfS Sf58 sf0) CR.1
    have hk := Nat.le_trans hk z66
    have CR := CR.trans Cp66
    have lt65_0 : @LT.lt Nat _ b56 h65.size := Fq65_0.lt
    have lt65_3 : @LT.lt Nat _ b_65 h65.size := Fq65_3.lt
    have s67 : ∀ t_, Steps p.tables e below (T65.setTop (mkF m 88 #[.val (.int len), .val (.int ab), .val (.int cc_), .val (.int (Int32.ofNat nn)), .val (.int (i2c ab)), .val (.int q1), .val (.int (i2c cc_)), .val (.ref b_4), .val (.ref b_9), .val (.ref a_54)] [(.ref b56), (.ref a_54)])) t_ → Steps _ _ _ _ t_ := fun t_ k_ => s61 t_ (by
      refine st65.trans ?_
      show Steps _ _ _ (T65.setTop (mkF m 88 #[.val (.int len), .val (.int ab), .val (.int cc_), .val (.int (Int32.ofNat nn)), .val (.int (i2c ab)), .val (.int q1), .val (.int (i2c cc_)), .val (.ref b_4), .val (.ref b_9), .val (.ref a_54)] [(.ref b56), (.ref a_54)])) _
      exact k_)
    have O68 : Old Z n0 h65 := (O62.keep K65 (allS (show n0 ≤ b56 by omega) all0))
    have f69 : Exa Z h65 a_54 cS := ((Fq54_0.ext E56).keep K65)
    have f70 : Fld Z h65 a_54 cS "value" "[B" (.ref b_54) := ((Fq54_1.ext E56).keep K65 (ninS (show @Ne Nat a_54 b56 by omega) nin0))
    have f71 : Fld Z h65 a_54 cS "coder" "B" (.int (own_cod (xs6.take (xs6.length - 5) ++ own_tx1))) := ((Fq54_2.ext E56).keep K65 (ninS (show @Ne Nat a_54 b56 by omega) nin0))
    have f72 : Arv Z h65 b_54 kb_54 .byte (Int32.ofNat (own_enl (xs6.take (xs6.length - 5) ++ own_tx1))) (own_enc (xs6.take (xs6.length - 5) ++ own_tx1)) v0_ := ((Fq54_3.ext E56).keep K65 (ninS (show @Ne Nat b_54 b56 by omega) nin0))
    have Zc73 : n0 ≤ h65.size := by omega
    obtain ⟨cq74, kq74, q74a, q74b, q74c⟩ := isOf hZ e65 f69
    obtain ⟨_, _, ⟨T74, L74, k74, n74⟩, -, X74, ⟨Lc74, hQ74, l74, y74, z74⟩, st74⟩ := X65.virtualBack hx (y := M14_) (z := M14_) hown (mvT hZ (own_m hw 177 rfl)) (mvT hZ (own_m hw 178 rfl)) (notFace_of_selects (args := #[]) (mvT hZ (own_m hw 180 rfl))) (mvT hZ (own_m hw 180 rfl)) (mvT hZ (own_m hw 179 rfl)) (by decide) (backOf (W := 0) (rmSEq l Z a0 hw [] a_54 b56 cst b_54 kb_54 (xs6.take (xs6.length - 5) ++ own_tx1) b_65 kb_65 xs11 h65 n0 Zc73 I1 O68 hcst f69 f70 f71 f72 Fq65_0 Fq65_1 Fq65_2 Fq65_3 (own_neN (by omega)) (own_chsapp (own_chstake (by rw [hxs6]; exact own_chsapp (own_mkchs hnl (own_rng (q := (i2c ab)) rfl) (own_rng hq1) (own_rng (q := (i2c cc_)) rfl)) (by decide))) own_tx1_chs) (by rw [hxs11]; exact own_chsapp (own_mkchs hnl (own_rng (q := (i2c ab)) rfl) (own_rng hq1) (own_rng (q := (i2c cc_)) rfl)) (by decide)) (by rw [List.length_append, List.length_take]; show _ + 5 ≤ 15; omega) (by omega)) hZ (own_m hw 181 rfl) (own_m hw 7 rfl) (by decide) (by decide)) q74a q74c (g := (mkF m 88 #[.val (.int len), .val (.int ab), .val (.int cc_), .val (.int (Int32.ofNat nn)), .val (.int (i2c ab)), .val (.int q1), .val (.int (i2c cc_)), .val (.ref b_4), .val (.ref b_9), .val (.ref a_54)] [(.ref b56), (.ref a_54)])) rfl (by rw [hml]; rfl) (Steps.refl _) (argsL := [(.ref b56)]) (rest := []) (lenOf pd__Ljava_lang_Object__Z rfl) rfl (by show 2 * 0 + _ ≤ _; exact Nat.le_of_eq rfl) (dd hy at_88) (fun _ _ => ⟨rfl, e65, (by decide : 20 + 0 ≤ _), (by decide : 300 + 0 ≤ _)⟩)
    dsimp only [Pt.U, Pt.locs, Pt.cells, Pt.slots] at X74 l74 y74 z74 st74 hQ74
    subst l74 y74 z74
    obtain ⟨rfl, N74q, e74⟩ := hQ74
    have N74 := Fr.app N65 N74q
    obtain ⟨q75, hq75⟩ : ∃ z : Int32, z = (if (xs6.take (xs6.length - 5) ++ own_tx1) = xs11 then (1 : Int32) else (0 : Int32)) := ⟨_, rfl⟩
    rw [← hq75] at st74
    have s76 : ∀ t_, Steps p.tables e below (T74.setTop (mkF m 91 #[.val (.int len), .val (.int ab), .val (.int cc_), .val (.int (Int32.ofNat nn)), .val (.int (i2c ab)), .val (.int q1), .val (.int (i2c cc_)), .val (.ref b_4), .val (.ref b_9), .val (.ref a_54)] [(.int q75)])) t_ → Steps _ _ _ _ t_ := fun t_ k_ => s67 t_ (by
      refine st74.trans ?_
      show Steps _ _ _ (T74.setTop (mkF m 91 #[.val (.int len), .val (.int ab), .val (.int cc_), .val (.int (Int32.ofNat nn)), .val (.int (i2c ab)), .val (.int q1), .val (.int (i2c cc_)), .val (.ref b_4), .val (.ref b_9), .val (.ref a_54)] [(.int q75)])) _
      exact k_)
    obtain ⟨fs, hr, hrun, hended, hREW⟩ := X74.leaveW hS (by first | exact Nat.le_refl _ | (rw [e74]; exact hk)) (v := some (.int (nar .boolean q75))) (fun h => by rw [Bd.returns] at h; cases h)
    have hone : q75 = 1 := by
      rw [hq75, if_pos]
      rw [hxs6, hxs11]
      exact congrArg (· ++ own_tx1) (own_mkt rfl)
    refine ⟨_, _, s76 _ ?_, hrun, hended, _, _, rfl, ?_, (by show CHr Z ELs s.vm s.heap T74.vm T74.heap; rw [hh, e74]; exact CR.trans (CHv.at X74 hZ hEL CR.1)), hREW.1, hREW.2.1, hREW.2.2.1, hREW.2.2.2.mono (by decide) (by decide)⟩
    · exact retN X74 hx (t := .boolean) Bd.returns (by simp) (dd hy at_91) hr
    · show Q_rmLaw Z _ _ _ _ _ h0 n0 _ T74.heap _
      rw [e74]
      exact ⟨by rw [hone]; rfl, N74⟩
set_option maxRecDepth 65536 in
set_option maxHeartbeats 40000000 in
theorem comes_1 {Post : Tables → Env → Array Value → State → Outcome → State → Prop} (hpost : ∀ tb e args s v u, (limb_1_1.after args s (.returned v) u = true ∧ limb_1_2.after args s (.returned v) u = true ∧ True) → ReturnedEndW s (.returned v) u (Jvm.fieldLocs frame_1_writes args s ++ Jvm.arrayLocs frame_1_arrays args s ++ Jvm.staticLocs frame_1_statics s) 48 3520 → Post tb e args s (.returned v) u) :
    ArmFor flags0 classFile x code maxLocals ret World_1 tables_1 room_1 Calls_1 rest_1 Pre_1 Post := by
  intro l hfl _ _ p e ha hc hk s m args below hf hA hF happ hP
  obtain ⟨hcalls, hrest, hpre⟩ := hP
  obtain ⟨-, -, -, hnamed, -, -, -, hat⟩ := (Spec.applies_iff hf).mp happ
  obtain ⟨hg, hn⟩ := and_e (Cond.before_iff.mp (show (Jvm.Cond.and given_1 narrow_1).before args s = true from hpre))
  obtain ⟨ga, gr⟩ := and_e hg
  obtain ⟨g0, gr0⟩ := and_e gr
  obtain ⟨g1, gr1⟩ := and_e gr0
  obtain ⟨w0, w1, w2, rfl⟩ : ∃ w0 w1 w2 : Value, args = #[w0, w1, w2] := by
    have hs : args.size = 3 := by simpa [Cond.value, given_1] using ga
    obtain ⟨L⟩ := args
    match L, hs with
    | [w0, w1, w2], _ => exact ⟨w0, w1, w2, rfl⟩
  have hw := fun d (hd : d ∈ tables_1) => atoms_spec (ws := Jvm.Cond.code x code maxLocals ret :: tables_1) hat d (List.mem_cons_of_mem _ hd)
  have hfit : Fit s := fun {y c} hc i hi => by
    obtain ⟨ha, rfl⟩ := Array.getElem?_eq_some_iff.mp hc
    have q := List.all_eq_true.mp ((Array.all_eq_true_iff_forall_mem.mp hF) _ (Array.getElem_mem ha)) i (List.mem_range.mpr hi)
    simpa [Array.getElem?_eq_getElem hi] using q
  obtain ⟨hsets, hown0⟩ := atoms_of _ (rest_1_c_eq ▸ (show rest_1_c.before _ s = true from hrest))
  have hr0 := Cond.before_iff.mp hown0
  obtain ⟨i0, ei0⟩ := is_v g0
  obtain rfl : w0 = (.int i0) := Option.some.inj ei0
  obtain ⟨i1, ei1⟩ := is_v g1
  obtain rfl : w1 = (.int i1) := Option.some.inj ei1
  obtain ⟨i2, ei2⟩ := is_v gr1
  obtain rfl : w2 = (.int i2) := Option.some.inj ei2
  obtain ⟨cst, ecs⟩ := is_v (Cond.before_iff.mp (hsets _ (List.mem_of_getElem? (i := 1) rfl)))
  have hcw := (hsets _ (List.mem_of_getElem? (i := 2) rfl))
  have hcst : ¬ (cst = (0 : Int32)) := fun q => by
    have h1 := not_v (Cond.before_iff.mp hcw)
    rw [Cond.eq_ints ecs (Term.int_eval 0)] at h1
    simp [q] at h1
  have eas := eqv_i (Term.int_eval 1) (Cond.before_iff.mp (hsets _ (List.mem_of_getElem? (i := 12) rfl)))
  have ehi := eqv_i (Term.int_eval 0) (Cond.before_iff.mp (hsets _ (List.mem_of_getElem? (i := 15) rfl)))
  have elo := eqv_i (Term.int_eval 8) (Cond.before_iff.mp (hsets _ (List.mem_of_getElem? (i := 18) rfl)))
  obtain ⟨fmt, efm, hfmt⟩ := isR_v (Cond.before_iff.mp (hsets _ (List.mem_of_getElem? (i := 8) rfl)))
  have hCH : CHv s ELs s.vm s.heap := CHv.start (own_EW hw) (fun p hp => hcalls.1 p hp) (show Jvm.Lit.compactW.before _ s = true from hcw) (own_m hw 23 rfl) (own_m hw 6 rfl)
  obtain ⟨n, o, h1, h2, h3, _, L, rfl, ⟨rfl, N⟩, -, hq⟩ := rmLaw l s _ hw tables_1 i0 i1 i2 cst fmt  s.heap s.heap.size (Nat.le_refl _) (Sta.start ecs (Or.inl (hsets _ (List.mem_of_getElem? (i := 0) rfl)))) (Sta.start eas (Or.inl (hsets _ (List.mem_of_getElem? (i := 11) rfl)))) (Sta.start ehi (Or.inl (hsets _ (List.mem_of_getElem? (i := 14) rfl)))) (Sta.start elo (Or.inl (hsets _ (List.mem_of_getElem? (i := 17) rfl)))) hfmt (Sta.start efm (Or.inl (hsets _ (List.mem_of_getElem? (i := 7) rfl)))) (Old.start s) hcst  p e ha hc hk s m _ below hf ((Spec.applies_iff_loose hf).mp happ).1 ⟨rfl, State.Warmed39.refl s, rfl, hCH⟩ trivial
  refine ⟨n, _, h1, h2, h3, hpost _ _ _ _ _ _ ⟨Cond.after_iff.mpr rfl, Cond.after_iff.mpr (eq_i res_at (Term.int_eval (1)) rfl), trivial⟩ ⟨hq.1, hq.2.1, hq.2.2.1, (hq.2.2.2.sift fun y hy => Or.inr (N y hy)).mono (by decide) (by decide)⟩⟩
theorem main_1_1 : Claimed_1_1 := comes_1 fun _ _ _ _ _ _ h hF => ⟨h.1, hF⟩
theorem main_1_2 : Claimed_1_2 := comes_1 fun _ _ _ _ _ _ h hF => ⟨h.2.1, hF⟩
end Jvm.Pilot.@@N@@
namespace Jvm.Pilot.@@N@@
open Jvm Jvm.ClassFile Sem Op Lib Jvm.Free Jvm.Stand Jvm.Pilot.@@N@@.Jvm.D
/-! MADE BY PROGRAM (witnessworld.py) out of the Statement's table words and the real class files: 26 classes; the members and pool entries that the words name. The judged class is class 1, her method 1. -/
namespace start1
open Jvm.ClassFile
def u (s : String) : CpInfo := .utf8 (stringToUtf16 s)
/-- a pool by its gaps: so many unusable entries, then the entry; so many at the end -/
def gap : Nat → List CpInfo → List CpInfo
  | 0, r => r
  | n + 1, r => .unusable :: gap n r
def poolList (es : List (Nat × CpInfo)) (last : Nat) : List CpInfo := es.foldr (fun e r => gap e.1 (e.2 :: r)) (gap last [])
def pool (es : List (Nat × CpInfo)) (last : Nat) : Array CpInfo := ⟨poolList es last⟩
def fileOf (pool : Array CpInfo) (this : Nat) (attrs : Array Attribute := #[]) (ms : Array MethodInfo := #[]) (fl : Nat := 33) (sup : Nat := 0) (ifs : Array Nat := #[]) (fds : Array FieldInfo := #[]) : ClassFile where
  minorVersion := 0
  majorVersion := 65
  constantPool := pool
  accessFlags := fl
  thisClass := this
  superClass := sup
  interfaces := ifs
  fields := fds
  methods := ms
  attributes := attrs
def plain (name : String) (sup : Option ClassId) : Class where
  name := name
  kind := .ordinary
  loader := none
  accessFlags := 33
  super := sup
  interfaces := #[]
  cf := none
  fields := #[]
  methods := #[]
  instanceTypes := #[]
  staticTypes := #[]
  resolved := #[]
  callSites := []
  init := .initialized
  statics := none
  mirror := none

def pool0 : Array CpInfo := pool [(5, u "<init>"), (0, u "()V"), (1, .class_ 10), (1, u "java/lang/Object")] 113

def k0c0 : Code := { maxStack := 0, maxLocals := 1, code := object_method_1_code, exceptionTable := #[], attributes := #[] }
def k0m0 : Method := { name := "<init>", desc := "()V", sig := { parameters := [], returnType := none }, accessFlags := 1, code := some k0c0 }
/-- java/lang/Object -/
def k0 : Class := { plain "java/lang/Object" none with
  accessFlags := 33
  interfaces := #[]
  cf := some (fileOf pool0 8 #[] #[{ accessFlags := 1, nameIndex := 5, descriptorIndex := 6, attributes := #[] }] 33 0 #[] #[])
  fields := #[]
  methods := #[k0m0]
  instanceTypes := #[]
  staticTypes := #[]
  resolved := Array.replicate 124 none
  statics := none }

def pool1 : Array CpInfo := pool [(2, .class_ 4), (1, u "java/lang/Object"), (0, u "<init>"), (0, u "()V"), (0, .methodref 8 9), (0, .class_ 10), (0, .nameAndType 11 12), (0, u "io/dyeline/store/LayoutSetsPartPinLaw"), (0, u "make"), (0, u "(ICCCCCCCC)[C"), (0, .class_ 14), (0, u "java/lang/String"), (0, .methodref 13 16), (0, .nameAndType 5 17), (0, u "([C)V"), (0, .methodref 19 20), (0, .class_ 21), (0, .nameAndType 22 23), (0, u "io/dyeline/store/Layout"), (0, u "setsPart"), (0, u "(Ljava/lang/String;)Ljava/lang/String;"), (0, .methodref 13 25), (0, .nameAndType 26 27), (0, u "equals"), (0, u "(Ljava/lang/Object;)Z"), (2, u "law"), (0, u "(III)Z")] 5

def k1m0 : Method := { name := "<init>", desc := "()V", sig := { parameters := [], returnType := none }, accessFlags := 1, code := none }
def k1c1 : Code := { maxStack := 9, maxLocals := 10, code := code, exceptionTable := #[], attributes := #[] }
def k1m1 : Method := { name := "law", desc := "(III)Z", sig := { parameters := [.int, .int, .int], returnType := some .boolean }, accessFlags := 9, code := some k1c1 }
def k1c2 : Code := { maxStack := 3, maxLocals := 10, code := method_3_code, exceptionTable := #[], attributes := #[] }
def k1m2 : Method := { name := "make", desc := "(ICCCCCCCC)[C", sig := { parameters := [.int, .char, .char, .char, .char, .char, .char, .char, .char], returnType := some (.array .char) }, accessFlags := 10, code := some k1c2 }
/-- io/dyeline/store/LayoutSetsPartPinLaw -/
def k1 : Class := { plain "io/dyeline/store/LayoutSetsPartPinLaw" (some 0) with
  accessFlags := 49
  interfaces := #[]
  cf := some (fileOf pool1 8 #[] #[{ accessFlags := 1, nameIndex := 5, descriptorIndex := 6, attributes := #[] }, { accessFlags := 9, nameIndex := 30, descriptorIndex := 31, attributes := #[] }, { accessFlags := 10, nameIndex := 11, descriptorIndex := 12, attributes := #[] }] 49 2 #[] #[])
  fields := #[]
  methods := #[k1m0, k1m1, k1m2]
  instanceTypes := #[]
  staticTypes := #[]
  resolved := Array.replicate 37 none
  statics := none }

def pool2 : Array CpInfo := pool [(1, .class_ 2), (0, u "java/io/Serializable"), (0, .class_ 4), (0, u "java/lang/Object")] 2

/-- java/io/Serializable -/
def k2 : Class := { plain "java/io/Serializable" (some 0) with
  accessFlags := 1537
  interfaces := #[]
  cf := some (fileOf pool2 1 #[] #[] 1537 3 #[] #[])
  fields := #[]
  methods := #[]
  instanceTypes := #[]
  staticTypes := #[]
  resolved := Array.replicate 7 none
  statics := none }

def pool3 : Array CpInfo := pool [(1, .class_ 2), (0, u "java/lang/Comparable"), (0, .class_ 4), (0, u "java/lang/Object")] 7

/-- java/lang/Comparable -/
def k3 : Class := { plain "java/lang/Comparable" (some 0) with
  accessFlags := 1537
  interfaces := #[]
  cf := some (fileOf pool3 1 #[] #[] 1537 3 #[] #[])
  fields := #[]
  methods := #[]
  instanceTypes := #[]
  staticTypes := #[]
  resolved := Array.replicate 12 none
  statics := none }

def pool4 : Array CpInfo := pool [(2, .class_ 4), (1, u "java/lang/CharSequence"), (42, .class_ 48), (0, u "java/lang/CharSequence$1CodePointIterator"), (10, .class_ 60), (0, u "java/lang/CharSequence$1CharIterator"), (5, .class_ 67), (0, u "java/lang/Object")] 63

/-- java/lang/CharSequence -/
def k4 : Class := { plain "java/lang/CharSequence" (some 0) with
  accessFlags := 1537
  interfaces := #[]
  cf := some (fileOf pool4 2 #[.nestMembers #[47, 59]] #[] 1537 66 #[] #[])
  fields := #[]
  methods := #[]
  instanceTypes := #[]
  staticTypes := #[]
  resolved := Array.replicate 131 none
  statics := none }

def pool5 : Array CpInfo := pool [(1, .class_ 2), (0, u "java/lang/constant/Constable"), (0, .class_ 4), (0, u "java/lang/Object")] 6

/-- java/lang/constant/Constable -/
def k5 : Class := { plain "java/lang/constant/Constable" (some 0) with
  accessFlags := 1537
  interfaces := #[]
  cf := some (fileOf pool5 1 #[] #[] 1537 3 #[] #[])
  fields := #[]
  methods := #[]
  instanceTypes := #[]
  staticTypes := #[]
  resolved := Array.replicate 11 none
  statics := none }

def pool6 : Array CpInfo := pool [(1, .class_ 2), (0, u "java/lang/constant/ConstantDesc"), (0, .class_ 4), (0, u "java/lang/Object")] 32

/-- java/lang/constant/ConstantDesc -/
def k6 : Class := { plain "java/lang/constant/ConstantDesc" (some 0) with
  accessFlags := 1537
  interfaces := #[]
  cf := some (fileOf pool6 1 #[] #[] 1537 3 #[] #[])
  fields := #[]
  methods := #[]
  instanceTypes := #[]
  staticTypes := #[]
  resolved := Array.replicate 37 none
  statics := none }

def pool7 : Array CpInfo := pool [(1, .methodref 2 3), (0, .class_ 4), (0, .nameAndType 5 6), (0, u "java/lang/Object"), (0, u "<init>"), (0, u "()V"), (2, .fieldref 10 11), (0, .class_ 12), (0, .nameAndType 13 14), (0, u "java/lang/String"), (0, u "value"), (0, u "[B"), (0, .fieldref 10 16), (0, .nameAndType 17 18), (0, u "coder"), (0, u "B"), (2, u "hash"), (0, u "I"), (2, u "hashIsZero"), (0, u "Z"), (0, .methodref 10 28), (0, .nameAndType 5 29), (0, u "([CIILjava/lang/Void;)V"), (6, u "checkBoundsOffCount"), (0, u "(III)I"), (0, .fieldref 10 39), (0, .nameAndType 40 26), (0, u "COMPACT_STRINGS"), (1, .class_ 44), (1, u "java/lang/StringUTF16"), (0, u "compress"), (1, .methodref 42 48), (0, .nameAndType 49 50), (0, u "coderFromArrayLen"), (0, u "([BI)B"), (3, .methodref 55 56), (0, .class_ 57), (0, .nameAndType 58 59), (0, u "java/util/Arrays"), (0, u "copyOfRange"), (0, u "([BII)[B"), (46, .methodref 107 108), (0, .class_ 109), (0, .nameAndType 110 111), (0, u "java/lang/StringLatin1"), (0, u "inflate"), (0, u "([BI[BII)V"), (30, u "()Z"), (34, .methodref 42 178), (0, .nameAndType 45 179), (0, u "([CII)[B"), (13, .class_ 195), (1, u "java/lang/System"), (15, u "([BB)V"), (0, .methodref 193 213), (0, .nameAndType 214 215), (0, u "arraycopy"), (0, u "(Ljava/lang/Object;ILjava/lang/Object;II)V"), (118, u "()I"), (0, .methodref 10 336), (0, .nameAndType 17 337), (0, u "()B"), (2, u "()[B"), (148, .methodref 10 490), (0, .nameAndType 5 491), (0, u "(Ljava/lang/AbstractStringBuilder;Ljava/lang/Void;)V"), (0, .methodref 10 493), (0, .nameAndType 494 142), (0, u "isLatin1"), (10, .methodref 10 506), (0, .nameAndType 507 334), (0, u "length"), (5, u "checkFromToIndex"), (7, .methodref 10 522), (0, .nameAndType 523 524), (0, u "checkBoundsBeginEnd"), (0, u "(III)V"), (7, u "getBytes"), (8, .methodref 107 542), (0, .nameAndType 543 544), (0, u "equals"), (0, u "([B[B)Z"), (4, .methodref 550 506), (0, .class_ 551), (0, u "java/lang/AbstractStringBuilder"), (0, .methodref 550 553), (0, .nameAndType 554 340), (0, u "getValue"), (18, u "(Ljava/lang/Object;)Z"), (1, .class_ 576), (0, u "java/lang/CharSequence"), (22, u "CASE_INSENSITIVE_ORDER"), (0, u "Ljava/util/Comparator;"), (82, u "substring"), (0, u "(II)Ljava/lang/String;"), (0, .methodref 107 686), (0, .nameAndType 687 688), (0, u "newString"), (0, u "([BII)Ljava/lang/String;"), (0, .methodref 42 686), (131, u "([BIB)V"), (188, u "([C)V"), (36, .methodref 550 493), (0, .fieldref 550 1049), (0, .nameAndType 1050 26), (0, u "maybeLatin1"), (2, .fieldref 1054 1055), (0, .class_ 1056), (0, .nameAndType 1057 1058), (0, u "jdk/internal/util/Preconditions"), (0, u "SIOOBE_FORMATTER"), (0, u "Ljava/util/function/BiFunction;"), (3, .methodref 1054 1063), (0, .nameAndType 513 1064), (0, u "(IIILjava/util/function/BiFunction;)I"), (0, .methodref 1054 1066), (0, .nameAndType 1067 1064), (0, u "checkFromIndexSize"), (33, u "serialPersistentFields"), (0, u "[Ljava/io/ObjectStreamField;"), (0, .class_ 1104), (0, u "java/lang/String$CaseInsensitiveComparator"), (1, .class_ 1107), (0, u "java/io/Serializable"), (0, .class_ 1109), (0, u "java/lang/Comparable"), (0, .class_ 1111), (0, u "java/lang/constant/Constable"), (0, .class_ 1113), (0, u "java/lang/constant/ConstantDesc"), (2, u "serialVersionUID"), (0, u "J"), (3, u "REPL"), (0, u "C"), (2, u "LATIN1"), (1, u "UTF16"), (105, u "(Ljava/lang/StringBuilder;)V")] 217

def k7m0 : Method := { name := "<init>", desc := "()V", sig := { parameters := [], returnType := none }, accessFlags := 1, code := none }
def k7c1 : Code := { maxStack := 5, maxLocals := 2, code := jdk_42_method_3_code, exceptionTable := #[], attributes := #[] }
def k7m1 : Method := { name := "<init>", desc := "([C)V", sig := { parameters := [(.array .char)], returnType := none }, accessFlags := 1, code := some k7c1 }
def k7c2 : Code := { maxStack := 3, maxLocals := 2, code := jdk_42_method_53_code, exceptionTable := #[], attributes := #[] }
def k7m2 : Method := { name := "<init>", desc := "(Ljava/lang/StringBuilder;)V", sig := { parameters := [(.object "java/lang/StringBuilder")], returnType := none }, accessFlags := 1, code := some k7c2 }
def k7c3 : Code := { maxStack := 2, maxLocals := 1, code := jdk_42_method_54_code, exceptionTable := #[], attributes := #[] }
def k7m3 : Method := { name := "length", desc := "()I", sig := { parameters := [], returnType := some .int }, accessFlags := 1, code := some k7c3 }
def k7c4 : Code := { maxStack := 2, maxLocals := 3, code := jdk_42_method_66_code, exceptionTable := #[], attributes := #[] }
def k7m4 : Method := { name := "equals", desc := "(Ljava/lang/Object;)Z", sig := { parameters := [(.object "java/lang/Object")], returnType := some .boolean }, accessFlags := 1, code := some k7c4 }
def k7c5 : Code := { maxStack := 3, maxLocals := 5, code := jdk_42_method_92_code, exceptionTable := #[], attributes := #[] }
def k7m5 : Method := { name := "substring", desc := "(II)Ljava/lang/String;", sig := { parameters := [.int, .int], returnType := some (.object "java/lang/String") }, accessFlags := 1, code := some k7c5 }
def k7c6 : Code := { maxStack := 5, maxLocals := 4, code := jdk_42_method_147_code, exceptionTable := #[], attributes := #[] }
def k7m6 : Method := { name := "getBytes", desc := "([BIB)V", sig := { parameters := [(.array .byte), .int, .byte], returnType := none }, accessFlags := 0, code := some k7c6 }
def k7c7 : Code := { maxStack := 4, maxLocals := 6, code := jdk_42_method_149_code, exceptionTable := #[], attributes := #[] }
def k7m7 : Method := { name := "<init>", desc := "([CIILjava/lang/Void;)V", sig := { parameters := [(.array .char), .int, .int, (.object "java/lang/Void")], returnType := none }, accessFlags := 2, code := some k7c7 }
def k7c8 : Code := { maxStack := 5, maxLocals := 5, code := jdk_42_method_150_code, exceptionTable := #[], attributes := #[] }
def k7m8 : Method := { name := "<init>", desc := "(Ljava/lang/AbstractStringBuilder;Ljava/lang/Void;)V", sig := { parameters := [(.object "java/lang/AbstractStringBuilder"), (.object "java/lang/Void")], returnType := none }, accessFlags := 0, code := some k7c8 }
def k7c9 : Code := { maxStack := 2, maxLocals := 3, code := jdk_42_method_151_code, exceptionTable := #[], attributes := #[] }
def k7m9 : Method := { name := "<init>", desc := "([BB)V", sig := { parameters := [(.array .byte), .byte], returnType := none }, accessFlags := 0, code := some k7c9 }
def k7c10 : Code := { maxStack := 1, maxLocals := 1, code := jdk_42_method_152_code, exceptionTable := #[], attributes := #[] }
def k7m10 : Method := { name := "coder", desc := "()B", sig := { parameters := [], returnType := some .byte }, accessFlags := 0, code := some k7c10 }
def k7c11 : Code := { maxStack := 1, maxLocals := 1, code := jdk_42_method_154_code, exceptionTable := #[], attributes := #[] }
def k7m11 : Method := { name := "isLatin1", desc := "()Z", sig := { parameters := [], returnType := some .boolean }, accessFlags := 0, code := some k7c11 }
def k7c12 : Code := { maxStack := 4, maxLocals := 3, code := jdk_42_method_157_code, exceptionTable := #[], attributes := #[] }
def k7m12 : Method := { name := "checkBoundsOffCount", desc := "(III)I", sig := { parameters := [.int, .int, .int], returnType := some .int }, accessFlags := 8, code := some k7c12 }
def k7c13 : Code := { maxStack := 4, maxLocals := 3, code := jdk_42_method_158_code, exceptionTable := #[], attributes := #[] }
def k7m13 : Method := { name := "checkBoundsBeginEnd", desc := "(III)V", sig := { parameters := [.int, .int, .int], returnType := none }, accessFlags := 8, code := some k7c13 }
/-- java/lang/String -/
def k7 : Class := { plain "java/lang/String" (some 0) with
  accessFlags := 49
  interfaces := #[2, 3, 4, 5, 6]
  cf := some (fileOf pool7 10 #[.nestMembers #[1103]] #[{ accessFlags := 1, nameIndex := 5, descriptorIndex := 6, attributes := #[] }, { accessFlags := 1, nameIndex := 5, descriptorIndex := 1010, attributes := #[] }, { accessFlags := 1, nameIndex := 5, descriptorIndex := 1233, attributes := #[] }, { accessFlags := 1, nameIndex := 507, descriptorIndex := 334, attributes := #[] }, { accessFlags := 1, nameIndex := 543, descriptorIndex := 573, attributes := #[] }, { accessFlags := 1, nameIndex := 683, descriptorIndex := 684, attributes := #[] }, { accessFlags := 0, nameIndex := 532, descriptorIndex := 821, attributes := #[] }, { accessFlags := 2, nameIndex := 5, descriptorIndex := 29, attributes := #[] }, { accessFlags := 0, nameIndex := 5, descriptorIndex := 491, attributes := #[] }, { accessFlags := 0, nameIndex := 5, descriptorIndex := 211, attributes := #[] }, { accessFlags := 0, nameIndex := 17, descriptorIndex := 337, attributes := #[] }, { accessFlags := 0, nameIndex := 494, descriptorIndex := 142, attributes := #[] }, { accessFlags := 8, nameIndex := 36, descriptorIndex := 37, attributes := #[] }, { accessFlags := 8, nameIndex := 523, descriptorIndex := 524, attributes := #[] }] 49 2 #[1106, 1108, 575, 1110, 1112] #[{ accessFlags := 18, nameIndex := 13, descriptorIndex := 14, attributes := #[] }, { accessFlags := 18, nameIndex := 17, descriptorIndex := 18, attributes := #[] }, { accessFlags := 2, nameIndex := 21, descriptorIndex := 22, attributes := #[] }, { accessFlags := 2, nameIndex := 25, descriptorIndex := 26, attributes := #[] }, { accessFlags := 26, nameIndex := 1116, descriptorIndex := 1117, attributes := #[] }, { accessFlags := 24, nameIndex := 40, descriptorIndex := 26, attributes := #[] }, { accessFlags := 26, nameIndex := 1101, descriptorIndex := 1102, attributes := #[] }, { accessFlags := 26, nameIndex := 1121, descriptorIndex := 1122, attributes := #[] }, { accessFlags := 25, nameIndex := 599, descriptorIndex := 600, attributes := #[] }, { accessFlags := 24, nameIndex := 1125, descriptorIndex := 18, attributes := #[] }, { accessFlags := 24, nameIndex := 1127, descriptorIndex := 18, attributes := #[] }])
  fields := #[{ name := "value", type := (.array .byte), accessFlags := 18, slot := 0, constantValue := 0 }, { name := "coder", type := .byte, accessFlags := 18, slot := 1, constantValue := 0 }, { name := "hash", type := .int, accessFlags := 2, slot := 2, constantValue := 0 }, { name := "hashIsZero", type := .boolean, accessFlags := 2, slot := 3, constantValue := 0 }, { name := "serialVersionUID", type := .long, accessFlags := 26, slot := 0, constantValue := 0 }, { name := "COMPACT_STRINGS", type := .boolean, accessFlags := 24, slot := 1, constantValue := 0 }, { name := "serialPersistentFields", type := (.array (.object "java/io/ObjectStreamField")), accessFlags := 26, slot := 2, constantValue := 0 }, { name := "REPL", type := .char, accessFlags := 26, slot := 3, constantValue := 0 }, { name := "CASE_INSENSITIVE_ORDER", type := (.object "java/util/Comparator"), accessFlags := 25, slot := 4, constantValue := 0 }, { name := "LATIN1", type := .byte, accessFlags := 24, slot := 5, constantValue := 0 }, { name := "UTF16", type := .byte, accessFlags := 24, slot := 6, constantValue := 0 }]
  methods := #[k7m0, k7m1, k7m2, k7m3, k7m4, k7m5, k7m6, k7m7, k7m8, k7m9, k7m10, k7m11, k7m12, k7m13]
  instanceTypes := #[(.array .byte), .byte, .int, .boolean]
  staticTypes := #[.long, .boolean, (.array (.object "java/io/ObjectStreamField")), .char, (.object "java/util/Comparator"), .byte, .byte]
  resolved := Array.replicate 1451 none
  statics := some 0 }

def pool8 : Array CpInfo := pool [(3, .class_ 4), (0, u "java/lang/String"), (1, .class_ 8), (1, u "java/lang/Object"), (0, u "<init>"), (0, u "()V"), (0, .methodref 12 13), (0, .class_ 14), (0, .nameAndType 15 16), (0, u "java/lang/StringUTF16"), (0, u "newBytesLength"), (0, u "(I)I"), (3, .integer 1073741823), (23, .fieldref 12 45), (0, .nameAndType 46 47), (0, u "$assertionsDisabled"), (0, u "Z"), (0, .methodref 12 49), (0, .nameAndType 50 51), (0, u "length"), (0, u "([B)I"), (7, .fieldref 12 60), (0, .nameAndType 61 62), (0, u "HI_BYTE_SHIFT"), (0, u "I"), (0, .fieldref 12 64), (0, .nameAndType 65 62), (0, u "LO_BYTE_SHIFT"), (5, .methodref 12 72), (0, .nameAndType 73 74), (0, u "getChar"), (0, u "([BI)C"), (24, u "(II[B)V"), (7, .methodref 12 108), (0, .nameAndType 109 110), (0, u "newBytesFor"), (0, u "(I)[B"), (0, .methodref 12 112), (0, .nameAndType 113 114), (0, u "putChar"), (0, u "([BII)V"), (0, .methodref 12 116), (0, .nameAndType 117 118), (0, u "compress"), (0, u "([CI[BII)I"), (0, .methodref 12 120), (0, .nameAndType 121 122), (0, u "toBytes"), (0, u "([CII)[B"), (0, .methodref 12 124), (0, .nameAndType 117 125), (0, u "([BI[BII)I"), (0, .methodref 127 128), (0, .class_ 129), (0, .nameAndType 130 131), (0, u "java/util/Arrays"), (0, u "copyOfRange"), (0, u "([BII)[B"), (8, u "inflate"), (0, u "([BI[BII)V"), (31, .methodref 12 174), (0, .nameAndType 175 99), (0, u "checkBoundsOffCount"), (75, .fieldref 3 252), (0, .nameAndType 253 47), (0, u "COMPACT_STRINGS"), (3, .methodref 12 258), (0, .nameAndType 117 131), (0, .methodref 12 260), (0, .nameAndType 261 262), (0, u "coderFromArrayLen"), (0, u "([BI)B"), (0, .methodref 3 264), (0, .nameAndType 9 265), (0, u "([BB)V"), (15, u "(III)I"), (45, u "newString"), (0, u "([BII)Ljava/lang/String;"), (40, .class_ 371), (1, u "java/lang/StringUTF16$LinesSpliterator"), (47, .methodref 3 420), (0, .nameAndType 175 281), (9, u "MAX_LENGTH"), (196, .class_ 628), (0, u "java/lang/StringUTF16$CodePointsSpliterator"), (0, .class_ 630), (0, u "java/lang/StringUTF16$CharsSpliterator")] 4

def k8m0 : Method := { name := "<init>", desc := "()V", sig := { parameters := [], returnType := none }, accessFlags := 0, code := none }
def k8c1 : Code := { maxStack := 1, maxLocals := 1, code := jdk_52_method_2_code, exceptionTable := #[], attributes := #[] }
def k8m1 : Method := { name := "newBytesFor", desc := "(I)[B", sig := { parameters := [.int], returnType := some (.array .byte) }, accessFlags := 9, code := some k8c1 }
def k8c2 : Code := { maxStack := 4, maxLocals := 1, code := jdk_52_method_3_code, exceptionTable := #[], attributes := #[] }
def k8m2 : Method := { name := "newBytesLength", desc := "(I)I", sig := { parameters := [.int], returnType := some .int }, accessFlags := 9, code := some k8c2 }
def k8c3 : Code := { maxStack := 4, maxLocals := 3, code := jdk_52_method_4_code, exceptionTable := #[], attributes := #[] }
def k8m3 : Method := { name := "putChar", desc := "([BII)V", sig := { parameters := [(.array .byte), .int, .int], returnType := none }, accessFlags := 8, code := some k8c3 }
def k8c4 : Code := { maxStack := 3, maxLocals := 2, code := jdk_52_method_5_code, exceptionTable := #[], attributes := #[] }
def k8m4 : Method := { name := "getChar", desc := "([BI)C", sig := { parameters := [(.array .byte), .int], returnType := some .char }, accessFlags := 8, code := some k8c4 }
def k8c5 : Code := { maxStack := 2, maxLocals := 1, code := jdk_52_method_6_code, exceptionTable := #[], attributes := #[] }
def k8m5 : Method := { name := "length", desc := "([B)I", sig := { parameters := [(.array .byte)], returnType := some .int }, accessFlags := 9, code := some k8c5 }
def k8c6 : Code := { maxStack := 4, maxLocals := 5, code := jdk_52_method_14_code, exceptionTable := #[], attributes := #[] }
def k8m6 : Method := { name := "toBytes", desc := "([CII)[B", sig := { parameters := [(.array .char), .int, .int], returnType := some (.array .byte) }, accessFlags := 9, code := some k8c6 }
def k8c7 : Code := { maxStack := 2, maxLocals := 2, code := jdk_52_method_15_code, exceptionTable := #[], attributes := #[] }
def k8m7 : Method := { name := "coderFromArrayLen", desc := "([BI)B", sig := { parameters := [(.array .byte), .int], returnType := some .byte }, accessFlags := 8, code := some k8c7 }
def k8c8 : Code := { maxStack := 5, maxLocals := 6, code := jdk_52_method_16_code, exceptionTable := #[], attributes := #[] }
def k8m8 : Method := { name := "compress", desc := "([CII)[B", sig := { parameters := [(.array .char), .int, .int], returnType := some (.array .byte) }, accessFlags := 9, code := some k8c8 }
def k8c9 : Code := { maxStack := 5, maxLocals := 6, code := jdk_52_method_17_code, exceptionTable := #[], attributes := #[] }
def k8m9 : Method := { name := "compress", desc := "([BII)[B", sig := { parameters := [(.array .byte), .int, .int], returnType := some (.array .byte) }, accessFlags := 9, code := some k8c9 }
def k8c10 : Code := { maxStack := 3, maxLocals := 7, code := jdk_52_method_21_code, exceptionTable := #[], attributes := #[] }
def k8m10 : Method := { name := "compress", desc := "([CI[BII)I", sig := { parameters := [(.array .char), .int, (.array .byte), .int, .int], returnType := some .int }, accessFlags := 9, code := some k8c10 }
def k8c11 : Code := { maxStack := 3, maxLocals := 7, code := jdk_52_method_22_code, exceptionTable := #[], attributes := #[] }
def k8m11 : Method := { name := "compress", desc := "([BI[BII)I", sig := { parameters := [(.array .byte), .int, (.array .byte), .int, .int], returnType := some .int }, accessFlags := 9, code := some k8c11 }
def k8c12 : Code := { maxStack := 6, maxLocals := 5, code := jdk_52_method_69_code, exceptionTable := #[], attributes := #[] }
def k8m12 : Method := { name := "newString", desc := "([BII)Ljava/lang/String;", sig := { parameters := [(.array .byte), .int, .int], returnType := some (.object "java/lang/String") }, accessFlags := 9, code := some k8c12 }
def k8c13 : Code := { maxStack := 4, maxLocals := 6, code := jdk_52_method_86_code, exceptionTable := #[], attributes := #[] }
def k8m13 : Method := { name := "inflate", desc := "([BI[BII)V", sig := { parameters := [(.array .byte), .int, (.array .byte), .int, .int], returnType := none }, accessFlags := 9, code := some k8c13 }
def k8c14 : Code := { maxStack := 3, maxLocals := 3, code := jdk_52_method_94_code, exceptionTable := #[], attributes := #[] }
def k8m14 : Method := { name := "checkBoundsOffCount", desc := "(II[B)V", sig := { parameters := [.int, .int, (.array .byte)], returnType := none }, accessFlags := 9, code := some k8c14 }
/-- java/lang/StringUTF16 -/
def k8 : Class := { plain "java/lang/StringUTF16" (some 0) with
  accessFlags := 48
  interfaces := #[]
  cf := some (fileOf pool8 12 #[.nestMembers #[627, 629, 369]] #[{ accessFlags := 0, nameIndex := 9, descriptorIndex := 10, attributes := #[] }, { accessFlags := 9, nameIndex := 109, descriptorIndex := 110, attributes := #[] }, { accessFlags := 9, nameIndex := 15, descriptorIndex := 16, attributes := #[] }, { accessFlags := 8, nameIndex := 113, descriptorIndex := 114, attributes := #[] }, { accessFlags := 8, nameIndex := 73, descriptorIndex := 74, attributes := #[] }, { accessFlags := 9, nameIndex := 50, descriptorIndex := 51, attributes := #[] }, { accessFlags := 9, nameIndex := 121, descriptorIndex := 122, attributes := #[] }, { accessFlags := 8, nameIndex := 261, descriptorIndex := 262, attributes := #[] }, { accessFlags := 9, nameIndex := 117, descriptorIndex := 122, attributes := #[] }, { accessFlags := 9, nameIndex := 117, descriptorIndex := 131, attributes := #[] }, { accessFlags := 9, nameIndex := 117, descriptorIndex := 118, attributes := #[] }, { accessFlags := 9, nameIndex := 117, descriptorIndex := 125, attributes := #[] }, { accessFlags := 9, nameIndex := 327, descriptorIndex := 328, attributes := #[] }, { accessFlags := 9, nameIndex := 140, descriptorIndex := 141, attributes := #[] }, { accessFlags := 9, nameIndex := 175, descriptorIndex := 99, attributes := #[] }] 48 6 #[] #[{ accessFlags := 26, nameIndex := 61, descriptorIndex := 62, attributes := #[] }, { accessFlags := 26, nameIndex := 65, descriptorIndex := 62, attributes := #[] }, { accessFlags := 24, nameIndex := 430, descriptorIndex := 62, attributes := #[] }, { accessFlags := 4120, nameIndex := 46, descriptorIndex := 47, attributes := #[] }])
  fields := #[{ name := "HI_BYTE_SHIFT", type := .int, accessFlags := 26, slot := 0, constantValue := 0 }, { name := "LO_BYTE_SHIFT", type := .int, accessFlags := 26, slot := 1, constantValue := 0 }, { name := "MAX_LENGTH", type := .int, accessFlags := 24, slot := 2, constantValue := 0 }, { name := "$assertionsDisabled", type := .boolean, accessFlags := 4120, slot := 3, constantValue := 0 }]
  methods := #[k8m0, k8m1, k8m2, k8m3, k8m4, k8m5, k8m6, k8m7, k8m8, k8m9, k8m10, k8m11, k8m12, k8m13, k8m14]
  instanceTypes := #[]
  staticTypes := #[.int, .int, .int, .boolean]
  resolved := Array.replicate 635 none
  statics := some 1 }

def pool9 : Array CpInfo := pool [(2, .class_ 4), (0, .nameAndType 5 6), (0, u "java/lang/Object"), (0, u "<init>"), (0, u "()V"), (3, .class_ 11), (0, u "io/dyeline/store/Layout"), (3, .class_ 17), (1, u "java/lang/String"), (2, .string 21), (0, u ".json"), (3, .class_ 26), (0, u "java/lang/StringBuilder"), (0, .methodref 25 3), (0, .methodref 15 29), (0, .nameAndType 30 31), (0, u "length"), (0, u "()I"), (0, .methodref 15 33), (0, .nameAndType 34 35), (0, u "substring"), (0, u "(II)Ljava/lang/String;"), (0, .methodref 25 37), (0, .nameAndType 38 39), (0, u "append"), (0, u "(Ljava/lang/String;)Ljava/lang/StringBuilder;"), (2, .methodref 25 43), (0, .nameAndType 44 45), (0, u "toString"), (0, u "()Ljava/lang/String;"), (0, .string 47), (0, u ".sets"), (2, u "TAGS_DIR"), (0, u "Ljava/lang/String;"), (3, u "MANIFEST"), (2, u "FORMAT"), (0, u "I"), (1, u "DATA_PREFIX"), (0, u "DATA_SUFFIX"), (0, u "TAGS_SUFFIX"), (0, u "NUMBERED"), (1, u "SETS"), (2, u "SETS_SUFFIX"), (0, u "INDEX_SUFFIX"), (5, u "(Ljava/lang/String;)Ljava/lang/String;"), (0, u "setsPart")] 3

def k9m0 : Method := { name := "<init>", desc := "()V", sig := { parameters := [], returnType := none }, accessFlags := 2, code := none }
def k9c1 : Code := { maxStack := 5, maxLocals := 1, code := prog_8_method_4_code, exceptionTable := #[], attributes := #[] }
def k9m1 : Method := { name := "setsPart", desc := "(Ljava/lang/String;)Ljava/lang/String;", sig := { parameters := [(.object "java/lang/String")], returnType := some (.object "java/lang/String") }, accessFlags := 8, code := some k9c1 }
/-- io/dyeline/store/Layout -/
def k9 : Class := { plain "io/dyeline/store/Layout" (some 0) with
  accessFlags := 48
  interfaces := #[]
  cf := some (fileOf pool9 10 #[] #[{ accessFlags := 2, nameIndex := 5, descriptorIndex := 6, attributes := #[] }, { accessFlags := 8, nameIndex := 77, descriptorIndex := 76, attributes := #[] }] 48 2 #[] #[{ accessFlags := 24, nameIndex := 50, descriptorIndex := 51, attributes := #[] }, { accessFlags := 24, nameIndex := 55, descriptorIndex := 51, attributes := #[] }, { accessFlags := 24, nameIndex := 58, descriptorIndex := 59, attributes := #[] }, { accessFlags := 24, nameIndex := 61, descriptorIndex := 51, attributes := #[] }, { accessFlags := 24, nameIndex := 62, descriptorIndex := 51, attributes := #[] }, { accessFlags := 24, nameIndex := 63, descriptorIndex := 51, attributes := #[] }, { accessFlags := 24, nameIndex := 64, descriptorIndex := 59, attributes := #[] }, { accessFlags := 24, nameIndex := 66, descriptorIndex := 51, attributes := #[] }, { accessFlags := 24, nameIndex := 69, descriptorIndex := 51, attributes := #[] }, { accessFlags := 24, nameIndex := 70, descriptorIndex := 51, attributes := #[] }])
  fields := #[{ name := "TAGS_DIR", type := (.object "java/lang/String"), accessFlags := 24, slot := 0, constantValue := 0 }, { name := "MANIFEST", type := (.object "java/lang/String"), accessFlags := 24, slot := 1, constantValue := 0 }, { name := "FORMAT", type := .int, accessFlags := 24, slot := 2, constantValue := 0 }, { name := "DATA_PREFIX", type := (.object "java/lang/String"), accessFlags := 24, slot := 3, constantValue := 0 }, { name := "DATA_SUFFIX", type := (.object "java/lang/String"), accessFlags := 24, slot := 4, constantValue := 0 }, { name := "TAGS_SUFFIX", type := (.object "java/lang/String"), accessFlags := 24, slot := 5, constantValue := 0 }, { name := "NUMBERED", type := .int, accessFlags := 24, slot := 6, constantValue := 0 }, { name := "SETS", type := (.object "java/lang/String"), accessFlags := 24, slot := 7, constantValue := 0 }, { name := "SETS_SUFFIX", type := (.object "java/lang/String"), accessFlags := 24, slot := 8, constantValue := 0 }, { name := "INDEX_SUFFIX", type := (.object "java/lang/String"), accessFlags := 24, slot := 9, constantValue := 0 }]
  methods := #[k9m0, k9m1]
  instanceTypes := #[]
  staticTypes := #[(.object "java/lang/String"), (.object "java/lang/String"), .int, (.object "java/lang/String"), (.object "java/lang/String"), (.object "java/lang/String"), .int, (.object "java/lang/String"), (.object "java/lang/String"), (.object "java/lang/String")]
  resolved := Array.replicate 81 none
  statics := none }

def pool10 : Array CpInfo := pool [(1, .class_ 2), (0, u "java/lang/Appendable"), (0, .class_ 4), (0, u "java/lang/Object")] 9

/-- java/lang/Appendable -/
def k10 : Class := { plain "java/lang/Appendable" (some 0) with
  accessFlags := 1537
  interfaces := #[]
  cf := some (fileOf pool10 1 #[] #[] 1537 3 #[] #[])
  fields := #[]
  methods := #[]
  instanceTypes := #[]
  staticTypes := #[]
  resolved := Array.replicate 14 none
  statics := none }

def pool11 : Array CpInfo := pool [(1, .class_ 2), (0, u "java/lang/String"), (0, .methodref 4 5), (0, .class_ 6), (0, .nameAndType 7 8), (0, u "java/lang/Object"), (0, u "<init>"), (0, u "()V"), (1, .class_ 12), (1, u "java/lang/AbstractStringBuilder"), (0, u "EMPTYVALUE"), (0, u "[B"), (0, .fieldref 10 16), (0, .nameAndType 17 14), (0, u "value"), (0, .fieldref 1 19), (0, .nameAndType 20 21), (0, u "COMPACT_STRINGS"), (0, u "Z"), (0, .fieldref 10 23), (0, .nameAndType 24 25), (0, u "coder"), (0, u "B"), (0, .methodref 27 28), (0, .class_ 29), (0, .nameAndType 30 31), (0, u "java/lang/StringUTF16"), (0, u "newBytesFor"), (0, u "(I)[B"), (0, .methodref 1 33), (0, .nameAndType 34 35), (0, u "length"), (0, u "()I"), (4, .methodref 1 41), (0, .nameAndType 24 42), (0, u "()B"), (2, u "append"), (0, u "(Ljava/lang/String;)Ljava/lang/AbstractStringBuilder;"), (1, .class_ 49), (0, u "java/lang/CharSequence"), (19, u "(Ljava/lang/String;)V"), (5, u "maybeLatin1"), (3, .fieldref 10 80), (0, .nameAndType 81 82), (0, u "count"), (0, u "I"), (0, .methodref 10 84), (0, .nameAndType 85 86), (0, u "isLatin1"), (0, u "()Z"), (1, .class_ 90), (1, u "java/lang/StringLatin1"), (9, .methodref 10 101), (0, .nameAndType 102 103), (0, u "ensureCapacityInternal"), (0, u "(I)V"), (21, .methodref 88 126), (0, .nameAndType 127 128), (0, u "inflate"), (0, u "([BI[BII)V"), (66, .methodref 10 196), (0, .nameAndType 127 8), (11, .methodref 10 209), (0, .nameAndType 210 211), (0, u "putStringAt"), (0, u "(ILjava/lang/String;)V"), (5, u "inflateIfNeededFor"), (2, .nameAndType 221 222), (0, u "getBytes"), (0, u "([BIB)V"), (174, .methodref 10 398), (0, .nameAndType 217 69), (0, .methodref 1 220), (3, u "()[B"), (40, .class_ 445), (0, u "java/lang/Appendable"), (106, u "getValue")] 56

def k11m0 : Method := { name := "<init>", desc := "()V", sig := { parameters := [], returnType := none }, accessFlags := 0, code := none }
def k11c1 : Code := { maxStack := 2, maxLocals := 2, code := jdk_68_method_2_code, exceptionTable := #[], attributes := #[] }
def k11m1 : Method := { name := "<init>", desc := "(I)V", sig := { parameters := [.int], returnType := none }, accessFlags := 0, code := some k11c1 }
def k11c2 : Code := { maxStack := 1, maxLocals := 1, code := jdk_68_method_6_code, exceptionTable := #[], attributes := #[] }
def k11m2 : Method := { name := "length", desc := "()I", sig := { parameters := [], returnType := some .int }, accessFlags := 1, code := some k11c2 }
def k11c3 : Code := { maxStack := 4, maxLocals := 3, code := jdk_68_method_9_code, exceptionTable := #[], attributes := #[] }
def k11m3 : Method := { name := "ensureCapacityInternal", desc := "(I)V", sig := { parameters := [.int], returnType := none }, accessFlags := 2, code := some k11c3 }
def k11c4 : Code := { maxStack := 5, maxLocals := 2, code := jdk_68_method_11_code, exceptionTable := #[], attributes := #[] }
def k11m4 : Method := { name := "inflate", desc := "()V", sig := { parameters := [], returnType := none }, accessFlags := 2, code := some k11c4 }
def k11c5 : Code := { maxStack := 3, maxLocals := 3, code := jdk_68_method_22_code, exceptionTable := #[], attributes := #[] }
def k11m5 : Method := { name := "append", desc := "(Ljava/lang/String;)Ljava/lang/AbstractStringBuilder;", sig := { parameters := [(.object "java/lang/String")], returnType := some (.object "java/lang/AbstractStringBuilder") }, accessFlags := 1, code := some k11c5 }
def k11c6 : Code := { maxStack := 1, maxLocals := 1, code := jdk_68_method_64_code, exceptionTable := #[], attributes := #[] }
def k11m6 : Method := { name := "getValue", desc := "()[B", sig := { parameters := [], returnType := some (.array .byte) }, accessFlags := 16, code := some k11c6 }
def k11c7 : Code := { maxStack := 1, maxLocals := 1, code := jdk_68_method_68_code, exceptionTable := #[], attributes := #[] }
def k11m7 : Method := { name := "isLatin1", desc := "()Z", sig := { parameters := [], returnType := some .boolean }, accessFlags := 16, code := some k11c7 }
def k11c8 : Code := { maxStack := 2, maxLocals := 2, code := jdk_68_method_71_code, exceptionTable := #[], attributes := #[] }
def k11m8 : Method := { name := "inflateIfNeededFor", desc := "(Ljava/lang/String;)V", sig := { parameters := [(.object "java/lang/String")], returnType := none }, accessFlags := 2, code := some k11c8 }
def k11c9 : Code := { maxStack := 4, maxLocals := 3, code := jdk_68_method_73_code, exceptionTable := #[], attributes := #[] }
def k11m9 : Method := { name := "putStringAt", desc := "(ILjava/lang/String;)V", sig := { parameters := [.int, (.object "java/lang/String")], returnType := none }, accessFlags := 2, code := some k11c9 }
/-- java/lang/AbstractStringBuilder -/
def k11 : Class := { plain "java/lang/AbstractStringBuilder" (some 0) with
  accessFlags := 1056
  interfaces := #[10, 4]
  cf := some (fileOf pool11 10 #[] #[{ accessFlags := 0, nameIndex := 7, descriptorIndex := 8, attributes := #[] }, { accessFlags := 0, nameIndex := 7, descriptorIndex := 103, attributes := #[] }, { accessFlags := 1, nameIndex := 34, descriptorIndex := 35, attributes := #[] }, { accessFlags := 2, nameIndex := 102, descriptorIndex := 103, attributes := #[] }, { accessFlags := 2, nameIndex := 127, descriptorIndex := 8, attributes := #[] }, { accessFlags := 1, nameIndex := 45, descriptorIndex := 46, attributes := #[] }, { accessFlags := 16, nameIndex := 552, descriptorIndex := 403, attributes := #[] }, { accessFlags := 16, nameIndex := 85, descriptorIndex := 86, attributes := #[] }, { accessFlags := 2, nameIndex := 217, descriptorIndex := 69, attributes := #[] }, { accessFlags := 2, nameIndex := 210, descriptorIndex := 211, attributes := #[] }] 1056 4 #[444, 48] #[{ accessFlags := 0, nameIndex := 17, descriptorIndex := 14, attributes := #[] }, { accessFlags := 0, nameIndex := 24, descriptorIndex := 25, attributes := #[] }, { accessFlags := 0, nameIndex := 75, descriptorIndex := 21, attributes := #[] }, { accessFlags := 0, nameIndex := 81, descriptorIndex := 82, attributes := #[] }, { accessFlags := 26, nameIndex := 13, descriptorIndex := 14, attributes := #[] }])
  fields := #[{ name := "value", type := (.array .byte), accessFlags := 0, slot := 0, constantValue := 0 }, { name := "coder", type := .byte, accessFlags := 0, slot := 1, constantValue := 0 }, { name := "maybeLatin1", type := .boolean, accessFlags := 0, slot := 2, constantValue := 0 }, { name := "count", type := .int, accessFlags := 0, slot := 3, constantValue := 0 }, { name := "EMPTYVALUE", type := (.array .byte), accessFlags := 26, slot := 0, constantValue := 0 }]
  methods := #[k11m0, k11m1, k11m2, k11m3, k11m4, k11m5, k11m6, k11m7, k11m8, k11m9]
  instanceTypes := #[(.array .byte), .byte, .boolean, .int]
  staticTypes := #[(.array .byte)]
  resolved := Array.replicate 609 none
  statics := none }

def pool12 : Array CpInfo := pool [(1, .methodref 2 3), (0, .class_ 4), (0, .nameAndType 5 6), (0, u "java/lang/AbstractStringBuilder"), (0, u "<init>"), (0, u "(I)V"), (11, .class_ 20), (1, u "java/lang/String"), (3, .class_ 26), (1, u "java/lang/StringBuilder"), (0, u "append"), (0, u "(Ljava/lang/String;)Ljava/lang/StringBuilder;"), (0, .methodref 2 30), (0, .nameAndType 27 31), (0, u "(Ljava/lang/String;)Ljava/lang/AbstractStringBuilder;"), (105, .methodref 18 138), (0, .nameAndType 5 139), (0, u "(Ljava/lang/StringBuilder;)V"), (5, u "()V"), (10, u "()I"), (186, .methodref 2 344), (0, .nameAndType 345 156), (0, u "length"), (3, .class_ 350), (0, u "java/lang/Appendable"), (0, .class_ 352), (0, u "java/io/Serializable"), (0, .class_ 354), (0, u "java/lang/Comparable"), (0, .class_ 356), (0, u "java/lang/CharSequence"), (0, u "serialVersionUID"), (0, u "J"), (40, u "toString"), (0, u "()Ljava/lang/String;")] 21

def k12c0 : Code := { maxStack := 2, maxLocals := 1, code := jdk_67_method_1_code, exceptionTable := #[], attributes := #[] }
def k12m0 : Method := { name := "<init>", desc := "()V", sig := { parameters := [], returnType := none }, accessFlags := 1, code := some k12c0 }
def k12c1 : Code := { maxStack := 2, maxLocals := 2, code := jdk_67_method_7_code, exceptionTable := #[], attributes := #[] }
def k12m1 : Method := { name := "append", desc := "(Ljava/lang/String;)Ljava/lang/StringBuilder;", sig := { parameters := [(.object "java/lang/String")], returnType := some (.object "java/lang/StringBuilder") }, accessFlags := 1, code := some k12c1 }
def k12c2 : Code := { maxStack := 3, maxLocals := 1, code := jdk_67_method_42_code, exceptionTable := #[], attributes := #[] }
def k12m2 : Method := { name := "toString", desc := "()Ljava/lang/String;", sig := { parameters := [], returnType := some (.object "java/lang/String") }, accessFlags := 1, code := some k12c2 }
def k12c3 : Code := { maxStack := 1, maxLocals := 1, code := jdk_67_method_93_code, exceptionTable := #[], attributes := #[] }
def k12m3 : Method := { name := "length", desc := "()I", sig := { parameters := [], returnType := some .int }, accessFlags := 4161, code := some k12c3 }
/-- java/lang/StringBuilder -/
def k12 : Class := { plain "java/lang/StringBuilder" (some 11) with
  accessFlags := 49
  interfaces := #[10, 2, 3, 4]
  cf := some (fileOf pool12 24 #[] #[{ accessFlags := 1, nameIndex := 5, descriptorIndex := 145, attributes := #[] }, { accessFlags := 1, nameIndex := 27, descriptorIndex := 28, attributes := #[] }, { accessFlags := 1, nameIndex := 399, descriptorIndex := 400, attributes := #[] }, { accessFlags := 4161, nameIndex := 345, descriptorIndex := 156, attributes := #[] }] 49 2 #[349, 351, 353, 355] #[{ accessFlags := 24, nameIndex := 357, descriptorIndex := 358, attributes := #[] }])
  fields := #[{ name := "serialVersionUID", type := .long, accessFlags := 24, slot := 0, constantValue := 0 }]
  methods := #[k12m0, k12m1, k12m2, k12m3]
  instanceTypes := #[(.array .byte), .byte, .boolean, .int]
  staticTypes := #[.long]
  resolved := Array.replicate 422 none
  statics := none }

def pool13 : Array CpInfo := pool [(2, .class_ 4), (1, u "java/lang/Object"), (0, u "<init>"), (0, u "()V"), (17, .class_ 26), (1, u "jdk/internal/util/Preconditions"), (20, u "checkFromToIndex"), (1, u "checkFromIndexSize"), (5, .class_ 56), (0, u "jdk/internal/util/Preconditions$4"), (57, .class_ 115), (0, u "jdk/internal/util/Preconditions$1"), (7, u "SIOOBE_FORMATTER"), (0, u "Ljava/util/function/BiFunction;"), (0, .class_ 126), (0, u "jdk/internal/util/Preconditions$2"), (3, u "AIOOBE_FORMATTER"), (0, .class_ 132), (0, u "jdk/internal/util/Preconditions$3"), (3, u "IOOBE_FORMATTER"), (46, u "(IIILjava/util/function/BiFunction;)I")] 10

def k13m0 : Method := { name := "<init>", desc := "()V", sig := { parameters := [], returnType := none }, accessFlags := 1, code := none }
def k13c1 : Code := { maxStack := 4, maxLocals := 4, code := jdk_41_method_12_code, exceptionTable := #[], attributes := #[] }
def k13m1 : Method := { name := "checkFromToIndex", desc := "(IIILjava/util/function/BiFunction;)I", sig := { parameters := [.int, .int, .int, (.object "java/util/function/BiFunction")], returnType := some .int }, accessFlags := 9, code := some k13c1 }
def k13c2 : Code := { maxStack := 4, maxLocals := 4, code := jdk_41_method_13_code, exceptionTable := #[], attributes := #[] }
def k13m2 : Method := { name := "checkFromIndexSize", desc := "(IIILjava/util/function/BiFunction;)I", sig := { parameters := [.int, .int, .int, (.object "java/util/function/BiFunction")], returnType := some .int }, accessFlags := 9, code := some k13c2 }
/-- jdk/internal/util/Preconditions -/
def k13 : Class := { plain "jdk/internal/util/Preconditions" (some 0) with
  accessFlags := 33
  interfaces := #[]
  cf := some (fileOf pool13 24 #[.nestMembers #[55, 131, 125, 114]] #[{ accessFlags := 1, nameIndex := 5, descriptorIndex := 6, attributes := #[] }, { accessFlags := 9, nameIndex := 47, descriptorIndex := 183, attributes := #[] }, { accessFlags := 9, nameIndex := 49, descriptorIndex := 183, attributes := #[] }] 33 2 #[] #[{ accessFlags := 25, nameIndex := 123, descriptorIndex := 124, attributes := #[] }, { accessFlags := 25, nameIndex := 130, descriptorIndex := 124, attributes := #[] }, { accessFlags := 25, nameIndex := 136, descriptorIndex := 124, attributes := #[] }])
  fields := #[{ name := "SIOOBE_FORMATTER", type := (.object "java/util/function/BiFunction"), accessFlags := 25, slot := 0, constantValue := 0 }, { name := "AIOOBE_FORMATTER", type := (.object "java/util/function/BiFunction"), accessFlags := 25, slot := 1, constantValue := 0 }, { name := "IOOBE_FORMATTER", type := (.object "java/util/function/BiFunction"), accessFlags := 25, slot := 2, constantValue := 0 }]
  methods := #[k13m0, k13m1, k13m2]
  instanceTypes := #[]
  staticTypes := #[(.object "java/util/function/BiFunction"), (.object "java/util/function/BiFunction"), (.object "java/util/function/BiFunction")]
  resolved := Array.replicate 194 none
  statics := some 2 }

def pool14 : Array CpInfo := pool [(1, .class_ 2), (0, u "java/lang/String"), (1, .class_ 6), (1, u "java/lang/Object"), (0, u "<init>"), (0, u "()V"), (5, .class_ 16), (1, u "java/lang/StringLatin1"), (0, u "inflate"), (2, .class_ 22), (1, u "java/lang/StringUTF16"), (3, .nameAndType 17 27), (0, u "([BI[BII)V"), (84, .methodref 1 113), (0, .nameAndType 7 114), (0, u "([BB)V"), (6, u "$assertionsDisabled"), (0, u "Z"), (8, .class_ 133), (1, u "java/util/Arrays"), (17, .string 152), (0, u ""), (43, u "newString"), (0, u "([BII)Ljava/lang/String;"), (23, .class_ 223), (1, u "java/lang/StringLatin1$LinesSpliterator"), (8, .methodref 131 233), (0, .nameAndType 234 235), (0, u "copyOfRange"), (0, u "([BII)[B"), (4, .methodref 20 26), (40, u "equals"), (0, u "([B[B)Z"), (107, .class_ 391), (0, u "java/lang/StringLatin1$CharsSpliterator")] 3

def k14m0 : Method := { name := "<init>", desc := "()V", sig := { parameters := [], returnType := none }, accessFlags := 0, code := none }
def k14c1 : Code := { maxStack := 3, maxLocals := 3, code := jdk_43_method_13_code, exceptionTable := #[], attributes := #[] }
def k14m1 : Method := { name := "equals", desc := "([B[B)Z", sig := { parameters := [(.array .byte), (.array .byte)], returnType := some .boolean }, accessFlags := 9, code := some k14c1 }
def k14c2 : Code := { maxStack := 6, maxLocals := 3, code := jdk_43_method_47_code, exceptionTable := #[], attributes := #[] }
def k14m2 : Method := { name := "newString", desc := "([BII)Ljava/lang/String;", sig := { parameters := [(.array .byte), .int, .int], returnType := some (.object "java/lang/String") }, accessFlags := 9, code := some k14c2 }
def k14c3 : Code := { maxStack := 5, maxLocals := 5, code := jdk_43_method_50_code, exceptionTable := #[], attributes := #[] }
def k14m3 : Method := { name := "inflate", desc := "([BI[BII)V", sig := { parameters := [(.array .byte), .int, (.array .byte), .int, .int], returnType := none }, accessFlags := 9, code := some k14c3 }
/-- java/lang/StringLatin1 -/
def k14 : Class := { plain "java/lang/StringLatin1" (some 0) with
  accessFlags := 48
  interfaces := #[]
  cf := some (fileOf pool14 14 #[.nestMembers #[390, 221]] #[{ accessFlags := 0, nameIndex := 7, descriptorIndex := 8, attributes := #[] }, { accessFlags := 9, nameIndex := 281, descriptorIndex := 282, attributes := #[] }, { accessFlags := 9, nameIndex := 196, descriptorIndex := 197, attributes := #[] }, { accessFlags := 9, nameIndex := 17, descriptorIndex := 27, attributes := #[] }] 48 4 #[] #[{ accessFlags := 4120, nameIndex := 121, descriptorIndex := 122, attributes := #[] }])
  fields := #[{ name := "$assertionsDisabled", type := .boolean, accessFlags := 4120, slot := 0, constantValue := 0 }]
  methods := #[k14m0, k14m1, k14m2, k14m3]
  instanceTypes := #[]
  staticTypes := #[.boolean]
  resolved := Array.replicate 395 none
  statics := none }

def pool15 : Array CpInfo := pool [(2, .class_ 4), (1, u "java/lang/Object"), (0, u "<init>"), (0, u "()V"), (1, .class_ 10), (1, u "java/lang/System"), (0, u "allowSecurityManager"), (0, u "I"), (16, u "cons"), (0, u "Ljava/io/Console;"), (77, .class_ 110), (1, u "java/lang/System$CallersHolder"), (43, u "initialErrStream"), (0, u "Ljava/io/PrintStream;"), (19, u "security"), (0, u "Ljava/lang/SecurityManager;"), (31, .class_ 209), (0, u "java/lang/System$1"), (7, u "props"), (0, u "Ljava/util/Properties;"), (2, u "lineSeparator"), (0, u "Ljava/lang/String;"), (96, .class_ 321), (1, u "java/lang/System$LoggerFinder"), (5, .class_ 328), (0, u "java/lang/System$Logger"), (67, u "err"), (2, u "out"), (91, u "notSupportedJnuEncoding"), (15, u "in"), (17, u "initialIn"), (0, u "Ljava/io/InputStream;"), (35, u "bootLayer"), (0, u "Ljava/lang/ModuleLayer;"), (99, .class_ 664), (0, u "java/lang/System$2"), (9, u "NEVER"), (2, u "MAYBE"), (49, u "arraycopy"), (0, u "(Ljava/lang/Object;ILjava/lang/Object;II)V"), (72, .class_ 802), (0, u "java/lang/System$Logger$Level")] 31

def k15m0 : Method := { name := "<init>", desc := "()V", sig := { parameters := [], returnType := none }, accessFlags := 2, code := none }
def k15m1 : Method := { name := "arraycopy", desc := "(Ljava/lang/Object;ILjava/lang/Object;II)V", sig := { parameters := [(.object "java/lang/Object"), .int, (.object "java/lang/Object"), .int, .int], returnType := none }, accessFlags := 265, code := none }
/-- java/lang/System -/
def k15 : Class := { plain "java/lang/System" (some 0) with
  accessFlags := 49
  interfaces := #[]
  cf := some (fileOf pool15 8 #[.nestMembers #[319, 327, 801, 108, 663, 208]] #[{ accessFlags := 2, nameIndex := 5, descriptorIndex := 6, attributes := #[] }, { accessFlags := 265, nameIndex := 727, descriptorIndex := 728, attributes := #[] }] 49 2 #[] #[{ accessFlags := 25, nameIndex := 507, descriptorIndex := 526, attributes := #[] }, { accessFlags := 25, nameIndex := 399, descriptorIndex := 155, attributes := #[] }, { accessFlags := 25, nameIndex := 396, descriptorIndex := 155, attributes := #[] }, { accessFlags := 10, nameIndex := 525, descriptorIndex := 526, attributes := #[] }, { accessFlags := 26, nameIndex := 674, descriptorIndex := 12, attributes := #[] }, { accessFlags := 26, nameIndex := 677, descriptorIndex := 12, attributes := #[] }, { accessFlags := 10, nameIndex := 11, descriptorIndex := 12, attributes := #[] }, { accessFlags := 74, nameIndex := 175, descriptorIndex := 176, attributes := #[] }, { accessFlags := 10, nameIndex := 491, descriptorIndex := 222, attributes := #[] }, { accessFlags := 74, nameIndex := 29, descriptorIndex := 30, attributes := #[] }, { accessFlags := 74, nameIndex := 154, descriptorIndex := 155, attributes := #[] }, { accessFlags := 10, nameIndex := 217, descriptorIndex := 218, attributes := #[] }, { accessFlags := 10, nameIndex := 221, descriptorIndex := 222, attributes := #[] }, { accessFlags := 8, nameIndex := 562, descriptorIndex := 563, attributes := #[] }])
  fields := #[{ name := "in", type := (.object "java/io/InputStream"), accessFlags := 25, slot := 0, constantValue := 0 }, { name := "out", type := (.object "java/io/PrintStream"), accessFlags := 25, slot := 1, constantValue := 0 }, { name := "err", type := (.object "java/io/PrintStream"), accessFlags := 25, slot := 2, constantValue := 0 }, { name := "initialIn", type := (.object "java/io/InputStream"), accessFlags := 10, slot := 3, constantValue := 0 }, { name := "NEVER", type := .int, accessFlags := 26, slot := 4, constantValue := 0 }, { name := "MAYBE", type := .int, accessFlags := 26, slot := 5, constantValue := 0 }, { name := "allowSecurityManager", type := .int, accessFlags := 10, slot := 6, constantValue := 0 }, { name := "security", type := (.object "java/lang/SecurityManager"), accessFlags := 74, slot := 7, constantValue := 0 }, { name := "notSupportedJnuEncoding", type := (.object "java/lang/String"), accessFlags := 10, slot := 8, constantValue := 0 }, { name := "cons", type := (.object "java/io/Console"), accessFlags := 74, slot := 9, constantValue := 0 }, { name := "initialErrStream", type := (.object "java/io/PrintStream"), accessFlags := 74, slot := 10, constantValue := 0 }, { name := "props", type := (.object "java/util/Properties"), accessFlags := 10, slot := 11, constantValue := 0 }, { name := "lineSeparator", type := (.object "java/lang/String"), accessFlags := 10, slot := 12, constantValue := 0 }, { name := "bootLayer", type := (.object "java/lang/ModuleLayer"), accessFlags := 8, slot := 13, constantValue := 0 }]
  methods := #[k15m0, k15m1]
  instanceTypes := #[]
  staticTypes := #[(.object "java/io/InputStream"), (.object "java/io/PrintStream"), (.object "java/io/PrintStream"), (.object "java/io/InputStream"), .int, .int, .int, (.object "java/lang/SecurityManager"), (.object "java/lang/String"), (.object "java/io/Console"), (.object "java/io/PrintStream"), (.object "java/util/Properties"), (.object "java/lang/String"), (.object "java/lang/ModuleLayer")]
  resolved := Array.replicate 834 none
  statics := none }

def pool16 : Array CpInfo := pool [(2, .class_ 4), (1, u "java/lang/Object"), (0, u "<init>"), (0, u "()V"), (7, .class_ 16), (1, u "java/util/Arrays"), (57, .class_ 76), (1, u "java/util/Arrays$NaturalOrder"), (36, .class_ 115), (1, u "java/util/Arrays$LegacyMergeSort"), (1, u "Z"), (21, u "copyOfRange"), (10, .methodref 151 152), (0, .class_ 153), (0, .nameAndType 154 155), (0, u "java/lang/System"), (0, u "arraycopy"), (0, u "(Ljava/lang/Object;ILjava/lang/Object;II)V"), (148, .methodref 305 306), (0, .class_ 307), (0, .nameAndType 308 309), (0, u "java/lang/Math"), (0, u "min"), (0, u "(II)I"), (29, .methodref 14 340), (0, .nameAndType 341 342), (0, u "copyOfRangeByte"), (0, u "([BII)[B"), (0, .methodref 14 344), (0, .nameAndType 345 346), (0, u "checkLength"), (0, u "(II)V"), (28, .class_ 376), (0, u "java/util/Arrays$ArrayList"), (68, u "$assertionsDisabled"), (269, u "MIN_ARRAY_SORT_GRAN"), (0, u "I"), (2, u "INSERTIONSORT_THRESHOLD"), (255, .class_ 976), (0, u "java/util/Arrays$ArrayItr")] 52

def k16m0 : Method := { name := "<init>", desc := "()V", sig := { parameters := [], returnType := none }, accessFlags := 2, code := none }
def k16c1 : Code := { maxStack := 4, maxLocals := 2, code := jdk_65_method_131_code, exceptionTable := #[], attributes := #[] }
def k16m1 : Method := { name := "checkLength", desc := "(II)V", sig := { parameters := [.int, .int], returnType := none }, accessFlags := 10, code := some k16c1 }
def k16c2 : Code := { maxStack := 3, maxLocals := 3, code := jdk_65_method_132_code, exceptionTable := #[], attributes := #[] }
def k16m2 : Method := { name := "copyOfRange", desc := "([BII)[B", sig := { parameters := [(.array .byte), .int, .int], returnType := some (.array .byte) }, accessFlags := 9, code := some k16c2 }
def k16c3 : Code := { maxStack := 6, maxLocals := 5, code := jdk_65_method_133_code, exceptionTable := #[], attributes := #[] }
def k16m3 : Method := { name := "copyOfRangeByte", desc := "([BII)[B", sig := { parameters := [(.array .byte), .int, .int], returnType := some (.array .byte) }, accessFlags := 10, code := some k16c3 }
/-- java/util/Arrays -/
def k16 : Class := { plain "java/util/Arrays" (some 0) with
  accessFlags := 49
  interfaces := #[]
  cf := some (fileOf pool16 14 #[.nestMembers #[975, 375, 113, 74]] #[{ accessFlags := 2, nameIndex := 5, descriptorIndex := 6, attributes := #[] }, { accessFlags := 10, nameIndex := 345, descriptorIndex := 346, attributes := #[] }, { accessFlags := 9, nameIndex := 139, descriptorIndex := 342, attributes := #[] }, { accessFlags := 10, nameIndex := 341, descriptorIndex := 342, attributes := #[] }] 49 2 #[] #[{ accessFlags := 26, nameIndex := 715, descriptorIndex := 716, attributes := #[] }, { accessFlags := 26, nameIndex := 719, descriptorIndex := 716, attributes := #[] }, { accessFlags := 4120, nameIndex := 445, descriptorIndex := 117, attributes := #[] }])
  fields := #[{ name := "MIN_ARRAY_SORT_GRAN", type := .int, accessFlags := 26, slot := 0, constantValue := 0 }, { name := "INSERTIONSORT_THRESHOLD", type := .int, accessFlags := 26, slot := 1, constantValue := 0 }, { name := "$assertionsDisabled", type := .boolean, accessFlags := 4120, slot := 2, constantValue := 0 }]
  methods := #[k16m0, k16m1, k16m2, k16m3]
  instanceTypes := #[]
  staticTypes := #[.int, .int, .boolean]
  resolved := Array.replicate 1029 none
  statics := none }

def pool17 : Array CpInfo := pool [(1, .class_ 2), (0, u "java/lang/Math"), (1, .class_ 6), (1, u "java/lang/Object"), (0, u "<init>"), (0, u "()V"), (89, .class_ 100), (1, u "java/lang/Math$RandomNumberGeneratorHolder"), (71, u "negativeZeroFloatBits"), (0, u "J"), (2, u "negativeZeroDoubleBits"), (24, u "min"), (43, u "$assertionsDisabled"), (0, u "Z"), (88, u "(II)I"), (2, u "twoToTheDoubleScaleDown"), (0, u "D"), (4, u "twoToTheDoubleScaleUp"), (9, u "E"), (3, u "PI"), (2, u "TAU"), (2, u "DEGREES_TO_RADIANS"), (0, u "RADIANS_TO_DEGREES")] 94

def k17m0 : Method := { name := "<init>", desc := "()V", sig := { parameters := [], returnType := none }, accessFlags := 2, code := none }
def k17c1 : Code := { maxStack := 2, maxLocals := 2, code := jdk_29_method_69_code, exceptionTable := #[], attributes := #[] }
def k17m1 : Method := { name := "min", desc := "(II)I", sig := { parameters := [.int, .int], returnType := some .int }, accessFlags := 9, code := some k17c1 }
/-- java/lang/Math -/
def k17 : Class := { plain "java/lang/Math" (some 0) with
  accessFlags := 49
  interfaces := #[]
  cf := some (fileOf pool17 1 #[.nestMembers #[98]] #[{ accessFlags := 2, nameIndex := 7, descriptorIndex := 8, attributes := #[] }, { accessFlags := 9, nameIndex := 201, descriptorIndex := 335, attributes := #[] }] 49 4 #[] #[{ accessFlags := 25, nameIndex := 354, descriptorIndex := 339, attributes := #[] }, { accessFlags := 25, nameIndex := 358, descriptorIndex := 339, attributes := #[] }, { accessFlags := 25, nameIndex := 361, descriptorIndex := 339, attributes := #[] }, { accessFlags := 26, nameIndex := 364, descriptorIndex := 339, attributes := #[] }, { accessFlags := 26, nameIndex := 365, descriptorIndex := 339, attributes := #[] }, { accessFlags := 26, nameIndex := 172, descriptorIndex := 173, attributes := #[] }, { accessFlags := 26, nameIndex := 176, descriptorIndex := 173, attributes := #[] }, { accessFlags := 8, nameIndex := 344, descriptorIndex := 339, attributes := #[] }, { accessFlags := 8, nameIndex := 338, descriptorIndex := 339, attributes := #[] }, { accessFlags := 4120, nameIndex := 245, descriptorIndex := 246, attributes := #[] }])
  fields := #[{ name := "E", type := .double, accessFlags := 25, slot := 0, constantValue := 0 }, { name := "PI", type := .double, accessFlags := 25, slot := 1, constantValue := 0 }, { name := "TAU", type := .double, accessFlags := 25, slot := 2, constantValue := 0 }, { name := "DEGREES_TO_RADIANS", type := .double, accessFlags := 26, slot := 3, constantValue := 0 }, { name := "RADIANS_TO_DEGREES", type := .double, accessFlags := 26, slot := 4, constantValue := 0 }, { name := "negativeZeroFloatBits", type := .long, accessFlags := 26, slot := 5, constantValue := 0 }, { name := "negativeZeroDoubleBits", type := .long, accessFlags := 26, slot := 6, constantValue := 0 }, { name := "twoToTheDoubleScaleUp", type := .double, accessFlags := 8, slot := 7, constantValue := 0 }, { name := "twoToTheDoubleScaleDown", type := .double, accessFlags := 8, slot := 8, constantValue := 0 }, { name := "$assertionsDisabled", type := .boolean, accessFlags := 4120, slot := 9, constantValue := 0 }]
  methods := #[k17m0, k17m1]
  instanceTypes := #[]
  staticTypes := #[.double, .double, .double, .double, .double, .long, .long, .double, .double, .boolean]
  resolved := Array.replicate 460 none
  statics := none }

def pool18 : Array CpInfo := pool [(9, u "<init>"), (6, .class_ 18), (1, u "java/lang/Object"), (0, u "()V"), (1, .class_ 23), (1, u "jdk/internal/util/ArraysSupport"), (0, u "LOG2_ARRAY_LONG_INDEX_SCALE"), (0, u "I"), (2, u "U"), (0, u "Ljdk/internal/misc/Unsafe;"), (8, u "BIG_ENDIAN"), (0, u "Z"), (8, u "LOG2_BYTE_BIT_SIZE"), (4, u "LOG2_ARRAY_INT_INDEX_SCALE"), (54, u "JLA"), (0, u "Ljdk/internal/access/JavaLangAccess;"), (11, u "LOG2_ARRAY_BOOLEAN_INDEX_SCALE"), (9, u "LOG2_ARRAY_BYTE_INDEX_SCALE"), (5, u "LOG2_ARRAY_CHAR_INDEX_SCALE"), (5, u "LOG2_ARRAY_SHORT_INDEX_SCALE"), (18, u "LOG2_ARRAY_FLOAT_INDEX_SCALE"), (24, u "LOG2_ARRAY_DOUBLE_INDEX_SCALE"), (89, u "T_BOOLEAN"), (2, u "T_CHAR"), (1, u "T_FLOAT"), (1, u "T_DOUBLE"), (1, u "T_BYTE"), (1, u "T_SHORT"), (1, u "T_INT"), (1, u "T_LONG"), (1, u "SOFT_MAX_ARRAY_LENGTH")] 83

def k18m0 : Method := { name := "<init>", desc := "()V", sig := { parameters := [], returnType := none }, accessFlags := 2, code := none }
/-- jdk/internal/util/ArraysSupport -/
def k18 : Class := { plain "jdk/internal/util/ArraysSupport" (some 0) with
  accessFlags := 33
  interfaces := #[]
  cf := some (fileOf pool18 21 #[] #[{ accessFlags := 2, nameIndex := 9, descriptorIndex := 19, attributes := #[] }] 33 16 #[] #[{ accessFlags := 24, nameIndex := 28, descriptorIndex := 29, attributes := #[] }, { accessFlags := 26, nameIndex := 38, descriptorIndex := 39, attributes := #[] }, { accessFlags := 25, nameIndex := 121, descriptorIndex := 25, attributes := #[] }, { accessFlags := 25, nameIndex := 131, descriptorIndex := 25, attributes := #[] }, { accessFlags := 25, nameIndex := 137, descriptorIndex := 25, attributes := #[] }, { accessFlags := 25, nameIndex := 143, descriptorIndex := 25, attributes := #[] }, { accessFlags := 25, nameIndex := 53, descriptorIndex := 25, attributes := #[] }, { accessFlags := 25, nameIndex := 24, descriptorIndex := 25, attributes := #[] }, { accessFlags := 25, nameIndex := 162, descriptorIndex := 25, attributes := #[] }, { accessFlags := 25, nameIndex := 187, descriptorIndex := 25, attributes := #[] }, { accessFlags := 26, nameIndex := 48, descriptorIndex := 25, attributes := #[] }, { accessFlags := 25, nameIndex := 277, descriptorIndex := 25, attributes := #[] }, { accessFlags := 25, nameIndex := 280, descriptorIndex := 25, attributes := #[] }, { accessFlags := 25, nameIndex := 282, descriptorIndex := 25, attributes := #[] }, { accessFlags := 25, nameIndex := 284, descriptorIndex := 25, attributes := #[] }, { accessFlags := 25, nameIndex := 286, descriptorIndex := 25, attributes := #[] }, { accessFlags := 25, nameIndex := 288, descriptorIndex := 25, attributes := #[] }, { accessFlags := 25, nameIndex := 290, descriptorIndex := 25, attributes := #[] }, { accessFlags := 25, nameIndex := 292, descriptorIndex := 25, attributes := #[] }, { accessFlags := 26, nameIndex := 108, descriptorIndex := 109, attributes := #[] }, { accessFlags := 25, nameIndex := 294, descriptorIndex := 25, attributes := #[] }])
  fields := #[{ name := "U", type := (.object "jdk/internal/misc/Unsafe"), accessFlags := 24, slot := 0, constantValue := 0 }, { name := "BIG_ENDIAN", type := .boolean, accessFlags := 26, slot := 1, constantValue := 0 }, { name := "LOG2_ARRAY_BOOLEAN_INDEX_SCALE", type := .int, accessFlags := 25, slot := 2, constantValue := 0 }, { name := "LOG2_ARRAY_BYTE_INDEX_SCALE", type := .int, accessFlags := 25, slot := 3, constantValue := 0 }, { name := "LOG2_ARRAY_CHAR_INDEX_SCALE", type := .int, accessFlags := 25, slot := 4, constantValue := 0 }, { name := "LOG2_ARRAY_SHORT_INDEX_SCALE", type := .int, accessFlags := 25, slot := 5, constantValue := 0 }, { name := "LOG2_ARRAY_INT_INDEX_SCALE", type := .int, accessFlags := 25, slot := 6, constantValue := 0 }, { name := "LOG2_ARRAY_LONG_INDEX_SCALE", type := .int, accessFlags := 25, slot := 7, constantValue := 0 }, { name := "LOG2_ARRAY_FLOAT_INDEX_SCALE", type := .int, accessFlags := 25, slot := 8, constantValue := 0 }, { name := "LOG2_ARRAY_DOUBLE_INDEX_SCALE", type := .int, accessFlags := 25, slot := 9, constantValue := 0 }, { name := "LOG2_BYTE_BIT_SIZE", type := .int, accessFlags := 26, slot := 10, constantValue := 0 }, { name := "T_BOOLEAN", type := .int, accessFlags := 25, slot := 11, constantValue := 0 }, { name := "T_CHAR", type := .int, accessFlags := 25, slot := 12, constantValue := 0 }, { name := "T_FLOAT", type := .int, accessFlags := 25, slot := 13, constantValue := 0 }, { name := "T_DOUBLE", type := .int, accessFlags := 25, slot := 14, constantValue := 0 }, { name := "T_BYTE", type := .int, accessFlags := 25, slot := 15, constantValue := 0 }, { name := "T_SHORT", type := .int, accessFlags := 25, slot := 16, constantValue := 0 }, { name := "T_INT", type := .int, accessFlags := 25, slot := 17, constantValue := 0 }, { name := "T_LONG", type := .int, accessFlags := 25, slot := 18, constantValue := 0 }, { name := "JLA", type := (.object "jdk/internal/access/JavaLangAccess"), accessFlags := 26, slot := 19, constantValue := 0 }, { name := "SOFT_MAX_ARRAY_LENGTH", type := .int, accessFlags := 25, slot := 20, constantValue := 0 }]
  methods := #[k18m0]
  instanceTypes := #[]
  staticTypes := #[(.object "jdk/internal/misc/Unsafe"), .boolean, .int, .int, .int, .int, .int, .int, .int, .int, .int, .int, .int, .int, .int, .int, .int, .int, .int, (.object "jdk/internal/access/JavaLangAccess"), .int]
  resolved := Array.replicate 378 none
  statics := none }

def pool19 : Array CpInfo := pool [(1, u "java/lang/Cloneable"), (0, .class_ 1), (0, u "java/lang/Object"), (0, .class_ 3)] 3

/-- java/lang/Cloneable -/
def k19 : Class := { plain "java/lang/Cloneable" (some 0) with
  accessFlags := 1537
  interfaces := #[]
  cf := some (fileOf pool19 2 #[] #[] 1537 4 #[] #[])
  fields := #[]
  methods := #[]
  instanceTypes := #[]
  staticTypes := #[]
  resolved := Array.replicate 8 none
  statics := none }

/-- the primitive byte -/
def k20 : Class := { plain "byte" none with kind := .primitive 'B', accessFlags := 0x411 }
/-- [B -/
def k21 : Class := { plain "[B" (some 0) with kind := .array 20 .byte, interfaces := #[19, 2], accessFlags := 1041 }

/-- the primitive char -/
def k22 : Class := { plain "char" none with kind := .primitive 'C', accessFlags := 0x411 }
/-- [C -/
def k23 : Class := { plain "[C" (some 0) with kind := .array 22 .char, interfaces := #[19, 2], accessFlags := 1041 }

/-- the primitive int -/
def k24 : Class := { plain "int" none with kind := .primitive 'I', accessFlags := 0x411 }
/-- [I -/
def k25 : Class := { plain "[I" (some 0) with kind := .array 24 .int, interfaces := #[19, 2], accessFlags := 1041 }

def heap : Heap := #[{ cls := 7, slots := #[.long 0, .int 1, .null, .int 0, .null, .int 0, .int 0], vm := .statics 7 },
  { cls := 8, slots := #[.int 0, .int 8, .int 0, .int 1], vm := .statics 8 },
  { cls := 13, slots := #[.null, .null, .null], vm := .statics 13 }]
def classes : Array Class := #[k0, k1, k2, k3, k4, k5, k6, k7, k8, k9, k10, k11, k12, k13, k14, k15, k16, k17, k18, k19, k20, k21, k22, k23, k24, k25]
def interned : List (Array UInt16 × Addr) := []
def slotsUsed : Nat := 14
def theMethod : MethodId := ⟨1, 1⟩
def args0 : Array Value := #[.int 5, .int 5, .int 5]
def aboutOver (below : List Frame) : State where
  vm := { classes := classes, interned := interned.toArray }
  heap := heap
  slotsUsed := slotsUsed
  threads := #[{ frames := .invoking theMethod args0 :: below }]
def below0 : List Frame := [.native { method := ⟨0, 0⟩, args := #[] }]
def about1 : State := aboutOver below0
def p0 : Program := .bare "" "" ""
def e0 : Env := launch0.env 0 0 0
theorem w_frames : about1.frames = Frame.invoking theMethod args0 :: below0 := rfl
set_option maxRecDepth 65536 in
theorem w_args : argsFit about1.vm theMethod args0 = true := by decide +kernel
set_option maxRecDepth 65536 in
theorem w_heap : heapFits about1 = true := by decide +kernel
set_option maxRecDepth 65536 in
theorem w_runnable : about1.curStatus? = some .runnable := by decide +kernel
set_option maxRecDepth 65536 in
theorem w_alone : about1.alone = true := by decide +kernel
set_option maxRecDepth 65536 in
theorem w_named : about1.methodNamed? x = some theMethod := by decide +kernel
set_option maxRecDepth 65536 in
theorem w_hears : about1.hears theMethod below0 = true := by decide +kernel
set_option maxRecDepth 65536 in
theorem w_ripe : about1.ripe theMethod args0 below0 = true := by decide +kernel
theorem w_running : about1.status = .running := rfl
set_option maxRecDepth 65536 in
theorem w_room : about1.hasRoom e0.platform room_1 = true :=
  launch0.hasRoom_least _ room_1 (by decide +kernel) (by decide +kernel) (by decide +kernel) (by decide +kernel) (by decide +kernel) (by decide +kernel)
theorem allAtoms_all (ts : List Jvm.Cond) (a : Array Jvm.Value) (st : Jvm.State) : (allAtoms ts).before a st = ts.all (fun c => c.before a st) := by
  induction ts with
  | nil => rfl
  | cons c t ih =>
    show (Jvm.Cond.and c (allAtoms t)).before a st = _
    rw [Jvm.Cond.before_and, ih, List.all_cons]
def words1 : List Jvm.Cond := Jvm.Cond.code x code maxLocals ret :: tables_1
/-- a 'code' word, met by the world's own term for the bytes: nothing is compared byte by byte -/
theorem code_word {y : MethodName} {bytes : ByteArray} {mx : Nat} {rt : Option FieldType} {a : Array Value} {s : State} {m : MethodId} {meth : Method} {c : Code} (h1 : s.methodNamed? y = some m) (h2 : s.vm.method? m = some meth) (h3 : meth.code = some c) (h4 : c.code = bytes)
    (h5 : (c.maxLocals == mx && c.exceptionTable.isEmpty && decide (c.maxStack ≤ mostOperands) && decide (meth.sig.returnType = rt) && !meth.locks && decide (parseMethodDescriptor y.desc = some meth.sig)) = true) : (Jvm.Cond.code y bytes mx rt).before a s = true := by
  simp only [Bool.and_eq_true, beq_iff_eq, Bool.not_eq_true', decide_eq_true_eq] at h5
  obtain ⟨⟨⟨⟨⟨g1, g2⟩, g3⟩, g4⟩, g5⟩, g6⟩ := h5
  simp [Cond.before, Cond.holds, Cond.value, h1, h2, h3, h4, g1, g2, g3, g4, g5, g6]
def isCode : Jvm.Cond → Bool
  | .code _ _ _ _ => true
  | _ => false
theorem all_split {L : List Jvm.Cond} {P : Jvm.Cond → Bool} (h1 : L.all (fun c => isCode c || P c) = true) (h2 : ∀ c ∈ L.filter isCode, P c = true) : L.all P = true := by
  refine List.all_eq_true.mpr fun c hc => ?_
  have h := List.all_eq_true.mp h1 c hc
  rcases Bool.eq_false_or_eq_true (isCode c) with hi | hi
  · exact h2 c (List.mem_filter.mpr ⟨hc, hi⟩)
  · simpa [hi] using h
set_option maxRecDepth 65536 in
theorem w_c0 : (Jvm.Cond.code x code maxLocals ret).before args0 about1 = true := code_word (m := ⟨1, 1⟩) (meth := k1m1) (c := k1c1) (by decide +kernel) rfl rfl rfl (by decide +kernel)
set_option maxRecDepth 65536 in
theorem w_c1 : (Jvm.Cond.code ({ cls := "io/dyeline/store/LayoutSetsPartPinLaw", name := "make", desc := "(ICCCCCCCC)[C" } : Jvm.MethodName) method_3_code (10 : Nat) (Option.some (Jvm.ClassFile.FieldType.array Jvm.ClassFile.FieldType.char))).before args0 about1 = true := code_word (m := ⟨1, 2⟩) (meth := k1m2) (c := k1c2) (by decide +kernel) rfl rfl rfl (by decide +kernel)
set_option maxRecDepth 65536 in
theorem w_c2 : (Jvm.Cond.code ({ cls := "java/lang/String", name := "<init>", desc := "([C)V" } : Jvm.MethodName) jdk_42_method_3_code (2 : Nat) (Option.none : Option Jvm.ClassFile.FieldType)).before args0 about1 = true := code_word (m := ⟨7, 1⟩) (meth := k7m1) (c := k7c1) (by decide +kernel) rfl rfl rfl (by decide +kernel)
set_option maxRecDepth 65536 in
theorem w_c3 : (Jvm.Cond.code ({ cls := "java/lang/String", name := "<init>", desc := "([CIILjava/lang/Void;)V" } : Jvm.MethodName) jdk_42_method_149_code (6 : Nat) (Option.none : Option Jvm.ClassFile.FieldType)).before args0 about1 = true := code_word (m := ⟨7, 7⟩) (meth := k7m7) (c := k7c7) (by decide +kernel) rfl rfl rfl (by decide +kernel)
set_option maxRecDepth 65536 in
theorem w_c4 : (Jvm.Cond.code ({ cls := "java/lang/Object", name := "<init>", desc := "()V" } : Jvm.MethodName) object_method_1_code (1 : Nat) (Option.none : Option Jvm.ClassFile.FieldType)).before args0 about1 = true := code_word (m := ⟨0, 0⟩) (meth := k0m0) (c := k0c0) (by decide +kernel) rfl rfl rfl (by decide +kernel)
set_option maxRecDepth 65536 in
theorem w_c5 : (Jvm.Cond.code ({ cls := "java/lang/StringUTF16", name := "compress", desc := "([CII)[B" } : Jvm.MethodName) jdk_52_method_16_code (6 : Nat) (Option.some (Jvm.ClassFile.FieldType.array Jvm.ClassFile.FieldType.byte))).before args0 about1 = true := code_word (m := ⟨8, 8⟩) (meth := k8m8) (c := k8c8) (by decide +kernel) rfl rfl rfl (by decide +kernel)
set_option maxRecDepth 65536 in
theorem w_c6 : (Jvm.Cond.code ({ cls := "java/lang/StringUTF16", name := "compress", desc := "([CI[BII)I" } : Jvm.MethodName) jdk_52_method_21_code (7 : Nat) (Option.some Jvm.ClassFile.FieldType.int)).before args0 about1 = true := code_word (m := ⟨8, 10⟩) (meth := k8m10) (c := k8c10) (by decide +kernel) rfl rfl rfl (by decide +kernel)
set_option maxRecDepth 65536 in
theorem w_c7 : (Jvm.Cond.code ({ cls := "java/lang/StringUTF16", name := "coderFromArrayLen", desc := "([BI)B" } : Jvm.MethodName) jdk_52_method_15_code (2 : Nat) (Option.some Jvm.ClassFile.FieldType.byte)).before args0 about1 = true := code_word (m := ⟨8, 7⟩) (meth := k8m7) (c := k8c7) (by decide +kernel) rfl rfl rfl (by decide +kernel)
set_option maxRecDepth 65536 in
theorem w_c8 : (Jvm.Cond.code ({ cls := "io/dyeline/store/Layout", name := "setsPart", desc := "(Ljava/lang/String;)Ljava/lang/String;" } : Jvm.MethodName) prog_8_method_4_code (1 : Nat) (Option.some (Jvm.ClassFile.FieldType.object "java/lang/String"))).before args0 about1 = true := code_word (m := ⟨9, 1⟩) (meth := k9m1) (c := k9c1) (by decide +kernel) rfl rfl rfl (by decide +kernel)
set_option maxRecDepth 65536 in
theorem w_c9 : (Jvm.Cond.code ({ cls := "java/lang/StringBuilder", name := "<init>", desc := "()V" } : Jvm.MethodName) jdk_67_method_1_code (1 : Nat) (Option.none : Option Jvm.ClassFile.FieldType)).before args0 about1 = true := code_word (m := ⟨12, 0⟩) (meth := k12m0) (c := k12c0) (by decide +kernel) rfl rfl rfl (by decide +kernel)
set_option maxRecDepth 65536 in
theorem w_c10 : (Jvm.Cond.code ({ cls := "java/lang/AbstractStringBuilder", name := "<init>", desc := "(I)V" } : Jvm.MethodName) jdk_68_method_2_code (2 : Nat) (Option.none : Option Jvm.ClassFile.FieldType)).before args0 about1 = true := code_word (m := ⟨11, 1⟩) (meth := k11m1) (c := k11c1) (by decide +kernel) rfl rfl rfl (by decide +kernel)
set_option maxRecDepth 65536 in
theorem w_c11 : (Jvm.Cond.code ({ cls := "java/lang/String", name := "length", desc := "()I" } : Jvm.MethodName) jdk_42_method_54_code (1 : Nat) (Option.some Jvm.ClassFile.FieldType.int)).before args0 about1 = true := code_word (m := ⟨7, 3⟩) (meth := k7m3) (c := k7c3) (by decide +kernel) rfl rfl rfl (by decide +kernel)
set_option maxRecDepth 65536 in
theorem w_c12 : (Jvm.Cond.code ({ cls := "java/lang/String", name := "coder", desc := "()B" } : Jvm.MethodName) jdk_42_method_152_code (1 : Nat) (Option.some Jvm.ClassFile.FieldType.byte)).before args0 about1 = true := code_word (m := ⟨7, 10⟩) (meth := k7m10) (c := k7c10) (by decide +kernel) rfl rfl rfl (by decide +kernel)
set_option maxRecDepth 65536 in
theorem w_c13 : (Jvm.Cond.code ({ cls := "java/lang/String", name := "substring", desc := "(II)Ljava/lang/String;" } : Jvm.MethodName) jdk_42_method_92_code (5 : Nat) (Option.some (Jvm.ClassFile.FieldType.object "java/lang/String"))).before args0 about1 = true := code_word (m := ⟨7, 5⟩) (meth := k7m5) (c := k7c5) (by decide +kernel) rfl rfl rfl (by decide +kernel)
set_option maxRecDepth 65536 in
theorem w_c14 : (Jvm.Cond.code ({ cls := "java/lang/String", name := "checkBoundsBeginEnd", desc := "(III)V" } : Jvm.MethodName) jdk_42_method_158_code (3 : Nat) (Option.none : Option Jvm.ClassFile.FieldType)).before args0 about1 = true := code_word (m := ⟨7, 13⟩) (meth := k7m13) (c := k7c13) (by decide +kernel) rfl rfl rfl (by decide +kernel)
set_option maxRecDepth 65536 in
theorem w_c15 : (Jvm.Cond.code ({ cls := "jdk/internal/util/Preconditions", name := "checkFromToIndex", desc := "(IIILjava/util/function/BiFunction;)I" } : Jvm.MethodName) jdk_41_method_12_code (4 : Nat) (Option.some Jvm.ClassFile.FieldType.int)).before args0 about1 = true := code_word (m := ⟨13, 1⟩) (meth := k13m1) (c := k13c1) (by decide +kernel) rfl rfl rfl (by decide +kernel)
set_option maxRecDepth 65536 in
theorem w_c16 : (Jvm.Cond.code ({ cls := "java/lang/String", name := "isLatin1", desc := "()Z" } : Jvm.MethodName) jdk_42_method_154_code (1 : Nat) (Option.some Jvm.ClassFile.FieldType.boolean)).before args0 about1 = true := code_word (m := ⟨7, 11⟩) (meth := k7m11) (c := k7c11) (by decide +kernel) rfl rfl rfl (by decide +kernel)
set_option maxRecDepth 65536 in
theorem w_c17 : (Jvm.Cond.code ({ cls := "java/lang/StringLatin1", name := "newString", desc := "([BII)Ljava/lang/String;" } : Jvm.MethodName) jdk_43_method_47_code (3 : Nat) (Option.some (Jvm.ClassFile.FieldType.object "java/lang/String"))).before args0 about1 = true := code_word (m := ⟨14, 2⟩) (meth := k14m2) (c := k14c2) (by decide +kernel) rfl rfl rfl (by decide +kernel)
set_option maxRecDepth 65536 in
theorem w_c18 : (Jvm.Cond.code ({ cls := "java/lang/StringBuilder", name := "append", desc := "(Ljava/lang/String;)Ljava/lang/StringBuilder;" } : Jvm.MethodName) jdk_67_method_7_code (2 : Nat) (Option.some (Jvm.ClassFile.FieldType.object "java/lang/StringBuilder"))).before args0 about1 = true := code_word (m := ⟨12, 1⟩) (meth := k12m1) (c := k12c1) (by decide +kernel) rfl rfl rfl (by decide +kernel)
set_option maxRecDepth 65536 in
theorem w_c19 : (Jvm.Cond.code ({ cls := "java/lang/AbstractStringBuilder", name := "append", desc := "(Ljava/lang/String;)Ljava/lang/AbstractStringBuilder;" } : Jvm.MethodName) jdk_68_method_22_code (3 : Nat) (Option.some (Jvm.ClassFile.FieldType.object "java/lang/AbstractStringBuilder"))).before args0 about1 = true := code_word (m := ⟨11, 5⟩) (meth := k11m5) (c := k11c5) (by decide +kernel) rfl rfl rfl (by decide +kernel)
set_option maxRecDepth 65536 in
theorem w_c20 : (Jvm.Cond.code ({ cls := "java/lang/AbstractStringBuilder", name := "ensureCapacityInternal", desc := "(I)V" } : Jvm.MethodName) jdk_68_method_9_code (3 : Nat) (Option.none : Option Jvm.ClassFile.FieldType)).before args0 about1 = true := code_word (m := ⟨11, 3⟩) (meth := k11m3) (c := k11c3) (by decide +kernel) rfl rfl rfl (by decide +kernel)
set_option maxRecDepth 65536 in
theorem w_c21 : (Jvm.Cond.code ({ cls := "java/lang/AbstractStringBuilder", name := "putStringAt", desc := "(ILjava/lang/String;)V" } : Jvm.MethodName) jdk_68_method_73_code (3 : Nat) (Option.none : Option Jvm.ClassFile.FieldType)).before args0 about1 = true := code_word (m := ⟨11, 9⟩) (meth := k11m9) (c := k11c9) (by decide +kernel) rfl rfl rfl (by decide +kernel)
set_option maxRecDepth 65536 in
theorem w_c22 : (Jvm.Cond.code ({ cls := "java/lang/AbstractStringBuilder", name := "inflateIfNeededFor", desc := "(Ljava/lang/String;)V" } : Jvm.MethodName) jdk_68_method_71_code (2 : Nat) (Option.none : Option Jvm.ClassFile.FieldType)).before args0 about1 = true := code_word (m := ⟨11, 8⟩) (meth := k11m8) (c := k11c8) (by decide +kernel) rfl rfl rfl (by decide +kernel)
set_option maxRecDepth 65536 in
theorem w_c23 : (Jvm.Cond.code ({ cls := "java/lang/String", name := "getBytes", desc := "([BIB)V" } : Jvm.MethodName) jdk_42_method_147_code (4 : Nat) (Option.none : Option Jvm.ClassFile.FieldType)).before args0 about1 = true := code_word (m := ⟨7, 6⟩) (meth := k7m6) (c := k7c6) (by decide +kernel) rfl rfl rfl (by decide +kernel)
set_option maxRecDepth 65536 in
theorem w_c24 : (Jvm.Cond.code ({ cls := "java/lang/StringBuilder", name := "toString", desc := "()Ljava/lang/String;" } : Jvm.MethodName) jdk_67_method_42_code (1 : Nat) (Option.some (Jvm.ClassFile.FieldType.object "java/lang/String"))).before args0 about1 = true := code_word (m := ⟨12, 2⟩) (meth := k12m2) (c := k12c2) (by decide +kernel) rfl rfl rfl (by decide +kernel)
set_option maxRecDepth 65536 in
theorem w_c25 : (Jvm.Cond.code ({ cls := "java/lang/String", name := "<init>", desc := "(Ljava/lang/StringBuilder;)V" } : Jvm.MethodName) jdk_42_method_53_code (2 : Nat) (Option.none : Option Jvm.ClassFile.FieldType)).before args0 about1 = true := code_word (m := ⟨7, 2⟩) (meth := k7m2) (c := k7c2) (by decide +kernel) rfl rfl rfl (by decide +kernel)
set_option maxRecDepth 65536 in
theorem w_c26 : (Jvm.Cond.code ({ cls := "java/lang/String", name := "<init>", desc := "(Ljava/lang/AbstractStringBuilder;Ljava/lang/Void;)V" } : Jvm.MethodName) jdk_42_method_150_code (5 : Nat) (Option.none : Option Jvm.ClassFile.FieldType)).before args0 about1 = true := code_word (m := ⟨7, 8⟩) (meth := k7m8) (c := k7c8) (by decide +kernel) rfl rfl rfl (by decide +kernel)
set_option maxRecDepth 65536 in
theorem w_c27 : (Jvm.Cond.code ({ cls := "java/lang/AbstractStringBuilder", name := "getValue", desc := "()[B" } : Jvm.MethodName) jdk_68_method_64_code (1 : Nat) (Option.some (Jvm.ClassFile.FieldType.array Jvm.ClassFile.FieldType.byte))).before args0 about1 = true := code_word (m := ⟨11, 6⟩) (meth := k11m6) (c := k11c6) (by decide +kernel) rfl rfl rfl (by decide +kernel)
set_option maxRecDepth 65536 in
theorem w_c28 : (Jvm.Cond.code ({ cls := "java/lang/StringBuilder", name := "length", desc := "()I" } : Jvm.MethodName) jdk_67_method_93_code (1 : Nat) (Option.some Jvm.ClassFile.FieldType.int)).before args0 about1 = true := code_word (m := ⟨12, 3⟩) (meth := k12m3) (c := k12c3) (by decide +kernel) rfl rfl rfl (by decide +kernel)
set_option maxRecDepth 65536 in
theorem w_c29 : (Jvm.Cond.code ({ cls := "java/lang/AbstractStringBuilder", name := "length", desc := "()I" } : Jvm.MethodName) jdk_68_method_6_code (1 : Nat) (Option.some Jvm.ClassFile.FieldType.int)).before args0 about1 = true := code_word (m := ⟨11, 2⟩) (meth := k11m2) (c := k11c2) (by decide +kernel) rfl rfl rfl (by decide +kernel)
set_option maxRecDepth 65536 in
theorem w_c30 : (Jvm.Cond.code ({ cls := "java/lang/AbstractStringBuilder", name := "isLatin1", desc := "()Z" } : Jvm.MethodName) jdk_68_method_68_code (1 : Nat) (Option.some Jvm.ClassFile.FieldType.boolean)).before args0 about1 = true := code_word (m := ⟨11, 7⟩) (meth := k11m7) (c := k11c7) (by decide +kernel) rfl rfl rfl (by decide +kernel)
set_option maxRecDepth 65536 in
theorem w_c31 : (Jvm.Cond.code ({ cls := "java/util/Arrays", name := "copyOfRange", desc := "([BII)[B" } : Jvm.MethodName) jdk_65_method_132_code (3 : Nat) (Option.some (Jvm.ClassFile.FieldType.array Jvm.ClassFile.FieldType.byte))).before args0 about1 = true := code_word (m := ⟨16, 2⟩) (meth := k16m2) (c := k16c2) (by decide +kernel) rfl rfl rfl (by decide +kernel)
set_option maxRecDepth 65536 in
theorem w_c32 : (Jvm.Cond.code ({ cls := "java/util/Arrays", name := "copyOfRangeByte", desc := "([BII)[B" } : Jvm.MethodName) jdk_65_method_133_code (5 : Nat) (Option.some (Jvm.ClassFile.FieldType.array Jvm.ClassFile.FieldType.byte))).before args0 about1 = true := code_word (m := ⟨16, 3⟩) (meth := k16m3) (c := k16c3) (by decide +kernel) rfl rfl rfl (by decide +kernel)
set_option maxRecDepth 65536 in
theorem w_c33 : (Jvm.Cond.code ({ cls := "java/util/Arrays", name := "checkLength", desc := "(II)V" } : Jvm.MethodName) jdk_65_method_131_code (2 : Nat) (Option.none : Option Jvm.ClassFile.FieldType)).before args0 about1 = true := code_word (m := ⟨16, 1⟩) (meth := k16m1) (c := k16c1) (by decide +kernel) rfl rfl rfl (by decide +kernel)
set_option maxRecDepth 65536 in
theorem w_c34 : (Jvm.Cond.code ({ cls := "java/lang/Math", name := "min", desc := "(II)I" } : Jvm.MethodName) jdk_29_method_69_code (2 : Nat) (Option.some Jvm.ClassFile.FieldType.int)).before args0 about1 = true := code_word (m := ⟨17, 1⟩) (meth := k17m1) (c := k17c1) (by decide +kernel) rfl rfl rfl (by decide +kernel)
set_option maxRecDepth 65536 in
theorem w_c35 : (Jvm.Cond.code ({ cls := "java/lang/String", name := "equals", desc := "(Ljava/lang/Object;)Z" } : Jvm.MethodName) jdk_42_method_66_code (3 : Nat) (Option.some Jvm.ClassFile.FieldType.boolean)).before args0 about1 = true := code_word (m := ⟨7, 4⟩) (meth := k7m4) (c := k7c4) (by decide +kernel) rfl rfl rfl (by decide +kernel)
set_option maxRecDepth 65536 in
theorem w_c36 : (Jvm.Cond.code ({ cls := "java/lang/StringLatin1", name := "equals", desc := "([B[B)Z" } : Jvm.MethodName) jdk_43_method_13_code (3 : Nat) (Option.some Jvm.ClassFile.FieldType.boolean)).before args0 about1 = true := code_word (m := ⟨14, 1⟩) (meth := k14m1) (c := k14c1) (by decide +kernel) rfl rfl rfl (by decide +kernel)
set_option maxRecDepth 65536 in
theorem w_c37 : (Jvm.Cond.code ({ cls := "java/lang/String", name := "<init>", desc := "([BB)V" } : Jvm.MethodName) jdk_42_method_151_code (3 : Nat) (Option.none : Option Jvm.ClassFile.FieldType)).before args0 about1 = true := code_word (m := ⟨7, 9⟩) (meth := k7m9) (c := k7c9) (by decide +kernel) rfl rfl rfl (by decide +kernel)
set_option maxRecDepth 65536 in
theorem w_c38 : (Jvm.Cond.code ({ cls := "java/lang/StringUTF16", name := "toBytes", desc := "([CII)[B" } : Jvm.MethodName) jdk_52_method_14_code (5 : Nat) (Option.some (Jvm.ClassFile.FieldType.array Jvm.ClassFile.FieldType.byte))).before args0 about1 = true := code_word (m := ⟨8, 6⟩) (meth := k8m6) (c := k8c6) (by decide +kernel) rfl rfl rfl (by decide +kernel)
set_option maxRecDepth 65536 in
theorem w_c39 : (Jvm.Cond.code ({ cls := "java/lang/StringUTF16", name := "newBytesFor", desc := "(I)[B" } : Jvm.MethodName) jdk_52_method_2_code (1 : Nat) (Option.some (Jvm.ClassFile.FieldType.array Jvm.ClassFile.FieldType.byte))).before args0 about1 = true := code_word (m := ⟨8, 1⟩) (meth := k8m1) (c := k8c1) (by decide +kernel) rfl rfl rfl (by decide +kernel)
set_option maxRecDepth 65536 in
theorem w_c40 : (Jvm.Cond.code ({ cls := "java/lang/StringUTF16", name := "newBytesLength", desc := "(I)I" } : Jvm.MethodName) jdk_52_method_3_code (1 : Nat) (Option.some Jvm.ClassFile.FieldType.int)).before args0 about1 = true := code_word (m := ⟨8, 2⟩) (meth := k8m2) (c := k8c2) (by decide +kernel) rfl rfl rfl (by decide +kernel)
set_option maxRecDepth 65536 in
theorem w_c41 : (Jvm.Cond.code ({ cls := "java/lang/StringUTF16", name := "putChar", desc := "([BII)V" } : Jvm.MethodName) jdk_52_method_4_code (3 : Nat) (Option.none : Option Jvm.ClassFile.FieldType)).before args0 about1 = true := code_word (m := ⟨8, 3⟩) (meth := k8m3) (c := k8c3) (by decide +kernel) rfl rfl rfl (by decide +kernel)
set_option maxRecDepth 65536 in
theorem w_c42 : (Jvm.Cond.code ({ cls := "java/lang/StringUTF16", name := "getChar", desc := "([BI)C" } : Jvm.MethodName) jdk_52_method_5_code (2 : Nat) (Option.some Jvm.ClassFile.FieldType.char)).before args0 about1 = true := code_word (m := ⟨8, 4⟩) (meth := k8m4) (c := k8c4) (by decide +kernel) rfl rfl rfl (by decide +kernel)
set_option maxRecDepth 65536 in
theorem w_c43 : (Jvm.Cond.code ({ cls := "java/lang/StringUTF16", name := "newString", desc := "([BII)Ljava/lang/String;" } : Jvm.MethodName) jdk_52_method_69_code (5 : Nat) (Option.some (Jvm.ClassFile.FieldType.object "java/lang/String"))).before args0 about1 = true := code_word (m := ⟨8, 12⟩) (meth := k8m12) (c := k8c12) (by decide +kernel) rfl rfl rfl (by decide +kernel)
set_option maxRecDepth 65536 in
theorem w_c44 : (Jvm.Cond.code ({ cls := "java/lang/StringUTF16", name := "compress", desc := "([BII)[B" } : Jvm.MethodName) jdk_52_method_17_code (6 : Nat) (Option.some (Jvm.ClassFile.FieldType.array Jvm.ClassFile.FieldType.byte))).before args0 about1 = true := code_word (m := ⟨8, 9⟩) (meth := k8m9) (c := k8c9) (by decide +kernel) rfl rfl rfl (by decide +kernel)
set_option maxRecDepth 65536 in
theorem w_c45 : (Jvm.Cond.code ({ cls := "java/lang/StringUTF16", name := "compress", desc := "([BI[BII)I" } : Jvm.MethodName) jdk_52_method_22_code (7 : Nat) (Option.some Jvm.ClassFile.FieldType.int)).before args0 about1 = true := code_word (m := ⟨8, 11⟩) (meth := k8m11) (c := k8c11) (by decide +kernel) rfl rfl rfl (by decide +kernel)
set_option maxRecDepth 65536 in
theorem w_c46 : (Jvm.Cond.code ({ cls := "java/lang/StringUTF16", name := "checkBoundsOffCount", desc := "(II[B)V" } : Jvm.MethodName) jdk_52_method_94_code (3 : Nat) (Option.none : Option Jvm.ClassFile.FieldType)).before args0 about1 = true := code_word (m := ⟨8, 14⟩) (meth := k8m14) (c := k8c14) (by decide +kernel) rfl rfl rfl (by decide +kernel)
set_option maxRecDepth 65536 in
theorem w_c47 : (Jvm.Cond.code ({ cls := "java/lang/StringUTF16", name := "length", desc := "([B)I" } : Jvm.MethodName) jdk_52_method_6_code (1 : Nat) (Option.some Jvm.ClassFile.FieldType.int)).before args0 about1 = true := code_word (m := ⟨8, 5⟩) (meth := k8m5) (c := k8c5) (by decide +kernel) rfl rfl rfl (by decide +kernel)
set_option maxRecDepth 65536 in
theorem w_c48 : (Jvm.Cond.code ({ cls := "java/lang/String", name := "checkBoundsOffCount", desc := "(III)I" } : Jvm.MethodName) jdk_42_method_157_code (3 : Nat) (Option.some Jvm.ClassFile.FieldType.int)).before args0 about1 = true := code_word (m := ⟨7, 12⟩) (meth := k7m12) (c := k7c12) (by decide +kernel) rfl rfl rfl (by decide +kernel)
set_option maxRecDepth 65536 in
theorem w_c49 : (Jvm.Cond.code ({ cls := "jdk/internal/util/Preconditions", name := "checkFromIndexSize", desc := "(IIILjava/util/function/BiFunction;)I" } : Jvm.MethodName) jdk_41_method_13_code (4 : Nat) (Option.some Jvm.ClassFile.FieldType.int)).before args0 about1 = true := code_word (m := ⟨13, 2⟩) (meth := k13m2) (c := k13c2) (by decide +kernel) rfl rfl rfl (by decide +kernel)
set_option maxRecDepth 65536 in
theorem w_c50 : (Jvm.Cond.code ({ cls := "java/lang/AbstractStringBuilder", name := "inflate", desc := "()V" } : Jvm.MethodName) jdk_68_method_11_code (2 : Nat) (Option.none : Option Jvm.ClassFile.FieldType)).before args0 about1 = true := code_word (m := ⟨11, 4⟩) (meth := k11m4) (c := k11c4) (by decide +kernel) rfl rfl rfl (by decide +kernel)
set_option maxRecDepth 65536 in
theorem w_c51 : (Jvm.Cond.code ({ cls := "java/lang/StringLatin1", name := "inflate", desc := "([BI[BII)V" } : Jvm.MethodName) jdk_43_method_50_code (5 : Nat) (Option.none : Option Jvm.ClassFile.FieldType)).before args0 about1 = true := code_word (m := ⟨14, 3⟩) (meth := k14m3) (c := k14c3) (by decide +kernel) rfl rfl rfl (by decide +kernel)
set_option maxRecDepth 65536 in
theorem w_c52 : (Jvm.Cond.code ({ cls := "java/lang/StringUTF16", name := "inflate", desc := "([BI[BII)V" } : Jvm.MethodName) jdk_52_method_86_code (6 : Nat) (Option.none : Option Jvm.ClassFile.FieldType)).before args0 about1 = true := code_word (m := ⟨8, 13⟩) (meth := k8m13) (c := k8c13) (by decide +kernel) rfl rfl rfl (by decide +kernel)
def codes1 : List Jvm.Cond := [Jvm.Cond.code x code maxLocals ret, Jvm.Cond.code ({ cls := "io/dyeline/store/LayoutSetsPartPinLaw", name := "make", desc := "(ICCCCCCCC)[C" } : Jvm.MethodName) method_3_code (10 : Nat) (Option.some (Jvm.ClassFile.FieldType.array Jvm.ClassFile.FieldType.char)), Jvm.Cond.code ({ cls := "java/lang/String", name := "<init>", desc := "([C)V" } : Jvm.MethodName) jdk_42_method_3_code (2 : Nat) (Option.none : Option Jvm.ClassFile.FieldType), Jvm.Cond.code ({ cls := "java/lang/String", name := "<init>", desc := "([CIILjava/lang/Void;)V" } : Jvm.MethodName) jdk_42_method_149_code (6 : Nat) (Option.none : Option Jvm.ClassFile.FieldType), Jvm.Cond.code ({ cls := "java/lang/Object", name := "<init>", desc := "()V" } : Jvm.MethodName) object_method_1_code (1 : Nat) (Option.none : Option Jvm.ClassFile.FieldType), Jvm.Cond.code ({ cls := "java/lang/StringUTF16", name := "compress", desc := "([CII)[B" } : Jvm.MethodName) jdk_52_method_16_code (6 : Nat) (Option.some (Jvm.ClassFile.FieldType.array Jvm.ClassFile.FieldType.byte)), Jvm.Cond.code ({ cls := "java/lang/StringUTF16", name := "compress", desc := "([CI[BII)I" } : Jvm.MethodName) jdk_52_method_21_code (7 : Nat) (Option.some Jvm.ClassFile.FieldType.int), Jvm.Cond.code ({ cls := "java/lang/StringUTF16", name := "coderFromArrayLen", desc := "([BI)B" } : Jvm.MethodName) jdk_52_method_15_code (2 : Nat) (Option.some Jvm.ClassFile.FieldType.byte), Jvm.Cond.code ({ cls := "io/dyeline/store/Layout", name := "setsPart", desc := "(Ljava/lang/String;)Ljava/lang/String;" } : Jvm.MethodName) prog_8_method_4_code (1 : Nat) (Option.some (Jvm.ClassFile.FieldType.object "java/lang/String")), Jvm.Cond.code ({ cls := "java/lang/StringBuilder", name := "<init>", desc := "()V" } : Jvm.MethodName) jdk_67_method_1_code (1 : Nat) (Option.none : Option Jvm.ClassFile.FieldType), Jvm.Cond.code ({ cls := "java/lang/AbstractStringBuilder", name := "<init>", desc := "(I)V" } : Jvm.MethodName) jdk_68_method_2_code (2 : Nat) (Option.none : Option Jvm.ClassFile.FieldType), Jvm.Cond.code ({ cls := "java/lang/String", name := "length", desc := "()I" } : Jvm.MethodName) jdk_42_method_54_code (1 : Nat) (Option.some Jvm.ClassFile.FieldType.int), Jvm.Cond.code ({ cls := "java/lang/String", name := "coder", desc := "()B" } : Jvm.MethodName) jdk_42_method_152_code (1 : Nat) (Option.some Jvm.ClassFile.FieldType.byte), Jvm.Cond.code ({ cls := "java/lang/String", name := "substring", desc := "(II)Ljava/lang/String;" } : Jvm.MethodName) jdk_42_method_92_code (5 : Nat) (Option.some (Jvm.ClassFile.FieldType.object "java/lang/String")), Jvm.Cond.code ({ cls := "java/lang/String", name := "checkBoundsBeginEnd", desc := "(III)V" } : Jvm.MethodName) jdk_42_method_158_code (3 : Nat) (Option.none : Option Jvm.ClassFile.FieldType), Jvm.Cond.code ({ cls := "jdk/internal/util/Preconditions", name := "checkFromToIndex", desc := "(IIILjava/util/function/BiFunction;)I" } : Jvm.MethodName) jdk_41_method_12_code (4 : Nat) (Option.some Jvm.ClassFile.FieldType.int), Jvm.Cond.code ({ cls := "java/lang/String", name := "isLatin1", desc := "()Z" } : Jvm.MethodName) jdk_42_method_154_code (1 : Nat) (Option.some Jvm.ClassFile.FieldType.boolean), Jvm.Cond.code ({ cls := "java/lang/StringLatin1", name := "newString", desc := "([BII)Ljava/lang/String;" } : Jvm.MethodName) jdk_43_method_47_code (3 : Nat) (Option.some (Jvm.ClassFile.FieldType.object "java/lang/String")), Jvm.Cond.code ({ cls := "java/lang/StringBuilder", name := "append", desc := "(Ljava/lang/String;)Ljava/lang/StringBuilder;" } : Jvm.MethodName) jdk_67_method_7_code (2 : Nat) (Option.some (Jvm.ClassFile.FieldType.object "java/lang/StringBuilder")), Jvm.Cond.code ({ cls := "java/lang/AbstractStringBuilder", name := "append", desc := "(Ljava/lang/String;)Ljava/lang/AbstractStringBuilder;" } : Jvm.MethodName) jdk_68_method_22_code (3 : Nat) (Option.some (Jvm.ClassFile.FieldType.object "java/lang/AbstractStringBuilder")), Jvm.Cond.code ({ cls := "java/lang/AbstractStringBuilder", name := "ensureCapacityInternal", desc := "(I)V" } : Jvm.MethodName) jdk_68_method_9_code (3 : Nat) (Option.none : Option Jvm.ClassFile.FieldType), Jvm.Cond.code ({ cls := "java/lang/AbstractStringBuilder", name := "putStringAt", desc := "(ILjava/lang/String;)V" } : Jvm.MethodName) jdk_68_method_73_code (3 : Nat) (Option.none : Option Jvm.ClassFile.FieldType), Jvm.Cond.code ({ cls := "java/lang/AbstractStringBuilder", name := "inflateIfNeededFor", desc := "(Ljava/lang/String;)V" } : Jvm.MethodName) jdk_68_method_71_code (2 : Nat) (Option.none : Option Jvm.ClassFile.FieldType), Jvm.Cond.code ({ cls := "java/lang/String", name := "getBytes", desc := "([BIB)V" } : Jvm.MethodName) jdk_42_method_147_code (4 : Nat) (Option.none : Option Jvm.ClassFile.FieldType), Jvm.Cond.code ({ cls := "java/lang/StringBuilder", name := "toString", desc := "()Ljava/lang/String;" } : Jvm.MethodName) jdk_67_method_42_code (1 : Nat) (Option.some (Jvm.ClassFile.FieldType.object "java/lang/String")), Jvm.Cond.code ({ cls := "java/lang/String", name := "<init>", desc := "(Ljava/lang/StringBuilder;)V" } : Jvm.MethodName) jdk_42_method_53_code (2 : Nat) (Option.none : Option Jvm.ClassFile.FieldType), Jvm.Cond.code ({ cls := "java/lang/String", name := "<init>", desc := "(Ljava/lang/AbstractStringBuilder;Ljava/lang/Void;)V" } : Jvm.MethodName) jdk_42_method_150_code (5 : Nat) (Option.none : Option Jvm.ClassFile.FieldType), Jvm.Cond.code ({ cls := "java/lang/AbstractStringBuilder", name := "getValue", desc := "()[B" } : Jvm.MethodName) jdk_68_method_64_code (1 : Nat) (Option.some (Jvm.ClassFile.FieldType.array Jvm.ClassFile.FieldType.byte)), Jvm.Cond.code ({ cls := "java/lang/StringBuilder", name := "length", desc := "()I" } : Jvm.MethodName) jdk_67_method_93_code (1 : Nat) (Option.some Jvm.ClassFile.FieldType.int), Jvm.Cond.code ({ cls := "java/lang/AbstractStringBuilder", name := "length", desc := "()I" } : Jvm.MethodName) jdk_68_method_6_code (1 : Nat) (Option.some Jvm.ClassFile.FieldType.int), Jvm.Cond.code ({ cls := "java/lang/AbstractStringBuilder", name := "isLatin1", desc := "()Z" } : Jvm.MethodName) jdk_68_method_68_code (1 : Nat) (Option.some Jvm.ClassFile.FieldType.boolean), Jvm.Cond.code ({ cls := "java/util/Arrays", name := "copyOfRange", desc := "([BII)[B" } : Jvm.MethodName) jdk_65_method_132_code (3 : Nat) (Option.some (Jvm.ClassFile.FieldType.array Jvm.ClassFile.FieldType.byte)), Jvm.Cond.code ({ cls := "java/util/Arrays", name := "copyOfRangeByte", desc := "([BII)[B" } : Jvm.MethodName) jdk_65_method_133_code (5 : Nat) (Option.some (Jvm.ClassFile.FieldType.array Jvm.ClassFile.FieldType.byte)), Jvm.Cond.code ({ cls := "java/util/Arrays", name := "checkLength", desc := "(II)V" } : Jvm.MethodName) jdk_65_method_131_code (2 : Nat) (Option.none : Option Jvm.ClassFile.FieldType), Jvm.Cond.code ({ cls := "java/lang/Math", name := "min", desc := "(II)I" } : Jvm.MethodName) jdk_29_method_69_code (2 : Nat) (Option.some Jvm.ClassFile.FieldType.int), Jvm.Cond.code ({ cls := "java/lang/String", name := "equals", desc := "(Ljava/lang/Object;)Z" } : Jvm.MethodName) jdk_42_method_66_code (3 : Nat) (Option.some Jvm.ClassFile.FieldType.boolean), Jvm.Cond.code ({ cls := "java/lang/StringLatin1", name := "equals", desc := "([B[B)Z" } : Jvm.MethodName) jdk_43_method_13_code (3 : Nat) (Option.some Jvm.ClassFile.FieldType.boolean), Jvm.Cond.code ({ cls := "java/lang/String", name := "<init>", desc := "([BB)V" } : Jvm.MethodName) jdk_42_method_151_code (3 : Nat) (Option.none : Option Jvm.ClassFile.FieldType), Jvm.Cond.code ({ cls := "java/lang/StringUTF16", name := "toBytes", desc := "([CII)[B" } : Jvm.MethodName) jdk_52_method_14_code (5 : Nat) (Option.some (Jvm.ClassFile.FieldType.array Jvm.ClassFile.FieldType.byte)), Jvm.Cond.code ({ cls := "java/lang/StringUTF16", name := "newBytesFor", desc := "(I)[B" } : Jvm.MethodName) jdk_52_method_2_code (1 : Nat) (Option.some (Jvm.ClassFile.FieldType.array Jvm.ClassFile.FieldType.byte)), Jvm.Cond.code ({ cls := "java/lang/StringUTF16", name := "newBytesLength", desc := "(I)I" } : Jvm.MethodName) jdk_52_method_3_code (1 : Nat) (Option.some Jvm.ClassFile.FieldType.int), Jvm.Cond.code ({ cls := "java/lang/StringUTF16", name := "putChar", desc := "([BII)V" } : Jvm.MethodName) jdk_52_method_4_code (3 : Nat) (Option.none : Option Jvm.ClassFile.FieldType), Jvm.Cond.code ({ cls := "java/lang/StringUTF16", name := "getChar", desc := "([BI)C" } : Jvm.MethodName) jdk_52_method_5_code (2 : Nat) (Option.some Jvm.ClassFile.FieldType.char), Jvm.Cond.code ({ cls := "java/lang/StringUTF16", name := "newString", desc := "([BII)Ljava/lang/String;" } : Jvm.MethodName) jdk_52_method_69_code (5 : Nat) (Option.some (Jvm.ClassFile.FieldType.object "java/lang/String")), Jvm.Cond.code ({ cls := "java/lang/StringUTF16", name := "compress", desc := "([BII)[B" } : Jvm.MethodName) jdk_52_method_17_code (6 : Nat) (Option.some (Jvm.ClassFile.FieldType.array Jvm.ClassFile.FieldType.byte)), Jvm.Cond.code ({ cls := "java/lang/StringUTF16", name := "compress", desc := "([BI[BII)I" } : Jvm.MethodName) jdk_52_method_22_code (7 : Nat) (Option.some Jvm.ClassFile.FieldType.int), Jvm.Cond.code ({ cls := "java/lang/StringUTF16", name := "checkBoundsOffCount", desc := "(II[B)V" } : Jvm.MethodName) jdk_52_method_94_code (3 : Nat) (Option.none : Option Jvm.ClassFile.FieldType), Jvm.Cond.code ({ cls := "java/lang/StringUTF16", name := "length", desc := "([B)I" } : Jvm.MethodName) jdk_52_method_6_code (1 : Nat) (Option.some Jvm.ClassFile.FieldType.int), Jvm.Cond.code ({ cls := "java/lang/String", name := "checkBoundsOffCount", desc := "(III)I" } : Jvm.MethodName) jdk_42_method_157_code (3 : Nat) (Option.some Jvm.ClassFile.FieldType.int), Jvm.Cond.code ({ cls := "jdk/internal/util/Preconditions", name := "checkFromIndexSize", desc := "(IIILjava/util/function/BiFunction;)I" } : Jvm.MethodName) jdk_41_method_13_code (4 : Nat) (Option.some Jvm.ClassFile.FieldType.int), Jvm.Cond.code ({ cls := "java/lang/AbstractStringBuilder", name := "inflate", desc := "()V" } : Jvm.MethodName) jdk_68_method_11_code (2 : Nat) (Option.none : Option Jvm.ClassFile.FieldType), Jvm.Cond.code ({ cls := "java/lang/StringLatin1", name := "inflate", desc := "([BI[BII)V" } : Jvm.MethodName) jdk_43_method_50_code (5 : Nat) (Option.none : Option Jvm.ClassFile.FieldType), Jvm.Cond.code ({ cls := "java/lang/StringUTF16", name := "inflate", desc := "([BI[BII)V" } : Jvm.MethodName) jdk_52_method_86_code (6 : Nat) (Option.none : Option Jvm.ClassFile.FieldType)]
set_option maxRecDepth 65536 in
theorem codes_eq : words1.filter isCode = codes1 := rfl
theorem w_codes : ∀ c ∈ words1.filter isCode, c.before args0 about1 = true := by
  rw [codes_eq]
  intro c hc
  simp only [codes1, List.mem_cons, List.not_mem_nil, or_false] at hc
  rcases hc with rfl | rfl | rfl | rfl | rfl | rfl | rfl | rfl | rfl | rfl | rfl | rfl | rfl | rfl | rfl | rfl | rfl | rfl | rfl | rfl | rfl | rfl | rfl | rfl | rfl | rfl | rfl | rfl | rfl | rfl | rfl | rfl | rfl | rfl | rfl | rfl | rfl | rfl | rfl | rfl | rfl | rfl | rfl | rfl | rfl | rfl | rfl | rfl | rfl | rfl | rfl | rfl | rfl
  · exact w_c0
  · exact w_c1
  · exact w_c2
  · exact w_c3
  · exact w_c4
  · exact w_c5
  · exact w_c6
  · exact w_c7
  · exact w_c8
  · exact w_c9
  · exact w_c10
  · exact w_c11
  · exact w_c12
  · exact w_c13
  · exact w_c14
  · exact w_c15
  · exact w_c16
  · exact w_c17
  · exact w_c18
  · exact w_c19
  · exact w_c20
  · exact w_c21
  · exact w_c22
  · exact w_c23
  · exact w_c24
  · exact w_c25
  · exact w_c26
  · exact w_c27
  · exact w_c28
  · exact w_c29
  · exact w_c30
  · exact w_c31
  · exact w_c32
  · exact w_c33
  · exact w_c34
  · exact w_c35
  · exact w_c36
  · exact w_c37
  · exact w_c38
  · exact w_c39
  · exact w_c40
  · exact w_c41
  · exact w_c42
  · exact w_c43
  · exact w_c44
  · exact w_c45
  · exact w_c46
  · exact w_c47
  · exact w_c48
  · exact w_c49
  · exact w_c50
  · exact w_c51
  · exact w_c52
set_option maxRecDepth 65536 in
theorem w_t1 : (words1.take 24).all (fun c => isCode c || c.before args0 about1) = true := by decide +kernel
set_option maxRecDepth 65536 in
theorem w_t2 : ((words1.drop 24).take 24).all (fun c => isCode c || c.before args0 about1) = true := by decide +kernel
set_option maxRecDepth 65536 in
theorem w_t3 : (((words1.drop 24).drop 24).take 24).all (fun c => isCode c || c.before args0 about1) = true := by decide +kernel
set_option maxRecDepth 65536 in
theorem w_t4 : ((((words1.drop 24).drop 24).drop 24).take 24).all (fun c => isCode c || c.before args0 about1) = true := by decide +kernel
set_option maxRecDepth 65536 in
theorem w_t5 : (((((words1.drop 24).drop 24).drop 24).drop 24).take 24).all (fun c => isCode c || c.before args0 about1) = true := by decide +kernel
set_option maxRecDepth 65536 in
theorem w_t6 : ((((((words1.drop 24).drop 24).drop 24).drop 24).drop 24).take 24).all (fun c => isCode c || c.before args0 about1) = true := by decide +kernel
set_option maxRecDepth 65536 in
theorem w_t7 : (((((((words1.drop 24).drop 24).drop 24).drop 24).drop 24).drop 24).take 24).all (fun c => isCode c || c.before args0 about1) = true := by decide +kernel
set_option maxRecDepth 65536 in
theorem w_t8 : ((((((((words1.drop 24).drop 24).drop 24).drop 24).drop 24).drop 24).drop 24).take 24).all (fun c => isCode c || c.before args0 about1) = true := by decide +kernel
set_option maxRecDepth 65536 in
theorem w_t9 : (((((((((words1.drop 24).drop 24).drop 24).drop 24).drop 24).drop 24).drop 24).drop 24).take 24).all (fun c => isCode c || c.before args0 about1) = true := by decide +kernel
set_option maxRecDepth 65536 in
theorem w_t10 : ((((((((((words1.drop 24).drop 24).drop 24).drop 24).drop 24).drop 24).drop 24).drop 24).drop 24).take 24).all (fun c => isCode c || c.before args0 about1) = true := by decide +kernel
set_option maxRecDepth 65536 in
theorem w_t11 : ((((((((((words1.drop 24).drop 24).drop 24).drop 24).drop 24).drop 24).drop 24).drop 24).drop 24).drop 24).all (fun c => isCode c || c.before args0 about1) = true := by decide +kernel
theorem w_tables : (allAtoms (Jvm.Cond.code x code maxLocals ret :: tables_1)).before args0 about1 = true := by
  rw [allAtoms_all]
  show words1.all (fun c => c.before args0 about1) = true
  refine all_split ?_ w_codes
  rw [← List.take_append_drop 24 words1, List.all_append, w_t1, ← List.take_append_drop 24 (words1.drop 24), List.all_append, w_t2, ← List.take_append_drop 24 ((words1.drop 24).drop 24), List.all_append, w_t3, ← List.take_append_drop 24 (((words1.drop 24).drop 24).drop 24), List.all_append, w_t4, ← List.take_append_drop 24 ((((words1.drop 24).drop 24).drop 24).drop 24), List.all_append, w_t5, ← List.take_append_drop 24 (((((words1.drop 24).drop 24).drop 24).drop 24).drop 24), List.all_append, w_t6, ← List.take_append_drop 24 ((((((words1.drop 24).drop 24).drop 24).drop 24).drop 24).drop 24), List.all_append, w_t7, ← List.take_append_drop 24 (((((((words1.drop 24).drop 24).drop 24).drop 24).drop 24).drop 24).drop 24), List.all_append, w_t8, ← List.take_append_drop 24 ((((((((words1.drop 24).drop 24).drop 24).drop 24).drop 24).drop 24).drop 24).drop 24), List.all_append, w_t9, ← List.take_append_drop 24 (((((((((words1.drop 24).drop 24).drop 24).drop 24).drop 24).drop 24).drop 24).drop 24).drop 24), List.all_append, w_t10, w_t11]
  rfl
set_option maxRecDepth 65536 in
theorem w_rest : rest_1_c.before args0 about1 = true := by decide +kernel
set_option maxRecDepth 65536 in
theorem w_case : (Jvm.Cond.and given_1 narrow_1).before args0 about1 = true := by decide +kernel
set_option maxRecDepth 65536 in
theorem w_consts : constsHeld consts_1 about1 := Jvm.Lit.constsHeldB_iff.mp (by decide +kernel)
theorem w_applies : (headSpec (Jvm.Cond.code x code maxLocals ret :: tables_1) room_1).applies x e0.platform about1 = true :=
  (Spec.applies_iff w_frames).mpr ⟨w_running, w_runnable, w_alone, w_named, w_hears, w_ripe, w_room, w_tables⟩
theorem atStart : AtStart classFile x code maxLocals ret World_1 tables_1 room_1 Calls_1 rest_1 Pre_1 launch0 p0 e0 about1 theMethod args0 below0 :=
  ⟨lists_1, trivial, launch0.admits_env _ _ _, launch0.least_env, fairChoices_fair.cas, fairChoices_fair.clock, w_frames, w_args, w_heap, w_applies, ⟨w_consts, trivial⟩, w_rest, w_case⟩
end start1
theorem witness_1 : WitnessClaimed_1 := ⟨start1.p0, start1.e0, start1.about1, start1.theMethod, start1.args0, start1.below0, start1.atStart⟩
end Jvm.Pilot.@@N@@
