import JvmDerived
import JvmDerived.Pilot.@@N@@Statement
import JvmDerived.Pilot.@@N@@Code
set_option linter.unusedVariables false
set_option linter.unusedSimpArgs false
namespace Jvm.RoadKit
open Sem ClassFile Op Lib Jvm.Stand Jvm.Free Jvm.LawKit
section New
variable {p : Program} {l : Launch} {e : Env} {R : Room} {s : State} {m : MethodId} {args : Array Value} {below : List Frame} {meth : Method} {c : Code} {T : State} {locs : List Loc} {cells slots : Nat}
theorem retI (X : Stand p l e R s m args below meth c T locs cells slots) (hx : p.tables.exec = Jvm.exec) {pc : Nat} {Ls : Array Slot} {z : Int32} {rest : List Value} (hret : meth.sig.returnType = some .int) (hd : decode c.code pc = .ok (.ireturn, 1)) {fs : List Frame}
    (hl : ∀ (f : JFrame) (acts : List Action), f.method = m → f.locked = none → f.entered = [] → (doReturn e (T.setTop f) acts (some (.int z))).1 = T.setFrames fs) : Steps p.tables e below (T.setTop (mkF m pc Ls (.int z :: rest))) (T.setFrames fs) := by
  have hm' : T.vm.method? m = some meth := X.method'
  have hn : narrow .int (.int z) = .int z := rfl
  show Steps p.tables e below (T.setTop { method := m, pc := pc, locals := Ls, stack := _ :: rest, locked := none }) _
  jvm_step X.here [X.here.top, hx, hd, hm', hret, hn]
  first | (intro acts; rw [hl _ acts rfl rfl rfl]) | rw [hl _ _ rfl rfl rfl]
  exact Steps.refl _
theorem seg (X : Stand p l e R s m args below meth c T locs cells slots) (P : State → Prop) (h : ∃ T', Stand p l e R s m args below meth c T' locs cells slots ∧ P T') : ∃ T', Stand p l e R s m args below meth c T' locs cells slots ∧ P T' := h
/-- int to char -/
def i2c (x : Int32) : Int32 := x.toUInt32.toUInt16.toUInt32.toInt32
/-- int to byte -/
def own_lo (x : Int32) : Int32 := x.toInt8.toInt32
/-- the unsigned shift of an int -/
def ushr (x y : Int32) : Int32 := (x.toUInt32 >>> (y &&& 31).toUInt32).toInt32
/-- the unsigned shift of a long -/
def ushrJ (x : Int64) (y : Int32) : Int64 := (x.toUInt64 >>> (y &&& 0x3f).toInt64.toUInt64).toInt64
end New
end Jvm.RoadKit
namespace Jvm.Pilot.@@N@@
open Jvm Jvm.ClassFile Sem Op Lib Jvm.Free Jvm.Stand Jvm.LawKit Jvm.RoadKit Bundle Jvm.Pilot.@@N@@.Jvm.D
theorem own_neN {a b : Addr} (h : @Ne Nat a b) : ¬ (a = b) := h
theorem own_arvne {Z : State} {h : Heap} {a b : Addr} {k k' : ClassId} {ty ty' : FieldType} {z z' : Int32} {vs vs' : List Value} {d d' : Value} (F : Arv Z h a k ty z vs d) (G : Arv Z h b k' ty' z' vs' d') (hn : ty ≠ ty') : a ≠ b := fun q => by
  subst q
  obtain ⟨c1, ⟨e1, ⟨-, k1, hk1, comp1, h1⟩, -⟩, -⟩ := F
  obtain ⟨c2, ⟨e2, ⟨-, k2, hk2, comp2, h2⟩, -⟩, -⟩ := G
  cases e1.symm.trans e2
  cases hk1.symm.trans hk2
  have := h1.symm.trans h2
  injection this with _ e
  exact hn e
theorem own_narb {q : Prop} [Decidable q] : nar .boolean (if q then (1 : Int32) else (0 : Int32)) = (if q then (1 : Int32) else (0 : Int32)) := by split <;> rfl
theorem own_declares {Z : State} {a0 : Array Value} {y : MethodName} {bytes : ByteArray} {mx : Nat} {r : Option FieldType} (w1 : (Jvm.Cond.instanceMethod y).before a0 Z = true) (w2 : (Jvm.Cond.code y bytes mx r).before a0 Z = true) : (Jvm.Cond.declares y).before a0 Z = true := by
  obtain ⟨mk, meth, h1, h2, h3, -⟩ := Cond.instanceMethod_spec w1
  obtain ⟨meth', c, q1, -, -, -, -, -, -, q2⟩ := Cond.code_spec h1 w2
  cases h2.symm.trans q1
  simp [Cond.before, Cond.holds, Cond.value, h1, h2, h3, q2]
/-- the class of a method that an object selects is no interface -/
theorem own_nf {Z : State} {a0 : Array Value} {y z : MethodName} {C : String} (hz : z.cls = y.cls) (w : (Jvm.Cond.selects C z z).before a0 Z = true) : ∀ r, Z.methodNamed? y = some r → ∃ k, Z.vm.classes[r.cls]? = some k ∧ k.isInterface = false := fun r hr => by
  obtain ⟨c, r2, m2, -, -, q3, -, kP, hkP, hkPi⟩ := Cond.selects_spec w
  have h1 := findClass_of_methodNamed q3
  have h2 := findClass_of_methodNamed hr
  rw [hz, h2] at h1
  rw [Option.some.inj h1]
  exact ⟨kP, hkP, hkPi⟩
/-- a method that its class declares itself is the one that the look-up finds -/
theorem own_same {Z : State} {a0 : Array Value} {y : MethodName} (w1 : (Jvm.Cond.instanceMethod y).before a0 Z = true) (w2 : ∀ r, Z.methodNamed? y = some r → ∃ k, Z.vm.classes[r.cls]? = some k ∧ k.isInterface = false) (hy : y.cls ≠ "java/lang/invoke/MethodHandle" ∧ y.cls ≠ "java/lang/invoke/VarHandle") : (Jvm.Cond.sameMethod y.cls y.cls y.name y.desc).before a0 Z = true := by
  obtain ⟨mk, meth, h1, -⟩ := Cond.instanceMethod_spec w1
  have hc := findClass_of_methodNamed h1
  obtain ⟨k, hk, hi⟩ := w2 mk h1
  have hf := State.methodFound?_of_named h1 hy
  have hk' : Z.vm.classes[mk.cls]? = some k := hk
  simp [Cond.before, Cond.holds, Cond.value, hc, hf, h1, hk', hi]
theorem own_ti {n : Nat} (h : n ≤ 8000) : (Int32.ofNat n).toInt = n := Int32.toInt_ofNat_of_lt (by omega)
theorem own_tn {n : Nat} (h : n ≤ 8000) : (Int32.ofNat n).toNatClampNeg = n := by
  rw [Int32.toNatClampNeg, own_ti h]; omega
theorem own_lt {i n : Nat} (h : i < n) (hn : n ≤ 8000) : (Int32.ofNat i) < (Int32.ofNat n) := by
  rw [Int32.lt_iff_toInt_lt, own_ti (by omega), own_ti hn]; omega
theorem own_nlt {i n : Nat} (h : n ≤ i) (hn : i ≤ 8000) : ¬ ((Int32.ofNat i) < (Int32.ofNat n)) := by
  rw [Int32.lt_iff_toInt_lt, own_ti hn, own_ti (by omega : n ≤ 8000)]; omega
theorem own_nn {n : Nat} (h : n ≤ 8000) : ¬ ((Int32.ofNat n) < (0 : Int32)) := by
  rw [Int32.lt_iff_toInt_lt, own_ti h]
  show ¬ ((n : Int) < 0)
  omega
theorem own_inj {i n : Nat} (h : i ≤ 8000) (hn : n ≤ 8000) (e : Int32.ofNat i = Int32.ofNat n) : i = n := by
  have := congrArg Int32.toInt e
  rw [own_ti h, own_ti hn] at this; omega
theorem own_up (k : Nat) : Int32.ofNat (k + 1) = Int32.ofNat k + (1 : Int32) := Int32.ofNat_add k 1
theorem own_in {i n : Nat} (h : i < n) (hn : n ≤ 8000) : ¬ (Int32.ofNat i) < 0 ∧ (Int32.ofNat i) < (Int32.ofNat n) := ⟨own_nn (by omega), own_lt h hn⟩
theorem own_eqI {z w : Int32} (h : z.toInt = w.toInt) : z = w := Int32.toInt_inj.mp h
theorem own_shl1 {n : Nat} (h : n ≤ 4000) : (Int32.ofNat n) <<< ((1 : Int32) &&& 31) = Int32.ofNat (2 * n) := by
  apply own_eqI
  have h1 := c_ishl (Int32.ofNat n) 1 1 (by decide)
  rw [own_ti (by omega)] at h1
  rw [own_ti (by omega : 2 * n ≤ 8000)]
  have := rng32 ((Int32.ofNat n) <<< ((1 : Int32) &&& 31))
  omega
theorem own_shr1 {n : Nat} (h : n ≤ 4000) : (Int32.ofNat (2 * n)) >>> ((1 : Int32) &&& 31) = Int32.ofNat n := by
  apply own_eqI
  rw [c_ishr (Int32.ofNat (2 * n)) 1 1 (by decide), own_ti (by omega : 2 * n ≤ 8000), own_ti (by omega)]
  omega
theorem own_shr0 (z : Int32) : z >>> ((0 : Int32) &&& 31) = z := by
  apply own_eqI
  rw [c_ishr z 0 0 (by decide)]; simp
def own_mix {α : Type} (ys vs : List α) (j : Nat) : List α := ys.take j ++ vs.drop j
theorem own_mix0 {α : Type} (ys vs : List α) : own_mix ys vs 0 = vs := by simp [own_mix]
theorem own_mixn {α : Type} (ys vs : List α) (n : Nat) (h : ys.length = n) (h2 : vs.length = n) : own_mix ys vs n = ys := by
  simp [own_mix, ← h, ← h2]
  omega
theorem own_mixl {α : Type} (ys vs : List α) (j : Nat) (h : ys.length = vs.length) : (own_mix ys vs j).length = vs.length := by simp [own_mix]; omega
theorem own_mixs {α : Type} (ys vs : List α) (d : α) (j : Nat) (h : ys.length = vs.length) (hj : j < vs.length) : (own_mix ys vs j).set j (ys.getD j d) = own_mix ys vs (j + 1) := by
  have hj' : j < ys.length := by omega
  apply List.ext_getElem?
  intro i
  simp only [own_mix, List.getElem?_set, List.length_append, List.length_take, List.length_drop, List.getElem?_append, List.getElem?_take, List.getElem?_drop, List.getD_eq_getElem?_getD, List.getElem?_eq_getElem hj', Option.getD_some]
  by_cases h1 : j = i
  · subst h1
    rw [if_pos rfl, if_pos (by omega), if_pos (by omega), if_pos (by omega), List.getElem?_eq_getElem hj']
  · rw [if_neg h1]
    by_cases h2 : i < j
    · rw [if_pos (by omega), if_pos (by omega), if_pos (by omega), if_pos (by omega)]
    · rw [if_neg (by omega), if_neg (by omega)]
      congr 1
      omega
/-- every char lies below 256 -/
abbrev own_lat (cs : List Int32) : Prop := ∀ c ∈ cs, ¬ ((255 : Int32) < c)
/-- every one is a char -/
abbrev own_chs (cs : List Int32) : Prop := ∀ c ∈ cs, ¬ (c < (0 : Int32)) ∧ ¬ ((65535 : Int32) < c)
def own_low (cs : List Int32) : List Value := cs.map fun c => .int (own_lo c)
def own_wide : List Int32 → List Value
  | [] => []
  | c :: r => .int (own_lo (c >>> ((0 : Int32) &&& 31))) :: .int (own_lo (c >>> ((8 : Int32) &&& 31))) :: own_wide r
def own_cod (cs : List Int32) : Int32 := if own_lat cs then 0 else 1
def own_enc (cs : List Int32) : List Value := if own_lat cs then own_low cs else own_wide cs
def own_enl (cs : List Int32) : Nat := if own_lat cs then cs.length else 2 * cs.length
theorem own_lowl (cs : List Int32) : (own_low cs).length = cs.length := by simp [own_low]
theorem own_widel : ∀ cs : List Int32, (own_wide cs).length = 2 * cs.length
  | [] => rfl
  | c :: r => by simp only [own_wide, List.length_cons, own_widel r]; omega
theorem own_getc (cs : List Int32) (j : Nat) (d : Value) (hj : j < cs.length) (hb : cs.length ≤ 8000) : (cs.map Value.int).getD (Int32.ofNat j).toNatClampNeg d = .int (cs.getD j 0) := by
  rw [own_tn (by omega)]
  simp [List.getD_eq_getElem?_getD, List.getElem?_map, List.getElem?_eq_getElem hj]
theorem own_getl (cs : List Int32) (j : Nat) (d : Value) (hj : j < cs.length) (hb : cs.length ≤ 8000) : (own_low cs).getD (Int32.ofNat j).toNatClampNeg d = .int (own_lo (cs.getD j 0)) := by
  rw [own_tn (by omega)]
  simp [own_low, List.getD_eq_getElem?_getD, List.getElem?_map, List.getElem?_eq_getElem hj]
theorem own_mem (cs : List Int32) (j : Nat) (hj : j < cs.length) : cs.getD j 0 ∈ cs := by
  simp [List.getD_eq_getElem?_getD, List.getElem?_eq_getElem hj]
theorem own_lolo (c : Int32) : nar .byte (own_lo c) = own_lo c := by
  show (own_lo c).toInt8.toInt32 = own_lo c
  simp [own_lo]
theorem own_mixc (cs : List Int32) (vs : List Value) (j : Nat) (h : cs.length = vs.length) (hj : j < vs.length) : (own_mix (own_low cs) vs j).set j (.int (nar .byte (own_lo (cs.getD j 0)))) = own_mix (own_low cs) vs (j + 1) := by
  have e : Value.int (own_lo (cs.getD j 0)) = (own_low cs).getD j (.int 0) := by
    simp [own_low, List.getD_eq_getElem?_getD, List.getElem?_map, List.getElem?_eq_getElem (by omega : j < cs.length)]
  rw [own_lolo, e]
  exact own_mixs _ _ _ _ (by rw [own_lowl]; exact h) hj
theorem own_wide0 (d : Value) : ∀ (cs : List Int32) (j : Nat), j < cs.length → (own_wide cs).getD (2 * j) d = .int (own_lo ((cs.getD j 0) >>> ((0 : Int32) &&& 31)))
  | [], _, h => nomatch h
  | c :: r, 0, _ => rfl
  | c :: r, j + 1, h => by
    have := own_wide0 d r j (by simpa using h)
    show (own_wide (c :: r)).getD (2 * j + 2) d = _
    simpa [own_wide] using this
theorem own_wide1 (d : Value) : ∀ (cs : List Int32) (j : Nat), j < cs.length → (own_wide cs).getD (2 * j + 1) d = .int (own_lo ((cs.getD j 0) >>> ((8 : Int32) &&& 31)))
  | [], _, h => nomatch h
  | c :: r, 0, _ => rfl
  | c :: r, j + 1, h => by
    have := own_wide1 d r j (by simpa using h)
    show (own_wide (c :: r)).getD (2 * j + 1 + 2) d = _
    simpa [own_wide] using this
theorem own_mixw (cs : List Int32) (vs : List Value) (j : Nat) (h : 2 * cs.length = vs.length) (hj : j < cs.length) :
    ((own_mix (own_wide cs) vs (2 * j)).set (2 * j) (.int (own_lo ((cs.getD j 0) >>> ((0 : Int32) &&& 31))))).set (2 * j + 1) (.int (own_lo ((cs.getD j 0) >>> ((8 : Int32) &&& 31)))) = own_mix (own_wide cs) vs (2 * (j + 1)) := by
  have hl : (own_wide cs).length = vs.length := by rw [own_widel]; exact h
  rw [← own_wide0 (.int 0) cs j hj, own_mixs _ _ _ _ hl (by omega), ← own_wide1 (.int 0) cs j hj, own_mixs _ _ _ _ hl (by omega)]
  rfl
/-- two bytes make the char again -/
theorem own_pair {c : Int32} (h0 : ¬ (c < (0 : Int32))) (h1 : ¬ ((65535 : Int32) < c)) :
    i2c (((own_lo (c >>> ((0 : Int32) &&& 31)) &&& (255 : Int32)) <<< ((0 : Int32) &&& 31)) ||| ((own_lo (c >>> ((8 : Int32) &&& 31)) &&& (255 : Int32)) <<< ((8 : Int32) &&& 31))) = c := by
  have b0 : 0 ≤ c.toInt ∧ c.toInt ≤ 65535 := by
    rw [Int32.lt_iff_toInt_lt] at h0 h1
    have : (0 : Int32).toInt = 0 := rfl
    have : (65535 : Int32).toInt = 65535 := rfl
    omega
  rw [own_shr0]
  have e8 : (c >>> ((8 : Int32) &&& 31)).toInt = c.toInt / 256 := c_ishr c 8 8 (by decide)
  have a1 := c_i2b c
  have a2 := c_i2b (c >>> ((8 : Int32) &&& 31))
  have m1 : (own_lo c &&& (255 : Int32)).toInt = (own_lo c).toInt % 256 := c_mask (own_lo c) 255 8 (by decide) (by decide)
  have m2 : (own_lo (c >>> ((8 : Int32) &&& 31)) &&& (255 : Int32)).toInt = (own_lo (c >>> ((8 : Int32) &&& 31))).toInt % 256 := c_mask (own_lo (c >>> ((8 : Int32) &&& 31))) 255 8 (by decide) (by decide)
  change ((own_lo c).toInt - c.toInt) % 256 = 0 ∧ _ at a1
  change ((own_lo (c >>> ((8 : Int32) &&& 31))).toInt - (c >>> ((8 : Int32) &&& 31)).toInt) % 256 = 0 ∧ _ at a2
  generalize own_lo c = u at *
  generalize own_lo (c >>> ((8 : Int32) &&& 31)) = w at *
  have s1 : ((u &&& (255 : Int32)) <<< ((0 : Int32) &&& 31)) = (u &&& (255 : Int32)) := by
    apply own_eqI
    have := c_ishl (u &&& (255 : Int32)) 0 0 (by decide)
    have := rng32 ((u &&& (255 : Int32)) <<< ((0 : Int32) &&& 31))
    omega
  have s2 := c_ishl (w &&& (255 : Int32)) 8 8 (by decide)
  have r2 := rng32 ((w &&& (255 : Int32)) <<< ((8 : Int32) &&& 31))
  rw [s1]
  generalize (w &&& (255 : Int32)) <<< ((8 : Int32) &&& 31) = y at *
  generalize u &&& (255 : Int32) = z at *
  have o := c_or' z y 8 (by decide) 256 rfl (by omega) (by omega) (by omega)
  have i := c_i2c (z ||| y)
  have r3 := rng32 (z ||| y)
  apply own_eqI
  show ((z ||| y).toUInt32.toUInt16.toUInt32.toInt32).toInt = _
  omega
theorem own_lo_inj {c d : Int32} (h0 : ¬ (c < (0 : Int32))) (h1 : ¬ ((255 : Int32) < c)) (g0 : ¬ (d < (0 : Int32))) (g1 : ¬ ((255 : Int32) < d)) (e : own_lo c = own_lo d) : c = d := by
  apply own_eqI
  have a1 := c_i2b c
  have a2 := c_i2b d
  have e' : c.toInt8.toInt32.toInt = d.toInt8.toInt32.toInt := congrArg Int32.toInt e
  rw [Int32.lt_iff_toInt_lt] at h0 h1 g0 g1
  have : (0 : Int32).toInt = 0 := rfl
  have : (255 : Int32).toInt = 255 := rfl
  omega
theorem own_ltbig {n : Nat} (h : n ≤ 8000) : (Int32.ofNat n) < (1073741823 : Int32) := by
  rw [Int32.lt_iff_toInt_lt, own_ti h]
  show (n : Int) < 1073741823
  omega
theorem own_narc {c : Int32} (h0 : ¬ (c < (0 : Int32))) (h1 : ¬ ((65535 : Int32) < c)) : nar .char c = c := by
  apply own_eqI
  have i := c_i2c c
  show (c.toUInt32.toUInt16.toUInt32.toInt32).toInt = _
  rw [Int32.lt_iff_toInt_lt] at h0 h1
  have : (0 : Int32).toInt = 0 := rfl
  have : (65535 : Int32).toInt = 65535 := rfl
  omega
theorem own_first {cs : List Int32} (h : ¬ own_lat cs) : ∃ i, i < cs.length ∧ (255 : Int32) < (cs.getD i 0) ∧ ∀ j, j < i → ¬ ((255 : Int32) < cs.getD j 0) := by
  induction cs with
  | nil => exact absurd (fun c hc => nomatch hc) h
  | cons c r ih =>
    by_cases hc : (255 : Int32) < c
    · exact ⟨0, by simp, hc, fun j hj => absurd hj (Nat.not_lt_zero j)⟩
    · have : ¬ own_lat r := fun hr => h fun d hd => by
        rcases List.mem_cons.mp hd with rfl | hd
        · exact hc
        · exact hr d hd
      obtain ⟨i, h1, h2, h3⟩ := ih this
      refine ⟨i + 1, by simpa using h1, by simpa using h2, fun j hj => ?_⟩
      cases j with
      | zero => simpa using hc
      | succ j => simpa using h3 j (by omega)
theorem own_fixL {Z : State} {hh : Heap} {b : Addr} {kb : ClassId} {cs : List Int32} {n : Nat} {vs : List Value} {d : Value} (h : own_lat cs) (F : Arv Z hh b kb .byte (Int32.ofNat n) (own_mix (own_low cs) vs n) d) (hn : cs.length = n) (hv : vs.length = n) : Arv Z hh b kb .byte (Int32.ofNat (own_enl cs)) (own_enc cs) d := by
  rw [own_mixn _ _ n (by rw [own_lowl]; exact hn) hv] at F
  rw [own_enl, own_enc, if_pos h, if_pos h, hn]; exact F
theorem own_fixW {Z : State} {hh : Heap} {b : Addr} {kb : ClassId} {cs : List Int32} {n : Nat} {d : Value} (h : ¬ own_lat cs) (F : Arv Z hh b kb .byte (Int32.ofNat (2 * n)) (own_wide cs) d) (hn : cs.length = n) : Arv Z hh b kb .byte (Int32.ofNat (own_enl cs)) (own_enc cs) d := by
  rw [own_enl, own_enc, if_neg h, if_neg h, hn]; exact F
theorem own_ne0 {n : Nat} (h : 0 < n) (hb : n ≤ 8000) : ¬ ((Int32.ofNat n) = (0 : Int32)) := fun e => by
  have := own_inj (n := 0) hb (by omega) e
  omega
theorem own_codl {cs : List Int32} {n : Nat} (hn : cs.length = n) (hp : 0 < n) (hb : n ≤ 4000) : nar .byte (own_lo (ushr ((Int32.ofNat n) - (Int32.ofNat (own_enl cs))) (31 : Int32))) = own_cod cs := by
  rw [own_lolo, own_enl, own_cod]
  by_cases h : own_lat cs
  · rw [if_pos h, if_pos h, hn, Int32.sub_self]; rfl
  · rw [if_neg h, if_neg h, hn]
    have e : ushr ((Int32.ofNat n) - (Int32.ofNat (2 * n))) (31 : Int32) = 1 := by
      apply own_eqI
      have a := c_isub (Int32.ofNat n) (Int32.ofNat (2 * n))
      rw [own_ti (by omega), own_ti (by omega : 2 * n ≤ 8000)] at a
      have r := rng32 ((Int32.ofNat n) - (Int32.ofNat (2 * n)))
      have s := c_iushr ((Int32.ofNat n) - (Int32.ofNat (2 * n))) 31 31 (by decide) (by decide)
      show (((Int32.ofNat n) - (Int32.ofNat (2 * n))).toUInt32 >>> ((31 : Int32) &&& 31).toUInt32).toInt32.toInt = 1
      rw [s]
      omega
    rw [e]; rfl
theorem own_c01 (cs : List Int32) : own_cod cs = 0 ∨ own_cod cs = 1 := by
  unfold own_cod; split
  · exact Or.inl rfl
  · exact Or.inr rfl
theorem own_cnar (cs : List Int32) : narrow .byte (.int (own_cod cs)) = .int (own_cod cs) := by rcases own_c01 cs with h | h <;> rw [h] <;> rfl
theorem own_cnarb (cs : List Int32) : nar .byte (own_cod cs) = own_cod cs := by rcases own_c01 cs with h | h <;> rw [h] <;> rfl
theorem own_cfit (cs : List Int32) : fits .byte (.int (own_cod cs)) = true := by rcases own_c01 cs with h | h <;> rw [h] <;> rfl
theorem own_lenq (cs : List Int32) (hb : cs.length ≤ 4000) : (Int32.ofNat (own_enl cs)) >>> ((own_cod cs) &&& 31) = Int32.ofNat cs.length := by
  rw [own_enl, own_cod]
  by_cases h : own_lat cs
  · rw [if_pos h, if_pos h]; exact own_shr0 _
  · rw [if_neg h, if_neg h]; exact own_shr1 hb
/-- one more than the place of the first ch among k chars from j on; 0: none -/
def own_ix (cs : List Int32) (ch : Int32) : Nat → Nat → Nat
  | _, 0 => 0
  | j, k + 1 => if cs.getD j 0 = ch then j + 1 else own_ix cs ch (j + 1) k
theorem own_ixle (cs : List Int32) (ch : Int32) : ∀ (k j : Nat), own_ix cs ch j k ≤ j + k
  | 0, j => by simp [own_ix]
  | k + 1, j => by
    unfold own_ix; split
    · omega
    · have := own_ixle cs ch k (j + 1); omega
theorem own_ix0 (cs : List Int32) (ch : Int32) (h : ∀ c ∈ cs, c ≠ ch) : ∀ (k j : Nat), j + k ≤ cs.length → own_ix cs ch j k = 0
  | 0, j, _ => rfl
  | k + 1, j, hj => by
    unfold own_ix
    rw [if_neg (h _ (own_mem cs j (by omega)))]
    exact own_ix0 cs ch h k (j + 1) (by omega)
theorem own_minT {i j : Nat} (hi : i ≤ 8000) (hj : j ≤ 8000) (h : ¬ ((Int32.ofNat j) < (Int32.ofNat i))) : Int32.ofNat i = Int32.ofNat (min i j) := by
  by_cases q : i ≤ j
  · rw [Nat.min_eq_left q]
  · exact absurd (own_lt (by omega) hi) h
theorem own_minF {i j : Nat} (hi : i ≤ 8000) (hj : j ≤ 8000) (h : (Int32.ofNat j) < (Int32.ofNat i)) : Int32.ofNat j = Int32.ofNat (min i j) := by
  by_cases q : i ≤ j
  · exact absurd h (own_nlt q hj)
  · rw [Nat.min_eq_right (by omega)]
theorem own_maxT {i j : Nat} (hi : i ≤ 8000) (hj : j ≤ 8000) (h : (Int32.ofNat i) < (Int32.ofNat j)) : Int32.ofNat j = Int32.ofNat (max i j) := by
  by_cases q : j ≤ i
  · exact absurd h (own_nlt q hi)
  · rw [Nat.max_eq_right (by omega)]
theorem own_maxF {i j : Nat} (hi : i ≤ 8000) (hj : j ≤ 8000) (h : ¬ ((Int32.ofNat i) < (Int32.ofNat j))) : Int32.ofNat i = Int32.ofNat (max i j) := by
  by_cases q : j ≤ i
  · rw [Nat.max_eq_left q]
  · exact absurd (own_lt (by omega) hj) h
theorem own_found (j : Nat) : Int32.ofNat j = Int32.ofNat (j + 1) - (1 : Int32) := by rw [own_up, Int32.add_sub_cancel]
theorem own_geth (cs : List Int32) (j : Nat) (d : Value) (hl : own_lat cs) (hj : j < cs.length) (hb : cs.length ≤ 8000) : (own_enc cs).getD (Int32.ofNat j).toNatClampNeg d = .int (own_lo (cs.getD j 0)) := by
  rw [own_enc, if_pos hl]; exact own_getl cs j d hj hb
theorem own_nari2c (z : Int32) : nar .char (i2c z) = i2c z := by
  have i := c_i2c z
  have k := c_i2c (z.toUInt32.toUInt16.toUInt32.toInt32)
  apply own_eqI
  show (z.toUInt32.toUInt16.toUInt32.toInt32).toUInt32.toUInt16.toUInt32.toInt32.toInt = z.toUInt32.toUInt16.toUInt32.toInt32.toInt
  omega
theorem own_rng {q z : Int32} (h : q = i2c z) : ¬ (q < (0 : Int32)) ∧ ¬ ((65535 : Int32) < q) := by
  have i := c_i2c z
  have e : q.toInt = z.toUInt32.toUInt16.toUInt32.toInt32.toInt := congrArg Int32.toInt h
  rw [Int32.lt_iff_toInt_lt, Int32.lt_iff_toInt_lt]
  have : (0 : Int32).toInt = 0 := rfl
  have : (65535 : Int32).toInt = 65535 := rfl
  omega
theorem own_chs0 : own_chs [] := fun _ h => nomatch h
theorem own_chsS {c : Int32} {r : List Int32} (h : ¬ (c < (0 : Int32)) ∧ ¬ ((65535 : Int32) < c)) (g : own_chs r) : own_chs (c :: r) := fun d hd => by
  rcases List.mem_cons.mp hd with rfl | hd
  · exact h
  · exact g d hd
theorem own_lat0 : own_lat [] := fun _ h => nomatch h
theorem own_latS {c : Int32} {r : List Int32} (h : ¬ ((255 : Int32) < c)) (g : own_lat r) : own_lat (c :: r) := fun d hd => by
  rcases List.mem_cons.mp hd with rfl | hd
  · exact h
  · exact g d hd
theorem own_int (z : Int32) (n : Nat) (h : z.toInt = n) : z = Int32.ofNat n := by
  apply Int32.toInt_inj.mp
  rw [h]
  have := z.toInt_lt
  have := z.le_toInt
  rw [Int32.toInt_ofNat_of_lt]
  omega
theorem own_and3 (z : Int32) : ∃ n : Nat, (z &&& (3 : Int32)) = Int32.ofNat n ∧ n < 4 := by
  have h := c_mask z 3 2 (by decide) (by decide)
  refine ⟨(z.toInt % 4).toNat, own_int _ _ ?_, by omega⟩
  rw [h]; omega
theorem own_modn (z : Int32) (d : Int32) (k : Nat) (hd : d.toInt = k) (hk : 0 < k) (hk2 : k ≤ 100) : ∃ n : Nat, ((z &&& (2147483647 : Int32)) % d) = Int32.ofNat n ∧ n < k := by
  have h := c_mask z 2147483647 31 (by decide) (by decide)
  have h2 := (c_irem (z &&& (2147483647 : Int32)) d k hd).1 (by rw [h]; omega)
  have h3 : 0 ≤ (z &&& (2147483647 : Int32)).toInt := by rw [h]; omega
  have h4 := Int.emod_nonneg (z &&& (2147483647 : Int32)).toInt (show (k : Int) ≠ 0 by omega)
  have h5 := Int.emod_lt_of_pos (z &&& (2147483647 : Int32)).toInt (show (0 : Int) < k by omega)
  refine ⟨((z &&& (2147483647 : Int32)).toInt % k).toNat, own_int _ _ ?_, by omega⟩
  rw [h2]; omega
theorem own_lt16 {c : Int32} (h : ¬ ((65535 : Int32) < c)) : c < (65536 : Int32) := by
  rw [Int32.lt_iff_toInt_lt] at *
  have : (65535 : Int32).toInt = 65535 := rfl
  have : (65536 : Int32).toInt = 65536 := rfl
  omega
theorem own_sub0 {i n : Nat} (h : ¬ ((Int32.ofNat i) < (Int32.ofNat n))) (hn : n ≤ 8000) : n - i = 0 := by
  by_cases q : i < n
  · exact absurd (own_lt q hn) h
  · omega
theorem own_cod0 {cs : List Int32} (h : own_lat cs) : own_cod cs = (0 : Int32) := if_pos h
theorem own_cod1 {cs : List Int32} (h : ¬ own_lat cs) : ¬ (own_cod cs = (0 : Int32)) := by rw [own_cod, if_neg h]; decide
/-- a String's bytes as ints -/
def own_wb : List Int32 → List Int32
  | [] => []
  | c :: r => own_lo (c >>> ((0 : Int32) &&& 31)) :: own_lo (c >>> ((8 : Int32) &&& 31)) :: own_wb r
def own_eb (cs : List Int32) : List Int32 := if own_lat cs then cs.map own_lo else own_wb cs
theorem own_wideb : ∀ cs : List Int32, own_wide cs = (own_wb cs).map Value.int
  | [] => rfl
  | c :: r => by simp only [own_wide, own_wb, List.map_cons, own_wideb r]
theorem own_encb (cs : List Int32) : own_enc cs = (own_eb cs).map Value.int := by
  rw [own_enc, own_eb]; split
  · simp [own_low]
  · exact own_wideb cs
theorem own_wbl : ∀ cs : List Int32, (own_wb cs).length = 2 * cs.length
  | [] => rfl
  | c :: r => by simp only [own_wb, List.length_cons, own_wbl r]; omega
theorem own_ebl (cs : List Int32) : (own_eb cs).length = own_enl cs := by
  rw [own_eb, own_enl]; split
  · simp
  · exact own_wbl cs
theorem own_mapinj : ∀ (cs ds : List Int32), own_chs cs → own_chs ds → own_lat cs → own_lat ds → cs.map own_lo = ds.map own_lo → cs = ds
  | [], [], _, _, _, _, _ => rfl
  | [], _ :: _, _, _, _, _, h => nomatch h
  | _ :: _, [], _, _, _, _, h => nomatch h
  | c :: r, d :: q, hc, hd, lc, ld, h => by
    simp only [List.map_cons, List.cons.injEq] at h
    have e : c = d := own_lo_inj (hc c (by simp)).1 (lc c (by simp)) (hd d (by simp)).1 (ld d (by simp)) h.1
    rw [e, own_mapinj r q (fun x hx => hc x (by simp [hx])) (fun x hx => hd x (by simp [hx])) (fun x hx => lc x (by simp [hx])) (fun x hx => ld x (by simp [hx])) h.2]
theorem own_wbinj : ∀ (cs ds : List Int32), own_chs cs → own_chs ds → own_wb cs = own_wb ds → cs = ds
  | [], [], _, _, _ => rfl
  | [], _ :: _, _, _, h => nomatch h
  | _ :: _, [], _, _, h => nomatch h
  | c :: r, d :: q, hc, hd, h => by
    simp only [own_wb, List.cons.injEq] at h
    have e : c = d := by
      rw [← own_pair (hc c (by simp)).1 (hc c (by simp)).2, ← own_pair (hd d (by simp)).1 (hd d (by simp)).2, h.1, h.2.1]
    rw [e, own_wbinj r q (fun x hx => hc x (by simp [hx])) (fun x hx => hd x (by simp [hx])) h.2.2]
theorem own_encinj {cs ds : List Int32} (hc : own_chs cs) (hd : own_chs ds) (h : own_cod cs = own_cod ds) (e : own_eb cs = own_eb ds) : cs = ds := by
  by_cases l1 : own_lat cs <;> by_cases l2 : own_lat ds
  · rw [own_eb, own_eb, if_pos l1, if_pos l2] at e; exact own_mapinj _ _ hc hd l1 l2 e
  · rw [own_cod, own_cod, if_pos l1, if_neg l2] at h; exact absurd h (by decide)
  · rw [own_cod, own_cod, if_neg l1, if_pos l2] at h; exact absurd h (by decide)
  · rw [own_eb, own_eb, if_neg l1, if_neg l2] at e; exact own_wbinj _ _ hc hd e
theorem own_ext {xs ys : List Int32} (hl : xs.length = ys.length) (h : ∀ i, i < xs.length → xs.getD i 0 = ys.getD i 0) : xs = ys := by
  apply List.ext_getElem hl
  intro i h1 h2
  have := h i h1
  simpa [List.getD_eq_getElem?_getD, List.getElem?_eq_getElem h1, List.getElem?_eq_getElem h2] using this
theorem own_enll (cs : List Int32) : own_enl cs ≤ 2 * cs.length := by rw [own_enl]; split <;> omega
def own_mk : Nat → Int32 → Int32 → Int32 → List Int32
  | 0, _, _, _ => []
  | 1, x, _, _ => [x]
  | 2, x, y, _ => [x, y]
  | _ + 3, x, y, z => [x, y, z]
theorem own_mkl (n : Nat) (x y z : Int32) : (own_mk n x y z).length ≤ 3 := by
  unfold own_mk; split <;> simp
theorem own_mkchs {n : Nat} {x y z : Int32} (h : n < 4) (hx : ¬ (x < (0 : Int32)) ∧ ¬ ((65535 : Int32) < x)) (hy : ¬ (y < (0 : Int32)) ∧ ¬ ((65535 : Int32) < y)) (hz : ¬ (z < (0 : Int32)) ∧ ¬ ((65535 : Int32) < z)) : own_chs (own_mk n x y z) := by
  unfold own_mk; split
  · exact own_chs0
  · exact own_chsS hx own_chs0
  · exact own_chsS hx (own_chsS hy own_chs0)
  · exact own_chsS hx (own_chsS hy (own_chsS hz own_chs0))
theorem own_le64k {c : Int32} (h : ¬ ((255 : Int32) < c)) : ¬ ((65535 : Int32) < c) := by
  rw [Int32.lt_iff_toInt_lt] at *
  have : (65535 : Int32).toInt = 65535 := rfl
  have : (255 : Int32).toInt = 255 := rfl
  omega
theorem own_small {z : Int32} (h : 0 ≤ z.toInt ∧ z.toInt ≤ 255) : ¬ (i2c z < (0 : Int32)) ∧ ¬ ((255 : Int32) < i2c z) := by
  have i := c_i2c z
  rw [Int32.lt_iff_toInt_lt, Int32.lt_iff_toInt_lt]
  have : (0 : Int32).toInt = 0 := rfl
  have : (255 : Int32).toInt = 255 := rfl
  show ¬ ((z.toUInt32.toUInt16.toUInt32.toInt32).toInt < (0 : Int32).toInt) ∧ ¬ ((255 : Int32).toInt < (z.toUInt32.toUInt16.toUInt32.toInt32).toInt)
  omega
theorem own_m255 (z : Int32) : 0 ≤ (z &&& (255 : Int32)).toInt ∧ (z &&& (255 : Int32)).toInt ≤ 255 := by
  have := c_mask z 255 8 (by decide) (by decide)
  omega
theorem own_b255 (z : Int32) : ¬ (i2c (z &&& (255 : Int32)) < (0 : Int32)) ∧ ¬ ((255 : Int32) < i2c (z &&& (255 : Int32))) := own_small (own_m255 z)
theorem own_k255 (z : Int32) : ¬ ((z &&& (255 : Int32)) < (0 : Int32)) ∧ ¬ ((255 : Int32) < (z &&& (255 : Int32))) := by
  have := own_m255 z
  rw [Int32.lt_iff_toInt_lt, Int32.lt_iff_toInt_lt]
  have : (0 : Int32).toInt = 0 := rfl
  have : (255 : Int32).toInt = 255 := rfl
  omega
theorem own_xb (z w : Int32) (h : 0 ≤ z.toInt ∧ z.toInt ≤ 255) (g : 0 ≤ w.toInt ∧ w.toInt ≤ 255) : 0 ≤ (z ^^^ w).toInt ∧ (z ^^^ w).toInt ≤ 255 := by
  have t (v : Int32) (h : 0 ≤ v.toInt ∧ v.toInt ≤ 255) : v.toBitVec.toNat < 256 := by
    have := v.toBitVec.isLt
    have e : v.toInt = v.toBitVec.toInt := rfl
    rw [BitVec.toInt_eq_toNat_cond] at e
    split at e <;> omega
  have h1 := t z h
  have h2 := t w g
  have h3 : (z ^^^ w).toBitVec.toNat < 256 := by
    rw [Int32.toBitVec_xor, BitVec.toNat_xor]
    exact Nat.xor_lt_two_pow (n := 8) h1 h2
  have e : (z ^^^ w).toInt = (z ^^^ w).toBitVec.toInt := rfl
  rw [BitVec.toInt_eq_toNat_cond] at e
  split at e <;> omega
theorem own_x255 {z w : Int32} (h : ¬ (z < (0 : Int32)) ∧ ¬ ((255 : Int32) < z)) (g : ¬ (w < (0 : Int32)) ∧ ¬ ((255 : Int32) < w)) : ¬ (i2c (z ^^^ w) < (0 : Int32)) ∧ ¬ ((255 : Int32) < i2c (z ^^^ w)) := by
  rw [Int32.lt_iff_toInt_lt, Int32.lt_iff_toInt_lt] at h g
  have : (0 : Int32).toInt = 0 := rfl
  have : (255 : Int32).toInt = 255 := rfl
  exact own_small (own_xb z w (by omega) (by omega))
theorem own_chr {c : Int32} (h0 : ¬ (c < (0 : Int32))) (h1 : ¬ ((255 : Int32) < c)) : nar .char (i2c (own_lo c &&& (255 : Int32))) = c := by
  rw [own_nari2c]
  apply own_eqI
  have a := c_i2b c
  have m := c_mask (own_lo c) 255 8 (by decide) (by decide)
  change ((own_lo c).toInt - c.toInt) % 256 = 0 ∧ _ at a
  have i := c_i2c (own_lo c &&& (255 : Int32))
  show ((own_lo c &&& (255 : Int32)).toUInt32.toUInt16.toUInt32.toInt32).toInt = c.toInt
  rw [Int32.lt_iff_toInt_lt] at h0 h1
  have : (0 : Int32).toInt = 0 := rfl
  have : (255 : Int32).toInt = 255 := rfl
  omega
theorem own_enl0 {cs : List Int32} (hb : cs.length ≤ 4000) : (Int32.ofNat (own_enl cs)) = (0 : Int32) ↔ cs = [] := by
  constructor
  · intro e
    have h : own_enl cs = 0 := own_inj (n := 0) (by have := own_enll cs; omega) (by decide) e
    have : cs.length = 0 := by rw [own_enl] at h; split at h <;> omega
    exact List.eq_nil_of_length_eq_zero this
  · rintro rfl; rw [own_enl, if_pos own_lat0]; rfl
theorem own_rt (ys : List Int32) (k : Nat) (d : Value) (h : k ≤ ys.length) : ((List.range k).map fun i => (ys.map Value.int).getD (0 + i) d) = (ys.take k).map Value.int := by
  apply List.ext_getElem
  · simp; omega
  · intro i h1 h2
    have hi : i < ys.length := by simp at h1; omega
    simp [List.getD_eq_getElem?_getD, List.getElem?_eq_getElem hi]
theorem own_z0 : (0 : Int32).toNatClampNeg = 0 := rfl
/-- what a copy leaves: k bytes of ys at p -/
theorem own_cpy (xs ys : List Int32) (p k : Nat) (d : Value) (hk : k ≤ ys.length) (hy : ys.length ≤ 8000) (hp : p ≤ 8000) :
    ((xs.map Value.int).take (Int32.ofNat p).toNatClampNeg ++ ((List.range (Int32.ofNat k).toNatClampNeg).map fun i => (ys.map Value.int).getD ((0 : Int32).toNatClampNeg + i) d) ++ (xs.map Value.int).drop ((Int32.ofNat p).toNatClampNeg + (Int32.ofNat k).toNatClampNeg)) = (xs.take p ++ ys.take k ++ xs.drop (p + k)).map Value.int := by
  rw [own_tn hp, own_tn (by omega : k ≤ 8000), own_z0, own_rt ys k d hk]
  simp [List.map_take, List.map_drop]
theorem own_arvcast {Z : State} {h : Heap} {a : Addr} {k : ClassId} {ty : FieldType} {z : Int32} {vs vs' : List Value} {d : Value} (e : vs = vs') (F : Arv Z h a k ty z vs d) : Arv Z h a k ty z vs' d := e ▸ F
theorem own_cpC (xs : List Int32) (k : Nat) (hk : k ≤ xs.length) (hy : xs.length ≤ 8000) :
    ((List.map Value.int (List.replicate k (0 : Int32))).take (0 : Int32).toNatClampNeg ++ ((List.range (Int32.ofNat k).toNatClampNeg).map fun i => (xs.map Value.int).getD ((0 : Int32).toNatClampNeg + i) (.int (0 : Int32))) ++ (List.map Value.int (List.replicate k (0 : Int32))).drop ((0 : Int32).toNatClampNeg + (Int32.ofNat k).toNatClampNeg)) = (xs.take k).map Value.int := by
  rw [own_z0, own_tn (by omega : k ≤ 8000), own_rt xs k _ hk]
  simp
theorem own_cpG (xs cs : List Int32) (p : Nat) (hc : cs.length ≤ 8000) (hp : p ≤ 8000) :
    ((xs.map Value.int).take (Int32.ofNat p).toNatClampNeg ++ ((List.range (Int32.ofNat cs.length).toNatClampNeg).map fun i => ((cs.map own_lo).map Value.int).getD ((0 : Int32).toNatClampNeg + i) (.int (0 : Int32))) ++ (xs.map Value.int).drop ((Int32.ofNat p).toNatClampNeg + (Int32.ofNat cs.length).toNatClampNeg)) = (xs.take p ++ cs.map own_lo ++ xs.drop (p + cs.length)).map Value.int := by
  have e := own_cpy xs (cs.map own_lo) p cs.length (.int (0 : Int32)) (by simp) (by simpa using hc) hp
  rwa [show (cs.map own_lo).take cs.length = cs.map own_lo from List.take_of_length_le (by simp)] at e
theorem own_nnn {n : Nat} (h : n ≤ 8000) : ¬ ((Int32.ofNat n) < 0) := own_nn h
theorem own_addn (a b : Nat) : (Int32.ofNat a) + (Int32.ofNat b) = Int32.ofNat (a + b) := (Int32.ofNat_add a b).symm
theorem own_subn {n k : Nat} (h : k ≤ n) : (Int32.ofNat n) - (Int32.ofNat k) = Int32.ofNat (n - k) := by
  obtain ⟨j, rfl⟩ : ∃ j, n = j + k := ⟨n - k, by omega⟩
  rw [Int32.ofNat_add, Int32.add_sub_cancel, Nat.add_sub_cancel]
theorem own_shl0 (z : Int32) : z <<< ((0 : Int32) &&& 31) = z := by
  apply own_eqI
  have := c_ishl z 0 0 (by decide)
  have := rng32 (z <<< ((0 : Int32) &&& 31))
  have := rng32 z
  omega
theorem own_lattake {cs : List Int32} {k : Nat} (h : own_lat cs) : own_lat (cs.take k) := fun c hc => h c (List.mem_of_mem_take hc)
theorem own_chstake {cs : List Int32} {k : Nat} (h : own_chs cs) : own_chs (cs.take k) := fun c hc => h c (List.mem_of_mem_take hc)
theorem own_latapp {cs ds : List Int32} (h : own_lat cs) (g : own_lat ds) : own_lat (cs ++ ds) := fun c hc => (List.mem_append.mp hc).elim (h c) (g c)
theorem own_chsapp {cs ds : List Int32} (h : own_chs cs) (g : own_chs ds) : own_chs (cs ++ ds) := fun c hc => (List.mem_append.mp hc).elim (h c) (g c)
/-- Latin bytes are the encoding -/
theorem own_toenc {Z : State} {h : Heap} {b : Addr} {k : ClassId} {cs : List Int32} {d : Value} (l : own_lat cs) (F : Arv Z h b k .byte (Int32.ofNat cs.length) ((cs.map own_lo).map Value.int) d) : Arv Z h b k .byte (Int32.ofNat (own_enl cs)) (own_enc cs) d := by
  rw [own_encb, own_eb, own_enl, if_pos l, if_pos l]; exact F
theorem own_ofenc {Z : State} {h : Heap} {b : Addr} {k : ClassId} {cs : List Int32} {d : Value} (l : own_lat cs) (F : Arv Z h b k .byte (Int32.ofNat (own_enl cs)) (own_enc cs) d) : Arv Z h b k .byte (Int32.ofNat cs.length) ((cs.map own_lo).map Value.int) d := by
  rw [own_encb, own_eb, own_enl, if_pos l, if_pos l] at F; exact F
theorem own_cap16 {m : Nat} (h : m ≤ 16) : ¬ ((0 : Int32) < ((Int32.ofNat m) - ((16 : Int32) >>> ((0 : Int32) &&& 31)))) := (by decide : ∀ m, m < 17 → ¬ ((0 : Int32) < ((Int32.ofNat m) - ((16 : Int32) >>> ((0 : Int32) &&& 31))))) m (by omega)
theorem own_takeapp {xs ys zs : List Int32} {k : Nat} (h : (xs ++ ys).length = k) : (xs ++ ys ++ zs).take k = xs ++ ys := by rw [← h]; exact List.take_left
abbrev ELs : List (String × Nat) := consts_1
theorem own_EW {Z : State} {a0 : Array Value} (hw : ∀ d ∈ tables_1, d.before a0 Z = true) : EW Z a0 ELs := (EW.cons (hw _ (List.mem_of_getElem? (i := 73) rfl)) (by decide) (EW.cons (hw _ (List.mem_of_getElem? (i := 156) rfl)) (by decide) EW.nil))
theorem own_wS {Z : State} {a0 : Array Value} (hw : ∀ d ∈ tables_1, d.before a0 Z = true) : ∀ a ∈ Bundle.stringAtoms, a.before a0 Z = true := by
  intro a ha
  simp only [Bundle.stringAtoms, List.mem_cons, List.not_mem_nil, or_false] at ha
  rcases ha with rfl | rfl | rfl | rfl | rfl | rfl | rfl
  · exact (hw _ (List.mem_of_getElem? (i := 14) rfl))
  · exact (hw _ (List.mem_of_getElem? (i := 13) rfl))
  · exact (hw _ (List.mem_of_getElem? (i := 30) rfl))
  · exact (hw _ (List.mem_of_getElem? (i := 40) rfl))
  · exact (hw _ (List.mem_of_getElem? (i := 38) rfl))
  · exact (hw _ (List.mem_of_getElem? (i := 74) rfl))
  · exact (hw _ (List.mem_of_getElem? (i := 75) rfl))
theorem own_NSroot {Z : State} {a0 : Array Value} {O K : String} {n : Nat} (w : (Jvm.Cond.noSuperclass O).before a0 Z = true) (wk : (Jvm.Cond.instantiable K n).before a0 Z = true) (hn : O ≠ K) : NS Z O K := by
  obtain ⟨c, k, h1, h2, h3, -, -⟩ := Cond.noSuperclass_spec w
  obtain ⟨t, kt, g1, -⟩ := Cond.instantiable_spec wk
  have ne := ids_ne h1 g1 hn
  refine ⟨c, t, h1, g1, fun fuel => ?_⟩
  cases fuel with
  | zero => rfl
  | succ f => simp [Vm.isSubclassAux, ne, h2, h3]
theorem own_NSno {Z : State} {a0 : Array Value} {C S K : String} {m : Nat} (w : (Jvm.Cond.superclass C S).before a0 Z = true) (wk : (Jvm.Cond.instantiable K m).before a0 Z = true) (n : NS Z C K) (hn : C ≠ K) : ∃ c t, Z.vm.findClass C = some c ∧ Z.vm.findClass K = some t ∧ Z.vm.assignable c t = false := by
  obtain ⟨c, t, h0, g0, n3⟩ := n
  obtain ⟨p, k, kp, h1, h2, h3, h4, h5, -, h7⟩ := Cond.superclass_spec h0 w
  obtain ⟨t', k', q1, q2, q3, q4, -⟩ := Cond.instantiable_spec wk
  cases g0.symm.trans q1
  have q5 : k'.isInterface = false := (Bool.or_eq_false_iff.mp q4).1
  have ne := ids_ne h0 g0 hn
  refine ⟨c, t, h0, g0, ?_⟩
  show Z.vm.assignableAux (255 + 1) c t = false
  simp [Vm.assignableAux, ne, h2, q2, h5, q3, q5, Vm.isSubclass, n3]
/-- a String whose value is still null is no constant's -/
theorem own_safeN {Z : State} {EL : List (String × Nat)} {vm : Vm} {h : Heap} {a : Addr} (hal : Z.vm.Alike vm) (E : Exa Z h a "java/lang/String") (F : Fld Z h a "java/lang/String" "value" "[B" .null) : Safe Z EL vm h a := fun B => by
  obtain ⟨p, -, u, a', -, q, -, S, rfl | rfl⟩ := B
  · obtain ⟨cS, ⟨⟨s1, -, -, ⟨c1, k1, i1, f1, -⟩, -, -, -, v1, -⟩, -⟩, -⟩ := S
    obtain ⟨cell, cf, k', i', f, e1, e2, -, -, -, -, e7⟩ := F
    cases (show h[q.sa]? = some q.sC from s1).symm.trans e1
    obtain ⟨k3, e3, -⟩ := State.fieldFound?_setVm (s := Z) hal e2
    have e4 := (show (Wst Z vm h).fieldFound? _ _ _ = _ from e3).symm.trans f1
    simp only [Option.some.injEq, Prod.mk.injEq] at e4
    rw [← e4.2.2.2, e7] at v1
    cases v1
  · obtain ⟨cell, k, e1, e2, e3, -, -⟩ := E
    cases (show h[q.sd]? = some q.SA from S.hd).symm.trans e1
    obtain ⟨cS, -, -, f, -⟩ := S
    have f' : vm.findClass "[B" = some q.SA.cls := f
    rw [hal.findClass] at f'
    obtain ⟨k1, q1, q2⟩ := Vm.findClass_spec f'
    obtain ⟨k2, q3, q4⟩ := Vm.findClass_spec e2
    cases q1.symm.trans q3
    exact absurd (q2.symm.trans q4) (by decide)
theorem own_fix0 {Z : State} {hh : Heap} {b : Addr} {kb : ClassId} {cs : List Int32} {d : Value} (h : cs = []) (F : Arv Z hh b kb .byte (0 : Int32) [] d) : Arv Z hh b kb .byte (Int32.ofNat (own_enl cs)) (own_enc cs) d := by
  subst h
  rw [own_enl, own_enc, if_pos own_lat0, if_pos own_lat0]; exact F
theorem own_pos {n : Nat} (h : ¬ ((Int32.ofNat n) = (0 : Int32))) : 0 < n := by
  cases n with
  | zero => exact absurd rfl h
  | succ n => omega
def own_tx0 : List Int32 := [(46 : Int32), (106 : Int32), (115 : Int32), (111 : Int32), (110 : Int32)]
theorem own_tx0_lat : own_lat own_tx0 := by decide
theorem own_tx0_chs : own_chs own_tx0 := by decide
theorem own_tx0_lit {Z : State} {h : Heap} {b : Addr} {k : ClassId} (F : Arv Z h b k .byte (5 : Int32) [(.int (46 : Int32)), (.int (106 : Int32)), (.int (115 : Int32)), (.int (111 : Int32)), (.int (110 : Int32))] (.int (0 : Int32))) : Arv Z h b k .byte (Int32.ofNat (own_enl own_tx0)) (own_enc own_tx0) (.int (0 : Int32)) := by
  rw [own_enl, own_enc, if_pos own_tx0_lat, if_pos own_tx0_lat]; exact F
def own_tx1 : List Int32 := [(46 : Int32), (116 : Int32), (97 : Int32), (103 : Int32), (115 : Int32)]
theorem own_tx1_lat : own_lat own_tx1 := by decide
theorem own_tx1_chs : own_chs own_tx1 := by decide
theorem own_tx1_lit {Z : State} {h : Heap} {b : Addr} {k : ClassId} (F : Arv Z h b k .byte (5 : Int32) [(.int (46 : Int32)), (.int (116 : Int32)), (.int (97 : Int32)), (.int (103 : Int32)), (.int (115 : Int32))] (.int (0 : Int32))) : Arv Z h b k .byte (Int32.ofNat (own_enl own_tx1)) (own_enc own_tx1) (.int (0 : Int32)) := by
  rw [own_enl, own_enc, if_pos own_tx1_lat, if_pos own_tx1_lat]; exact F
theorem own_tagts (ds : List Int32) : List.take (0 + ds.length + own_tx1.length) (List.take (0 + ds.length) (List.take 0 (List.replicate 16 (0 : Int32)) ++ List.map own_lo ds ++ List.drop (0 + ds.length) (List.replicate 16 (0 : Int32))) ++ List.map own_lo own_tx1 ++ List.drop (0 + ds.length + own_tx1.length) (List.take 0 (List.replicate 16 (0 : Int32)) ++ List.map own_lo ds ++ List.drop (0 + ds.length) (List.replicate 16 (0 : Int32)))) = (ds ++ own_tx1).map own_lo := by
  have e1 : List.take (0 + ds.length) (List.take 0 (List.replicate 16 (0 : Int32)) ++ List.map own_lo ds ++ List.drop (0 + ds.length) (List.replicate 16 (0 : Int32))) = List.map own_lo ds := by
    rw [List.take_zero, List.nil_append]
    have : 0 + ds.length = (List.map own_lo ds).length := by simp
    rw [this]; exact List.take_left
  rw [e1, List.map_append]
  exact own_takeapp (by simp)
def own_stem (n : Nat) (cs : List Int32) (sa sb sc sd se : Int32) : List Int32 :=
  match n with
  | 0 => cs
  | 1 => (List.set cs (5) sa)
  | 2 => (List.set (List.set cs (5) sa) (6) sb)
  | 3 => (List.set (List.set (List.set cs (5) sa) (6) sb) (7) sc)
  | 4 => (List.set (List.set (List.set (List.set cs (5) sa) (6) sb) (7) sc) (8) sd)
  | _ + 5 => (List.set (List.set (List.set (List.set (List.set cs (5) sa) (6) sb) (7) sc) (8) sd) (9) se)
theorem own_steml {n : Nat} {cs : List Int32} {sa sb sc sd se : Int32} : (own_stem n cs sa sb sc sd se).length = cs.length := by
  unfold own_stem; split <;> simp only [List.length_set]
theorem own_latD (n : Nat) (sa sb sc sd se : Int32) (h : n < 6) (hsa : ¬ ((255 : Int32) < sa)) (hsb : ¬ ((255 : Int32) < sb)) (hsc : ¬ ((255 : Int32) < sc)) (hsd : ¬ ((255 : Int32) < sd)) (hse : ¬ ((255 : Int32) < se)) : own_lat (List.set (List.set (List.set (List.set (List.set (own_stem n (List.set (List.set (List.set (List.set (List.set (List.replicate (10 + n) (0 : Int32)) (0) (112 : Int32)) (1) (97 : Int32)) (2) (114 : Int32)) (3) (116 : Int32)) (4) (45 : Int32)) sa sb sc sd se) (5 + n) (46 : Int32)) (5 + n + 1) (106 : Int32)) (5 + n + 2) (115 : Int32)) (5 + n + 3) (111 : Int32)) (5 + n + 4) (110 : Int32)) := by
  rcases (by omega : n = 0 ∨ n = 1 ∨ n = 2 ∨ n = 3 ∨ n = 4 ∨ n = 5) with rfl | rfl | rfl | rfl | rfl | rfl
  · exact (own_latS (by decide) (own_latS (by decide) (own_latS (by decide) (own_latS (by decide) (own_latS (by decide) (own_latS (by decide) (own_latS (by decide) (own_latS (by decide) (own_latS (by decide) (own_latS (by decide) own_lat0))))))))))
  · exact (own_latS (by decide) (own_latS (by decide) (own_latS (by decide) (own_latS (by decide) (own_latS (by decide) (own_latS hsa (own_latS (by decide) (own_latS (by decide) (own_latS (by decide) (own_latS (by decide) (own_latS (by decide) own_lat0)))))))))))
  · exact (own_latS (by decide) (own_latS (by decide) (own_latS (by decide) (own_latS (by decide) (own_latS (by decide) (own_latS hsa (own_latS hsb (own_latS (by decide) (own_latS (by decide) (own_latS (by decide) (own_latS (by decide) (own_latS (by decide) own_lat0))))))))))))
  · exact (own_latS (by decide) (own_latS (by decide) (own_latS (by decide) (own_latS (by decide) (own_latS (by decide) (own_latS hsa (own_latS hsb (own_latS hsc (own_latS (by decide) (own_latS (by decide) (own_latS (by decide) (own_latS (by decide) (own_latS (by decide) own_lat0)))))))))))))
  · exact (own_latS (by decide) (own_latS (by decide) (own_latS (by decide) (own_latS (by decide) (own_latS (by decide) (own_latS hsa (own_latS hsb (own_latS hsc (own_latS hsd (own_latS (by decide) (own_latS (by decide) (own_latS (by decide) (own_latS (by decide) (own_latS (by decide) own_lat0))))))))))))))
  · exact (own_latS (by decide) (own_latS (by decide) (own_latS (by decide) (own_latS (by decide) (own_latS (by decide) (own_latS hsa (own_latS hsb (own_latS hsc (own_latS hsd (own_latS hse (own_latS (by decide) (own_latS (by decide) (own_latS (by decide) (own_latS (by decide) (own_latS (by decide) own_lat0)))))))))))))))
theorem own_chD (n : Nat) (sa sb sc sd se : Int32) (h : n < 6) (hsa : ¬ (sa < (0 : Int32)) ∧ ¬ ((65535 : Int32) < sa)) (hsb : ¬ (sb < (0 : Int32)) ∧ ¬ ((65535 : Int32) < sb)) (hsc : ¬ (sc < (0 : Int32)) ∧ ¬ ((65535 : Int32) < sc)) (hsd : ¬ (sd < (0 : Int32)) ∧ ¬ ((65535 : Int32) < sd)) (hse : ¬ (se < (0 : Int32)) ∧ ¬ ((65535 : Int32) < se)) : own_chs (List.set (List.set (List.set (List.set (List.set (own_stem n (List.set (List.set (List.set (List.set (List.set (List.replicate (10 + n) (0 : Int32)) (0) (112 : Int32)) (1) (97 : Int32)) (2) (114 : Int32)) (3) (116 : Int32)) (4) (45 : Int32)) sa sb sc sd se) (5 + n) (46 : Int32)) (5 + n + 1) (106 : Int32)) (5 + n + 2) (115 : Int32)) (5 + n + 3) (111 : Int32)) (5 + n + 4) (110 : Int32)) := by
  rcases (by omega : n = 0 ∨ n = 1 ∨ n = 2 ∨ n = 3 ∨ n = 4 ∨ n = 5) with rfl | rfl | rfl | rfl | rfl | rfl
  · exact (own_chsS ⟨by decide, by decide⟩ (own_chsS ⟨by decide, by decide⟩ (own_chsS ⟨by decide, by decide⟩ (own_chsS ⟨by decide, by decide⟩ (own_chsS ⟨by decide, by decide⟩ (own_chsS ⟨by decide, by decide⟩ (own_chsS ⟨by decide, by decide⟩ (own_chsS ⟨by decide, by decide⟩ (own_chsS ⟨by decide, by decide⟩ (own_chsS ⟨by decide, by decide⟩ own_chs0))))))))))
  · exact (own_chsS ⟨by decide, by decide⟩ (own_chsS ⟨by decide, by decide⟩ (own_chsS ⟨by decide, by decide⟩ (own_chsS ⟨by decide, by decide⟩ (own_chsS ⟨by decide, by decide⟩ (own_chsS hsa (own_chsS ⟨by decide, by decide⟩ (own_chsS ⟨by decide, by decide⟩ (own_chsS ⟨by decide, by decide⟩ (own_chsS ⟨by decide, by decide⟩ (own_chsS ⟨by decide, by decide⟩ own_chs0)))))))))))
  · exact (own_chsS ⟨by decide, by decide⟩ (own_chsS ⟨by decide, by decide⟩ (own_chsS ⟨by decide, by decide⟩ (own_chsS ⟨by decide, by decide⟩ (own_chsS ⟨by decide, by decide⟩ (own_chsS hsa (own_chsS hsb (own_chsS ⟨by decide, by decide⟩ (own_chsS ⟨by decide, by decide⟩ (own_chsS ⟨by decide, by decide⟩ (own_chsS ⟨by decide, by decide⟩ (own_chsS ⟨by decide, by decide⟩ own_chs0))))))))))))
  · exact (own_chsS ⟨by decide, by decide⟩ (own_chsS ⟨by decide, by decide⟩ (own_chsS ⟨by decide, by decide⟩ (own_chsS ⟨by decide, by decide⟩ (own_chsS ⟨by decide, by decide⟩ (own_chsS hsa (own_chsS hsb (own_chsS hsc (own_chsS ⟨by decide, by decide⟩ (own_chsS ⟨by decide, by decide⟩ (own_chsS ⟨by decide, by decide⟩ (own_chsS ⟨by decide, by decide⟩ (own_chsS ⟨by decide, by decide⟩ own_chs0)))))))))))))
  · exact (own_chsS ⟨by decide, by decide⟩ (own_chsS ⟨by decide, by decide⟩ (own_chsS ⟨by decide, by decide⟩ (own_chsS ⟨by decide, by decide⟩ (own_chsS ⟨by decide, by decide⟩ (own_chsS hsa (own_chsS hsb (own_chsS hsc (own_chsS hsd (own_chsS ⟨by decide, by decide⟩ (own_chsS ⟨by decide, by decide⟩ (own_chsS ⟨by decide, by decide⟩ (own_chsS ⟨by decide, by decide⟩ (own_chsS ⟨by decide, by decide⟩ own_chs0))))))))))))))
  · exact (own_chsS ⟨by decide, by decide⟩ (own_chsS ⟨by decide, by decide⟩ (own_chsS ⟨by decide, by decide⟩ (own_chsS ⟨by decide, by decide⟩ (own_chsS ⟨by decide, by decide⟩ (own_chsS hsa (own_chsS hsb (own_chsS hsc (own_chsS hsd (own_chsS hse (own_chsS ⟨by decide, by decide⟩ (own_chsS ⟨by decide, by decide⟩ (own_chsS ⟨by decide, by decide⟩ (own_chsS ⟨by decide, by decide⟩ (own_chsS ⟨by decide, by decide⟩ own_chs0)))))))))))))))
theorem own_latE (n : Nat) (sa sb sc sd se : Int32) (h : n < 6) (hsa : ¬ ((255 : Int32) < sa)) (hsb : ¬ ((255 : Int32) < sb)) (hsc : ¬ ((255 : Int32) < sc)) (hsd : ¬ ((255 : Int32) < sd)) (hse : ¬ ((255 : Int32) < se)) : own_lat (List.set (List.set (List.set (List.set (List.set (own_stem n (List.set (List.set (List.set (List.set (List.set (List.replicate (10 + n) (0 : Int32)) (0) (112 : Int32)) (1) (97 : Int32)) (2) (114 : Int32)) (3) (116 : Int32)) (4) (45 : Int32)) sa sb sc sd se) (5 + n) (46 : Int32)) (5 + n + 1) (116 : Int32)) (5 + n + 2) (97 : Int32)) (5 + n + 3) (103 : Int32)) (5 + n + 4) (115 : Int32)) := by
  rcases (by omega : n = 0 ∨ n = 1 ∨ n = 2 ∨ n = 3 ∨ n = 4 ∨ n = 5) with rfl | rfl | rfl | rfl | rfl | rfl
  · exact (own_latS (by decide) (own_latS (by decide) (own_latS (by decide) (own_latS (by decide) (own_latS (by decide) (own_latS (by decide) (own_latS (by decide) (own_latS (by decide) (own_latS (by decide) (own_latS (by decide) own_lat0))))))))))
  · exact (own_latS (by decide) (own_latS (by decide) (own_latS (by decide) (own_latS (by decide) (own_latS (by decide) (own_latS hsa (own_latS (by decide) (own_latS (by decide) (own_latS (by decide) (own_latS (by decide) (own_latS (by decide) own_lat0)))))))))))
  · exact (own_latS (by decide) (own_latS (by decide) (own_latS (by decide) (own_latS (by decide) (own_latS (by decide) (own_latS hsa (own_latS hsb (own_latS (by decide) (own_latS (by decide) (own_latS (by decide) (own_latS (by decide) (own_latS (by decide) own_lat0))))))))))))
  · exact (own_latS (by decide) (own_latS (by decide) (own_latS (by decide) (own_latS (by decide) (own_latS (by decide) (own_latS hsa (own_latS hsb (own_latS hsc (own_latS (by decide) (own_latS (by decide) (own_latS (by decide) (own_latS (by decide) (own_latS (by decide) own_lat0)))))))))))))
  · exact (own_latS (by decide) (own_latS (by decide) (own_latS (by decide) (own_latS (by decide) (own_latS (by decide) (own_latS hsa (own_latS hsb (own_latS hsc (own_latS hsd (own_latS (by decide) (own_latS (by decide) (own_latS (by decide) (own_latS (by decide) (own_latS (by decide) own_lat0))))))))))))))
  · exact (own_latS (by decide) (own_latS (by decide) (own_latS (by decide) (own_latS (by decide) (own_latS (by decide) (own_latS hsa (own_latS hsb (own_latS hsc (own_latS hsd (own_latS hse (own_latS (by decide) (own_latS (by decide) (own_latS (by decide) (own_latS (by decide) (own_latS (by decide) own_lat0)))))))))))))))
theorem own_chE (n : Nat) (sa sb sc sd se : Int32) (h : n < 6) (hsa : ¬ (sa < (0 : Int32)) ∧ ¬ ((65535 : Int32) < sa)) (hsb : ¬ (sb < (0 : Int32)) ∧ ¬ ((65535 : Int32) < sb)) (hsc : ¬ (sc < (0 : Int32)) ∧ ¬ ((65535 : Int32) < sc)) (hsd : ¬ (sd < (0 : Int32)) ∧ ¬ ((65535 : Int32) < sd)) (hse : ¬ (se < (0 : Int32)) ∧ ¬ ((65535 : Int32) < se)) : own_chs (List.set (List.set (List.set (List.set (List.set (own_stem n (List.set (List.set (List.set (List.set (List.set (List.replicate (10 + n) (0 : Int32)) (0) (112 : Int32)) (1) (97 : Int32)) (2) (114 : Int32)) (3) (116 : Int32)) (4) (45 : Int32)) sa sb sc sd se) (5 + n) (46 : Int32)) (5 + n + 1) (116 : Int32)) (5 + n + 2) (97 : Int32)) (5 + n + 3) (103 : Int32)) (5 + n + 4) (115 : Int32)) := by
  rcases (by omega : n = 0 ∨ n = 1 ∨ n = 2 ∨ n = 3 ∨ n = 4 ∨ n = 5) with rfl | rfl | rfl | rfl | rfl | rfl
  · exact (own_chsS ⟨by decide, by decide⟩ (own_chsS ⟨by decide, by decide⟩ (own_chsS ⟨by decide, by decide⟩ (own_chsS ⟨by decide, by decide⟩ (own_chsS ⟨by decide, by decide⟩ (own_chsS ⟨by decide, by decide⟩ (own_chsS ⟨by decide, by decide⟩ (own_chsS ⟨by decide, by decide⟩ (own_chsS ⟨by decide, by decide⟩ (own_chsS ⟨by decide, by decide⟩ own_chs0))))))))))
  · exact (own_chsS ⟨by decide, by decide⟩ (own_chsS ⟨by decide, by decide⟩ (own_chsS ⟨by decide, by decide⟩ (own_chsS ⟨by decide, by decide⟩ (own_chsS ⟨by decide, by decide⟩ (own_chsS hsa (own_chsS ⟨by decide, by decide⟩ (own_chsS ⟨by decide, by decide⟩ (own_chsS ⟨by decide, by decide⟩ (own_chsS ⟨by decide, by decide⟩ (own_chsS ⟨by decide, by decide⟩ own_chs0)))))))))))
  · exact (own_chsS ⟨by decide, by decide⟩ (own_chsS ⟨by decide, by decide⟩ (own_chsS ⟨by decide, by decide⟩ (own_chsS ⟨by decide, by decide⟩ (own_chsS ⟨by decide, by decide⟩ (own_chsS hsa (own_chsS hsb (own_chsS ⟨by decide, by decide⟩ (own_chsS ⟨by decide, by decide⟩ (own_chsS ⟨by decide, by decide⟩ (own_chsS ⟨by decide, by decide⟩ (own_chsS ⟨by decide, by decide⟩ own_chs0))))))))))))
  · exact (own_chsS ⟨by decide, by decide⟩ (own_chsS ⟨by decide, by decide⟩ (own_chsS ⟨by decide, by decide⟩ (own_chsS ⟨by decide, by decide⟩ (own_chsS ⟨by decide, by decide⟩ (own_chsS hsa (own_chsS hsb (own_chsS hsc (own_chsS ⟨by decide, by decide⟩ (own_chsS ⟨by decide, by decide⟩ (own_chsS ⟨by decide, by decide⟩ (own_chsS ⟨by decide, by decide⟩ (own_chsS ⟨by decide, by decide⟩ own_chs0)))))))))))))
  · exact (own_chsS ⟨by decide, by decide⟩ (own_chsS ⟨by decide, by decide⟩ (own_chsS ⟨by decide, by decide⟩ (own_chsS ⟨by decide, by decide⟩ (own_chsS ⟨by decide, by decide⟩ (own_chsS hsa (own_chsS hsb (own_chsS hsc (own_chsS hsd (own_chsS ⟨by decide, by decide⟩ (own_chsS ⟨by decide, by decide⟩ (own_chsS ⟨by decide, by decide⟩ (own_chsS ⟨by decide, by decide⟩ (own_chsS ⟨by decide, by decide⟩ own_chs0))))))))))))))
  · exact (own_chsS ⟨by decide, by decide⟩ (own_chsS ⟨by decide, by decide⟩ (own_chsS ⟨by decide, by decide⟩ (own_chsS ⟨by decide, by decide⟩ (own_chsS ⟨by decide, by decide⟩ (own_chsS hsa (own_chsS hsb (own_chsS hsc (own_chsS hsd (own_chsS hse (own_chsS ⟨by decide, by decide⟩ (own_chsS ⟨by decide, by decide⟩ (own_chsS ⟨by decide, by decide⟩ (own_chsS ⟨by decide, by decide⟩ (own_chsS ⟨by decide, by decide⟩ own_chs0)))))))))))))))
theorem own_fin (n : Nat) (sa sb sc sd se : Int32) (h : n < 6) : List.take (10 + n - 5) (List.set (List.set (List.set (List.set (List.set (own_stem n (List.set (List.set (List.set (List.set (List.set (List.replicate (10 + n) (0 : Int32)) (0) (112 : Int32)) (1) (97 : Int32)) (2) (114 : Int32)) (3) (116 : Int32)) (4) (45 : Int32)) sa sb sc sd se) (5 + n) (46 : Int32)) (5 + n + 1) (106 : Int32)) (5 + n + 2) (115 : Int32)) (5 + n + 3) (111 : Int32)) (5 + n + 4) (110 : Int32)) ++ own_tx1 = (List.set (List.set (List.set (List.set (List.set (own_stem n (List.set (List.set (List.set (List.set (List.set (List.replicate (10 + n) (0 : Int32)) (0) (112 : Int32)) (1) (97 : Int32)) (2) (114 : Int32)) (3) (116 : Int32)) (4) (45 : Int32)) sa sb sc sd se) (5 + n) (46 : Int32)) (5 + n + 1) (116 : Int32)) (5 + n + 2) (97 : Int32)) (5 + n + 3) (103 : Int32)) (5 + n + 4) (115 : Int32)) := by
  rcases (by omega : n = 0 ∨ n = 1 ∨ n = 2 ∨ n = 3 ∨ n = 4 ∨ n = 5) with rfl | rfl | rfl | rfl | rfl | rfl
  · rfl
  · rfl
  · rfl
  · rfl
  · rfl
  · rfl
theorem pn_java_lang_StringUTF16 : plainName "java/lang/StringUTF16" = true := by first | (simp [plainName, overriddenIn]; done) | decide +kernel
theorem d_jdk_52_method_21_0 : decode jdk_52_method_21_code 0 = .ok (.iconst 0, 1) := by decide +kernel
theorem d_jdk_52_method_21_1 : decode jdk_52_method_21_code 1 = .ok (.istore 5, 2) := by decide +kernel
theorem d_jdk_52_method_21_3 : decode jdk_52_method_21_code 3 = .ok (.iload 5, 2) := by decide +kernel
theorem d_jdk_52_method_21_5 : decode jdk_52_method_21_code 5 = .ok (.iload 4, 2) := by decide +kernel
theorem d_jdk_52_method_21_7 : decode jdk_52_method_21_code 7 = .ok (.if_icmp .ge 37, 3) := by decide +kernel
theorem d_jdk_52_method_21_10 : decode jdk_52_method_21_code 10 = .ok (.aload_n 0, 1) := by decide +kernel
theorem d_jdk_52_method_21_11 : decode jdk_52_method_21_code 11 = .ok (.iload_n 1, 1) := by decide +kernel
theorem d_jdk_52_method_21_12 : decode jdk_52_method_21_code 12 = .ok (.caload, 1) := by decide +kernel
theorem os_rmCmpL_13 {z0 : Value} {z1 : Value} {z2 : Value} {z3 : Value} {z4 : Value} {z5 : Value} {s6 : Slot} {v : Int32} (h : One s6) : storeLocals #[.val z0, .val z1, .val z2, .val z3, .val z4, .val z5, s6] 6 (.int v) = some #[.val z0, .val z1, .val z2, .val z3, .val z4, .val z5, .val (.int v)] := by
  rcases h with rfl | ⟨w, rfl, hw⟩
  · rfl
  · cases w <;> first | rfl | (simp [Value.category] at hw)
theorem d_jdk_52_method_21_13 : decode jdk_52_method_21_code 13 = .ok (.istore 6, 2) := by decide +kernel
theorem d_jdk_52_method_21_15 : decode jdk_52_method_21_code 15 = .ok (.iload 6, 2) := by decide +kernel
theorem d_jdk_52_method_21_17 : decode jdk_52_method_21_code 17 = .ok (.sipush 255, 3) := by decide +kernel
theorem d_jdk_52_method_21_20 : decode jdk_52_method_21_code 20 = .ok (.if_icmp .le 6, 3) := by decide +kernel
theorem d_jdk_52_method_21_26 : decode jdk_52_method_21_code 26 = .ok (.aload_n 2, 1) := by decide +kernel
theorem d_jdk_52_method_21_27 : decode jdk_52_method_21_code 27 = .ok (.iload_n 3, 1) := by decide +kernel
theorem d_jdk_52_method_21_28 : decode jdk_52_method_21_code 28 = .ok (.iload 6, 2) := by decide +kernel
theorem d_jdk_52_method_21_30 : decode jdk_52_method_21_code 30 = .ok (.i2b, 1) := by decide +kernel
theorem d_jdk_52_method_21_31 : decode jdk_52_method_21_code 31 = .ok (.bastore, 1) := by decide +kernel
theorem d_jdk_52_method_21_32 : decode jdk_52_method_21_code 32 = .ok (.iinc 1 1, 3) := by decide +kernel
theorem d_jdk_52_method_21_35 : decode jdk_52_method_21_code 35 = .ok (.iinc 3 1, 3) := by decide +kernel
theorem d_jdk_52_method_21_38 : decode jdk_52_method_21_code 38 = .ok (.iinc 5 1, 3) := by decide +kernel
theorem d_jdk_52_method_21_41 : decode jdk_52_method_21_code 41 = .ok (.goto (-38), 3) := by decide +kernel
theorem d_jdk_52_method_21_44 : decode jdk_52_method_21_code 44 = .ok (.iload 4, 2) := by decide +kernel
theorem d_jdk_52_method_21_46 : decode jdk_52_method_21_code 46 = .ok (.ireturn, 1) := by decide +kernel
theorem ef_rmCmpL (m : MethodId) (x0 : Addr) (x1 : Int32) (x2 : Addr) (x3 : Int32) (x4 : Int32) : entryFrame m #[(.ref x0), (.int x1), (.ref x2), (.int x3), (.int x4)] 7 = mkF m 0 #[.val (.ref x0), .val (.int x1), .val (.ref x2), .val (.int x3), .val (.int x4), .unset, .unset] [] := by first | (simp [entryFrame, mkF, argsToLocals, Value.category]; done) | rfl
def Q_rmCmpL (Z : State) (ca : Addr) (ba : Addr) (cs : List Int32) (kc : ClassId) (n : Nat) (kb : ClassId) (vs : List Value) (h0 : Heap) (n0 : Nat) (v : Option Value) (h : Heap) (L : List Loc) : Prop := (v = some (.int (Int32.ofNat n))) ∧ (Fr n0 L) ∧ (Keep h0 h [ba]) ∧ (Arv Z h ba kb .byte (Int32.ofNat n) (own_mix (own_low cs) vs n) (.int (0 : Int32)))
set_option maxRecDepth 65536 in
set_option maxHeartbeats 40000000 in
theorem rmCmpL (l : Launch) (Z : State) (a0 : Array Value) (hw : ∀ d ∈ tables_1, d.before a0 Z = true) (ws : List Jvm.Cond) (ca : Addr) (ba : Addr) (cs : List Int32) (kc : ClassId) (n : Nat) (kb : ClassId) (vs : List Value) (h0 : Heap) (n0 : Nat) (Z0 : n0 ≤ h0.size) (I1 : Arv Z h0 ca kc .char (Int32.ofNat n) (cs.map Value.int) (.int (0 : Int32))) (I2 : Arv Z h0 ba kb .byte (Int32.ofNat n) vs (.int (0 : Int32))) (hn : cs.length = n) (hb : n ≤ 15) (hvs : vs.length = n) (gb : n0 ≤ ba) (hne : @Ne Nat ca ba) (hlat : own_lat cs) :
    MetFree l (⟨"java/lang/StringUTF16", "compress", "([CI[BII)I"⟩ : MethodName) (head1 (Jvm.Cond.code (⟨"java/lang/StringUTF16", "compress", "([CI[BII)I"⟩ : MethodName) jdk_52_method_21_code 7 (some .int) :: ws) ({ frames := 0, cells := 0, slots := 0, locals := 0 } : Room)) (fun ar_ U => ar_ = #[(.ref ca), (.int (0 : Int32)), (.ref ba), (.int (0 : Int32)), (.int (Int32.ofNat n))] ∧ Z.Warmed39 U.vm ∧ U.heap = h0) (fun _ _ _ _ _ => True) (fun _ U oc_ U' => ∃ v L, oc_ = .returned v ∧ Q_rmCmpL Z ca ba cs kc n kb vs h0 n0 v U'.heap L ∧ FrameEnd U oc_ U' L ({ frames := 0, cells := 0, slots := 0, locals := 0 } : Room).cells ({ frames := 0, cells := 0, slots := 0, locals := 0 } : Room).slots) := by
  refine MetFree.of_bodySF (plainFor_of_name pn_java_lang_StringUTF16) hisR ?_
  intro p e s m args below meth c s₁ Bd hml0 hP hK
  obtain ⟨rfl, hZ, hh⟩ := hP
  have hx := Bd.exec
  have hby := Bd.bytes
  have hml : c.maxLocals = 7 := hml0
  have hown : s.vm.findClass "java/lang/StringUTF16" = some m.cls := findClass_of_methodNamed Bd.named
  have hnm := (name_of_methodNamed Bd.named Bd.method).1
  have X0 : Stand p l e ({ frames := 0, cells := 0, slots := 0, locals := 0 } : Room) s m #[(.ref ca), (.int (0 : Int32)), (.ref ba), (.int (0 : Int32)), (.int (Int32.ofNat n))] below meth c s₁ [] 0 0 := Stand.of_body Bd
  have e0 : s₁.heap = h0 := by rw [← hh, Bd.state]; rfl
  have N0 := Fr.nil n0
  have pre0 : ∀ t_, Steps p.tables e below (s₁.setTop (mkF m 0 #[.val (.ref ca), .val (.int (0 : Int32)), .val (.ref ba), .val (.int (0 : Int32)), .val (.int (Int32.ofNat n)), .unset, .unset] [])) t_ → Steps p.tables e below (s₁.setTop (entryFrame m #[(.ref ca), (.int (0 : Int32)), (.ref ba), (.int (0 : Int32)), (.int (Int32.ofNat n))] 7)) t_ := fun t_ k_ => castTop (ef_rmCmpL m ca (0 : Int32) ba (0 : Int32) (Int32.ofNat n)) k_
  have lt_I1 : @LT.lt Nat _ ca h0.size := I1.lt
  have lt_I2 : @LT.lt Nat _ ba h0.size := I2.lt
  have s1 : ∀ t_, Steps p.tables e below (s₁.setTop (mkF m 3 #[.val (.ref ca), .val (.int (0 : Int32)), .val (.ref ba), .val (.int (0 : Int32)), .val (.int (Int32.ofNat n)), .val (.int (0 : Int32)), .unset] [])) t_ → Steps p.tables e below (s₁.setTop (entryFrame m #[(.ref ca), (.int (0 : Int32)), (.ref ba), (.int (0 : Int32)), (.int (Int32.ofNat n))] 7)) t_ := fun t_ k_ => pre0 t_ (by
    show Steps p.tables e below (s₁.setTop (mkF m 0 #[.val (.ref ca), .val (.int (0 : Int32)), .val (.ref ba), .val (.int (0 : Int32)), .val (.int (Int32.ofNat n)), .unset, .unset] [])) t_
    refine XS.iconst X0.here hx rfl (Jvm.hb hby d_jdk_52_method_21_0) ?_
    refine XS.istore X0.here hx rfl (Jvm.hb hby d_jdk_52_method_21_1) rfl (l' := #[.val (.ref ca), .val (.int (0 : Int32)), .val (.ref ba), .val (.int (0 : Int32)), .val (.int (Int32.ofNat n)), .val (.int (0 : Int32)), .unset]) rfl ?_
    show Steps p.tables e below (s₁.setTop (mkF m 3 #[.val (.ref ca), .val (.int (0 : Int32)), .val (.ref ba), .val (.int (0 : Int32)), .val (.int (Int32.ofNat n)), .val (.int (0 : Int32)), .unset] [])) t_
    exact k_)
  have lp2 : ∀ (k_ : Nat) (j : Nat) (s6 : Slot) (T_ : State) (lo_ : List Loc) (hh2 : Heap), j + k_ = n → Stand p l e ({ frames := 0, cells := 0, slots := 0, locals := 0 } : Room) s m #[(.ref ca), (.int (0 : Int32)), (.ref ba), (.int (0 : Int32)), (.int (Int32.ofNat n))] below meth c T_ lo_ 0 0 → T_.heap = hh2 → Fr n0 lo_ → Keep h0 hh2 [ba] → Arv Z hh2 ba kb .byte (Int32.ofNat n) (own_mix (own_low cs) vs j) (.int (0 : Int32)) → (One s6) → ∃ (T' : State) (lo' : List Loc) (hx_ : Heap) (fe_ : JFrame), Stand p l e ({ frames := 0, cells := 0, slots := 0, locals := 0 } : Room) s m #[(.ref ca), (.int (0 : Int32)), (.ref ba), (.int (0 : Int32)), (.int (Int32.ofNat n))] below meth c T' lo' 0 0 ∧ T'.heap = hx_ ∧ Fr n0 lo' ∧ Keep h0 hx_ [ba] ∧ ((∃ (s6 : Slot), fe_ = (mkF m 44 #[.val (.ref ca), .val (.int (Int32.ofNat n)), .val (.ref ba), .val (.int (Int32.ofNat n)), .val (.int (Int32.ofNat n)), .val (.int (Int32.ofNat n)), s6] []) ∧ Arv Z hx_ ba kb .byte (Int32.ofNat n) (own_mix (own_low cs) vs n) (.int (0 : Int32)))) ∧ ∀ t_, Steps p.tables e below (T'.setTop fe_) t_ → Steps p.tables e below (T_.setTop (mkF m 3 #[.val (.ref ca), .val (.int (Int32.ofNat j)), .val (.ref ba), .val (.int (Int32.ofNat j)), .val (.int (Int32.ofNat n)), .val (.int (Int32.ofNat j)), s6] [])) t_ := by
    intro k_
    induction k_ with
    | zero => 
      intro j s6 T_ lo_ hh2 hm_ X_ e_ N_ K_ F_0 hs6
      have zk_ : h0.size ≤ hh2.size := K_.1
      have s3 : ∀ t_, Steps p.tables e below (T_.setTop (mkF m 44 #[.val (.ref ca), .val (.int (Int32.ofNat j)), .val (.ref ba), .val (.int (Int32.ofNat j)), .val (.int (Int32.ofNat n)), .val (.int (Int32.ofNat j)), s6] [])) t_ → Steps p.tables e below (T_.setTop (mkF m 3 #[.val (.ref ca), .val (.int (Int32.ofNat j)), .val (.ref ba), .val (.int (Int32.ofNat j)), .val (.int (Int32.ofNat n)), .val (.int (Int32.ofNat j)), s6] [])) t_ := fun t_ k_ => (fun _ k_ => k_) t_ (by
        show Steps p.tables e below (T_.setTop (mkF m 3 #[.val (.ref ca), .val (.int (Int32.ofNat j)), .val (.ref ba), .val (.int (Int32.ofNat j)), .val (.int (Int32.ofNat n)), .val (.int (Int32.ofNat j)), s6] [])) t_
        refine XS.iload X_.here hx rfl (Jvm.hb hby d_jdk_52_method_21_3) rfl ?_
        refine XS.iload X_.here hx rfl (Jvm.hb hby d_jdk_52_method_21_5) rfl ?_
        refine XS.icmpYes X_.here hx rfl (pc0 := 7) (pc' := 44) rfl (Jvm.hb hby d_jdk_52_method_21_7) rfl (flt (own_nlt (by omega) (by omega))).2.1 (by decide) (by decide) ?_
        show Steps p.tables e below (T_.setTop (mkF m 44 #[.val (.ref ca), .val (.int (Int32.ofNat j)), .val (.ref ba), .val (.int (Int32.ofNat j)), .val (.int (Int32.ofNat n)), .val (.int (Int32.ofNat j)), s6] [])) _
        show Steps p.tables e below (T_.setTop (mkF m 44 #[.val (.ref ca), .val (.int (Int32.ofNat j)), .val (.ref ba), .val (.int (Int32.ofNat j)), .val (.int (Int32.ofNat n)), .val (.int (Int32.ofNat j)), s6] [])) t_
        exact k_)
      exact ⟨T_, _, _, _, X_, e_, N_, ((Keep.refl h0 [ba]).trans K_ (allS (Or.inl (by simp)) all0)), ⟨s6, (by rw [show j = n by omega]), (by obtain rfl : j = n := (by omega); exact F_0)⟩, s3⟩
    | succ k_ ih => 
      intro j s6 T_ lo_ hh2 hm_ X_ e_ N_ K_ F_0 hs6
      have zk_ : h0.size ≤ hh2.size := K_.1
      have f4 : Arv Z hh2 ca kc .char (Int32.ofNat n) (cs.map Value.int) (.int (0 : Int32)) := (I1.keep K_ (ninS (show @Ne Nat ca ba by omega) nin0))
      obtain ⟨cl5, Ar5, -, S5, M5, H5, -⟩ := id f4
      have hin5 : ¬ ((Int32.ofNat j) < 0 ∨ cl5.slots.size ≤ ((Int32.ofNat j)).toNatClampNeg) := inb_of S5 (own_in (by omega) (by omega))
      have hat5 : cl5.slots[((Int32.ofNat j)).toNatClampNeg]? = some (.int (cs.getD j 0)) := H5.at hin5 (own_getc cs j _ (by omega) (by omega))
      obtain ⟨cl6, Ar6, q6, S6, M6, H6, G6⟩ := id F_0
      have hin6 : ¬ ((Int32.ofNat j) < 0 ∨ cl6.slots.size ≤ ((Int32.ofNat j)).toNatClampNeg) := inb_of S6 (own_in (by omega) (by omega))
      obtain ⟨T7, h7, X7, e7, W7, st7⟩ := stB X_ hx hZ e_ Ar6 (j := (Int32.ofNat j)) hin6 (g := (mkF m 31 #[.val (.ref ca), .val (.int (Int32.ofNat j)), .val (.ref ba), .val (.int (Int32.ofNat j)), .val (.int (Int32.ofNat n)), .val (.int (Int32.ofNat j)), .val (.int (cs.getD j 0))] [(.int (own_lo (cs.getD j 0))), (.int (Int32.ofNat j)), (.ref ba)])) rfl rfl (Jvm.hb hby d_jdk_52_method_21_31)
      have z8 : hh2.size ≤ h7.size := Nat.le_of_eq W7.size.symm
      have V7 : Arv Z h7 ba kb .byte (Int32.ofNat n) (own_mix (own_low cs) vs (j + 1)) (.int (0 : Int32)) := by
        have q : Arv Z h7 ba kb .byte (Int32.ofNat n) ((own_mix (own_low cs) vs j).set j (.int (nar .byte (own_lo (cs.getD j 0))))) (.int (0 : Int32)) := Arv.set Ar6 q6 S6 M6 H6 G6 (fits_nar_byte _) W7 j (own_tn (by omega)) (by rw [own_mixl _ _ _ (by rw [own_lowl]; omega)]; omega)
        rw [own_mixc cs vs j (by omega) (by omega)] at q
        exact q
      have N7 := Fr.snoc X7 N_ (show n0 ≤ ba by omega)
      have s9 : ∀ t_, Steps p.tables e below (T7.setTop (mkF m 3 #[.val (.ref ca), .val (.int ((Int32.ofNat j) + (1 : Int32))), .val (.ref ba), .val (.int ((Int32.ofNat j) + (1 : Int32))), .val (.int (Int32.ofNat n)), .val (.int ((Int32.ofNat j) + (1 : Int32))), .val (.int (cs.getD j 0))] [])) t_ → Steps p.tables e below (T_.setTop (mkF m 3 #[.val (.ref ca), .val (.int (Int32.ofNat j)), .val (.ref ba), .val (.int (Int32.ofNat j)), .val (.int (Int32.ofNat n)), .val (.int (Int32.ofNat j)), s6] [])) t_ := fun t_ k_ => (fun _ k_ => k_) t_ (by
        show Steps p.tables e below (T_.setTop (mkF m 3 #[.val (.ref ca), .val (.int (Int32.ofNat j)), .val (.ref ba), .val (.int (Int32.ofNat j)), .val (.int (Int32.ofNat n)), .val (.int (Int32.ofNat j)), s6] [])) t_
        refine XS.iload X_.here hx rfl (Jvm.hb hby d_jdk_52_method_21_3) rfl ?_
        refine XS.iload X_.here hx rfl (Jvm.hb hby d_jdk_52_method_21_5) rfl ?_
        refine XS.icmpNo X_.here hx rfl (Jvm.hb hby d_jdk_52_method_21_7) rfl (tlt (own_lt (by omega) (by omega))).2.1 ?_
        show Steps p.tables e below (T_.setTop (mkF m 10 #[.val (.ref ca), .val (.int (Int32.ofNat j)), .val (.ref ba), .val (.int (Int32.ofNat j)), .val (.int (Int32.ofNat n)), .val (.int (Int32.ofNat j)), s6] [])) _
        refine XS.aloadN X_.here hx rfl (Jvm.hb hby d_jdk_52_method_21_10) rfl rfl ?_
        refine XS.iloadN X_.here hx rfl (Jvm.hb hby d_jdk_52_method_21_11) rfl ?_
        refine X_.caload hx (j := (Int32.ofNat j)) (v := (.int (cs.getD j 0))) (by rw [e_]; exact Ar5.1) (State.isArrayOf_alike hZ.alike Ar5.2.1) Ar5.2.2 hin5 hat5 (g := (mkF m 12 #[.val (.ref ca), .val (.int (Int32.ofNat j)), .val (.ref ba), .val (.int (Int32.ofNat j)), .val (.int (Int32.ofNat n)), .val (.int (Int32.ofNat j)), s6] [(.int (Int32.ofNat j)), (.ref ca)])) rfl rfl (Jvm.hb hby d_jdk_52_method_21_12) _ ?_
        show Steps p.tables e below (T_.setTop (mkF m 13 #[.val (.ref ca), .val (.int (Int32.ofNat j)), .val (.ref ba), .val (.int (Int32.ofNat j)), .val (.int (Int32.ofNat n)), .val (.int (Int32.ofNat j)), s6] [(.int (cs.getD j 0))])) _
        refine XS.istore X_.here hx rfl (Jvm.hb hby d_jdk_52_method_21_13) rfl (l' := #[.val (.ref ca), .val (.int (Int32.ofNat j)), .val (.ref ba), .val (.int (Int32.ofNat j)), .val (.int (Int32.ofNat n)), .val (.int (Int32.ofNat j)), .val (.int (cs.getD j 0))]) (os_rmCmpL_13 hs6) ?_
        refine XS.iload X_.here hx rfl (Jvm.hb hby d_jdk_52_method_21_15) rfl ?_
        refine XS.sipush X_.here hx rfl (Jvm.hb hby d_jdk_52_method_21_17) ?_
        refine XS.icmpYes X_.here hx rfl (pc0 := 20) (pc' := 26) rfl (Jvm.hb hby d_jdk_52_method_21_20) rfl (flt (hlat _ (own_mem cs j (by omega)))).2.2.2 (by decide) (by decide) ?_
        show Steps p.tables e below (T_.setTop (mkF m 26 #[.val (.ref ca), .val (.int (Int32.ofNat j)), .val (.ref ba), .val (.int (Int32.ofNat j)), .val (.int (Int32.ofNat n)), .val (.int (Int32.ofNat j)), .val (.int (cs.getD j 0))] [])) _
        refine XS.aloadN X_.here hx rfl (Jvm.hb hby d_jdk_52_method_21_26) rfl rfl ?_
        refine XS.iloadN X_.here hx rfl (Jvm.hb hby d_jdk_52_method_21_27) rfl ?_
        refine XS.iload X_.here hx rfl (Jvm.hb hby d_jdk_52_method_21_28) rfl ?_
        refine XS.i2b X_.here hx rfl (Jvm.hb hby d_jdk_52_method_21_30) rfl ?_
        refine st7 _ ?_
        show Steps p.tables e below (T7.setTop (mkF m 32 #[.val (.ref ca), .val (.int (Int32.ofNat j)), .val (.ref ba), .val (.int (Int32.ofNat j)), .val (.int (Int32.ofNat n)), .val (.int (Int32.ofNat j)), .val (.int (cs.getD j 0))] [])) _
        refine XS.iinc X7.here hx rfl (Jvm.hb hby d_jdk_52_method_21_32) rfl (l' := #[.val (.ref ca), .val (.int ((Int32.ofNat j) + (1 : Int32))), .val (.ref ba), .val (.int (Int32.ofNat j)), .val (.int (Int32.ofNat n)), .val (.int (Int32.ofNat j)), .val (.int (cs.getD j 0))]) rfl ?_
        refine XS.iinc X7.here hx rfl (Jvm.hb hby d_jdk_52_method_21_35) rfl (l' := #[.val (.ref ca), .val (.int ((Int32.ofNat j) + (1 : Int32))), .val (.ref ba), .val (.int ((Int32.ofNat j) + (1 : Int32))), .val (.int (Int32.ofNat n)), .val (.int (Int32.ofNat j)), .val (.int (cs.getD j 0))]) rfl ?_
        refine XS.iinc X7.here hx rfl (Jvm.hb hby d_jdk_52_method_21_38) rfl (l' := #[.val (.ref ca), .val (.int ((Int32.ofNat j) + (1 : Int32))), .val (.ref ba), .val (.int ((Int32.ofNat j) + (1 : Int32))), .val (.int (Int32.ofNat n)), .val (.int ((Int32.ofNat j) + (1 : Int32))), .val (.int (cs.getD j 0))]) rfl ?_
        refine XS.goto X7.here hx rfl (pc0 := 41) (pc' := 3) rfl (Jvm.hb hby d_jdk_52_method_21_41) (by decide) (by decide) ?_
        show Steps p.tables e below (T7.setTop (mkF m 3 #[.val (.ref ca), .val (.int ((Int32.ofNat j) + (1 : Int32))), .val (.ref ba), .val (.int ((Int32.ofNat j) + (1 : Int32))), .val (.int (Int32.ofNat n)), .val (.int ((Int32.ofNat j) + (1 : Int32))), .val (.int (cs.getD j 0))] [])) t_
        exact k_)
      obtain ⟨T10, lo10, h10, fe10, X10, e10, N10, K10, A10, st10⟩ := ih (j + 1) (.val (.int (cs.getD j 0))) T7 _ h7 (by omega) X7 e7 N7 (((Keep.refl h0 [ba]).trans K_ (allS (Or.inl (by simp)) all0)).wr W7 (Or.inl (by simp))) V7 (One.val rfl)
      exact ⟨T10, lo10, h10, fe10, X10, e10, N10, K10, A10, fun t_ k_ => s9 t_ (castTop (by rw [own_up]) (st10 t_ k_))⟩
  obtain ⟨T11, lo11, h11, fe11, X11, e11, N11, K11, A11, st11⟩ := lp2 n 0 .unset s₁ _ h0 (by omega) X0 e0 N0 (Keep.refl _ _) (by rw [own_mix0]; exact I2) One.u
  have z12 : h0.size ≤ h11.size := K11.1
  obtain ⟨s6_11, rfl, G11_0⟩ := A11
  have s13 : ∀ t_, Steps p.tables e below (T11.setTop (mkF m 44 #[.val (.ref ca), .val (.int (Int32.ofNat n)), .val (.ref ba), .val (.int (Int32.ofNat n)), .val (.int (Int32.ofNat n)), .val (.int (Int32.ofNat n)), s6_11] [])) t_ → Steps p.tables e below (s₁.setTop (entryFrame m #[(.ref ca), (.int (0 : Int32)), (.ref ba), (.int (0 : Int32)), (.int (Int32.ofNat n))] 7)) t_ := fun t_ k_ => s1 t_ (st11 t_ k_)
  have s14 : ∀ t_, Steps p.tables e below (T11.setTop (mkF m 46 #[.val (.ref ca), .val (.int (Int32.ofNat n)), .val (.ref ba), .val (.int (Int32.ofNat n)), .val (.int (Int32.ofNat n)), .val (.int (Int32.ofNat n)), s6_11] [(.int (Int32.ofNat n))])) t_ → Steps p.tables e below (s₁.setTop (entryFrame m #[(.ref ca), (.int (0 : Int32)), (.ref ba), (.int (0 : Int32)), (.int (Int32.ofNat n))] 7)) t_ := fun t_ k_ => s13 t_ (by
    show Steps p.tables e below (T11.setTop (mkF m 44 #[.val (.ref ca), .val (.int (Int32.ofNat n)), .val (.ref ba), .val (.int (Int32.ofNat n)), .val (.int (Int32.ofNat n)), .val (.int (Int32.ofNat n)), s6_11] [])) t_
    refine XS.iload X11.here hx rfl (Jvm.hb hby d_jdk_52_method_21_44) rfl ?_
    show Steps p.tables e below (T11.setTop (mkF m 46 #[.val (.ref ca), .val (.int (Int32.ofNat n)), .val (.ref ba), .val (.int (Int32.ofNat n)), .val (.int (Int32.ofNat n)), .val (.int (Int32.ofNat n)), s6_11] [(.int (Int32.ofNat n))])) t_
    exact k_)
  obtain ⟨fs, hr, hrun, hended, hW, hsame⟩ := X11.leave (v := some (.int (Int32.ofNat n))) (fun h => by rw [Bd.returns] at h; cases h)
  refine ⟨_, _, s14 _ ?_, hrun, hended, _, _, rfl, ?_, ⟨_, rfl⟩, hW, hsame.mono (by decide) (by decide)⟩
  · show Steps p.tables e below (T11.setTop (mkF m 46 #[.val (.ref ca), .val (.int (Int32.ofNat n)), .val (.ref ba), .val (.int (Int32.ofNat n)), .val (.int (Int32.ofNat n)), .val (.int (Int32.ofNat n)), s6_11] [(.int (Int32.ofNat n))])) _
    exact retI X11 hx Bd.returns (Jvm.hb hby d_jdk_52_method_21_46) hr
  · show Q_rmCmpL Z _ _ _ _ _ _ _ h0 n0 _ T11.heap _
    rw [e11]
    exact ⟨rfl, N11, ((Keep.refl h0 [ba]).trans K11 (allS (Or.inl (by simp)) all0)), G11_0⟩
theorem d_jdk_52_method_15_0 : decode jdk_52_method_15_code 0 = .ok (.iload_n 1, 1) := by decide +kernel
theorem d_jdk_52_method_15_1 : decode jdk_52_method_15_code 1 = .ok (.aload_n 0, 1) := by decide +kernel
theorem d_jdk_52_method_15_2 : decode jdk_52_method_15_code 2 = .ok (.arraylength, 1) := by decide +kernel
theorem d_jdk_52_method_15_3 : decode jdk_52_method_15_code 3 = .ok (.isub, 1) := by decide +kernel
theorem d_jdk_52_method_15_4 : decode jdk_52_method_15_code 4 = .ok (.bipush 31, 2) := by decide +kernel
theorem d_jdk_52_method_15_6 : decode jdk_52_method_15_code 6 = .ok (.iushr, 1) := by decide +kernel
theorem d_jdk_52_method_15_7 : decode jdk_52_method_15_code 7 = .ok (.i2b, 1) := by decide +kernel
theorem d_jdk_52_method_15_8 : decode jdk_52_method_15_code 8 = .ok (.ireturn, 1) := by decide +kernel
theorem ef_rmCod (m : MethodId) (x0 : Addr) (x1 : Int32) : entryFrame m #[(.ref x0), (.int x1)] 2 = mkF m 0 #[.val (.ref x0), .val (.int x1)] [] := by first | (simp [entryFrame, mkF, argsToLocals, Value.category]; done) | rfl
def Q_rmCod (Z : State) (ba : Addr) (nn : Int32) (kb : ClassId) (zz : Int32) (vs : List Value) (h0 : Heap) (n0 : Nat) (v : Option Value) (h : Heap) (L : List Loc) : Prop := (v = some (.int (nar .byte (own_lo (ushr (nn - zz) (31 : Int32)))))) ∧ (Fr n0 L) ∧ (h = h0)
set_option maxRecDepth 65536 in
set_option maxHeartbeats 40000000 in
theorem rmCod (l : Launch) (Z : State) (a0 : Array Value) (hw : ∀ d ∈ tables_1, d.before a0 Z = true) (ws : List Jvm.Cond) (ba : Addr) (nn : Int32) (kb : ClassId) (zz : Int32) (vs : List Value) (h0 : Heap) (n0 : Nat) (Z0 : n0 ≤ h0.size) (I1 : Arv Z h0 ba kb .byte zz vs (.int (0 : Int32))) :
    MetFree l (⟨"java/lang/StringUTF16", "coderFromArrayLen", "([BI)B"⟩ : MethodName) (head1 (Jvm.Cond.code (⟨"java/lang/StringUTF16", "coderFromArrayLen", "([BI)B"⟩ : MethodName) jdk_52_method_15_code 2 (some .byte) :: ws) ({ frames := 0, cells := 0, slots := 0, locals := 0 } : Room)) (fun ar_ U => ar_ = #[(.ref ba), (.int nn)] ∧ Z.Warmed39 U.vm ∧ U.heap = h0) (fun _ _ _ _ _ => True) (fun _ U oc_ U' => ∃ v L, oc_ = .returned v ∧ Q_rmCod Z ba nn kb zz vs h0 n0 v U'.heap L ∧ FrameEnd U oc_ U' L ({ frames := 0, cells := 0, slots := 0, locals := 0 } : Room).cells ({ frames := 0, cells := 0, slots := 0, locals := 0 } : Room).slots) := by
  refine MetFree.of_bodySF (plainFor_of_name pn_java_lang_StringUTF16) hisR ?_
  intro p e s m args below meth c s₁ Bd hml0 hP hK
  obtain ⟨rfl, hZ, hh⟩ := hP
  have hx := Bd.exec
  have hby := Bd.bytes
  have hml : c.maxLocals = 2 := hml0
  have hown : s.vm.findClass "java/lang/StringUTF16" = some m.cls := findClass_of_methodNamed Bd.named
  have hnm := (name_of_methodNamed Bd.named Bd.method).1
  have X0 : Stand p l e ({ frames := 0, cells := 0, slots := 0, locals := 0 } : Room) s m #[(.ref ba), (.int nn)] below meth c s₁ [] 0 0 := Stand.of_body Bd
  have e0 : s₁.heap = h0 := by rw [← hh, Bd.state]; rfl
  have N0 := Fr.nil n0
  have pre0 : ∀ t_, Steps p.tables e below (s₁.setTop (mkF m 0 #[.val (.ref ba), .val (.int nn)] [])) t_ → Steps p.tables e below (s₁.setTop (entryFrame m #[(.ref ba), (.int nn)] 2)) t_ := fun t_ k_ => castTop (ef_rmCod m ba nn) k_
  have lt_I1 : @LT.lt Nat _ ba h0.size := I1.lt
  obtain ⟨cl1, Ar1, -, S1, M1, -, -⟩ := id I1
  have s2 : ∀ t_, Steps p.tables e below (s₁.setTop (mkF m 8 #[.val (.ref ba), .val (.int nn)] [(.int (own_lo (ushr (nn - zz) (31 : Int32))))])) t_ → Steps p.tables e below (s₁.setTop (entryFrame m #[(.ref ba), (.int nn)] 2)) t_ := fun t_ k_ => pre0 t_ (by
    show Steps p.tables e below (s₁.setTop (mkF m 0 #[.val (.ref ba), .val (.int nn)] [])) t_
    refine XS.iloadN X0.here hx rfl (Jvm.hb hby d_jdk_52_method_15_0) rfl ?_
    refine XS.aloadN X0.here hx rfl (Jvm.hb hby d_jdk_52_method_15_1) rfl rfl ?_
    refine X0.arraylength hx (by rw [e0]; exact Ar1.1) (State.isArrayOf_alike hZ.alike Ar1.2.1) (g := (mkF m 2 #[.val (.ref ba), .val (.int nn)] [(.ref ba), (.int nn)])) rfl rfl (Jvm.hb hby d_jdk_52_method_15_2) _ ?_
    rw [len_of S1 M1]
    show Steps p.tables e below (s₁.setTop (mkF m 3 #[.val (.ref ba), .val (.int nn)] [(.int zz), (.int nn)])) _
    refine XS.isub X0.here hx rfl (Jvm.hb hby d_jdk_52_method_15_3) rfl ?_
    refine XS.bipush X0.here hx rfl (Jvm.hb hby d_jdk_52_method_15_4) ?_
    refine XS.iushr X0.here hx rfl (Jvm.hb hby d_jdk_52_method_15_6) rfl ?_
    refine XS.i2b X0.here hx rfl (Jvm.hb hby d_jdk_52_method_15_7) rfl ?_
    show Steps p.tables e below (s₁.setTop (mkF m 8 #[.val (.ref ba), .val (.int nn)] [(.int (own_lo (ushr (nn - zz) (31 : Int32))))])) t_
    exact k_)
  obtain ⟨fs, hr, hrun, hended, hW, hsame⟩ := X0.leave (v := some (.int (nar .byte (own_lo (ushr (nn - zz) (31 : Int32)))))) (fun h => by rw [Bd.returns] at h; cases h)
  refine ⟨_, _, s2 _ ?_, hrun, hended, _, _, rfl, ?_, ⟨_, rfl⟩, hW, hsame.mono (by decide) (by decide)⟩
  · show Steps p.tables e below (s₁.setTop (mkF m 8 #[.val (.ref ba), .val (.int nn)] [(.int (own_lo (ushr (nn - zz) (31 : Int32))))])) _
    exact retN X0 hx (t := .byte) Bd.returns (by simp) (Jvm.hb hby d_jdk_52_method_15_8) hr
  · show Q_rmCod Z _ _ _ _ _ h0 n0 _ s₁.heap _
    rw [e0]
    exact ⟨rfl, N0, rfl⟩
theorem d_jdk_52_method_16_0 : decode jdk_52_method_16_code 0 = .ok (.iload_n 2, 1) := by decide +kernel
theorem d_jdk_52_method_16_1 : decode jdk_52_method_16_code 1 = .ok (.newarray .byte, 2) := by decide +kernel
theorem d_jdk_52_method_16_3 : decode jdk_52_method_16_code 3 = .ok (.astore_n 3, 1) := by decide +kernel
theorem d_jdk_52_method_16_4 : decode jdk_52_method_16_code 4 = .ok (.aload_n 0, 1) := by decide +kernel
theorem d_jdk_52_method_16_5 : decode jdk_52_method_16_code 5 = .ok (.iload_n 1, 1) := by decide +kernel
theorem d_jdk_52_method_16_6 : decode jdk_52_method_16_code 6 = .ok (.aload_n 3, 1) := by decide +kernel
theorem d_jdk_52_method_16_7 : decode jdk_52_method_16_code 7 = .ok (.iconst 0, 1) := by decide +kernel
theorem d_jdk_52_method_16_8 : decode jdk_52_method_16_code 8 = .ok (.iload_n 2, 1) := by decide +kernel
theorem pd___CI_BII_I : parseMethodDescriptor "([CI[BII)I" = some ⟨[(.array .char), .int, (.array .byte), .int, .int], some .int⟩ := by decide +kernel
theorem d_jdk_52_method_16_9 : decode jdk_52_method_16_code 9 = .ok (.invokestatic 115, 3) := by decide +kernel
theorem d_jdk_52_method_16_12 : decode jdk_52_method_16_code 12 = .ok (.istore 4, 2) := by decide +kernel
theorem d_jdk_52_method_16_14 : decode jdk_52_method_16_code 14 = .ok (.iload 4, 2) := by decide +kernel
theorem d_jdk_52_method_16_16 : decode jdk_52_method_16_code 16 = .ok (.iload_n 2, 1) := by decide +kernel
theorem d_jdk_52_method_16_17 : decode jdk_52_method_16_code 17 = .ok (.if_icmp .eq 40, 3) := by decide +kernel
theorem d_jdk_52_method_16_57 : decode jdk_52_method_16_code 57 = .ok (.aload_n 3, 1) := by decide +kernel
theorem d_jdk_52_method_16_58 : decode jdk_52_method_16_code 58 = .ok (.areturn, 1) := by decide +kernel
theorem ef_rmComp (m : MethodId) (x0 : Addr) (x1 : Int32) (x2 : Int32) : entryFrame m #[(.ref x0), (.int x1), (.int x2)] 6 = mkF m 0 #[.val (.ref x0), .val (.int x1), .val (.int x2), .unset, .unset, .unset] [] := by first | (simp [entryFrame, mkF, argsToLocals, Value.category]; done) | rfl
def Q_rmComp (Z : State) (ca : Addr) (cs : List Int32) (kc : ClassId) (n : Nat) (h0 : Heap) (n0 : Nat) (v : Option Value) (h : Heap) (L : List Loc) : Prop := ∃ (b : Addr), ∃ (kb : ClassId), (v = some (.ref b)) ∧ (Fr n0 L) ∧ (Keep h0 h []) ∧ (Arv Z h b kb .byte (Int32.ofNat (own_enl cs)) (own_enc cs) (.int (0 : Int32))) ∧ (h0.size ≤ b)
set_option maxRecDepth 65536 in
set_option maxHeartbeats 40000000 in
theorem rmComp (l : Launch) (Z : State) (a0 : Array Value) (hw : ∀ d ∈ tables_1, d.before a0 Z = true) (ws : List Jvm.Cond) (ca : Addr) (cs : List Int32) (kc : ClassId) (n : Nat) (h0 : Heap) (n0 : Nat) (Z0 : n0 ≤ h0.size) (I1 : Arv Z h0 ca kc .char (Int32.ofNat n) (cs.map Value.int) (.int (0 : Int32))) (hn : cs.length = n) (hb : n ≤ 15) (hlat : own_lat cs) :
    MetFree l (⟨"java/lang/StringUTF16", "compress", "([CII)[B"⟩ : MethodName) (head1 (Jvm.Cond.code (⟨"java/lang/StringUTF16", "compress", "([CII)[B"⟩ : MethodName) jdk_52_method_16_code 6 (some (.array .byte)) :: ws) ({ frames := 1, cells := 1, slots := 15, locals := 18 } : Room)) (fun ar_ U => ar_ = #[(.ref ca), (.int (0 : Int32)), (.int (Int32.ofNat n))] ∧ Z.Warmed39 U.vm ∧ U.heap = h0) (fun _ _ _ _ _ => True) (fun _ U oc_ U' => ∃ v L, oc_ = .returned v ∧ Q_rmComp Z ca cs kc n h0 n0 v U'.heap L ∧ FrameEnd U oc_ U' L ({ frames := 1, cells := 1, slots := 15, locals := 18 } : Room).cells ({ frames := 1, cells := 1, slots := 15, locals := 18 } : Room).slots) := by
  refine MetFree.of_bodySF (plainFor_of_name pn_java_lang_StringUTF16) hisR ?_
  intro p e s m args below meth c s₁ Bd hml0 hP hK
  obtain ⟨rfl, hZ, hh⟩ := hP
  have hx := Bd.exec
  have hby := Bd.bytes
  have hml : c.maxLocals = 6 := hml0
  have hown : s.vm.findClass "java/lang/StringUTF16" = some m.cls := findClass_of_methodNamed Bd.named
  have hnm := (name_of_methodNamed Bd.named Bd.method).1
  have X0 : Stand p l e ({ frames := 1, cells := 1, slots := 15, locals := 18 } : Room) s m #[(.ref ca), (.int (0 : Int32)), (.int (Int32.ofNat n))] below meth c s₁ [] 0 0 := Stand.of_body Bd
  have e0 : s₁.heap = h0 := by rw [← hh, Bd.state]; rfl
  have N0 := Fr.nil n0
  have pre0 : ∀ t_, Steps p.tables e below (s₁.setTop (mkF m 0 #[.val (.ref ca), .val (.int (0 : Int32)), .val (.int (Int32.ofNat n)), .unset, .unset, .unset] [])) t_ → Steps p.tables e below (s₁.setTop (entryFrame m #[(.ref ca), (.int (0 : Int32)), (.int (Int32.ofNat n))] 6)) t_ := fun t_ k_ => castTop (ef_rmComp m ca (0 : Int32) (Int32.ofNat n)) k_
  have lt_I1 : @LT.lt Nat _ ca h0.size := I1.lt
  obtain ⟨T1, h1, k1, X1, e1, E1, A1, st1⟩ := newP X0 hx hZ (hw _ (List.mem_of_getElem? (i := 30) rfl)) e0 (g := (mkF m 1 #[.val (.ref ca), .val (.int (0 : Int32)), .val (.int (Int32.ofNat n)), .unset, .unset, .unset] [(.int (Int32.ofNat n))])) rfl (Jvm.hb hby d_jdk_52_method_16_1) rfl (own_nn (by omega)) (cap := 15) (by rw [own_tn (by omega)]; omega) (by decide) (by decide) (by decide)
  obtain ⟨b1, g1⟩ : ∃ z, z = h0.size := ⟨_, rfl⟩
  rw [← g1] at A1 st1
  have z2 : h0.size ≤ h1.size := E1.1
  have l1 : b1 < h1.size := A1.lt
  have V1 : Arv Z h1 b1 k1 .byte (Int32.ofNat n) (List.replicate n (.int (0 : Int32))) (.int (0 : Int32)) := (Arv.new A1 (own_nn (by omega))).pad (pad_rep [] _ n)
  have f3 : Arv Z h1 ca kc .char (Int32.ofNat n) (cs.map Value.int) (.int (0 : Int32)) := (I1.ext E1)
  have Zc4 : n0 ≤ h1.size := by omega
  obtain ⟨_, _, ⟨T5, L5, k5, n5⟩, -, X5, ⟨Lc5, hQ5, l5, y5, z5⟩, st5⟩ := Jvm.LawKit.callS X1 hx (y := (⟨"java/lang/StringUTF16", "compress", "([CI[BII)I"⟩ : MethodName)) hown (mvT hZ (hw _ (List.mem_of_getElem? (i := 31) rfl))) (mvT hZ (hw _ (List.mem_of_getElem? (i := 32) rfl))) (mvT hZ (hw _ (List.mem_of_getElem? (i := 28) rfl))) (mvT hZ (hw _ (List.mem_of_getElem? (i := 33) rfl))) (by decide) (backOf (W := 0) (rmCmpL l Z a0 hw [] ca b1 cs kc n k1 (List.replicate n (.int (0 : Int32))) h1 n0 Zc4 f3 V1 (hn : cs.length = n) (hb : n ≤ 15) (by simp) (by first | assumption | omega | rfl | decide : n0 ≤ b1) (by first | assumption | omega | rfl | decide : @Ne Nat ca b1) (hlat : own_lat cs)) hZ (hw _ (List.mem_of_getElem? (i := 33) rfl)) (hw _ (List.mem_of_getElem? (i := 28) rfl)) (by decide) (by decide)) (g := (mkF m 9 #[.val (.ref ca), .val (.int (0 : Int32)), .val (.int (Int32.ofNat n)), .val (.ref b1), .unset, .unset] [(.int (Int32.ofNat n)), (.int (0 : Int32)), (.ref b1), (.int (0 : Int32)), (.ref ca)])) rfl (by rw [hml]; rfl) (argsL := [(.ref ca), (.int (0 : Int32)), (.ref b1), (.int (0 : Int32)), (.int (Int32.ofNat n))]) (rest := []) (lenOf pd___CI_BII_I rfl) rfl (by show 2 * 0 + _ ≤ _; exact Nat.le_of_eq rfl) (Jvm.hb hby d_jdk_52_method_16_9) (fun _ _ => ⟨rfl, e1, (by decide : 1 + 0 ≤ _), (by decide : 15 + 0 ≤ _)⟩)
  dsimp only [Pt.U, Pt.locs, Pt.cells, Pt.slots] at X5 l5 y5 z5 st5 hQ5
  subst l5 y5 z5
  obtain ⟨rfl, N5q, K5, Fq5_0⟩ := hQ5
  have N5 := Fr.app N0 N5q
  obtain ⟨h5, e5⟩ : ∃ z, T5.heap = z := ⟨_, rfl⟩
  rw [e5] at K5 Fq5_0
  have z6 : h1.size ≤ h5.size := K5.1
  have lt5_0 : @LT.lt Nat _ b1 h5.size := Fq5_0.lt
  have s7 : ∀ t_, Steps p.tables e below (T5.setTop (mkF m 58 #[.val (.ref ca), .val (.int (0 : Int32)), .val (.int (Int32.ofNat n)), .val (.ref b1), .val (.int (Int32.ofNat n)), .unset] [(.ref b1)])) t_ → Steps p.tables e below (s₁.setTop (entryFrame m #[(.ref ca), (.int (0 : Int32)), (.int (Int32.ofNat n))] 6)) t_ := fun t_ k_ => pre0 t_ (by
    show Steps p.tables e below (s₁.setTop (mkF m 0 #[.val (.ref ca), .val (.int (0 : Int32)), .val (.int (Int32.ofNat n)), .unset, .unset, .unset] [])) t_
    refine XS.iloadN X0.here hx rfl (Jvm.hb hby d_jdk_52_method_16_0) rfl ?_
    refine st1 _ ?_
    show Steps p.tables e below (T1.setTop (mkF m 3 #[.val (.ref ca), .val (.int (0 : Int32)), .val (.int (Int32.ofNat n)), .unset, .unset, .unset] [(.ref b1)])) _
    refine XS.astoreN X1.here hx rfl (Jvm.hb hby d_jdk_52_method_16_3) rfl rfl (l' := #[.val (.ref ca), .val (.int (0 : Int32)), .val (.int (Int32.ofNat n)), .val (.ref b1), .unset, .unset]) rfl ?_
    refine XS.aloadN X1.here hx rfl (Jvm.hb hby d_jdk_52_method_16_4) rfl rfl ?_
    refine XS.iloadN X1.here hx rfl (Jvm.hb hby d_jdk_52_method_16_5) rfl ?_
    refine XS.aloadN X1.here hx rfl (Jvm.hb hby d_jdk_52_method_16_6) rfl rfl ?_
    refine XS.iconst X1.here hx rfl (Jvm.hb hby d_jdk_52_method_16_7) ?_
    refine XS.iloadN X1.here hx rfl (Jvm.hb hby d_jdk_52_method_16_8) rfl ?_
    show Steps p.tables e below (T1.setTop (mkF m 9 #[.val (.ref ca), .val (.int (0 : Int32)), .val (.int (Int32.ofNat n)), .val (.ref b1), .unset, .unset] [(.int (Int32.ofNat n)), (.int (0 : Int32)), (.ref b1), (.int (0 : Int32)), (.ref ca)])) _
    refine st5 _ ?_
    show Steps p.tables e below (T5.setTop (mkF m 12 #[.val (.ref ca), .val (.int (0 : Int32)), .val (.int (Int32.ofNat n)), .val (.ref b1), .unset, .unset] [(.int (Int32.ofNat n))])) _
    refine XS.istore X5.here hx rfl (Jvm.hb hby d_jdk_52_method_16_12) rfl (l' := #[.val (.ref ca), .val (.int (0 : Int32)), .val (.int (Int32.ofNat n)), .val (.ref b1), .val (.int (Int32.ofNat n)), .unset]) rfl ?_
    refine XS.iload X5.here hx rfl (Jvm.hb hby d_jdk_52_method_16_14) rfl ?_
    refine XS.iloadN X5.here hx rfl (Jvm.hb hby d_jdk_52_method_16_16) rfl ?_
    refine XS.icmpYes X5.here hx rfl (pc0 := 17) (pc' := 57) rfl (Jvm.hb hby d_jdk_52_method_16_17) rfl (teq rfl).1 (by decide) (by decide) ?_
    show Steps p.tables e below (T5.setTop (mkF m 57 #[.val (.ref ca), .val (.int (0 : Int32)), .val (.int (Int32.ofNat n)), .val (.ref b1), .val (.int (Int32.ofNat n)), .unset] [])) _
    refine XS.aloadN X5.here hx rfl (Jvm.hb hby d_jdk_52_method_16_57) rfl rfl ?_
    show Steps p.tables e below (T5.setTop (mkF m 58 #[.val (.ref ca), .val (.int (0 : Int32)), .val (.int (Int32.ofNat n)), .val (.ref b1), .val (.int (Int32.ofNat n)), .unset] [(.ref b1)])) t_
    exact k_)
  obtain ⟨fs, hr, hrun, hended, hW, hsame⟩ := X5.leave (v := some (.ref b1)) (fun h => by rw [Bd.returns] at h; cases h)
  refine ⟨_, _, s7 _ ?_, hrun, hended, _, _, rfl, ?_, ⟨_, rfl⟩, hW, hsame.mono (by decide) (by decide)⟩
  · show Steps p.tables e below (T5.setTop (mkF m 58 #[.val (.ref ca), .val (.int (0 : Int32)), .val (.int (Int32.ofNat n)), .val (.ref b1), .val (.int (Int32.ofNat n)), .unset] [(.ref b1)])) _
    jvm_step X5.here [X5.here.top, hx, (Jvm.hb hby d_jdk_52_method_16_58), X5.method', Bd.returns, Value.isRef, FieldType.isReference]
    first | (intro acts; rw [hr _ acts rfl rfl rfl]) | rw [hr _ _ rfl rfl rfl]
    exact Steps.refl _
  · show Q_rmComp Z _ _ _ _ h0 n0 _ T5.heap _
    rw [e5]
    exact ⟨b1, k1, rfl, N5, (((Keep.refl h0 []).ext E1).trans K5 (allS (Or.inr (show h0.size ≤ b1 by omega)) all0)), (own_fixL hlat Fq5_0 hn (by simp)), by omega⟩
theorem pn_java_lang_String : plainName "java/lang/String" = true := by first | (simp [plainName, overriddenIn]; done) | decide +kernel
theorem d_jdk_42_method_149_0 : decode jdk_42_method_149_code 0 = .ok (.aload_n 0, 1) := by decide +kernel
theorem d_jdk_42_method_149_1 : decode jdk_42_method_149_code 1 = .ok (.invokespecial 1, 3) := by decide +kernel
theorem d_jdk_42_method_149_4 : decode jdk_42_method_149_code 4 = .ok (.iload_n 3, 1) := by decide +kernel
theorem d_jdk_42_method_149_5 : decode jdk_42_method_149_code 5 = .ok (.ifCond .ne 22, 3) := by decide +kernel
theorem d_jdk_42_method_149_27 : decode jdk_42_method_149_code 27 = .ok (.getstatic 38, 3) := by decide +kernel
theorem d_jdk_42_method_149_30 : decode jdk_42_method_149_code 30 = .ok (.ifCond .eq 28, 3) := by decide +kernel
theorem d_jdk_42_method_149_33 : decode jdk_42_method_149_code 33 = .ok (.aload_n 1, 1) := by decide +kernel
theorem d_jdk_42_method_149_34 : decode jdk_42_method_149_code 34 = .ok (.iload_n 2, 1) := by decide +kernel
theorem d_jdk_42_method_149_35 : decode jdk_42_method_149_code 35 = .ok (.iload_n 3, 1) := by decide +kernel
theorem pd___CII__B : parseMethodDescriptor "([CII)[B" = some ⟨[(.array .char), .int, .int], some (.array .byte)⟩ := by decide +kernel
theorem d_jdk_42_method_149_36 : decode jdk_42_method_149_code 36 = .ok (.invokestatic 177, 3) := by decide +kernel
theorem d_jdk_42_method_149_39 : decode jdk_42_method_149_code 39 = .ok (.astore 5, 2) := by decide +kernel
theorem d_jdk_42_method_149_41 : decode jdk_42_method_149_code 41 = .ok (.aload_n 0, 1) := by decide +kernel
theorem d_jdk_42_method_149_42 : decode jdk_42_method_149_code 42 = .ok (.aload 5, 2) := by decide +kernel
theorem d_jdk_42_method_149_44 : decode jdk_42_method_149_code 44 = .ok (.iload_n 3, 1) := by decide +kernel
theorem pd___BI_B : parseMethodDescriptor "([BI)B" = some ⟨[(.array .byte), .int], some .byte⟩ := by decide +kernel
theorem d_jdk_42_method_149_45 : decode jdk_42_method_149_code 45 = .ok (.invokestatic 47, 3) := by decide +kernel
theorem d_jdk_42_method_149_48 : decode jdk_42_method_149_code 48 = .ok (.putfield 15, 3) := by decide +kernel
theorem d_jdk_42_method_149_51 : decode jdk_42_method_149_code 51 = .ok (.aload_n 0, 1) := by decide +kernel
theorem d_jdk_42_method_149_52 : decode jdk_42_method_149_code 52 = .ok (.aload 5, 2) := by decide +kernel
theorem d_jdk_42_method_149_54 : decode jdk_42_method_149_code 54 = .ok (.putfield 9, 3) := by decide +kernel
theorem d_jdk_42_method_149_57 : decode jdk_42_method_149_code 57 = .ok (.return_, 1) := by decide +kernel
theorem ef_rmIni4 (m : MethodId) (x0 : Addr) (x1 : Addr) (x2 : Int32) (x3 : Int32) : entryFrame m #[(.ref x0), (.ref x1), (.int x2), (.int x3), .null] 6 = mkF m 0 #[.val (.ref x0), .val (.ref x1), .val (.int x2), .val (.int x3), .val .null, .unset] [] := by first | (simp [entryFrame, mkF, argsToLocals, Value.category]; done) | rfl
def Q_rmIni4 (Z : State) (a : Addr) (ca : Addr) (cst : Int32) (cs : List Int32) (kc : ClassId) (n : Nat) (h0 : Heap) (n0 : Nat) (v : Option Value) (h : Heap) (L : List Loc) : Prop := ∃ (b : Addr), ∃ (kb : ClassId), (v = none) ∧ (Fr n0 L) ∧ (Keep h0 h [a]) ∧ (Exa Z h a "java/lang/String") ∧ (Fld Z h a "java/lang/String" "value" "[B" (.ref b)) ∧ (Fld Z h a "java/lang/String" "coder" "B" (.int (own_cod cs))) ∧ (Arv Z h b kb .byte (Int32.ofNat (own_enl cs)) (own_enc cs) (.int (0 : Int32))) ∧ (h0.size ≤ b)
set_option maxRecDepth 65536 in
set_option maxHeartbeats 40000000 in
theorem rmIni4 (l : Launch) (Z : State) (a0 : Array Value) (hw : ∀ d ∈ tables_1, d.before a0 Z = true) (ws : List Jvm.Cond) (a : Addr) (ca : Addr) (cst : Int32) (cs : List Int32) (kc : ClassId) (n : Nat) (h0 : Heap) (n0 : Nat) (Z0 : n0 ≤ h0.size) (I1 : Sta Z Z.heap "java/lang/String" "COMPACT_STRINGS" "Z" (.int cst)) (OX : Old Z n0 h0) (hcst : ¬ (cst = (0 : Int32))) (I2 : Exa Z h0 a "java/lang/String") (I3 : Fld Z h0 a "java/lang/String" "value" "[B" .null) (I4 : Fld Z h0 a "java/lang/String" "coder" "B" (.int (0 : Int32))) (I5 : Arv Z h0 ca kc .char (Int32.ofNat n) (cs.map Value.int) (.int (0 : Int32))) (hn : cs.length = n) (hb : n ≤ 15) (hpos : 0 < n) (hlat : own_lat cs) (ga : n0 ≤ a) (hac : @Ne Nat a ca) :
    MetFree l (⟨"java/lang/String", "<init>", "([CIILjava/lang/Void;)V"⟩ : MethodName) (head1 (Jvm.Cond.code (⟨"java/lang/String", "<init>", "([CIILjava/lang/Void;)V"⟩ : MethodName) jdk_42_method_149_code 6 none :: ws) ({ frames := 2, cells := 1, slots := 15, locals := 35 } : Room)) (fun ar_ U => ar_ = #[(.ref a), (.ref ca), (.int (0 : Int32)), (.int (Int32.ofNat n)), .null] ∧ Z.Warmed39 U.vm ∧ U.heap = h0) (fun _ _ _ _ _ => True) (fun _ U oc_ U' => ∃ v L, oc_ = .returned v ∧ Q_rmIni4 Z a ca cst cs kc n h0 n0 v U'.heap L ∧ FrameEnd U oc_ U' L ({ frames := 2, cells := 1, slots := 15, locals := 35 } : Room).cells ({ frames := 2, cells := 1, slots := 15, locals := 35 } : Room).slots) := by
  refine MetFree.of_bodySF (plainFor_of_name pn_java_lang_String) hisR ?_
  intro p e s m args below meth c s₁ Bd hml0 hP hK
  obtain ⟨rfl, hZ, hh⟩ := hP
  have hx := Bd.exec
  have hby := Bd.bytes
  have hml : c.maxLocals = 6 := hml0
  have hown : s.vm.findClass "java/lang/String" = some m.cls := findClass_of_methodNamed Bd.named
  have hnm := (name_of_methodNamed Bd.named Bd.method).1
  have X0 : Stand p l e ({ frames := 2, cells := 1, slots := 15, locals := 35 } : Room) s m #[(.ref a), (.ref ca), (.int (0 : Int32)), (.int (Int32.ofNat n)), .null] below meth c s₁ [] 0 0 := Stand.of_body Bd
  have e0 : s₁.heap = h0 := by rw [← hh, Bd.state]; rfl
  have N0 := Fr.nil n0
  have pre0 : ∀ t_, Steps p.tables e below (s₁.setTop (mkF m 0 #[.val (.ref a), .val (.ref ca), .val (.int (0 : Int32)), .val (.int (Int32.ofNat n)), .val .null, .unset] [])) t_ → Steps p.tables e below (s₁.setTop (entryFrame m #[(.ref a), (.ref ca), (.int (0 : Int32)), (.int (Int32.ofNat n)), .null] 6)) t_ := fun t_ k_ => castTop (ef_rmIni4 m a ca (0 : Int32) (Int32.ofNat n)) k_
  have lt_I2 : @LT.lt Nat _ a h0.size := I2.lt
  have lt_I3 : @LT.lt Nat _ a h0.size := I3.lt
  have lt_I4 : @LT.lt Nat _ a h0.size := I4.lt
  have lt_I5 : @LT.lt Nat _ ca h0.size := I5.lt
  obtain ⟨T1, X1, e1, st1⟩ := initO X0 hx hZ hown (hw _ (List.mem_of_getElem? (i := 22) rfl)) (hw _ (List.mem_of_getElem? (i := 23) rfl)) (hw _ (List.mem_of_getElem? (i := 24) rfl)) e0 (g := (mkF m 1 #[.val (.ref a), .val (.ref ca), .val (.int (0 : Int32)), .val (.int (Int32.ofNat n)), .val .null, .unset] [(.ref a)])) rfl (by rw [hml]; rfl) rfl (Jvm.hb hby d_jdk_42_method_149_1) (by decide) (W := 0) (by show 2 * 0 + _ ≤ _; exact Nat.le_of_eq rfl) (by decide)
  obtain ⟨T2, X2, e2, st2⟩ := getS2 X1 hx hZ hown (host := "") (Or.inl (hw _ (List.mem_of_getElem? (i := 25) rfl))) Via.refl e1 (I1.ext OX.2) (g := (mkF m 27 #[.val (.ref a), .val (.ref ca), .val (.int (0 : Int32)), .val (.int (Int32.ofNat n)), .val .null, .unset] [])) rfl (Jvm.hb hby d_jdk_42_method_149_27)
  have Zc3 : n0 ≤ h0.size := by omega
  obtain ⟨_, _, ⟨T4, L4, k4, n4⟩, -, X4, ⟨Lc4, hQ4, l4, y4, z4⟩, st4⟩ := Jvm.LawKit.callS X2 hx (y := (⟨"java/lang/StringUTF16", "compress", "([CII)[B"⟩ : MethodName)) hown (mvT hZ (hw _ (List.mem_of_getElem? (i := 26) rfl))) (mvT hZ (hw _ (List.mem_of_getElem? (i := 27) rfl))) (mvT hZ (hw _ (List.mem_of_getElem? (i := 28) rfl))) (mvT hZ (hw _ (List.mem_of_getElem? (i := 29) rfl))) (by decide) (backOf (W := 0) (rmComp l Z a0 hw [] ca cs kc n h0 n0 Zc3 I5 (hn : cs.length = n) (hb : n ≤ 15) (hlat : own_lat cs)) hZ (hw _ (List.mem_of_getElem? (i := 29) rfl)) (hw _ (List.mem_of_getElem? (i := 28) rfl)) (by decide) (by decide)) (g := (mkF m 36 #[.val (.ref a), .val (.ref ca), .val (.int (0 : Int32)), .val (.int (Int32.ofNat n)), .val .null, .unset] [(.int (Int32.ofNat n)), (.int (0 : Int32)), (.ref ca)])) rfl (by rw [hml]; rfl) (argsL := [(.ref ca), (.int (0 : Int32)), (.int (Int32.ofNat n))]) (rest := []) (lenOf pd___CII__B rfl) rfl (by show 2 * 0 + _ ≤ _; exact Nat.le_of_eq rfl) (Jvm.hb hby d_jdk_42_method_149_36) (fun _ _ => ⟨rfl, e2, (by decide : 0 + 1 ≤ _), (by decide : 0 + 15 ≤ _)⟩)
  dsimp only [Pt.U, Pt.locs, Pt.cells, Pt.slots] at X4 l4 y4 z4 st4 hQ4
  subst l4 y4 z4
  obtain ⟨b_4, kb_4, rfl, N4q, K4, Fq4_0, P4_0⟩ := hQ4
  have N4 := Fr.app N0 N4q
  obtain ⟨h4, e4⟩ : ∃ z, T4.heap = z := ⟨_, rfl⟩
  rw [e4] at K4 Fq4_0
  have z5 : h0.size ≤ h4.size := K4.1
  have lt4_0 : @LT.lt Nat _ b_4 h4.size := Fq4_0.lt
  have Zc6 : n0 ≤ h4.size := by omega
  obtain ⟨_, _, ⟨T7, L7, k7, n7⟩, -, X7, ⟨Lc7, hQ7, l7, y7, z7⟩, st7⟩ := Jvm.LawKit.callS X4 hx (y := (⟨"java/lang/StringUTF16", "coderFromArrayLen", "([BI)B"⟩ : MethodName)) hown (mvT hZ (hw _ (List.mem_of_getElem? (i := 34) rfl))) (mvT hZ (hw _ (List.mem_of_getElem? (i := 35) rfl))) (mvT hZ (hw _ (List.mem_of_getElem? (i := 28) rfl))) (mvT hZ (hw _ (List.mem_of_getElem? (i := 36) rfl))) (by decide) (backOf (W := 1) (rmCod l Z a0 hw [] b_4 (Int32.ofNat n) kb_4 (Int32.ofNat (own_enl cs)) (own_enc cs) h4 n0 Zc6 Fq4_0) hZ (hw _ (List.mem_of_getElem? (i := 36) rfl)) (hw _ (List.mem_of_getElem? (i := 28) rfl)) (by decide) (by decide)) (g := (mkF m 45 #[.val (.ref a), .val (.ref ca), .val (.int (0 : Int32)), .val (.int (Int32.ofNat n)), .val .null, .val (.ref b_4)] [(.int (Int32.ofNat n)), (.ref b_4), (.ref a)])) rfl (by rw [hml]; rfl) (argsL := [(.ref b_4), (.int (Int32.ofNat n))]) (rest := [(.ref a)]) (lenOf pd___BI_B rfl) rfl (by show 2 * 0 + _ ≤ _; exact Nat.le_of_eq rfl) (Jvm.hb hby d_jdk_42_method_149_45) (fun _ _ => ⟨rfl, e4, (by decide : 1 + 0 ≤ _), (by decide : 15 + 0 ≤ _)⟩)
  dsimp only [Pt.U, Pt.locs, Pt.cells, Pt.slots] at X7 l7 y7 z7 st7 hQ7
  subst l7 y7 z7
  obtain ⟨rfl, N7q, e7⟩ := hQ7
  have N7 := Fr.app N4 N7q
  have f8 : Exa Z h4 a "java/lang/String" := (I2.keep K4)
  have f9 : Fld Z h4 a "java/lang/String" "coder" "B" (.int (0 : Int32)) := (I4.keep K4 nin0)
  obtain ⟨T10, h10, X10, e10, W10, st10⟩ := putFN X7 hx hZ hown (hw _ (List.mem_of_getElem? (i := 37) rfl)) Via.refl e7 f9 f8 (Or.inr ⟨(hw _ (List.mem_of_getElem? (i := 38) rfl)), rfl, hnm⟩) (hw _ (List.mem_of_getElem? (i := 13) rfl)) (ty := .byte) (v' := (.int (own_cod cs))) (by decide) (own_cnar cs) (own_cfit cs) (g := (mkF m 48 #[.val (.ref a), .val (.ref ca), .val (.int (0 : Int32)), .val (.int (Int32.ofNat n)), .val .null, .val (.ref b_4)] [(.int (own_cod cs)), (.ref a)])) rfl rfl (Jvm.hb hby d_jdk_42_method_149_48)
  have z11 : h4.size ≤ h10.size := Nat.le_of_eq W10.size.symm
  have F10 : Fld Z h10 a "java/lang/String" "coder" "B" (.int (own_cod cs)) := f9.same W10
  have N10 := Fr.snoc X10 N7 (show n0 ≤ a by omega)
  have f12 : Exa Z h10 a "java/lang/String" := (f8.wr W10)
  have f13 : Fld Z h10 a "java/lang/String" "value" "[B" .null := ((I3.keep K4 nin0).other W10 (Or.inr (slot_ne (Or.inr (hw _ (List.mem_of_getElem? (i := 40) rfl))) (Or.inr (hw _ (List.mem_of_getElem? (i := 38) rfl))) (by decide) (t := (.array .byte)) (t' := .byte) (by decide) (by decide))))
  obtain ⟨T14, h14, X14, e14, W14, st14⟩ := putF X10 hx hZ hown (host := "") (Or.inl (hw _ (List.mem_of_getElem? (i := 39) rfl))) Via.refl e10 f13 f12 (Or.inr ⟨(hw _ (List.mem_of_getElem? (i := 40) rfl)), rfl, hnm⟩) (hw _ (List.mem_of_getElem? (i := 13) rfl)) (ty := (.array .byte)) (by decide) rfl rfl (g := (mkF m 54 #[.val (.ref a), .val (.ref ca), .val (.int (0 : Int32)), .val (.int (Int32.ofNat n)), .val .null, .val (.ref b_4)] [(.ref b_4), (.ref a)])) rfl rfl (Jvm.hb hby d_jdk_42_method_149_54)
  have z15 : h10.size ≤ h14.size := Nat.le_of_eq W14.size.symm
  have F14 : Fld Z h14 a "java/lang/String" "value" "[B" (.ref b_4) := f13.same W14
  have N14 := Fr.snoc X14 N10 (show n0 ≤ a by omega)
  have s16 : ∀ t_, Steps p.tables e below (T14.setTop (mkF m 57 #[.val (.ref a), .val (.ref ca), .val (.int (0 : Int32)), .val (.int (Int32.ofNat n)), .val .null, .val (.ref b_4)] [])) t_ → Steps p.tables e below (s₁.setTop (entryFrame m #[(.ref a), (.ref ca), (.int (0 : Int32)), (.int (Int32.ofNat n)), .null] 6)) t_ := fun t_ k_ => pre0 t_ (by
    show Steps p.tables e below (s₁.setTop (mkF m 0 #[.val (.ref a), .val (.ref ca), .val (.int (0 : Int32)), .val (.int (Int32.ofNat n)), .val .null, .unset] [])) t_
    refine XS.aloadN X0.here hx rfl (Jvm.hb hby d_jdk_42_method_149_0) rfl rfl ?_
    refine st1 _ ?_
    show Steps p.tables e below (T1.setTop (mkF m 4 #[.val (.ref a), .val (.ref ca), .val (.int (0 : Int32)), .val (.int (Int32.ofNat n)), .val .null, .unset] [])) _
    refine XS.iloadN X1.here hx rfl (Jvm.hb hby d_jdk_42_method_149_4) rfl ?_
    refine XS.ifYes X1.here hx rfl (pc0 := 5) (pc' := 27) rfl (Jvm.hb hby d_jdk_42_method_149_5) rfl ((if0 _ _).trans (feq (own_ne0 hpos (by omega))).2) (by decide) (by decide) ?_
    show Steps p.tables e below (T1.setTop (mkF m 27 #[.val (.ref a), .val (.ref ca), .val (.int (0 : Int32)), .val (.int (Int32.ofNat n)), .val .null, .unset] [])) _
    refine st2 _ ?_
    show Steps p.tables e below (T2.setTop (mkF m 30 #[.val (.ref a), .val (.ref ca), .val (.int (0 : Int32)), .val (.int (Int32.ofNat n)), .val .null, .unset] [(.int cst)])) _
    refine XS.ifNo X2.here hx rfl (Jvm.hb hby d_jdk_42_method_149_30) rfl ((if0 _ _).trans (feq hcst).1) ?_
    show Steps p.tables e below (T2.setTop (mkF m 33 #[.val (.ref a), .val (.ref ca), .val (.int (0 : Int32)), .val (.int (Int32.ofNat n)), .val .null, .unset] [])) _
    refine XS.aloadN X2.here hx rfl (Jvm.hb hby d_jdk_42_method_149_33) rfl rfl ?_
    refine XS.iloadN X2.here hx rfl (Jvm.hb hby d_jdk_42_method_149_34) rfl ?_
    refine XS.iloadN X2.here hx rfl (Jvm.hb hby d_jdk_42_method_149_35) rfl ?_
    refine st4 _ ?_
    show Steps p.tables e below (T4.setTop (mkF m 39 #[.val (.ref a), .val (.ref ca), .val (.int (0 : Int32)), .val (.int (Int32.ofNat n)), .val .null, .unset] [(.ref b_4)])) _
    refine XS.astore X4.here hx rfl (Jvm.hb hby d_jdk_42_method_149_39) rfl rfl (l' := #[.val (.ref a), .val (.ref ca), .val (.int (0 : Int32)), .val (.int (Int32.ofNat n)), .val .null, .val (.ref b_4)]) rfl ?_
    refine XS.aloadN X4.here hx rfl (Jvm.hb hby d_jdk_42_method_149_41) rfl rfl ?_
    refine XS.aload X4.here hx rfl (Jvm.hb hby d_jdk_42_method_149_42) rfl rfl ?_
    refine XS.iloadN X4.here hx rfl (Jvm.hb hby d_jdk_42_method_149_44) rfl ?_
    refine st7 _ ?_
    show Steps p.tables e below (T7.setTop (mkF m 48 #[.val (.ref a), .val (.ref ca), .val (.int (0 : Int32)), .val (.int (Int32.ofNat n)), .val .null, .val (.ref b_4)] [(.int (nar .byte (own_lo (ushr ((Int32.ofNat n) - (Int32.ofNat (own_enl cs))) (31 : Int32))))), (.ref a)])) _
    refine castTop (g' := (mkF m 48 #[.val (.ref a), .val (.ref ca), .val (.int (0 : Int32)), .val (.int (Int32.ofNat n)), .val .null, .val (.ref b_4)] [(.int (own_cod cs)), (.ref a)])) (by rw [own_codl hn hpos (by omega)]) ?_
    show Steps p.tables e below (T7.setTop (mkF m 48 #[.val (.ref a), .val (.ref ca), .val (.int (0 : Int32)), .val (.int (Int32.ofNat n)), .val .null, .val (.ref b_4)] [(.int (own_cod cs)), (.ref a)])) _
    refine st10 _ ?_
    show Steps p.tables e below (T10.setTop (mkF m 51 #[.val (.ref a), .val (.ref ca), .val (.int (0 : Int32)), .val (.int (Int32.ofNat n)), .val .null, .val (.ref b_4)] [])) _
    refine XS.aloadN X10.here hx rfl (Jvm.hb hby d_jdk_42_method_149_51) rfl rfl ?_
    refine XS.aload X10.here hx rfl (Jvm.hb hby d_jdk_42_method_149_52) rfl rfl ?_
    refine st14 _ ?_
    show Steps p.tables e below (T14.setTop (mkF m 57 #[.val (.ref a), .val (.ref ca), .val (.int (0 : Int32)), .val (.int (Int32.ofNat n)), .val .null, .val (.ref b_4)] [])) _
    show Steps p.tables e below (T14.setTop (mkF m 57 #[.val (.ref a), .val (.ref ca), .val (.int (0 : Int32)), .val (.int (Int32.ofNat n)), .val .null, .val (.ref b_4)] [])) t_
    exact k_)
  obtain ⟨fs, hr, hrun, hended, hW, hsame⟩ := X14.leave (v := none) (fun _ => rfl)
  have f17 : Arv Z h14 b_4 kb_4 .byte (Int32.ofNat (own_enl cs)) (own_enc cs) (.int (0 : Int32)) := ((Fq4_0.other W10 (show @Ne Nat b_4 a by omega)).other W14 (show @Ne Nat b_4 a by omega))
  have f18 : Exa Z h14 a "java/lang/String" := (f12.wr W14)
  have f19 : Fld Z h14 a "java/lang/String" "coder" "B" (.int (own_cod cs)) := (F10.other W14 (Or.inr (slot_ne (Or.inr (hw _ (List.mem_of_getElem? (i := 38) rfl))) (Or.inr (hw _ (List.mem_of_getElem? (i := 40) rfl))) (by decide) (t := .byte) (t' := (.array .byte)) (by decide) (by decide))))
  refine ⟨_, _, s16 _ ?_, hrun, hended, _, _, rfl, ?_, ⟨_, rfl⟩, hW, hsame.mono (by decide) (by decide)⟩
  · show Steps p.tables e below (T14.setTop (mkF m 57 #[.val (.ref a), .val (.ref ca), .val (.int (0 : Int32)), .val (.int (Int32.ofNat n)), .val .null, .val (.ref b_4)] [])) _
    exact X14.returnOut hx Bd.returns (Jvm.hb hby d_jdk_42_method_149_57) hr
  · show Q_rmIni4 Z _ _ _ _ _ _ h0 n0 _ T14.heap _
    rw [e14]
    exact ⟨b_4, kb_4, rfl, N14, ((((Keep.refl h0 [a]).trans K4 all0).wr W10 (Or.inl (by simp))).wr W14 (Or.inl (by simp))), f18, F14, f19, f17, by omega⟩
theorem d_jdk_42_method_3_0 : decode jdk_42_method_3_code 0 = .ok (.aload_n 0, 1) := by decide +kernel
theorem d_jdk_42_method_3_1 : decode jdk_42_method_3_code 1 = .ok (.aload_n 1, 1) := by decide +kernel
theorem d_jdk_42_method_3_2 : decode jdk_42_method_3_code 2 = .ok (.iconst 0, 1) := by decide +kernel
theorem d_jdk_42_method_3_3 : decode jdk_42_method_3_code 3 = .ok (.aload_n 1, 1) := by decide +kernel
theorem d_jdk_42_method_3_4 : decode jdk_42_method_3_code 4 = .ok (.arraylength, 1) := by decide +kernel
theorem d_jdk_42_method_3_5 : decode jdk_42_method_3_code 5 = .ok (.aconst_null, 1) := by decide +kernel
theorem pd___CIILjava_lang_Void__V : parseMethodDescriptor "([CIILjava/lang/Void;)V" = some ⟨[(.array .char), .int, .int, (.object "java/lang/Void")], none⟩ := by decide +kernel
theorem d_jdk_42_method_3_6 : decode jdk_42_method_3_code 6 = .ok (.invokespecial 27, 3) := by decide +kernel
theorem d_jdk_42_method_3_9 : decode jdk_42_method_3_code 9 = .ok (.return_, 1) := by decide +kernel
theorem ef_rmIni1 (m : MethodId) (x0 : Addr) (x1 : Addr) : entryFrame m #[(.ref x0), (.ref x1)] 2 = mkF m 0 #[.val (.ref x0), .val (.ref x1)] [] := by first | (simp [entryFrame, mkF, argsToLocals, Value.category]; done) | rfl
def Q_rmIni1 (Z : State) (a : Addr) (ca : Addr) (cst : Int32) (cs : List Int32) (kc : ClassId) (n : Nat) (h0 : Heap) (n0 : Nat) (v : Option Value) (h : Heap) (L : List Loc) : Prop := ∃ (b : Addr), ∃ (kb : ClassId), (v = none) ∧ (Fr n0 L) ∧ (Keep h0 h [a]) ∧ (Exa Z h a "java/lang/String") ∧ (Fld Z h a "java/lang/String" "value" "[B" (.ref b)) ∧ (Fld Z h a "java/lang/String" "coder" "B" (.int (own_cod cs))) ∧ (Arv Z h b kb .byte (Int32.ofNat (own_enl cs)) (own_enc cs) (.int (0 : Int32))) ∧ (h0.size ≤ b)
set_option maxRecDepth 65536 in
set_option maxHeartbeats 40000000 in
theorem rmIni1 (l : Launch) (Z : State) (a0 : Array Value) (hw : ∀ d ∈ tables_1, d.before a0 Z = true) (ws : List Jvm.Cond) (a : Addr) (ca : Addr) (cst : Int32) (cs : List Int32) (kc : ClassId) (n : Nat) (h0 : Heap) (n0 : Nat) (Z0 : n0 ≤ h0.size) (I1 : Sta Z Z.heap "java/lang/String" "COMPACT_STRINGS" "Z" (.int cst)) (OX : Old Z n0 h0) (hcst : ¬ (cst = (0 : Int32))) (I2 : Exa Z h0 a "java/lang/String") (I3 : Fld Z h0 a "java/lang/String" "value" "[B" .null) (I4 : Fld Z h0 a "java/lang/String" "coder" "B" (.int (0 : Int32))) (I5 : Arv Z h0 ca kc .char (Int32.ofNat n) (cs.map Value.int) (.int (0 : Int32))) (hn : cs.length = n) (hb : n ≤ 15) (hpos : 0 < n) (hlat : own_lat cs) (ga : n0 ≤ a) (hac : @Ne Nat a ca) :
    MetFree l (⟨"java/lang/String", "<init>", "([C)V"⟩ : MethodName) (head1 (Jvm.Cond.code (⟨"java/lang/String", "<init>", "([C)V"⟩ : MethodName) jdk_42_method_3_code 2 none :: ws) ({ frames := 3, cells := 1, slots := 15, locals := 52 } : Room)) (fun ar_ U => ar_ = #[(.ref a), (.ref ca)] ∧ Z.Warmed39 U.vm ∧ U.heap = h0) (fun _ _ _ _ _ => True) (fun _ U oc_ U' => ∃ v L, oc_ = .returned v ∧ Q_rmIni1 Z a ca cst cs kc n h0 n0 v U'.heap L ∧ FrameEnd U oc_ U' L ({ frames := 3, cells := 1, slots := 15, locals := 52 } : Room).cells ({ frames := 3, cells := 1, slots := 15, locals := 52 } : Room).slots) := by
  refine MetFree.of_bodySF (plainFor_of_name pn_java_lang_String) hisR ?_
  intro p e s m args below meth c s₁ Bd hml0 hP hK
  obtain ⟨rfl, hZ, hh⟩ := hP
  have hx := Bd.exec
  have hby := Bd.bytes
  have hml : c.maxLocals = 2 := hml0
  have hown : s.vm.findClass "java/lang/String" = some m.cls := findClass_of_methodNamed Bd.named
  have hnm := (name_of_methodNamed Bd.named Bd.method).1
  have X0 : Stand p l e ({ frames := 3, cells := 1, slots := 15, locals := 52 } : Room) s m #[(.ref a), (.ref ca)] below meth c s₁ [] 0 0 := Stand.of_body Bd
  have e0 : s₁.heap = h0 := by rw [← hh, Bd.state]; rfl
  have N0 := Fr.nil n0
  have pre0 : ∀ t_, Steps p.tables e below (s₁.setTop (mkF m 0 #[.val (.ref a), .val (.ref ca)] [])) t_ → Steps p.tables e below (s₁.setTop (entryFrame m #[(.ref a), (.ref ca)] 2)) t_ := fun t_ k_ => castTop (ef_rmIni1 m a ca) k_
  have lt_I2 : @LT.lt Nat _ a h0.size := I2.lt
  have lt_I3 : @LT.lt Nat _ a h0.size := I3.lt
  have lt_I4 : @LT.lt Nat _ a h0.size := I4.lt
  have lt_I5 : @LT.lt Nat _ ca h0.size := I5.lt
  obtain ⟨cl1, Ar1, -, S1, M1, -, -⟩ := id I5
  have Zc2 : n0 ≤ h0.size := by omega
  obtain ⟨_, _, ⟨T3, L3, k3, n3⟩, -, X3, ⟨Lc3, hQ3, l3, y3, z3⟩, st3⟩ := X0.specialBack hx (y := (⟨"java/lang/String", "<init>", "([CIILjava/lang/Void;)V"⟩ : MethodName)) rfl hown (mvT hZ (hw _ (List.mem_of_getElem? (i := 18) rfl))) (mvT hZ (hw _ (List.mem_of_getElem? (i := 19) rfl))) (mvT hZ (hw _ (List.mem_of_getElem? (i := 21) rfl))) (by decide) (backOf (W := 0) (rmIni4 l Z a0 hw [] a ca cst cs kc n h0 n0 Zc2 I1 OX (hcst : ¬ (cst = (0 : Int32))) I2 I3 I4 I5 (hn : cs.length = n) (hb : n ≤ 15) (hpos : 0 < n) (hlat : own_lat cs) (ga : n0 ≤ a) (hac : @Ne Nat a ca)) hZ (hw _ (List.mem_of_getElem? (i := 21) rfl)) (hw _ (List.mem_of_getElem? (i := 14) rfl)) (by decide) (by decide)) (g := (mkF m 6 #[.val (.ref a), .val (.ref ca)] [.null, (.int (Int32.ofNat n)), (.int (0 : Int32)), (.ref ca), (.ref a)])) rfl (by rw [hml]; rfl) (Steps.refl _) (a := a) (argsL := [(.ref ca), (.int (0 : Int32)), (.int (Int32.ofNat n)), .null]) (rest := []) (lenOf pd___CIILjava_lang_Void__V rfl) rfl (by show 2 * 0 + _ ≤ _; exact Nat.le_of_eq rfl) (Jvm.hb hby d_jdk_42_method_3_6) (fun _ _ => ⟨rfl, e0, (by decide : 0 + 1 ≤ _), (by decide : 0 + 15 ≤ _)⟩)
  dsimp only [Pt.U, Pt.locs, Pt.cells, Pt.slots] at X3 l3 y3 z3 st3 hQ3
  subst l3 y3 z3
  obtain ⟨b_3, kb_3, rfl, N3q, K3, Fq3_0, Fq3_1, Fq3_2, Fq3_3, P3_0⟩ := hQ3
  have N3 := Fr.app N0 N3q
  obtain ⟨h3, e3⟩ : ∃ z, T3.heap = z := ⟨_, rfl⟩
  rw [e3] at K3 Fq3_0 Fq3_1 Fq3_2 Fq3_3
  have z4 : h0.size ≤ h3.size := K3.1
  have lt3_0 : @LT.lt Nat _ a h3.size := Fq3_0.lt
  have lt3_3 : @LT.lt Nat _ b_3 h3.size := Fq3_3.lt
  have s5 : ∀ t_, Steps p.tables e below (T3.setTop (mkF m 9 #[.val (.ref a), .val (.ref ca)] [])) t_ → Steps p.tables e below (s₁.setTop (entryFrame m #[(.ref a), (.ref ca)] 2)) t_ := fun t_ k_ => pre0 t_ (by
    show Steps p.tables e below (s₁.setTop (mkF m 0 #[.val (.ref a), .val (.ref ca)] [])) t_
    refine XS.aloadN X0.here hx rfl (Jvm.hb hby d_jdk_42_method_3_0) rfl rfl ?_
    refine XS.aloadN X0.here hx rfl (Jvm.hb hby d_jdk_42_method_3_1) rfl rfl ?_
    refine XS.iconst X0.here hx rfl (Jvm.hb hby d_jdk_42_method_3_2) ?_
    refine XS.aloadN X0.here hx rfl (Jvm.hb hby d_jdk_42_method_3_3) rfl rfl ?_
    refine X0.arraylength hx (by rw [e0]; exact Ar1.1) (State.isArrayOf_alike hZ.alike Ar1.2.1) (g := (mkF m 4 #[.val (.ref a), .val (.ref ca)] [(.ref ca), (.int (0 : Int32)), (.ref ca), (.ref a)])) rfl rfl (Jvm.hb hby d_jdk_42_method_3_4) _ ?_
    rw [len_of S1 M1]
    show Steps p.tables e below (s₁.setTop (mkF m 5 #[.val (.ref a), .val (.ref ca)] [(.int (Int32.ofNat n)), (.int (0 : Int32)), (.ref ca), (.ref a)])) _
    refine XS.aconstNull X0.here hx rfl (Jvm.hb hby d_jdk_42_method_3_5) ?_
    refine st3.trans ?_
    show Steps p.tables e below (T3.setTop (mkF m 9 #[.val (.ref a), .val (.ref ca)] [])) _
    show Steps p.tables e below (T3.setTop (mkF m 9 #[.val (.ref a), .val (.ref ca)] [])) t_
    exact k_)
  obtain ⟨fs, hr, hrun, hended, hW, hsame⟩ := X3.leave (v := none) (fun _ => rfl)
  refine ⟨_, _, s5 _ ?_, hrun, hended, _, _, rfl, ?_, ⟨_, rfl⟩, hW, hsame.mono (by decide) (by decide)⟩
  · show Steps p.tables e below (T3.setTop (mkF m 9 #[.val (.ref a), .val (.ref ca)] [])) _
    exact X3.returnOut hx Bd.returns (Jvm.hb hby d_jdk_42_method_3_9) hr
  · show Q_rmIni1 Z _ _ _ _ _ _ h0 n0 _ T3.heap _
    rw [e3]
    exact ⟨b_3, kb_3, rfl, N3, ((Keep.refl h0 [a]).trans K3 (allS (Or.inl (by simp)) all0)), Fq3_0, Fq3_1, Fq3_2, Fq3_3, by omega⟩
theorem d_jdk_42_method_152_0 : decode jdk_42_method_152_code 0 = .ok (.getstatic 38, 3) := by decide +kernel
theorem d_jdk_42_method_152_3 : decode jdk_42_method_152_code 3 = .ok (.ifCond .eq 10, 3) := by decide +kernel
theorem d_jdk_42_method_152_6 : decode jdk_42_method_152_code 6 = .ok (.aload_n 0, 1) := by decide +kernel
theorem d_jdk_42_method_152_7 : decode jdk_42_method_152_code 7 = .ok (.getfield 15, 3) := by decide +kernel
theorem d_jdk_42_method_152_10 : decode jdk_42_method_152_code 10 = .ok (.goto 4, 3) := by decide +kernel
theorem d_jdk_42_method_152_14 : decode jdk_42_method_152_code 14 = .ok (.ireturn, 1) := by decide +kernel
theorem ef_rmCdr (m : MethodId) (x0 : Addr) : entryFrame m #[(.ref x0)] 1 = mkF m 0 #[.val (.ref x0)] [] := by first | (simp [entryFrame, mkF, argsToLocals, Value.category]; done) | rfl
def Q_rmCdr (Z : State) (a : Addr) (cst : Int32) (cs : List Int32) (h0 : Heap) (n0 : Nat) (v : Option Value) (h : Heap) (L : List Loc) : Prop := (v = some (.int (own_cod cs))) ∧ (Fr n0 L) ∧ (h = h0)
set_option maxRecDepth 65536 in
set_option maxHeartbeats 40000000 in
theorem rmCdr (l : Launch) (Z : State) (a0 : Array Value) (hw : ∀ d ∈ tables_1, d.before a0 Z = true) (ws : List Jvm.Cond) (a : Addr) (cst : Int32) (cs : List Int32) (h0 : Heap) (n0 : Nat) (Z0 : n0 ≤ h0.size) (I1 : Sta Z Z.heap "java/lang/String" "COMPACT_STRINGS" "Z" (.int cst)) (OX : Old Z n0 h0) (hcst : ¬ (cst = (0 : Int32))) (I2 : Fld Z h0 a "java/lang/String" "coder" "B" (.int (own_cod cs))) :
    MetFree l (⟨"java/lang/String", "coder", "()B"⟩ : MethodName) (head1 (Jvm.Cond.code (⟨"java/lang/String", "coder", "()B"⟩ : MethodName) jdk_42_method_152_code 1 (some .byte) :: ws) ({ frames := 0, cells := 0, slots := 0, locals := 0 } : Room)) (fun ar_ U => ar_ = #[(.ref a)] ∧ Z.Warmed39 U.vm ∧ U.heap = h0) (fun _ _ _ _ _ => True) (fun _ U oc_ U' => ∃ v L, oc_ = .returned v ∧ Q_rmCdr Z a cst cs h0 n0 v U'.heap L ∧ FrameEnd U oc_ U' L ({ frames := 0, cells := 0, slots := 0, locals := 0 } : Room).cells ({ frames := 0, cells := 0, slots := 0, locals := 0 } : Room).slots) := by
  refine MetFree.of_bodySF (plainFor_of_name pn_java_lang_String) hisR ?_
  intro p e s m args below meth c s₁ Bd hml0 hP hK
  obtain ⟨rfl, hZ, hh⟩ := hP
  have hx := Bd.exec
  have hby := Bd.bytes
  have hml : c.maxLocals = 1 := hml0
  have hown : s.vm.findClass "java/lang/String" = some m.cls := findClass_of_methodNamed Bd.named
  have hnm := (name_of_methodNamed Bd.named Bd.method).1
  have X0 : Stand p l e ({ frames := 0, cells := 0, slots := 0, locals := 0 } : Room) s m #[(.ref a)] below meth c s₁ [] 0 0 := Stand.of_body Bd
  have e0 : s₁.heap = h0 := by rw [← hh, Bd.state]; rfl
  have N0 := Fr.nil n0
  have pre0 : ∀ t_, Steps p.tables e below (s₁.setTop (mkF m 0 #[.val (.ref a)] [])) t_ → Steps p.tables e below (s₁.setTop (entryFrame m #[(.ref a)] 1)) t_ := fun t_ k_ => castTop (ef_rmCdr m a) k_
  have lt_I2 : @LT.lt Nat _ a h0.size := I2.lt
  obtain ⟨T1, X1, e1, st1⟩ := getS2 X0 hx hZ hown (host := "") (Or.inl (hw _ (List.mem_of_getElem? (i := 25) rfl))) Via.refl e0 (I1.ext OX.2) (g := (mkF m 0 #[.val (.ref a)] [])) rfl (Jvm.hb hby d_jdk_42_method_152_0)
  obtain ⟨T2, X2, e2, st2⟩ := getF X1 hx hZ hown (host := "") (Or.inl (hw _ (List.mem_of_getElem? (i := 37) rfl))) Via.refl e1 I2 (g := (mkF m 7 #[.val (.ref a)] [(.ref a)])) rfl rfl (Jvm.hb hby d_jdk_42_method_152_7)
  have s3 : ∀ t_, Steps p.tables e below (T2.setTop (mkF m 14 #[.val (.ref a)] [(.int (own_cod cs))])) t_ → Steps p.tables e below (s₁.setTop (entryFrame m #[(.ref a)] 1)) t_ := fun t_ k_ => pre0 t_ (by
    show Steps p.tables e below (s₁.setTop (mkF m 0 #[.val (.ref a)] [])) t_
    refine st1 _ ?_
    show Steps p.tables e below (T1.setTop (mkF m 3 #[.val (.ref a)] [(.int cst)])) _
    refine XS.ifNo X1.here hx rfl (Jvm.hb hby d_jdk_42_method_152_3) rfl ((if0 _ _).trans (feq hcst).1) ?_
    show Steps p.tables e below (T1.setTop (mkF m 6 #[.val (.ref a)] [])) _
    refine XS.aloadN X1.here hx rfl (Jvm.hb hby d_jdk_42_method_152_6) rfl rfl ?_
    refine st2 _ ?_
    show Steps p.tables e below (T2.setTop (mkF m 10 #[.val (.ref a)] [(.int (own_cod cs))])) _
    refine XS.goto X2.here hx rfl (pc0 := 10) (pc' := 14) rfl (Jvm.hb hby d_jdk_42_method_152_10) (by decide) (by decide) ?_
    show Steps p.tables e below (T2.setTop (mkF m 14 #[.val (.ref a)] [(.int (own_cod cs))])) t_
    exact k_)
  obtain ⟨fs, hr, hrun, hended, hW, hsame⟩ := X2.leave (v := some (.int (nar .byte (own_cod cs)))) (fun h => by rw [Bd.returns] at h; cases h)
  refine ⟨_, _, s3 _ ?_, hrun, hended, _, _, rfl, ?_, ⟨_, rfl⟩, hW, hsame.mono (by decide) (by decide)⟩
  · show Steps p.tables e below (T2.setTop (mkF m 14 #[.val (.ref a)] [(.int (own_cod cs))])) _
    exact retN X2 hx (t := .byte) Bd.returns (by simp) (Jvm.hb hby d_jdk_42_method_152_14) hr
  · show Q_rmCdr Z _ _ _ h0 n0 _ T2.heap _
    rw [e2]
    exact ⟨(by rw [own_cnarb]), N0, rfl⟩
theorem d_jdk_42_method_54_0 : decode jdk_42_method_54_code 0 = .ok (.aload_n 0, 1) := by decide +kernel
theorem d_jdk_42_method_54_1 : decode jdk_42_method_54_code 1 = .ok (.getfield 9, 3) := by decide +kernel
theorem d_jdk_42_method_54_4 : decode jdk_42_method_54_code 4 = .ok (.arraylength, 1) := by decide +kernel
theorem d_jdk_42_method_54_5 : decode jdk_42_method_54_code 5 = .ok (.aload_n 0, 1) := by decide +kernel
theorem pd___B : parseMethodDescriptor "()B" = some ⟨[], some .byte⟩ := by decide +kernel
theorem d_jdk_42_method_54_6 : decode jdk_42_method_54_code 6 = .ok (.invokevirtual 335, 3) := by decide +kernel
theorem d_jdk_42_method_54_9 : decode jdk_42_method_54_code 9 = .ok (.ishr, 1) := by decide +kernel
theorem d_jdk_42_method_54_10 : decode jdk_42_method_54_code 10 = .ok (.ireturn, 1) := by decide +kernel
theorem ef_rmLen (m : MethodId) (x0 : Addr) : entryFrame m #[(.ref x0)] 1 = mkF m 0 #[.val (.ref x0)] [] := by first | (simp [entryFrame, mkF, argsToLocals, Value.category]; done) | rfl
def Q_rmLen (Z : State) (a : Addr) (cst : Int32) (b : Addr) (kb : ClassId) (cs : List Int32) (h0 : Heap) (n0 : Nat) (v : Option Value) (h : Heap) (L : List Loc) : Prop := (v = some (.int (Int32.ofNat cs.length))) ∧ (Fr n0 L) ∧ (h = h0)
set_option maxRecDepth 65536 in
set_option maxHeartbeats 40000000 in
theorem rmLen (l : Launch) (Z : State) (a0 : Array Value) (hw : ∀ d ∈ tables_1, d.before a0 Z = true) (ws : List Jvm.Cond) (a : Addr) (cst : Int32) (b : Addr) (kb : ClassId) (cs : List Int32) (h0 : Heap) (n0 : Nat) (Z0 : n0 ≤ h0.size) (I1 : Sta Z Z.heap "java/lang/String" "COMPACT_STRINGS" "Z" (.int cst)) (OX : Old Z n0 h0) (hcst : ¬ (cst = (0 : Int32))) (I2 : Exa Z h0 a "java/lang/String") (I3 : Fld Z h0 a "java/lang/String" "value" "[B" (.ref b)) (I4 : Fld Z h0 a "java/lang/String" "coder" "B" (.int (own_cod cs))) (I5 : Arv Z h0 b kb .byte (Int32.ofNat (own_enl cs)) (own_enc cs) (.int (0 : Int32))) (hb : cs.length ≤ 16) :
    MetFree l (⟨"java/lang/String", "length", "()I"⟩ : MethodName) (head1 (Jvm.Cond.code (⟨"java/lang/String", "length", "()I"⟩ : MethodName) jdk_42_method_54_code 1 (some .int) :: ws) ({ frames := 1, cells := 0, slots := 0, locals := 13 } : Room)) (fun ar_ U => ar_ = #[(.ref a)] ∧ Z.Warmed39 U.vm ∧ U.heap = h0) (fun _ _ _ _ _ => True) (fun _ U oc_ U' => ∃ v L, oc_ = .returned v ∧ Q_rmLen Z a cst b kb cs h0 n0 v U'.heap L ∧ FrameEnd U oc_ U' L ({ frames := 1, cells := 0, slots := 0, locals := 13 } : Room).cells ({ frames := 1, cells := 0, slots := 0, locals := 13 } : Room).slots) := by
  refine MetFree.of_bodySF (plainFor_of_name pn_java_lang_String) hisR ?_
  intro p e s m args below meth c s₁ Bd hml0 hP hK
  obtain ⟨rfl, hZ, hh⟩ := hP
  have hx := Bd.exec
  have hby := Bd.bytes
  have hml : c.maxLocals = 1 := hml0
  have hown : s.vm.findClass "java/lang/String" = some m.cls := findClass_of_methodNamed Bd.named
  have hnm := (name_of_methodNamed Bd.named Bd.method).1
  have X0 : Stand p l e ({ frames := 1, cells := 0, slots := 0, locals := 13 } : Room) s m #[(.ref a)] below meth c s₁ [] 0 0 := Stand.of_body Bd
  have e0 : s₁.heap = h0 := by rw [← hh, Bd.state]; rfl
  have N0 := Fr.nil n0
  have pre0 : ∀ t_, Steps p.tables e below (s₁.setTop (mkF m 0 #[.val (.ref a)] [])) t_ → Steps p.tables e below (s₁.setTop (entryFrame m #[(.ref a)] 1)) t_ := fun t_ k_ => castTop (ef_rmLen m a) k_
  have lt_I2 : @LT.lt Nat _ a h0.size := I2.lt
  have lt_I3 : @LT.lt Nat _ a h0.size := I3.lt
  have lt_I4 : @LT.lt Nat _ a h0.size := I4.lt
  have lt_I5 : @LT.lt Nat _ b h0.size := I5.lt
  obtain ⟨T1, X1, e1, st1⟩ := getF X0 hx hZ hown (host := "") (Or.inl (hw _ (List.mem_of_getElem? (i := 39) rfl))) Via.refl e0 I3 (g := (mkF m 1 #[.val (.ref a)] [(.ref a)])) rfl rfl (Jvm.hb hby d_jdk_42_method_54_1)
  obtain ⟨cl2, Ar2, -, S2, M2, -, -⟩ := id I5
  have Zc3 : n0 ≤ h0.size := by omega
  obtain ⟨cq4, kq4, q4a, q4b, q4c⟩ := isOf hZ e1 I2
  obtain ⟨_, _, ⟨T4, L4, k4, n4⟩, -, X4, ⟨Lc4, hQ4, l4, y4, z4⟩, st4⟩ := X1.virtualBack hx (y := (⟨"java/lang/String", "coder", "()B"⟩ : MethodName)) (z := (⟨"java/lang/String", "coder", "()B"⟩ : MethodName)) hown (mvT hZ (hw _ (List.mem_of_getElem? (i := 68) rfl))) (mvT hZ (hw _ (List.mem_of_getElem? (i := 69) rfl))) (notFace_of_selects (args := #[]) (mvT hZ (hw _ (List.mem_of_getElem? (i := 71) rfl)))) (mvT hZ (hw _ (List.mem_of_getElem? (i := 71) rfl))) (mvT hZ (hw _ (List.mem_of_getElem? (i := 70) rfl))) (by decide) (backOf (W := 1) (rmCdr l Z a0 hw [] a cst cs h0 n0 Zc3 I1 OX (hcst : ¬ (cst = (0 : Int32))) I4) hZ (hw _ (List.mem_of_getElem? (i := 72) rfl)) (hw _ (List.mem_of_getElem? (i := 14) rfl)) (by decide) (by decide)) q4a q4c (g := (mkF m 6 #[.val (.ref a)] [(.ref a), (.int (Int32.ofNat (own_enl cs)))])) rfl (by rw [hml]; rfl) (Steps.refl _) (argsL := []) (rest := [(.int (Int32.ofNat (own_enl cs)))]) (lenOf pd___B rfl) rfl (by show 2 * 0 + _ ≤ _; exact Nat.le_of_eq rfl) (Jvm.hb hby d_jdk_42_method_54_6) (fun _ _ => ⟨rfl, e1, (by decide : 0 + 0 ≤ _), (by decide : 0 + 0 ≤ _)⟩)
  dsimp only [Pt.U, Pt.locs, Pt.cells, Pt.slots] at X4 l4 y4 z4 st4 hQ4
  subst l4 y4 z4
  obtain ⟨rfl, N4q, e4⟩ := hQ4
  have N4 := Fr.app N0 N4q
  have s5 : ∀ t_, Steps p.tables e below (T4.setTop (mkF m 10 #[.val (.ref a)] [(.int ((Int32.ofNat (own_enl cs)) >>> ((own_cod cs) &&& 31)))])) t_ → Steps p.tables e below (s₁.setTop (entryFrame m #[(.ref a)] 1)) t_ := fun t_ k_ => pre0 t_ (by
    show Steps p.tables e below (s₁.setTop (mkF m 0 #[.val (.ref a)] [])) t_
    refine XS.aloadN X0.here hx rfl (Jvm.hb hby d_jdk_42_method_54_0) rfl rfl ?_
    refine st1 _ ?_
    show Steps p.tables e below (T1.setTop (mkF m 4 #[.val (.ref a)] [(.ref b)])) _
    refine X1.arraylength hx (by rw [e1]; exact Ar2.1) (State.isArrayOf_alike hZ.alike Ar2.2.1) (g := (mkF m 4 #[.val (.ref a)] [(.ref b)])) rfl rfl (Jvm.hb hby d_jdk_42_method_54_4) _ ?_
    rw [len_of S2 M2]
    show Steps p.tables e below (T1.setTop (mkF m 5 #[.val (.ref a)] [(.int (Int32.ofNat (own_enl cs)))])) _
    refine XS.aloadN X1.here hx rfl (Jvm.hb hby d_jdk_42_method_54_5) rfl rfl ?_
    refine st4.trans ?_
    show Steps p.tables e below (T4.setTop (mkF m 9 #[.val (.ref a)] [(.int (own_cod cs)), (.int (Int32.ofNat (own_enl cs)))])) _
    refine XS.ishr X4.here hx rfl (Jvm.hb hby d_jdk_42_method_54_9) rfl ?_
    show Steps p.tables e below (T4.setTop (mkF m 10 #[.val (.ref a)] [(.int ((Int32.ofNat (own_enl cs)) >>> ((own_cod cs) &&& 31)))])) t_
    exact k_)
  obtain ⟨fs, hr, hrun, hended, hW, hsame⟩ := X4.leave (v := some (.int ((Int32.ofNat (own_enl cs)) >>> ((own_cod cs) &&& 31)))) (fun h => by rw [Bd.returns] at h; cases h)
  refine ⟨_, _, s5 _ ?_, hrun, hended, _, _, rfl, ?_, ⟨_, rfl⟩, hW, hsame.mono (by decide) (by decide)⟩
  · show Steps p.tables e below (T4.setTop (mkF m 10 #[.val (.ref a)] [(.int ((Int32.ofNat (own_enl cs)) >>> ((own_cod cs) &&& 31)))])) _
    exact retI X4 hx Bd.returns (Jvm.hb hby d_jdk_42_method_54_10) hr
  · show Q_rmLen Z _ _ _ _ _ h0 n0 _ T4.heap _
    rw [e4]
    exact ⟨(by rw [own_lenq cs (by omega)]), N4, rfl⟩
theorem d_jdk_42_method_154_0 : decode jdk_42_method_154_code 0 = .ok (.getstatic 38, 3) := by decide +kernel
theorem d_jdk_42_method_154_3 : decode jdk_42_method_154_code 3 = .ok (.ifCond .eq 14, 3) := by decide +kernel
theorem d_jdk_42_method_154_6 : decode jdk_42_method_154_code 6 = .ok (.aload_n 0, 1) := by decide +kernel
theorem d_jdk_42_method_154_7 : decode jdk_42_method_154_code 7 = .ok (.getfield 15, 3) := by decide +kernel
theorem d_jdk_42_method_154_10 : decode jdk_42_method_154_code 10 = .ok (.ifCond .ne 7, 3) := by decide +kernel
theorem d_jdk_42_method_154_13 : decode jdk_42_method_154_code 13 = .ok (.iconst 1, 1) := by decide +kernel
theorem d_jdk_42_method_154_14 : decode jdk_42_method_154_code 14 = .ok (.goto 4, 3) := by decide +kernel
theorem d_jdk_42_method_154_18 : decode jdk_42_method_154_code 18 = .ok (.ireturn, 1) := by decide +kernel
theorem d_jdk_42_method_154_17 : decode jdk_42_method_154_code 17 = .ok (.iconst 0, 1) := by decide +kernel
theorem ef_rmIsL (m : MethodId) (x0 : Addr) : entryFrame m #[(.ref x0)] 1 = mkF m 0 #[.val (.ref x0)] [] := by first | (simp [entryFrame, mkF, argsToLocals, Value.category]; done) | rfl
def Q_rmIsL (Z : State) (a : Addr) (cst : Int32) (cs : List Int32) (h0 : Heap) (n0 : Nat) (v : Option Value) (h : Heap) (L : List Loc) : Prop := (v = some (.int (if own_cod cs = (0 : Int32) then (1 : Int32) else (0 : Int32)))) ∧ (Fr n0 L) ∧ (h = h0)
set_option maxRecDepth 65536 in
set_option maxHeartbeats 40000000 in
theorem rmIsL (l : Launch) (Z : State) (a0 : Array Value) (hw : ∀ d ∈ tables_1, d.before a0 Z = true) (ws : List Jvm.Cond) (a : Addr) (cst : Int32) (cs : List Int32) (h0 : Heap) (n0 : Nat) (Z0 : n0 ≤ h0.size) (I1 : Sta Z Z.heap "java/lang/String" "COMPACT_STRINGS" "Z" (.int cst)) (OX : Old Z n0 h0) (hcst : ¬ (cst = (0 : Int32))) (I2 : Fld Z h0 a "java/lang/String" "coder" "B" (.int (own_cod cs))) :
    MetFree l (⟨"java/lang/String", "isLatin1", "()Z"⟩ : MethodName) (head1 (Jvm.Cond.code (⟨"java/lang/String", "isLatin1", "()Z"⟩ : MethodName) jdk_42_method_154_code 1 (some .boolean) :: ws) ({ frames := 0, cells := 0, slots := 0, locals := 0 } : Room)) (fun ar_ U => ar_ = #[(.ref a)] ∧ Z.Warmed39 U.vm ∧ U.heap = h0) (fun _ _ _ _ _ => True) (fun _ U oc_ U' => ∃ v L, oc_ = .returned v ∧ Q_rmIsL Z a cst cs h0 n0 v U'.heap L ∧ FrameEnd U oc_ U' L ({ frames := 0, cells := 0, slots := 0, locals := 0 } : Room).cells ({ frames := 0, cells := 0, slots := 0, locals := 0 } : Room).slots) := by
  refine MetFree.of_bodySF (plainFor_of_name pn_java_lang_String) hisR ?_
  intro p e s m args below meth c s₁ Bd hml0 hP hK
  obtain ⟨rfl, hZ, hh⟩ := hP
  have hx := Bd.exec
  have hby := Bd.bytes
  have hml : c.maxLocals = 1 := hml0
  have hown : s.vm.findClass "java/lang/String" = some m.cls := findClass_of_methodNamed Bd.named
  have hnm := (name_of_methodNamed Bd.named Bd.method).1
  have X0 : Stand p l e ({ frames := 0, cells := 0, slots := 0, locals := 0 } : Room) s m #[(.ref a)] below meth c s₁ [] 0 0 := Stand.of_body Bd
  have e0 : s₁.heap = h0 := by rw [← hh, Bd.state]; rfl
  have N0 := Fr.nil n0
  have pre0 : ∀ t_, Steps p.tables e below (s₁.setTop (mkF m 0 #[.val (.ref a)] [])) t_ → Steps p.tables e below (s₁.setTop (entryFrame m #[(.ref a)] 1)) t_ := fun t_ k_ => castTop (ef_rmIsL m a) k_
  have lt_I2 : @LT.lt Nat _ a h0.size := I2.lt
  obtain ⟨T1, X1, e1, st1⟩ := getS2 X0 hx hZ hown (host := "") (Or.inl (hw _ (List.mem_of_getElem? (i := 25) rfl))) Via.refl e0 (I1.ext OX.2) (g := (mkF m 0 #[.val (.ref a)] [])) rfl (Jvm.hb hby d_jdk_42_method_154_0)
  obtain ⟨T2, X2, e2, st2⟩ := getF X1 hx hZ hown (host := "") (Or.inl (hw _ (List.mem_of_getElem? (i := 37) rfl))) Via.refl e1 I2 (g := (mkF m 7 #[.val (.ref a)] [(.ref a)])) rfl rfl (Jvm.hb hby d_jdk_42_method_154_7)
  have s3 : ∀ t_, Steps p.tables e below (T2.setTop (mkF m 10 #[.val (.ref a)] [(.int (own_cod cs))])) t_ → Steps p.tables e below (s₁.setTop (entryFrame m #[(.ref a)] 1)) t_ := fun t_ k_ => pre0 t_ (by
    show Steps p.tables e below (s₁.setTop (mkF m 0 #[.val (.ref a)] [])) t_
    refine st1 _ ?_
    show Steps p.tables e below (T1.setTop (mkF m 3 #[.val (.ref a)] [(.int cst)])) _
    refine XS.ifNo X1.here hx rfl (Jvm.hb hby d_jdk_42_method_154_3) rfl ((if0 _ _).trans (feq hcst).1) ?_
    show Steps p.tables e below (T1.setTop (mkF m 6 #[.val (.ref a)] [])) _
    refine XS.aloadN X1.here hx rfl (Jvm.hb hby d_jdk_42_method_154_6) rfl rfl ?_
    refine st2 _ ?_
    show Steps p.tables e below (T2.setTop (mkF m 10 #[.val (.ref a)] [(.int (own_cod cs))])) _
    show Steps p.tables e below (T2.setTop (mkF m 10 #[.val (.ref a)] [(.int (own_cod cs))])) t_
    exact k_)
  by_cases h4 : (own_cod cs) = (0 : Int32)
  · have s5 : ∀ t_, Steps p.tables e below (T2.setTop (mkF m 18 #[.val (.ref a)] [(.int (1 : Int32))])) t_ → Steps p.tables e below (s₁.setTop (entryFrame m #[(.ref a)] 1)) t_ := fun t_ k_ => s3 t_ (by
      show Steps p.tables e below (T2.setTop (mkF m 10 #[.val (.ref a)] [(.int (own_cod cs))])) t_
      refine XS.ifNo X2.here hx rfl (Jvm.hb hby d_jdk_42_method_154_10) rfl ((if0 _ _).trans (teq h4).2) ?_
      show Steps p.tables e below (T2.setTop (mkF m 13 #[.val (.ref a)] [])) _
      refine XS.iconst X2.here hx rfl (Jvm.hb hby d_jdk_42_method_154_13) ?_
      refine XS.goto X2.here hx rfl (pc0 := 14) (pc' := 18) rfl (Jvm.hb hby d_jdk_42_method_154_14) (by decide) (by decide) ?_
      show Steps p.tables e below (T2.setTop (mkF m 18 #[.val (.ref a)] [(.int (1 : Int32))])) t_
      exact k_)
    obtain ⟨fs, hr, hrun, hended, hW, hsame⟩ := X2.leave (v := some (.int (1 : Int32))) (fun h => by rw [Bd.returns] at h; cases h)
    refine ⟨_, _, s5 _ ?_, hrun, hended, _, _, rfl, ?_, ⟨_, rfl⟩, hW, hsame.mono (by decide) (by decide)⟩
    · show Steps p.tables e below (T2.setTop (mkF m 18 #[.val (.ref a)] [(.int (1 : Int32))])) _
      exact retN X2 hx (t := .boolean) Bd.returns (by simp) (Jvm.hb hby d_jdk_42_method_154_18) hr
    · show Q_rmIsL Z _ _ _ h0 n0 _ T2.heap _
      rw [e2]
      exact ⟨(by first | rfl | (simp only [if_pos h4]; done) | (simp only [if_pos h4]; rfl) | (simp only [if_pos h4, own_narb]; done)), N0, rfl⟩
  · have s6 : ∀ t_, Steps p.tables e below (T2.setTop (mkF m 18 #[.val (.ref a)] [(.int (0 : Int32))])) t_ → Steps p.tables e below (s₁.setTop (entryFrame m #[(.ref a)] 1)) t_ := fun t_ k_ => s3 t_ (by
      show Steps p.tables e below (T2.setTop (mkF m 10 #[.val (.ref a)] [(.int (own_cod cs))])) t_
      refine XS.ifYes X2.here hx rfl (pc0 := 10) (pc' := 17) rfl (Jvm.hb hby d_jdk_42_method_154_10) rfl ((if0 _ _).trans (feq h4).2) (by decide) (by decide) ?_
      show Steps p.tables e below (T2.setTop (mkF m 17 #[.val (.ref a)] [])) _
      refine XS.iconst X2.here hx rfl (Jvm.hb hby d_jdk_42_method_154_17) ?_
      show Steps p.tables e below (T2.setTop (mkF m 18 #[.val (.ref a)] [(.int (0 : Int32))])) t_
      exact k_)
    obtain ⟨fs, hr, hrun, hended, hW, hsame⟩ := X2.leave (v := some (.int (0 : Int32))) (fun h => by rw [Bd.returns] at h; cases h)
    refine ⟨_, _, s6 _ ?_, hrun, hended, _, _, rfl, ?_, ⟨_, rfl⟩, hW, hsame.mono (by decide) (by decide)⟩
    · show Steps p.tables e below (T2.setTop (mkF m 18 #[.val (.ref a)] [(.int (0 : Int32))])) _
      exact retN X2 hx (t := .boolean) Bd.returns (by simp) (Jvm.hb hby d_jdk_42_method_154_18) hr
    · show Q_rmIsL Z _ _ _ h0 n0 _ T2.heap _
      rw [e2]
      exact ⟨(by first | rfl | (simp only [if_neg h4]; done) | (simp only [if_neg h4]; rfl) | (simp only [if_neg h4, own_narb]; done)), N0, rfl⟩
theorem pn_java_lang_StringLatin1 : plainName "java/lang/StringLatin1" = true := by first | (simp [plainName, overriddenIn]; done) | decide +kernel
theorem d_jdk_43_method_13_0 : decode jdk_43_method_13_code 0 = .ok (.aload_n 0, 1) := by decide +kernel
theorem d_jdk_43_method_13_1 : decode jdk_43_method_13_code 1 = .ok (.arraylength, 1) := by decide +kernel
theorem d_jdk_43_method_13_2 : decode jdk_43_method_13_code 2 = .ok (.aload_n 1, 1) := by decide +kernel
theorem d_jdk_43_method_13_3 : decode jdk_43_method_13_code 3 = .ok (.arraylength, 1) := by decide +kernel
theorem d_jdk_43_method_13_4 : decode jdk_43_method_13_code 4 = .ok (.if_icmp .ne 30, 3) := by decide +kernel
theorem d_jdk_43_method_13_7 : decode jdk_43_method_13_code 7 = .ok (.iconst 0, 1) := by decide +kernel
theorem d_jdk_43_method_13_8 : decode jdk_43_method_13_code 8 = .ok (.istore_n 2, 1) := by decide +kernel
theorem d_jdk_43_method_13_9 : decode jdk_43_method_13_code 9 = .ok (.iload_n 2, 1) := by decide +kernel
theorem d_jdk_43_method_13_10 : decode jdk_43_method_13_code 10 = .ok (.aload_n 0, 1) := by decide +kernel
theorem d_jdk_43_method_13_11 : decode jdk_43_method_13_code 11 = .ok (.arraylength, 1) := by decide +kernel
theorem d_jdk_43_method_13_12 : decode jdk_43_method_13_code 12 = .ok (.if_icmp .ge 20, 3) := by decide +kernel
theorem d_jdk_43_method_13_15 : decode jdk_43_method_13_code 15 = .ok (.aload_n 0, 1) := by decide +kernel
theorem d_jdk_43_method_13_16 : decode jdk_43_method_13_code 16 = .ok (.iload_n 2, 1) := by decide +kernel
theorem d_jdk_43_method_13_17 : decode jdk_43_method_13_code 17 = .ok (.baload, 1) := by decide +kernel
theorem d_jdk_43_method_13_18 : decode jdk_43_method_13_code 18 = .ok (.aload_n 1, 1) := by decide +kernel
theorem d_jdk_43_method_13_19 : decode jdk_43_method_13_code 19 = .ok (.iload_n 2, 1) := by decide +kernel
theorem d_jdk_43_method_13_20 : decode jdk_43_method_13_code 20 = .ok (.baload, 1) := by decide +kernel
theorem d_jdk_43_method_13_21 : decode jdk_43_method_13_code 21 = .ok (.if_icmp .eq 5, 3) := by decide +kernel
theorem d_jdk_43_method_13_26 : decode jdk_43_method_13_code 26 = .ok (.iinc 2 1, 3) := by decide +kernel
theorem d_jdk_43_method_13_29 : decode jdk_43_method_13_code 29 = .ok (.goto (-20), 3) := by decide +kernel
theorem d_jdk_43_method_13_32 : decode jdk_43_method_13_code 32 = .ok (.iconst 1, 1) := by decide +kernel
theorem d_jdk_43_method_13_33 : decode jdk_43_method_13_code 33 = .ok (.ireturn, 1) := by decide +kernel
theorem d_jdk_43_method_13_24 : decode jdk_43_method_13_code 24 = .ok (.iconst 0, 1) := by decide +kernel
theorem d_jdk_43_method_13_25 : decode jdk_43_method_13_code 25 = .ok (.ireturn, 1) := by decide +kernel
theorem d_jdk_43_method_13_34 : decode jdk_43_method_13_code 34 = .ok (.iconst 0, 1) := by decide +kernel
theorem d_jdk_43_method_13_35 : decode jdk_43_method_13_code 35 = .ok (.ireturn, 1) := by decide +kernel
theorem ef_rmLEq (m : MethodId) (x0 : Addr) (x1 : Addr) : entryFrame m #[(.ref x0), (.ref x1)] 3 = mkF m 0 #[.val (.ref x0), .val (.ref x1), .unset] [] := by first | (simp [entryFrame, mkF, argsToLocals, Value.category]; done) | rfl
def Q_rmLEq (Z : State) (bx : Addr) (by_ : Addr) (kx : ClassId) (ky : ClassId) (xs : List Int32) (ys : List Int32) (h0 : Heap) (n0 : Nat) (v : Option Value) (h : Heap) (L : List Loc) : Prop := (v = some (.int (if xs = ys then (1 : Int32) else (0 : Int32)))) ∧ (Fr n0 L) ∧ (h = h0)
set_option maxRecDepth 65536 in
set_option maxHeartbeats 40000000 in
theorem rmLEq (l : Launch) (Z : State) (a0 : Array Value) (hw : ∀ d ∈ tables_1, d.before a0 Z = true) (ws : List Jvm.Cond) (bx : Addr) (by_ : Addr) (kx : ClassId) (ky : ClassId) (xs : List Int32) (ys : List Int32) (h0 : Heap) (n0 : Nat) (Z0 : n0 ≤ h0.size) (I1 : Arv Z h0 bx kx .byte (Int32.ofNat xs.length) (xs.map Value.int) (.int (0 : Int32))) (I2 : Arv Z h0 by_ ky .byte (Int32.ofNat ys.length) (ys.map Value.int) (.int (0 : Int32))) (hb1 : xs.length ≤ 8000) (hb2 : ys.length ≤ 8000) :
    MetFree l (⟨"java/lang/StringLatin1", "equals", "([B[B)Z"⟩ : MethodName) (head1 (Jvm.Cond.code (⟨"java/lang/StringLatin1", "equals", "([B[B)Z"⟩ : MethodName) jdk_43_method_13_code 3 (some .boolean) :: ws) ({ frames := 0, cells := 0, slots := 0, locals := 0 } : Room)) (fun ar_ U => ar_ = #[(.ref bx), (.ref by_)] ∧ Z.Warmed39 U.vm ∧ U.heap = h0) (fun _ _ _ _ _ => True) (fun _ U oc_ U' => ∃ v L, oc_ = .returned v ∧ Q_rmLEq Z bx by_ kx ky xs ys h0 n0 v U'.heap L ∧ FrameEnd U oc_ U' L ({ frames := 0, cells := 0, slots := 0, locals := 0 } : Room).cells ({ frames := 0, cells := 0, slots := 0, locals := 0 } : Room).slots) := by
  refine MetFree.of_bodySF (plainFor_of_name pn_java_lang_StringLatin1) hisR ?_
  intro p e s m args below meth c s₁ Bd hml0 hP hK
  obtain ⟨rfl, hZ, hh⟩ := hP
  have hx := Bd.exec
  have hby := Bd.bytes
  have hml : c.maxLocals = 3 := hml0
  have hown : s.vm.findClass "java/lang/StringLatin1" = some m.cls := findClass_of_methodNamed Bd.named
  have hnm := (name_of_methodNamed Bd.named Bd.method).1
  have X0 : Stand p l e ({ frames := 0, cells := 0, slots := 0, locals := 0 } : Room) s m #[(.ref bx), (.ref by_)] below meth c s₁ [] 0 0 := Stand.of_body Bd
  have e0 : s₁.heap = h0 := by rw [← hh, Bd.state]; rfl
  have N0 := Fr.nil n0
  have pre0 : ∀ t_, Steps p.tables e below (s₁.setTop (mkF m 0 #[.val (.ref bx), .val (.ref by_), .unset] [])) t_ → Steps p.tables e below (s₁.setTop (entryFrame m #[(.ref bx), (.ref by_)] 3)) t_ := fun t_ k_ => castTop (ef_rmLEq m bx by_) k_
  have lt_I1 : @LT.lt Nat _ bx h0.size := I1.lt
  have lt_I2 : @LT.lt Nat _ by_ h0.size := I2.lt
  obtain ⟨cl1, Ar1, -, S1, M1, -, -⟩ := id I1
  obtain ⟨cl2, Ar2, -, S2, M2, -, -⟩ := id I2
  have s3 : ∀ t_, Steps p.tables e below (s₁.setTop (mkF m 4 #[.val (.ref bx), .val (.ref by_), .unset] [(.int (Int32.ofNat ys.length)), (.int (Int32.ofNat xs.length))])) t_ → Steps p.tables e below (s₁.setTop (entryFrame m #[(.ref bx), (.ref by_)] 3)) t_ := fun t_ k_ => pre0 t_ (by
    show Steps p.tables e below (s₁.setTop (mkF m 0 #[.val (.ref bx), .val (.ref by_), .unset] [])) t_
    refine XS.aloadN X0.here hx rfl (Jvm.hb hby d_jdk_43_method_13_0) rfl rfl ?_
    refine X0.arraylength hx (by rw [e0]; exact Ar1.1) (State.isArrayOf_alike hZ.alike Ar1.2.1) (g := (mkF m 1 #[.val (.ref bx), .val (.ref by_), .unset] [(.ref bx)])) rfl rfl (Jvm.hb hby d_jdk_43_method_13_1) _ ?_
    rw [len_of S1 M1]
    show Steps p.tables e below (s₁.setTop (mkF m 2 #[.val (.ref bx), .val (.ref by_), .unset] [(.int (Int32.ofNat xs.length))])) _
    refine XS.aloadN X0.here hx rfl (Jvm.hb hby d_jdk_43_method_13_2) rfl rfl ?_
    refine X0.arraylength hx (by rw [e0]; exact Ar2.1) (State.isArrayOf_alike hZ.alike Ar2.2.1) (g := (mkF m 3 #[.val (.ref bx), .val (.ref by_), .unset] [(.ref by_), (.int (Int32.ofNat xs.length))])) rfl rfl (Jvm.hb hby d_jdk_43_method_13_3) _ ?_
    rw [len_of S2 M2]
    show Steps p.tables e below (s₁.setTop (mkF m 4 #[.val (.ref bx), .val (.ref by_), .unset] [(.int (Int32.ofNat ys.length)), (.int (Int32.ofNat xs.length))])) _
    show Steps p.tables e below (s₁.setTop (mkF m 4 #[.val (.ref bx), .val (.ref by_), .unset] [(.int (Int32.ofNat ys.length)), (.int (Int32.ofNat xs.length))])) t_
    exact k_)
  by_cases h4 : (Int32.ofNat xs.length) = (Int32.ofNat ys.length)
  · have s5 : ∀ t_, Steps p.tables e below (s₁.setTop (mkF m 9 #[.val (.ref bx), .val (.ref by_), .val (.int (0 : Int32))] [])) t_ → Steps p.tables e below (s₁.setTop (entryFrame m #[(.ref bx), (.ref by_)] 3)) t_ := fun t_ k_ => s3 t_ (by
      show Steps p.tables e below (s₁.setTop (mkF m 4 #[.val (.ref bx), .val (.ref by_), .unset] [(.int (Int32.ofNat ys.length)), (.int (Int32.ofNat xs.length))])) t_
      refine XS.icmpNo X0.here hx rfl (Jvm.hb hby d_jdk_43_method_13_4) rfl (teq h4).2 ?_
      show Steps p.tables e below (s₁.setTop (mkF m 7 #[.val (.ref bx), .val (.ref by_), .unset] [])) _
      refine XS.iconst X0.here hx rfl (Jvm.hb hby d_jdk_43_method_13_7) ?_
      refine XS.istoreN X0.here hx rfl (Jvm.hb hby d_jdk_43_method_13_8) rfl (l' := #[.val (.ref bx), .val (.ref by_), .val (.int (0 : Int32))]) rfl ?_
      show Steps p.tables e below (s₁.setTop (mkF m 9 #[.val (.ref bx), .val (.ref by_), .val (.int (0 : Int32))] [])) t_
      exact k_)
    have lp6 : ∀ (k_ : Nat) (j : Nat) (T_ : State) (lo_ : List Loc), j + k_ = xs.length → Stand p l e ({ frames := 0, cells := 0, slots := 0, locals := 0 } : Room) s m #[(.ref bx), (.ref by_)] below meth c T_ lo_ 0 0 → T_.heap = h0 → Fr n0 lo_ → (∀ i, i < j → xs.getD i 0 = ys.getD i 0) → (xs.length = ys.length) → ∃ (T' : State) (lo' : List Loc) (fe_ : JFrame), Stand p l e ({ frames := 0, cells := 0, slots := 0, locals := 0 } : Room) s m #[(.ref bx), (.ref by_)] below meth c T' lo' 0 0 ∧ T'.heap = h0 ∧ Fr n0 lo' ∧ ((fe_ = (mkF m 32 #[.val (.ref bx), .val (.ref by_), .val (.int (Int32.ofNat xs.length))] []) ∧ (xs = ys)) ∨ (∃ (jj : Nat), fe_ = (mkF m 24 #[.val (.ref bx), .val (.ref by_), .val (.int (Int32.ofNat jj))] []) ∧ (¬ (xs = ys)))) ∧ ∀ t_, Steps p.tables e below (T'.setTop fe_) t_ → Steps p.tables e below (T_.setTop (mkF m 9 #[.val (.ref bx), .val (.ref by_), .val (.int (Int32.ofNat j))] [])) t_ := by
      intro k_
      induction k_ with
      | zero => 
        intro j T_ lo_ hm_ X_ e_ N_ hp hlen
        obtain ⟨cl7, Ar7, -, S7, M7, -, -⟩ := id I1
        have s8 : ∀ t_, Steps p.tables e below (T_.setTop (mkF m 32 #[.val (.ref bx), .val (.ref by_), .val (.int (Int32.ofNat j))] [])) t_ → Steps p.tables e below (T_.setTop (mkF m 9 #[.val (.ref bx), .val (.ref by_), .val (.int (Int32.ofNat j))] [])) t_ := fun t_ k_ => (fun _ k_ => k_) t_ (by
          show Steps p.tables e below (T_.setTop (mkF m 9 #[.val (.ref bx), .val (.ref by_), .val (.int (Int32.ofNat j))] [])) t_
          refine XS.iloadN X_.here hx rfl (Jvm.hb hby d_jdk_43_method_13_9) rfl ?_
          refine XS.aloadN X_.here hx rfl (Jvm.hb hby d_jdk_43_method_13_10) rfl rfl ?_
          refine X_.arraylength hx (by rw [e_]; exact Ar7.1) (State.isArrayOf_alike hZ.alike Ar7.2.1) (g := (mkF m 11 #[.val (.ref bx), .val (.ref by_), .val (.int (Int32.ofNat j))] [(.ref bx), (.int (Int32.ofNat j))])) rfl rfl (Jvm.hb hby d_jdk_43_method_13_11) _ ?_
          rw [len_of S7 M7]
          show Steps p.tables e below (T_.setTop (mkF m 12 #[.val (.ref bx), .val (.ref by_), .val (.int (Int32.ofNat j))] [(.int (Int32.ofNat xs.length)), (.int (Int32.ofNat j))])) _
          refine XS.icmpYes X_.here hx rfl (pc0 := 12) (pc' := 32) rfl (Jvm.hb hby d_jdk_43_method_13_12) rfl (flt (own_nlt (by omega) (by omega))).2.1 (by decide) (by decide) ?_
          show Steps p.tables e below (T_.setTop (mkF m 32 #[.val (.ref bx), .val (.ref by_), .val (.int (Int32.ofNat j))] [])) _
          show Steps p.tables e below (T_.setTop (mkF m 32 #[.val (.ref bx), .val (.ref by_), .val (.int (Int32.ofNat j))] [])) t_
          exact k_)
        exact ⟨T_, _, _, X_, e_, N_, (Or.inl ⟨(by rw [show j = xs.length by omega]), (own_ext hlen fun i hi => hp i (by omega))⟩), s8⟩
      | succ k_ ih => 
        intro j T_ lo_ hm_ X_ e_ N_ hp hlen
        obtain ⟨cl9, Ar9, -, S9, M9, -, -⟩ := id I1
        obtain ⟨cl10, Ar10, -, S10, M10, H10, -⟩ := id I1
        have hin10 : ¬ ((Int32.ofNat j) < 0 ∨ cl10.slots.size ≤ ((Int32.ofNat j)).toNatClampNeg) := inb_of S10 (own_in (by omega) (by omega))
        have hat10 : cl10.slots[((Int32.ofNat j)).toNatClampNeg]? = some (.int (xs.getD j 0)) := H10.at hin10 (own_getc xs j _ (by omega) (by omega))
        obtain ⟨cl11, Ar11, -, S11, M11, H11, -⟩ := id I2
        have hin11 : ¬ ((Int32.ofNat j) < 0 ∨ cl11.slots.size ≤ ((Int32.ofNat j)).toNatClampNeg) := inb_of S11 (own_in (by omega) (by omega))
        have hat11 : cl11.slots[((Int32.ofNat j)).toNatClampNeg]? = some (.int (ys.getD j 0)) := H11.at hin11 (own_getc ys j _ (by omega) (by omega))
        have s12 : ∀ t_, Steps p.tables e below (T_.setTop (mkF m 21 #[.val (.ref bx), .val (.ref by_), .val (.int (Int32.ofNat j))] [(.int (ys.getD j 0)), (.int (xs.getD j 0))])) t_ → Steps p.tables e below (T_.setTop (mkF m 9 #[.val (.ref bx), .val (.ref by_), .val (.int (Int32.ofNat j))] [])) t_ := fun t_ k_ => (fun _ k_ => k_) t_ (by
          show Steps p.tables e below (T_.setTop (mkF m 9 #[.val (.ref bx), .val (.ref by_), .val (.int (Int32.ofNat j))] [])) t_
          refine XS.iloadN X_.here hx rfl (Jvm.hb hby d_jdk_43_method_13_9) rfl ?_
          refine XS.aloadN X_.here hx rfl (Jvm.hb hby d_jdk_43_method_13_10) rfl rfl ?_
          refine X_.arraylength hx (by rw [e_]; exact Ar9.1) (State.isArrayOf_alike hZ.alike Ar9.2.1) (g := (mkF m 11 #[.val (.ref bx), .val (.ref by_), .val (.int (Int32.ofNat j))] [(.ref bx), (.int (Int32.ofNat j))])) rfl rfl (Jvm.hb hby d_jdk_43_method_13_11) _ ?_
          rw [len_of S9 M9]
          show Steps p.tables e below (T_.setTop (mkF m 12 #[.val (.ref bx), .val (.ref by_), .val (.int (Int32.ofNat j))] [(.int (Int32.ofNat xs.length)), (.int (Int32.ofNat j))])) _
          refine XS.icmpNo X_.here hx rfl (Jvm.hb hby d_jdk_43_method_13_12) rfl (tlt (own_lt (by omega) (by omega))).2.1 ?_
          show Steps p.tables e below (T_.setTop (mkF m 15 #[.val (.ref bx), .val (.ref by_), .val (.int (Int32.ofNat j))] [])) _
          refine XS.aloadN X_.here hx rfl (Jvm.hb hby d_jdk_43_method_13_15) rfl rfl ?_
          refine XS.iloadN X_.here hx rfl (Jvm.hb hby d_jdk_43_method_13_16) rfl ?_
          refine X_.baloadBytes hx (j := (Int32.ofNat j)) (v := (.int (xs.getD j 0))) (by rw [e_]; exact Ar10.1) (State.isArrayOf_alike hZ.alike Ar10.2.1) Ar10.2.2 hin10 hat10 (g := (mkF m 17 #[.val (.ref bx), .val (.ref by_), .val (.int (Int32.ofNat j))] [(.int (Int32.ofNat j)), (.ref bx)])) rfl rfl (Jvm.hb hby d_jdk_43_method_13_17) _ ?_
          show Steps p.tables e below (T_.setTop (mkF m 18 #[.val (.ref bx), .val (.ref by_), .val (.int (Int32.ofNat j))] [(.int (xs.getD j 0))])) _
          refine XS.aloadN X_.here hx rfl (Jvm.hb hby d_jdk_43_method_13_18) rfl rfl ?_
          refine XS.iloadN X_.here hx rfl (Jvm.hb hby d_jdk_43_method_13_19) rfl ?_
          refine X_.baloadBytes hx (j := (Int32.ofNat j)) (v := (.int (ys.getD j 0))) (by rw [e_]; exact Ar11.1) (State.isArrayOf_alike hZ.alike Ar11.2.1) Ar11.2.2 hin11 hat11 (g := (mkF m 20 #[.val (.ref bx), .val (.ref by_), .val (.int (Int32.ofNat j))] [(.int (Int32.ofNat j)), (.ref by_), (.int (xs.getD j 0))])) rfl rfl (Jvm.hb hby d_jdk_43_method_13_20) _ ?_
          show Steps p.tables e below (T_.setTop (mkF m 21 #[.val (.ref bx), .val (.ref by_), .val (.int (Int32.ofNat j))] [(.int (ys.getD j 0)), (.int (xs.getD j 0))])) _
          show Steps p.tables e below (T_.setTop (mkF m 21 #[.val (.ref bx), .val (.ref by_), .val (.int (Int32.ofNat j))] [(.int (ys.getD j 0)), (.int (xs.getD j 0))])) t_
          exact k_)
        by_cases h13 : (xs.getD j 0) = (ys.getD j 0)
        · have s14 : ∀ t_, Steps p.tables e below (T_.setTop (mkF m 9 #[.val (.ref bx), .val (.ref by_), .val (.int ((Int32.ofNat j) + (1 : Int32)))] [])) t_ → Steps p.tables e below (T_.setTop (mkF m 9 #[.val (.ref bx), .val (.ref by_), .val (.int (Int32.ofNat j))] [])) t_ := fun t_ k_ => s12 t_ (by
            show Steps p.tables e below (T_.setTop (mkF m 21 #[.val (.ref bx), .val (.ref by_), .val (.int (Int32.ofNat j))] [(.int (ys.getD j 0)), (.int (xs.getD j 0))])) t_
            refine XS.icmpYes X_.here hx rfl (pc0 := 21) (pc' := 26) rfl (Jvm.hb hby d_jdk_43_method_13_21) rfl (teq h13).1 (by decide) (by decide) ?_
            show Steps p.tables e below (T_.setTop (mkF m 26 #[.val (.ref bx), .val (.ref by_), .val (.int (Int32.ofNat j))] [])) _
            refine XS.iinc X_.here hx rfl (Jvm.hb hby d_jdk_43_method_13_26) rfl (l' := #[.val (.ref bx), .val (.ref by_), .val (.int ((Int32.ofNat j) + (1 : Int32)))]) rfl ?_
            refine XS.goto X_.here hx rfl (pc0 := 29) (pc' := 9) rfl (Jvm.hb hby d_jdk_43_method_13_29) (by decide) (by decide) ?_
            show Steps p.tables e below (T_.setTop (mkF m 9 #[.val (.ref bx), .val (.ref by_), .val (.int ((Int32.ofNat j) + (1 : Int32)))] [])) t_
            exact k_)
          obtain ⟨T15, lo15, fe15, X15, e15, N15, A15, st15⟩ := ih (j + 1) T_ _  (by omega) X_ e_ N_   (fun i hi => by rcases Nat.lt_succ_iff_lt_or_eq.mp hi with q | q; exact hp i q; rw [q]; exact h13) hlen
          exact ⟨T15, lo15, fe15, X15, e15, N15, A15, fun t_ k_ => s14 t_ (castTop (by rw [own_up]) (st15 t_ k_))⟩
        · have s16 : ∀ t_, Steps p.tables e below (T_.setTop (mkF m 24 #[.val (.ref bx), .val (.ref by_), .val (.int (Int32.ofNat j))] [])) t_ → Steps p.tables e below (T_.setTop (mkF m 9 #[.val (.ref bx), .val (.ref by_), .val (.int (Int32.ofNat j))] [])) t_ := fun t_ k_ => s12 t_ (by
            show Steps p.tables e below (T_.setTop (mkF m 21 #[.val (.ref bx), .val (.ref by_), .val (.int (Int32.ofNat j))] [(.int (ys.getD j 0)), (.int (xs.getD j 0))])) t_
            refine XS.icmpNo X_.here hx rfl (Jvm.hb hby d_jdk_43_method_13_21) rfl (feq h13).1 ?_
            show Steps p.tables e below (T_.setTop (mkF m 24 #[.val (.ref bx), .val (.ref by_), .val (.int (Int32.ofNat j))] [])) _
            show Steps p.tables e below (T_.setTop (mkF m 24 #[.val (.ref bx), .val (.ref by_), .val (.int (Int32.ofNat j))] [])) t_
            exact k_)
          exact ⟨T_, _, _, X_, e_, N_, (Or.inr ⟨j, rfl, (fun e => h13 (by rw [e]))⟩), s16⟩
    obtain ⟨T17, lo17, fe17, X17, e17, N17, A17, st17⟩ := lp6 xs.length 0 s₁ _  (by omega) X0 e0 N0   (fun i hi => absurd hi (Nat.not_lt_zero i)) (own_inj (by omega) (by omega) h4)
    rcases A17 with ⟨rfl, J17_0⟩ | ⟨jj_17, rfl, J17_0⟩
    · have s18 : ∀ t_, Steps p.tables e below (T17.setTop (mkF m 32 #[.val (.ref bx), .val (.ref by_), .val (.int (Int32.ofNat xs.length))] [])) t_ → Steps p.tables e below (s₁.setTop (entryFrame m #[(.ref bx), (.ref by_)] 3)) t_ := fun t_ k_ => s5 t_ (st17 t_ k_)
      have s19 : ∀ t_, Steps p.tables e below (T17.setTop (mkF m 33 #[.val (.ref bx), .val (.ref by_), .val (.int (Int32.ofNat xs.length))] [(.int (1 : Int32))])) t_ → Steps p.tables e below (s₁.setTop (entryFrame m #[(.ref bx), (.ref by_)] 3)) t_ := fun t_ k_ => s18 t_ (by
        show Steps p.tables e below (T17.setTop (mkF m 32 #[.val (.ref bx), .val (.ref by_), .val (.int (Int32.ofNat xs.length))] [])) t_
        refine XS.iconst X17.here hx rfl (Jvm.hb hby d_jdk_43_method_13_32) ?_
        show Steps p.tables e below (T17.setTop (mkF m 33 #[.val (.ref bx), .val (.ref by_), .val (.int (Int32.ofNat xs.length))] [(.int (1 : Int32))])) t_
        exact k_)
      obtain ⟨fs, hr, hrun, hended, hW, hsame⟩ := X17.leave (v := some (.int (1 : Int32))) (fun h => by rw [Bd.returns] at h; cases h)
      refine ⟨_, _, s19 _ ?_, hrun, hended, _, _, rfl, ?_, ⟨_, rfl⟩, hW, hsame.mono (by decide) (by decide)⟩
      · show Steps p.tables e below (T17.setTop (mkF m 33 #[.val (.ref bx), .val (.ref by_), .val (.int (Int32.ofNat xs.length))] [(.int (1 : Int32))])) _
        exact retN X17 hx (t := .boolean) Bd.returns (by simp) (Jvm.hb hby d_jdk_43_method_13_33) hr
      · show Q_rmLEq Z _ _ _ _ _ _ h0 n0 _ T17.heap _
        rw [e17]
        exact ⟨(by rw [if_pos J17_0]), N17, rfl⟩
    · have s20 : ∀ t_, Steps p.tables e below (T17.setTop (mkF m 24 #[.val (.ref bx), .val (.ref by_), .val (.int (Int32.ofNat jj_17))] [])) t_ → Steps p.tables e below (s₁.setTop (entryFrame m #[(.ref bx), (.ref by_)] 3)) t_ := fun t_ k_ => s5 t_ (st17 t_ k_)
      have s21 : ∀ t_, Steps p.tables e below (T17.setTop (mkF m 25 #[.val (.ref bx), .val (.ref by_), .val (.int (Int32.ofNat jj_17))] [(.int (0 : Int32))])) t_ → Steps p.tables e below (s₁.setTop (entryFrame m #[(.ref bx), (.ref by_)] 3)) t_ := fun t_ k_ => s20 t_ (by
        show Steps p.tables e below (T17.setTop (mkF m 24 #[.val (.ref bx), .val (.ref by_), .val (.int (Int32.ofNat jj_17))] [])) t_
        refine XS.iconst X17.here hx rfl (Jvm.hb hby d_jdk_43_method_13_24) ?_
        show Steps p.tables e below (T17.setTop (mkF m 25 #[.val (.ref bx), .val (.ref by_), .val (.int (Int32.ofNat jj_17))] [(.int (0 : Int32))])) t_
        exact k_)
      obtain ⟨fs, hr, hrun, hended, hW, hsame⟩ := X17.leave (v := some (.int (0 : Int32))) (fun h => by rw [Bd.returns] at h; cases h)
      refine ⟨_, _, s21 _ ?_, hrun, hended, _, _, rfl, ?_, ⟨_, rfl⟩, hW, hsame.mono (by decide) (by decide)⟩
      · show Steps p.tables e below (T17.setTop (mkF m 25 #[.val (.ref bx), .val (.ref by_), .val (.int (Int32.ofNat jj_17))] [(.int (0 : Int32))])) _
        exact retN X17 hx (t := .boolean) Bd.returns (by simp) (Jvm.hb hby d_jdk_43_method_13_25) hr
      · show Q_rmLEq Z _ _ _ _ _ _ h0 n0 _ T17.heap _
        rw [e17]
        exact ⟨(by rw [if_neg J17_0]), N17, rfl⟩
  · have s22 : ∀ t_, Steps p.tables e below (s₁.setTop (mkF m 35 #[.val (.ref bx), .val (.ref by_), .unset] [(.int (0 : Int32))])) t_ → Steps p.tables e below (s₁.setTop (entryFrame m #[(.ref bx), (.ref by_)] 3)) t_ := fun t_ k_ => s3 t_ (by
      show Steps p.tables e below (s₁.setTop (mkF m 4 #[.val (.ref bx), .val (.ref by_), .unset] [(.int (Int32.ofNat ys.length)), (.int (Int32.ofNat xs.length))])) t_
      refine XS.icmpYes X0.here hx rfl (pc0 := 4) (pc' := 34) rfl (Jvm.hb hby d_jdk_43_method_13_4) rfl (feq h4).2 (by decide) (by decide) ?_
      show Steps p.tables e below (s₁.setTop (mkF m 34 #[.val (.ref bx), .val (.ref by_), .unset] [])) _
      refine XS.iconst X0.here hx rfl (Jvm.hb hby d_jdk_43_method_13_34) ?_
      show Steps p.tables e below (s₁.setTop (mkF m 35 #[.val (.ref bx), .val (.ref by_), .unset] [(.int (0 : Int32))])) t_
      exact k_)
    obtain ⟨fs, hr, hrun, hended, hW, hsame⟩ := X0.leave (v := some (.int (0 : Int32))) (fun h => by rw [Bd.returns] at h; cases h)
    refine ⟨_, _, s22 _ ?_, hrun, hended, _, _, rfl, ?_, ⟨_, rfl⟩, hW, hsame.mono (by decide) (by decide)⟩
    · show Steps p.tables e below (s₁.setTop (mkF m 35 #[.val (.ref bx), .val (.ref by_), .unset] [(.int (0 : Int32))])) _
      exact retN X0 hx (t := .boolean) Bd.returns (by simp) (Jvm.hb hby d_jdk_43_method_13_35) hr
    · show Q_rmLEq Z _ _ _ _ _ _ h0 n0 _ s₁.heap _
      rw [e0]
      exact ⟨(by rw [if_neg (fun e => h4 (by rw [e]))]), N0, rfl⟩
theorem d_jdk_42_method_66_0 : decode jdk_42_method_66_code 0 = .ok (.aload_n 0, 1) := by decide +kernel
theorem d_jdk_42_method_66_1 : decode jdk_42_method_66_code 1 = .ok (.aload_n 1, 1) := by decide +kernel
theorem d_jdk_42_method_66_2 : decode jdk_42_method_66_code 2 = .ok (.if_acmp .ne 5, 3) := by decide +kernel
theorem d_jdk_42_method_66_7 : decode jdk_42_method_66_code 7 = .ok (.aload_n 1, 1) := by decide +kernel
theorem d_jdk_42_method_66_8 : decode jdk_42_method_66_code 8 = .ok (.instanceof 10, 3) := by decide +kernel
theorem d_jdk_42_method_66_11 : decode jdk_42_method_66_code 11 = .ok (.ifCond .eq 43, 3) := by decide +kernel
theorem d_jdk_42_method_66_14 : decode jdk_42_method_66_code 14 = .ok (.aload_n 1, 1) := by decide +kernel
theorem d_jdk_42_method_66_15 : decode jdk_42_method_66_code 15 = .ok (.checkcast 10, 3) := by decide +kernel
theorem d_jdk_42_method_66_18 : decode jdk_42_method_66_code 18 = .ok (.astore_n 2, 1) := by decide +kernel
theorem d_jdk_42_method_66_19 : decode jdk_42_method_66_code 19 = .ok (.getstatic 38, 3) := by decide +kernel
theorem d_jdk_42_method_66_22 : decode jdk_42_method_66_code 22 = .ok (.ifCond .eq 14, 3) := by decide +kernel
theorem d_jdk_42_method_66_25 : decode jdk_42_method_66_code 25 = .ok (.aload_n 0, 1) := by decide +kernel
theorem d_jdk_42_method_66_26 : decode jdk_42_method_66_code 26 = .ok (.getfield 15, 3) := by decide +kernel
theorem d_jdk_42_method_66_29 : decode jdk_42_method_66_code 29 = .ok (.aload_n 2, 1) := by decide +kernel
theorem d_jdk_42_method_66_30 : decode jdk_42_method_66_code 30 = .ok (.getfield 15, 3) := by decide +kernel
theorem d_jdk_42_method_66_33 : decode jdk_42_method_66_code 33 = .ok (.if_icmp .ne 21, 3) := by decide +kernel
theorem d_jdk_42_method_66_36 : decode jdk_42_method_66_code 36 = .ok (.aload_n 0, 1) := by decide +kernel
theorem d_jdk_42_method_66_37 : decode jdk_42_method_66_code 37 = .ok (.getfield 9, 3) := by decide +kernel
theorem d_jdk_42_method_66_40 : decode jdk_42_method_66_code 40 = .ok (.aload_n 2, 1) := by decide +kernel
theorem d_jdk_42_method_66_41 : decode jdk_42_method_66_code 41 = .ok (.getfield 9, 3) := by decide +kernel
theorem pd___B_B_Z : parseMethodDescriptor "([B[B)Z" = some ⟨[(.array .byte), (.array .byte)], some .boolean⟩ := by decide +kernel
theorem d_jdk_42_method_66_44 : decode jdk_42_method_66_code 44 = .ok (.invokestatic 541, 3) := by decide +kernel
theorem d_jdk_42_method_66_47 : decode jdk_42_method_66_code 47 = .ok (.ifCond .eq 7, 3) := by decide +kernel
theorem d_jdk_42_method_66_50 : decode jdk_42_method_66_code 50 = .ok (.iconst 1, 1) := by decide +kernel
theorem d_jdk_42_method_66_51 : decode jdk_42_method_66_code 51 = .ok (.goto 4, 3) := by decide +kernel
theorem d_jdk_42_method_66_55 : decode jdk_42_method_66_code 55 = .ok (.ireturn, 1) := by decide +kernel
theorem d_jdk_42_method_66_54 : decode jdk_42_method_66_code 54 = .ok (.iconst 0, 1) := by decide +kernel
theorem ef_rmSEq (m : MethodId) (x0 : Addr) (x1 : Addr) : entryFrame m #[(.ref x0), (.ref x1)] 3 = mkF m 0 #[.val (.ref x0), .val (.ref x1), .unset] [] := by first | (simp [entryFrame, mkF, argsToLocals, Value.category]; done) | rfl
def Q_rmSEq (Z : State) (ax : Addr) (ay : Addr) (cst : Int32) (bx : Addr) (kx : ClassId) (cs : List Int32) (by_ : Addr) (ky : ClassId) (ds : List Int32) (h0 : Heap) (n0 : Nat) (v : Option Value) (h : Heap) (L : List Loc) : Prop := (v = some (.int (if cs = ds then (1 : Int32) else (0 : Int32)))) ∧ (Fr n0 L) ∧ (h = h0)
set_option maxRecDepth 65536 in
set_option maxHeartbeats 40000000 in
theorem rmSEq (l : Launch) (Z : State) (a0 : Array Value) (hw : ∀ d ∈ tables_1, d.before a0 Z = true) (ws : List Jvm.Cond) (ax : Addr) (ay : Addr) (cst : Int32) (bx : Addr) (kx : ClassId) (cs : List Int32) (by_ : Addr) (ky : ClassId) (ds : List Int32) (h0 : Heap) (n0 : Nat) (Z0 : n0 ≤ h0.size) (I1 : Sta Z Z.heap "java/lang/String" "COMPACT_STRINGS" "Z" (.int cst)) (OX : Old Z n0 h0) (hcst : ¬ (cst = (0 : Int32))) (I2 : Exa Z h0 ax "java/lang/String") (I3 : Fld Z h0 ax "java/lang/String" "value" "[B" (.ref bx)) (I4 : Fld Z h0 ax "java/lang/String" "coder" "B" (.int (own_cod cs))) (I5 : Arv Z h0 bx kx .byte (Int32.ofNat (own_enl cs)) (own_enc cs) (.int (0 : Int32))) (I6 : Exa Z h0 ay "java/lang/String") (I7 : Fld Z h0 ay "java/lang/String" "value" "[B" (.ref by_)) (I8 : Fld Z h0 ay "java/lang/String" "coder" "B" (.int (own_cod ds))) (I9 : Arv Z h0 by_ ky .byte (Int32.ofNat (own_enl ds)) (own_enc ds) (.int (0 : Int32))) (hne : ¬ (ax = ay)) (hchc : own_chs cs) (hchd : own_chs ds) (hbc : cs.length ≤ 15) (hbd : ds.length ≤ 15) :
    MetFree l (⟨"java/lang/String", "equals", "(Ljava/lang/Object;)Z"⟩ : MethodName) (head1 (Jvm.Cond.code (⟨"java/lang/String", "equals", "(Ljava/lang/Object;)Z"⟩ : MethodName) jdk_42_method_66_code 3 (some .boolean) :: ws) ({ frames := 1, cells := 0, slots := 0, locals := 14 } : Room)) (fun ar_ U => ar_ = #[(.ref ax), (.ref ay)] ∧ Z.Warmed39 U.vm ∧ U.heap = h0) (fun _ _ _ _ _ => True) (fun _ U oc_ U' => ∃ v L, oc_ = .returned v ∧ Q_rmSEq Z ax ay cst bx kx cs by_ ky ds h0 n0 v U'.heap L ∧ FrameEnd U oc_ U' L ({ frames := 1, cells := 0, slots := 0, locals := 14 } : Room).cells ({ frames := 1, cells := 0, slots := 0, locals := 14 } : Room).slots) := by
  refine MetFree.of_bodySF (plainFor_of_name pn_java_lang_String) hisR ?_
  intro p e s m args below meth c s₁ Bd hml0 hP hK
  obtain ⟨rfl, hZ, hh⟩ := hP
  have hx := Bd.exec
  have hby := Bd.bytes
  have hml : c.maxLocals = 3 := hml0
  have hown : s.vm.findClass "java/lang/String" = some m.cls := findClass_of_methodNamed Bd.named
  have hnm := (name_of_methodNamed Bd.named Bd.method).1
  have X0 : Stand p l e ({ frames := 1, cells := 0, slots := 0, locals := 14 } : Room) s m #[(.ref ax), (.ref ay)] below meth c s₁ [] 0 0 := Stand.of_body Bd
  have e0 : s₁.heap = h0 := by rw [← hh, Bd.state]; rfl
  have N0 := Fr.nil n0
  have pre0 : ∀ t_, Steps p.tables e below (s₁.setTop (mkF m 0 #[.val (.ref ax), .val (.ref ay), .unset] [])) t_ → Steps p.tables e below (s₁.setTop (entryFrame m #[(.ref ax), (.ref ay)] 3)) t_ := fun t_ k_ => castTop (ef_rmSEq m ax ay) k_
  have lt_I2 : @LT.lt Nat _ ax h0.size := I2.lt
  have lt_I3 : @LT.lt Nat _ ax h0.size := I3.lt
  have lt_I4 : @LT.lt Nat _ ax h0.size := I4.lt
  have lt_I5 : @LT.lt Nat _ bx h0.size := I5.lt
  have lt_I6 : @LT.lt Nat _ ay h0.size := I6.lt
  have lt_I7 : @LT.lt Nat _ ay h0.size := I7.lt
  have lt_I8 : @LT.lt Nat _ ay h0.size := I8.lt
  have lt_I9 : @LT.lt Nat _ by_ h0.size := I9.lt
  obtain ⟨T1, X1, e1, st1⟩ := instY X0 hx hZ hown (hw _ (List.mem_of_getElem? (i := 193) rfl)) e0 (Ins.self I6) (g := (mkF m 8 #[.val (.ref ax), .val (.ref ay), .unset] [(.ref ay)])) rfl rfl (Jvm.hb hby d_jdk_42_method_66_8)
  obtain ⟨T2, X2, e2, st2⟩ := castY X1 hx hZ hown (hw _ (List.mem_of_getElem? (i := 193) rfl)) e1 (Ins.self I6) (g := (mkF m 15 #[.val (.ref ax), .val (.ref ay), .unset] [(.ref ay)])) rfl rfl (Jvm.hb hby d_jdk_42_method_66_15)
  obtain ⟨T3, X3, e3, st3⟩ := getS2 X2 hx hZ hown (host := "") (Or.inl (hw _ (List.mem_of_getElem? (i := 25) rfl))) Via.refl e2 (I1.ext OX.2) (g := (mkF m 19 #[.val (.ref ax), .val (.ref ay), .val (.ref ay)] [])) rfl (Jvm.hb hby d_jdk_42_method_66_19)
  obtain ⟨T4, X4, e4, st4⟩ := getF X3 hx hZ hown (host := "") (Or.inl (hw _ (List.mem_of_getElem? (i := 37) rfl))) Via.refl e3 I4 (g := (mkF m 26 #[.val (.ref ax), .val (.ref ay), .val (.ref ay)] [(.ref ax)])) rfl rfl (Jvm.hb hby d_jdk_42_method_66_26)
  obtain ⟨T5, X5, e5, st5⟩ := getF X4 hx hZ hown (host := "") (Or.inl (hw _ (List.mem_of_getElem? (i := 37) rfl))) Via.refl e4 I8 (g := (mkF m 30 #[.val (.ref ax), .val (.ref ay), .val (.ref ay)] [(.ref ay), (.int (own_cod cs))])) rfl rfl (Jvm.hb hby d_jdk_42_method_66_30)
  have s6 : ∀ t_, Steps p.tables e below (T5.setTop (mkF m 33 #[.val (.ref ax), .val (.ref ay), .val (.ref ay)] [(.int (own_cod ds)), (.int (own_cod cs))])) t_ → Steps p.tables e below (s₁.setTop (entryFrame m #[(.ref ax), (.ref ay)] 3)) t_ := fun t_ k_ => pre0 t_ (by
    show Steps p.tables e below (s₁.setTop (mkF m 0 #[.val (.ref ax), .val (.ref ay), .unset] [])) t_
    refine XS.aloadN X0.here hx rfl (Jvm.hb hby d_jdk_42_method_66_0) rfl rfl ?_
    refine XS.aloadN X0.here hx rfl (Jvm.hb hby d_jdk_42_method_66_1) rfl rfl ?_
    refine Jvm.RoadKit.acmp (g := (mkF m 2 #[.val (.ref ax), .val (.ref ay), .unset] [(.ref ay), (.ref ax)])) X0 hx rfl rfl rfl (pc0 := 2) (pc' := 7) (same := false) rfl (Jvm.hb hby d_jdk_42_method_66_2) rfl (decide_eq_false fun q => hne (Value.ref.inj q)) (by decide) (by decide) ?_
    show Steps p.tables e below (s₁.setTop (mkF m 7 #[.val (.ref ax), .val (.ref ay), .unset] [])) _
    refine XS.aloadN X0.here hx rfl (Jvm.hb hby d_jdk_42_method_66_7) rfl rfl ?_
    refine st1 _ ?_
    show Steps p.tables e below (T1.setTop (mkF m 11 #[.val (.ref ax), .val (.ref ay), .unset] [(.int (1 : Int32))])) _
    refine XS.ifNo X1.here hx rfl (Jvm.hb hby d_jdk_42_method_66_11) rfl ((if0 _ _).trans (feq (by decide : ¬ ((1 : Int32) = (0 : Int32)))).1) ?_
    show Steps p.tables e below (T1.setTop (mkF m 14 #[.val (.ref ax), .val (.ref ay), .unset] [])) _
    refine XS.aloadN X1.here hx rfl (Jvm.hb hby d_jdk_42_method_66_14) rfl rfl ?_
    refine st2 _ ?_
    show Steps p.tables e below (T2.setTop (mkF m 18 #[.val (.ref ax), .val (.ref ay), .unset] [(.ref ay)])) _
    refine XS.astoreN X2.here hx rfl (Jvm.hb hby d_jdk_42_method_66_18) rfl rfl (l' := #[.val (.ref ax), .val (.ref ay), .val (.ref ay)]) rfl ?_
    refine st3 _ ?_
    show Steps p.tables e below (T3.setTop (mkF m 22 #[.val (.ref ax), .val (.ref ay), .val (.ref ay)] [(.int cst)])) _
    refine XS.ifNo X3.here hx rfl (Jvm.hb hby d_jdk_42_method_66_22) rfl ((if0 _ _).trans (feq hcst).1) ?_
    show Steps p.tables e below (T3.setTop (mkF m 25 #[.val (.ref ax), .val (.ref ay), .val (.ref ay)] [])) _
    refine XS.aloadN X3.here hx rfl (Jvm.hb hby d_jdk_42_method_66_25) rfl rfl ?_
    refine st4 _ ?_
    show Steps p.tables e below (T4.setTop (mkF m 29 #[.val (.ref ax), .val (.ref ay), .val (.ref ay)] [(.int (own_cod cs))])) _
    refine XS.aloadN X4.here hx rfl (Jvm.hb hby d_jdk_42_method_66_29) rfl rfl ?_
    refine st5 _ ?_
    show Steps p.tables e below (T5.setTop (mkF m 33 #[.val (.ref ax), .val (.ref ay), .val (.ref ay)] [(.int (own_cod ds)), (.int (own_cod cs))])) _
    show Steps p.tables e below (T5.setTop (mkF m 33 #[.val (.ref ax), .val (.ref ay), .val (.ref ay)] [(.int (own_cod ds)), (.int (own_cod cs))])) t_
    exact k_)
  by_cases h7 : (own_cod cs) = (own_cod ds)
  · obtain ⟨T8, X8, e8, st8⟩ := getF X5 hx hZ hown (host := "") (Or.inl (hw _ (List.mem_of_getElem? (i := 39) rfl))) Via.refl e5 I3 (g := (mkF m 37 #[.val (.ref ax), .val (.ref ay), .val (.ref ay)] [(.ref ax)])) rfl rfl (Jvm.hb hby d_jdk_42_method_66_37)
    obtain ⟨T9, X9, e9, st9⟩ := getF X8 hx hZ hown (host := "") (Or.inl (hw _ (List.mem_of_getElem? (i := 39) rfl))) Via.refl e8 I7 (g := (mkF m 41 #[.val (.ref ax), .val (.ref ay), .val (.ref ay)] [(.ref ay), (.ref bx)])) rfl rfl (Jvm.hb hby d_jdk_42_method_66_41)
    have V10 : Arv Z h0 bx kx .byte (Int32.ofNat (own_eb cs).length) ((own_eb cs).map Value.int) (.int (0 : Int32)) := by rw [own_ebl, ← own_encb]; exact I5
    have V11 : Arv Z h0 by_ ky .byte (Int32.ofNat (own_eb ds).length) ((own_eb ds).map Value.int) (.int (0 : Int32)) := by rw [own_ebl, ← own_encb]; exact I9
    have Zc12 : n0 ≤ h0.size := by omega
    obtain ⟨_, _, ⟨T13, L13, k13, n13⟩, -, X13, ⟨Lc13, hQ13, l13, y13, z13⟩, st13⟩ := Jvm.LawKit.callS X9 hx (y := (⟨"java/lang/StringLatin1", "equals", "([B[B)Z"⟩ : MethodName)) hown (mvT hZ (hw _ (List.mem_of_getElem? (i := 194) rfl))) (mvT hZ (hw _ (List.mem_of_getElem? (i := 195) rfl))) (mvT hZ (hw _ (List.mem_of_getElem? (i := 97) rfl))) (mvT hZ (hw _ (List.mem_of_getElem? (i := 196) rfl))) (by decide) (backOf (W := 0) (rmLEq l Z a0 hw [] bx by_ kx ky (own_eb cs) (own_eb ds) h0 n0 Zc12 V10 V11 (by rw [own_ebl]; have := own_enll cs; omega) (by rw [own_ebl]; have := own_enll ds; omega)) hZ (hw _ (List.mem_of_getElem? (i := 196) rfl)) (hw _ (List.mem_of_getElem? (i := 97) rfl)) (by decide) (by decide)) (g := (mkF m 44 #[.val (.ref ax), .val (.ref ay), .val (.ref ay)] [(.ref by_), (.ref bx)])) rfl (by rw [hml]; rfl) (argsL := [(.ref bx), (.ref by_)]) (rest := []) (lenOf pd___B_B_Z rfl) rfl (by show 2 * 0 + _ ≤ _; exact Nat.le_of_eq rfl) (Jvm.hb hby d_jdk_42_method_66_44) (fun _ _ => ⟨rfl, e9, (by decide : 0 + 0 ≤ _), (by decide : 0 + 0 ≤ _)⟩)
    dsimp only [Pt.U, Pt.locs, Pt.cells, Pt.slots] at X13 l13 y13 z13 st13 hQ13
    subst l13 y13 z13
    obtain ⟨rfl, N13q, e13⟩ := hQ13
    have N13 := Fr.app N0 N13q
    have s14 : ∀ t_, Steps p.tables e below (T13.setTop (mkF m 47 #[.val (.ref ax), .val (.ref ay), .val (.ref ay)] [(.int (if (own_eb cs) = (own_eb ds) then (1 : Int32) else (0 : Int32)))])) t_ → Steps p.tables e below (s₁.setTop (entryFrame m #[(.ref ax), (.ref ay)] 3)) t_ := fun t_ k_ => s6 t_ (by
      show Steps p.tables e below (T5.setTop (mkF m 33 #[.val (.ref ax), .val (.ref ay), .val (.ref ay)] [(.int (own_cod ds)), (.int (own_cod cs))])) t_
      refine XS.icmpNo X5.here hx rfl (Jvm.hb hby d_jdk_42_method_66_33) rfl (teq h7).2 ?_
      show Steps p.tables e below (T5.setTop (mkF m 36 #[.val (.ref ax), .val (.ref ay), .val (.ref ay)] [])) _
      refine XS.aloadN X5.here hx rfl (Jvm.hb hby d_jdk_42_method_66_36) rfl rfl ?_
      refine st8 _ ?_
      show Steps p.tables e below (T8.setTop (mkF m 40 #[.val (.ref ax), .val (.ref ay), .val (.ref ay)] [(.ref bx)])) _
      refine XS.aloadN X8.here hx rfl (Jvm.hb hby d_jdk_42_method_66_40) rfl rfl ?_
      refine st9 _ ?_
      show Steps p.tables e below (T9.setTop (mkF m 44 #[.val (.ref ax), .val (.ref ay), .val (.ref ay)] [(.ref by_), (.ref bx)])) _
      refine st13 _ ?_
      show Steps p.tables e below (T13.setTop (mkF m 47 #[.val (.ref ax), .val (.ref ay), .val (.ref ay)] [(.int (if (own_eb cs) = (own_eb ds) then (1 : Int32) else (0 : Int32)))])) _
      show Steps p.tables e below (T13.setTop (mkF m 47 #[.val (.ref ax), .val (.ref ay), .val (.ref ay)] [(.int (if (own_eb cs) = (own_eb ds) then (1 : Int32) else (0 : Int32)))])) t_
      exact k_)
    by_cases h15 : own_eb cs = own_eb ds
    · have s16 : ∀ t_, Steps p.tables e below (T13.setTop (mkF m 47 #[.val (.ref ax), .val (.ref ay), .val (.ref ay)] [(.int (1 : Int32))])) t_ → Steps p.tables e below (s₁.setTop (entryFrame m #[(.ref ax), (.ref ay)] 3)) t_ := fun t_ k_ => s14 t_ (castTop (by simp only [if_pos h15]) k_)
      have s17 : ∀ t_, Steps p.tables e below (T13.setTop (mkF m 55 #[.val (.ref ax), .val (.ref ay), .val (.ref ay)] [(.int (1 : Int32))])) t_ → Steps p.tables e below (s₁.setTop (entryFrame m #[(.ref ax), (.ref ay)] 3)) t_ := fun t_ k_ => s16 t_ (by
        show Steps p.tables e below (T13.setTop (mkF m 47 #[.val (.ref ax), .val (.ref ay), .val (.ref ay)] [(.int (1 : Int32))])) t_
        refine XS.ifNo X13.here hx rfl (Jvm.hb hby d_jdk_42_method_66_47) rfl ((if0 _ _).trans (feq (by decide : ¬ ((1 : Int32) = (0 : Int32)))).1) ?_
        show Steps p.tables e below (T13.setTop (mkF m 50 #[.val (.ref ax), .val (.ref ay), .val (.ref ay)] [])) _
        refine XS.iconst X13.here hx rfl (Jvm.hb hby d_jdk_42_method_66_50) ?_
        refine XS.goto X13.here hx rfl (pc0 := 51) (pc' := 55) rfl (Jvm.hb hby d_jdk_42_method_66_51) (by decide) (by decide) ?_
        show Steps p.tables e below (T13.setTop (mkF m 55 #[.val (.ref ax), .val (.ref ay), .val (.ref ay)] [(.int (1 : Int32))])) t_
        exact k_)
      obtain ⟨fs, hr, hrun, hended, hW, hsame⟩ := X13.leave (v := some (.int (1 : Int32))) (fun h => by rw [Bd.returns] at h; cases h)
      refine ⟨_, _, s17 _ ?_, hrun, hended, _, _, rfl, ?_, ⟨_, rfl⟩, hW, hsame.mono (by decide) (by decide)⟩
      · show Steps p.tables e below (T13.setTop (mkF m 55 #[.val (.ref ax), .val (.ref ay), .val (.ref ay)] [(.int (1 : Int32))])) _
        exact retN X13 hx (t := .boolean) Bd.returns (by simp) (Jvm.hb hby d_jdk_42_method_66_55) hr
      · show Q_rmSEq Z _ _ _ _ _ _ _ _ _ h0 n0 _ T13.heap _
        rw [e13]
        exact ⟨(by rw [if_pos (own_encinj hchc hchd h7 h15)]), N13, rfl⟩
    · have s18 : ∀ t_, Steps p.tables e below (T13.setTop (mkF m 47 #[.val (.ref ax), .val (.ref ay), .val (.ref ay)] [(.int (0 : Int32))])) t_ → Steps p.tables e below (s₁.setTop (entryFrame m #[(.ref ax), (.ref ay)] 3)) t_ := fun t_ k_ => s14 t_ (castTop (by simp only [if_neg h15]) k_)
      have s19 : ∀ t_, Steps p.tables e below (T13.setTop (mkF m 55 #[.val (.ref ax), .val (.ref ay), .val (.ref ay)] [(.int (0 : Int32))])) t_ → Steps p.tables e below (s₁.setTop (entryFrame m #[(.ref ax), (.ref ay)] 3)) t_ := fun t_ k_ => s18 t_ (by
        show Steps p.tables e below (T13.setTop (mkF m 47 #[.val (.ref ax), .val (.ref ay), .val (.ref ay)] [(.int (0 : Int32))])) t_
        refine XS.ifYes X13.here hx rfl (pc0 := 47) (pc' := 54) rfl (Jvm.hb hby d_jdk_42_method_66_47) rfl ((if0 _ _).trans (teq (rfl : (0 : Int32) = (0 : Int32))).1) (by decide) (by decide) ?_
        show Steps p.tables e below (T13.setTop (mkF m 54 #[.val (.ref ax), .val (.ref ay), .val (.ref ay)] [])) _
        refine XS.iconst X13.here hx rfl (Jvm.hb hby d_jdk_42_method_66_54) ?_
        show Steps p.tables e below (T13.setTop (mkF m 55 #[.val (.ref ax), .val (.ref ay), .val (.ref ay)] [(.int (0 : Int32))])) t_
        exact k_)
      obtain ⟨fs, hr, hrun, hended, hW, hsame⟩ := X13.leave (v := some (.int (0 : Int32))) (fun h => by rw [Bd.returns] at h; cases h)
      refine ⟨_, _, s19 _ ?_, hrun, hended, _, _, rfl, ?_, ⟨_, rfl⟩, hW, hsame.mono (by decide) (by decide)⟩
      · show Steps p.tables e below (T13.setTop (mkF m 55 #[.val (.ref ax), .val (.ref ay), .val (.ref ay)] [(.int (0 : Int32))])) _
        exact retN X13 hx (t := .boolean) Bd.returns (by simp) (Jvm.hb hby d_jdk_42_method_66_55) hr
      · show Q_rmSEq Z _ _ _ _ _ _ _ _ _ h0 n0 _ T13.heap _
        rw [e13]
        exact ⟨(by rw [if_neg (fun e => h15 (by rw [e]))]), N13, rfl⟩
  · have s20 : ∀ t_, Steps p.tables e below (T5.setTop (mkF m 55 #[.val (.ref ax), .val (.ref ay), .val (.ref ay)] [(.int (0 : Int32))])) t_ → Steps p.tables e below (s₁.setTop (entryFrame m #[(.ref ax), (.ref ay)] 3)) t_ := fun t_ k_ => s6 t_ (by
      show Steps p.tables e below (T5.setTop (mkF m 33 #[.val (.ref ax), .val (.ref ay), .val (.ref ay)] [(.int (own_cod ds)), (.int (own_cod cs))])) t_
      refine XS.icmpYes X5.here hx rfl (pc0 := 33) (pc' := 54) rfl (Jvm.hb hby d_jdk_42_method_66_33) rfl (feq h7).2 (by decide) (by decide) ?_
      show Steps p.tables e below (T5.setTop (mkF m 54 #[.val (.ref ax), .val (.ref ay), .val (.ref ay)] [])) _
      refine XS.iconst X5.here hx rfl (Jvm.hb hby d_jdk_42_method_66_54) ?_
      show Steps p.tables e below (T5.setTop (mkF m 55 #[.val (.ref ax), .val (.ref ay), .val (.ref ay)] [(.int (0 : Int32))])) t_
      exact k_)
    obtain ⟨fs, hr, hrun, hended, hW, hsame⟩ := X5.leave (v := some (.int (0 : Int32))) (fun h => by rw [Bd.returns] at h; cases h)
    refine ⟨_, _, s20 _ ?_, hrun, hended, _, _, rfl, ?_, ⟨_, rfl⟩, hW, hsame.mono (by decide) (by decide)⟩
    · show Steps p.tables e below (T5.setTop (mkF m 55 #[.val (.ref ax), .val (.ref ay), .val (.ref ay)] [(.int (0 : Int32))])) _
      exact retN X5 hx (t := .boolean) Bd.returns (by simp) (Jvm.hb hby d_jdk_42_method_66_55) hr
    · show Q_rmSEq Z _ _ _ _ _ _ _ _ _ h0 n0 _ T5.heap _
      rw [e5]
      exact ⟨(by rw [if_neg (fun e => h7 (by rw [e]))]), N0, rfl⟩
theorem d_jdk_42_method_66_5 : decode jdk_42_method_66_code 5 = .ok (.iconst 1, 1) := by decide +kernel
theorem d_jdk_42_method_66_6 : decode jdk_42_method_66_code 6 = .ok (.ireturn, 1) := by decide +kernel
theorem ef_rmSEqS (m : MethodId) (x0 : Addr) (x1 : Addr) : entryFrame m #[(.ref x0), (.ref x1)] 3 = mkF m 0 #[.val (.ref x0), .val (.ref x1), .unset] [] := by first | (simp [entryFrame, mkF, argsToLocals, Value.category]; done) | rfl
def Q_rmSEqS (Z : State) (ax : Addr) (h0 : Heap) (n0 : Nat) (v : Option Value) (h : Heap) (L : List Loc) : Prop := (v = some (.int (1 : Int32))) ∧ (Fr n0 L) ∧ (h = h0)
set_option maxRecDepth 65536 in
set_option maxHeartbeats 40000000 in
theorem rmSEqS (l : Launch) (Z : State) (a0 : Array Value) (hw : ∀ d ∈ tables_1, d.before a0 Z = true) (ws : List Jvm.Cond) (ax : Addr) (h0 : Heap) (n0 : Nat) (Z0 : n0 ≤ h0.size)  :
    MetFree l (⟨"java/lang/String", "equals", "(Ljava/lang/Object;)Z"⟩ : MethodName) (head1 (Jvm.Cond.code (⟨"java/lang/String", "equals", "(Ljava/lang/Object;)Z"⟩ : MethodName) jdk_42_method_66_code 3 (some .boolean) :: ws) ({ frames := 0, cells := 0, slots := 0, locals := 0 } : Room)) (fun ar_ U => ar_ = #[(.ref ax), (.ref ax)] ∧ Z.Warmed39 U.vm ∧ U.heap = h0) (fun _ _ _ _ _ => True) (fun _ U oc_ U' => ∃ v L, oc_ = .returned v ∧ Q_rmSEqS Z ax h0 n0 v U'.heap L ∧ FrameEnd U oc_ U' L ({ frames := 0, cells := 0, slots := 0, locals := 0 } : Room).cells ({ frames := 0, cells := 0, slots := 0, locals := 0 } : Room).slots) := by
  refine MetFree.of_bodySF (plainFor_of_name pn_java_lang_String) hisR ?_
  intro p e s m args below meth c s₁ Bd hml0 hP hK
  obtain ⟨rfl, hZ, hh⟩ := hP
  have hx := Bd.exec
  have hby := Bd.bytes
  have hml : c.maxLocals = 3 := hml0
  have hown : s.vm.findClass "java/lang/String" = some m.cls := findClass_of_methodNamed Bd.named
  have hnm := (name_of_methodNamed Bd.named Bd.method).1
  have X0 : Stand p l e ({ frames := 0, cells := 0, slots := 0, locals := 0 } : Room) s m #[(.ref ax), (.ref ax)] below meth c s₁ [] 0 0 := Stand.of_body Bd
  have e0 : s₁.heap = h0 := by rw [← hh, Bd.state]; rfl
  have N0 := Fr.nil n0
  have pre0 : ∀ t_, Steps p.tables e below (s₁.setTop (mkF m 0 #[.val (.ref ax), .val (.ref ax), .unset] [])) t_ → Steps p.tables e below (s₁.setTop (entryFrame m #[(.ref ax), (.ref ax)] 3)) t_ := fun t_ k_ => castTop (ef_rmSEqS m ax ax) k_
  have s1 : ∀ t_, Steps p.tables e below (s₁.setTop (mkF m 6 #[.val (.ref ax), .val (.ref ax), .unset] [(.int (1 : Int32))])) t_ → Steps p.tables e below (s₁.setTop (entryFrame m #[(.ref ax), (.ref ax)] 3)) t_ := fun t_ k_ => pre0 t_ (by
    show Steps p.tables e below (s₁.setTop (mkF m 0 #[.val (.ref ax), .val (.ref ax), .unset] [])) t_
    refine XS.aloadN X0.here hx rfl (Jvm.hb hby d_jdk_42_method_66_0) rfl rfl ?_
    refine XS.aloadN X0.here hx rfl (Jvm.hb hby d_jdk_42_method_66_1) rfl rfl ?_
    refine Jvm.RoadKit.acmp (g := (mkF m 2 #[.val (.ref ax), .val (.ref ax), .unset] [(.ref ax), (.ref ax)])) X0 hx rfl rfl rfl (pc0 := 2) (pc' := 5) (same := true) rfl (Jvm.hb hby d_jdk_42_method_66_2) rfl (decide_eq_true rfl) (by decide) (by decide) ?_
    show Steps p.tables e below (s₁.setTop (mkF m 5 #[.val (.ref ax), .val (.ref ax), .unset] [])) _
    refine XS.iconst X0.here hx rfl (Jvm.hb hby d_jdk_42_method_66_5) ?_
    show Steps p.tables e below (s₁.setTop (mkF m 6 #[.val (.ref ax), .val (.ref ax), .unset] [(.int (1 : Int32))])) t_
    exact k_)
  obtain ⟨fs, hr, hrun, hended, hW, hsame⟩ := X0.leave (v := some (.int (1 : Int32))) (fun h => by rw [Bd.returns] at h; cases h)
  refine ⟨_, _, s1 _ ?_, hrun, hended, _, _, rfl, ?_, ⟨_, rfl⟩, hW, hsame.mono (by decide) (by decide)⟩
  · show Steps p.tables e below (s₁.setTop (mkF m 6 #[.val (.ref ax), .val (.ref ax), .unset] [(.int (1 : Int32))])) _
    exact retN X0 hx (t := .boolean) Bd.returns (by simp) (Jvm.hb hby d_jdk_42_method_66_6) hr
  · show Q_rmSEqS Z _ h0 n0 _ s₁.heap _
    rw [e0]
    exact ⟨rfl, N0, rfl⟩
theorem d_jdk_29_method_69_0 : decode jdk_29_method_69_code 0 = .ok (.iload_n 0, 1) := by decide +kernel
theorem d_jdk_29_method_69_1 : decode jdk_29_method_69_code 1 = .ok (.iload_n 1, 1) := by decide +kernel
theorem d_jdk_29_method_69_2 : decode jdk_29_method_69_code 2 = .ok (.if_icmp .gt 7, 3) := by decide +kernel
theorem d_jdk_29_method_69_9 : decode jdk_29_method_69_code 9 = .ok (.iload_n 1, 1) := by decide +kernel
theorem d_jdk_29_method_69_10 : decode jdk_29_method_69_code 10 = .ok (.ireturn, 1) := by decide +kernel
theorem d_jdk_29_method_69_5 : decode jdk_29_method_69_code 5 = .ok (.iload_n 0, 1) := by decide +kernel
theorem d_jdk_29_method_69_6 : decode jdk_29_method_69_code 6 = .ok (.goto 4, 3) := by decide +kernel
theorem ef_rmMin (m : MethodId) (x0 : Int32) (x1 : Int32) : entryFrame m #[(.int x0), (.int x1)] 2 = mkF m 0 #[.val (.int x0), .val (.int x1)] [] := by first | (simp [entryFrame, mkF, argsToLocals, Value.category]; done) | rfl
def Q_rmMin (Z : State) (i : Nat) (j : Nat) (h0 : Heap) (n0 : Nat) (v : Option Value) (h : Heap) (L : List Loc) : Prop := (v = some (.int (Int32.ofNat (min i j)))) ∧ (Fr n0 L) ∧ (h = h0)
set_option maxRecDepth 65536 in
set_option maxHeartbeats 40000000 in
theorem rmMin (l : Launch) (Z : State) (a0 : Array Value) (hw : ∀ d ∈ tables_1, d.before a0 Z = true) (ws : List Jvm.Cond) (i : Nat) (j : Nat) (h0 : Heap) (n0 : Nat) (Z0 : n0 ≤ h0.size) (hi : i ≤ 8000) (hj : j ≤ 8000) :
    MetFree l (⟨"java/lang/Math", "min", "(II)I"⟩ : MethodName) (head1 (Jvm.Cond.code (⟨"java/lang/Math", "min", "(II)I"⟩ : MethodName) jdk_29_method_69_code 2 (some .int) :: ws) ({ frames := 0, cells := 0, slots := 0, locals := 0 } : Room)) (fun ar_ U => ar_ = #[(.int (Int32.ofNat i)), (.int (Int32.ofNat j))] ∧ Z.Warmed39 U.vm ∧ U.heap = h0) (fun _ _ _ _ _ => True) (fun _ U oc_ U' => ∃ v L, oc_ = .returned v ∧ Q_rmMin Z i j h0 n0 v U'.heap L ∧ FrameEnd U oc_ U' L ({ frames := 0, cells := 0, slots := 0, locals := 0 } : Room).cells ({ frames := 0, cells := 0, slots := 0, locals := 0 } : Room).slots) := by
  refine MetFree.of_bodySF (Jvm.Free.JP.mathPlain rfl (by decide +kernel)) hisR ?_
  intro p e s m args below meth c s₁ Bd hml0 hP hK
  obtain ⟨rfl, hZ, hh⟩ := hP
  have hx := Bd.exec
  have hby := Bd.bytes
  have hml : c.maxLocals = 2 := hml0
  have hown : s.vm.findClass "java/lang/Math" = some m.cls := findClass_of_methodNamed Bd.named
  have hnm := (name_of_methodNamed Bd.named Bd.method).1
  have X0 : Stand p l e ({ frames := 0, cells := 0, slots := 0, locals := 0 } : Room) s m #[(.int (Int32.ofNat i)), (.int (Int32.ofNat j))] below meth c s₁ [] 0 0 := Stand.of_body Bd
  have e0 : s₁.heap = h0 := by rw [← hh, Bd.state]; rfl
  have N0 := Fr.nil n0
  have pre0 : ∀ t_, Steps p.tables e below (s₁.setTop (mkF m 0 #[.val (.int (Int32.ofNat i)), .val (.int (Int32.ofNat j))] [])) t_ → Steps p.tables e below (s₁.setTop (entryFrame m #[(.int (Int32.ofNat i)), (.int (Int32.ofNat j))] 2)) t_ := fun t_ k_ => castTop (ef_rmMin m (Int32.ofNat i) (Int32.ofNat j)) k_
  have s1 : ∀ t_, Steps p.tables e below (s₁.setTop (mkF m 2 #[.val (.int (Int32.ofNat i)), .val (.int (Int32.ofNat j))] [(.int (Int32.ofNat j)), (.int (Int32.ofNat i))])) t_ → Steps p.tables e below (s₁.setTop (entryFrame m #[(.int (Int32.ofNat i)), (.int (Int32.ofNat j))] 2)) t_ := fun t_ k_ => pre0 t_ (by
    show Steps p.tables e below (s₁.setTop (mkF m 0 #[.val (.int (Int32.ofNat i)), .val (.int (Int32.ofNat j))] [])) t_
    refine XS.iloadN X0.here hx rfl (Jvm.hb hby d_jdk_29_method_69_0) rfl ?_
    refine XS.iloadN X0.here hx rfl (Jvm.hb hby d_jdk_29_method_69_1) rfl ?_
    show Steps p.tables e below (s₁.setTop (mkF m 2 #[.val (.int (Int32.ofNat i)), .val (.int (Int32.ofNat j))] [(.int (Int32.ofNat j)), (.int (Int32.ofNat i))])) t_
    exact k_)
  by_cases h2 : (Int32.ofNat j) < (Int32.ofNat i)
  · have s3 : ∀ t_, Steps p.tables e below (s₁.setTop (mkF m 10 #[.val (.int (Int32.ofNat i)), .val (.int (Int32.ofNat j))] [(.int (Int32.ofNat j))])) t_ → Steps p.tables e below (s₁.setTop (entryFrame m #[(.int (Int32.ofNat i)), (.int (Int32.ofNat j))] 2)) t_ := fun t_ k_ => s1 t_ (by
      show Steps p.tables e below (s₁.setTop (mkF m 2 #[.val (.int (Int32.ofNat i)), .val (.int (Int32.ofNat j))] [(.int (Int32.ofNat j)), (.int (Int32.ofNat i))])) t_
      refine XS.icmpYes X0.here hx rfl (pc0 := 2) (pc' := 9) rfl (Jvm.hb hby d_jdk_29_method_69_2) rfl (tlt h2).2.2.1 (by decide) (by decide) ?_
      show Steps p.tables e below (s₁.setTop (mkF m 9 #[.val (.int (Int32.ofNat i)), .val (.int (Int32.ofNat j))] [])) _
      refine XS.iloadN X0.here hx rfl (Jvm.hb hby d_jdk_29_method_69_9) rfl ?_
      show Steps p.tables e below (s₁.setTop (mkF m 10 #[.val (.int (Int32.ofNat i)), .val (.int (Int32.ofNat j))] [(.int (Int32.ofNat j))])) t_
      exact k_)
    obtain ⟨fs, hr, hrun, hended, hW, hsame⟩ := X0.leave (v := some (.int (Int32.ofNat j))) (fun h => by rw [Bd.returns] at h; cases h)
    refine ⟨_, _, s3 _ ?_, hrun, hended, _, _, rfl, ?_, ⟨_, rfl⟩, hW, hsame.mono (by decide) (by decide)⟩
    · show Steps p.tables e below (s₁.setTop (mkF m 10 #[.val (.int (Int32.ofNat i)), .val (.int (Int32.ofNat j))] [(.int (Int32.ofNat j))])) _
      exact retI X0 hx Bd.returns (Jvm.hb hby d_jdk_29_method_69_10) hr
    · show Q_rmMin Z _ _ h0 n0 _ s₁.heap _
      rw [e0]
      exact ⟨(by rw [own_minF hi hj h2]), N0, rfl⟩
  · have s4 : ∀ t_, Steps p.tables e below (s₁.setTop (mkF m 10 #[.val (.int (Int32.ofNat i)), .val (.int (Int32.ofNat j))] [(.int (Int32.ofNat i))])) t_ → Steps p.tables e below (s₁.setTop (entryFrame m #[(.int (Int32.ofNat i)), (.int (Int32.ofNat j))] 2)) t_ := fun t_ k_ => s1 t_ (by
      show Steps p.tables e below (s₁.setTop (mkF m 2 #[.val (.int (Int32.ofNat i)), .val (.int (Int32.ofNat j))] [(.int (Int32.ofNat j)), (.int (Int32.ofNat i))])) t_
      refine XS.icmpNo X0.here hx rfl (Jvm.hb hby d_jdk_29_method_69_2) rfl (flt h2).2.2.1 ?_
      show Steps p.tables e below (s₁.setTop (mkF m 5 #[.val (.int (Int32.ofNat i)), .val (.int (Int32.ofNat j))] [])) _
      refine XS.iloadN X0.here hx rfl (Jvm.hb hby d_jdk_29_method_69_5) rfl ?_
      refine XS.goto X0.here hx rfl (pc0 := 6) (pc' := 10) rfl (Jvm.hb hby d_jdk_29_method_69_6) (by decide) (by decide) ?_
      show Steps p.tables e below (s₁.setTop (mkF m 10 #[.val (.int (Int32.ofNat i)), .val (.int (Int32.ofNat j))] [(.int (Int32.ofNat i))])) t_
      exact k_)
    obtain ⟨fs, hr, hrun, hended, hW, hsame⟩ := X0.leave (v := some (.int (Int32.ofNat i))) (fun h => by rw [Bd.returns] at h; cases h)
    refine ⟨_, _, s4 _ ?_, hrun, hended, _, _, rfl, ?_, ⟨_, rfl⟩, hW, hsame.mono (by decide) (by decide)⟩
    · show Steps p.tables e below (s₁.setTop (mkF m 10 #[.val (.int (Int32.ofNat i)), .val (.int (Int32.ofNat j))] [(.int (Int32.ofNat i))])) _
      exact retI X0 hx Bd.returns (Jvm.hb hby d_jdk_29_method_69_10) hr
    · show Q_rmMin Z _ _ h0 n0 _ s₁.heap _
      rw [e0]
      exact ⟨(by rw [own_minT hi hj h2]), N0, rfl⟩
theorem pn_java_util_Arrays : plainName "java/util/Arrays" = true := by first | (simp [plainName, overriddenIn]; done) | decide +kernel
theorem d_jdk_65_method_131_0 : decode jdk_65_method_131_code 0 = .ok (.iload_n 1, 1) := by decide +kernel
theorem d_jdk_65_method_131_1 : decode jdk_65_method_131_code 1 = .ok (.iload_n 0, 1) := by decide +kernel
theorem d_jdk_65_method_131_2 : decode jdk_65_method_131_code 2 = .ok (.if_icmp .ge 35, 3) := by decide +kernel
theorem d_jdk_65_method_131_37 : decode jdk_65_method_131_code 37 = .ok (.return_, 1) := by decide +kernel
theorem ef_rmCkL (m : MethodId) (x0 : Int32) (x1 : Int32) : entryFrame m #[(.int x0), (.int x1)] 2 = mkF m 0 #[.val (.int x0), .val (.int x1)] [] := by first | (simp [entryFrame, mkF, argsToLocals, Value.category]; done) | rfl
def Q_rmCkL (Z : State) (k : Nat) (h0 : Heap) (n0 : Nat) (v : Option Value) (h : Heap) (L : List Loc) : Prop := (v = none) ∧ (Fr n0 L) ∧ (h = h0)
set_option maxRecDepth 65536 in
set_option maxHeartbeats 40000000 in
theorem rmCkL (l : Launch) (Z : State) (a0 : Array Value) (hw : ∀ d ∈ tables_1, d.before a0 Z = true) (ws : List Jvm.Cond) (k : Nat) (h0 : Heap) (n0 : Nat) (Z0 : n0 ≤ h0.size) (hk : k ≤ 8000) :
    MetFree l (⟨"java/util/Arrays", "checkLength", "(II)V"⟩ : MethodName) (head1 (Jvm.Cond.code (⟨"java/util/Arrays", "checkLength", "(II)V"⟩ : MethodName) jdk_65_method_131_code 2 none :: ws) ({ frames := 0, cells := 0, slots := 0, locals := 0 } : Room)) (fun ar_ U => ar_ = #[(.int (0 : Int32)), (.int (Int32.ofNat k))] ∧ Z.Warmed39 U.vm ∧ U.heap = h0) (fun _ _ _ _ _ => True) (fun _ U oc_ U' => ∃ v L, oc_ = .returned v ∧ Q_rmCkL Z k h0 n0 v U'.heap L ∧ FrameEnd U oc_ U' L ({ frames := 0, cells := 0, slots := 0, locals := 0 } : Room).cells ({ frames := 0, cells := 0, slots := 0, locals := 0 } : Room).slots) := by
  refine MetFree.of_bodySF (plainFor_of_name pn_java_util_Arrays) hisR ?_
  intro p e s m args below meth c s₁ Bd hml0 hP hK
  obtain ⟨rfl, hZ, hh⟩ := hP
  have hx := Bd.exec
  have hby := Bd.bytes
  have hml : c.maxLocals = 2 := hml0
  have hown : s.vm.findClass "java/util/Arrays" = some m.cls := findClass_of_methodNamed Bd.named
  have hnm := (name_of_methodNamed Bd.named Bd.method).1
  have X0 : Stand p l e ({ frames := 0, cells := 0, slots := 0, locals := 0 } : Room) s m #[(.int (0 : Int32)), (.int (Int32.ofNat k))] below meth c s₁ [] 0 0 := Stand.of_body Bd
  have e0 : s₁.heap = h0 := by rw [← hh, Bd.state]; rfl
  have N0 := Fr.nil n0
  have pre0 : ∀ t_, Steps p.tables e below (s₁.setTop (mkF m 0 #[.val (.int (0 : Int32)), .val (.int (Int32.ofNat k))] [])) t_ → Steps p.tables e below (s₁.setTop (entryFrame m #[(.int (0 : Int32)), (.int (Int32.ofNat k))] 2)) t_ := fun t_ k_ => castTop (ef_rmCkL m (0 : Int32) (Int32.ofNat k)) k_
  have s1 : ∀ t_, Steps p.tables e below (s₁.setTop (mkF m 37 #[.val (.int (0 : Int32)), .val (.int (Int32.ofNat k))] [])) t_ → Steps p.tables e below (s₁.setTop (entryFrame m #[(.int (0 : Int32)), (.int (Int32.ofNat k))] 2)) t_ := fun t_ k_ => pre0 t_ (by
    show Steps p.tables e below (s₁.setTop (mkF m 0 #[.val (.int (0 : Int32)), .val (.int (Int32.ofNat k))] [])) t_
    refine XS.iloadN X0.here hx rfl (Jvm.hb hby d_jdk_65_method_131_0) rfl ?_
    refine XS.iloadN X0.here hx rfl (Jvm.hb hby d_jdk_65_method_131_1) rfl ?_
    refine XS.icmpYes X0.here hx rfl (pc0 := 2) (pc' := 37) rfl (Jvm.hb hby d_jdk_65_method_131_2) rfl (flt (own_nn hk)).2.1 (by decide) (by decide) ?_
    show Steps p.tables e below (s₁.setTop (mkF m 37 #[.val (.int (0 : Int32)), .val (.int (Int32.ofNat k))] [])) _
    show Steps p.tables e below (s₁.setTop (mkF m 37 #[.val (.int (0 : Int32)), .val (.int (Int32.ofNat k))] [])) t_
    exact k_)
  obtain ⟨fs, hr, hrun, hended, hW, hsame⟩ := X0.leave (v := none) (fun _ => rfl)
  refine ⟨_, _, s1 _ ?_, hrun, hended, _, _, rfl, ?_, ⟨_, rfl⟩, hW, hsame.mono (by decide) (by decide)⟩
  · show Steps p.tables e below (s₁.setTop (mkF m 37 #[.val (.int (0 : Int32)), .val (.int (Int32.ofNat k))] [])) _
    exact X0.returnOut hx Bd.returns (Jvm.hb hby d_jdk_65_method_131_37) hr
  · show Q_rmCkL Z _ h0 n0 _ s₁.heap _
    rw [e0]
    exact ⟨rfl, N0, rfl⟩
theorem d_jdk_65_method_133_0 : decode jdk_65_method_133_code 0 = .ok (.iload_n 1, 1) := by decide +kernel
theorem d_jdk_65_method_133_1 : decode jdk_65_method_133_code 1 = .ok (.iload_n 2, 1) := by decide +kernel
theorem pd__II_V : parseMethodDescriptor "(II)V" = some ⟨[.int, .int], none⟩ := by decide +kernel
theorem d_jdk_65_method_133_2 : decode jdk_65_method_133_code 2 = .ok (.invokestatic 343, 3) := by decide +kernel
theorem d_jdk_65_method_133_5 : decode jdk_65_method_133_code 5 = .ok (.iload_n 2, 1) := by decide +kernel
theorem d_jdk_65_method_133_6 : decode jdk_65_method_133_code 6 = .ok (.iload_n 1, 1) := by decide +kernel
theorem d_jdk_65_method_133_7 : decode jdk_65_method_133_code 7 = .ok (.isub, 1) := by decide +kernel
theorem d_jdk_65_method_133_8 : decode jdk_65_method_133_code 8 = .ok (.istore_n 3, 1) := by decide +kernel
theorem d_jdk_65_method_133_9 : decode jdk_65_method_133_code 9 = .ok (.iload_n 3, 1) := by decide +kernel
theorem d_jdk_65_method_133_10 : decode jdk_65_method_133_code 10 = .ok (.newarray .byte, 2) := by decide +kernel
theorem d_jdk_65_method_133_12 : decode jdk_65_method_133_code 12 = .ok (.astore 4, 2) := by decide +kernel
theorem d_jdk_65_method_133_14 : decode jdk_65_method_133_code 14 = .ok (.aload_n 0, 1) := by decide +kernel
theorem d_jdk_65_method_133_15 : decode jdk_65_method_133_code 15 = .ok (.iload_n 1, 1) := by decide +kernel
theorem d_jdk_65_method_133_16 : decode jdk_65_method_133_code 16 = .ok (.aload 4, 2) := by decide +kernel
theorem d_jdk_65_method_133_18 : decode jdk_65_method_133_code 18 = .ok (.iconst 0, 1) := by decide +kernel
theorem d_jdk_65_method_133_19 : decode jdk_65_method_133_code 19 = .ok (.aload_n 0, 1) := by decide +kernel
theorem d_jdk_65_method_133_20 : decode jdk_65_method_133_code 20 = .ok (.arraylength, 1) := by decide +kernel
theorem d_jdk_65_method_133_21 : decode jdk_65_method_133_code 21 = .ok (.iload_n 1, 1) := by decide +kernel
theorem d_jdk_65_method_133_22 : decode jdk_65_method_133_code 22 = .ok (.isub, 1) := by decide +kernel
theorem d_jdk_65_method_133_23 : decode jdk_65_method_133_code 23 = .ok (.iload_n 3, 1) := by decide +kernel
theorem pd__II_I : parseMethodDescriptor "(II)I" = some ⟨[.int, .int], some .int⟩ := by decide +kernel
theorem d_jdk_65_method_133_24 : decode jdk_65_method_133_code 24 = .ok (.invokestatic 304, 3) := by decide +kernel
theorem d_jdk_65_method_133_27 : decode jdk_65_method_133_code 27 = .ok (.invokestatic 150, 3) := by decide +kernel
theorem d_jdk_65_method_133_30 : decode jdk_65_method_133_code 30 = .ok (.aload 4, 2) := by decide +kernel
theorem d_jdk_65_method_133_32 : decode jdk_65_method_133_code 32 = .ok (.areturn, 1) := by decide +kernel
theorem ef_rmCRB (m : MethodId) (x0 : Addr) (x1 : Int32) (x2 : Int32) : entryFrame m #[(.ref x0), (.int x1), (.int x2)] 5 = mkF m 0 #[.val (.ref x0), .val (.int x1), .val (.int x2), .unset, .unset] [] := by first | (simp [entryFrame, mkF, argsToLocals, Value.category]; done) | rfl
def Q_rmCRB (Z : State) (sa : Addr) (kx : ClassId) (xs : List Int32) (k : Nat) (h0 : Heap) (n0 : Nat) (v : Option Value) (h : Heap) (L : List Loc) : Prop := ∃ (b : Addr), ∃ (kb : ClassId), (v = some (.ref b)) ∧ (Fr n0 L) ∧ (Keep h0 h []) ∧ (Arv Z h b kb .byte (Int32.ofNat k) ((xs.take k).map Value.int) (.int (0 : Int32))) ∧ (h0.size ≤ b)
set_option maxRecDepth 65536 in
set_option maxHeartbeats 40000000 in
theorem rmCRB (l : Launch) (Z : State) (a0 : Array Value) (hw : ∀ d ∈ tables_1, d.before a0 Z = true) (ws : List Jvm.Cond) (sa : Addr) (kx : ClassId) (xs : List Int32) (k : Nat) (h0 : Heap) (n0 : Nat) (Z0 : n0 ≤ h0.size) (I1 : Arv Z h0 sa kx .byte (Int32.ofNat xs.length) (xs.map Value.int) (.int (0 : Int32))) (hkx : k < xs.length) (hxb : xs.length ≤ 16) :
    MetFree l (⟨"java/util/Arrays", "copyOfRangeByte", "([BII)[B"⟩ : MethodName) (head1 (Jvm.Cond.code (⟨"java/util/Arrays", "copyOfRangeByte", "([BII)[B"⟩ : MethodName) jdk_65_method_133_code 5 (some (.array .byte)) :: ws) ({ frames := 1, cells := 1, slots := 16, locals := 40 } : Room)) (fun ar_ U => ar_ = #[(.ref sa), (.int (0 : Int32)), (.int (Int32.ofNat k))] ∧ Z.Warmed39 U.vm ∧ U.heap = h0) (fun _ _ _ _ _ => True) (fun _ U oc_ U' => ∃ v L, oc_ = .returned v ∧ Q_rmCRB Z sa kx xs k h0 n0 v U'.heap L ∧ FrameEnd U oc_ U' L ({ frames := 1, cells := 1, slots := 16, locals := 40 } : Room).cells ({ frames := 1, cells := 1, slots := 16, locals := 40 } : Room).slots) := by
  refine MetFree.of_bodySF (plainFor_of_name pn_java_util_Arrays) hisR ?_
  intro p e s m args below meth c s₁ Bd hml0 hP hK
  obtain ⟨rfl, hZ, hh⟩ := hP
  have hx := Bd.exec
  have hby := Bd.bytes
  have hml : c.maxLocals = 5 := hml0
  have hown : s.vm.findClass "java/util/Arrays" = some m.cls := findClass_of_methodNamed Bd.named
  have hnm := (name_of_methodNamed Bd.named Bd.method).1
  have X0 : Stand p l e ({ frames := 1, cells := 1, slots := 16, locals := 40 } : Room) s m #[(.ref sa), (.int (0 : Int32)), (.int (Int32.ofNat k))] below meth c s₁ [] 0 0 := Stand.of_body Bd
  have e0 : s₁.heap = h0 := by rw [← hh, Bd.state]; rfl
  have N0 := Fr.nil n0
  have pre0 : ∀ t_, Steps p.tables e below (s₁.setTop (mkF m 0 #[.val (.ref sa), .val (.int (0 : Int32)), .val (.int (Int32.ofNat k)), .unset, .unset] [])) t_ → Steps p.tables e below (s₁.setTop (entryFrame m #[(.ref sa), (.int (0 : Int32)), (.int (Int32.ofNat k))] 5)) t_ := fun t_ k_ => castTop (ef_rmCRB m sa (0 : Int32) (Int32.ofNat k)) k_
  have lt_I1 : @LT.lt Nat _ sa h0.size := I1.lt
  have Zc1 : n0 ≤ h0.size := by omega
  obtain ⟨_, _, ⟨T2, L2, k2, n2⟩, -, X2, ⟨Lc2, hQ2, l2, y2, z2⟩, st2⟩ := Jvm.LawKit.callS X0 hx (y := (⟨"java/util/Arrays", "checkLength", "(II)V"⟩ : MethodName)) hown (mvT hZ (hw _ (List.mem_of_getElem? (i := 107) rfl))) (mvT hZ (hw _ (List.mem_of_getElem? (i := 108) rfl))) (mvT hZ (hw _ (List.mem_of_getElem? (i := 102) rfl))) (mvT hZ (hw _ (List.mem_of_getElem? (i := 109) rfl))) (by decide) (backOf (W := 0) (rmCkL l Z a0 hw [] k h0 n0 Zc1 (by first | assumption | omega | rfl | decide : k ≤ 8000)) hZ (hw _ (List.mem_of_getElem? (i := 109) rfl)) (hw _ (List.mem_of_getElem? (i := 102) rfl)) (by decide) (by decide)) (g := (mkF m 2 #[.val (.ref sa), .val (.int (0 : Int32)), .val (.int (Int32.ofNat k)), .unset, .unset] [(.int (Int32.ofNat k)), (.int (0 : Int32))])) rfl (by rw [hml]; rfl) (argsL := [(.int (0 : Int32)), (.int (Int32.ofNat k))]) (rest := []) (lenOf pd__II_V rfl) rfl (by show 2 * 0 + _ ≤ _; exact Nat.le_of_eq rfl) (Jvm.hb hby d_jdk_65_method_133_2) (fun _ _ => ⟨rfl, e0, (by decide : 0 + 0 ≤ _), (by decide : 0 + 0 ≤ _)⟩)
  dsimp only [Pt.U, Pt.locs, Pt.cells, Pt.slots] at X2 l2 y2 z2 st2 hQ2
  subst l2 y2 z2
  obtain ⟨rfl, N2q, e2⟩ := hQ2
  have N2 := Fr.app N0 N2q
  obtain ⟨T3, h3, k3, X3, e3, E3, A3, st3⟩ := newP X2 hx hZ (hw _ (List.mem_of_getElem? (i := 30) rfl)) e2 (g := (mkF m 10 #[.val (.ref sa), .val (.int (0 : Int32)), .val (.int (Int32.ofNat k)), .val (.int (Int32.ofNat k)), .unset] [(.int (Int32.ofNat k))])) rfl (Jvm.hb hby d_jdk_65_method_133_10) rfl (own_nn (by omega)) (cap := 16) (by rw [own_tn (by omega)]; omega) (by decide) (by decide) (by decide)
  obtain ⟨b3, g3⟩ : ∃ z, z = h0.size := ⟨_, rfl⟩
  rw [← g3] at A3 st3
  have z4 : h0.size ≤ h3.size := E3.1
  have l3 : b3 < h3.size := A3.lt
  have V3 : Arv Z h3 b3 k3 .byte (Int32.ofNat k) ((List.replicate k (0 : Int32)).map Value.int) (.int (0 : Int32)) := (Arv.new A3 (own_nn (by omega))).pad (by rw [List.map_replicate]; exact pad_rep [] _ k)
  have f5 : Arv Z h3 sa kx .byte (Int32.ofNat xs.length) (xs.map Value.int) (.int (0 : Int32)) := (I1.ext E3)
  obtain ⟨cl6, Ar6, -, S6, M6, -, -⟩ := id f5
  have Zc7 : n0 ≤ h3.size := by omega
  obtain ⟨_, _, ⟨T8, L8, k8, n8⟩, -, X8, ⟨Lc8, hQ8, l8, y8, z8⟩, st8⟩ := Jvm.LawKit.callS X3 hx (y := (⟨"java/lang/Math", "min", "(II)I"⟩ : MethodName)) hown (mvT hZ (hw _ (List.mem_of_getElem? (i := 110) rfl))) (mvT hZ (hw _ (List.mem_of_getElem? (i := 111) rfl))) (mvT hZ (hw _ (List.mem_of_getElem? (i := 112) rfl))) (mvT hZ (hw _ (List.mem_of_getElem? (i := 113) rfl))) (by decide) (backOf (W := 4) (rmMin l Z a0 hw [] xs.length k h3 n0 Zc7 (by first | assumption | omega | rfl | decide : xs.length ≤ 8000) (by first | assumption | omega | rfl | decide : k ≤ 8000)) hZ (hw _ (List.mem_of_getElem? (i := 113) rfl)) (hw _ (List.mem_of_getElem? (i := 112) rfl)) (by decide) (by decide)) (g := (mkF m 24 #[.val (.ref sa), .val (.int (0 : Int32)), .val (.int (Int32.ofNat k)), .val (.int (Int32.ofNat k)), .val (.ref b3)] [(.int (Int32.ofNat k)), (.int (Int32.ofNat xs.length)), (.int (0 : Int32)), (.ref b3), (.int (0 : Int32)), (.ref sa)])) rfl (by rw [hml]; rfl) (argsL := [(.int (Int32.ofNat xs.length)), (.int (Int32.ofNat k))]) (rest := [(.int (0 : Int32)), (.ref b3), (.int (0 : Int32)), (.ref sa)]) (lenOf pd__II_I rfl) rfl (by show 2 * 0 + _ ≤ _; exact Nat.le_of_eq rfl) (Jvm.hb hby d_jdk_65_method_133_24) (fun _ _ => ⟨rfl, e3, (by decide : 1 + 0 ≤ _), (by decide : 16 + 0 ≤ _)⟩)
  dsimp only [Pt.U, Pt.locs, Pt.cells, Pt.slots] at X8 l8 y8 z8 st8 hQ8
  subst l8 y8 z8
  obtain ⟨rfl, N8q, e8⟩ := hQ8
  have N8 := Fr.app N2 N8q
  obtain ⟨T9, h9, L9, X9, e9, N9, K9, Vr9, st9⟩ := cpA X8 hx hZ hown (hw _ (List.mem_of_getElem? (i := 114) rfl)) (hw _ (List.mem_of_getElem? (i := 117) rfl)) (hw _ (List.mem_of_getElem? (i := 115) rfl)) (hw _ (List.mem_of_getElem? (i := 116) rfl)) e8 f5 V3 (Or.inl ⟨rfl, rfl⟩) (sp := (0 : Int32)) (dp := (0 : Int32)) (nn := (Int32.ofNat k)) (by decide) (by decide) (own_nn (by omega)) (by rw [own_z0, own_tn (by omega), own_tn (by omega)]; omega) (by rw [own_z0, own_tn (by omega)]; omega) rfl (by rw [own_z0, own_tn (by omega)]; simp) N8 (show n0 ≤ b3 by omega) (g := (mkF m 27 #[.val (.ref sa), .val (.int (0 : Int32)), .val (.int (Int32.ofNat k)), .val (.int (Int32.ofNat k)), .val (.ref b3)] [(.int (Int32.ofNat k)), (.int (0 : Int32)), (.ref b3), (.int (0 : Int32)), (.ref sa)])) rfl (by rw [hml]; rfl) rfl (Jvm.hb hby d_jdk_65_method_133_27) (by decide) (W := 0) (by show 2 * 0 + _ ≤ _; exact Nat.le_of_eq rfl) (by decide)
  have z10 : h3.size ≤ h9.size := K9.1
  have V9 : Arv Z h9 b3 k3 .byte (Int32.ofNat k) ((xs.take k).map Value.int) (.int (0 : Int32)) := own_arvcast (own_cpC xs k (by omega) (by omega)) Vr9
  have s11 : ∀ t_, Steps p.tables e below (T9.setTop (mkF m 32 #[.val (.ref sa), .val (.int (0 : Int32)), .val (.int (Int32.ofNat k)), .val (.int (Int32.ofNat k)), .val (.ref b3)] [(.ref b3)])) t_ → Steps p.tables e below (s₁.setTop (entryFrame m #[(.ref sa), (.int (0 : Int32)), (.int (Int32.ofNat k))] 5)) t_ := fun t_ k_ => pre0 t_ (by
    show Steps p.tables e below (s₁.setTop (mkF m 0 #[.val (.ref sa), .val (.int (0 : Int32)), .val (.int (Int32.ofNat k)), .unset, .unset] [])) t_
    refine XS.iloadN X0.here hx rfl (Jvm.hb hby d_jdk_65_method_133_0) rfl ?_
    refine XS.iloadN X0.here hx rfl (Jvm.hb hby d_jdk_65_method_133_1) rfl ?_
    refine st2 _ ?_
    show Steps p.tables e below (T2.setTop (mkF m 5 #[.val (.ref sa), .val (.int (0 : Int32)), .val (.int (Int32.ofNat k)), .unset, .unset] [])) _
    refine XS.iloadN X2.here hx rfl (Jvm.hb hby d_jdk_65_method_133_5) rfl ?_
    refine XS.iloadN X2.here hx rfl (Jvm.hb hby d_jdk_65_method_133_6) rfl ?_
    refine XS.isub X2.here hx rfl (Jvm.hb hby d_jdk_65_method_133_7) rfl ?_
    show Steps p.tables e below (T2.setTop (mkF m 8 #[.val (.ref sa), .val (.int (0 : Int32)), .val (.int (Int32.ofNat k)), .unset, .unset] [(.int ((Int32.ofNat k) - (0 : Int32)))])) _
    refine castTop (g' := (mkF m 8 #[.val (.ref sa), .val (.int (0 : Int32)), .val (.int (Int32.ofNat k)), .unset, .unset] [(.int (Int32.ofNat k))])) (by rw [Int32.sub_zero]) ?_
    show Steps p.tables e below (T2.setTop (mkF m 8 #[.val (.ref sa), .val (.int (0 : Int32)), .val (.int (Int32.ofNat k)), .unset, .unset] [(.int (Int32.ofNat k))])) _
    refine XS.istoreN X2.here hx rfl (Jvm.hb hby d_jdk_65_method_133_8) rfl (l' := #[.val (.ref sa), .val (.int (0 : Int32)), .val (.int (Int32.ofNat k)), .val (.int (Int32.ofNat k)), .unset]) rfl ?_
    refine XS.iloadN X2.here hx rfl (Jvm.hb hby d_jdk_65_method_133_9) rfl ?_
    refine st3 _ ?_
    show Steps p.tables e below (T3.setTop (mkF m 12 #[.val (.ref sa), .val (.int (0 : Int32)), .val (.int (Int32.ofNat k)), .val (.int (Int32.ofNat k)), .unset] [(.ref b3)])) _
    refine XS.astore X3.here hx rfl (Jvm.hb hby d_jdk_65_method_133_12) rfl rfl (l' := #[.val (.ref sa), .val (.int (0 : Int32)), .val (.int (Int32.ofNat k)), .val (.int (Int32.ofNat k)), .val (.ref b3)]) rfl ?_
    refine XS.aloadN X3.here hx rfl (Jvm.hb hby d_jdk_65_method_133_14) rfl rfl ?_
    refine XS.iloadN X3.here hx rfl (Jvm.hb hby d_jdk_65_method_133_15) rfl ?_
    refine XS.aload X3.here hx rfl (Jvm.hb hby d_jdk_65_method_133_16) rfl rfl ?_
    refine XS.iconst X3.here hx rfl (Jvm.hb hby d_jdk_65_method_133_18) ?_
    refine XS.aloadN X3.here hx rfl (Jvm.hb hby d_jdk_65_method_133_19) rfl rfl ?_
    show Steps p.tables e below (T3.setTop (mkF m 20 #[.val (.ref sa), .val (.int (0 : Int32)), .val (.int (Int32.ofNat k)), .val (.int (Int32.ofNat k)), .val (.ref b3)] [(.ref sa), (.int (0 : Int32)), (.ref b3), (.int (0 : Int32)), (.ref sa)])) _
    refine X3.arraylength hx (by rw [e3]; exact Ar6.1) (State.isArrayOf_alike hZ.alike Ar6.2.1) (g := (mkF m 20 #[.val (.ref sa), .val (.int (0 : Int32)), .val (.int (Int32.ofNat k)), .val (.int (Int32.ofNat k)), .val (.ref b3)] [(.ref sa), (.int (0 : Int32)), (.ref b3), (.int (0 : Int32)), (.ref sa)])) rfl rfl (Jvm.hb hby d_jdk_65_method_133_20) _ ?_
    rw [len_of S6 M6]
    show Steps p.tables e below (T3.setTop (mkF m 21 #[.val (.ref sa), .val (.int (0 : Int32)), .val (.int (Int32.ofNat k)), .val (.int (Int32.ofNat k)), .val (.ref b3)] [(.int (Int32.ofNat xs.length)), (.int (0 : Int32)), (.ref b3), (.int (0 : Int32)), (.ref sa)])) _
    refine XS.iloadN X3.here hx rfl (Jvm.hb hby d_jdk_65_method_133_21) rfl ?_
    refine XS.isub X3.here hx rfl (Jvm.hb hby d_jdk_65_method_133_22) rfl ?_
    show Steps p.tables e below (T3.setTop (mkF m 23 #[.val (.ref sa), .val (.int (0 : Int32)), .val (.int (Int32.ofNat k)), .val (.int (Int32.ofNat k)), .val (.ref b3)] [(.int ((Int32.ofNat xs.length) - (0 : Int32))), (.int (0 : Int32)), (.ref b3), (.int (0 : Int32)), (.ref sa)])) _
    refine castTop (g' := (mkF m 23 #[.val (.ref sa), .val (.int (0 : Int32)), .val (.int (Int32.ofNat k)), .val (.int (Int32.ofNat k)), .val (.ref b3)] [(.int (Int32.ofNat xs.length)), (.int (0 : Int32)), (.ref b3), (.int (0 : Int32)), (.ref sa)])) (by rw [Int32.sub_zero]) ?_
    show Steps p.tables e below (T3.setTop (mkF m 23 #[.val (.ref sa), .val (.int (0 : Int32)), .val (.int (Int32.ofNat k)), .val (.int (Int32.ofNat k)), .val (.ref b3)] [(.int (Int32.ofNat xs.length)), (.int (0 : Int32)), (.ref b3), (.int (0 : Int32)), (.ref sa)])) _
    refine XS.iloadN X3.here hx rfl (Jvm.hb hby d_jdk_65_method_133_23) rfl ?_
    refine st8 _ ?_
    show Steps p.tables e below (T8.setTop (mkF m 27 #[.val (.ref sa), .val (.int (0 : Int32)), .val (.int (Int32.ofNat k)), .val (.int (Int32.ofNat k)), .val (.ref b3)] [(.int (Int32.ofNat (min xs.length k))), (.int (0 : Int32)), (.ref b3), (.int (0 : Int32)), (.ref sa)])) _
    refine castTop (g' := (mkF m 27 #[.val (.ref sa), .val (.int (0 : Int32)), .val (.int (Int32.ofNat k)), .val (.int (Int32.ofNat k)), .val (.ref b3)] [(.int (Int32.ofNat k)), (.int (0 : Int32)), (.ref b3), (.int (0 : Int32)), (.ref sa)])) (by rw [Nat.min_eq_right (by omega)]) ?_
    show Steps p.tables e below (T8.setTop (mkF m 27 #[.val (.ref sa), .val (.int (0 : Int32)), .val (.int (Int32.ofNat k)), .val (.int (Int32.ofNat k)), .val (.ref b3)] [(.int (Int32.ofNat k)), (.int (0 : Int32)), (.ref b3), (.int (0 : Int32)), (.ref sa)])) _
    refine st9 _ ?_
    show Steps p.tables e below (T9.setTop (mkF m 30 #[.val (.ref sa), .val (.int (0 : Int32)), .val (.int (Int32.ofNat k)), .val (.int (Int32.ofNat k)), .val (.ref b3)] [])) _
    refine XS.aload X9.here hx rfl (Jvm.hb hby d_jdk_65_method_133_30) rfl rfl ?_
    show Steps p.tables e below (T9.setTop (mkF m 32 #[.val (.ref sa), .val (.int (0 : Int32)), .val (.int (Int32.ofNat k)), .val (.int (Int32.ofNat k)), .val (.ref b3)] [(.ref b3)])) t_
    exact k_)
  obtain ⟨fs, hr, hrun, hended, hW, hsame⟩ := X9.leave (v := some (.ref b3)) (fun h => by rw [Bd.returns] at h; cases h)
  refine ⟨_, _, s11 _ ?_, hrun, hended, _, _, rfl, ?_, ⟨_, rfl⟩, hW, hsame.mono (by decide) (by decide)⟩
  · show Steps p.tables e below (T9.setTop (mkF m 32 #[.val (.ref sa), .val (.int (0 : Int32)), .val (.int (Int32.ofNat k)), .val (.int (Int32.ofNat k)), .val (.ref b3)] [(.ref b3)])) _
    jvm_step X9.here [X9.here.top, hx, (Jvm.hb hby d_jdk_65_method_133_32), X9.method', Bd.returns, Value.isRef, FieldType.isReference]
    first | (intro acts; rw [hr _ acts rfl rfl rfl]) | rw [hr _ _ rfl rfl rfl]
    exact Steps.refl _
  · show Q_rmCRB Z _ _ _ _ h0 n0 _ T9.heap _
    rw [e9]
    exact ⟨b3, k3, rfl, N9, (((Keep.refl h0 []).ext E3).trans K9 (allS (Or.inr (show h0.size ≤ b3 by omega)) all0)), V9, by omega⟩
theorem d_jdk_65_method_132_0 : decode jdk_65_method_132_code 0 = .ok (.iload_n 1, 1) := by decide +kernel
theorem d_jdk_65_method_132_1 : decode jdk_65_method_132_code 1 = .ok (.ifCond .ne 9, 3) := by decide +kernel
theorem d_jdk_65_method_132_4 : decode jdk_65_method_132_code 4 = .ok (.iload_n 2, 1) := by decide +kernel
theorem d_jdk_65_method_132_5 : decode jdk_65_method_132_code 5 = .ok (.aload_n 0, 1) := by decide +kernel
theorem d_jdk_65_method_132_6 : decode jdk_65_method_132_code 6 = .ok (.arraylength, 1) := by decide +kernel
theorem d_jdk_65_method_132_7 : decode jdk_65_method_132_code 7 = .ok (.if_icmp .eq 10, 3) := by decide +kernel
theorem d_jdk_65_method_132_10 : decode jdk_65_method_132_code 10 = .ok (.aload_n 0, 1) := by decide +kernel
theorem d_jdk_65_method_132_11 : decode jdk_65_method_132_code 11 = .ok (.iload_n 1, 1) := by decide +kernel
theorem d_jdk_65_method_132_12 : decode jdk_65_method_132_code 12 = .ok (.iload_n 2, 1) := by decide +kernel
theorem pd___BII__B : parseMethodDescriptor "([BII)[B" = some ⟨[(.array .byte), .int, .int], some (.array .byte)⟩ := by decide +kernel
theorem d_jdk_65_method_132_13 : decode jdk_65_method_132_code 13 = .ok (.invokestatic 339, 3) := by decide +kernel
theorem d_jdk_65_method_132_16 : decode jdk_65_method_132_code 16 = .ok (.areturn, 1) := by decide +kernel
theorem ef_rmCR (m : MethodId) (x0 : Addr) (x1 : Int32) (x2 : Int32) : entryFrame m #[(.ref x0), (.int x1), (.int x2)] 3 = mkF m 0 #[.val (.ref x0), .val (.int x1), .val (.int x2)] [] := by first | (simp [entryFrame, mkF, argsToLocals, Value.category]; done) | rfl
def Q_rmCR (Z : State) (sa : Addr) (kx : ClassId) (xs : List Int32) (k : Nat) (h0 : Heap) (n0 : Nat) (v : Option Value) (h : Heap) (L : List Loc) : Prop := ∃ (b : Addr), ∃ (kb : ClassId), (v = some (.ref b)) ∧ (Fr n0 L) ∧ (Keep h0 h []) ∧ (Arv Z h b kb .byte (Int32.ofNat k) ((xs.take k).map Value.int) (.int (0 : Int32))) ∧ (h0.size ≤ b)
set_option maxRecDepth 65536 in
set_option maxHeartbeats 40000000 in
theorem rmCR (l : Launch) (Z : State) (a0 : Array Value) (hw : ∀ d ∈ tables_1, d.before a0 Z = true) (ws : List Jvm.Cond) (sa : Addr) (kx : ClassId) (xs : List Int32) (k : Nat) (h0 : Heap) (n0 : Nat) (Z0 : n0 ≤ h0.size) (I1 : Arv Z h0 sa kx .byte (Int32.ofNat xs.length) (xs.map Value.int) (.int (0 : Int32))) (hkx : k < xs.length) (hxb : xs.length ≤ 16) :
    MetFree l (⟨"java/util/Arrays", "copyOfRange", "([BII)[B"⟩ : MethodName) (head1 (Jvm.Cond.code (⟨"java/util/Arrays", "copyOfRange", "([BII)[B"⟩ : MethodName) jdk_65_method_132_code 3 (some (.array .byte)) :: ws) ({ frames := 2, cells := 1, slots := 16, locals := 56 } : Room)) (fun ar_ U => ar_ = #[(.ref sa), (.int (0 : Int32)), (.int (Int32.ofNat k))] ∧ Z.Warmed39 U.vm ∧ U.heap = h0) (fun _ _ _ _ _ => True) (fun _ U oc_ U' => ∃ v L, oc_ = .returned v ∧ Q_rmCR Z sa kx xs k h0 n0 v U'.heap L ∧ FrameEnd U oc_ U' L ({ frames := 2, cells := 1, slots := 16, locals := 56 } : Room).cells ({ frames := 2, cells := 1, slots := 16, locals := 56 } : Room).slots) := by
  refine MetFree.of_bodySF (plainFor_of_name pn_java_util_Arrays) hisR ?_
  intro p e s m args below meth c s₁ Bd hml0 hP hK
  obtain ⟨rfl, hZ, hh⟩ := hP
  have hx := Bd.exec
  have hby := Bd.bytes
  have hml : c.maxLocals = 3 := hml0
  have hown : s.vm.findClass "java/util/Arrays" = some m.cls := findClass_of_methodNamed Bd.named
  have hnm := (name_of_methodNamed Bd.named Bd.method).1
  have X0 : Stand p l e ({ frames := 2, cells := 1, slots := 16, locals := 56 } : Room) s m #[(.ref sa), (.int (0 : Int32)), (.int (Int32.ofNat k))] below meth c s₁ [] 0 0 := Stand.of_body Bd
  have e0 : s₁.heap = h0 := by rw [← hh, Bd.state]; rfl
  have N0 := Fr.nil n0
  have pre0 : ∀ t_, Steps p.tables e below (s₁.setTop (mkF m 0 #[.val (.ref sa), .val (.int (0 : Int32)), .val (.int (Int32.ofNat k))] [])) t_ → Steps p.tables e below (s₁.setTop (entryFrame m #[(.ref sa), (.int (0 : Int32)), (.int (Int32.ofNat k))] 3)) t_ := fun t_ k_ => castTop (ef_rmCR m sa (0 : Int32) (Int32.ofNat k)) k_
  have lt_I1 : @LT.lt Nat _ sa h0.size := I1.lt
  obtain ⟨cl1, Ar1, -, S1, M1, -, -⟩ := id I1
  have Zc2 : n0 ≤ h0.size := by omega
  obtain ⟨_, _, ⟨T3, L3, k3, n3⟩, -, X3, ⟨Lc3, hQ3, l3, y3, z3⟩, st3⟩ := Jvm.LawKit.callS X0 hx (y := (⟨"java/util/Arrays", "copyOfRangeByte", "([BII)[B"⟩ : MethodName)) hown (mvT hZ (hw _ (List.mem_of_getElem? (i := 104) rfl))) (mvT hZ (hw _ (List.mem_of_getElem? (i := 105) rfl))) (mvT hZ (hw _ (List.mem_of_getElem? (i := 102) rfl))) (mvT hZ (hw _ (List.mem_of_getElem? (i := 106) rfl))) (by decide) (backOf (W := 0) (rmCRB l Z a0 hw [] sa kx xs k h0 n0 Zc2 I1 (hkx : k < xs.length) (hxb : xs.length ≤ 16)) hZ (hw _ (List.mem_of_getElem? (i := 106) rfl)) (hw _ (List.mem_of_getElem? (i := 102) rfl)) (by decide) (by decide)) (g := (mkF m 13 #[.val (.ref sa), .val (.int (0 : Int32)), .val (.int (Int32.ofNat k))] [(.int (Int32.ofNat k)), (.int (0 : Int32)), (.ref sa)])) rfl (by rw [hml]; rfl) (argsL := [(.ref sa), (.int (0 : Int32)), (.int (Int32.ofNat k))]) (rest := []) (lenOf pd___BII__B rfl) rfl (by show 2 * 0 + _ ≤ _; exact Nat.le_of_eq rfl) (Jvm.hb hby d_jdk_65_method_132_13) (fun _ _ => ⟨rfl, e0, (by decide : 0 + 1 ≤ _), (by decide : 0 + 16 ≤ _)⟩)
  dsimp only [Pt.U, Pt.locs, Pt.cells, Pt.slots] at X3 l3 y3 z3 st3 hQ3
  subst l3 y3 z3
  obtain ⟨b_3, kb_3, rfl, N3q, K3, Fq3_0, P3_0⟩ := hQ3
  have N3 := Fr.app N0 N3q
  obtain ⟨h3, e3⟩ : ∃ z, T3.heap = z := ⟨_, rfl⟩
  rw [e3] at K3 Fq3_0
  have z4 : h0.size ≤ h3.size := K3.1
  have lt3_0 : @LT.lt Nat _ b_3 h3.size := Fq3_0.lt
  have s5 : ∀ t_, Steps p.tables e below (T3.setTop (mkF m 16 #[.val (.ref sa), .val (.int (0 : Int32)), .val (.int (Int32.ofNat k))] [(.ref b_3)])) t_ → Steps p.tables e below (s₁.setTop (entryFrame m #[(.ref sa), (.int (0 : Int32)), (.int (Int32.ofNat k))] 3)) t_ := fun t_ k_ => pre0 t_ (by
    show Steps p.tables e below (s₁.setTop (mkF m 0 #[.val (.ref sa), .val (.int (0 : Int32)), .val (.int (Int32.ofNat k))] [])) t_
    refine XS.iloadN X0.here hx rfl (Jvm.hb hby d_jdk_65_method_132_0) rfl ?_
    refine XS.ifNo X0.here hx rfl (Jvm.hb hby d_jdk_65_method_132_1) rfl ((if0 _ _).trans (teq (rfl : (0 : Int32) = (0 : Int32))).2) ?_
    show Steps p.tables e below (s₁.setTop (mkF m 4 #[.val (.ref sa), .val (.int (0 : Int32)), .val (.int (Int32.ofNat k))] [])) _
    refine XS.iloadN X0.here hx rfl (Jvm.hb hby d_jdk_65_method_132_4) rfl ?_
    refine XS.aloadN X0.here hx rfl (Jvm.hb hby d_jdk_65_method_132_5) rfl rfl ?_
    refine X0.arraylength hx (by rw [e0]; exact Ar1.1) (State.isArrayOf_alike hZ.alike Ar1.2.1) (g := (mkF m 6 #[.val (.ref sa), .val (.int (0 : Int32)), .val (.int (Int32.ofNat k))] [(.ref sa), (.int (Int32.ofNat k))])) rfl rfl (Jvm.hb hby d_jdk_65_method_132_6) _ ?_
    rw [len_of S1 M1]
    show Steps p.tables e below (s₁.setTop (mkF m 7 #[.val (.ref sa), .val (.int (0 : Int32)), .val (.int (Int32.ofNat k))] [(.int (Int32.ofNat xs.length)), (.int (Int32.ofNat k))])) _
    refine XS.icmpNo X0.here hx rfl (Jvm.hb hby d_jdk_65_method_132_7) rfl (feq (fun e => by have := own_inj (by omega) (by omega) e; omega)).1 ?_
    show Steps p.tables e below (s₁.setTop (mkF m 10 #[.val (.ref sa), .val (.int (0 : Int32)), .val (.int (Int32.ofNat k))] [])) _
    refine XS.aloadN X0.here hx rfl (Jvm.hb hby d_jdk_65_method_132_10) rfl rfl ?_
    refine XS.iloadN X0.here hx rfl (Jvm.hb hby d_jdk_65_method_132_11) rfl ?_
    refine XS.iloadN X0.here hx rfl (Jvm.hb hby d_jdk_65_method_132_12) rfl ?_
    refine st3 _ ?_
    show Steps p.tables e below (T3.setTop (mkF m 16 #[.val (.ref sa), .val (.int (0 : Int32)), .val (.int (Int32.ofNat k))] [(.ref b_3)])) _
    show Steps p.tables e below (T3.setTop (mkF m 16 #[.val (.ref sa), .val (.int (0 : Int32)), .val (.int (Int32.ofNat k))] [(.ref b_3)])) t_
    exact k_)
  obtain ⟨fs, hr, hrun, hended, hW, hsame⟩ := X3.leave (v := some (.ref b_3)) (fun h => by rw [Bd.returns] at h; cases h)
  refine ⟨_, _, s5 _ ?_, hrun, hended, _, _, rfl, ?_, ⟨_, rfl⟩, hW, hsame.mono (by decide) (by decide)⟩
  · show Steps p.tables e below (T3.setTop (mkF m 16 #[.val (.ref sa), .val (.int (0 : Int32)), .val (.int (Int32.ofNat k))] [(.ref b_3)])) _
    jvm_step X3.here [X3.here.top, hx, (Jvm.hb hby d_jdk_65_method_132_16), X3.method', Bd.returns, Value.isRef, FieldType.isReference]
    first | (intro acts; rw [hr _ acts rfl rfl rfl]) | rw [hr _ _ rfl rfl rfl]
    exact Steps.refl _
  · show Q_rmCR Z _ _ _ _ h0 n0 _ T3.heap _
    rw [e3]
    exact ⟨b_3, kb_3, rfl, N3, ((Keep.refl h0 []).trans K3 all0), Fq3_0, by omega⟩
theorem d_jdk_42_method_151_0 : decode jdk_42_method_151_code 0 = .ok (.aload_n 0, 1) := by decide +kernel
theorem d_jdk_42_method_151_1 : decode jdk_42_method_151_code 1 = .ok (.invokespecial 1, 3) := by decide +kernel
theorem d_jdk_42_method_151_4 : decode jdk_42_method_151_code 4 = .ok (.aload_n 0, 1) := by decide +kernel
theorem d_jdk_42_method_151_5 : decode jdk_42_method_151_code 5 = .ok (.aload_n 1, 1) := by decide +kernel
theorem d_jdk_42_method_151_6 : decode jdk_42_method_151_code 6 = .ok (.putfield 9, 3) := by decide +kernel
theorem d_jdk_42_method_151_9 : decode jdk_42_method_151_code 9 = .ok (.aload_n 0, 1) := by decide +kernel
theorem d_jdk_42_method_151_10 : decode jdk_42_method_151_code 10 = .ok (.iload_n 2, 1) := by decide +kernel
theorem d_jdk_42_method_151_11 : decode jdk_42_method_151_code 11 = .ok (.putfield 15, 3) := by decide +kernel
theorem d_jdk_42_method_151_14 : decode jdk_42_method_151_code 14 = .ok (.return_, 1) := by decide +kernel
theorem ef_rmSBB (m : MethodId) (x0 : Addr) (x1 : Addr) (x2 : Int32) : entryFrame m #[(.ref x0), (.ref x1), (.int x2)] 3 = mkF m 0 #[.val (.ref x0), .val (.ref x1), .val (.int x2)] [] := by first | (simp [entryFrame, mkF, argsToLocals, Value.category]; done) | rfl
def Q_rmSBB (Z : State) (a : Addr) (sa : Addr) (h0 : Heap) (n0 : Nat) (v : Option Value) (h : Heap) (L : List Loc) : Prop := (v = none) ∧ (Fr n0 L) ∧ (Keep h0 h [a]) ∧ (Exa Z h a "java/lang/String") ∧ (Fld Z h a "java/lang/String" "value" "[B" (.ref sa)) ∧ (Fld Z h a "java/lang/String" "coder" "B" (.int (0 : Int32)))
set_option maxRecDepth 65536 in
set_option maxHeartbeats 40000000 in
theorem rmSBB (l : Launch) (Z : State) (a0 : Array Value) (hw : ∀ d ∈ tables_1, d.before a0 Z = true) (ws : List Jvm.Cond) (a : Addr) (sa : Addr) (h0 : Heap) (n0 : Nat) (Z0 : n0 ≤ h0.size) (I1 : Exa Z h0 a "java/lang/String") (I2 : Fld Z h0 a "java/lang/String" "value" "[B" .null) (I3 : Fld Z h0 a "java/lang/String" "coder" "B" (.int (0 : Int32))) (ga : n0 ≤ a) :
    MetFree l (⟨"java/lang/String", "<init>", "([BB)V"⟩ : MethodName) (head1 (Jvm.Cond.code (⟨"java/lang/String", "<init>", "([BB)V"⟩ : MethodName) jdk_42_method_151_code 3 none :: ws) ({ frames := 1, cells := 0, slots := 0, locals := 12 } : Room)) (fun ar_ U => ar_ = #[(.ref a), (.ref sa), (.int (0 : Int32))] ∧ Z.Warmed39 U.vm ∧ U.heap = h0) (fun _ _ _ _ _ => True) (fun _ U oc_ U' => ∃ v L, oc_ = .returned v ∧ Q_rmSBB Z a sa h0 n0 v U'.heap L ∧ FrameEnd U oc_ U' L ({ frames := 1, cells := 0, slots := 0, locals := 12 } : Room).cells ({ frames := 1, cells := 0, slots := 0, locals := 12 } : Room).slots) := by
  refine MetFree.of_bodySF (plainFor_of_name pn_java_lang_String) hisR ?_
  intro p e s m args below meth c s₁ Bd hml0 hP hK
  obtain ⟨rfl, hZ, hh⟩ := hP
  have hx := Bd.exec
  have hby := Bd.bytes
  have hml : c.maxLocals = 3 := hml0
  have hown : s.vm.findClass "java/lang/String" = some m.cls := findClass_of_methodNamed Bd.named
  have hnm := (name_of_methodNamed Bd.named Bd.method).1
  have X0 : Stand p l e ({ frames := 1, cells := 0, slots := 0, locals := 12 } : Room) s m #[(.ref a), (.ref sa), (.int (0 : Int32))] below meth c s₁ [] 0 0 := Stand.of_body Bd
  have e0 : s₁.heap = h0 := by rw [← hh, Bd.state]; rfl
  have N0 := Fr.nil n0
  have pre0 : ∀ t_, Steps p.tables e below (s₁.setTop (mkF m 0 #[.val (.ref a), .val (.ref sa), .val (.int (0 : Int32))] [])) t_ → Steps p.tables e below (s₁.setTop (entryFrame m #[(.ref a), (.ref sa), (.int (0 : Int32))] 3)) t_ := fun t_ k_ => castTop (ef_rmSBB m a sa (0 : Int32)) k_
  have lt_I1 : @LT.lt Nat _ a h0.size := I1.lt
  have lt_I2 : @LT.lt Nat _ a h0.size := I2.lt
  have lt_I3 : @LT.lt Nat _ a h0.size := I3.lt
  obtain ⟨T1, X1, e1, st1⟩ := initO X0 hx hZ hown (hw _ (List.mem_of_getElem? (i := 22) rfl)) (hw _ (List.mem_of_getElem? (i := 23) rfl)) (hw _ (List.mem_of_getElem? (i := 24) rfl)) e0 (g := (mkF m 1 #[.val (.ref a), .val (.ref sa), .val (.int (0 : Int32))] [(.ref a)])) rfl (by rw [hml]; rfl) rfl (Jvm.hb hby d_jdk_42_method_151_1) (by decide) (W := 0) (by show 2 * 0 + _ ≤ _; exact Nat.le_of_eq rfl) (by decide)
  obtain ⟨T2, h2, X2, e2, W2, st2⟩ := putF X1 hx hZ hown (host := "") (Or.inl (hw _ (List.mem_of_getElem? (i := 39) rfl))) Via.refl e1 I2 I1 (Or.inr ⟨(hw _ (List.mem_of_getElem? (i := 40) rfl)), rfl, hnm⟩) (hw _ (List.mem_of_getElem? (i := 13) rfl)) (ty := (.array .byte)) (by decide) rfl rfl (g := (mkF m 6 #[.val (.ref a), .val (.ref sa), .val (.int (0 : Int32))] [(.ref sa), (.ref a)])) rfl rfl (Jvm.hb hby d_jdk_42_method_151_6)
  have z3 : h0.size ≤ h2.size := Nat.le_of_eq W2.size.symm
  have F2 : Fld Z h2 a "java/lang/String" "value" "[B" (.ref sa) := I2.same W2
  have N2 := Fr.snoc X2 N0 (show n0 ≤ a by omega)
  have f4 : Exa Z h2 a "java/lang/String" := (I1.wr W2)
  have f5 : Fld Z h2 a "java/lang/String" "coder" "B" (.int (0 : Int32)) := (I3.other W2 (Or.inr (slot_ne (Or.inr (hw _ (List.mem_of_getElem? (i := 38) rfl))) (Or.inr (hw _ (List.mem_of_getElem? (i := 40) rfl))) (by decide) (t := .byte) (t' := (.array .byte)) (by decide) (by decide))))
  obtain ⟨T6, h6, X6, e6, W6, st6⟩ := putFN X2 hx hZ hown (hw _ (List.mem_of_getElem? (i := 37) rfl)) Via.refl e2 f5 f4 (Or.inr ⟨(hw _ (List.mem_of_getElem? (i := 38) rfl)), rfl, hnm⟩) (hw _ (List.mem_of_getElem? (i := 13) rfl)) (ty := .byte) (v' := (.int (0 : Int32))) (by decide) rfl rfl (g := (mkF m 11 #[.val (.ref a), .val (.ref sa), .val (.int (0 : Int32))] [(.int (0 : Int32)), (.ref a)])) rfl rfl (Jvm.hb hby d_jdk_42_method_151_11)
  have z7 : h2.size ≤ h6.size := Nat.le_of_eq W6.size.symm
  have F6 : Fld Z h6 a "java/lang/String" "coder" "B" (.int (0 : Int32)) := f5.same W6
  have N6 := Fr.snoc X6 N2 (show n0 ≤ a by omega)
  have s8 : ∀ t_, Steps p.tables e below (T6.setTop (mkF m 14 #[.val (.ref a), .val (.ref sa), .val (.int (0 : Int32))] [])) t_ → Steps p.tables e below (s₁.setTop (entryFrame m #[(.ref a), (.ref sa), (.int (0 : Int32))] 3)) t_ := fun t_ k_ => pre0 t_ (by
    show Steps p.tables e below (s₁.setTop (mkF m 0 #[.val (.ref a), .val (.ref sa), .val (.int (0 : Int32))] [])) t_
    refine XS.aloadN X0.here hx rfl (Jvm.hb hby d_jdk_42_method_151_0) rfl rfl ?_
    refine st1 _ ?_
    show Steps p.tables e below (T1.setTop (mkF m 4 #[.val (.ref a), .val (.ref sa), .val (.int (0 : Int32))] [])) _
    refine XS.aloadN X1.here hx rfl (Jvm.hb hby d_jdk_42_method_151_4) rfl rfl ?_
    refine XS.aloadN X1.here hx rfl (Jvm.hb hby d_jdk_42_method_151_5) rfl rfl ?_
    refine st2 _ ?_
    show Steps p.tables e below (T2.setTop (mkF m 9 #[.val (.ref a), .val (.ref sa), .val (.int (0 : Int32))] [])) _
    refine XS.aloadN X2.here hx rfl (Jvm.hb hby d_jdk_42_method_151_9) rfl rfl ?_
    refine XS.iloadN X2.here hx rfl (Jvm.hb hby d_jdk_42_method_151_10) rfl ?_
    refine st6 _ ?_
    show Steps p.tables e below (T6.setTop (mkF m 14 #[.val (.ref a), .val (.ref sa), .val (.int (0 : Int32))] [])) _
    show Steps p.tables e below (T6.setTop (mkF m 14 #[.val (.ref a), .val (.ref sa), .val (.int (0 : Int32))] [])) t_
    exact k_)
  obtain ⟨fs, hr, hrun, hended, hW, hsame⟩ := X6.leave (v := none) (fun _ => rfl)
  have f9 : Exa Z h6 a "java/lang/String" := (f4.wr W6)
  have f10 : Fld Z h6 a "java/lang/String" "value" "[B" (.ref sa) := (F2.other W6 (Or.inr (slot_ne (Or.inr (hw _ (List.mem_of_getElem? (i := 40) rfl))) (Or.inr (hw _ (List.mem_of_getElem? (i := 38) rfl))) (by decide) (t := (.array .byte)) (t' := .byte) (by decide) (by decide))))
  refine ⟨_, _, s8 _ ?_, hrun, hended, _, _, rfl, ?_, ⟨_, rfl⟩, hW, hsame.mono (by decide) (by decide)⟩
  · show Steps p.tables e below (T6.setTop (mkF m 14 #[.val (.ref a), .val (.ref sa), .val (.int (0 : Int32))] [])) _
    exact X6.returnOut hx Bd.returns (Jvm.hb hby d_jdk_42_method_151_14) hr
  · show Q_rmSBB Z _ _ h0 n0 _ T6.heap _
    rw [e6]
    exact ⟨rfl, N6, (((Keep.refl h0 [a]).wr W2 (Or.inl (by simp))).wr W6 (Or.inl (by simp))), f9, f10, F6⟩
theorem d_jdk_43_method_47_0 : decode jdk_43_method_47_code 0 = .ok (.iload_n 2, 1) := by decide +kernel
theorem d_jdk_43_method_47_1 : decode jdk_43_method_47_code 1 = .ok (.ifCond .ne 6, 3) := by decide +kernel
theorem d_jdk_43_method_47_7 : decode jdk_43_method_47_code 7 = .ok (.new 1, 3) := by decide +kernel
theorem d_jdk_43_method_47_10 : decode jdk_43_method_47_code 10 = .ok (.dup, 1) := by decide +kernel
theorem d_jdk_43_method_47_11 : decode jdk_43_method_47_code 11 = .ok (.aload_n 0, 1) := by decide +kernel
theorem d_jdk_43_method_47_12 : decode jdk_43_method_47_code 12 = .ok (.iload_n 1, 1) := by decide +kernel
theorem d_jdk_43_method_47_13 : decode jdk_43_method_47_code 13 = .ok (.iload_n 1, 1) := by decide +kernel
theorem d_jdk_43_method_47_14 : decode jdk_43_method_47_code 14 = .ok (.iload_n 2, 1) := by decide +kernel
theorem d_jdk_43_method_47_15 : decode jdk_43_method_47_code 15 = .ok (.iadd, 1) := by decide +kernel
theorem d_jdk_43_method_47_16 : decode jdk_43_method_47_code 16 = .ok (.invokestatic 232, 3) := by decide +kernel
theorem d_jdk_43_method_47_19 : decode jdk_43_method_47_code 19 = .ok (.iconst 0, 1) := by decide +kernel
theorem pd___BB_V : parseMethodDescriptor "([BB)V" = some ⟨[(.array .byte), .byte], none⟩ := by decide +kernel
theorem d_jdk_43_method_47_20 : decode jdk_43_method_47_code 20 = .ok (.invokespecial 112, 3) := by decide +kernel
theorem d_jdk_43_method_47_23 : decode jdk_43_method_47_code 23 = .ok (.areturn, 1) := by decide +kernel
theorem ef_rmNew (m : MethodId) (x0 : Addr) (x1 : Int32) (x2 : Int32) : entryFrame m #[(.ref x0), (.int x1), (.int x2)] 3 = mkF m 0 #[.val (.ref x0), .val (.int x1), .val (.int x2)] [] := by first | (simp [entryFrame, mkF, argsToLocals, Value.category]; done) | rfl
def Q_rmNew (Z : State) (sa : Addr) (kx : ClassId) (xs : List Int32) (k : Nat) (h0 : Heap) (n0 : Nat) (v : Option Value) (h : Heap) (L : List Loc) : Prop := ∃ (a : Addr), ∃ (b : Addr), ∃ (kb : ClassId), (v = some (.ref a)) ∧ (Fr n0 L) ∧ (Keep h0 h []) ∧ (Exa Z h a "java/lang/String") ∧ (Fld Z h a "java/lang/String" "value" "[B" (.ref b)) ∧ (Fld Z h a "java/lang/String" "coder" "B" (.int (0 : Int32))) ∧ (Arv Z h b kb .byte (Int32.ofNat k) ((xs.take k).map Value.int) (.int (0 : Int32))) ∧ (h0.size ≤ a) ∧ (h0.size ≤ b)
set_option maxRecDepth 65536 in
set_option maxHeartbeats 40000000 in
theorem rmNew (l : Launch) (Z : State) (a0 : Array Value) (hw : ∀ d ∈ tables_1, d.before a0 Z = true) (ws : List Jvm.Cond) (sa : Addr) (kx : ClassId) (xs : List Int32) (k : Nat) (h0 : Heap) (n0 : Nat) (Z0 : n0 ≤ h0.size) (I1 : Arv Z h0 sa kx .byte (Int32.ofNat xs.length) (xs.map Value.int) (.int (0 : Int32))) (hkx : k < xs.length) (hxb : xs.length ≤ 16) (hk0 : 0 < k) :
    MetFree l (⟨"java/lang/StringLatin1", "newString", "([BII)Ljava/lang/String;"⟩ : MethodName) (head1 (Jvm.Cond.code (⟨"java/lang/StringLatin1", "newString", "([BII)Ljava/lang/String;"⟩ : MethodName) jdk_43_method_47_code 3 (some (.object "java/lang/String")) :: ws) ({ frames := 3, cells := 2, slots := 20, locals := 72 } : Room)) (fun ar_ U => ar_ = #[(.ref sa), (.int (0 : Int32)), (.int (Int32.ofNat k))] ∧ Z.Warmed39 U.vm ∧ U.heap = h0) (fun _ _ _ _ _ => True) (fun _ U oc_ U' => ∃ v L, oc_ = .returned v ∧ Q_rmNew Z sa kx xs k h0 n0 v U'.heap L ∧ FrameEnd U oc_ U' L ({ frames := 3, cells := 2, slots := 20, locals := 72 } : Room).cells ({ frames := 3, cells := 2, slots := 20, locals := 72 } : Room).slots) := by
  refine MetFree.of_bodySF (plainFor_of_name pn_java_lang_StringLatin1) hisR ?_
  intro p e s m args below meth c s₁ Bd hml0 hP hK
  obtain ⟨rfl, hZ, hh⟩ := hP
  have hx := Bd.exec
  have hby := Bd.bytes
  have hml : c.maxLocals = 3 := hml0
  have hown : s.vm.findClass "java/lang/StringLatin1" = some m.cls := findClass_of_methodNamed Bd.named
  have hnm := (name_of_methodNamed Bd.named Bd.method).1
  have X0 : Stand p l e ({ frames := 3, cells := 2, slots := 20, locals := 72 } : Room) s m #[(.ref sa), (.int (0 : Int32)), (.int (Int32.ofNat k))] below meth c s₁ [] 0 0 := Stand.of_body Bd
  have e0 : s₁.heap = h0 := by rw [← hh, Bd.state]; rfl
  have N0 := Fr.nil n0
  have pre0 : ∀ t_, Steps p.tables e below (s₁.setTop (mkF m 0 #[.val (.ref sa), .val (.int (0 : Int32)), .val (.int (Int32.ofNat k))] [])) t_ → Steps p.tables e below (s₁.setTop (entryFrame m #[(.ref sa), (.int (0 : Int32)), (.int (Int32.ofNat k))] 3)) t_ := fun t_ k_ => castTop (ef_rmNew m sa (0 : Int32) (Int32.ofNat k)) k_
  have lt_I1 : @LT.lt Nat _ sa h0.size := I1.lt
  obtain ⟨T1, h1, X1, e1, E1, A1, D1, -, st1⟩ := newO X0 hx hZ hown (hw _ (List.mem_of_getElem? (i := 99) rfl)) (hw _ (List.mem_of_getElem? (i := 13) rfl)) (hw _ (List.mem_of_getElem? (i := 14) rfl)) e0 (g := (mkF m 7 #[.val (.ref sa), .val (.int (0 : Int32)), .val (.int (Int32.ofNat k))] [])) rfl (Jvm.hb hby d_jdk_43_method_47_7) (by decide) (by decide)
  obtain ⟨b1, g1⟩ : ∃ z, z = h0.size := ⟨_, rfl⟩
  rw [← g1] at A1 D1 st1
  have z2 : h0.size ≤ h1.size := E1.1
  have l1 : b1 < h1.size := A1.lt
  have F3 : Fld Z h1 b1 "java/lang/String" "coder" "B" (.int (0 : Int32)) := D1 (Or.inr (hw _ (List.mem_of_getElem? (i := 38) rfl))) (ty := .byte) (by decide)
  have F4 : Fld Z h1 b1 "java/lang/String" "value" "[B" .null := D1 (Or.inr (hw _ (List.mem_of_getElem? (i := 40) rfl))) (ty := (.array .byte)) (by decide)
  have f5 : Arv Z h1 sa kx .byte (Int32.ofNat xs.length) (xs.map Value.int) (.int (0 : Int32)) := (I1.ext E1)
  have Zc6 : n0 ≤ h1.size := by omega
  obtain ⟨_, _, ⟨T7, L7, k7, n7⟩, -, X7, ⟨Lc7, hQ7, l7, y7, z7⟩, st7⟩ := Jvm.LawKit.callS X1 hx (y := (⟨"java/util/Arrays", "copyOfRange", "([BII)[B"⟩ : MethodName)) hown (mvT hZ (hw _ (List.mem_of_getElem? (i := 100) rfl))) (mvT hZ (hw _ (List.mem_of_getElem? (i := 101) rfl))) (mvT hZ (hw _ (List.mem_of_getElem? (i := 102) rfl))) (mvT hZ (hw _ (List.mem_of_getElem? (i := 103) rfl))) (by decide) (backOf (W := 2) (rmCR l Z a0 hw [] sa kx xs k h1 n0 Zc6 f5 (hkx : k < xs.length) (hxb : xs.length ≤ 16)) hZ (hw _ (List.mem_of_getElem? (i := 103) rfl)) (hw _ (List.mem_of_getElem? (i := 102) rfl)) (by decide) (by decide)) (g := (mkF m 16 #[.val (.ref sa), .val (.int (0 : Int32)), .val (.int (Int32.ofNat k))] [(.int (Int32.ofNat k)), (.int (0 : Int32)), (.ref sa), (.ref b1), (.ref b1)])) rfl (by rw [hml]; rfl) (argsL := [(.ref sa), (.int (0 : Int32)), (.int (Int32.ofNat k))]) (rest := [(.ref b1), (.ref b1)]) (lenOf pd___BII__B rfl) rfl (by show 2 * 0 + _ ≤ _; exact Nat.le_of_eq rfl) (Jvm.hb hby d_jdk_43_method_47_16) (fun _ _ => ⟨rfl, e1, (by decide : 1 + 1 ≤ _), (by decide : 4 + 16 ≤ _)⟩)
  dsimp only [Pt.U, Pt.locs, Pt.cells, Pt.slots] at X7 l7 y7 z7 st7 hQ7
  subst l7 y7 z7
  obtain ⟨b_7, kb_7, rfl, N7q, K7, Fq7_0, P7_0⟩ := hQ7
  have N7 := Fr.app N0 N7q
  obtain ⟨h7, e7⟩ : ∃ z, T7.heap = z := ⟨_, rfl⟩
  rw [e7] at K7 Fq7_0
  have z8 : h1.size ≤ h7.size := K7.1
  have lt7_0 : @LT.lt Nat _ b_7 h7.size := Fq7_0.lt
  have f9 : Exa Z h7 b1 "java/lang/String" := (A1.keep K7)
  have f10 : Fld Z h7 b1 "java/lang/String" "value" "[B" .null := (F4.keep K7 nin0)
  have f11 : Fld Z h7 b1 "java/lang/String" "coder" "B" (.int (0 : Int32)) := (F3.keep K7 nin0)
  have Zc12 : n0 ≤ h7.size := by omega
  obtain ⟨_, _, ⟨T13, L13, k13, n13⟩, -, X13, ⟨Lc13, hQ13, l13, y13, z13⟩, st13⟩ := X7.specialBack hx (y := (⟨"java/lang/String", "<init>", "([BB)V"⟩ : MethodName)) rfl hown (mvT hZ (hw _ (List.mem_of_getElem? (i := 118) rfl))) (mvT hZ (hw _ (List.mem_of_getElem? (i := 119) rfl))) (mvT hZ (hw _ (List.mem_of_getElem? (i := 120) rfl))) (by decide) (backOf (W := 1) (rmSBB l Z a0 hw [] b1 b_7 h7 n0 Zc12 f9 f10 f11 (by first | assumption | omega | rfl | decide : n0 ≤ b1)) hZ (hw _ (List.mem_of_getElem? (i := 120) rfl)) (hw _ (List.mem_of_getElem? (i := 14) rfl)) (by decide) (by decide)) (g := (mkF m 20 #[.val (.ref sa), .val (.int (0 : Int32)), .val (.int (Int32.ofNat k))] [(.int (0 : Int32)), (.ref b_7), (.ref b1), (.ref b1)])) rfl (by rw [hml]; rfl) (Steps.refl _) (a := b1) (argsL := [(.ref b_7), (.int (0 : Int32))]) (rest := [(.ref b1)]) (lenOf pd___BB_V rfl) rfl (by show 2 * 0 + _ ≤ _; exact Nat.le_of_eq rfl) (Jvm.hb hby d_jdk_43_method_47_20) (fun _ _ => ⟨rfl, e7, (by decide : 2 + 0 ≤ _), (by decide : 20 + 0 ≤ _)⟩)
  dsimp only [Pt.U, Pt.locs, Pt.cells, Pt.slots] at X13 l13 y13 z13 st13 hQ13
  subst l13 y13 z13
  obtain ⟨rfl, N13q, K13, Fq13_0, Fq13_1, Fq13_2⟩ := hQ13
  have N13 := Fr.app N7 N13q
  obtain ⟨h13, e13⟩ : ∃ z, T13.heap = z := ⟨_, rfl⟩
  rw [e13] at K13 Fq13_0 Fq13_1 Fq13_2
  have z14 : h7.size ≤ h13.size := K13.1
  have lt13_0 : @LT.lt Nat _ b1 h13.size := Fq13_0.lt
  have s15 : ∀ t_, Steps p.tables e below (T13.setTop (mkF m 23 #[.val (.ref sa), .val (.int (0 : Int32)), .val (.int (Int32.ofNat k))] [(.ref b1)])) t_ → Steps p.tables e below (s₁.setTop (entryFrame m #[(.ref sa), (.int (0 : Int32)), (.int (Int32.ofNat k))] 3)) t_ := fun t_ k_ => pre0 t_ (by
    show Steps p.tables e below (s₁.setTop (mkF m 0 #[.val (.ref sa), .val (.int (0 : Int32)), .val (.int (Int32.ofNat k))] [])) t_
    refine XS.iloadN X0.here hx rfl (Jvm.hb hby d_jdk_43_method_47_0) rfl ?_
    refine XS.ifYes X0.here hx rfl (pc0 := 1) (pc' := 7) rfl (Jvm.hb hby d_jdk_43_method_47_1) rfl ((if0 _ _).trans (feq (own_ne0 hk0 (by omega))).2) (by decide) (by decide) ?_
    show Steps p.tables e below (s₁.setTop (mkF m 7 #[.val (.ref sa), .val (.int (0 : Int32)), .val (.int (Int32.ofNat k))] [])) _
    refine st1 _ ?_
    show Steps p.tables e below (T1.setTop (mkF m 10 #[.val (.ref sa), .val (.int (0 : Int32)), .val (.int (Int32.ofNat k))] [(.ref b1)])) _
    refine XS.dup X1.here hx rfl (Jvm.hb hby d_jdk_43_method_47_10) rfl rfl ?_
    refine XS.aloadN X1.here hx rfl (Jvm.hb hby d_jdk_43_method_47_11) rfl rfl ?_
    refine XS.iloadN X1.here hx rfl (Jvm.hb hby d_jdk_43_method_47_12) rfl ?_
    refine XS.iloadN X1.here hx rfl (Jvm.hb hby d_jdk_43_method_47_13) rfl ?_
    refine XS.iloadN X1.here hx rfl (Jvm.hb hby d_jdk_43_method_47_14) rfl ?_
    refine XS.iadd X1.here hx rfl (Jvm.hb hby d_jdk_43_method_47_15) rfl ?_
    show Steps p.tables e below (T1.setTop (mkF m 16 #[.val (.ref sa), .val (.int (0 : Int32)), .val (.int (Int32.ofNat k))] [(.int ((0 : Int32) + (Int32.ofNat k))), (.int (0 : Int32)), (.ref sa), (.ref b1), (.ref b1)])) _
    refine castTop (g' := (mkF m 16 #[.val (.ref sa), .val (.int (0 : Int32)), .val (.int (Int32.ofNat k))] [(.int (Int32.ofNat k)), (.int (0 : Int32)), (.ref sa), (.ref b1), (.ref b1)])) (by rw [Int32.zero_add]) ?_
    show Steps p.tables e below (T1.setTop (mkF m 16 #[.val (.ref sa), .val (.int (0 : Int32)), .val (.int (Int32.ofNat k))] [(.int (Int32.ofNat k)), (.int (0 : Int32)), (.ref sa), (.ref b1), (.ref b1)])) _
    refine st7 _ ?_
    show Steps p.tables e below (T7.setTop (mkF m 19 #[.val (.ref sa), .val (.int (0 : Int32)), .val (.int (Int32.ofNat k))] [(.ref b_7), (.ref b1), (.ref b1)])) _
    refine XS.iconst X7.here hx rfl (Jvm.hb hby d_jdk_43_method_47_19) ?_
    refine st13.trans ?_
    show Steps p.tables e below (T13.setTop (mkF m 23 #[.val (.ref sa), .val (.int (0 : Int32)), .val (.int (Int32.ofNat k))] [(.ref b1)])) _
    show Steps p.tables e below (T13.setTop (mkF m 23 #[.val (.ref sa), .val (.int (0 : Int32)), .val (.int (Int32.ofNat k))] [(.ref b1)])) t_
    exact k_)
  obtain ⟨fs, hr, hrun, hended, hW, hsame⟩ := X13.leave (v := some (.ref b1)) (fun h => by rw [Bd.returns] at h; cases h)
  have f16 : Arv Z h13 b_7 kb_7 .byte (Int32.ofNat k) ((xs.take k).map Value.int) (.int (0 : Int32)) := (Fq7_0.keep K13 (ninS (show @Ne Nat b_7 b1 by omega) nin0))
  refine ⟨_, _, s15 _ ?_, hrun, hended, _, _, rfl, ?_, ⟨_, rfl⟩, hW, hsame.mono (by decide) (by decide)⟩
  · show Steps p.tables e below (T13.setTop (mkF m 23 #[.val (.ref sa), .val (.int (0 : Int32)), .val (.int (Int32.ofNat k))] [(.ref b1)])) _
    jvm_step X13.here [X13.here.top, hx, (Jvm.hb hby d_jdk_43_method_47_23), X13.method', Bd.returns, Value.isRef, FieldType.isReference]
    first | (intro acts; rw [hr _ acts rfl rfl rfl]) | rw [hr _ _ rfl rfl rfl]
    exact Steps.refl _
  · show Q_rmNew Z _ _ _ _ h0 n0 _ T13.heap _
    rw [e13]
    exact ⟨b1, b_7, kb_7, rfl, N13, ((((Keep.refl h0 []).ext E1).trans K7 all0).trans K13 (allS (Or.inr (show h0.size ≤ b1 by omega)) all0)), Fq13_0, Fq13_1, Fq13_2, f16, by omega, by omega⟩
theorem pn_jdk_internal_util_Preconditions : plainName "jdk/internal/util/Preconditions" = true := by first | (simp [plainName, overriddenIn]; done) | decide +kernel
theorem d_jdk_41_method_12_0 : decode jdk_41_method_12_code 0 = .ok (.iload_n 0, 1) := by decide +kernel
theorem d_jdk_41_method_12_1 : decode jdk_41_method_12_code 1 = .ok (.ifCond .lt 13, 3) := by decide +kernel
theorem d_jdk_41_method_12_4 : decode jdk_41_method_12_code 4 = .ok (.iload_n 0, 1) := by decide +kernel
theorem d_jdk_41_method_12_5 : decode jdk_41_method_12_code 5 = .ok (.iload_n 1, 1) := by decide +kernel
theorem d_jdk_41_method_12_6 : decode jdk_41_method_12_code 6 = .ok (.if_icmp .gt 8, 3) := by decide +kernel
theorem d_jdk_41_method_12_9 : decode jdk_41_method_12_code 9 = .ok (.iload_n 1, 1) := by decide +kernel
theorem d_jdk_41_method_12_10 : decode jdk_41_method_12_code 10 = .ok (.iload_n 2, 1) := by decide +kernel
theorem d_jdk_41_method_12_11 : decode jdk_41_method_12_code 11 = .ok (.if_icmp .le 11, 3) := by decide +kernel
theorem d_jdk_41_method_12_22 : decode jdk_41_method_12_code 22 = .ok (.iload_n 0, 1) := by decide +kernel
theorem d_jdk_41_method_12_23 : decode jdk_41_method_12_code 23 = .ok (.ireturn, 1) := by decide +kernel
theorem ef_rmCFT (m : MethodId) (x0 : Int32) (x1 : Int32) (x2 : Int32) (x3 : Value) (hr_x3 : x3.isRef = true) : entryFrame m #[(.int x0), (.int x1), (.int x2), x3] 4 = mkF m 0 #[.val (.int x0), .val (.int x1), .val (.int x2), .val x3] [] := by first | (simp [entryFrame, mkF, argsToLocals, Value.category]; done) | rfl | (cases x3 <;> simp [Value.isRef] at hr_x3 <;> rfl)
def Q_rmCFT (Z : State) (fmt : Value) (i : Nat) (j : Nat) (n : Nat) (h0 : Heap) (n0 : Nat) (v : Option Value) (h : Heap) (L : List Loc) : Prop := (v = some (.int (Int32.ofNat i))) ∧ (Fr n0 L) ∧ (h = h0)
set_option maxRecDepth 65536 in
set_option maxHeartbeats 40000000 in
theorem rmCFT (l : Launch) (Z : State) (a0 : Array Value) (hw : ∀ d ∈ tables_1, d.before a0 Z = true) (ws : List Jvm.Cond) (fmt : Value) (i : Nat) (j : Nat) (n : Nat) (h0 : Heap) (n0 : Nat) (Z0 : n0 ≤ h0.size) (hfmt : fmt.isRef = true) (hij : i ≤ j) (hjn : j ≤ n) (hn : n ≤ 8000) :
    MetFree l (⟨"jdk/internal/util/Preconditions", "checkFromToIndex", "(IIILjava/util/function/BiFunction;)I"⟩ : MethodName) (head1 (Jvm.Cond.code (⟨"jdk/internal/util/Preconditions", "checkFromToIndex", "(IIILjava/util/function/BiFunction;)I"⟩ : MethodName) jdk_41_method_12_code 4 (some .int) :: ws) ({ frames := 0, cells := 0, slots := 0, locals := 0 } : Room)) (fun ar_ U => ar_ = #[(.int (Int32.ofNat i)), (.int (Int32.ofNat j)), (.int (Int32.ofNat n)), fmt] ∧ Z.Warmed39 U.vm ∧ U.heap = h0) (fun _ _ _ _ _ => True) (fun _ U oc_ U' => ∃ v L, oc_ = .returned v ∧ Q_rmCFT Z fmt i j n h0 n0 v U'.heap L ∧ FrameEnd U oc_ U' L ({ frames := 0, cells := 0, slots := 0, locals := 0 } : Room).cells ({ frames := 0, cells := 0, slots := 0, locals := 0 } : Room).slots) := by
  refine MetFree.of_bodySF (plainFor_of_name pn_jdk_internal_util_Preconditions) hisR ?_
  intro p e s m args below meth c s₁ Bd hml0 hP hK
  obtain ⟨rfl, hZ, hh⟩ := hP
  have hx := Bd.exec
  have hby := Bd.bytes
  have hml : c.maxLocals = 4 := hml0
  have hown : s.vm.findClass "jdk/internal/util/Preconditions" = some m.cls := findClass_of_methodNamed Bd.named
  have hnm := (name_of_methodNamed Bd.named Bd.method).1
  have X0 : Stand p l e ({ frames := 0, cells := 0, slots := 0, locals := 0 } : Room) s m #[(.int (Int32.ofNat i)), (.int (Int32.ofNat j)), (.int (Int32.ofNat n)), fmt] below meth c s₁ [] 0 0 := Stand.of_body Bd
  have e0 : s₁.heap = h0 := by rw [← hh, Bd.state]; rfl
  have N0 := Fr.nil n0
  have pre0 : ∀ t_, Steps p.tables e below (s₁.setTop (mkF m 0 #[.val (.int (Int32.ofNat i)), .val (.int (Int32.ofNat j)), .val (.int (Int32.ofNat n)), .val fmt] [])) t_ → Steps p.tables e below (s₁.setTop (entryFrame m #[(.int (Int32.ofNat i)), (.int (Int32.ofNat j)), (.int (Int32.ofNat n)), fmt] 4)) t_ := fun t_ k_ => castTop (ef_rmCFT m (Int32.ofNat i) (Int32.ofNat j) (Int32.ofNat n) fmt hfmt) k_
  have s1 : ∀ t_, Steps p.tables e below (s₁.setTop (mkF m 23 #[.val (.int (Int32.ofNat i)), .val (.int (Int32.ofNat j)), .val (.int (Int32.ofNat n)), .val fmt] [(.int (Int32.ofNat i))])) t_ → Steps p.tables e below (s₁.setTop (entryFrame m #[(.int (Int32.ofNat i)), (.int (Int32.ofNat j)), (.int (Int32.ofNat n)), fmt] 4)) t_ := fun t_ k_ => pre0 t_ (by
    show Steps p.tables e below (s₁.setTop (mkF m 0 #[.val (.int (Int32.ofNat i)), .val (.int (Int32.ofNat j)), .val (.int (Int32.ofNat n)), .val fmt] [])) t_
    refine XS.iloadN X0.here hx rfl (Jvm.hb hby d_jdk_41_method_12_0) rfl ?_
    refine XS.ifNo X0.here hx rfl (Jvm.hb hby d_jdk_41_method_12_1) rfl ((if0 _ _).trans (flt (own_nn (by omega))).1) ?_
    show Steps p.tables e below (s₁.setTop (mkF m 4 #[.val (.int (Int32.ofNat i)), .val (.int (Int32.ofNat j)), .val (.int (Int32.ofNat n)), .val fmt] [])) _
    refine XS.iloadN X0.here hx rfl (Jvm.hb hby d_jdk_41_method_12_4) rfl ?_
    refine XS.iloadN X0.here hx rfl (Jvm.hb hby d_jdk_41_method_12_5) rfl ?_
    refine XS.icmpNo X0.here hx rfl (Jvm.hb hby d_jdk_41_method_12_6) rfl (flt (own_nlt (by omega) (by omega))).2.2.1 ?_
    show Steps p.tables e below (s₁.setTop (mkF m 9 #[.val (.int (Int32.ofNat i)), .val (.int (Int32.ofNat j)), .val (.int (Int32.ofNat n)), .val fmt] [])) _
    refine XS.iloadN X0.here hx rfl (Jvm.hb hby d_jdk_41_method_12_9) rfl ?_
    refine XS.iloadN X0.here hx rfl (Jvm.hb hby d_jdk_41_method_12_10) rfl ?_
    refine XS.icmpYes X0.here hx rfl (pc0 := 11) (pc' := 22) rfl (Jvm.hb hby d_jdk_41_method_12_11) rfl (flt (own_nlt (by omega) (by omega))).2.2.2 (by decide) (by decide) ?_
    show Steps p.tables e below (s₁.setTop (mkF m 22 #[.val (.int (Int32.ofNat i)), .val (.int (Int32.ofNat j)), .val (.int (Int32.ofNat n)), .val fmt] [])) _
    refine XS.iloadN X0.here hx rfl (Jvm.hb hby d_jdk_41_method_12_22) rfl ?_
    show Steps p.tables e below (s₁.setTop (mkF m 23 #[.val (.int (Int32.ofNat i)), .val (.int (Int32.ofNat j)), .val (.int (Int32.ofNat n)), .val fmt] [(.int (Int32.ofNat i))])) t_
    exact k_)
  obtain ⟨fs, hr, hrun, hended, hW, hsame⟩ := X0.leave (v := some (.int (Int32.ofNat i))) (fun h => by rw [Bd.returns] at h; cases h)
  refine ⟨_, _, s1 _ ?_, hrun, hended, _, _, rfl, ?_, ⟨_, rfl⟩, hW, hsame.mono (by decide) (by decide)⟩
  · show Steps p.tables e below (s₁.setTop (mkF m 23 #[.val (.int (Int32.ofNat i)), .val (.int (Int32.ofNat j)), .val (.int (Int32.ofNat n)), .val fmt] [(.int (Int32.ofNat i))])) _
    exact retI X0 hx Bd.returns (Jvm.hb hby d_jdk_41_method_12_23) hr
  · show Q_rmCFT Z _ _ _ _ h0 n0 _ s₁.heap _
    rw [e0]
    exact ⟨rfl, N0, rfl⟩
theorem d_jdk_42_method_158_0 : decode jdk_42_method_158_code 0 = .ok (.iload_n 0, 1) := by decide +kernel
theorem d_jdk_42_method_158_1 : decode jdk_42_method_158_code 1 = .ok (.iload_n 1, 1) := by decide +kernel
theorem d_jdk_42_method_158_2 : decode jdk_42_method_158_code 2 = .ok (.iload_n 2, 1) := by decide +kernel
theorem d_jdk_42_method_158_3 : decode jdk_42_method_158_code 3 = .ok (.getstatic 1053, 3) := by decide +kernel
theorem pd__IIILjava_util_function_BiFunction__I : parseMethodDescriptor "(IIILjava/util/function/BiFunction;)I" = some ⟨[.int, .int, .int, (.object "java/util/function/BiFunction")], some .int⟩ := by decide +kernel
theorem d_jdk_42_method_158_6 : decode jdk_42_method_158_code 6 = .ok (.invokestatic 1062, 3) := by decide +kernel
theorem d_jdk_42_method_158_9 : decode jdk_42_method_158_code 9 = .ok (.pop, 1) := by decide +kernel
theorem d_jdk_42_method_158_10 : decode jdk_42_method_158_code 10 = .ok (.return_, 1) := by decide +kernel
theorem ef_rmCBE (m : MethodId) (x0 : Int32) (x1 : Int32) (x2 : Int32) : entryFrame m #[(.int x0), (.int x1), (.int x2)] 3 = mkF m 0 #[.val (.int x0), .val (.int x1), .val (.int x2)] [] := by first | (simp [entryFrame, mkF, argsToLocals, Value.category]; done) | rfl
def Q_rmCBE (Z : State) (i : Nat) (j : Nat) (n : Nat) (fmt : Value) (h0 : Heap) (n0 : Nat) (v : Option Value) (h : Heap) (L : List Loc) : Prop := (v = none) ∧ (Fr n0 L) ∧ (h = h0)
set_option maxRecDepth 65536 in
set_option maxHeartbeats 40000000 in
theorem rmCBE (l : Launch) (Z : State) (a0 : Array Value) (hw : ∀ d ∈ tables_1, d.before a0 Z = true) (ws : List Jvm.Cond) (i : Nat) (j : Nat) (n : Nat) (fmt : Value) (h0 : Heap) (n0 : Nat) (Z0 : n0 ≤ h0.size) (hfmt : fmt.isRef = true) (I1 : Sta Z Z.heap "jdk/internal/util/Preconditions" "SIOOBE_FORMATTER" "Ljava/util/function/BiFunction;" fmt) (OX : Old Z n0 h0) (hij : i ≤ j) (hjn : j ≤ n) (hn : n ≤ 8000) :
    MetFree l (⟨"java/lang/String", "checkBoundsBeginEnd", "(III)V"⟩ : MethodName) (head1 (Jvm.Cond.code (⟨"java/lang/String", "checkBoundsBeginEnd", "(III)V"⟩ : MethodName) jdk_42_method_158_code 3 none :: ws) ({ frames := 1, cells := 0, slots := 0, locals := 15 } : Room)) (fun ar_ U => ar_ = #[(.int (Int32.ofNat i)), (.int (Int32.ofNat j)), (.int (Int32.ofNat n))] ∧ Z.Warmed39 U.vm ∧ U.heap = h0) (fun _ _ _ _ _ => True) (fun _ U oc_ U' => ∃ v L, oc_ = .returned v ∧ Q_rmCBE Z i j n fmt h0 n0 v U'.heap L ∧ FrameEnd U oc_ U' L ({ frames := 1, cells := 0, slots := 0, locals := 15 } : Room).cells ({ frames := 1, cells := 0, slots := 0, locals := 15 } : Room).slots) := by
  refine MetFree.of_bodySF (plainFor_of_name pn_java_lang_String) hisR ?_
  intro p e s m args below meth c s₁ Bd hml0 hP hK
  obtain ⟨rfl, hZ, hh⟩ := hP
  have hx := Bd.exec
  have hby := Bd.bytes
  have hml : c.maxLocals = 3 := hml0
  have hown : s.vm.findClass "java/lang/String" = some m.cls := findClass_of_methodNamed Bd.named
  have hnm := (name_of_methodNamed Bd.named Bd.method).1
  have X0 : Stand p l e ({ frames := 1, cells := 0, slots := 0, locals := 15 } : Room) s m #[(.int (Int32.ofNat i)), (.int (Int32.ofNat j)), (.int (Int32.ofNat n))] below meth c s₁ [] 0 0 := Stand.of_body Bd
  have e0 : s₁.heap = h0 := by rw [← hh, Bd.state]; rfl
  have N0 := Fr.nil n0
  have pre0 : ∀ t_, Steps p.tables e below (s₁.setTop (mkF m 0 #[.val (.int (Int32.ofNat i)), .val (.int (Int32.ofNat j)), .val (.int (Int32.ofNat n))] [])) t_ → Steps p.tables e below (s₁.setTop (entryFrame m #[(.int (Int32.ofNat i)), (.int (Int32.ofNat j)), (.int (Int32.ofNat n))] 3)) t_ := fun t_ k_ => castTop (ef_rmCBE m (Int32.ofNat i) (Int32.ofNat j) (Int32.ofNat n)) k_
  obtain ⟨T1, X1, e1, st1⟩ := getS2 X0 hx hZ hown (host := "") (Or.inl (hw _ (List.mem_of_getElem? (i := 85) rfl))) Via.refl e0 (I1.ext OX.2) (g := (mkF m 3 #[.val (.int (Int32.ofNat i)), .val (.int (Int32.ofNat j)), .val (.int (Int32.ofNat n))] [(.int (Int32.ofNat n)), (.int (Int32.ofNat j)), (.int (Int32.ofNat i))])) rfl (Jvm.hb hby d_jdk_42_method_158_3)
  have Zc2 : n0 ≤ h0.size := by omega
  obtain ⟨_, _, ⟨T3, L3, k3, n3⟩, -, X3, ⟨Lc3, hQ3, l3, y3, z3⟩, st3⟩ := Jvm.LawKit.callS X1 hx (y := (⟨"jdk/internal/util/Preconditions", "checkFromToIndex", "(IIILjava/util/function/BiFunction;)I"⟩ : MethodName)) hown (mvT hZ (hw _ (List.mem_of_getElem? (i := 87) rfl))) (mvT hZ (hw _ (List.mem_of_getElem? (i := 88) rfl))) (mvT hZ (hw _ (List.mem_of_getElem? (i := 86) rfl))) (mvT hZ (hw _ (List.mem_of_getElem? (i := 89) rfl))) (by decide) (backOf (W := 0) (rmCFT l Z a0 hw [] fmt i j n h0 n0 Zc2 (hfmt : fmt.isRef = true) (hij : i ≤ j) (hjn : j ≤ n) (hn : n ≤ 8000)) hZ (hw _ (List.mem_of_getElem? (i := 89) rfl)) (hw _ (List.mem_of_getElem? (i := 86) rfl)) (by decide) (by decide)) (g := (mkF m 6 #[.val (.int (Int32.ofNat i)), .val (.int (Int32.ofNat j)), .val (.int (Int32.ofNat n))] [fmt, (.int (Int32.ofNat n)), (.int (Int32.ofNat j)), (.int (Int32.ofNat i))])) rfl (by rw [hml]; rfl) (argsL := [(.int (Int32.ofNat i)), (.int (Int32.ofNat j)), (.int (Int32.ofNat n)), fmt]) (rest := []) (lenOf pd__IIILjava_util_function_BiFunction__I rfl) rfl (by show 2 * 0 + _ ≤ _; exact Nat.le_of_eq rfl) (Jvm.hb hby d_jdk_42_method_158_6) (fun _ _ => ⟨rfl, e1, (by decide : 0 + 0 ≤ _), (by decide : 0 + 0 ≤ _)⟩)
  dsimp only [Pt.U, Pt.locs, Pt.cells, Pt.slots] at X3 l3 y3 z3 st3 hQ3
  subst l3 y3 z3
  obtain ⟨rfl, N3q, e3⟩ := hQ3
  have N3 := Fr.app N0 N3q
  have s4 : ∀ t_, Steps p.tables e below (T3.setTop (mkF m 10 #[.val (.int (Int32.ofNat i)), .val (.int (Int32.ofNat j)), .val (.int (Int32.ofNat n))] [])) t_ → Steps p.tables e below (s₁.setTop (entryFrame m #[(.int (Int32.ofNat i)), (.int (Int32.ofNat j)), (.int (Int32.ofNat n))] 3)) t_ := fun t_ k_ => pre0 t_ (by
    show Steps p.tables e below (s₁.setTop (mkF m 0 #[.val (.int (Int32.ofNat i)), .val (.int (Int32.ofNat j)), .val (.int (Int32.ofNat n))] [])) t_
    refine XS.iloadN X0.here hx rfl (Jvm.hb hby d_jdk_42_method_158_0) rfl ?_
    refine XS.iloadN X0.here hx rfl (Jvm.hb hby d_jdk_42_method_158_1) rfl ?_
    refine XS.iloadN X0.here hx rfl (Jvm.hb hby d_jdk_42_method_158_2) rfl ?_
    refine st1 _ ?_
    show Steps p.tables e below (T1.setTop (mkF m 6 #[.val (.int (Int32.ofNat i)), .val (.int (Int32.ofNat j)), .val (.int (Int32.ofNat n))] [fmt, (.int (Int32.ofNat n)), (.int (Int32.ofNat j)), (.int (Int32.ofNat i))])) _
    refine st3 _ ?_
    show Steps p.tables e below (T3.setTop (mkF m 9 #[.val (.int (Int32.ofNat i)), .val (.int (Int32.ofNat j)), .val (.int (Int32.ofNat n))] [(.int (Int32.ofNat i))])) _
    refine XS.pop X3.here hx rfl (Jvm.hb hby d_jdk_42_method_158_9) rfl rfl ?_
    show Steps p.tables e below (T3.setTop (mkF m 10 #[.val (.int (Int32.ofNat i)), .val (.int (Int32.ofNat j)), .val (.int (Int32.ofNat n))] [])) t_
    exact k_)
  obtain ⟨fs, hr, hrun, hended, hW, hsame⟩ := X3.leave (v := none) (fun _ => rfl)
  refine ⟨_, _, s4 _ ?_, hrun, hended, _, _, rfl, ?_, ⟨_, rfl⟩, hW, hsame.mono (by decide) (by decide)⟩
  · show Steps p.tables e below (T3.setTop (mkF m 10 #[.val (.int (Int32.ofNat i)), .val (.int (Int32.ofNat j)), .val (.int (Int32.ofNat n))] [])) _
    exact X3.returnOut hx Bd.returns (Jvm.hb hby d_jdk_42_method_158_10) hr
  · show Q_rmCBE Z _ _ _ _ h0 n0 _ T3.heap _
    rw [e3]
    exact ⟨rfl, N3, rfl⟩
theorem d_jdk_42_method_92_0 : decode jdk_42_method_92_code 0 = .ok (.aload_n 0, 1) := by decide +kernel
theorem pd___I : parseMethodDescriptor "()I" = some ⟨[], some .int⟩ := by decide +kernel
theorem d_jdk_42_method_92_1 : decode jdk_42_method_92_code 1 = .ok (.invokevirtual 505, 3) := by decide +kernel
theorem d_jdk_42_method_92_4 : decode jdk_42_method_92_code 4 = .ok (.istore_n 3, 1) := by decide +kernel
theorem d_jdk_42_method_92_5 : decode jdk_42_method_92_code 5 = .ok (.iload_n 1, 1) := by decide +kernel
theorem d_jdk_42_method_92_6 : decode jdk_42_method_92_code 6 = .ok (.iload_n 2, 1) := by decide +kernel
theorem d_jdk_42_method_92_7 : decode jdk_42_method_92_code 7 = .ok (.iload_n 3, 1) := by decide +kernel
theorem pd__III_V : parseMethodDescriptor "(III)V" = some ⟨[.int, .int, .int], none⟩ := by decide +kernel
theorem d_jdk_42_method_92_8 : decode jdk_42_method_92_code 8 = .ok (.invokestatic 521, 3) := by decide +kernel
theorem d_jdk_42_method_92_11 : decode jdk_42_method_92_code 11 = .ok (.iload_n 1, 1) := by decide +kernel
theorem d_jdk_42_method_92_12 : decode jdk_42_method_92_code 12 = .ok (.ifCond .ne 10, 3) := by decide +kernel
theorem d_jdk_42_method_92_15 : decode jdk_42_method_92_code 15 = .ok (.iload_n 2, 1) := by decide +kernel
theorem d_jdk_42_method_92_16 : decode jdk_42_method_92_code 16 = .ok (.iload_n 3, 1) := by decide +kernel
theorem d_jdk_42_method_92_17 : decode jdk_42_method_92_code 17 = .ok (.if_icmp .ne 5, 3) := by decide +kernel
theorem d_jdk_42_method_92_22 : decode jdk_42_method_92_code 22 = .ok (.iload_n 2, 1) := by decide +kernel
theorem d_jdk_42_method_92_23 : decode jdk_42_method_92_code 23 = .ok (.iload_n 1, 1) := by decide +kernel
theorem d_jdk_42_method_92_24 : decode jdk_42_method_92_code 24 = .ok (.isub, 1) := by decide +kernel
theorem d_jdk_42_method_92_25 : decode jdk_42_method_92_code 25 = .ok (.istore 4, 2) := by decide +kernel
theorem d_jdk_42_method_92_27 : decode jdk_42_method_92_code 27 = .ok (.aload_n 0, 1) := by decide +kernel
theorem pd___Z : parseMethodDescriptor "()Z" = some ⟨[], some .boolean⟩ := by decide +kernel
theorem d_jdk_42_method_92_28 : decode jdk_42_method_92_code 28 = .ok (.invokevirtual 492, 3) := by decide +kernel
theorem d_jdk_42_method_92_31 : decode jdk_42_method_92_code 31 = .ok (.ifCond .eq 16, 3) := by decide +kernel
theorem d_jdk_42_method_92_34 : decode jdk_42_method_92_code 34 = .ok (.aload_n 0, 1) := by decide +kernel
theorem d_jdk_42_method_92_35 : decode jdk_42_method_92_code 35 = .ok (.getfield 9, 3) := by decide +kernel
theorem d_jdk_42_method_92_38 : decode jdk_42_method_92_code 38 = .ok (.iload_n 1, 1) := by decide +kernel
theorem d_jdk_42_method_92_39 : decode jdk_42_method_92_code 39 = .ok (.iload 4, 2) := by decide +kernel
theorem pd___BII_Ljava_lang_String_ : parseMethodDescriptor "([BII)Ljava/lang/String;" = some ⟨[(.array .byte), .int, .int], some (.object "java/lang/String")⟩ := by decide +kernel
theorem d_jdk_42_method_92_41 : decode jdk_42_method_92_code 41 = .ok (.invokestatic 685, 3) := by decide +kernel
theorem d_jdk_42_method_92_44 : decode jdk_42_method_92_code 44 = .ok (.goto 13, 3) := by decide +kernel
theorem d_jdk_42_method_92_57 : decode jdk_42_method_92_code 57 = .ok (.areturn, 1) := by decide +kernel
theorem ef_rmSub (m : MethodId) (x0 : Addr) (x1 : Int32) (x2 : Int32) : entryFrame m #[(.ref x0), (.int x1), (.int x2)] 5 = mkF m 0 #[.val (.ref x0), .val (.int x1), .val (.int x2), .unset, .unset] [] := by first | (simp [entryFrame, mkF, argsToLocals, Value.category]; done) | rfl
def Q_rmSub (Z : State) (a : Addr) (cst : Int32) (b : Addr) (kb : ClassId) (cs : List Int32) (k : Nat) (fmt : Value) (h0 : Heap) (n0 : Nat) (v : Option Value) (h : Heap) (L : List Loc) : Prop := ∃ (sa : Addr), ∃ (sb : Addr), ∃ (ks : ClassId), (v = some (.ref sa)) ∧ (Fr n0 L) ∧ (Keep h0 h []) ∧ (Exa Z h sa "java/lang/String") ∧ (Fld Z h sa "java/lang/String" "value" "[B" (.ref sb)) ∧ (Fld Z h sa "java/lang/String" "coder" "B" (.int (own_cod (cs.take k)))) ∧ (Arv Z h sb ks .byte (Int32.ofNat (own_enl (cs.take k))) (own_enc (cs.take k)) (.int (0 : Int32))) ∧ (h0.size ≤ sa) ∧ (h0.size ≤ sb)
set_option maxRecDepth 65536 in
set_option maxHeartbeats 40000000 in
theorem rmSub (l : Launch) (Z : State) (a0 : Array Value) (hw : ∀ d ∈ tables_1, d.before a0 Z = true) (ws : List Jvm.Cond) (a : Addr) (cst : Int32) (b : Addr) (kb : ClassId) (cs : List Int32) (k : Nat) (fmt : Value) (h0 : Heap) (n0 : Nat) (Z0 : n0 ≤ h0.size) (I1 : Sta Z Z.heap "java/lang/String" "COMPACT_STRINGS" "Z" (.int cst)) (hfmt : fmt.isRef = true) (I2 : Sta Z Z.heap "jdk/internal/util/Preconditions" "SIOOBE_FORMATTER" "Ljava/util/function/BiFunction;" fmt) (OX : Old Z n0 h0) (hcst : ¬ (cst = (0 : Int32))) (I3 : Exa Z h0 a "java/lang/String") (I4 : Fld Z h0 a "java/lang/String" "value" "[B" (.ref b)) (I5 : Fld Z h0 a "java/lang/String" "coder" "B" (.int (own_cod cs))) (I6 : Arv Z h0 b kb .byte (Int32.ofNat (own_enl cs)) (own_enc cs) (.int (0 : Int32))) (hlat : own_lat cs) (hbl : cs.length ≤ 15) (hk0 : 0 < k) (hkl : k < cs.length) :
    MetFree l (⟨"java/lang/String", "substring", "(II)Ljava/lang/String;"⟩ : MethodName) (head1 (Jvm.Cond.code (⟨"java/lang/String", "substring", "(II)Ljava/lang/String;"⟩ : MethodName) jdk_42_method_92_code 5 (some (.object "java/lang/String")) :: ws) ({ frames := 4, cells := 2, slots := 20, locals := 86 } : Room)) (fun ar_ U => ar_ = #[(.ref a), (.int (0 : Int32)), (.int (Int32.ofNat k))] ∧ Z.Warmed39 U.vm ∧ U.heap = h0) (fun _ _ _ _ _ => True) (fun _ U oc_ U' => ∃ v L, oc_ = .returned v ∧ Q_rmSub Z a cst b kb cs k fmt h0 n0 v U'.heap L ∧ FrameEnd U oc_ U' L ({ frames := 4, cells := 2, slots := 20, locals := 86 } : Room).cells ({ frames := 4, cells := 2, slots := 20, locals := 86 } : Room).slots) := by
  refine MetFree.of_bodySF (plainFor_of_name pn_java_lang_String) hisR ?_
  intro p e s m args below meth c s₁ Bd hml0 hP hK
  obtain ⟨rfl, hZ, hh⟩ := hP
  have hx := Bd.exec
  have hby := Bd.bytes
  have hml : c.maxLocals = 5 := hml0
  have hown : s.vm.findClass "java/lang/String" = some m.cls := findClass_of_methodNamed Bd.named
  have hnm := (name_of_methodNamed Bd.named Bd.method).1
  have X0 : Stand p l e ({ frames := 4, cells := 2, slots := 20, locals := 86 } : Room) s m #[(.ref a), (.int (0 : Int32)), (.int (Int32.ofNat k))] below meth c s₁ [] 0 0 := Stand.of_body Bd
  have e0 : s₁.heap = h0 := by rw [← hh, Bd.state]; rfl
  have N0 := Fr.nil n0
  have pre0 : ∀ t_, Steps p.tables e below (s₁.setTop (mkF m 0 #[.val (.ref a), .val (.int (0 : Int32)), .val (.int (Int32.ofNat k)), .unset, .unset] [])) t_ → Steps p.tables e below (s₁.setTop (entryFrame m #[(.ref a), (.int (0 : Int32)), (.int (Int32.ofNat k))] 5)) t_ := fun t_ k_ => castTop (ef_rmSub m a (0 : Int32) (Int32.ofNat k)) k_
  have lt_I3 : @LT.lt Nat _ a h0.size := I3.lt
  have lt_I4 : @LT.lt Nat _ a h0.size := I4.lt
  have lt_I5 : @LT.lt Nat _ a h0.size := I5.lt
  have lt_I6 : @LT.lt Nat _ b h0.size := I6.lt
  have Zc1 : n0 ≤ h0.size := by omega
  obtain ⟨cq2, kq2, q2a, q2b, q2c⟩ := isOf hZ e0 I3
  obtain ⟨_, _, ⟨T2, L2, k2, n2⟩, -, X2, ⟨Lc2, hQ2, l2, y2, z2⟩, st2⟩ := X0.virtualBack hx (y := (⟨"java/lang/String", "length", "()I"⟩ : MethodName)) (z := (⟨"java/lang/String", "length", "()I"⟩ : MethodName)) hown (mvT hZ (hw _ (List.mem_of_getElem? (i := 81) rfl))) (mvT hZ (hw _ (List.mem_of_getElem? (i := 64) rfl))) (notFace_of_selects (args := #[]) (mvT hZ (hw _ (List.mem_of_getElem? (i := 66) rfl)))) (mvT hZ (hw _ (List.mem_of_getElem? (i := 66) rfl))) (mvT hZ (hw _ (List.mem_of_getElem? (i := 65) rfl))) (by decide) (backOf (W := 0) (rmLen l Z a0 hw [] a cst b kb cs h0 n0 Zc1 I1 OX (hcst : ¬ (cst = (0 : Int32))) I3 I4 I5 I6 (by omega)) hZ (hw _ (List.mem_of_getElem? (i := 67) rfl)) (hw _ (List.mem_of_getElem? (i := 14) rfl)) (by decide) (by decide)) q2a q2c (g := (mkF m 1 #[.val (.ref a), .val (.int (0 : Int32)), .val (.int (Int32.ofNat k)), .unset, .unset] [(.ref a)])) rfl (by rw [hml]; rfl) (Steps.refl _) (argsL := []) (rest := []) (lenOf pd___I rfl) rfl (by show 2 * 0 + _ ≤ _; exact Nat.le_of_eq rfl) (Jvm.hb hby d_jdk_42_method_92_1) (fun _ _ => ⟨rfl, e0, (by decide : 0 + 0 ≤ _), (by decide : 0 + 0 ≤ _)⟩)
  dsimp only [Pt.U, Pt.locs, Pt.cells, Pt.slots] at X2 l2 y2 z2 st2 hQ2
  subst l2 y2 z2
  obtain ⟨rfl, N2q, e2⟩ := hQ2
  have N2 := Fr.app N0 N2q
  have Zc3 : n0 ≤ h0.size := by omega
  obtain ⟨_, _, ⟨T4, L4, k4, n4⟩, -, X4, ⟨Lc4, hQ4, l4, y4, z4⟩, st4⟩ := Jvm.LawKit.callS X2 hx (y := (⟨"java/lang/String", "checkBoundsBeginEnd", "(III)V"⟩ : MethodName)) hown (mvT hZ (hw _ (List.mem_of_getElem? (i := 82) rfl))) (mvT hZ (hw _ (List.mem_of_getElem? (i := 83) rfl))) (mvT hZ (hw _ (List.mem_of_getElem? (i := 14) rfl))) (mvT hZ (hw _ (List.mem_of_getElem? (i := 84) rfl))) (by decide) (backOf (W := 0) (rmCBE l Z a0 hw [] 0 k cs.length fmt h0 n0 Zc3 (hfmt : fmt.isRef = true) I2 OX (by first | assumption | omega | rfl | decide : 0 ≤ k) (by first | assumption | omega | rfl | decide : k ≤ cs.length) (by first | assumption | omega | rfl | decide : cs.length ≤ 8000)) hZ (hw _ (List.mem_of_getElem? (i := 84) rfl)) (hw _ (List.mem_of_getElem? (i := 14) rfl)) (by decide) (by decide)) (g := (mkF m 8 #[.val (.ref a), .val (.int (0 : Int32)), .val (.int (Int32.ofNat k)), .val (.int (Int32.ofNat cs.length)), .unset] [(.int (Int32.ofNat cs.length)), (.int (Int32.ofNat k)), (.int (0 : Int32))])) rfl (by rw [hml]; rfl) (argsL := [(.int (0 : Int32)), (.int (Int32.ofNat k)), (.int (Int32.ofNat cs.length))]) (rest := []) (lenOf pd__III_V rfl) rfl (by show 2 * 0 + _ ≤ _; exact Nat.le_of_eq rfl) (Jvm.hb hby d_jdk_42_method_92_8) (fun _ _ => ⟨rfl, e2, (by decide : 0 + 0 ≤ _), (by decide : 0 + 0 ≤ _)⟩)
  dsimp only [Pt.U, Pt.locs, Pt.cells, Pt.slots] at X4 l4 y4 z4 st4 hQ4
  subst l4 y4 z4
  obtain ⟨rfl, N4q, e4⟩ := hQ4
  have N4 := Fr.app N2 N4q
  have Zc5 : n0 ≤ h0.size := by omega
  obtain ⟨cq6, kq6, q6a, q6b, q6c⟩ := isOf hZ e4 I3
  obtain ⟨_, _, ⟨T6, L6, k6, n6⟩, -, X6, ⟨Lc6, hQ6, l6, y6, z6⟩, st6⟩ := X4.virtualBack hx (y := (⟨"java/lang/String", "isLatin1", "()Z"⟩ : MethodName)) (z := (⟨"java/lang/String", "isLatin1", "()Z"⟩ : MethodName)) hown (mvT hZ (hw _ (List.mem_of_getElem? (i := 90) rfl))) (mvT hZ (hw _ (List.mem_of_getElem? (i := 91) rfl))) (notFace_of_selects (args := #[]) (mvT hZ (hw _ (List.mem_of_getElem? (i := 93) rfl)))) (mvT hZ (hw _ (List.mem_of_getElem? (i := 93) rfl))) (mvT hZ (hw _ (List.mem_of_getElem? (i := 92) rfl))) (by decide) (backOf (W := 0) (rmIsL l Z a0 hw [] a cst cs h0 n0 Zc5 I1 OX (hcst : ¬ (cst = (0 : Int32))) I5) hZ (hw _ (List.mem_of_getElem? (i := 94) rfl)) (hw _ (List.mem_of_getElem? (i := 14) rfl)) (by decide) (by decide)) q6a q6c (g := (mkF m 28 #[.val (.ref a), .val (.int (0 : Int32)), .val (.int (Int32.ofNat k)), .val (.int (Int32.ofNat cs.length)), .val (.int (Int32.ofNat k))] [(.ref a)])) rfl (by rw [hml]; rfl) (Steps.refl _) (argsL := []) (rest := []) (lenOf pd___Z rfl) rfl (by show 2 * 0 + _ ≤ _; exact Nat.le_of_eq rfl) (Jvm.hb hby d_jdk_42_method_92_28) (fun _ _ => ⟨rfl, e4, (by decide : 0 + 0 ≤ _), (by decide : 0 + 0 ≤ _)⟩)
  dsimp only [Pt.U, Pt.locs, Pt.cells, Pt.slots] at X6 l6 y6 z6 st6 hQ6
  subst l6 y6 z6
  obtain ⟨rfl, N6q, e6⟩ := hQ6
  have N6 := Fr.app N4 N6q
  obtain ⟨T7, X7, e7, st7⟩ := getF X6 hx hZ hown (host := "") (Or.inl (hw _ (List.mem_of_getElem? (i := 39) rfl))) Via.refl e6 I4 (g := (mkF m 35 #[.val (.ref a), .val (.int (0 : Int32)), .val (.int (Int32.ofNat k)), .val (.int (Int32.ofNat cs.length)), .val (.int (Int32.ofNat k))] [(.ref a)])) rfl rfl (Jvm.hb hby d_jdk_42_method_92_35)
  have V8 : Arv Z h0 b kb .byte (Int32.ofNat cs.length) ((cs.map own_lo).map Value.int) (.int (0 : Int32)) := own_ofenc hlat I6
  have V8b : Arv Z h0 b kb .byte (Int32.ofNat (cs.map own_lo).length) ((cs.map own_lo).map Value.int) (.int (0 : Int32)) := by rw [List.length_map]; exact V8
  have Zc9 : n0 ≤ h0.size := by omega
  obtain ⟨_, _, ⟨T10, L10, k10, n10⟩, -, X10, ⟨Lc10, hQ10, l10, y10, z10⟩, st10⟩ := Jvm.LawKit.callS X7 hx (y := (⟨"java/lang/StringLatin1", "newString", "([BII)Ljava/lang/String;"⟩ : MethodName)) hown (mvT hZ (hw _ (List.mem_of_getElem? (i := 95) rfl))) (mvT hZ (hw _ (List.mem_of_getElem? (i := 96) rfl))) (mvT hZ (hw _ (List.mem_of_getElem? (i := 97) rfl))) (mvT hZ (hw _ (List.mem_of_getElem? (i := 98) rfl))) (by decide) (backOf (W := 0) (rmNew l Z a0 hw [] b kb (cs.map own_lo) k h0 n0 Zc9 V8b (by rw [List.length_map]; exact hkl) (by rw [List.length_map]; omega) (hk0 : 0 < k)) hZ (hw _ (List.mem_of_getElem? (i := 98) rfl)) (hw _ (List.mem_of_getElem? (i := 97) rfl)) (by decide) (by decide)) (g := (mkF m 41 #[.val (.ref a), .val (.int (0 : Int32)), .val (.int (Int32.ofNat k)), .val (.int (Int32.ofNat cs.length)), .val (.int (Int32.ofNat k))] [(.int (Int32.ofNat k)), (.int (0 : Int32)), (.ref b)])) rfl (by rw [hml]; rfl) (argsL := [(.ref b), (.int (0 : Int32)), (.int (Int32.ofNat k))]) (rest := []) (lenOf pd___BII_Ljava_lang_String_ rfl) rfl (by show 2 * 0 + _ ≤ _; exact Nat.le_of_eq rfl) (Jvm.hb hby d_jdk_42_method_92_41) (fun _ _ => ⟨rfl, e7, (by decide : 0 + 2 ≤ _), (by decide : 0 + 20 ≤ _)⟩)
  dsimp only [Pt.U, Pt.locs, Pt.cells, Pt.slots] at X10 l10 y10 z10 st10 hQ10
  subst l10 y10 z10
  obtain ⟨a_10, b_10, kb_10, rfl, N10q, K10, Fq10_0, Fq10_1, Fq10_2, Fq10_3, P10_0, P10_1⟩ := hQ10
  have N10 := Fr.app N6 N10q
  obtain ⟨h10, e10⟩ : ∃ z, T10.heap = z := ⟨_, rfl⟩
  rw [e10] at K10 Fq10_0 Fq10_1 Fq10_2 Fq10_3
  have z11 : h0.size ≤ h10.size := K10.1
  have lt10_0 : @LT.lt Nat _ a_10 h10.size := Fq10_0.lt
  have lt10_3 : @LT.lt Nat _ b_10 h10.size := Fq10_3.lt
  have s12 : ∀ t_, Steps p.tables e below (T10.setTop (mkF m 57 #[.val (.ref a), .val (.int (0 : Int32)), .val (.int (Int32.ofNat k)), .val (.int (Int32.ofNat cs.length)), .val (.int (Int32.ofNat k))] [(.ref a_10)])) t_ → Steps p.tables e below (s₁.setTop (entryFrame m #[(.ref a), (.int (0 : Int32)), (.int (Int32.ofNat k))] 5)) t_ := fun t_ k_ => pre0 t_ (by
    show Steps p.tables e below (s₁.setTop (mkF m 0 #[.val (.ref a), .val (.int (0 : Int32)), .val (.int (Int32.ofNat k)), .unset, .unset] [])) t_
    refine XS.aloadN X0.here hx rfl (Jvm.hb hby d_jdk_42_method_92_0) rfl rfl ?_
    refine st2.trans ?_
    show Steps p.tables e below (T2.setTop (mkF m 4 #[.val (.ref a), .val (.int (0 : Int32)), .val (.int (Int32.ofNat k)), .unset, .unset] [(.int (Int32.ofNat cs.length))])) _
    refine XS.istoreN X2.here hx rfl (Jvm.hb hby d_jdk_42_method_92_4) rfl (l' := #[.val (.ref a), .val (.int (0 : Int32)), .val (.int (Int32.ofNat k)), .val (.int (Int32.ofNat cs.length)), .unset]) rfl ?_
    refine XS.iloadN X2.here hx rfl (Jvm.hb hby d_jdk_42_method_92_5) rfl ?_
    refine XS.iloadN X2.here hx rfl (Jvm.hb hby d_jdk_42_method_92_6) rfl ?_
    refine XS.iloadN X2.here hx rfl (Jvm.hb hby d_jdk_42_method_92_7) rfl ?_
    refine st4 _ ?_
    show Steps p.tables e below (T4.setTop (mkF m 11 #[.val (.ref a), .val (.int (0 : Int32)), .val (.int (Int32.ofNat k)), .val (.int (Int32.ofNat cs.length)), .unset] [])) _
    refine XS.iloadN X4.here hx rfl (Jvm.hb hby d_jdk_42_method_92_11) rfl ?_
    refine XS.ifNo X4.here hx rfl (Jvm.hb hby d_jdk_42_method_92_12) rfl ((if0 _ _).trans (teq (rfl : (0 : Int32) = (0 : Int32))).2) ?_
    show Steps p.tables e below (T4.setTop (mkF m 15 #[.val (.ref a), .val (.int (0 : Int32)), .val (.int (Int32.ofNat k)), .val (.int (Int32.ofNat cs.length)), .unset] [])) _
    refine XS.iloadN X4.here hx rfl (Jvm.hb hby d_jdk_42_method_92_15) rfl ?_
    refine XS.iloadN X4.here hx rfl (Jvm.hb hby d_jdk_42_method_92_16) rfl ?_
    refine XS.icmpYes X4.here hx rfl (pc0 := 17) (pc' := 22) rfl (Jvm.hb hby d_jdk_42_method_92_17) rfl (feq (fun e => by have := own_inj (by omega) (by omega) e; omega)).2 (by decide) (by decide) ?_
    show Steps p.tables e below (T4.setTop (mkF m 22 #[.val (.ref a), .val (.int (0 : Int32)), .val (.int (Int32.ofNat k)), .val (.int (Int32.ofNat cs.length)), .unset] [])) _
    refine XS.iloadN X4.here hx rfl (Jvm.hb hby d_jdk_42_method_92_22) rfl ?_
    refine XS.iloadN X4.here hx rfl (Jvm.hb hby d_jdk_42_method_92_23) rfl ?_
    refine XS.isub X4.here hx rfl (Jvm.hb hby d_jdk_42_method_92_24) rfl ?_
    show Steps p.tables e below (T4.setTop (mkF m 25 #[.val (.ref a), .val (.int (0 : Int32)), .val (.int (Int32.ofNat k)), .val (.int (Int32.ofNat cs.length)), .unset] [(.int ((Int32.ofNat k) - (0 : Int32)))])) _
    refine castTop (g' := (mkF m 25 #[.val (.ref a), .val (.int (0 : Int32)), .val (.int (Int32.ofNat k)), .val (.int (Int32.ofNat cs.length)), .unset] [(.int (Int32.ofNat k))])) (by rw [Int32.sub_zero]) ?_
    show Steps p.tables e below (T4.setTop (mkF m 25 #[.val (.ref a), .val (.int (0 : Int32)), .val (.int (Int32.ofNat k)), .val (.int (Int32.ofNat cs.length)), .unset] [(.int (Int32.ofNat k))])) _
    refine XS.istore X4.here hx rfl (Jvm.hb hby d_jdk_42_method_92_25) rfl (l' := #[.val (.ref a), .val (.int (0 : Int32)), .val (.int (Int32.ofNat k)), .val (.int (Int32.ofNat cs.length)), .val (.int (Int32.ofNat k))]) rfl ?_
    refine XS.aloadN X4.here hx rfl (Jvm.hb hby d_jdk_42_method_92_27) rfl rfl ?_
    refine st6.trans ?_
    show Steps p.tables e below (T6.setTop (mkF m 31 #[.val (.ref a), .val (.int (0 : Int32)), .val (.int (Int32.ofNat k)), .val (.int (Int32.ofNat cs.length)), .val (.int (Int32.ofNat k))] [(.int (if own_cod cs = (0 : Int32) then (1 : Int32) else (0 : Int32)))])) _
    refine castTop (g' := (mkF m 31 #[.val (.ref a), .val (.int (0 : Int32)), .val (.int (Int32.ofNat k)), .val (.int (Int32.ofNat cs.length)), .val (.int (Int32.ofNat k))] [(.int (1 : Int32))])) (by rw [if_pos (own_cod0 hlat)]) ?_
    show Steps p.tables e below (T6.setTop (mkF m 31 #[.val (.ref a), .val (.int (0 : Int32)), .val (.int (Int32.ofNat k)), .val (.int (Int32.ofNat cs.length)), .val (.int (Int32.ofNat k))] [(.int (1 : Int32))])) _
    refine XS.ifNo X6.here hx rfl (Jvm.hb hby d_jdk_42_method_92_31) rfl ((if0 _ _).trans (feq (by decide : ¬ ((1 : Int32) = (0 : Int32)))).1) ?_
    show Steps p.tables e below (T6.setTop (mkF m 34 #[.val (.ref a), .val (.int (0 : Int32)), .val (.int (Int32.ofNat k)), .val (.int (Int32.ofNat cs.length)), .val (.int (Int32.ofNat k))] [])) _
    refine XS.aloadN X6.here hx rfl (Jvm.hb hby d_jdk_42_method_92_34) rfl rfl ?_
    refine st7 _ ?_
    show Steps p.tables e below (T7.setTop (mkF m 38 #[.val (.ref a), .val (.int (0 : Int32)), .val (.int (Int32.ofNat k)), .val (.int (Int32.ofNat cs.length)), .val (.int (Int32.ofNat k))] [(.ref b)])) _
    refine XS.iloadN X7.here hx rfl (Jvm.hb hby d_jdk_42_method_92_38) rfl ?_
    refine XS.iload X7.here hx rfl (Jvm.hb hby d_jdk_42_method_92_39) rfl ?_
    refine st10 _ ?_
    show Steps p.tables e below (T10.setTop (mkF m 44 #[.val (.ref a), .val (.int (0 : Int32)), .val (.int (Int32.ofNat k)), .val (.int (Int32.ofNat cs.length)), .val (.int (Int32.ofNat k))] [(.ref a_10)])) _
    refine XS.goto X10.here hx rfl (pc0 := 44) (pc' := 57) rfl (Jvm.hb hby d_jdk_42_method_92_44) (by decide) (by decide) ?_
    show Steps p.tables e below (T10.setTop (mkF m 57 #[.val (.ref a), .val (.int (0 : Int32)), .val (.int (Int32.ofNat k)), .val (.int (Int32.ofNat cs.length)), .val (.int (Int32.ofNat k))] [(.ref a_10)])) t_
    exact k_)
  obtain ⟨fs, hr, hrun, hended, hW, hsame⟩ := X10.leave (v := some (.ref a_10)) (fun h => by rw [Bd.returns] at h; cases h)
  refine ⟨_, _, s12 _ ?_, hrun, hended, _, _, rfl, ?_, ⟨_, rfl⟩, hW, hsame.mono (by decide) (by decide)⟩
  · show Steps p.tables e below (T10.setTop (mkF m 57 #[.val (.ref a), .val (.int (0 : Int32)), .val (.int (Int32.ofNat k)), .val (.int (Int32.ofNat cs.length)), .val (.int (Int32.ofNat k))] [(.ref a_10)])) _
    jvm_step X10.here [X10.here.top, hx, (Jvm.hb hby d_jdk_42_method_92_57), X10.method', Bd.returns, Value.isRef, FieldType.isReference]
    first | (intro acts; rw [hr _ acts rfl rfl rfl]) | rw [hr _ _ rfl rfl rfl]
    exact Steps.refl _
  · show Q_rmSub Z _ _ _ _ _ _ _ h0 n0 _ T10.heap _
    rw [e10]
    exact ⟨a_10, b_10, kb_10, rfl, N10, ((Keep.refl h0 []).trans K10 all0), Fq10_0, Fq10_1, (by rw [own_cod0 (own_lattake hlat)]; exact Fq10_2), (own_toenc (own_lattake hlat) (by rw [List.length_take, Nat.min_eq_left (by omega), List.map_take]; exact Fq10_3)), by omega, by omega⟩
theorem pn_java_lang_AbstractStringBuilder : plainName "java/lang/AbstractStringBuilder" = true := by first | (simp [plainName, overriddenIn]; done) | decide +kernel
theorem d_jdk_68_method_2_0 : decode jdk_68_method_2_code 0 = .ok (.aload_n 0, 1) := by decide +kernel
theorem d_jdk_68_method_2_1 : decode jdk_68_method_2_code 1 = .ok (.invokespecial 3, 3) := by decide +kernel
theorem d_jdk_68_method_2_4 : decode jdk_68_method_2_code 4 = .ok (.getstatic 18, 3) := by decide +kernel
theorem d_jdk_68_method_2_7 : decode jdk_68_method_2_code 7 = .ok (.ifCond .eq 18, 3) := by decide +kernel
theorem d_jdk_68_method_2_10 : decode jdk_68_method_2_code 10 = .ok (.aload_n 0, 1) := by decide +kernel
theorem d_jdk_68_method_2_11 : decode jdk_68_method_2_code 11 = .ok (.iload_n 1, 1) := by decide +kernel
theorem d_jdk_68_method_2_12 : decode jdk_68_method_2_code 12 = .ok (.newarray .byte, 2) := by decide +kernel
theorem d_jdk_68_method_2_14 : decode jdk_68_method_2_code 14 = .ok (.putfield 15, 3) := by decide +kernel
theorem d_jdk_68_method_2_17 : decode jdk_68_method_2_code 17 = .ok (.aload_n 0, 1) := by decide +kernel
theorem d_jdk_68_method_2_18 : decode jdk_68_method_2_code 18 = .ok (.iconst 0, 1) := by decide +kernel
theorem d_jdk_68_method_2_19 : decode jdk_68_method_2_code 19 = .ok (.putfield 22, 3) := by decide +kernel
theorem d_jdk_68_method_2_22 : decode jdk_68_method_2_code 22 = .ok (.goto 16, 3) := by decide +kernel
theorem d_jdk_68_method_2_38 : decode jdk_68_method_2_code 38 = .ok (.return_, 1) := by decide +kernel
theorem ef_rmASBi (m : MethodId) (x0 : Addr) (x1 : Int32) : entryFrame m #[(.ref x0), (.int x1)] 2 = mkF m 0 #[.val (.ref x0), .val (.int x1)] [] := by first | (simp [entryFrame, mkF, argsToLocals, Value.category]; done) | rfl
def Q_rmASBi (Z : State) (a : Addr) (cst : Int32) (h0 : Heap) (n0 : Nat) (v : Option Value) (h : Heap) (L : List Loc) : Prop := ∃ (va : Addr), ∃ (kc : ClassId), (v = none) ∧ (Fr n0 L) ∧ (Keep h0 h [a]) ∧ (Exa Z h a "java/lang/StringBuilder") ∧ (Fld Z h a "java/lang/AbstractStringBuilder" "value" "[B" (.ref va)) ∧ (Fld Z h a "java/lang/AbstractStringBuilder" "coder" "B" (.int (0 : Int32))) ∧ (Fld Z h a "java/lang/AbstractStringBuilder" "count" "I" (.int (0 : Int32))) ∧ (Arv Z h va kc .byte (16 : Int32) ((List.replicate 16 (0 : Int32)).map Value.int) (.int (0 : Int32))) ∧ (h0.size ≤ va)
set_option maxRecDepth 65536 in
set_option maxHeartbeats 40000000 in
theorem rmASBi (l : Launch) (Z : State) (a0 : Array Value) (hw : ∀ d ∈ tables_1, d.before a0 Z = true) (ws : List Jvm.Cond) (a : Addr) (cst : Int32) (h0 : Heap) (n0 : Nat) (Z0 : n0 ≤ h0.size) (I1 : Sta Z Z.heap "java/lang/String" "COMPACT_STRINGS" "Z" (.int cst)) (OX : Old Z n0 h0) (hcst : ¬ (cst = (0 : Int32))) (I2 : Exa Z h0 a "java/lang/StringBuilder") (I3 : Fld Z h0 a "java/lang/AbstractStringBuilder" "value" "[B" .null) (I4 : Fld Z h0 a "java/lang/AbstractStringBuilder" "coder" "B" (.int (0 : Int32))) (I5 : Fld Z h0 a "java/lang/AbstractStringBuilder" "count" "I" (.int (0 : Int32))) (ga : n0 ≤ a) :
    MetFree l (⟨"java/lang/AbstractStringBuilder", "<init>", "(I)V"⟩ : MethodName) (head1 (Jvm.Cond.code (⟨"java/lang/AbstractStringBuilder", "<init>", "(I)V"⟩ : MethodName) jdk_68_method_2_code 2 none :: ws) ({ frames := 1, cells := 1, slots := 16, locals := 12 } : Room)) (fun ar_ U => ar_ = #[(.ref a), (.int (16 : Int32))] ∧ Z.Warmed39 U.vm ∧ U.heap = h0) (fun _ _ _ _ _ => True) (fun _ U oc_ U' => ∃ v L, oc_ = .returned v ∧ Q_rmASBi Z a cst h0 n0 v U'.heap L ∧ FrameEnd U oc_ U' L ({ frames := 1, cells := 1, slots := 16, locals := 12 } : Room).cells ({ frames := 1, cells := 1, slots := 16, locals := 12 } : Room).slots) := by
  refine MetFree.of_bodySF (plainFor_of_name pn_java_lang_AbstractStringBuilder) hisR ?_
  intro p e s m args below meth c s₁ Bd hml0 hP hK
  obtain ⟨rfl, hZ, hh⟩ := hP
  have hx := Bd.exec
  have hby := Bd.bytes
  have hml : c.maxLocals = 2 := hml0
  have hown : s.vm.findClass "java/lang/AbstractStringBuilder" = some m.cls := findClass_of_methodNamed Bd.named
  have hnm := (name_of_methodNamed Bd.named Bd.method).1
  have X0 : Stand p l e ({ frames := 1, cells := 1, slots := 16, locals := 12 } : Room) s m #[(.ref a), (.int (16 : Int32))] below meth c s₁ [] 0 0 := Stand.of_body Bd
  have e0 : s₁.heap = h0 := by rw [← hh, Bd.state]; rfl
  have N0 := Fr.nil n0
  have pre0 : ∀ t_, Steps p.tables e below (s₁.setTop (mkF m 0 #[.val (.ref a), .val (.int (16 : Int32))] [])) t_ → Steps p.tables e below (s₁.setTop (entryFrame m #[(.ref a), (.int (16 : Int32))] 2)) t_ := fun t_ k_ => castTop (ef_rmASBi m a (16 : Int32)) k_
  have lt_I2 : @LT.lt Nat _ a h0.size := I2.lt
  have lt_I3 : @LT.lt Nat _ a h0.size := I3.lt
  have lt_I4 : @LT.lt Nat _ a h0.size := I4.lt
  have lt_I5 : @LT.lt Nat _ a h0.size := I5.lt
  obtain ⟨T1, X1, e1, st1⟩ := initO X0 hx hZ hown (hw _ (List.mem_of_getElem? (i := 57) rfl)) (hw _ (List.mem_of_getElem? (i := 23) rfl)) (hw _ (List.mem_of_getElem? (i := 24) rfl)) e0 (g := (mkF m 1 #[.val (.ref a), .val (.int (16 : Int32))] [(.ref a)])) rfl (by rw [hml]; rfl) rfl (Jvm.hb hby d_jdk_68_method_2_1) (by decide) (W := 0) (by show 2 * 0 + _ ≤ _; exact Nat.le_of_eq rfl) (by decide)
  obtain ⟨T2, X2, e2, st2⟩ := getS2 X1 hx hZ hown (host := "") (Or.inl (hw _ (List.mem_of_getElem? (i := 58) rfl))) Via.refl e1 (I1.ext OX.2) (g := (mkF m 4 #[.val (.ref a), .val (.int (16 : Int32))] [])) rfl (Jvm.hb hby d_jdk_68_method_2_4)
  obtain ⟨T3, h3, k3, X3, e3, E3, A3, st3⟩ := newP X2 hx hZ (hw _ (List.mem_of_getElem? (i := 30) rfl)) e2 (g := (mkF m 12 #[.val (.ref a), .val (.int (16 : Int32))] [(.int (16 : Int32)), (.ref a)])) rfl (Jvm.hb hby d_jdk_68_method_2_12) rfl (by decide) (cap := 16) (by decide) (by decide) (by decide) (by decide)
  obtain ⟨b3, g3⟩ : ∃ z, z = h0.size := ⟨_, rfl⟩
  rw [← g3] at A3 st3
  have z4 : h0.size ≤ h3.size := E3.1
  have l3 : b3 < h3.size := A3.lt
  have V3 : Arv Z h3 b3 k3 .byte (16 : Int32) [(.int (0 : Int32)), (.int (0 : Int32)), (.int (0 : Int32)), (.int (0 : Int32)), (.int (0 : Int32)), (.int (0 : Int32)), (.int (0 : Int32)), (.int (0 : Int32)), (.int (0 : Int32)), (.int (0 : Int32)), (.int (0 : Int32)), (.int (0 : Int32)), (.int (0 : Int32)), (.int (0 : Int32)), (.int (0 : Int32)), (.int (0 : Int32))] (.int (0 : Int32)) := (Arv.new A3 (by decide)).pad (pad_rep [] (.int (0 : Int32)) 16)
  have f5 : Exa Z h3 a "java/lang/StringBuilder" := (I2.ext E3)
  have f6 : Fld Z h3 a "java/lang/AbstractStringBuilder" "value" "[B" .null := (I3.ext E3)
  obtain ⟨T7, h7, X7, e7, W7, st7⟩ := putF X3 hx hZ hown (host := "") (Or.inl (hw _ (List.mem_of_getElem? (i := 59) rfl))) Via.refl e3 f6 f5 (Or.inl (hw _ (List.mem_of_getElem? (i := 60) rfl))) (hw _ (List.mem_of_getElem? (i := 46) rfl)) (ty := (.array .byte)) (by decide) rfl rfl (g := (mkF m 14 #[.val (.ref a), .val (.int (16 : Int32))] [(.ref b3), (.ref a)])) rfl rfl (Jvm.hb hby d_jdk_68_method_2_14)
  have z8 : h3.size ≤ h7.size := Nat.le_of_eq W7.size.symm
  have F7 : Fld Z h7 a "java/lang/AbstractStringBuilder" "value" "[B" (.ref b3) := f6.same W7
  have N7 := Fr.snoc X7 N0 (show n0 ≤ a by omega)
  have f9 : Exa Z h7 a "java/lang/StringBuilder" := (f5.wr W7)
  have f10 : Fld Z h7 a "java/lang/AbstractStringBuilder" "coder" "B" (.int (0 : Int32)) := ((I4.ext E3).other W7 (Or.inr (slot_ne (Or.inl (hw _ (List.mem_of_getElem? (i := 62) rfl))) (Or.inl (hw _ (List.mem_of_getElem? (i := 60) rfl))) (by decide) (t := .byte) (t' := (.array .byte)) (by decide) (by decide))))
  obtain ⟨T11, h11, X11, e11, W11, st11⟩ := putFN X7 hx hZ hown (hw _ (List.mem_of_getElem? (i := 61) rfl)) Via.refl e7 f10 f9 (Or.inl (hw _ (List.mem_of_getElem? (i := 62) rfl))) (hw _ (List.mem_of_getElem? (i := 46) rfl)) (ty := .byte) (v' := (.int (0 : Int32))) (by decide) rfl rfl (g := (mkF m 19 #[.val (.ref a), .val (.int (16 : Int32))] [(.int (0 : Int32)), (.ref a)])) rfl rfl (Jvm.hb hby d_jdk_68_method_2_19)
  have z12 : h7.size ≤ h11.size := Nat.le_of_eq W11.size.symm
  have F11 : Fld Z h11 a "java/lang/AbstractStringBuilder" "coder" "B" (.int (0 : Int32)) := f10.same W11
  have N11 := Fr.snoc X11 N7 (show n0 ≤ a by omega)
  have s13 : ∀ t_, Steps p.tables e below (T11.setTop (mkF m 38 #[.val (.ref a), .val (.int (16 : Int32))] [])) t_ → Steps p.tables e below (s₁.setTop (entryFrame m #[(.ref a), (.int (16 : Int32))] 2)) t_ := fun t_ k_ => pre0 t_ (by
    show Steps p.tables e below (s₁.setTop (mkF m 0 #[.val (.ref a), .val (.int (16 : Int32))] [])) t_
    refine XS.aloadN X0.here hx rfl (Jvm.hb hby d_jdk_68_method_2_0) rfl rfl ?_
    refine st1 _ ?_
    show Steps p.tables e below (T1.setTop (mkF m 4 #[.val (.ref a), .val (.int (16 : Int32))] [])) _
    refine st2 _ ?_
    show Steps p.tables e below (T2.setTop (mkF m 7 #[.val (.ref a), .val (.int (16 : Int32))] [(.int cst)])) _
    refine XS.ifNo X2.here hx rfl (Jvm.hb hby d_jdk_68_method_2_7) rfl ((if0 _ _).trans (feq hcst).1) ?_
    show Steps p.tables e below (T2.setTop (mkF m 10 #[.val (.ref a), .val (.int (16 : Int32))] [])) _
    refine XS.aloadN X2.here hx rfl (Jvm.hb hby d_jdk_68_method_2_10) rfl rfl ?_
    refine XS.iloadN X2.here hx rfl (Jvm.hb hby d_jdk_68_method_2_11) rfl ?_
    refine st3 _ ?_
    show Steps p.tables e below (T3.setTop (mkF m 14 #[.val (.ref a), .val (.int (16 : Int32))] [(.ref b3), (.ref a)])) _
    refine st7 _ ?_
    show Steps p.tables e below (T7.setTop (mkF m 17 #[.val (.ref a), .val (.int (16 : Int32))] [])) _
    refine XS.aloadN X7.here hx rfl (Jvm.hb hby d_jdk_68_method_2_17) rfl rfl ?_
    refine XS.iconst X7.here hx rfl (Jvm.hb hby d_jdk_68_method_2_18) ?_
    refine st11 _ ?_
    show Steps p.tables e below (T11.setTop (mkF m 22 #[.val (.ref a), .val (.int (16 : Int32))] [])) _
    refine XS.goto X11.here hx rfl (pc0 := 22) (pc' := 38) rfl (Jvm.hb hby d_jdk_68_method_2_22) (by decide) (by decide) ?_
    show Steps p.tables e below (T11.setTop (mkF m 38 #[.val (.ref a), .val (.int (16 : Int32))] [])) t_
    exact k_)
  obtain ⟨fs, hr, hrun, hended, hW, hsame⟩ := X11.leave (v := none) (fun _ => rfl)
  have f14 : Exa Z h11 a "java/lang/StringBuilder" := (f9.wr W11)
  have f15 : Fld Z h11 a "java/lang/AbstractStringBuilder" "value" "[B" (.ref b3) := (F7.other W11 (Or.inr (slot_ne (Or.inl (hw _ (List.mem_of_getElem? (i := 60) rfl))) (Or.inl (hw _ (List.mem_of_getElem? (i := 62) rfl))) (by decide) (t := (.array .byte)) (t' := .byte) (by decide) (by decide))))
  have f16 : Fld Z h11 a "java/lang/AbstractStringBuilder" "count" "I" (.int (0 : Int32)) := (((I5.ext E3).other W7 (Or.inr (slot_ne (Or.inl (hw _ (List.mem_of_getElem? (i := 133) rfl))) (Or.inl (hw _ (List.mem_of_getElem? (i := 60) rfl))) (by decide) (t := .int) (t' := (.array .byte)) (by decide) (by decide)))).other W11 (Or.inr (slot_ne (Or.inl (hw _ (List.mem_of_getElem? (i := 133) rfl))) (Or.inl (hw _ (List.mem_of_getElem? (i := 62) rfl))) (by decide) (t := .int) (t' := .byte) (by decide) (by decide))))
  have f17 : Arv Z h11 b3 k3 .byte (16 : Int32) [(.int (0 : Int32)), (.int (0 : Int32)), (.int (0 : Int32)), (.int (0 : Int32)), (.int (0 : Int32)), (.int (0 : Int32)), (.int (0 : Int32)), (.int (0 : Int32)), (.int (0 : Int32)), (.int (0 : Int32)), (.int (0 : Int32)), (.int (0 : Int32)), (.int (0 : Int32)), (.int (0 : Int32)), (.int (0 : Int32)), (.int (0 : Int32))] (.int (0 : Int32)) := ((V3.other W7 (show @Ne Nat b3 a by omega)).other W11 (show @Ne Nat b3 a by omega))
  refine ⟨_, _, s13 _ ?_, hrun, hended, _, _, rfl, ?_, ⟨_, rfl⟩, hW, hsame.mono (by decide) (by decide)⟩
  · show Steps p.tables e below (T11.setTop (mkF m 38 #[.val (.ref a), .val (.int (16 : Int32))] [])) _
    exact X11.returnOut hx Bd.returns (Jvm.hb hby d_jdk_68_method_2_38) hr
  · show Q_rmASBi Z _ _ h0 n0 _ T11.heap _
    rw [e11]
    exact ⟨b3, k3, rfl, N11, ((((Keep.refl h0 [a]).ext E3).wr W7 (Or.inl (by simp))).wr W11 (Or.inl (by simp))), f14, f15, F11, f16, f17, by omega⟩
theorem pn_java_lang_StringBuilder : plainName "java/lang/StringBuilder" = true := by first | (simp [plainName, overriddenIn]; done) | decide +kernel
theorem d_jdk_67_method_1_0 : decode jdk_67_method_1_code 0 = .ok (.aload_n 0, 1) := by decide +kernel
theorem d_jdk_67_method_1_1 : decode jdk_67_method_1_code 1 = .ok (.bipush 16, 2) := by decide +kernel
theorem pd__I_V : parseMethodDescriptor "(I)V" = some ⟨[.int], none⟩ := by decide +kernel
theorem d_jdk_67_method_1_3 : decode jdk_67_method_1_code 3 = .ok (.invokespecial 1, 3) := by decide +kernel
theorem d_jdk_67_method_1_6 : decode jdk_67_method_1_code 6 = .ok (.return_, 1) := by decide +kernel
theorem ef_rmSBi (m : MethodId) (x0 : Addr) : entryFrame m #[(.ref x0)] 1 = mkF m 0 #[.val (.ref x0)] [] := by first | (simp [entryFrame, mkF, argsToLocals, Value.category]; done) | rfl
def Q_rmSBi (Z : State) (a : Addr) (cst : Int32) (h0 : Heap) (n0 : Nat) (v : Option Value) (h : Heap) (L : List Loc) : Prop := ∃ (va : Addr), ∃ (kc : ClassId), (v = none) ∧ (Fr n0 L) ∧ (Keep h0 h [a]) ∧ (Exa Z h a "java/lang/StringBuilder") ∧ (Fld Z h a "java/lang/AbstractStringBuilder" "value" "[B" (.ref va)) ∧ (Fld Z h a "java/lang/AbstractStringBuilder" "coder" "B" (.int (0 : Int32))) ∧ (Fld Z h a "java/lang/AbstractStringBuilder" "count" "I" (.int (0 : Int32))) ∧ (Arv Z h va kc .byte (16 : Int32) ((List.replicate 16 (0 : Int32)).map Value.int) (.int (0 : Int32))) ∧ (h0.size ≤ va)
set_option maxRecDepth 65536 in
set_option maxHeartbeats 40000000 in
theorem rmSBi (l : Launch) (Z : State) (a0 : Array Value) (hw : ∀ d ∈ tables_1, d.before a0 Z = true) (ws : List Jvm.Cond) (a : Addr) (cst : Int32) (h0 : Heap) (n0 : Nat) (Z0 : n0 ≤ h0.size) (I1 : Sta Z Z.heap "java/lang/String" "COMPACT_STRINGS" "Z" (.int cst)) (OX : Old Z n0 h0) (hcst : ¬ (cst = (0 : Int32))) (I2 : Exa Z h0 a "java/lang/StringBuilder") (I3 : Fld Z h0 a "java/lang/AbstractStringBuilder" "value" "[B" .null) (I4 : Fld Z h0 a "java/lang/AbstractStringBuilder" "coder" "B" (.int (0 : Int32))) (I5 : Fld Z h0 a "java/lang/AbstractStringBuilder" "count" "I" (.int (0 : Int32))) (ga : n0 ≤ a) :
    MetFree l (⟨"java/lang/StringBuilder", "<init>", "()V"⟩ : MethodName) (head1 (Jvm.Cond.code (⟨"java/lang/StringBuilder", "<init>", "()V"⟩ : MethodName) jdk_67_method_1_code 1 none :: ws) ({ frames := 2, cells := 1, slots := 16, locals := 25 } : Room)) (fun ar_ U => ar_ = #[(.ref a)] ∧ Z.Warmed39 U.vm ∧ U.heap = h0) (fun _ _ _ _ _ => True) (fun _ U oc_ U' => ∃ v L, oc_ = .returned v ∧ Q_rmSBi Z a cst h0 n0 v U'.heap L ∧ FrameEnd U oc_ U' L ({ frames := 2, cells := 1, slots := 16, locals := 25 } : Room).cells ({ frames := 2, cells := 1, slots := 16, locals := 25 } : Room).slots) := by
  refine MetFree.of_bodySF (plainFor_of_name pn_java_lang_StringBuilder) hisR ?_
  intro p e s m args below meth c s₁ Bd hml0 hP hK
  obtain ⟨rfl, hZ, hh⟩ := hP
  have hx := Bd.exec
  have hby := Bd.bytes
  have hml : c.maxLocals = 1 := hml0
  have hown : s.vm.findClass "java/lang/StringBuilder" = some m.cls := findClass_of_methodNamed Bd.named
  have hnm := (name_of_methodNamed Bd.named Bd.method).1
  have X0 : Stand p l e ({ frames := 2, cells := 1, slots := 16, locals := 25 } : Room) s m #[(.ref a)] below meth c s₁ [] 0 0 := Stand.of_body Bd
  have e0 : s₁.heap = h0 := by rw [← hh, Bd.state]; rfl
  have N0 := Fr.nil n0
  have pre0 : ∀ t_, Steps p.tables e below (s₁.setTop (mkF m 0 #[.val (.ref a)] [])) t_ → Steps p.tables e below (s₁.setTop (entryFrame m #[(.ref a)] 1)) t_ := fun t_ k_ => castTop (ef_rmSBi m a) k_
  have lt_I2 : @LT.lt Nat _ a h0.size := I2.lt
  have lt_I3 : @LT.lt Nat _ a h0.size := I3.lt
  have lt_I4 : @LT.lt Nat _ a h0.size := I4.lt
  have lt_I5 : @LT.lt Nat _ a h0.size := I5.lt
  have Zc1 : n0 ≤ h0.size := by omega
  obtain ⟨_, _, ⟨T2, L2, k2, n2⟩, -, X2, ⟨Lc2, hQ2, l2, y2, z2⟩, st2⟩ := X0.specialBack hx (y := (⟨"java/lang/AbstractStringBuilder", "<init>", "(I)V"⟩ : MethodName)) rfl hown (mvT hZ (hw _ (List.mem_of_getElem? (i := 51) rfl))) (mvT hZ (hw _ (List.mem_of_getElem? (i := 52) rfl))) (mvT hZ (hw _ (List.mem_of_getElem? (i := 56) rfl))) (by decide) (backOf (W := 0) (rmASBi l Z a0 hw [] a cst h0 n0 Zc1 I1 OX (hcst : ¬ (cst = (0 : Int32))) I2 I3 I4 I5 (ga : n0 ≤ a)) hZ (hw _ (List.mem_of_getElem? (i := 56) rfl)) (hw _ (List.mem_of_getElem? (i := 55) rfl)) (by decide) (by decide)) (g := (mkF m 3 #[.val (.ref a)] [(.int (16 : Int32)), (.ref a)])) rfl (by rw [hml]; rfl) (Steps.refl _) (a := a) (argsL := [(.int (16 : Int32))]) (rest := []) (lenOf pd__I_V rfl) rfl (by show 2 * 0 + _ ≤ _; exact Nat.le_of_eq rfl) (Jvm.hb hby d_jdk_67_method_1_3) (fun _ _ => ⟨rfl, e0, (by decide : 0 + 1 ≤ _), (by decide : 0 + 16 ≤ _)⟩)
  dsimp only [Pt.U, Pt.locs, Pt.cells, Pt.slots] at X2 l2 y2 z2 st2 hQ2
  subst l2 y2 z2
  obtain ⟨va_2, kc_2, rfl, N2q, K2, Fq2_0, Fq2_1, Fq2_2, Fq2_3, Fq2_4, P2_0⟩ := hQ2
  have N2 := Fr.app N0 N2q
  obtain ⟨h2, e2⟩ : ∃ z, T2.heap = z := ⟨_, rfl⟩
  rw [e2] at K2 Fq2_0 Fq2_1 Fq2_2 Fq2_3 Fq2_4
  have z3 : h0.size ≤ h2.size := K2.1
  have lt2_0 : @LT.lt Nat _ a h2.size := Fq2_0.lt
  have lt2_4 : @LT.lt Nat _ va_2 h2.size := Fq2_4.lt
  have s4 : ∀ t_, Steps p.tables e below (T2.setTop (mkF m 6 #[.val (.ref a)] [])) t_ → Steps p.tables e below (s₁.setTop (entryFrame m #[(.ref a)] 1)) t_ := fun t_ k_ => pre0 t_ (by
    show Steps p.tables e below (s₁.setTop (mkF m 0 #[.val (.ref a)] [])) t_
    refine XS.aloadN X0.here hx rfl (Jvm.hb hby d_jdk_67_method_1_0) rfl rfl ?_
    refine XS.bipush X0.here hx rfl (Jvm.hb hby d_jdk_67_method_1_1) ?_
    refine st2.trans ?_
    show Steps p.tables e below (T2.setTop (mkF m 6 #[.val (.ref a)] [])) _
    show Steps p.tables e below (T2.setTop (mkF m 6 #[.val (.ref a)] [])) t_
    exact k_)
  obtain ⟨fs, hr, hrun, hended, hW, hsame⟩ := X2.leave (v := none) (fun _ => rfl)
  refine ⟨_, _, s4 _ ?_, hrun, hended, _, _, rfl, ?_, ⟨_, rfl⟩, hW, hsame.mono (by decide) (by decide)⟩
  · show Steps p.tables e below (T2.setTop (mkF m 6 #[.val (.ref a)] [])) _
    exact X2.returnOut hx Bd.returns (Jvm.hb hby d_jdk_67_method_1_6) hr
  · show Q_rmSBi Z _ _ h0 n0 _ T2.heap _
    rw [e2]
    exact ⟨va_2, kc_2, rfl, N2, ((Keep.refl h0 [a]).trans K2 (allS (Or.inl (by simp)) all0)), Fq2_0, Fq2_1, Fq2_2, Fq2_3, Fq2_4, by omega⟩
theorem d_jdk_68_method_6_0 : decode jdk_68_method_6_code 0 = .ok (.aload_n 0, 1) := by decide +kernel
theorem d_jdk_68_method_6_1 : decode jdk_68_method_6_code 1 = .ok (.getfield 79, 3) := by decide +kernel
theorem d_jdk_68_method_6_4 : decode jdk_68_method_6_code 4 = .ok (.ireturn, 1) := by decide +kernel
theorem ef_rmALen (m : MethodId) (x0 : Addr) : entryFrame m #[(.ref x0)] 1 = mkF m 0 #[.val (.ref x0)] [] := by first | (simp [entryFrame, mkF, argsToLocals, Value.category]; done) | rfl
def Q_rmALen (Z : State) (a : Addr) (cn : Int32) (h0 : Heap) (n0 : Nat) (v : Option Value) (h : Heap) (L : List Loc) : Prop := (v = some (.int cn)) ∧ (Fr n0 L) ∧ (h = h0)
set_option maxRecDepth 65536 in
set_option maxHeartbeats 40000000 in
theorem rmALen (l : Launch) (Z : State) (a0 : Array Value) (hw : ∀ d ∈ tables_1, d.before a0 Z = true) (ws : List Jvm.Cond) (a : Addr) (cn : Int32) (h0 : Heap) (n0 : Nat) (Z0 : n0 ≤ h0.size) (I1 : Exa Z h0 a "java/lang/StringBuilder") (I2 : Fld Z h0 a "java/lang/AbstractStringBuilder" "count" "I" (.int cn)) :
    MetFree l (⟨"java/lang/AbstractStringBuilder", "length", "()I"⟩ : MethodName) (head1 (Jvm.Cond.code (⟨"java/lang/AbstractStringBuilder", "length", "()I"⟩ : MethodName) jdk_68_method_6_code 1 (some .int) :: ws) ({ frames := 0, cells := 0, slots := 0, locals := 0 } : Room)) (fun ar_ U => ar_ = #[(.ref a)] ∧ Z.Warmed39 U.vm ∧ U.heap = h0) (fun _ _ _ _ _ => True) (fun _ U oc_ U' => ∃ v L, oc_ = .returned v ∧ Q_rmALen Z a cn h0 n0 v U'.heap L ∧ FrameEnd U oc_ U' L ({ frames := 0, cells := 0, slots := 0, locals := 0 } : Room).cells ({ frames := 0, cells := 0, slots := 0, locals := 0 } : Room).slots) := by
  refine MetFree.of_bodySF (plainFor_of_name pn_java_lang_AbstractStringBuilder) hisR ?_
  intro p e s m args below meth c s₁ Bd hml0 hP hK
  obtain ⟨rfl, hZ, hh⟩ := hP
  have hx := Bd.exec
  have hby := Bd.bytes
  have hml : c.maxLocals = 1 := hml0
  have hown : s.vm.findClass "java/lang/AbstractStringBuilder" = some m.cls := findClass_of_methodNamed Bd.named
  have hnm := (name_of_methodNamed Bd.named Bd.method).1
  have X0 : Stand p l e ({ frames := 0, cells := 0, slots := 0, locals := 0 } : Room) s m #[(.ref a)] below meth c s₁ [] 0 0 := Stand.of_body Bd
  have e0 : s₁.heap = h0 := by rw [← hh, Bd.state]; rfl
  have N0 := Fr.nil n0
  have pre0 : ∀ t_, Steps p.tables e below (s₁.setTop (mkF m 0 #[.val (.ref a)] [])) t_ → Steps p.tables e below (s₁.setTop (entryFrame m #[(.ref a)] 1)) t_ := fun t_ k_ => castTop (ef_rmALen m a) k_
  have lt_I1 : @LT.lt Nat _ a h0.size := I1.lt
  have lt_I2 : @LT.lt Nat _ a h0.size := I2.lt
  obtain ⟨T1, X1, e1, st1⟩ := getF X0 hx hZ hown (host := "") (Or.inl (hw _ (List.mem_of_getElem? (i := 132) rfl))) Via.refl e0 I2 (g := (mkF m 1 #[.val (.ref a)] [(.ref a)])) rfl rfl (Jvm.hb hby d_jdk_68_method_6_1)
  have s2 : ∀ t_, Steps p.tables e below (T1.setTop (mkF m 4 #[.val (.ref a)] [(.int cn)])) t_ → Steps p.tables e below (s₁.setTop (entryFrame m #[(.ref a)] 1)) t_ := fun t_ k_ => pre0 t_ (by
    show Steps p.tables e below (s₁.setTop (mkF m 0 #[.val (.ref a)] [])) t_
    refine XS.aloadN X0.here hx rfl (Jvm.hb hby d_jdk_68_method_6_0) rfl rfl ?_
    refine st1 _ ?_
    show Steps p.tables e below (T1.setTop (mkF m 4 #[.val (.ref a)] [(.int cn)])) _
    show Steps p.tables e below (T1.setTop (mkF m 4 #[.val (.ref a)] [(.int cn)])) t_
    exact k_)
  obtain ⟨fs, hr, hrun, hended, hW, hsame⟩ := X1.leave (v := some (.int cn)) (fun h => by rw [Bd.returns] at h; cases h)
  refine ⟨_, _, s2 _ ?_, hrun, hended, _, _, rfl, ?_, ⟨_, rfl⟩, hW, hsame.mono (by decide) (by decide)⟩
  · show Steps p.tables e below (T1.setTop (mkF m 4 #[.val (.ref a)] [(.int cn)])) _
    exact retI X1 hx Bd.returns (Jvm.hb hby d_jdk_68_method_6_4) hr
  · show Q_rmALen Z _ _ h0 n0 _ T1.heap _
    rw [e1]
    exact ⟨rfl, N0, rfl⟩
theorem d_jdk_67_method_93_0 : decode jdk_67_method_93_code 0 = .ok (.aload_n 0, 1) := by decide +kernel
theorem d_jdk_67_method_93_1 : decode jdk_67_method_93_code 1 = .ok (.invokespecial 343, 3) := by decide +kernel
theorem d_jdk_67_method_93_4 : decode jdk_67_method_93_code 4 = .ok (.ireturn, 1) := by decide +kernel
theorem ef_rmSLen (m : MethodId) (x0 : Addr) : entryFrame m #[(.ref x0)] 1 = mkF m 0 #[.val (.ref x0)] [] := by first | (simp [entryFrame, mkF, argsToLocals, Value.category]; done) | rfl
def Q_rmSLen (Z : State) (a : Addr) (cn : Int32) (h0 : Heap) (n0 : Nat) (v : Option Value) (h : Heap) (L : List Loc) : Prop := (v = some (.int cn)) ∧ (Fr n0 L) ∧ (h = h0)
set_option maxRecDepth 65536 in
set_option maxHeartbeats 40000000 in
theorem rmSLen (l : Launch) (Z : State) (a0 : Array Value) (hw : ∀ d ∈ tables_1, d.before a0 Z = true) (ws : List Jvm.Cond) (a : Addr) (cn : Int32) (h0 : Heap) (n0 : Nat) (Z0 : n0 ≤ h0.size) (I1 : Exa Z h0 a "java/lang/StringBuilder") (I2 : Fld Z h0 a "java/lang/AbstractStringBuilder" "count" "I" (.int cn)) :
    MetFree l (⟨"java/lang/StringBuilder", "length", "()I"⟩ : MethodName) (head1 (Jvm.Cond.code (⟨"java/lang/StringBuilder", "length", "()I"⟩ : MethodName) jdk_67_method_93_code 1 (some .int) :: ws) ({ frames := 1, cells := 0, slots := 0, locals := 12 } : Room)) (fun ar_ U => ar_ = #[(.ref a)] ∧ Z.Warmed39 U.vm ∧ U.heap = h0) (fun _ _ _ _ _ => True) (fun _ U oc_ U' => ∃ v L, oc_ = .returned v ∧ Q_rmSLen Z a cn h0 n0 v U'.heap L ∧ FrameEnd U oc_ U' L ({ frames := 1, cells := 0, slots := 0, locals := 12 } : Room).cells ({ frames := 1, cells := 0, slots := 0, locals := 12 } : Room).slots) := by
  refine MetFree.of_bodySF (plainFor_of_name pn_java_lang_StringBuilder) hisR ?_
  intro p e s m args below meth c s₁ Bd hml0 hP hK
  obtain ⟨rfl, hZ, hh⟩ := hP
  have hx := Bd.exec
  have hby := Bd.bytes
  have hml : c.maxLocals = 1 := hml0
  have hown : s.vm.findClass "java/lang/StringBuilder" = some m.cls := findClass_of_methodNamed Bd.named
  have hnm := (name_of_methodNamed Bd.named Bd.method).1
  have X0 : Stand p l e ({ frames := 1, cells := 0, slots := 0, locals := 12 } : Room) s m #[(.ref a)] below meth c s₁ [] 0 0 := Stand.of_body Bd
  have e0 : s₁.heap = h0 := by rw [← hh, Bd.state]; rfl
  have N0 := Fr.nil n0
  have pre0 : ∀ t_, Steps p.tables e below (s₁.setTop (mkF m 0 #[.val (.ref a)] [])) t_ → Steps p.tables e below (s₁.setTop (entryFrame m #[(.ref a)] 1)) t_ := fun t_ k_ => castTop (ef_rmSLen m a) k_
  have lt_I1 : @LT.lt Nat _ a h0.size := I1.lt
  have lt_I2 : @LT.lt Nat _ a h0.size := I2.lt
  have Zc1 : n0 ≤ h0.size := by omega
  obtain ⟨_, _, ⟨T2, L2, k2, n2⟩, -, X2, ⟨Lc2, hQ2, l2, y2, z2⟩, st2⟩ := superBack X0 hx hZ (y := (⟨"java/lang/AbstractStringBuilder", "length", "()I"⟩ : MethodName)) hown (hw _ (List.mem_of_getElem? (i := 180) rfl)) (own_same (hw _ (List.mem_of_getElem? (i := 176) rfl)) (own_nf (y := (⟨"java/lang/AbstractStringBuilder", "length", "()I"⟩ : MethodName)) (z := (⟨"java/lang/AbstractStringBuilder", "ensureCapacityInternal", "(I)V"⟩ : MethodName)) rfl (hw _ (List.mem_of_getElem? (i := 137) rfl))) (by decide)) (hw _ (List.mem_of_getElem? (i := 176) rfl)) (hw _ (List.mem_of_getElem? (i := 128) rfl)) (by decide) (backOf (W := 0) (rmALen l Z a0 hw [] a cn h0 n0 Zc1 I1 I2) hZ (hw _ (List.mem_of_getElem? (i := 181) rfl)) (hw _ (List.mem_of_getElem? (i := 55) rfl)) (by decide) (by decide)) e0 (Ins.self I1) (g := (mkF m 1 #[.val (.ref a)] [(.ref a)])) rfl (by rw [hml]; rfl) (hw _ (List.mem_of_getElem? (i := 181) rfl)) (argsL := []) (rest := []) (lenOf pd___I rfl) rfl (by show 2 * 0 + _ ≤ _; exact Nat.le_of_eq rfl) (Jvm.hb hby d_jdk_67_method_93_1) (fun _ _ => ⟨rfl, e0, (by decide : 0 + 0 ≤ _), (by decide : 0 + 0 ≤ _)⟩)
  dsimp only [Pt.U, Pt.locs, Pt.cells, Pt.slots] at X2 l2 y2 z2 st2 hQ2
  subst l2 y2 z2
  obtain ⟨rfl, N2q, e2⟩ := hQ2
  have N2 := Fr.app N0 N2q
  have s3 : ∀ t_, Steps p.tables e below (T2.setTop (mkF m 4 #[.val (.ref a)] [(.int cn)])) t_ → Steps p.tables e below (s₁.setTop (entryFrame m #[(.ref a)] 1)) t_ := fun t_ k_ => pre0 t_ (by
    show Steps p.tables e below (s₁.setTop (mkF m 0 #[.val (.ref a)] [])) t_
    refine XS.aloadN X0.here hx rfl (Jvm.hb hby d_jdk_67_method_93_0) rfl rfl ?_
    refine st2.trans ?_
    show Steps p.tables e below (T2.setTop (mkF m 4 #[.val (.ref a)] [(.int cn)])) _
    show Steps p.tables e below (T2.setTop (mkF m 4 #[.val (.ref a)] [(.int cn)])) t_
    exact k_)
  obtain ⟨fs, hr, hrun, hended, hW, hsame⟩ := X2.leave (v := some (.int cn)) (fun h => by rw [Bd.returns] at h; cases h)
  refine ⟨_, _, s3 _ ?_, hrun, hended, _, _, rfl, ?_, ⟨_, rfl⟩, hW, hsame.mono (by decide) (by decide)⟩
  · show Steps p.tables e below (T2.setTop (mkF m 4 #[.val (.ref a)] [(.int cn)])) _
    exact retI X2 hx Bd.returns (Jvm.hb hby d_jdk_67_method_93_4) hr
  · show Q_rmSLen Z _ _ h0 n0 _ T2.heap _
    rw [e2]
    exact ⟨rfl, N2, rfl⟩
theorem d_jdk_68_method_64_0 : decode jdk_68_method_64_code 0 = .ok (.aload_n 0, 1) := by decide +kernel
theorem d_jdk_68_method_64_1 : decode jdk_68_method_64_code 1 = .ok (.getfield 15, 3) := by decide +kernel
theorem d_jdk_68_method_64_4 : decode jdk_68_method_64_code 4 = .ok (.areturn, 1) := by decide +kernel
theorem ef_rmGV (m : MethodId) (x0 : Addr) : entryFrame m #[(.ref x0)] 1 = mkF m 0 #[.val (.ref x0)] [] := by first | (simp [entryFrame, mkF, argsToLocals, Value.category]; done) | rfl
def Q_rmGV (Z : State) (a : Addr) (va : Addr) (h0 : Heap) (n0 : Nat) (v : Option Value) (h : Heap) (L : List Loc) : Prop := (v = some (.ref va)) ∧ (Fr n0 L) ∧ (h = h0)
set_option maxRecDepth 65536 in
set_option maxHeartbeats 40000000 in
theorem rmGV (l : Launch) (Z : State) (a0 : Array Value) (hw : ∀ d ∈ tables_1, d.before a0 Z = true) (ws : List Jvm.Cond) (a : Addr) (va : Addr) (h0 : Heap) (n0 : Nat) (Z0 : n0 ≤ h0.size) (I1 : Fld Z h0 a "java/lang/AbstractStringBuilder" "value" "[B" (.ref va)) :
    MetFree l (⟨"java/lang/AbstractStringBuilder", "getValue", "()[B"⟩ : MethodName) (head1 (Jvm.Cond.code (⟨"java/lang/AbstractStringBuilder", "getValue", "()[B"⟩ : MethodName) jdk_68_method_64_code 1 (some (.array .byte)) :: ws) ({ frames := 0, cells := 0, slots := 0, locals := 0 } : Room)) (fun ar_ U => ar_ = #[(.ref a)] ∧ Z.Warmed39 U.vm ∧ U.heap = h0) (fun _ _ _ _ _ => True) (fun _ U oc_ U' => ∃ v L, oc_ = .returned v ∧ Q_rmGV Z a va h0 n0 v U'.heap L ∧ FrameEnd U oc_ U' L ({ frames := 0, cells := 0, slots := 0, locals := 0 } : Room).cells ({ frames := 0, cells := 0, slots := 0, locals := 0 } : Room).slots) := by
  refine MetFree.of_bodySF (plainFor_of_name pn_java_lang_AbstractStringBuilder) hisR ?_
  intro p e s m args below meth c s₁ Bd hml0 hP hK
  obtain ⟨rfl, hZ, hh⟩ := hP
  have hx := Bd.exec
  have hby := Bd.bytes
  have hml : c.maxLocals = 1 := hml0
  have hown : s.vm.findClass "java/lang/AbstractStringBuilder" = some m.cls := findClass_of_methodNamed Bd.named
  have hnm := (name_of_methodNamed Bd.named Bd.method).1
  have X0 : Stand p l e ({ frames := 0, cells := 0, slots := 0, locals := 0 } : Room) s m #[(.ref a)] below meth c s₁ [] 0 0 := Stand.of_body Bd
  have e0 : s₁.heap = h0 := by rw [← hh, Bd.state]; rfl
  have N0 := Fr.nil n0
  have pre0 : ∀ t_, Steps p.tables e below (s₁.setTop (mkF m 0 #[.val (.ref a)] [])) t_ → Steps p.tables e below (s₁.setTop (entryFrame m #[(.ref a)] 1)) t_ := fun t_ k_ => castTop (ef_rmGV m a) k_
  have lt_I1 : @LT.lt Nat _ a h0.size := I1.lt
  obtain ⟨T1, X1, e1, st1⟩ := getF X0 hx hZ hown (host := "") (Or.inl (hw _ (List.mem_of_getElem? (i := 59) rfl))) Via.refl e0 I1 (g := (mkF m 1 #[.val (.ref a)] [(.ref a)])) rfl rfl (Jvm.hb hby d_jdk_68_method_64_1)
  have s2 : ∀ t_, Steps p.tables e below (T1.setTop (mkF m 4 #[.val (.ref a)] [(.ref va)])) t_ → Steps p.tables e below (s₁.setTop (entryFrame m #[(.ref a)] 1)) t_ := fun t_ k_ => pre0 t_ (by
    show Steps p.tables e below (s₁.setTop (mkF m 0 #[.val (.ref a)] [])) t_
    refine XS.aloadN X0.here hx rfl (Jvm.hb hby d_jdk_68_method_64_0) rfl rfl ?_
    refine st1 _ ?_
    show Steps p.tables e below (T1.setTop (mkF m 4 #[.val (.ref a)] [(.ref va)])) _
    show Steps p.tables e below (T1.setTop (mkF m 4 #[.val (.ref a)] [(.ref va)])) t_
    exact k_)
  obtain ⟨fs, hr, hrun, hended, hW, hsame⟩ := X1.leave (v := some (.ref va)) (fun h => by rw [Bd.returns] at h; cases h)
  refine ⟨_, _, s2 _ ?_, hrun, hended, _, _, rfl, ?_, ⟨_, rfl⟩, hW, hsame.mono (by decide) (by decide)⟩
  · show Steps p.tables e below (T1.setTop (mkF m 4 #[.val (.ref a)] [(.ref va)])) _
    jvm_step X1.here [X1.here.top, hx, (Jvm.hb hby d_jdk_68_method_64_4), X1.method', Bd.returns, Value.isRef, FieldType.isReference]
    first | (intro acts; rw [hr _ acts rfl rfl rfl]) | rw [hr _ _ rfl rfl rfl]
    exact Steps.refl _
  · show Q_rmGV Z _ _ h0 n0 _ T1.heap _
    rw [e1]
    exact ⟨rfl, N0, rfl⟩
theorem d_jdk_68_method_68_0 : decode jdk_68_method_68_code 0 = .ok (.getstatic 18, 3) := by decide +kernel
theorem d_jdk_68_method_68_3 : decode jdk_68_method_68_code 3 = .ok (.ifCond .eq 14, 3) := by decide +kernel
theorem d_jdk_68_method_68_6 : decode jdk_68_method_68_code 6 = .ok (.aload_n 0, 1) := by decide +kernel
theorem d_jdk_68_method_68_7 : decode jdk_68_method_68_code 7 = .ok (.getfield 22, 3) := by decide +kernel
theorem d_jdk_68_method_68_10 : decode jdk_68_method_68_code 10 = .ok (.ifCond .ne 7, 3) := by decide +kernel
theorem d_jdk_68_method_68_13 : decode jdk_68_method_68_code 13 = .ok (.iconst 1, 1) := by decide +kernel
theorem d_jdk_68_method_68_14 : decode jdk_68_method_68_code 14 = .ok (.goto 4, 3) := by decide +kernel
theorem d_jdk_68_method_68_18 : decode jdk_68_method_68_code 18 = .ok (.ireturn, 1) := by decide +kernel
theorem ef_rmALat (m : MethodId) (x0 : Addr) : entryFrame m #[(.ref x0)] 1 = mkF m 0 #[.val (.ref x0)] [] := by first | (simp [entryFrame, mkF, argsToLocals, Value.category]; done) | rfl
def Q_rmALat (Z : State) (a : Addr) (cst : Int32) (h0 : Heap) (n0 : Nat) (v : Option Value) (h : Heap) (L : List Loc) : Prop := (v = some (.int (1 : Int32))) ∧ (Fr n0 L) ∧ (h = h0)
set_option maxRecDepth 65536 in
set_option maxHeartbeats 40000000 in
theorem rmALat (l : Launch) (Z : State) (a0 : Array Value) (hw : ∀ d ∈ tables_1, d.before a0 Z = true) (ws : List Jvm.Cond) (a : Addr) (cst : Int32) (h0 : Heap) (n0 : Nat) (Z0 : n0 ≤ h0.size) (I1 : Sta Z Z.heap "java/lang/String" "COMPACT_STRINGS" "Z" (.int cst)) (OX : Old Z n0 h0) (hcst : ¬ (cst = (0 : Int32))) (I2 : Fld Z h0 a "java/lang/AbstractStringBuilder" "coder" "B" (.int (0 : Int32))) :
    MetFree l (⟨"java/lang/AbstractStringBuilder", "isLatin1", "()Z"⟩ : MethodName) (head1 (Jvm.Cond.code (⟨"java/lang/AbstractStringBuilder", "isLatin1", "()Z"⟩ : MethodName) jdk_68_method_68_code 1 (some .boolean) :: ws) ({ frames := 0, cells := 0, slots := 0, locals := 0 } : Room)) (fun ar_ U => ar_ = #[(.ref a)] ∧ Z.Warmed39 U.vm ∧ U.heap = h0) (fun _ _ _ _ _ => True) (fun _ U oc_ U' => ∃ v L, oc_ = .returned v ∧ Q_rmALat Z a cst h0 n0 v U'.heap L ∧ FrameEnd U oc_ U' L ({ frames := 0, cells := 0, slots := 0, locals := 0 } : Room).cells ({ frames := 0, cells := 0, slots := 0, locals := 0 } : Room).slots) := by
  refine MetFree.of_bodySF (plainFor_of_name pn_java_lang_AbstractStringBuilder) hisR ?_
  intro p e s m args below meth c s₁ Bd hml0 hP hK
  obtain ⟨rfl, hZ, hh⟩ := hP
  have hx := Bd.exec
  have hby := Bd.bytes
  have hml : c.maxLocals = 1 := hml0
  have hown : s.vm.findClass "java/lang/AbstractStringBuilder" = some m.cls := findClass_of_methodNamed Bd.named
  have hnm := (name_of_methodNamed Bd.named Bd.method).1
  have X0 : Stand p l e ({ frames := 0, cells := 0, slots := 0, locals := 0 } : Room) s m #[(.ref a)] below meth c s₁ [] 0 0 := Stand.of_body Bd
  have e0 : s₁.heap = h0 := by rw [← hh, Bd.state]; rfl
  have N0 := Fr.nil n0
  have pre0 : ∀ t_, Steps p.tables e below (s₁.setTop (mkF m 0 #[.val (.ref a)] [])) t_ → Steps p.tables e below (s₁.setTop (entryFrame m #[(.ref a)] 1)) t_ := fun t_ k_ => castTop (ef_rmALat m a) k_
  have lt_I2 : @LT.lt Nat _ a h0.size := I2.lt
  obtain ⟨T1, X1, e1, st1⟩ := getS2 X0 hx hZ hown (host := "") (Or.inl (hw _ (List.mem_of_getElem? (i := 58) rfl))) Via.refl e0 (I1.ext OX.2) (g := (mkF m 0 #[.val (.ref a)] [])) rfl (Jvm.hb hby d_jdk_68_method_68_0)
  obtain ⟨T2, X2, e2, st2⟩ := getF X1 hx hZ hown (host := "") (Or.inl (hw _ (List.mem_of_getElem? (i := 61) rfl))) Via.refl e1 I2 (g := (mkF m 7 #[.val (.ref a)] [(.ref a)])) rfl rfl (Jvm.hb hby d_jdk_68_method_68_7)
  have s3 : ∀ t_, Steps p.tables e below (T2.setTop (mkF m 18 #[.val (.ref a)] [(.int (1 : Int32))])) t_ → Steps p.tables e below (s₁.setTop (entryFrame m #[(.ref a)] 1)) t_ := fun t_ k_ => pre0 t_ (by
    show Steps p.tables e below (s₁.setTop (mkF m 0 #[.val (.ref a)] [])) t_
    refine st1 _ ?_
    show Steps p.tables e below (T1.setTop (mkF m 3 #[.val (.ref a)] [(.int cst)])) _
    refine XS.ifNo X1.here hx rfl (Jvm.hb hby d_jdk_68_method_68_3) rfl ((if0 _ _).trans (feq hcst).1) ?_
    show Steps p.tables e below (T1.setTop (mkF m 6 #[.val (.ref a)] [])) _
    refine XS.aloadN X1.here hx rfl (Jvm.hb hby d_jdk_68_method_68_6) rfl rfl ?_
    refine st2 _ ?_
    show Steps p.tables e below (T2.setTop (mkF m 10 #[.val (.ref a)] [(.int (0 : Int32))])) _
    refine XS.ifNo X2.here hx rfl (Jvm.hb hby d_jdk_68_method_68_10) rfl ((if0 _ _).trans (teq (rfl : (0 : Int32) = (0 : Int32))).2) ?_
    show Steps p.tables e below (T2.setTop (mkF m 13 #[.val (.ref a)] [])) _
    refine XS.iconst X2.here hx rfl (Jvm.hb hby d_jdk_68_method_68_13) ?_
    refine XS.goto X2.here hx rfl (pc0 := 14) (pc' := 18) rfl (Jvm.hb hby d_jdk_68_method_68_14) (by decide) (by decide) ?_
    show Steps p.tables e below (T2.setTop (mkF m 18 #[.val (.ref a)] [(.int (1 : Int32))])) t_
    exact k_)
  obtain ⟨fs, hr, hrun, hended, hW, hsame⟩ := X2.leave (v := some (.int (1 : Int32))) (fun h => by rw [Bd.returns] at h; cases h)
  refine ⟨_, _, s3 _ ?_, hrun, hended, _, _, rfl, ?_, ⟨_, rfl⟩, hW, hsame.mono (by decide) (by decide)⟩
  · show Steps p.tables e below (T2.setTop (mkF m 18 #[.val (.ref a)] [(.int (1 : Int32))])) _
    exact retN X2 hx (t := .boolean) Bd.returns (by simp) (Jvm.hb hby d_jdk_68_method_68_18) hr
  · show Q_rmALat Z _ _ h0 n0 _ T2.heap _
    rw [e2]
    exact ⟨rfl, N0, rfl⟩
theorem d_jdk_68_method_9_0 : decode jdk_68_method_9_code 0 = .ok (.aload_n 0, 1) := by decide +kernel
theorem d_jdk_68_method_9_1 : decode jdk_68_method_9_code 1 = .ok (.getfield 15, 3) := by decide +kernel
theorem d_jdk_68_method_9_4 : decode jdk_68_method_9_code 4 = .ok (.arraylength, 1) := by decide +kernel
theorem d_jdk_68_method_9_5 : decode jdk_68_method_9_code 5 = .ok (.aload_n 0, 1) := by decide +kernel
theorem d_jdk_68_method_9_6 : decode jdk_68_method_9_code 6 = .ok (.getfield 22, 3) := by decide +kernel
theorem d_jdk_68_method_9_9 : decode jdk_68_method_9_code 9 = .ok (.ishr, 1) := by decide +kernel
theorem d_jdk_68_method_9_10 : decode jdk_68_method_9_code 10 = .ok (.istore_n 2, 1) := by decide +kernel
theorem d_jdk_68_method_9_11 : decode jdk_68_method_9_code 11 = .ok (.iload_n 1, 1) := by decide +kernel
theorem d_jdk_68_method_9_12 : decode jdk_68_method_9_code 12 = .ok (.iload_n 2, 1) := by decide +kernel
theorem d_jdk_68_method_9_13 : decode jdk_68_method_9_code 13 = .ok (.isub, 1) := by decide +kernel
theorem d_jdk_68_method_9_14 : decode jdk_68_method_9_code 14 = .ok (.ifCond .le 24, 3) := by decide +kernel
theorem d_jdk_68_method_9_38 : decode jdk_68_method_9_code 38 = .ok (.return_, 1) := by decide +kernel
theorem ef_rmEns (m : MethodId) (x0 : Addr) (x1 : Int32) : entryFrame m #[(.ref x0), (.int x1)] 3 = mkF m 0 #[.val (.ref x0), .val (.int x1), .unset] [] := by first | (simp [entryFrame, mkF, argsToLocals, Value.category]; done) | rfl
def Q_rmEns (Z : State) (a : Addr) (va : Addr) (kc : ClassId) (xs : List Int32) (m_ : Nat) (h0 : Heap) (n0 : Nat) (v : Option Value) (h : Heap) (L : List Loc) : Prop := (v = none) ∧ (Fr n0 L) ∧ (h = h0)
set_option maxRecDepth 65536 in
set_option maxHeartbeats 40000000 in
theorem rmEns (l : Launch) (Z : State) (a0 : Array Value) (hw : ∀ d ∈ tables_1, d.before a0 Z = true) (ws : List Jvm.Cond) (a : Addr) (va : Addr) (kc : ClassId) (xs : List Int32) (m_ : Nat) (h0 : Heap) (n0 : Nat) (Z0 : n0 ≤ h0.size) (I1 : Fld Z h0 a "java/lang/AbstractStringBuilder" "value" "[B" (.ref va)) (I2 : Fld Z h0 a "java/lang/AbstractStringBuilder" "coder" "B" (.int (0 : Int32))) (I3 : Arv Z h0 va kc .byte (16 : Int32) (xs.map Value.int) (.int (0 : Int32))) (hm : m_ ≤ 16) :
    MetFree l (⟨"java/lang/AbstractStringBuilder", "ensureCapacityInternal", "(I)V"⟩ : MethodName) (head1 (Jvm.Cond.code (⟨"java/lang/AbstractStringBuilder", "ensureCapacityInternal", "(I)V"⟩ : MethodName) jdk_68_method_9_code 3 none :: ws) ({ frames := 0, cells := 0, slots := 0, locals := 0 } : Room)) (fun ar_ U => ar_ = #[(.ref a), (.int (Int32.ofNat m_))] ∧ Z.Warmed39 U.vm ∧ U.heap = h0) (fun _ _ _ _ _ => True) (fun _ U oc_ U' => ∃ v L, oc_ = .returned v ∧ Q_rmEns Z a va kc xs m_ h0 n0 v U'.heap L ∧ FrameEnd U oc_ U' L ({ frames := 0, cells := 0, slots := 0, locals := 0 } : Room).cells ({ frames := 0, cells := 0, slots := 0, locals := 0 } : Room).slots) := by
  refine MetFree.of_bodySF (plainFor_of_name pn_java_lang_AbstractStringBuilder) hisR ?_
  intro p e s m args below meth c s₁ Bd hml0 hP hK
  obtain ⟨rfl, hZ, hh⟩ := hP
  have hx := Bd.exec
  have hby := Bd.bytes
  have hml : c.maxLocals = 3 := hml0
  have hown : s.vm.findClass "java/lang/AbstractStringBuilder" = some m.cls := findClass_of_methodNamed Bd.named
  have hnm := (name_of_methodNamed Bd.named Bd.method).1
  have X0 : Stand p l e ({ frames := 0, cells := 0, slots := 0, locals := 0 } : Room) s m #[(.ref a), (.int (Int32.ofNat m_))] below meth c s₁ [] 0 0 := Stand.of_body Bd
  have e0 : s₁.heap = h0 := by rw [← hh, Bd.state]; rfl
  have N0 := Fr.nil n0
  have pre0 : ∀ t_, Steps p.tables e below (s₁.setTop (mkF m 0 #[.val (.ref a), .val (.int (Int32.ofNat m_)), .unset] [])) t_ → Steps p.tables e below (s₁.setTop (entryFrame m #[(.ref a), (.int (Int32.ofNat m_))] 3)) t_ := fun t_ k_ => castTop (ef_rmEns m a (Int32.ofNat m_)) k_
  have lt_I1 : @LT.lt Nat _ a h0.size := I1.lt
  have lt_I2 : @LT.lt Nat _ a h0.size := I2.lt
  have lt_I3 : @LT.lt Nat _ va h0.size := I3.lt
  obtain ⟨T1, X1, e1, st1⟩ := getF X0 hx hZ hown (host := "") (Or.inl (hw _ (List.mem_of_getElem? (i := 59) rfl))) Via.refl e0 I1 (g := (mkF m 1 #[.val (.ref a), .val (.int (Int32.ofNat m_)), .unset] [(.ref a)])) rfl rfl (Jvm.hb hby d_jdk_68_method_9_1)
  obtain ⟨cl2, Ar2, -, S2, M2, -, -⟩ := id I3
  obtain ⟨T3, X3, e3, st3⟩ := getF X1 hx hZ hown (host := "") (Or.inl (hw _ (List.mem_of_getElem? (i := 61) rfl))) Via.refl e1 I2 (g := (mkF m 6 #[.val (.ref a), .val (.int (Int32.ofNat m_)), .unset] [(.ref a), (.int (16 : Int32))])) rfl rfl (Jvm.hb hby d_jdk_68_method_9_6)
  have s4 : ∀ t_, Steps p.tables e below (T3.setTop (mkF m 38 #[.val (.ref a), .val (.int (Int32.ofNat m_)), .val (.int ((16 : Int32) >>> ((0 : Int32) &&& 31)))] [])) t_ → Steps p.tables e below (s₁.setTop (entryFrame m #[(.ref a), (.int (Int32.ofNat m_))] 3)) t_ := fun t_ k_ => pre0 t_ (by
    show Steps p.tables e below (s₁.setTop (mkF m 0 #[.val (.ref a), .val (.int (Int32.ofNat m_)), .unset] [])) t_
    refine XS.aloadN X0.here hx rfl (Jvm.hb hby d_jdk_68_method_9_0) rfl rfl ?_
    refine st1 _ ?_
    show Steps p.tables e below (T1.setTop (mkF m 4 #[.val (.ref a), .val (.int (Int32.ofNat m_)), .unset] [(.ref va)])) _
    refine X1.arraylength hx (by rw [e1]; exact Ar2.1) (State.isArrayOf_alike hZ.alike Ar2.2.1) (g := (mkF m 4 #[.val (.ref a), .val (.int (Int32.ofNat m_)), .unset] [(.ref va)])) rfl rfl (Jvm.hb hby d_jdk_68_method_9_4) _ ?_
    rw [len_of S2 M2]
    show Steps p.tables e below (T1.setTop (mkF m 5 #[.val (.ref a), .val (.int (Int32.ofNat m_)), .unset] [(.int (16 : Int32))])) _
    refine XS.aloadN X1.here hx rfl (Jvm.hb hby d_jdk_68_method_9_5) rfl rfl ?_
    refine st3 _ ?_
    show Steps p.tables e below (T3.setTop (mkF m 9 #[.val (.ref a), .val (.int (Int32.ofNat m_)), .unset] [(.int (0 : Int32)), (.int (16 : Int32))])) _
    refine XS.ishr X3.here hx rfl (Jvm.hb hby d_jdk_68_method_9_9) rfl ?_
    refine XS.istoreN X3.here hx rfl (Jvm.hb hby d_jdk_68_method_9_10) rfl (l' := #[.val (.ref a), .val (.int (Int32.ofNat m_)), .val (.int ((16 : Int32) >>> ((0 : Int32) &&& 31)))]) rfl ?_
    refine XS.iloadN X3.here hx rfl (Jvm.hb hby d_jdk_68_method_9_11) rfl ?_
    refine XS.iloadN X3.here hx rfl (Jvm.hb hby d_jdk_68_method_9_12) rfl ?_
    refine XS.isub X3.here hx rfl (Jvm.hb hby d_jdk_68_method_9_13) rfl ?_
    refine XS.ifYes X3.here hx rfl (pc0 := 14) (pc' := 38) rfl (Jvm.hb hby d_jdk_68_method_9_14) rfl ((if0 _ _).trans (flt (own_cap16 hm)).2.2.2) (by decide) (by decide) ?_
    show Steps p.tables e below (T3.setTop (mkF m 38 #[.val (.ref a), .val (.int (Int32.ofNat m_)), .val (.int ((16 : Int32) >>> ((0 : Int32) &&& 31)))] [])) _
    show Steps p.tables e below (T3.setTop (mkF m 38 #[.val (.ref a), .val (.int (Int32.ofNat m_)), .val (.int ((16 : Int32) >>> ((0 : Int32) &&& 31)))] [])) t_
    exact k_)
  obtain ⟨fs, hr, hrun, hended, hW, hsame⟩ := X3.leave (v := none) (fun _ => rfl)
  refine ⟨_, _, s4 _ ?_, hrun, hended, _, _, rfl, ?_, ⟨_, rfl⟩, hW, hsame.mono (by decide) (by decide)⟩
  · show Steps p.tables e below (T3.setTop (mkF m 38 #[.val (.ref a), .val (.int (Int32.ofNat m_)), .val (.int ((16 : Int32) >>> ((0 : Int32) &&& 31)))] [])) _
    exact X3.returnOut hx Bd.returns (Jvm.hb hby d_jdk_68_method_9_38) hr
  · show Q_rmEns Z _ _ _ _ _ h0 n0 _ T3.heap _
    rw [e3]
    exact ⟨rfl, N0, rfl⟩
theorem d_jdk_68_method_71_0 : decode jdk_68_method_71_code 0 = .ok (.getstatic 18, 3) := by decide +kernel
theorem d_jdk_68_method_71_3 : decode jdk_68_method_71_code 3 = .ok (.ifCond .eq 18, 3) := by decide +kernel
theorem d_jdk_68_method_71_6 : decode jdk_68_method_71_code 6 = .ok (.aload_n 0, 1) := by decide +kernel
theorem d_jdk_68_method_71_7 : decode jdk_68_method_71_code 7 = .ok (.getfield 22, 3) := by decide +kernel
theorem d_jdk_68_method_71_10 : decode jdk_68_method_71_code 10 = .ok (.aload_n 1, 1) := by decide +kernel
theorem d_jdk_68_method_71_11 : decode jdk_68_method_71_code 11 = .ok (.invokevirtual 40, 3) := by decide +kernel
theorem d_jdk_68_method_71_14 : decode jdk_68_method_71_code 14 = .ok (.if_icmp .eq 7, 3) := by decide +kernel
theorem d_jdk_68_method_71_21 : decode jdk_68_method_71_code 21 = .ok (.return_, 1) := by decide +kernel
theorem ef_rmInf (m : MethodId) (x0 : Addr) (x1 : Addr) : entryFrame m #[(.ref x0), (.ref x1)] 2 = mkF m 0 #[.val (.ref x0), .val (.ref x1)] [] := by first | (simp [entryFrame, mkF, argsToLocals, Value.category]; done) | rfl
def Q_rmInf (Z : State) (a : Addr) (sx : Addr) (cst : Int32) (cs : List Int32) (h0 : Heap) (n0 : Nat) (v : Option Value) (h : Heap) (L : List Loc) : Prop := (v = none) ∧ (Fr n0 L) ∧ (h = h0)
set_option maxRecDepth 65536 in
set_option maxHeartbeats 40000000 in
theorem rmInf (l : Launch) (Z : State) (a0 : Array Value) (hw : ∀ d ∈ tables_1, d.before a0 Z = true) (ws : List Jvm.Cond) (a : Addr) (sx : Addr) (cst : Int32) (cs : List Int32) (h0 : Heap) (n0 : Nat) (Z0 : n0 ≤ h0.size) (I1 : Sta Z Z.heap "java/lang/String" "COMPACT_STRINGS" "Z" (.int cst)) (OX : Old Z n0 h0) (hcst : ¬ (cst = (0 : Int32))) (I2 : Fld Z h0 a "java/lang/AbstractStringBuilder" "coder" "B" (.int (0 : Int32))) (I3 : Exa Z h0 sx "java/lang/String") (I4 : Fld Z h0 sx "java/lang/String" "coder" "B" (.int (own_cod cs))) (hlat : own_lat cs) :
    MetFree l (⟨"java/lang/AbstractStringBuilder", "inflateIfNeededFor", "(Ljava/lang/String;)V"⟩ : MethodName) (head1 (Jvm.Cond.code (⟨"java/lang/AbstractStringBuilder", "inflateIfNeededFor", "(Ljava/lang/String;)V"⟩ : MethodName) jdk_68_method_71_code 2 none :: ws) ({ frames := 1, cells := 0, slots := 0, locals := 13 } : Room)) (fun ar_ U => ar_ = #[(.ref a), (.ref sx)] ∧ Z.Warmed39 U.vm ∧ U.heap = h0) (fun _ _ _ _ _ => True) (fun _ U oc_ U' => ∃ v L, oc_ = .returned v ∧ Q_rmInf Z a sx cst cs h0 n0 v U'.heap L ∧ FrameEnd U oc_ U' L ({ frames := 1, cells := 0, slots := 0, locals := 13 } : Room).cells ({ frames := 1, cells := 0, slots := 0, locals := 13 } : Room).slots) := by
  refine MetFree.of_bodySF (plainFor_of_name pn_java_lang_AbstractStringBuilder) hisR ?_
  intro p e s m args below meth c s₁ Bd hml0 hP hK
  obtain ⟨rfl, hZ, hh⟩ := hP
  have hx := Bd.exec
  have hby := Bd.bytes
  have hml : c.maxLocals = 2 := hml0
  have hown : s.vm.findClass "java/lang/AbstractStringBuilder" = some m.cls := findClass_of_methodNamed Bd.named
  have hnm := (name_of_methodNamed Bd.named Bd.method).1
  have X0 : Stand p l e ({ frames := 1, cells := 0, slots := 0, locals := 13 } : Room) s m #[(.ref a), (.ref sx)] below meth c s₁ [] 0 0 := Stand.of_body Bd
  have e0 : s₁.heap = h0 := by rw [← hh, Bd.state]; rfl
  have N0 := Fr.nil n0
  have pre0 : ∀ t_, Steps p.tables e below (s₁.setTop (mkF m 0 #[.val (.ref a), .val (.ref sx)] [])) t_ → Steps p.tables e below (s₁.setTop (entryFrame m #[(.ref a), (.ref sx)] 2)) t_ := fun t_ k_ => castTop (ef_rmInf m a sx) k_
  have lt_I2 : @LT.lt Nat _ a h0.size := I2.lt
  have lt_I3 : @LT.lt Nat _ sx h0.size := I3.lt
  have lt_I4 : @LT.lt Nat _ sx h0.size := I4.lt
  obtain ⟨T1, X1, e1, st1⟩ := getS2 X0 hx hZ hown (host := "") (Or.inl (hw _ (List.mem_of_getElem? (i := 58) rfl))) Via.refl e0 (I1.ext OX.2) (g := (mkF m 0 #[.val (.ref a), .val (.ref sx)] [])) rfl (Jvm.hb hby d_jdk_68_method_71_0)
  obtain ⟨T2, X2, e2, st2⟩ := getF X1 hx hZ hown (host := "") (Or.inl (hw _ (List.mem_of_getElem? (i := 61) rfl))) Via.refl e1 I2 (g := (mkF m 7 #[.val (.ref a), .val (.ref sx)] [(.ref a)])) rfl rfl (Jvm.hb hby d_jdk_68_method_71_7)
  have Zc3 : n0 ≤ h0.size := by omega
  obtain ⟨cq4, kq4, q4a, q4b, q4c⟩ := isOf hZ e2 I3
  obtain ⟨_, _, ⟨T4, L4, k4, n4⟩, -, X4, ⟨Lc4, hQ4, l4, y4, z4⟩, st4⟩ := X2.virtualBack hx (y := (⟨"java/lang/String", "coder", "()B"⟩ : MethodName)) (z := (⟨"java/lang/String", "coder", "()B"⟩ : MethodName)) hown (mvT hZ (hw _ (List.mem_of_getElem? (i := 149) rfl))) (mvT hZ (hw _ (List.mem_of_getElem? (i := 69) rfl))) (notFace_of_selects (args := #[]) (mvT hZ (hw _ (List.mem_of_getElem? (i := 71) rfl)))) (mvT hZ (hw _ (List.mem_of_getElem? (i := 71) rfl))) (mvT hZ (hw _ (List.mem_of_getElem? (i := 70) rfl))) (by decide) (backOf (W := 1) (rmCdr l Z a0 hw [] sx cst cs h0 n0 Zc3 I1 OX (hcst : ¬ (cst = (0 : Int32))) I4) hZ (hw _ (List.mem_of_getElem? (i := 72) rfl)) (hw _ (List.mem_of_getElem? (i := 14) rfl)) (by decide) (by decide)) q4a q4c (g := (mkF m 11 #[.val (.ref a), .val (.ref sx)] [(.ref sx), (.int (0 : Int32))])) rfl (by rw [hml]; rfl) (Steps.refl _) (argsL := []) (rest := [(.int (0 : Int32))]) (lenOf pd___B rfl) rfl (by show 2 * 0 + _ ≤ _; exact Nat.le_of_eq rfl) (Jvm.hb hby d_jdk_68_method_71_11) (fun _ _ => ⟨rfl, e2, (by decide : 0 + 0 ≤ _), (by decide : 0 + 0 ≤ _)⟩)
  dsimp only [Pt.U, Pt.locs, Pt.cells, Pt.slots] at X4 l4 y4 z4 st4 hQ4
  subst l4 y4 z4
  obtain ⟨rfl, N4q, e4⟩ := hQ4
  have N4 := Fr.app N0 N4q
  have s5 : ∀ t_, Steps p.tables e below (T4.setTop (mkF m 21 #[.val (.ref a), .val (.ref sx)] [])) t_ → Steps p.tables e below (s₁.setTop (entryFrame m #[(.ref a), (.ref sx)] 2)) t_ := fun t_ k_ => pre0 t_ (by
    show Steps p.tables e below (s₁.setTop (mkF m 0 #[.val (.ref a), .val (.ref sx)] [])) t_
    refine st1 _ ?_
    show Steps p.tables e below (T1.setTop (mkF m 3 #[.val (.ref a), .val (.ref sx)] [(.int cst)])) _
    refine XS.ifNo X1.here hx rfl (Jvm.hb hby d_jdk_68_method_71_3) rfl ((if0 _ _).trans (feq hcst).1) ?_
    show Steps p.tables e below (T1.setTop (mkF m 6 #[.val (.ref a), .val (.ref sx)] [])) _
    refine XS.aloadN X1.here hx rfl (Jvm.hb hby d_jdk_68_method_71_6) rfl rfl ?_
    refine st2 _ ?_
    show Steps p.tables e below (T2.setTop (mkF m 10 #[.val (.ref a), .val (.ref sx)] [(.int (0 : Int32))])) _
    refine XS.aloadN X2.here hx rfl (Jvm.hb hby d_jdk_68_method_71_10) rfl rfl ?_
    refine st4.trans ?_
    show Steps p.tables e below (T4.setTop (mkF m 14 #[.val (.ref a), .val (.ref sx)] [(.int (own_cod cs)), (.int (0 : Int32))])) _
    refine XS.icmpYes X4.here hx rfl (pc0 := 14) (pc' := 21) rfl (Jvm.hb hby d_jdk_68_method_71_14) rfl (teq (own_cod0 hlat).symm).1 (by decide) (by decide) ?_
    show Steps p.tables e below (T4.setTop (mkF m 21 #[.val (.ref a), .val (.ref sx)] [])) _
    show Steps p.tables e below (T4.setTop (mkF m 21 #[.val (.ref a), .val (.ref sx)] [])) t_
    exact k_)
  obtain ⟨fs, hr, hrun, hended, hW, hsame⟩ := X4.leave (v := none) (fun _ => rfl)
  refine ⟨_, _, s5 _ ?_, hrun, hended, _, _, rfl, ?_, ⟨_, rfl⟩, hW, hsame.mono (by decide) (by decide)⟩
  · show Steps p.tables e below (T4.setTop (mkF m 21 #[.val (.ref a), .val (.ref sx)] [])) _
    exact X4.returnOut hx Bd.returns (Jvm.hb hby d_jdk_68_method_71_21) hr
  · show Q_rmInf Z _ _ _ _ h0 n0 _ T4.heap _
    rw [e4]
    exact ⟨rfl, N4, rfl⟩
theorem d_jdk_42_method_147_0 : decode jdk_42_method_147_code 0 = .ok (.aload_n 0, 1) := by decide +kernel
theorem d_jdk_42_method_147_1 : decode jdk_42_method_147_code 1 = .ok (.invokevirtual 335, 3) := by decide +kernel
theorem d_jdk_42_method_147_4 : decode jdk_42_method_147_code 4 = .ok (.iload_n 3, 1) := by decide +kernel
theorem d_jdk_42_method_147_5 : decode jdk_42_method_147_code 5 = .ok (.if_icmp .ne 23, 3) := by decide +kernel
theorem d_jdk_42_method_147_8 : decode jdk_42_method_147_code 8 = .ok (.aload_n 0, 1) := by decide +kernel
theorem d_jdk_42_method_147_9 : decode jdk_42_method_147_code 9 = .ok (.getfield 9, 3) := by decide +kernel
theorem d_jdk_42_method_147_12 : decode jdk_42_method_147_code 12 = .ok (.iconst 0, 1) := by decide +kernel
theorem d_jdk_42_method_147_13 : decode jdk_42_method_147_code 13 = .ok (.aload_n 1, 1) := by decide +kernel
theorem d_jdk_42_method_147_14 : decode jdk_42_method_147_code 14 = .ok (.iload_n 2, 1) := by decide +kernel
theorem d_jdk_42_method_147_15 : decode jdk_42_method_147_code 15 = .ok (.iload_n 3, 1) := by decide +kernel
theorem d_jdk_42_method_147_16 : decode jdk_42_method_147_code 16 = .ok (.ishl, 1) := by decide +kernel
theorem d_jdk_42_method_147_17 : decode jdk_42_method_147_code 17 = .ok (.aload_n 0, 1) := by decide +kernel
theorem d_jdk_42_method_147_18 : decode jdk_42_method_147_code 18 = .ok (.getfield 9, 3) := by decide +kernel
theorem d_jdk_42_method_147_21 : decode jdk_42_method_147_code 21 = .ok (.arraylength, 1) := by decide +kernel
theorem d_jdk_42_method_147_22 : decode jdk_42_method_147_code 22 = .ok (.invokestatic 212, 3) := by decide +kernel
theorem d_jdk_42_method_147_25 : decode jdk_42_method_147_code 25 = .ok (.goto 18, 3) := by decide +kernel
theorem d_jdk_42_method_147_43 : decode jdk_42_method_147_code 43 = .ok (.return_, 1) := by decide +kernel
theorem ef_rmGB (m : MethodId) (x0 : Addr) (x1 : Addr) (x2 : Int32) (x3 : Int32) : entryFrame m #[(.ref x0), (.ref x1), (.int x2), (.int x3)] 4 = mkF m 0 #[.val (.ref x0), .val (.ref x1), .val (.int x2), .val (.int x3)] [] := by first | (simp [entryFrame, mkF, argsToLocals, Value.category]; done) | rfl
def Q_rmGB (Z : State) (sx : Addr) (va : Addr) (cst : Int32) (sb : Addr) (ks : ClassId) (cs : List Int32) (kc : ClassId) (xs : List Int32) (k : Nat) (h0 : Heap) (n0 : Nat) (v : Option Value) (h : Heap) (L : List Loc) : Prop := (v = none) ∧ (Fr n0 L) ∧ (Keep h0 h [va]) ∧ (Arv Z h va kc .byte (16 : Int32) ((xs.take k ++ cs.map own_lo ++ xs.drop (k + cs.length)).map Value.int) (.int (0 : Int32)))
set_option maxRecDepth 65536 in
set_option maxHeartbeats 40000000 in
theorem rmGB (l : Launch) (Z : State) (a0 : Array Value) (hw : ∀ d ∈ tables_1, d.before a0 Z = true) (ws : List Jvm.Cond) (sx : Addr) (va : Addr) (cst : Int32) (sb : Addr) (ks : ClassId) (cs : List Int32) (kc : ClassId) (xs : List Int32) (k : Nat) (h0 : Heap) (n0 : Nat) (Z0 : n0 ≤ h0.size) (I1 : Sta Z Z.heap "java/lang/String" "COMPACT_STRINGS" "Z" (.int cst)) (OX : Old Z n0 h0) (hcst : ¬ (cst = (0 : Int32))) (I2 : Exa Z h0 sx "java/lang/String") (I3 : Fld Z h0 sx "java/lang/String" "value" "[B" (.ref sb)) (I4 : Fld Z h0 sx "java/lang/String" "coder" "B" (.int (own_cod cs))) (I5 : Arv Z h0 sb ks .byte (Int32.ofNat (own_enl cs)) (own_enc cs) (.int (0 : Int32))) (I6 : Arv Z h0 va kc .byte (16 : Int32) (xs.map Value.int) (.int (0 : Int32))) (hx16 : xs.length = 16) (gv : n0 ≤ va) (hsv : @Ne Nat sb va) (hlat : own_lat cs) (hkc : k + cs.length ≤ 16) :
    MetFree l (⟨"java/lang/String", "getBytes", "([BIB)V"⟩ : MethodName) (head1 (Jvm.Cond.code (⟨"java/lang/String", "getBytes", "([BIB)V"⟩ : MethodName) jdk_42_method_147_code 4 none :: ws) ({ frames := 1, cells := 0, slots := 0, locals := 40 } : Room)) (fun ar_ U => ar_ = #[(.ref sx), (.ref va), (.int (Int32.ofNat k)), (.int (0 : Int32))] ∧ Z.Warmed39 U.vm ∧ U.heap = h0) (fun _ _ _ _ _ => True) (fun _ U oc_ U' => ∃ v L, oc_ = .returned v ∧ Q_rmGB Z sx va cst sb ks cs kc xs k h0 n0 v U'.heap L ∧ FrameEnd U oc_ U' L ({ frames := 1, cells := 0, slots := 0, locals := 40 } : Room).cells ({ frames := 1, cells := 0, slots := 0, locals := 40 } : Room).slots) := by
  refine MetFree.of_bodySF (plainFor_of_name pn_java_lang_String) hisR ?_
  intro p e s m args below meth c s₁ Bd hml0 hP hK
  obtain ⟨rfl, hZ, hh⟩ := hP
  have hx := Bd.exec
  have hby := Bd.bytes
  have hml : c.maxLocals = 4 := hml0
  have hown : s.vm.findClass "java/lang/String" = some m.cls := findClass_of_methodNamed Bd.named
  have hnm := (name_of_methodNamed Bd.named Bd.method).1
  have X0 : Stand p l e ({ frames := 1, cells := 0, slots := 0, locals := 40 } : Room) s m #[(.ref sx), (.ref va), (.int (Int32.ofNat k)), (.int (0 : Int32))] below meth c s₁ [] 0 0 := Stand.of_body Bd
  have e0 : s₁.heap = h0 := by rw [← hh, Bd.state]; rfl
  have N0 := Fr.nil n0
  have pre0 : ∀ t_, Steps p.tables e below (s₁.setTop (mkF m 0 #[.val (.ref sx), .val (.ref va), .val (.int (Int32.ofNat k)), .val (.int (0 : Int32))] [])) t_ → Steps p.tables e below (s₁.setTop (entryFrame m #[(.ref sx), (.ref va), (.int (Int32.ofNat k)), (.int (0 : Int32))] 4)) t_ := fun t_ k_ => castTop (ef_rmGB m sx va (Int32.ofNat k) (0 : Int32)) k_
  have lt_I2 : @LT.lt Nat _ sx h0.size := I2.lt
  have lt_I3 : @LT.lt Nat _ sx h0.size := I3.lt
  have lt_I4 : @LT.lt Nat _ sx h0.size := I4.lt
  have lt_I5 : @LT.lt Nat _ sb h0.size := I5.lt
  have lt_I6 : @LT.lt Nat _ va h0.size := I6.lt
  have Zc1 : n0 ≤ h0.size := by omega
  obtain ⟨cq2, kq2, q2a, q2b, q2c⟩ := isOf hZ e0 I2
  obtain ⟨_, _, ⟨T2, L2, k2, n2⟩, -, X2, ⟨Lc2, hQ2, l2, y2, z2⟩, st2⟩ := X0.virtualBack hx (y := (⟨"java/lang/String", "coder", "()B"⟩ : MethodName)) (z := (⟨"java/lang/String", "coder", "()B"⟩ : MethodName)) hown (mvT hZ (hw _ (List.mem_of_getElem? (i := 68) rfl))) (mvT hZ (hw _ (List.mem_of_getElem? (i := 69) rfl))) (notFace_of_selects (args := #[]) (mvT hZ (hw _ (List.mem_of_getElem? (i := 71) rfl)))) (mvT hZ (hw _ (List.mem_of_getElem? (i := 71) rfl))) (mvT hZ (hw _ (List.mem_of_getElem? (i := 70) rfl))) (by decide) (backOf (W := 0) (rmCdr l Z a0 hw [] sx cst cs h0 n0 Zc1 I1 OX (hcst : ¬ (cst = (0 : Int32))) I4) hZ (hw _ (List.mem_of_getElem? (i := 72) rfl)) (hw _ (List.mem_of_getElem? (i := 14) rfl)) (by decide) (by decide)) q2a q2c (g := (mkF m 1 #[.val (.ref sx), .val (.ref va), .val (.int (Int32.ofNat k)), .val (.int (0 : Int32))] [(.ref sx)])) rfl (by rw [hml]; rfl) (Steps.refl _) (argsL := []) (rest := []) (lenOf pd___B rfl) rfl (by show 2 * 0 + _ ≤ _; exact Nat.le_of_eq rfl) (Jvm.hb hby d_jdk_42_method_147_1) (fun _ _ => ⟨rfl, e0, (by decide : 0 + 0 ≤ _), (by decide : 0 + 0 ≤ _)⟩)
  dsimp only [Pt.U, Pt.locs, Pt.cells, Pt.slots] at X2 l2 y2 z2 st2 hQ2
  subst l2 y2 z2
  obtain ⟨rfl, N2q, e2⟩ := hQ2
  have N2 := Fr.app N0 N2q
  have V3 : Arv Z h0 sb ks .byte (Int32.ofNat cs.length) ((cs.map own_lo).map Value.int) (.int (0 : Int32)) := own_ofenc hlat I5
  have V3b : Arv Z h0 sb ks .byte (Int32.ofNat (cs.map own_lo).length) ((cs.map own_lo).map Value.int) (.int (0 : Int32)) := by rw [List.length_map]; exact V3
  obtain ⟨T4, X4, e4, st4⟩ := getF X2 hx hZ hown (host := "") (Or.inl (hw _ (List.mem_of_getElem? (i := 39) rfl))) Via.refl e2 I3 (g := (mkF m 9 #[.val (.ref sx), .val (.ref va), .val (.int (Int32.ofNat k)), .val (.int (0 : Int32))] [(.ref sx)])) rfl rfl (Jvm.hb hby d_jdk_42_method_147_9)
  obtain ⟨T5, X5, e5, st5⟩ := getF X4 hx hZ hown (host := "") (Or.inl (hw _ (List.mem_of_getElem? (i := 39) rfl))) Via.refl e4 I3 (g := (mkF m 18 #[.val (.ref sx), .val (.ref va), .val (.int (Int32.ofNat k)), .val (.int (0 : Int32))] [(.ref sx), (.int (Int32.ofNat k)), (.ref va), (.int (0 : Int32)), (.ref sb)])) rfl rfl (Jvm.hb hby d_jdk_42_method_147_18)
  obtain ⟨cl6, Ar6, -, S6, M6, -, -⟩ := id V3b
  obtain ⟨T7, h7, L7, X7, e7, N7, K7, Vr7, st7⟩ := cpA X5 hx hZ hown (hw _ (List.mem_of_getElem? (i := 155) rfl)) (hw _ (List.mem_of_getElem? (i := 117) rfl)) (hw _ (List.mem_of_getElem? (i := 115) rfl)) (hw _ (List.mem_of_getElem? (i := 116) rfl)) e5 V3b I6 (Or.inl ⟨rfl, rfl⟩) (sp := (0 : Int32)) (dp := (Int32.ofNat k)) (nn := (Int32.ofNat cs.length)) (by decide) (own_nn (by omega)) (own_nn (by omega)) (by rw [own_z0, own_tn (by omega), own_tn (by rw [List.length_map]; omega), List.length_map]; omega) (by rw [own_tn (by omega), own_tn (by omega)]; show k + cs.length ≤ 16; omega) rfl (by rw [own_tn (by omega), own_tn (by omega), List.length_map]; omega) N2 (show n0 ≤ va by omega) (g := (mkF m 22 #[.val (.ref sx), .val (.ref va), .val (.int (Int32.ofNat k)), .val (.int (0 : Int32))] [(.int (Int32.ofNat cs.length)), (.int (Int32.ofNat k)), (.ref va), (.int (0 : Int32)), (.ref sb)])) rfl (by rw [hml]; rfl) rfl (Jvm.hb hby d_jdk_42_method_147_22) (by decide) (W := 0) (by show 2 * 0 + _ ≤ _; exact Nat.le_of_eq rfl) (by decide)
  have z8 : h0.size ≤ h7.size := K7.1
  have V7 : Arv Z h7 va kc .byte (16 : Int32) ((xs.take k ++ cs.map own_lo ++ xs.drop (k + cs.length)).map Value.int) (.int (0 : Int32)) := own_arvcast (own_cpG xs cs k (by omega) (by omega)) Vr7
  have s9 : ∀ t_, Steps p.tables e below (T7.setTop (mkF m 43 #[.val (.ref sx), .val (.ref va), .val (.int (Int32.ofNat k)), .val (.int (0 : Int32))] [])) t_ → Steps p.tables e below (s₁.setTop (entryFrame m #[(.ref sx), (.ref va), (.int (Int32.ofNat k)), (.int (0 : Int32))] 4)) t_ := fun t_ k_ => pre0 t_ (by
    show Steps p.tables e below (s₁.setTop (mkF m 0 #[.val (.ref sx), .val (.ref va), .val (.int (Int32.ofNat k)), .val (.int (0 : Int32))] [])) t_
    refine XS.aloadN X0.here hx rfl (Jvm.hb hby d_jdk_42_method_147_0) rfl rfl ?_
    refine st2.trans ?_
    show Steps p.tables e below (T2.setTop (mkF m 4 #[.val (.ref sx), .val (.ref va), .val (.int (Int32.ofNat k)), .val (.int (0 : Int32))] [(.int (own_cod cs))])) _
    refine XS.iloadN X2.here hx rfl (Jvm.hb hby d_jdk_42_method_147_4) rfl ?_
    refine XS.icmpNo X2.here hx rfl (Jvm.hb hby d_jdk_42_method_147_5) rfl (teq (own_cod0 hlat)).2 ?_
    show Steps p.tables e below (T2.setTop (mkF m 8 #[.val (.ref sx), .val (.ref va), .val (.int (Int32.ofNat k)), .val (.int (0 : Int32))] [])) _
    refine XS.aloadN X2.here hx rfl (Jvm.hb hby d_jdk_42_method_147_8) rfl rfl ?_
    refine st4 _ ?_
    show Steps p.tables e below (T4.setTop (mkF m 12 #[.val (.ref sx), .val (.ref va), .val (.int (Int32.ofNat k)), .val (.int (0 : Int32))] [(.ref sb)])) _
    refine XS.iconst X4.here hx rfl (Jvm.hb hby d_jdk_42_method_147_12) ?_
    refine XS.aloadN X4.here hx rfl (Jvm.hb hby d_jdk_42_method_147_13) rfl rfl ?_
    refine XS.iloadN X4.here hx rfl (Jvm.hb hby d_jdk_42_method_147_14) rfl ?_
    refine XS.iloadN X4.here hx rfl (Jvm.hb hby d_jdk_42_method_147_15) rfl ?_
    refine XS.ishl X4.here hx rfl (Jvm.hb hby d_jdk_42_method_147_16) rfl ?_
    show Steps p.tables e below (T4.setTop (mkF m 17 #[.val (.ref sx), .val (.ref va), .val (.int (Int32.ofNat k)), .val (.int (0 : Int32))] [(.int ((Int32.ofNat k) <<< ((0 : Int32) &&& 31))), (.ref va), (.int (0 : Int32)), (.ref sb)])) _
    refine castTop (g' := (mkF m 17 #[.val (.ref sx), .val (.ref va), .val (.int (Int32.ofNat k)), .val (.int (0 : Int32))] [(.int (Int32.ofNat k)), (.ref va), (.int (0 : Int32)), (.ref sb)])) (by rw [own_shl0]) ?_
    show Steps p.tables e below (T4.setTop (mkF m 17 #[.val (.ref sx), .val (.ref va), .val (.int (Int32.ofNat k)), .val (.int (0 : Int32))] [(.int (Int32.ofNat k)), (.ref va), (.int (0 : Int32)), (.ref sb)])) _
    refine XS.aloadN X4.here hx rfl (Jvm.hb hby d_jdk_42_method_147_17) rfl rfl ?_
    refine st5 _ ?_
    show Steps p.tables e below (T5.setTop (mkF m 21 #[.val (.ref sx), .val (.ref va), .val (.int (Int32.ofNat k)), .val (.int (0 : Int32))] [(.ref sb), (.int (Int32.ofNat k)), (.ref va), (.int (0 : Int32)), (.ref sb)])) _
    refine X5.arraylength hx (by rw [e5]; exact Ar6.1) (State.isArrayOf_alike hZ.alike Ar6.2.1) (g := (mkF m 21 #[.val (.ref sx), .val (.ref va), .val (.int (Int32.ofNat k)), .val (.int (0 : Int32))] [(.ref sb), (.int (Int32.ofNat k)), (.ref va), (.int (0 : Int32)), (.ref sb)])) rfl rfl (Jvm.hb hby d_jdk_42_method_147_21) _ ?_
    rw [len_of S6 M6]
    show Steps p.tables e below (T5.setTop (mkF m 22 #[.val (.ref sx), .val (.ref va), .val (.int (Int32.ofNat k)), .val (.int (0 : Int32))] [(.int (Int32.ofNat (cs.map own_lo).length)), (.int (Int32.ofNat k)), (.ref va), (.int (0 : Int32)), (.ref sb)])) _
    refine castTop (g' := (mkF m 22 #[.val (.ref sx), .val (.ref va), .val (.int (Int32.ofNat k)), .val (.int (0 : Int32))] [(.int (Int32.ofNat cs.length)), (.int (Int32.ofNat k)), (.ref va), (.int (0 : Int32)), (.ref sb)])) (by rw [List.length_map]) ?_
    show Steps p.tables e below (T5.setTop (mkF m 22 #[.val (.ref sx), .val (.ref va), .val (.int (Int32.ofNat k)), .val (.int (0 : Int32))] [(.int (Int32.ofNat cs.length)), (.int (Int32.ofNat k)), (.ref va), (.int (0 : Int32)), (.ref sb)])) _
    refine st7 _ ?_
    show Steps p.tables e below (T7.setTop (mkF m 25 #[.val (.ref sx), .val (.ref va), .val (.int (Int32.ofNat k)), .val (.int (0 : Int32))] [])) _
    refine XS.goto X7.here hx rfl (pc0 := 25) (pc' := 43) rfl (Jvm.hb hby d_jdk_42_method_147_25) (by decide) (by decide) ?_
    show Steps p.tables e below (T7.setTop (mkF m 43 #[.val (.ref sx), .val (.ref va), .val (.int (Int32.ofNat k)), .val (.int (0 : Int32))] [])) t_
    exact k_)
  obtain ⟨fs, hr, hrun, hended, hW, hsame⟩ := X7.leave (v := none) (fun _ => rfl)
  refine ⟨_, _, s9 _ ?_, hrun, hended, _, _, rfl, ?_, ⟨_, rfl⟩, hW, hsame.mono (by decide) (by decide)⟩
  · show Steps p.tables e below (T7.setTop (mkF m 43 #[.val (.ref sx), .val (.ref va), .val (.int (Int32.ofNat k)), .val (.int (0 : Int32))] [])) _
    exact X7.returnOut hx Bd.returns (Jvm.hb hby d_jdk_42_method_147_43) hr
  · show Q_rmGB Z _ _ _ _ _ _ _ _ _ h0 n0 _ T7.heap _
    rw [e7]
    exact ⟨rfl, N7, ((Keep.refl h0 [va]).trans K7 (allS (Or.inl (by simp)) all0)), V7⟩
theorem d_jdk_68_method_73_0 : decode jdk_68_method_73_code 0 = .ok (.aload_n 0, 1) := by decide +kernel
theorem d_jdk_68_method_73_1 : decode jdk_68_method_73_code 1 = .ok (.aload_n 2, 1) := by decide +kernel
theorem pd__Ljava_lang_String__V : parseMethodDescriptor "(Ljava/lang/String;)V" = some ⟨[(.object "java/lang/String")], none⟩ := by decide +kernel
theorem d_jdk_68_method_73_2 : decode jdk_68_method_73_code 2 = .ok (.invokevirtual 397, 3) := by decide +kernel
theorem d_jdk_68_method_73_5 : decode jdk_68_method_73_code 5 = .ok (.aload_n 2, 1) := by decide +kernel
theorem d_jdk_68_method_73_6 : decode jdk_68_method_73_code 6 = .ok (.aload_n 0, 1) := by decide +kernel
theorem d_jdk_68_method_73_7 : decode jdk_68_method_73_code 7 = .ok (.getfield 15, 3) := by decide +kernel
theorem d_jdk_68_method_73_10 : decode jdk_68_method_73_code 10 = .ok (.iload_n 1, 1) := by decide +kernel
theorem d_jdk_68_method_73_11 : decode jdk_68_method_73_code 11 = .ok (.aload_n 0, 1) := by decide +kernel
theorem d_jdk_68_method_73_12 : decode jdk_68_method_73_code 12 = .ok (.getfield 22, 3) := by decide +kernel
theorem pd___BIB_V : parseMethodDescriptor "([BIB)V" = some ⟨[(.array .byte), .int, .byte], none⟩ := by decide +kernel
theorem d_jdk_68_method_73_15 : decode jdk_68_method_73_code 15 = .ok (.invokevirtual 399, 3) := by decide +kernel
theorem d_jdk_68_method_73_18 : decode jdk_68_method_73_code 18 = .ok (.return_, 1) := by decide +kernel
theorem ef_rmPut (m : MethodId) (x0 : Addr) (x1 : Int32) (x2 : Addr) : entryFrame m #[(.ref x0), (.int x1), (.ref x2)] 3 = mkF m 0 #[.val (.ref x0), .val (.int x1), .val (.ref x2)] [] := by first | (simp [entryFrame, mkF, argsToLocals, Value.category]; done) | rfl
def Q_rmPut (Z : State) (a : Addr) (sx : Addr) (cst : Int32) (sb : Addr) (ks : ClassId) (cs : List Int32) (va : Addr) (kc : ClassId) (xs : List Int32) (k : Nat) (h0 : Heap) (n0 : Nat) (v : Option Value) (h : Heap) (L : List Loc) : Prop := (v = none) ∧ (Fr n0 L) ∧ (Keep h0 h [va]) ∧ (Arv Z h va kc .byte (16 : Int32) ((xs.take k ++ cs.map own_lo ++ xs.drop (k + cs.length)).map Value.int) (.int (0 : Int32)))
set_option maxRecDepth 65536 in
set_option maxHeartbeats 40000000 in
theorem rmPut (l : Launch) (Z : State) (a0 : Array Value) (hw : ∀ d ∈ tables_1, d.before a0 Z = true) (ws : List Jvm.Cond) (a : Addr) (sx : Addr) (cst : Int32) (sb : Addr) (ks : ClassId) (cs : List Int32) (va : Addr) (kc : ClassId) (xs : List Int32) (k : Nat) (h0 : Heap) (n0 : Nat) (Z0 : n0 ≤ h0.size) (I1 : Sta Z Z.heap "java/lang/String" "COMPACT_STRINGS" "Z" (.int cst)) (OX : Old Z n0 h0) (hcst : ¬ (cst = (0 : Int32))) (I2 : Exa Z h0 a "java/lang/StringBuilder") (I3 : Fld Z h0 a "java/lang/AbstractStringBuilder" "value" "[B" (.ref va)) (I4 : Fld Z h0 a "java/lang/AbstractStringBuilder" "coder" "B" (.int (0 : Int32))) (I5 : Fld Z h0 a "java/lang/AbstractStringBuilder" "count" "I" (.int (Int32.ofNat k))) (I6 : Arv Z h0 va kc .byte (16 : Int32) (xs.map Value.int) (.int (0 : Int32))) (I7 : Exa Z h0 sx "java/lang/String") (I8 : Fld Z h0 sx "java/lang/String" "value" "[B" (.ref sb)) (I9 : Fld Z h0 sx "java/lang/String" "coder" "B" (.int (own_cod cs))) (I10 : Arv Z h0 sb ks .byte (Int32.ofNat (own_enl cs)) (own_enc cs) (.int (0 : Int32))) (hx16 : xs.length = 16) (ga : n0 ≤ a) (gv : n0 ≤ va) (hsv : @Ne Nat sb va) (hav : @Ne Nat a va) (hsa : @Ne Nat sx a) (hba : @Ne Nat sb a) (hlat : own_lat cs) (hkc : k + cs.length ≤ 16) :
    MetFree l (⟨"java/lang/AbstractStringBuilder", "putStringAt", "(ILjava/lang/String;)V"⟩ : MethodName) (head1 (Jvm.Cond.code (⟨"java/lang/AbstractStringBuilder", "putStringAt", "(ILjava/lang/String;)V"⟩ : MethodName) jdk_68_method_73_code 3 none :: ws) ({ frames := 2, cells := 0, slots := 0, locals := 55 } : Room)) (fun ar_ U => ar_ = #[(.ref a), (.int (Int32.ofNat k)), (.ref sx)] ∧ Z.Warmed39 U.vm ∧ U.heap = h0) (fun _ _ _ _ _ => True) (fun _ U oc_ U' => ∃ v L, oc_ = .returned v ∧ Q_rmPut Z a sx cst sb ks cs va kc xs k h0 n0 v U'.heap L ∧ FrameEnd U oc_ U' L ({ frames := 2, cells := 0, slots := 0, locals := 55 } : Room).cells ({ frames := 2, cells := 0, slots := 0, locals := 55 } : Room).slots) := by
  refine MetFree.of_bodySF (plainFor_of_name pn_java_lang_AbstractStringBuilder) hisR ?_
  intro p e s m args below meth c s₁ Bd hml0 hP hK
  obtain ⟨rfl, hZ, hh⟩ := hP
  have hx := Bd.exec
  have hby := Bd.bytes
  have hml : c.maxLocals = 3 := hml0
  have hown : s.vm.findClass "java/lang/AbstractStringBuilder" = some m.cls := findClass_of_methodNamed Bd.named
  have hnm := (name_of_methodNamed Bd.named Bd.method).1
  have X0 : Stand p l e ({ frames := 2, cells := 0, slots := 0, locals := 55 } : Room) s m #[(.ref a), (.int (Int32.ofNat k)), (.ref sx)] below meth c s₁ [] 0 0 := Stand.of_body Bd
  have e0 : s₁.heap = h0 := by rw [← hh, Bd.state]; rfl
  have N0 := Fr.nil n0
  have pre0 : ∀ t_, Steps p.tables e below (s₁.setTop (mkF m 0 #[.val (.ref a), .val (.int (Int32.ofNat k)), .val (.ref sx)] [])) t_ → Steps p.tables e below (s₁.setTop (entryFrame m #[(.ref a), (.int (Int32.ofNat k)), (.ref sx)] 3)) t_ := fun t_ k_ => castTop (ef_rmPut m a (Int32.ofNat k) sx) k_
  have lt_I2 : @LT.lt Nat _ a h0.size := I2.lt
  have lt_I3 : @LT.lt Nat _ a h0.size := I3.lt
  have lt_I4 : @LT.lt Nat _ a h0.size := I4.lt
  have lt_I5 : @LT.lt Nat _ a h0.size := I5.lt
  have lt_I6 : @LT.lt Nat _ va h0.size := I6.lt
  have lt_I7 : @LT.lt Nat _ sx h0.size := I7.lt
  have lt_I8 : @LT.lt Nat _ sx h0.size := I8.lt
  have lt_I9 : @LT.lt Nat _ sx h0.size := I9.lt
  have lt_I10 : @LT.lt Nat _ sb h0.size := I10.lt
  have Zc1 : n0 ≤ h0.size := by omega
  obtain ⟨cq2, kq2, q2a, q2b, q2c⟩ := isOf hZ e0 I2
  obtain ⟨_, _, ⟨T2, L2, k2, n2⟩, -, X2, ⟨Lc2, hQ2, l2, y2, z2⟩, st2⟩ := X0.virtualBack hx (y := (⟨"java/lang/AbstractStringBuilder", "inflateIfNeededFor", "(Ljava/lang/String;)V"⟩ : MethodName)) (z := (⟨"java/lang/AbstractStringBuilder", "inflateIfNeededFor", "(Ljava/lang/String;)V"⟩ : MethodName)) hown (mvT hZ (hw _ (List.mem_of_getElem? (i := 144) rfl))) (mvT hZ (own_declares (hw _ (List.mem_of_getElem? (i := 145) rfl)) (hw _ (List.mem_of_getElem? (i := 148) rfl)))) (notFace_of_selects (args := #[]) (mvT hZ (hw _ (List.mem_of_getElem? (i := 147) rfl)))) (mvT hZ (hw _ (List.mem_of_getElem? (i := 147) rfl))) (mvT hZ (hw _ (List.mem_of_getElem? (i := 145) rfl))) (by decide) (backOf (W := 0) (rmInf l Z a0 hw [] a sx cst cs h0 n0 Zc1 I1 OX (hcst : ¬ (cst = (0 : Int32))) I4 I7 I9 (hlat : own_lat cs)) hZ (hw _ (List.mem_of_getElem? (i := 148) rfl)) (hw _ (List.mem_of_getElem? (i := 55) rfl)) (by decide) (by decide)) q2a q2c (g := (mkF m 2 #[.val (.ref a), .val (.int (Int32.ofNat k)), .val (.ref sx)] [(.ref sx), (.ref a)])) rfl (by rw [hml]; rfl) (Steps.refl _) (argsL := [(.ref sx)]) (rest := []) (lenOf pd__Ljava_lang_String__V rfl) rfl (by show 2 * 0 + _ ≤ _; exact Nat.le_of_eq rfl) (Jvm.hb hby d_jdk_68_method_73_2) (fun _ _ => ⟨rfl, e0, (by decide : 0 + 0 ≤ _), (by decide : 0 + 0 ≤ _)⟩)
  dsimp only [Pt.U, Pt.locs, Pt.cells, Pt.slots] at X2 l2 y2 z2 st2 hQ2
  subst l2 y2 z2
  obtain ⟨rfl, N2q, e2⟩ := hQ2
  have N2 := Fr.app N0 N2q
  obtain ⟨T3, X3, e3, st3⟩ := getF X2 hx hZ hown (host := "") (Or.inl (hw _ (List.mem_of_getElem? (i := 59) rfl))) Via.refl e2 I3 (g := (mkF m 7 #[.val (.ref a), .val (.int (Int32.ofNat k)), .val (.ref sx)] [(.ref a), (.ref sx)])) rfl rfl (Jvm.hb hby d_jdk_68_method_73_7)
  obtain ⟨T4, X4, e4, st4⟩ := getF X3 hx hZ hown (host := "") (Or.inl (hw _ (List.mem_of_getElem? (i := 61) rfl))) Via.refl e3 I4 (g := (mkF m 12 #[.val (.ref a), .val (.int (Int32.ofNat k)), .val (.ref sx)] [(.ref a), (.int (Int32.ofNat k)), (.ref va), (.ref sx)])) rfl rfl (Jvm.hb hby d_jdk_68_method_73_12)
  have Zc5 : n0 ≤ h0.size := by omega
  obtain ⟨cq6, kq6, q6a, q6b, q6c⟩ := isOf hZ e4 I7
  obtain ⟨_, _, ⟨T6, L6, k6, n6⟩, -, X6, ⟨Lc6, hQ6, l6, y6, z6⟩, st6⟩ := X4.virtualBack hx (y := (⟨"java/lang/String", "getBytes", "([BIB)V"⟩ : MethodName)) (z := (⟨"java/lang/String", "getBytes", "([BIB)V"⟩ : MethodName)) hown (mvT hZ (hw _ (List.mem_of_getElem? (i := 150) rfl))) (mvT hZ (hw _ (List.mem_of_getElem? (i := 151) rfl))) (notFace_of_selects (args := #[]) (mvT hZ (hw _ (List.mem_of_getElem? (i := 153) rfl)))) (mvT hZ (hw _ (List.mem_of_getElem? (i := 153) rfl))) (mvT hZ (hw _ (List.mem_of_getElem? (i := 152) rfl))) (by decide) (backOf (W := 0) (rmGB l Z a0 hw [] sx va cst sb ks cs kc xs k h0 n0 Zc5 I1 OX (hcst : ¬ (cst = (0 : Int32))) I7 I8 I9 I10 I6 (hx16 : xs.length = 16) (gv : n0 ≤ va) (hsv : @Ne Nat sb va) (hlat : own_lat cs) (hkc : k + cs.length ≤ 16)) hZ (hw _ (List.mem_of_getElem? (i := 154) rfl)) (hw _ (List.mem_of_getElem? (i := 14) rfl)) (by decide) (by decide)) q6a q6c (g := (mkF m 15 #[.val (.ref a), .val (.int (Int32.ofNat k)), .val (.ref sx)] [(.int (0 : Int32)), (.int (Int32.ofNat k)), (.ref va), (.ref sx)])) rfl (by rw [hml]; rfl) (Steps.refl _) (argsL := [(.ref va), (.int (Int32.ofNat k)), (.int (0 : Int32))]) (rest := []) (lenOf pd___BIB_V rfl) rfl (by show 2 * 0 + _ ≤ _; exact Nat.le_of_eq rfl) (Jvm.hb hby d_jdk_68_method_73_15) (fun _ _ => ⟨rfl, e4, (by decide : 0 + 0 ≤ _), (by decide : 0 + 0 ≤ _)⟩)
  dsimp only [Pt.U, Pt.locs, Pt.cells, Pt.slots] at X6 l6 y6 z6 st6 hQ6
  subst l6 y6 z6
  obtain ⟨rfl, N6q, K6, Fq6_0⟩ := hQ6
  have N6 := Fr.app N2 N6q
  obtain ⟨h6, e6⟩ : ∃ z, T6.heap = z := ⟨_, rfl⟩
  rw [e6] at K6 Fq6_0
  have z7 : h0.size ≤ h6.size := K6.1
  have lt6_0 : @LT.lt Nat _ va h6.size := Fq6_0.lt
  have s8 : ∀ t_, Steps p.tables e below (T6.setTop (mkF m 18 #[.val (.ref a), .val (.int (Int32.ofNat k)), .val (.ref sx)] [])) t_ → Steps p.tables e below (s₁.setTop (entryFrame m #[(.ref a), (.int (Int32.ofNat k)), (.ref sx)] 3)) t_ := fun t_ k_ => pre0 t_ (by
    show Steps p.tables e below (s₁.setTop (mkF m 0 #[.val (.ref a), .val (.int (Int32.ofNat k)), .val (.ref sx)] [])) t_
    refine XS.aloadN X0.here hx rfl (Jvm.hb hby d_jdk_68_method_73_0) rfl rfl ?_
    refine XS.aloadN X0.here hx rfl (Jvm.hb hby d_jdk_68_method_73_1) rfl rfl ?_
    refine st2.trans ?_
    show Steps p.tables e below (T2.setTop (mkF m 5 #[.val (.ref a), .val (.int (Int32.ofNat k)), .val (.ref sx)] [])) _
    refine XS.aloadN X2.here hx rfl (Jvm.hb hby d_jdk_68_method_73_5) rfl rfl ?_
    refine XS.aloadN X2.here hx rfl (Jvm.hb hby d_jdk_68_method_73_6) rfl rfl ?_
    refine st3 _ ?_
    show Steps p.tables e below (T3.setTop (mkF m 10 #[.val (.ref a), .val (.int (Int32.ofNat k)), .val (.ref sx)] [(.ref va), (.ref sx)])) _
    refine XS.iloadN X3.here hx rfl (Jvm.hb hby d_jdk_68_method_73_10) rfl ?_
    refine XS.aloadN X3.here hx rfl (Jvm.hb hby d_jdk_68_method_73_11) rfl rfl ?_
    refine st4 _ ?_
    show Steps p.tables e below (T4.setTop (mkF m 15 #[.val (.ref a), .val (.int (Int32.ofNat k)), .val (.ref sx)] [(.int (0 : Int32)), (.int (Int32.ofNat k)), (.ref va), (.ref sx)])) _
    refine st6.trans ?_
    show Steps p.tables e below (T6.setTop (mkF m 18 #[.val (.ref a), .val (.int (Int32.ofNat k)), .val (.ref sx)] [])) _
    show Steps p.tables e below (T6.setTop (mkF m 18 #[.val (.ref a), .val (.int (Int32.ofNat k)), .val (.ref sx)] [])) t_
    exact k_)
  obtain ⟨fs, hr, hrun, hended, hW, hsame⟩ := X6.leave (v := none) (fun _ => rfl)
  refine ⟨_, _, s8 _ ?_, hrun, hended, _, _, rfl, ?_, ⟨_, rfl⟩, hW, hsame.mono (by decide) (by decide)⟩
  · show Steps p.tables e below (T6.setTop (mkF m 18 #[.val (.ref a), .val (.int (Int32.ofNat k)), .val (.ref sx)] [])) _
    exact X6.returnOut hx Bd.returns (Jvm.hb hby d_jdk_68_method_73_18) hr
  · show Q_rmPut Z _ _ _ _ _ _ _ _ _ _ h0 n0 _ T6.heap _
    rw [e6]
    exact ⟨rfl, N6, ((Keep.refl h0 [va]).trans K6 (allS (Or.inl (by simp)) all0)), Fq6_0⟩
theorem d_jdk_68_method_22_0 : decode jdk_68_method_22_code 0 = .ok (.aload_n 1, 1) := by decide +kernel
theorem d_jdk_68_method_22_1 : decode jdk_68_method_22_code 1 = .ok (.ifnonnull 8, 3) := by decide +kernel
theorem d_jdk_68_method_22_9 : decode jdk_68_method_22_code 9 = .ok (.aload_n 1, 1) := by decide +kernel
theorem d_jdk_68_method_22_10 : decode jdk_68_method_22_code 10 = .ok (.invokevirtual 32, 3) := by decide +kernel
theorem d_jdk_68_method_22_13 : decode jdk_68_method_22_code 13 = .ok (.istore_n 2, 1) := by decide +kernel
theorem d_jdk_68_method_22_14 : decode jdk_68_method_22_code 14 = .ok (.aload_n 0, 1) := by decide +kernel
theorem d_jdk_68_method_22_15 : decode jdk_68_method_22_code 15 = .ok (.aload_n 0, 1) := by decide +kernel
theorem d_jdk_68_method_22_16 : decode jdk_68_method_22_code 16 = .ok (.getfield 79, 3) := by decide +kernel
theorem d_jdk_68_method_22_19 : decode jdk_68_method_22_code 19 = .ok (.iload_n 2, 1) := by decide +kernel
theorem d_jdk_68_method_22_20 : decode jdk_68_method_22_code 20 = .ok (.iadd, 1) := by decide +kernel
theorem d_jdk_68_method_22_21 : decode jdk_68_method_22_code 21 = .ok (.invokevirtual 100, 3) := by decide +kernel
theorem d_jdk_68_method_22_24 : decode jdk_68_method_22_code 24 = .ok (.aload_n 0, 1) := by decide +kernel
theorem d_jdk_68_method_22_25 : decode jdk_68_method_22_code 25 = .ok (.aload_n 0, 1) := by decide +kernel
theorem d_jdk_68_method_22_26 : decode jdk_68_method_22_code 26 = .ok (.getfield 79, 3) := by decide +kernel
theorem d_jdk_68_method_22_29 : decode jdk_68_method_22_code 29 = .ok (.aload_n 1, 1) := by decide +kernel
theorem pd__ILjava_lang_String__V : parseMethodDescriptor "(ILjava/lang/String;)V" = some ⟨[.int, (.object "java/lang/String")], none⟩ := by decide +kernel
theorem d_jdk_68_method_22_30 : decode jdk_68_method_22_code 30 = .ok (.invokevirtual 208, 3) := by decide +kernel
theorem d_jdk_68_method_22_33 : decode jdk_68_method_22_code 33 = .ok (.aload_n 0, 1) := by decide +kernel
theorem d_jdk_68_method_22_34 : decode jdk_68_method_22_code 34 = .ok (.dup, 1) := by decide +kernel
theorem d_jdk_68_method_22_35 : decode jdk_68_method_22_code 35 = .ok (.getfield 79, 3) := by decide +kernel
theorem d_jdk_68_method_22_38 : decode jdk_68_method_22_code 38 = .ok (.iload_n 2, 1) := by decide +kernel
theorem d_jdk_68_method_22_39 : decode jdk_68_method_22_code 39 = .ok (.iadd, 1) := by decide +kernel
theorem d_jdk_68_method_22_40 : decode jdk_68_method_22_code 40 = .ok (.putfield 79, 3) := by decide +kernel
theorem d_jdk_68_method_22_43 : decode jdk_68_method_22_code 43 = .ok (.aload_n 0, 1) := by decide +kernel
theorem d_jdk_68_method_22_44 : decode jdk_68_method_22_code 44 = .ok (.areturn, 1) := by decide +kernel
theorem ef_rmAApp (m : MethodId) (x0 : Addr) (x1 : Addr) : entryFrame m #[(.ref x0), (.ref x1)] 3 = mkF m 0 #[.val (.ref x0), .val (.ref x1), .unset] [] := by first | (simp [entryFrame, mkF, argsToLocals, Value.category]; done) | rfl
def Q_rmAApp (Z : State) (a : Addr) (sx : Addr) (cst : Int32) (sb : Addr) (ks : ClassId) (cs : List Int32) (va : Addr) (kc : ClassId) (xs : List Int32) (k : Nat) (h0 : Heap) (n0 : Nat) (v : Option Value) (h : Heap) (L : List Loc) : Prop := (v = some (.ref a)) ∧ (Fr n0 L) ∧ (Keep h0 h [a, va]) ∧ (Exa Z h a "java/lang/StringBuilder") ∧ (Fld Z h a "java/lang/AbstractStringBuilder" "value" "[B" (.ref va)) ∧ (Fld Z h a "java/lang/AbstractStringBuilder" "coder" "B" (.int (0 : Int32))) ∧ (Fld Z h a "java/lang/AbstractStringBuilder" "count" "I" (.int (Int32.ofNat (k + cs.length)))) ∧ (Arv Z h va kc .byte (16 : Int32) ((xs.take k ++ cs.map own_lo ++ xs.drop (k + cs.length)).map Value.int) (.int (0 : Int32)))
set_option maxRecDepth 65536 in
set_option maxHeartbeats 40000000 in
theorem rmAApp (l : Launch) (Z : State) (a0 : Array Value) (hw : ∀ d ∈ tables_1, d.before a0 Z = true) (ws : List Jvm.Cond) (a : Addr) (sx : Addr) (cst : Int32) (sb : Addr) (ks : ClassId) (cs : List Int32) (va : Addr) (kc : ClassId) (xs : List Int32) (k : Nat) (h0 : Heap) (n0 : Nat) (Z0 : n0 ≤ h0.size) (I1 : Sta Z Z.heap "java/lang/String" "COMPACT_STRINGS" "Z" (.int cst)) (OX : Old Z n0 h0) (hcst : ¬ (cst = (0 : Int32))) (I2 : Exa Z h0 a "java/lang/StringBuilder") (I3 : Fld Z h0 a "java/lang/AbstractStringBuilder" "value" "[B" (.ref va)) (I4 : Fld Z h0 a "java/lang/AbstractStringBuilder" "coder" "B" (.int (0 : Int32))) (I5 : Fld Z h0 a "java/lang/AbstractStringBuilder" "count" "I" (.int (Int32.ofNat k))) (I6 : Arv Z h0 va kc .byte (16 : Int32) (xs.map Value.int) (.int (0 : Int32))) (I7 : Exa Z h0 sx "java/lang/String") (I8 : Fld Z h0 sx "java/lang/String" "value" "[B" (.ref sb)) (I9 : Fld Z h0 sx "java/lang/String" "coder" "B" (.int (own_cod cs))) (I10 : Arv Z h0 sb ks .byte (Int32.ofNat (own_enl cs)) (own_enc cs) (.int (0 : Int32))) (hx16 : xs.length = 16) (ga : n0 ≤ a) (gv : n0 ≤ va) (hsv : @Ne Nat sb va) (hav : @Ne Nat a va) (hsa : @Ne Nat sx a) (hba : @Ne Nat sb a) (hlat : own_lat cs) (hkc : k + cs.length ≤ 16) :
    MetFree l (⟨"java/lang/AbstractStringBuilder", "append", "(Ljava/lang/String;)Ljava/lang/AbstractStringBuilder;"⟩ : MethodName) (head1 (Jvm.Cond.code (⟨"java/lang/AbstractStringBuilder", "append", "(Ljava/lang/String;)Ljava/lang/AbstractStringBuilder;"⟩ : MethodName) jdk_68_method_22_code 3 (some (.object "java/lang/AbstractStringBuilder")) :: ws) ({ frames := 3, cells := 0, slots := 0, locals := 69 } : Room)) (fun ar_ U => ar_ = #[(.ref a), (.ref sx)] ∧ Z.Warmed39 U.vm ∧ U.heap = h0) (fun _ _ _ _ _ => True) (fun _ U oc_ U' => ∃ v L, oc_ = .returned v ∧ Q_rmAApp Z a sx cst sb ks cs va kc xs k h0 n0 v U'.heap L ∧ FrameEnd U oc_ U' L ({ frames := 3, cells := 0, slots := 0, locals := 69 } : Room).cells ({ frames := 3, cells := 0, slots := 0, locals := 69 } : Room).slots) := by
  refine MetFree.of_bodySF (plainFor_of_name pn_java_lang_AbstractStringBuilder) hisR ?_
  intro p e s m args below meth c s₁ Bd hml0 hP hK
  obtain ⟨rfl, hZ, hh⟩ := hP
  have hx := Bd.exec
  have hby := Bd.bytes
  have hml : c.maxLocals = 3 := hml0
  have hown : s.vm.findClass "java/lang/AbstractStringBuilder" = some m.cls := findClass_of_methodNamed Bd.named
  have hnm := (name_of_methodNamed Bd.named Bd.method).1
  have X0 : Stand p l e ({ frames := 3, cells := 0, slots := 0, locals := 69 } : Room) s m #[(.ref a), (.ref sx)] below meth c s₁ [] 0 0 := Stand.of_body Bd
  have e0 : s₁.heap = h0 := by rw [← hh, Bd.state]; rfl
  have N0 := Fr.nil n0
  have pre0 : ∀ t_, Steps p.tables e below (s₁.setTop (mkF m 0 #[.val (.ref a), .val (.ref sx), .unset] [])) t_ → Steps p.tables e below (s₁.setTop (entryFrame m #[(.ref a), (.ref sx)] 3)) t_ := fun t_ k_ => castTop (ef_rmAApp m a sx) k_
  have lt_I2 : @LT.lt Nat _ a h0.size := I2.lt
  have lt_I3 : @LT.lt Nat _ a h0.size := I3.lt
  have lt_I4 : @LT.lt Nat _ a h0.size := I4.lt
  have lt_I5 : @LT.lt Nat _ a h0.size := I5.lt
  have lt_I6 : @LT.lt Nat _ va h0.size := I6.lt
  have lt_I7 : @LT.lt Nat _ sx h0.size := I7.lt
  have lt_I8 : @LT.lt Nat _ sx h0.size := I8.lt
  have lt_I9 : @LT.lt Nat _ sx h0.size := I9.lt
  have lt_I10 : @LT.lt Nat _ sb h0.size := I10.lt
  have Zc1 : n0 ≤ h0.size := by omega
  obtain ⟨cq2, kq2, q2a, q2b, q2c⟩ := isOf hZ e0 I7
  obtain ⟨_, _, ⟨T2, L2, k2, n2⟩, -, X2, ⟨Lc2, hQ2, l2, y2, z2⟩, st2⟩ := X0.virtualBack hx (y := (⟨"java/lang/String", "length", "()I"⟩ : MethodName)) (z := (⟨"java/lang/String", "length", "()I"⟩ : MethodName)) hown (mvT hZ (hw _ (List.mem_of_getElem? (i := 131) rfl))) (mvT hZ (hw _ (List.mem_of_getElem? (i := 64) rfl))) (notFace_of_selects (args := #[]) (mvT hZ (hw _ (List.mem_of_getElem? (i := 66) rfl)))) (mvT hZ (hw _ (List.mem_of_getElem? (i := 66) rfl))) (mvT hZ (hw _ (List.mem_of_getElem? (i := 65) rfl))) (by decide) (backOf (W := 0) (rmLen l Z a0 hw [] sx cst sb ks cs h0 n0 Zc1 I1 OX (hcst : ¬ (cst = (0 : Int32))) I7 I8 I9 I10 (by omega)) hZ (hw _ (List.mem_of_getElem? (i := 67) rfl)) (hw _ (List.mem_of_getElem? (i := 14) rfl)) (by decide) (by decide)) q2a q2c (g := (mkF m 10 #[.val (.ref a), .val (.ref sx), .unset] [(.ref sx)])) rfl (by rw [hml]; rfl) (Steps.refl _) (argsL := []) (rest := []) (lenOf pd___I rfl) rfl (by show 2 * 0 + _ ≤ _; exact Nat.le_of_eq rfl) (Jvm.hb hby d_jdk_68_method_22_10) (fun _ _ => ⟨rfl, e0, (by decide : 0 + 0 ≤ _), (by decide : 0 + 0 ≤ _)⟩)
  dsimp only [Pt.U, Pt.locs, Pt.cells, Pt.slots] at X2 l2 y2 z2 st2 hQ2
  subst l2 y2 z2
  obtain ⟨rfl, N2q, e2⟩ := hQ2
  have N2 := Fr.app N0 N2q
  obtain ⟨T3, X3, e3, st3⟩ := getF X2 hx hZ hown (host := "") (Or.inl (hw _ (List.mem_of_getElem? (i := 132) rfl))) Via.refl e2 I5 (g := (mkF m 16 #[.val (.ref a), .val (.ref sx), .val (.int (Int32.ofNat cs.length))] [(.ref a), (.ref a)])) rfl rfl (Jvm.hb hby d_jdk_68_method_22_16)
  have Zc4 : n0 ≤ h0.size := by omega
  obtain ⟨cq5, kq5, q5a, q5b, q5c⟩ := isOf hZ e3 I2
  obtain ⟨_, _, ⟨T5, L5, k5, n5⟩, -, X5, ⟨Lc5, hQ5, l5, y5, z5⟩, st5⟩ := X3.virtualBack hx (y := (⟨"java/lang/AbstractStringBuilder", "ensureCapacityInternal", "(I)V"⟩ : MethodName)) (z := (⟨"java/lang/AbstractStringBuilder", "ensureCapacityInternal", "(I)V"⟩ : MethodName)) hown (mvT hZ (hw _ (List.mem_of_getElem? (i := 134) rfl))) (mvT hZ (own_declares (hw _ (List.mem_of_getElem? (i := 135) rfl)) (hw _ (List.mem_of_getElem? (i := 138) rfl)))) (notFace_of_selects (args := #[]) (mvT hZ (hw _ (List.mem_of_getElem? (i := 137) rfl)))) (mvT hZ (hw _ (List.mem_of_getElem? (i := 137) rfl))) (mvT hZ (hw _ (List.mem_of_getElem? (i := 135) rfl))) (by decide) (backOf (W := 0) (rmEns l Z a0 hw [] a va kc xs (k + cs.length) h0 n0 Zc4 I3 I4 I6 (by first | assumption | omega | rfl | decide : (k + cs.length) ≤ 16)) hZ (hw _ (List.mem_of_getElem? (i := 138) rfl)) (hw _ (List.mem_of_getElem? (i := 55) rfl)) (by decide) (by decide)) q5a q5c (g := (mkF m 21 #[.val (.ref a), .val (.ref sx), .val (.int (Int32.ofNat cs.length))] [(.int (Int32.ofNat (k + cs.length))), (.ref a)])) rfl (by rw [hml]; rfl) (Steps.refl _) (argsL := [(.int (Int32.ofNat (k + cs.length)))]) (rest := []) (lenOf pd__I_V rfl) rfl (by show 2 * 0 + _ ≤ _; exact Nat.le_of_eq rfl) (Jvm.hb hby d_jdk_68_method_22_21) (fun _ _ => ⟨rfl, e3, (by decide : 0 + 0 ≤ _), (by decide : 0 + 0 ≤ _)⟩)
  dsimp only [Pt.U, Pt.locs, Pt.cells, Pt.slots] at X5 l5 y5 z5 st5 hQ5
  subst l5 y5 z5
  obtain ⟨rfl, N5q, e5⟩ := hQ5
  have N5 := Fr.app N2 N5q
  obtain ⟨T6, X6, e6, st6⟩ := getF X5 hx hZ hown (host := "") (Or.inl (hw _ (List.mem_of_getElem? (i := 132) rfl))) Via.refl e5 I5 (g := (mkF m 26 #[.val (.ref a), .val (.ref sx), .val (.int (Int32.ofNat cs.length))] [(.ref a), (.ref a)])) rfl rfl (Jvm.hb hby d_jdk_68_method_22_26)
  have Zc7 : n0 ≤ h0.size := by omega
  obtain ⟨cq8, kq8, q8a, q8b, q8c⟩ := isOf hZ e6 I2
  obtain ⟨_, _, ⟨T8, L8, k8, n8⟩, -, X8, ⟨Lc8, hQ8, l8, y8, z8⟩, st8⟩ := X6.virtualBack hx (y := (⟨"java/lang/AbstractStringBuilder", "putStringAt", "(ILjava/lang/String;)V"⟩ : MethodName)) (z := (⟨"java/lang/AbstractStringBuilder", "putStringAt", "(ILjava/lang/String;)V"⟩ : MethodName)) hown (mvT hZ (hw _ (List.mem_of_getElem? (i := 139) rfl))) (mvT hZ (own_declares (hw _ (List.mem_of_getElem? (i := 140) rfl)) (hw _ (List.mem_of_getElem? (i := 143) rfl)))) (notFace_of_selects (args := #[]) (mvT hZ (hw _ (List.mem_of_getElem? (i := 142) rfl)))) (mvT hZ (hw _ (List.mem_of_getElem? (i := 142) rfl))) (mvT hZ (hw _ (List.mem_of_getElem? (i := 140) rfl))) (by decide) (backOf (W := 0) (rmPut l Z a0 hw [] a sx cst sb ks cs va kc xs k h0 n0 Zc7 I1 OX (hcst : ¬ (cst = (0 : Int32))) I2 I3 I4 I5 I6 I7 I8 I9 I10 (hx16 : xs.length = 16) (ga : n0 ≤ a) (gv : n0 ≤ va) (hsv : @Ne Nat sb va) (hav : @Ne Nat a va) (hsa : @Ne Nat sx a) (hba : @Ne Nat sb a) (hlat : own_lat cs) (hkc : k + cs.length ≤ 16)) hZ (hw _ (List.mem_of_getElem? (i := 143) rfl)) (hw _ (List.mem_of_getElem? (i := 55) rfl)) (by decide) (by decide)) q8a q8c (g := (mkF m 30 #[.val (.ref a), .val (.ref sx), .val (.int (Int32.ofNat cs.length))] [(.ref sx), (.int (Int32.ofNat k)), (.ref a)])) rfl (by rw [hml]; rfl) (Steps.refl _) (argsL := [(.int (Int32.ofNat k)), (.ref sx)]) (rest := []) (lenOf pd__ILjava_lang_String__V rfl) rfl (by show 2 * 0 + _ ≤ _; exact Nat.le_of_eq rfl) (Jvm.hb hby d_jdk_68_method_22_30) (fun _ _ => ⟨rfl, e6, (by decide : 0 + 0 ≤ _), (by decide : 0 + 0 ≤ _)⟩)
  dsimp only [Pt.U, Pt.locs, Pt.cells, Pt.slots] at X8 l8 y8 z8 st8 hQ8
  subst l8 y8 z8
  obtain ⟨rfl, N8q, K8, Fq8_0⟩ := hQ8
  have N8 := Fr.app N5 N8q
  obtain ⟨h8, e8⟩ : ∃ z, T8.heap = z := ⟨_, rfl⟩
  rw [e8] at K8 Fq8_0
  have z9 : h0.size ≤ h8.size := K8.1
  have lt8_0 : @LT.lt Nat _ va h8.size := Fq8_0.lt
  have f10 : Fld Z h8 a "java/lang/AbstractStringBuilder" "count" "I" (.int (Int32.ofNat k)) := (I5.keep K8 (ninS (show @Ne Nat a va by omega) nin0))
  obtain ⟨T11, X11, e11, st11⟩ := getF X8 hx hZ hown (host := "") (Or.inl (hw _ (List.mem_of_getElem? (i := 132) rfl))) Via.refl e8 f10 (g := (mkF m 35 #[.val (.ref a), .val (.ref sx), .val (.int (Int32.ofNat cs.length))] [(.ref a), (.ref a)])) rfl rfl (Jvm.hb hby d_jdk_68_method_22_35)
  have f12 : Exa Z h8 a "java/lang/StringBuilder" := (I2.keep K8)
  obtain ⟨T13, h13, X13, e13, W13, st13⟩ := putF X11 hx hZ hown (host := "") (Or.inl (hw _ (List.mem_of_getElem? (i := 132) rfl))) Via.refl e11 f10 f12 (Or.inl (hw _ (List.mem_of_getElem? (i := 133) rfl))) (hw _ (List.mem_of_getElem? (i := 46) rfl)) (ty := .int) (by decide) rfl rfl (g := (mkF m 40 #[.val (.ref a), .val (.ref sx), .val (.int (Int32.ofNat cs.length))] [(.int (Int32.ofNat (k + cs.length))), (.ref a)])) rfl rfl (Jvm.hb hby d_jdk_68_method_22_40)
  have z14 : h8.size ≤ h13.size := Nat.le_of_eq W13.size.symm
  have F13 : Fld Z h13 a "java/lang/AbstractStringBuilder" "count" "I" (.int (Int32.ofNat (k + cs.length))) := f10.same W13
  have N13 := Fr.snoc X13 N8 (show n0 ≤ a by omega)
  have s15 : ∀ t_, Steps p.tables e below (T13.setTop (mkF m 44 #[.val (.ref a), .val (.ref sx), .val (.int (Int32.ofNat cs.length))] [(.ref a)])) t_ → Steps p.tables e below (s₁.setTop (entryFrame m #[(.ref a), (.ref sx)] 3)) t_ := fun t_ k_ => pre0 t_ (by
    show Steps p.tables e below (s₁.setTop (mkF m 0 #[.val (.ref a), .val (.ref sx), .unset] [])) t_
    refine XS.aloadN X0.here hx rfl (Jvm.hb hby d_jdk_68_method_22_0) rfl rfl ?_
    refine XS.ifnonnullYes X0.here hx rfl (pc0 := 1) (pc' := 9) rfl (Jvm.hb hby d_jdk_68_method_22_1) rfl (by decide) (by decide) ?_
    show Steps p.tables e below (s₁.setTop (mkF m 9 #[.val (.ref a), .val (.ref sx), .unset] [])) _
    refine XS.aloadN X0.here hx rfl (Jvm.hb hby d_jdk_68_method_22_9) rfl rfl ?_
    refine st2.trans ?_
    show Steps p.tables e below (T2.setTop (mkF m 13 #[.val (.ref a), .val (.ref sx), .unset] [(.int (Int32.ofNat cs.length))])) _
    refine XS.istoreN X2.here hx rfl (Jvm.hb hby d_jdk_68_method_22_13) rfl (l' := #[.val (.ref a), .val (.ref sx), .val (.int (Int32.ofNat cs.length))]) rfl ?_
    refine XS.aloadN X2.here hx rfl (Jvm.hb hby d_jdk_68_method_22_14) rfl rfl ?_
    refine XS.aloadN X2.here hx rfl (Jvm.hb hby d_jdk_68_method_22_15) rfl rfl ?_
    refine st3 _ ?_
    show Steps p.tables e below (T3.setTop (mkF m 19 #[.val (.ref a), .val (.ref sx), .val (.int (Int32.ofNat cs.length))] [(.int (Int32.ofNat k)), (.ref a)])) _
    refine XS.iloadN X3.here hx rfl (Jvm.hb hby d_jdk_68_method_22_19) rfl ?_
    refine XS.iadd X3.here hx rfl (Jvm.hb hby d_jdk_68_method_22_20) rfl ?_
    show Steps p.tables e below (T3.setTop (mkF m 21 #[.val (.ref a), .val (.ref sx), .val (.int (Int32.ofNat cs.length))] [(.int ((Int32.ofNat k) + (Int32.ofNat cs.length))), (.ref a)])) _
    refine castTop (g' := (mkF m 21 #[.val (.ref a), .val (.ref sx), .val (.int (Int32.ofNat cs.length))] [(.int (Int32.ofNat (k + cs.length))), (.ref a)])) (by rw [own_addn]) ?_
    show Steps p.tables e below (T3.setTop (mkF m 21 #[.val (.ref a), .val (.ref sx), .val (.int (Int32.ofNat cs.length))] [(.int (Int32.ofNat (k + cs.length))), (.ref a)])) _
    refine st5.trans ?_
    show Steps p.tables e below (T5.setTop (mkF m 24 #[.val (.ref a), .val (.ref sx), .val (.int (Int32.ofNat cs.length))] [])) _
    refine XS.aloadN X5.here hx rfl (Jvm.hb hby d_jdk_68_method_22_24) rfl rfl ?_
    refine XS.aloadN X5.here hx rfl (Jvm.hb hby d_jdk_68_method_22_25) rfl rfl ?_
    refine st6 _ ?_
    show Steps p.tables e below (T6.setTop (mkF m 29 #[.val (.ref a), .val (.ref sx), .val (.int (Int32.ofNat cs.length))] [(.int (Int32.ofNat k)), (.ref a)])) _
    refine XS.aloadN X6.here hx rfl (Jvm.hb hby d_jdk_68_method_22_29) rfl rfl ?_
    refine st8.trans ?_
    show Steps p.tables e below (T8.setTop (mkF m 33 #[.val (.ref a), .val (.ref sx), .val (.int (Int32.ofNat cs.length))] [])) _
    refine XS.aloadN X8.here hx rfl (Jvm.hb hby d_jdk_68_method_22_33) rfl rfl ?_
    refine XS.dup X8.here hx rfl (Jvm.hb hby d_jdk_68_method_22_34) rfl rfl ?_
    refine st11 _ ?_
    show Steps p.tables e below (T11.setTop (mkF m 38 #[.val (.ref a), .val (.ref sx), .val (.int (Int32.ofNat cs.length))] [(.int (Int32.ofNat k)), (.ref a)])) _
    refine XS.iloadN X11.here hx rfl (Jvm.hb hby d_jdk_68_method_22_38) rfl ?_
    refine XS.iadd X11.here hx rfl (Jvm.hb hby d_jdk_68_method_22_39) rfl ?_
    show Steps p.tables e below (T11.setTop (mkF m 40 #[.val (.ref a), .val (.ref sx), .val (.int (Int32.ofNat cs.length))] [(.int ((Int32.ofNat k) + (Int32.ofNat cs.length))), (.ref a)])) _
    refine castTop (g' := (mkF m 40 #[.val (.ref a), .val (.ref sx), .val (.int (Int32.ofNat cs.length))] [(.int (Int32.ofNat (k + cs.length))), (.ref a)])) (by rw [own_addn]) ?_
    show Steps p.tables e below (T11.setTop (mkF m 40 #[.val (.ref a), .val (.ref sx), .val (.int (Int32.ofNat cs.length))] [(.int (Int32.ofNat (k + cs.length))), (.ref a)])) _
    refine st13 _ ?_
    show Steps p.tables e below (T13.setTop (mkF m 43 #[.val (.ref a), .val (.ref sx), .val (.int (Int32.ofNat cs.length))] [])) _
    refine XS.aloadN X13.here hx rfl (Jvm.hb hby d_jdk_68_method_22_43) rfl rfl ?_
    show Steps p.tables e below (T13.setTop (mkF m 44 #[.val (.ref a), .val (.ref sx), .val (.int (Int32.ofNat cs.length))] [(.ref a)])) t_
    exact k_)
  obtain ⟨fs, hr, hrun, hended, hW, hsame⟩ := X13.leave (v := some (.ref a)) (fun h => by rw [Bd.returns] at h; cases h)
  have f16 : Exa Z h13 a "java/lang/StringBuilder" := (f12.wr W13)
  have f17 : Fld Z h13 a "java/lang/AbstractStringBuilder" "value" "[B" (.ref va) := ((I3.keep K8 (ninS (show @Ne Nat a va by omega) nin0)).other W13 (Or.inr (slot_ne (Or.inl (hw _ (List.mem_of_getElem? (i := 60) rfl))) (Or.inl (hw _ (List.mem_of_getElem? (i := 133) rfl))) (by decide) (t := (.array .byte)) (t' := .int) (by decide) (by decide))))
  have f18 : Fld Z h13 a "java/lang/AbstractStringBuilder" "coder" "B" (.int (0 : Int32)) := ((I4.keep K8 (ninS (show @Ne Nat a va by omega) nin0)).other W13 (Or.inr (slot_ne (Or.inl (hw _ (List.mem_of_getElem? (i := 62) rfl))) (Or.inl (hw _ (List.mem_of_getElem? (i := 133) rfl))) (by decide) (t := .byte) (t' := .int) (by decide) (by decide))))
  have f19 : Arv Z h13 va kc .byte (16 : Int32) ((xs.take k ++ cs.map own_lo ++ xs.drop (k + cs.length)).map Value.int) (.int (0 : Int32)) := (Fq8_0.other W13 (show @Ne Nat va a by omega))
  refine ⟨_, _, s15 _ ?_, hrun, hended, _, _, rfl, ?_, ⟨_, rfl⟩, hW, hsame.mono (by decide) (by decide)⟩
  · show Steps p.tables e below (T13.setTop (mkF m 44 #[.val (.ref a), .val (.ref sx), .val (.int (Int32.ofNat cs.length))] [(.ref a)])) _
    jvm_step X13.here [X13.here.top, hx, (Jvm.hb hby d_jdk_68_method_22_44), X13.method', Bd.returns, Value.isRef, FieldType.isReference]
    first | (intro acts; rw [hr _ acts rfl rfl rfl]) | rw [hr _ _ rfl rfl rfl]
    exact Steps.refl _
  · show Q_rmAApp Z _ _ _ _ _ _ _ _ _ _ h0 n0 _ T13.heap _
    rw [e13]
    exact ⟨rfl, N13, (((Keep.refl h0 [a, va]).trans K8 (allS (Or.inl (by simp)) all0)).wr W13 (Or.inl (by simp))), f16, f17, f18, F13, f19⟩
theorem d_jdk_67_method_7_0 : decode jdk_67_method_7_code 0 = .ok (.aload_n 0, 1) := by decide +kernel
theorem d_jdk_67_method_7_1 : decode jdk_67_method_7_code 1 = .ok (.aload_n 1, 1) := by decide +kernel
theorem pd__Ljava_lang_String__Ljava_lang_AbstractStringBuilder_ : parseMethodDescriptor "(Ljava/lang/String;)Ljava/lang/AbstractStringBuilder;" = some ⟨[(.object "java/lang/String")], some (.object "java/lang/AbstractStringBuilder")⟩ := by decide +kernel
theorem d_jdk_67_method_7_2 : decode jdk_67_method_7_code 2 = .ok (.invokespecial 29, 3) := by decide +kernel
theorem d_jdk_67_method_7_5 : decode jdk_67_method_7_code 5 = .ok (.pop, 1) := by decide +kernel
theorem d_jdk_67_method_7_6 : decode jdk_67_method_7_code 6 = .ok (.aload_n 0, 1) := by decide +kernel
theorem d_jdk_67_method_7_7 : decode jdk_67_method_7_code 7 = .ok (.areturn, 1) := by decide +kernel
theorem ef_rmSApp (m : MethodId) (x0 : Addr) (x1 : Addr) : entryFrame m #[(.ref x0), (.ref x1)] 2 = mkF m 0 #[.val (.ref x0), .val (.ref x1)] [] := by first | (simp [entryFrame, mkF, argsToLocals, Value.category]; done) | rfl
def Q_rmSApp (Z : State) (a : Addr) (sx : Addr) (cst : Int32) (sb : Addr) (ks : ClassId) (cs : List Int32) (va : Addr) (kc : ClassId) (xs : List Int32) (k : Nat) (h0 : Heap) (n0 : Nat) (v : Option Value) (h : Heap) (L : List Loc) : Prop := (v = some (.ref a)) ∧ (Fr n0 L) ∧ (Keep h0 h [a, va]) ∧ (Exa Z h a "java/lang/StringBuilder") ∧ (Fld Z h a "java/lang/AbstractStringBuilder" "value" "[B" (.ref va)) ∧ (Fld Z h a "java/lang/AbstractStringBuilder" "coder" "B" (.int (0 : Int32))) ∧ (Fld Z h a "java/lang/AbstractStringBuilder" "count" "I" (.int (Int32.ofNat (k + cs.length)))) ∧ (Arv Z h va kc .byte (16 : Int32) ((xs.take k ++ cs.map own_lo ++ xs.drop (k + cs.length)).map Value.int) (.int (0 : Int32)))
set_option maxRecDepth 65536 in
set_option maxHeartbeats 40000000 in
theorem rmSApp (l : Launch) (Z : State) (a0 : Array Value) (hw : ∀ d ∈ tables_1, d.before a0 Z = true) (ws : List Jvm.Cond) (a : Addr) (sx : Addr) (cst : Int32) (sb : Addr) (ks : ClassId) (cs : List Int32) (va : Addr) (kc : ClassId) (xs : List Int32) (k : Nat) (h0 : Heap) (n0 : Nat) (Z0 : n0 ≤ h0.size) (I1 : Sta Z Z.heap "java/lang/String" "COMPACT_STRINGS" "Z" (.int cst)) (OX : Old Z n0 h0) (hcst : ¬ (cst = (0 : Int32))) (I2 : Exa Z h0 a "java/lang/StringBuilder") (I3 : Fld Z h0 a "java/lang/AbstractStringBuilder" "value" "[B" (.ref va)) (I4 : Fld Z h0 a "java/lang/AbstractStringBuilder" "coder" "B" (.int (0 : Int32))) (I5 : Fld Z h0 a "java/lang/AbstractStringBuilder" "count" "I" (.int (Int32.ofNat k))) (I6 : Arv Z h0 va kc .byte (16 : Int32) (xs.map Value.int) (.int (0 : Int32))) (I7 : Exa Z h0 sx "java/lang/String") (I8 : Fld Z h0 sx "java/lang/String" "value" "[B" (.ref sb)) (I9 : Fld Z h0 sx "java/lang/String" "coder" "B" (.int (own_cod cs))) (I10 : Arv Z h0 sb ks .byte (Int32.ofNat (own_enl cs)) (own_enc cs) (.int (0 : Int32))) (hx16 : xs.length = 16) (ga : n0 ≤ a) (gv : n0 ≤ va) (hsv : @Ne Nat sb va) (hav : @Ne Nat a va) (hsa : @Ne Nat sx a) (hba : @Ne Nat sb a) (hlat : own_lat cs) (hkc : k + cs.length ≤ 16) :
    MetFree l (⟨"java/lang/StringBuilder", "append", "(Ljava/lang/String;)Ljava/lang/StringBuilder;"⟩ : MethodName) (head1 (Jvm.Cond.code (⟨"java/lang/StringBuilder", "append", "(Ljava/lang/String;)Ljava/lang/StringBuilder;"⟩ : MethodName) jdk_67_method_7_code 2 (some (.object "java/lang/StringBuilder")) :: ws) ({ frames := 4, cells := 0, slots := 0, locals := 83 } : Room)) (fun ar_ U => ar_ = #[(.ref a), (.ref sx)] ∧ Z.Warmed39 U.vm ∧ U.heap = h0) (fun _ _ _ _ _ => True) (fun _ U oc_ U' => ∃ v L, oc_ = .returned v ∧ Q_rmSApp Z a sx cst sb ks cs va kc xs k h0 n0 v U'.heap L ∧ FrameEnd U oc_ U' L ({ frames := 4, cells := 0, slots := 0, locals := 83 } : Room).cells ({ frames := 4, cells := 0, slots := 0, locals := 83 } : Room).slots) := by
  refine MetFree.of_bodySF (plainFor_of_name pn_java_lang_StringBuilder) hisR ?_
  intro p e s m args below meth c s₁ Bd hml0 hP hK
  obtain ⟨rfl, hZ, hh⟩ := hP
  have hx := Bd.exec
  have hby := Bd.bytes
  have hml : c.maxLocals = 2 := hml0
  have hown : s.vm.findClass "java/lang/StringBuilder" = some m.cls := findClass_of_methodNamed Bd.named
  have hnm := (name_of_methodNamed Bd.named Bd.method).1
  have X0 : Stand p l e ({ frames := 4, cells := 0, slots := 0, locals := 83 } : Room) s m #[(.ref a), (.ref sx)] below meth c s₁ [] 0 0 := Stand.of_body Bd
  have e0 : s₁.heap = h0 := by rw [← hh, Bd.state]; rfl
  have N0 := Fr.nil n0
  have pre0 : ∀ t_, Steps p.tables e below (s₁.setTop (mkF m 0 #[.val (.ref a), .val (.ref sx)] [])) t_ → Steps p.tables e below (s₁.setTop (entryFrame m #[(.ref a), (.ref sx)] 2)) t_ := fun t_ k_ => castTop (ef_rmSApp m a sx) k_
  have lt_I2 : @LT.lt Nat _ a h0.size := I2.lt
  have lt_I3 : @LT.lt Nat _ a h0.size := I3.lt
  have lt_I4 : @LT.lt Nat _ a h0.size := I4.lt
  have lt_I5 : @LT.lt Nat _ a h0.size := I5.lt
  have lt_I6 : @LT.lt Nat _ va h0.size := I6.lt
  have lt_I7 : @LT.lt Nat _ sx h0.size := I7.lt
  have lt_I8 : @LT.lt Nat _ sx h0.size := I8.lt
  have lt_I9 : @LT.lt Nat _ sx h0.size := I9.lt
  have lt_I10 : @LT.lt Nat _ sb h0.size := I10.lt
  have Zc1 : n0 ≤ h0.size := by omega
  obtain ⟨_, _, ⟨T2, L2, k2, n2⟩, -, X2, ⟨Lc2, hQ2, l2, y2, z2⟩, st2⟩ := superBack X0 hx hZ (y := (⟨"java/lang/AbstractStringBuilder", "append", "(Ljava/lang/String;)Ljava/lang/AbstractStringBuilder;"⟩ : MethodName)) hown (hw _ (List.mem_of_getElem? (i := 126) rfl)) (own_same (hw _ (List.mem_of_getElem? (i := 127) rfl)) (own_nf (y := (⟨"java/lang/AbstractStringBuilder", "append", "(Ljava/lang/String;)Ljava/lang/AbstractStringBuilder;"⟩ : MethodName)) (z := (⟨"java/lang/AbstractStringBuilder", "ensureCapacityInternal", "(I)V"⟩ : MethodName)) rfl (hw _ (List.mem_of_getElem? (i := 137) rfl))) (by decide)) (hw _ (List.mem_of_getElem? (i := 127) rfl)) (hw _ (List.mem_of_getElem? (i := 128) rfl)) (by decide) (backOf (W := 0) (rmAApp l Z a0 hw [] a sx cst sb ks cs va kc xs k h0 n0 Zc1 I1 OX (hcst : ¬ (cst = (0 : Int32))) I2 I3 I4 I5 I6 I7 I8 I9 I10 (hx16 : xs.length = 16) (ga : n0 ≤ a) (gv : n0 ≤ va) (hsv : @Ne Nat sb va) (hav : @Ne Nat a va) (hsa : @Ne Nat sx a) (hba : @Ne Nat sb a) (hlat : own_lat cs) (hkc : k + cs.length ≤ 16)) hZ (hw _ (List.mem_of_getElem? (i := 130) rfl)) (hw _ (List.mem_of_getElem? (i := 55) rfl)) (by decide) (by decide)) e0 (Ins.self I2) (g := (mkF m 2 #[.val (.ref a), .val (.ref sx)] [(.ref sx), (.ref a)])) rfl (by rw [hml]; rfl) (hw _ (List.mem_of_getElem? (i := 130) rfl)) (argsL := [(.ref sx)]) (rest := []) (lenOf pd__Ljava_lang_String__Ljava_lang_AbstractStringBuilder_ rfl) rfl (by show 2 * 0 + _ ≤ _; exact Nat.le_of_eq rfl) (Jvm.hb hby d_jdk_67_method_7_2) (fun _ _ => ⟨rfl, e0, (by decide : 0 + 0 ≤ _), (by decide : 0 + 0 ≤ _)⟩)
  dsimp only [Pt.U, Pt.locs, Pt.cells, Pt.slots] at X2 l2 y2 z2 st2 hQ2
  subst l2 y2 z2
  obtain ⟨rfl, N2q, K2, Fq2_0, Fq2_1, Fq2_2, Fq2_3, Fq2_4⟩ := hQ2
  have N2 := Fr.app N0 N2q
  obtain ⟨h2, e2⟩ : ∃ z, T2.heap = z := ⟨_, rfl⟩
  rw [e2] at K2 Fq2_0 Fq2_1 Fq2_2 Fq2_3 Fq2_4
  have z3 : h0.size ≤ h2.size := K2.1
  have lt2_0 : @LT.lt Nat _ a h2.size := Fq2_0.lt
  have lt2_4 : @LT.lt Nat _ va h2.size := Fq2_4.lt
  have s4 : ∀ t_, Steps p.tables e below (T2.setTop (mkF m 7 #[.val (.ref a), .val (.ref sx)] [(.ref a)])) t_ → Steps p.tables e below (s₁.setTop (entryFrame m #[(.ref a), (.ref sx)] 2)) t_ := fun t_ k_ => pre0 t_ (by
    show Steps p.tables e below (s₁.setTop (mkF m 0 #[.val (.ref a), .val (.ref sx)] [])) t_
    refine XS.aloadN X0.here hx rfl (Jvm.hb hby d_jdk_67_method_7_0) rfl rfl ?_
    refine XS.aloadN X0.here hx rfl (Jvm.hb hby d_jdk_67_method_7_1) rfl rfl ?_
    refine st2.trans ?_
    show Steps p.tables e below (T2.setTop (mkF m 5 #[.val (.ref a), .val (.ref sx)] [(.ref a)])) _
    refine XS.pop X2.here hx rfl (Jvm.hb hby d_jdk_67_method_7_5) rfl rfl ?_
    refine XS.aloadN X2.here hx rfl (Jvm.hb hby d_jdk_67_method_7_6) rfl rfl ?_
    show Steps p.tables e below (T2.setTop (mkF m 7 #[.val (.ref a), .val (.ref sx)] [(.ref a)])) t_
    exact k_)
  obtain ⟨fs, hr, hrun, hended, hW, hsame⟩ := X2.leave (v := some (.ref a)) (fun h => by rw [Bd.returns] at h; cases h)
  refine ⟨_, _, s4 _ ?_, hrun, hended, _, _, rfl, ?_, ⟨_, rfl⟩, hW, hsame.mono (by decide) (by decide)⟩
  · show Steps p.tables e below (T2.setTop (mkF m 7 #[.val (.ref a), .val (.ref sx)] [(.ref a)])) _
    jvm_step X2.here [X2.here.top, hx, (Jvm.hb hby d_jdk_67_method_7_7), X2.method', Bd.returns, Value.isRef, FieldType.isReference]
    first | (intro acts; rw [hr _ acts rfl rfl rfl]) | rw [hr _ _ rfl rfl rfl]
    exact Steps.refl _
  · show Q_rmSApp Z _ _ _ _ _ _ _ _ _ _ h0 n0 _ T2.heap _
    rw [e2]
    exact ⟨rfl, N2, ((Keep.refl h0 [a, va]).trans K2 (allS (Or.inl (by simp)) (allS (Or.inl (by simp)) all0))), Fq2_0, Fq2_1, Fq2_2, Fq2_3, Fq2_4⟩
theorem d_jdk_42_method_150_0 : decode jdk_42_method_150_code 0 = .ok (.aload_n 0, 1) := by decide +kernel
theorem d_jdk_42_method_150_1 : decode jdk_42_method_150_code 1 = .ok (.invokespecial 1, 3) := by decide +kernel
theorem d_jdk_42_method_150_4 : decode jdk_42_method_150_code 4 = .ok (.aload_n 1, 1) := by decide +kernel
theorem pd____B : parseMethodDescriptor "()[B" = some ⟨[], some (.array .byte)⟩ := by decide +kernel
theorem d_jdk_42_method_150_5 : decode jdk_42_method_150_code 5 = .ok (.invokevirtual 552, 3) := by decide +kernel
theorem d_jdk_42_method_150_8 : decode jdk_42_method_150_code 8 = .ok (.astore_n 3, 1) := by decide +kernel
theorem d_jdk_42_method_150_9 : decode jdk_42_method_150_code 9 = .ok (.aload_n 1, 1) := by decide +kernel
theorem d_jdk_42_method_150_10 : decode jdk_42_method_150_code 10 = .ok (.invokevirtual 549, 3) := by decide +kernel
theorem d_jdk_42_method_150_13 : decode jdk_42_method_150_code 13 = .ok (.istore 4, 2) := by decide +kernel
theorem d_jdk_42_method_150_15 : decode jdk_42_method_150_code 15 = .ok (.aload_n 1, 1) := by decide +kernel
theorem d_jdk_42_method_150_16 : decode jdk_42_method_150_code 16 = .ok (.invokevirtual 1047, 3) := by decide +kernel
theorem d_jdk_42_method_150_19 : decode jdk_42_method_150_code 19 = .ok (.ifCond .eq 22, 3) := by decide +kernel
theorem d_jdk_42_method_150_22 : decode jdk_42_method_150_code 22 = .ok (.aload_n 0, 1) := by decide +kernel
theorem d_jdk_42_method_150_23 : decode jdk_42_method_150_code 23 = .ok (.iconst 0, 1) := by decide +kernel
theorem d_jdk_42_method_150_24 : decode jdk_42_method_150_code 24 = .ok (.putfield 15, 3) := by decide +kernel
theorem d_jdk_42_method_150_27 : decode jdk_42_method_150_code 27 = .ok (.aload_n 0, 1) := by decide +kernel
theorem d_jdk_42_method_150_28 : decode jdk_42_method_150_code 28 = .ok (.aload_n 3, 1) := by decide +kernel
theorem d_jdk_42_method_150_29 : decode jdk_42_method_150_code 29 = .ok (.iconst 0, 1) := by decide +kernel
theorem d_jdk_42_method_150_30 : decode jdk_42_method_150_code 30 = .ok (.iload 4, 2) := by decide +kernel
theorem d_jdk_42_method_150_32 : decode jdk_42_method_150_code 32 = .ok (.invokestatic 54, 3) := by decide +kernel
theorem d_jdk_42_method_150_35 : decode jdk_42_method_150_code 35 = .ok (.putfield 9, 3) := by decide +kernel
theorem d_jdk_42_method_150_38 : decode jdk_42_method_150_code 38 = .ok (.goto 59, 3) := by decide +kernel
theorem d_jdk_42_method_150_97 : decode jdk_42_method_150_code 97 = .ok (.return_, 1) := by decide +kernel
theorem ef_rmSAV (m : MethodId) (x0 : Addr) (x1 : Addr) : entryFrame m #[(.ref x0), (.ref x1), .null] 5 = mkF m 0 #[.val (.ref x0), .val (.ref x1), .val .null, .unset, .unset] [] := by first | (simp [entryFrame, mkF, argsToLocals, Value.category]; done) | rfl
def Q_rmSAV (Z : State) (a : Addr) (sb_ : Addr) (cst : Int32) (va : Addr) (kc : ClassId) (xs : List Int32) (k : Nat) (ts : List Int32) (h0 : Heap) (n0 : Nat) (v : Option Value) (h : Heap) (L : List Loc) : Prop := ∃ (b : Addr), ∃ (kb : ClassId), (v = none) ∧ (Fr n0 L) ∧ (Keep h0 h [a]) ∧ (Exa Z h a "java/lang/String") ∧ (Fld Z h a "java/lang/String" "value" "[B" (.ref b)) ∧ (Fld Z h a "java/lang/String" "coder" "B" (.int (own_cod ts))) ∧ (Arv Z h b kb .byte (Int32.ofNat (own_enl ts)) (own_enc ts) (.int (0 : Int32))) ∧ (h0.size ≤ b)
set_option maxRecDepth 65536 in
set_option maxHeartbeats 40000000 in
theorem rmSAV (l : Launch) (Z : State) (a0 : Array Value) (hw : ∀ d ∈ tables_1, d.before a0 Z = true) (ws : List Jvm.Cond) (a : Addr) (sb_ : Addr) (cst : Int32) (va : Addr) (kc : ClassId) (xs : List Int32) (k : Nat) (ts : List Int32) (h0 : Heap) (n0 : Nat) (Z0 : n0 ≤ h0.size) (I1 : Sta Z Z.heap "java/lang/String" "COMPACT_STRINGS" "Z" (.int cst)) (OX : Old Z n0 h0) (hcst : ¬ (cst = (0 : Int32))) (I2 : Exa Z h0 sb_ "java/lang/StringBuilder") (I3 : Fld Z h0 sb_ "java/lang/AbstractStringBuilder" "value" "[B" (.ref va)) (I4 : Fld Z h0 sb_ "java/lang/AbstractStringBuilder" "coder" "B" (.int (0 : Int32))) (I5 : Fld Z h0 sb_ "java/lang/AbstractStringBuilder" "count" "I" (.int (Int32.ofNat k))) (I6 : Arv Z h0 va kc .byte (16 : Int32) (xs.map Value.int) (.int (0 : Int32))) (hx16 : xs.length = 16) (hk16 : k < 16) (hts : xs.take k = ts.map own_lo) (hlt : own_lat ts) (htl : ts.length = k) (I7 : Exa Z h0 a "java/lang/String") (I8 : Fld Z h0 a "java/lang/String" "value" "[B" .null) (I9 : Fld Z h0 a "java/lang/String" "coder" "B" (.int (0 : Int32))) (ga : n0 ≤ a) (hax : @Ne Nat a sb_) (hav : @Ne Nat a va) :
    MetFree l (⟨"java/lang/String", "<init>", "(Ljava/lang/AbstractStringBuilder;Ljava/lang/Void;)V"⟩ : MethodName) (head1 (Jvm.Cond.code (⟨"java/lang/String", "<init>", "(Ljava/lang/AbstractStringBuilder;Ljava/lang/Void;)V"⟩ : MethodName) jdk_42_method_150_code 5 none :: ws) ({ frames := 3, cells := 1, slots := 16, locals := 71 } : Room)) (fun ar_ U => ar_ = #[(.ref a), (.ref sb_), .null] ∧ Z.Warmed39 U.vm ∧ U.heap = h0) (fun _ _ _ _ _ => True) (fun _ U oc_ U' => ∃ v L, oc_ = .returned v ∧ Q_rmSAV Z a sb_ cst va kc xs k ts h0 n0 v U'.heap L ∧ FrameEnd U oc_ U' L ({ frames := 3, cells := 1, slots := 16, locals := 71 } : Room).cells ({ frames := 3, cells := 1, slots := 16, locals := 71 } : Room).slots) := by
  refine MetFree.of_bodySF (plainFor_of_name pn_java_lang_String) hisR ?_
  intro p e s m args below meth c s₁ Bd hml0 hP hK
  obtain ⟨rfl, hZ, hh⟩ := hP
  have hx := Bd.exec
  have hby := Bd.bytes
  have hml : c.maxLocals = 5 := hml0
  have hown : s.vm.findClass "java/lang/String" = some m.cls := findClass_of_methodNamed Bd.named
  have hnm := (name_of_methodNamed Bd.named Bd.method).1
  have X0 : Stand p l e ({ frames := 3, cells := 1, slots := 16, locals := 71 } : Room) s m #[(.ref a), (.ref sb_), .null] below meth c s₁ [] 0 0 := Stand.of_body Bd
  have e0 : s₁.heap = h0 := by rw [← hh, Bd.state]; rfl
  have N0 := Fr.nil n0
  have pre0 : ∀ t_, Steps p.tables e below (s₁.setTop (mkF m 0 #[.val (.ref a), .val (.ref sb_), .val .null, .unset, .unset] [])) t_ → Steps p.tables e below (s₁.setTop (entryFrame m #[(.ref a), (.ref sb_), .null] 5)) t_ := fun t_ k_ => castTop (ef_rmSAV m a sb_) k_
  have lt_I2 : @LT.lt Nat _ sb_ h0.size := I2.lt
  have lt_I3 : @LT.lt Nat _ sb_ h0.size := I3.lt
  have lt_I4 : @LT.lt Nat _ sb_ h0.size := I4.lt
  have lt_I5 : @LT.lt Nat _ sb_ h0.size := I5.lt
  have lt_I6 : @LT.lt Nat _ va h0.size := I6.lt
  have lt_I7 : @LT.lt Nat _ a h0.size := I7.lt
  have lt_I8 : @LT.lt Nat _ a h0.size := I8.lt
  have lt_I9 : @LT.lt Nat _ a h0.size := I9.lt
  obtain ⟨T1, X1, e1, st1⟩ := initO X0 hx hZ hown (hw _ (List.mem_of_getElem? (i := 22) rfl)) (hw _ (List.mem_of_getElem? (i := 23) rfl)) (hw _ (List.mem_of_getElem? (i := 24) rfl)) e0 (g := (mkF m 1 #[.val (.ref a), .val (.ref sb_), .val .null, .unset, .unset] [(.ref a)])) rfl (by rw [hml]; rfl) rfl (Jvm.hb hby d_jdk_42_method_150_1) (by decide) (W := 0) (by show 2 * 0 + _ ≤ _; exact Nat.le_of_eq rfl) (by decide)
  have Zc2 : n0 ≤ h0.size := by omega
  obtain ⟨cq3, kq3, q3a, q3b, q3c⟩ := isOf hZ e1 I2
  obtain ⟨_, _, ⟨T3, L3, k3, n3⟩, -, X3, ⟨Lc3, hQ3, l3, y3, z3⟩, st3⟩ := X1.virtualBack hx (y := (⟨"java/lang/AbstractStringBuilder", "getValue", "()[B"⟩ : MethodName)) (z := (⟨"java/lang/AbstractStringBuilder", "getValue", "()[B"⟩ : MethodName)) hown (mvT hZ (hw _ (List.mem_of_getElem? (i := 169) rfl))) (mvT hZ (hw _ (List.mem_of_getElem? (i := 170) rfl))) (notFace_of_selects (args := #[]) (mvT hZ (hw _ (List.mem_of_getElem? (i := 172) rfl)))) (mvT hZ (hw _ (List.mem_of_getElem? (i := 172) rfl))) (mvT hZ (hw _ (List.mem_of_getElem? (i := 171) rfl))) (by decide) (backOf (W := 0) (rmGV l Z a0 hw [] sb_ va h0 n0 Zc2 I3) hZ (hw _ (List.mem_of_getElem? (i := 173) rfl)) (hw _ (List.mem_of_getElem? (i := 55) rfl)) (by decide) (by decide)) q3a q3c (g := (mkF m 5 #[.val (.ref a), .val (.ref sb_), .val .null, .unset, .unset] [(.ref sb_)])) rfl (by rw [hml]; rfl) (Steps.refl _) (argsL := []) (rest := []) (lenOf pd____B rfl) rfl (by show 2 * 0 + _ ≤ _; exact Nat.le_of_eq rfl) (Jvm.hb hby d_jdk_42_method_150_5) (fun _ _ => ⟨rfl, e1, (by decide : 0 + 0 ≤ _), (by decide : 0 + 0 ≤ _)⟩)
  dsimp only [Pt.U, Pt.locs, Pt.cells, Pt.slots] at X3 l3 y3 z3 st3 hQ3
  subst l3 y3 z3
  obtain ⟨rfl, N3q, e3⟩ := hQ3
  have N3 := Fr.app N0 N3q
  have Zc4 : n0 ≤ h0.size := by omega
  obtain ⟨cq5, kq5, q5a, q5b, q5c⟩ := isOf hZ e3 I2
  obtain ⟨_, _, ⟨T5, L5, k5, n5⟩, -, X5, ⟨Lc5, hQ5, l5, y5, z5⟩, st5⟩ := X3.virtualBack hx (y := (⟨"java/lang/AbstractStringBuilder", "length", "()I"⟩ : MethodName)) (z := (⟨"java/lang/StringBuilder", "length", "()I"⟩ : MethodName)) hown (mvT hZ (hw _ (List.mem_of_getElem? (i := 174) rfl))) (mvT hZ (hw _ (List.mem_of_getElem? (i := 175) rfl))) (own_nf (a0 := #[]) (y := (⟨"java/lang/AbstractStringBuilder", "length", "()I"⟩ : MethodName)) (z := (⟨"java/lang/AbstractStringBuilder", "ensureCapacityInternal", "(I)V"⟩ : MethodName)) rfl (mvT hZ (hw _ (List.mem_of_getElem? (i := 137) rfl)))) (mvT hZ (hw _ (List.mem_of_getElem? (i := 177) rfl))) (mvT hZ (hw _ (List.mem_of_getElem? (i := 178) rfl))) (by decide) (backOf (W := 0) (rmSLen l Z a0 hw [] sb_ (Int32.ofNat k) h0 n0 Zc4 I2 I5) hZ (hw _ (List.mem_of_getElem? (i := 179) rfl)) (hw _ (List.mem_of_getElem? (i := 47) rfl)) (by decide) (by decide)) q5a q5c (g := (mkF m 10 #[.val (.ref a), .val (.ref sb_), .val .null, .val (.ref va), .unset] [(.ref sb_)])) rfl (by rw [hml]; rfl) (Steps.refl _) (argsL := []) (rest := []) (lenOf pd___I rfl) rfl (by show 2 * 0 + _ ≤ _; exact Nat.le_of_eq rfl) (Jvm.hb hby d_jdk_42_method_150_10) (fun _ _ => ⟨rfl, e3, (by decide : 0 + 0 ≤ _), (by decide : 0 + 0 ≤ _)⟩)
  dsimp only [Pt.U, Pt.locs, Pt.cells, Pt.slots] at X5 l5 y5 z5 st5 hQ5
  subst l5 y5 z5
  obtain ⟨rfl, N5q, e5⟩ := hQ5
  have N5 := Fr.app N3 N5q
  have Zc6 : n0 ≤ h0.size := by omega
  obtain ⟨cq7, kq7, q7a, q7b, q7c⟩ := isOf hZ e5 I2
  obtain ⟨_, _, ⟨T7, L7, k7, n7⟩, -, X7, ⟨Lc7, hQ7, l7, y7, z7⟩, st7⟩ := X5.virtualBack hx (y := (⟨"java/lang/AbstractStringBuilder", "isLatin1", "()Z"⟩ : MethodName)) (z := (⟨"java/lang/AbstractStringBuilder", "isLatin1", "()Z"⟩ : MethodName)) hown (mvT hZ (hw _ (List.mem_of_getElem? (i := 182) rfl))) (mvT hZ (hw _ (List.mem_of_getElem? (i := 183) rfl))) (notFace_of_selects (args := #[]) (mvT hZ (hw _ (List.mem_of_getElem? (i := 185) rfl)))) (mvT hZ (hw _ (List.mem_of_getElem? (i := 185) rfl))) (mvT hZ (hw _ (List.mem_of_getElem? (i := 184) rfl))) (by decide) (backOf (W := 0) (rmALat l Z a0 hw [] sb_ cst h0 n0 Zc6 I1 OX (hcst : ¬ (cst = (0 : Int32))) I4) hZ (hw _ (List.mem_of_getElem? (i := 186) rfl)) (hw _ (List.mem_of_getElem? (i := 55) rfl)) (by decide) (by decide)) q7a q7c (g := (mkF m 16 #[.val (.ref a), .val (.ref sb_), .val .null, .val (.ref va), .val (.int (Int32.ofNat k))] [(.ref sb_)])) rfl (by rw [hml]; rfl) (Steps.refl _) (argsL := []) (rest := []) (lenOf pd___Z rfl) rfl (by show 2 * 0 + _ ≤ _; exact Nat.le_of_eq rfl) (Jvm.hb hby d_jdk_42_method_150_16) (fun _ _ => ⟨rfl, e5, (by decide : 0 + 0 ≤ _), (by decide : 0 + 0 ≤ _)⟩)
  dsimp only [Pt.U, Pt.locs, Pt.cells, Pt.slots] at X7 l7 y7 z7 st7 hQ7
  subst l7 y7 z7
  obtain ⟨rfl, N7q, e7⟩ := hQ7
  have N7 := Fr.app N5 N7q
  obtain ⟨T8, h8, X8, e8, W8, st8⟩ := putFN X7 hx hZ hown (hw _ (List.mem_of_getElem? (i := 37) rfl)) Via.refl e7 I9 I7 (Or.inr ⟨(hw _ (List.mem_of_getElem? (i := 38) rfl)), rfl, hnm⟩) (hw _ (List.mem_of_getElem? (i := 13) rfl)) (ty := .byte) (v' := (.int (0 : Int32))) (by decide) rfl rfl (g := (mkF m 24 #[.val (.ref a), .val (.ref sb_), .val .null, .val (.ref va), .val (.int (Int32.ofNat k))] [(.int (0 : Int32)), (.ref a)])) rfl rfl (Jvm.hb hby d_jdk_42_method_150_24)
  have z9 : h0.size ≤ h8.size := Nat.le_of_eq W8.size.symm
  have F8 : Fld Z h8 a "java/lang/String" "coder" "B" (.int (0 : Int32)) := I9.same W8
  have N8 := Fr.snoc X8 N7 (show n0 ≤ a by omega)
  have f10 : Arv Z h8 va kc .byte (16 : Int32) (xs.map Value.int) (.int (0 : Int32)) := (I6.other W8 (show @Ne Nat va a by omega))
  have V11 : Arv Z h8 va kc .byte (Int32.ofNat xs.length) (xs.map Value.int) (.int (0 : Int32)) := by rw [hx16]; exact f10
  have Zc12 : n0 ≤ h8.size := by omega
  obtain ⟨_, _, ⟨T13, L13, k13, n13⟩, -, X13, ⟨Lc13, hQ13, l13, y13, z13⟩, st13⟩ := Jvm.LawKit.callS X8 hx (y := (⟨"java/util/Arrays", "copyOfRange", "([BII)[B"⟩ : MethodName)) hown (mvT hZ (hw _ (List.mem_of_getElem? (i := 187) rfl))) (mvT hZ (hw _ (List.mem_of_getElem? (i := 101) rfl))) (mvT hZ (hw _ (List.mem_of_getElem? (i := 102) rfl))) (mvT hZ (hw _ (List.mem_of_getElem? (i := 103) rfl))) (by decide) (backOf (W := 1) (rmCR l Z a0 hw [] va kc xs k h8 n0 Zc12 V11 (by omega) (by omega)) hZ (hw _ (List.mem_of_getElem? (i := 103) rfl)) (hw _ (List.mem_of_getElem? (i := 102) rfl)) (by decide) (by decide)) (g := (mkF m 32 #[.val (.ref a), .val (.ref sb_), .val .null, .val (.ref va), .val (.int (Int32.ofNat k))] [(.int (Int32.ofNat k)), (.int (0 : Int32)), (.ref va), (.ref a)])) rfl (by rw [hml]; rfl) (argsL := [(.ref va), (.int (0 : Int32)), (.int (Int32.ofNat k))]) (rest := [(.ref a)]) (lenOf pd___BII__B rfl) rfl (by show 2 * 0 + _ ≤ _; exact Nat.le_of_eq rfl) (Jvm.hb hby d_jdk_42_method_150_32) (fun _ _ => ⟨rfl, e8, (by decide : 0 + 1 ≤ _), (by decide : 0 + 16 ≤ _)⟩)
  dsimp only [Pt.U, Pt.locs, Pt.cells, Pt.slots] at X13 l13 y13 z13 st13 hQ13
  subst l13 y13 z13
  obtain ⟨b_13, kb_13, rfl, N13q, K13, Fq13_0, P13_0⟩ := hQ13
  have N13 := Fr.app N8 N13q
  obtain ⟨h13, e13⟩ : ∃ z, T13.heap = z := ⟨_, rfl⟩
  rw [e13] at K13 Fq13_0
  have z14 : h8.size ≤ h13.size := K13.1
  have lt13_0 : @LT.lt Nat _ b_13 h13.size := Fq13_0.lt
  have f15 : Exa Z h13 a "java/lang/String" := ((I7.wr W8).keep K13)
  have f16 : Fld Z h13 a "java/lang/String" "value" "[B" .null := ((I8.other W8 (Or.inr (slot_ne (Or.inr (hw _ (List.mem_of_getElem? (i := 40) rfl))) (Or.inr (hw _ (List.mem_of_getElem? (i := 38) rfl))) (by decide) (t := (.array .byte)) (t' := .byte) (by decide) (by decide)))).keep K13 nin0)
  obtain ⟨T17, h17, X17, e17, W17, st17⟩ := putF X13 hx hZ hown (host := "") (Or.inl (hw _ (List.mem_of_getElem? (i := 39) rfl))) Via.refl e13 f16 f15 (Or.inr ⟨(hw _ (List.mem_of_getElem? (i := 40) rfl)), rfl, hnm⟩) (hw _ (List.mem_of_getElem? (i := 13) rfl)) (ty := (.array .byte)) (by decide) rfl rfl (g := (mkF m 35 #[.val (.ref a), .val (.ref sb_), .val .null, .val (.ref va), .val (.int (Int32.ofNat k))] [(.ref b_13), (.ref a)])) rfl rfl (Jvm.hb hby d_jdk_42_method_150_35)
  have z18 : h13.size ≤ h17.size := Nat.le_of_eq W17.size.symm
  have F17 : Fld Z h17 a "java/lang/String" "value" "[B" (.ref b_13) := f16.same W17
  have N17 := Fr.snoc X17 N13 (show n0 ≤ a by omega)
  have s19 : ∀ t_, Steps p.tables e below (T17.setTop (mkF m 97 #[.val (.ref a), .val (.ref sb_), .val .null, .val (.ref va), .val (.int (Int32.ofNat k))] [])) t_ → Steps p.tables e below (s₁.setTop (entryFrame m #[(.ref a), (.ref sb_), .null] 5)) t_ := fun t_ k_ => pre0 t_ (by
    show Steps p.tables e below (s₁.setTop (mkF m 0 #[.val (.ref a), .val (.ref sb_), .val .null, .unset, .unset] [])) t_
    refine XS.aloadN X0.here hx rfl (Jvm.hb hby d_jdk_42_method_150_0) rfl rfl ?_
    refine st1 _ ?_
    show Steps p.tables e below (T1.setTop (mkF m 4 #[.val (.ref a), .val (.ref sb_), .val .null, .unset, .unset] [])) _
    refine XS.aloadN X1.here hx rfl (Jvm.hb hby d_jdk_42_method_150_4) rfl rfl ?_
    refine st3.trans ?_
    show Steps p.tables e below (T3.setTop (mkF m 8 #[.val (.ref a), .val (.ref sb_), .val .null, .unset, .unset] [(.ref va)])) _
    refine XS.astoreN X3.here hx rfl (Jvm.hb hby d_jdk_42_method_150_8) rfl rfl (l' := #[.val (.ref a), .val (.ref sb_), .val .null, .val (.ref va), .unset]) rfl ?_
    refine XS.aloadN X3.here hx rfl (Jvm.hb hby d_jdk_42_method_150_9) rfl rfl ?_
    refine st5.trans ?_
    show Steps p.tables e below (T5.setTop (mkF m 13 #[.val (.ref a), .val (.ref sb_), .val .null, .val (.ref va), .unset] [(.int (Int32.ofNat k))])) _
    refine XS.istore X5.here hx rfl (Jvm.hb hby d_jdk_42_method_150_13) rfl (l' := #[.val (.ref a), .val (.ref sb_), .val .null, .val (.ref va), .val (.int (Int32.ofNat k))]) rfl ?_
    refine XS.aloadN X5.here hx rfl (Jvm.hb hby d_jdk_42_method_150_15) rfl rfl ?_
    refine st7.trans ?_
    show Steps p.tables e below (T7.setTop (mkF m 19 #[.val (.ref a), .val (.ref sb_), .val .null, .val (.ref va), .val (.int (Int32.ofNat k))] [(.int (1 : Int32))])) _
    refine XS.ifNo X7.here hx rfl (Jvm.hb hby d_jdk_42_method_150_19) rfl ((if0 _ _).trans (feq (by decide : ¬ ((1 : Int32) = (0 : Int32)))).1) ?_
    show Steps p.tables e below (T7.setTop (mkF m 22 #[.val (.ref a), .val (.ref sb_), .val .null, .val (.ref va), .val (.int (Int32.ofNat k))] [])) _
    refine XS.aloadN X7.here hx rfl (Jvm.hb hby d_jdk_42_method_150_22) rfl rfl ?_
    refine XS.iconst X7.here hx rfl (Jvm.hb hby d_jdk_42_method_150_23) ?_
    refine st8 _ ?_
    show Steps p.tables e below (T8.setTop (mkF m 27 #[.val (.ref a), .val (.ref sb_), .val .null, .val (.ref va), .val (.int (Int32.ofNat k))] [])) _
    refine XS.aloadN X8.here hx rfl (Jvm.hb hby d_jdk_42_method_150_27) rfl rfl ?_
    refine XS.aloadN X8.here hx rfl (Jvm.hb hby d_jdk_42_method_150_28) rfl rfl ?_
    refine XS.iconst X8.here hx rfl (Jvm.hb hby d_jdk_42_method_150_29) ?_
    refine XS.iload X8.here hx rfl (Jvm.hb hby d_jdk_42_method_150_30) rfl ?_
    refine st13 _ ?_
    show Steps p.tables e below (T13.setTop (mkF m 35 #[.val (.ref a), .val (.ref sb_), .val .null, .val (.ref va), .val (.int (Int32.ofNat k))] [(.ref b_13), (.ref a)])) _
    refine st17 _ ?_
    show Steps p.tables e below (T17.setTop (mkF m 38 #[.val (.ref a), .val (.ref sb_), .val .null, .val (.ref va), .val (.int (Int32.ofNat k))] [])) _
    refine XS.goto X17.here hx rfl (pc0 := 38) (pc' := 97) rfl (Jvm.hb hby d_jdk_42_method_150_38) (by decide) (by decide) ?_
    show Steps p.tables e below (T17.setTop (mkF m 97 #[.val (.ref a), .val (.ref sb_), .val .null, .val (.ref va), .val (.int (Int32.ofNat k))] [])) t_
    exact k_)
  obtain ⟨fs, hr, hrun, hended, hW, hsame⟩ := X17.leave (v := none) (fun _ => rfl)
  have f20 : Arv Z h17 b_13 kb_13 .byte (Int32.ofNat k) ((xs.take k).map Value.int) (.int (0 : Int32)) := (Fq13_0.other W17 (show @Ne Nat b_13 a by omega))
  have f21 : Exa Z h17 a "java/lang/String" := (f15.wr W17)
  have f22 : Fld Z h17 a "java/lang/String" "coder" "B" (.int (0 : Int32)) := ((F8.keep K13 nin0).other W17 (Or.inr (slot_ne (Or.inr (hw _ (List.mem_of_getElem? (i := 38) rfl))) (Or.inr (hw _ (List.mem_of_getElem? (i := 40) rfl))) (by decide) (t := .byte) (t' := (.array .byte)) (by decide) (by decide))))
  refine ⟨_, _, s19 _ ?_, hrun, hended, _, _, rfl, ?_, ⟨_, rfl⟩, hW, hsame.mono (by decide) (by decide)⟩
  · show Steps p.tables e below (T17.setTop (mkF m 97 #[.val (.ref a), .val (.ref sb_), .val .null, .val (.ref va), .val (.int (Int32.ofNat k))] [])) _
    exact X17.returnOut hx Bd.returns (Jvm.hb hby d_jdk_42_method_150_97) hr
  · show Q_rmSAV Z _ _ _ _ _ _ _ _ h0 n0 _ T17.heap _
    rw [e17]
    exact ⟨b_13, kb_13, rfl, N17, ((((Keep.refl h0 [a]).wr W8 (Or.inl (by simp))).trans K13 all0).wr W17 (Or.inl (by simp))), f21, F17, (by rw [own_cod0 hlt]; exact f22), (own_toenc hlt (by rw [htl, ← hts]; exact f20)), by omega⟩
theorem d_jdk_42_method_53_0 : decode jdk_42_method_53_code 0 = .ok (.aload_n 0, 1) := by decide +kernel
theorem d_jdk_42_method_53_1 : decode jdk_42_method_53_code 1 = .ok (.aload_n 1, 1) := by decide +kernel
theorem d_jdk_42_method_53_2 : decode jdk_42_method_53_code 2 = .ok (.aconst_null, 1) := by decide +kernel
theorem pd__Ljava_lang_AbstractStringBuilder_Ljava_lang_Void__V : parseMethodDescriptor "(Ljava/lang/AbstractStringBuilder;Ljava/lang/Void;)V" = some ⟨[(.object "java/lang/AbstractStringBuilder"), (.object "java/lang/Void")], none⟩ := by decide +kernel
theorem d_jdk_42_method_53_3 : decode jdk_42_method_53_code 3 = .ok (.invokespecial 489, 3) := by decide +kernel
theorem d_jdk_42_method_53_6 : decode jdk_42_method_53_code 6 = .ok (.return_, 1) := by decide +kernel
theorem ef_rmSSB (m : MethodId) (x0 : Addr) (x1 : Addr) : entryFrame m #[(.ref x0), (.ref x1)] 2 = mkF m 0 #[.val (.ref x0), .val (.ref x1)] [] := by first | (simp [entryFrame, mkF, argsToLocals, Value.category]; done) | rfl
def Q_rmSSB (Z : State) (a : Addr) (sb_ : Addr) (cst : Int32) (va : Addr) (kc : ClassId) (xs : List Int32) (k : Nat) (ts : List Int32) (h0 : Heap) (n0 : Nat) (v : Option Value) (h : Heap) (L : List Loc) : Prop := ∃ (b : Addr), ∃ (kb : ClassId), (v = none) ∧ (Fr n0 L) ∧ (Keep h0 h [a]) ∧ (Exa Z h a "java/lang/String") ∧ (Fld Z h a "java/lang/String" "value" "[B" (.ref b)) ∧ (Fld Z h a "java/lang/String" "coder" "B" (.int (own_cod ts))) ∧ (Arv Z h b kb .byte (Int32.ofNat (own_enl ts)) (own_enc ts) (.int (0 : Int32))) ∧ (h0.size ≤ b)
set_option maxRecDepth 65536 in
set_option maxHeartbeats 40000000 in
theorem rmSSB (l : Launch) (Z : State) (a0 : Array Value) (hw : ∀ d ∈ tables_1, d.before a0 Z = true) (ws : List Jvm.Cond) (a : Addr) (sb_ : Addr) (cst : Int32) (va : Addr) (kc : ClassId) (xs : List Int32) (k : Nat) (ts : List Int32) (h0 : Heap) (n0 : Nat) (Z0 : n0 ≤ h0.size) (I1 : Sta Z Z.heap "java/lang/String" "COMPACT_STRINGS" "Z" (.int cst)) (OX : Old Z n0 h0) (hcst : ¬ (cst = (0 : Int32))) (I2 : Exa Z h0 sb_ "java/lang/StringBuilder") (I3 : Fld Z h0 sb_ "java/lang/AbstractStringBuilder" "value" "[B" (.ref va)) (I4 : Fld Z h0 sb_ "java/lang/AbstractStringBuilder" "coder" "B" (.int (0 : Int32))) (I5 : Fld Z h0 sb_ "java/lang/AbstractStringBuilder" "count" "I" (.int (Int32.ofNat k))) (I6 : Arv Z h0 va kc .byte (16 : Int32) (xs.map Value.int) (.int (0 : Int32))) (hx16 : xs.length = 16) (hk16 : k < 16) (hts : xs.take k = ts.map own_lo) (hlt : own_lat ts) (htl : ts.length = k) (I7 : Exa Z h0 a "java/lang/String") (I8 : Fld Z h0 a "java/lang/String" "value" "[B" .null) (I9 : Fld Z h0 a "java/lang/String" "coder" "B" (.int (0 : Int32))) (ga : n0 ≤ a) (hax : @Ne Nat a sb_) (hav : @Ne Nat a va) :
    MetFree l (⟨"java/lang/String", "<init>", "(Ljava/lang/StringBuilder;)V"⟩ : MethodName) (head1 (Jvm.Cond.code (⟨"java/lang/String", "<init>", "(Ljava/lang/StringBuilder;)V"⟩ : MethodName) jdk_42_method_53_code 2 none :: ws) ({ frames := 4, cells := 1, slots := 16, locals := 87 } : Room)) (fun ar_ U => ar_ = #[(.ref a), (.ref sb_)] ∧ Z.Warmed39 U.vm ∧ U.heap = h0) (fun _ _ _ _ _ => True) (fun _ U oc_ U' => ∃ v L, oc_ = .returned v ∧ Q_rmSSB Z a sb_ cst va kc xs k ts h0 n0 v U'.heap L ∧ FrameEnd U oc_ U' L ({ frames := 4, cells := 1, slots := 16, locals := 87 } : Room).cells ({ frames := 4, cells := 1, slots := 16, locals := 87 } : Room).slots) := by
  refine MetFree.of_bodySF (plainFor_of_name pn_java_lang_String) hisR ?_
  intro p e s m args below meth c s₁ Bd hml0 hP hK
  obtain ⟨rfl, hZ, hh⟩ := hP
  have hx := Bd.exec
  have hby := Bd.bytes
  have hml : c.maxLocals = 2 := hml0
  have hown : s.vm.findClass "java/lang/String" = some m.cls := findClass_of_methodNamed Bd.named
  have hnm := (name_of_methodNamed Bd.named Bd.method).1
  have X0 : Stand p l e ({ frames := 4, cells := 1, slots := 16, locals := 87 } : Room) s m #[(.ref a), (.ref sb_)] below meth c s₁ [] 0 0 := Stand.of_body Bd
  have e0 : s₁.heap = h0 := by rw [← hh, Bd.state]; rfl
  have N0 := Fr.nil n0
  have pre0 : ∀ t_, Steps p.tables e below (s₁.setTop (mkF m 0 #[.val (.ref a), .val (.ref sb_)] [])) t_ → Steps p.tables e below (s₁.setTop (entryFrame m #[(.ref a), (.ref sb_)] 2)) t_ := fun t_ k_ => castTop (ef_rmSSB m a sb_) k_
  have lt_I2 : @LT.lt Nat _ sb_ h0.size := I2.lt
  have lt_I3 : @LT.lt Nat _ sb_ h0.size := I3.lt
  have lt_I4 : @LT.lt Nat _ sb_ h0.size := I4.lt
  have lt_I5 : @LT.lt Nat _ sb_ h0.size := I5.lt
  have lt_I6 : @LT.lt Nat _ va h0.size := I6.lt
  have lt_I7 : @LT.lt Nat _ a h0.size := I7.lt
  have lt_I8 : @LT.lt Nat _ a h0.size := I8.lt
  have lt_I9 : @LT.lt Nat _ a h0.size := I9.lt
  have Zc1 : n0 ≤ h0.size := by omega
  obtain ⟨_, _, ⟨T2, L2, k2, n2⟩, -, X2, ⟨Lc2, hQ2, l2, y2, z2⟩, st2⟩ := X0.specialBack hx (y := (⟨"java/lang/String", "<init>", "(Ljava/lang/AbstractStringBuilder;Ljava/lang/Void;)V"⟩ : MethodName)) rfl hown (mvT hZ (hw _ (List.mem_of_getElem? (i := 166) rfl))) (mvT hZ (hw _ (List.mem_of_getElem? (i := 167) rfl))) (mvT hZ (hw _ (List.mem_of_getElem? (i := 168) rfl))) (by decide) (backOf (W := 0) (rmSAV l Z a0 hw [] a sb_ cst va kc xs k ts h0 n0 Zc1 I1 OX (hcst : ¬ (cst = (0 : Int32))) I2 I3 I4 I5 I6 (hx16 : xs.length = 16) (hk16 : k < 16) hts hlt htl I7 I8 I9 (ga : n0 ≤ a) (hax : @Ne Nat a sb_) (hav : @Ne Nat a va)) hZ (hw _ (List.mem_of_getElem? (i := 168) rfl)) (hw _ (List.mem_of_getElem? (i := 14) rfl)) (by decide) (by decide)) (g := (mkF m 3 #[.val (.ref a), .val (.ref sb_)] [.null, (.ref sb_), (.ref a)])) rfl (by rw [hml]; rfl) (Steps.refl _) (a := a) (argsL := [(.ref sb_), .null]) (rest := []) (lenOf pd__Ljava_lang_AbstractStringBuilder_Ljava_lang_Void__V rfl) rfl (by show 2 * 0 + _ ≤ _; exact Nat.le_of_eq rfl) (Jvm.hb hby d_jdk_42_method_53_3) (fun _ _ => ⟨rfl, e0, (by decide : 0 + 1 ≤ _), (by decide : 0 + 16 ≤ _)⟩)
  dsimp only [Pt.U, Pt.locs, Pt.cells, Pt.slots] at X2 l2 y2 z2 st2 hQ2
  subst l2 y2 z2
  obtain ⟨b_2, kb_2, rfl, N2q, K2, Fq2_0, Fq2_1, Fq2_2, Fq2_3, P2_0⟩ := hQ2
  have N2 := Fr.app N0 N2q
  obtain ⟨h2, e2⟩ : ∃ z, T2.heap = z := ⟨_, rfl⟩
  rw [e2] at K2 Fq2_0 Fq2_1 Fq2_2 Fq2_3
  have z3 : h0.size ≤ h2.size := K2.1
  have lt2_0 : @LT.lt Nat _ a h2.size := Fq2_0.lt
  have lt2_3 : @LT.lt Nat _ b_2 h2.size := Fq2_3.lt
  have s4 : ∀ t_, Steps p.tables e below (T2.setTop (mkF m 6 #[.val (.ref a), .val (.ref sb_)] [])) t_ → Steps p.tables e below (s₁.setTop (entryFrame m #[(.ref a), (.ref sb_)] 2)) t_ := fun t_ k_ => pre0 t_ (by
    show Steps p.tables e below (s₁.setTop (mkF m 0 #[.val (.ref a), .val (.ref sb_)] [])) t_
    refine XS.aloadN X0.here hx rfl (Jvm.hb hby d_jdk_42_method_53_0) rfl rfl ?_
    refine XS.aloadN X0.here hx rfl (Jvm.hb hby d_jdk_42_method_53_1) rfl rfl ?_
    refine XS.aconstNull X0.here hx rfl (Jvm.hb hby d_jdk_42_method_53_2) ?_
    refine st2.trans ?_
    show Steps p.tables e below (T2.setTop (mkF m 6 #[.val (.ref a), .val (.ref sb_)] [])) _
    show Steps p.tables e below (T2.setTop (mkF m 6 #[.val (.ref a), .val (.ref sb_)] [])) t_
    exact k_)
  obtain ⟨fs, hr, hrun, hended, hW, hsame⟩ := X2.leave (v := none) (fun _ => rfl)
  refine ⟨_, _, s4 _ ?_, hrun, hended, _, _, rfl, ?_, ⟨_, rfl⟩, hW, hsame.mono (by decide) (by decide)⟩
  · show Steps p.tables e below (T2.setTop (mkF m 6 #[.val (.ref a), .val (.ref sb_)] [])) _
    exact X2.returnOut hx Bd.returns (Jvm.hb hby d_jdk_42_method_53_6) hr
  · show Q_rmSSB Z _ _ _ _ _ _ _ _ h0 n0 _ T2.heap _
    rw [e2]
    exact ⟨b_2, kb_2, rfl, N2, ((Keep.refl h0 [a]).trans K2 (allS (Or.inl (by simp)) all0)), Fq2_0, Fq2_1, Fq2_2, Fq2_3, by omega⟩
theorem d_jdk_67_method_42_0 : decode jdk_67_method_42_code 0 = .ok (.new 18, 3) := by decide +kernel
theorem d_jdk_67_method_42_3 : decode jdk_67_method_42_code 3 = .ok (.dup, 1) := by decide +kernel
theorem d_jdk_67_method_42_4 : decode jdk_67_method_42_code 4 = .ok (.aload_n 0, 1) := by decide +kernel
theorem pd__Ljava_lang_StringBuilder__V : parseMethodDescriptor "(Ljava/lang/StringBuilder;)V" = some ⟨[(.object "java/lang/StringBuilder")], none⟩ := by decide +kernel
theorem d_jdk_67_method_42_5 : decode jdk_67_method_42_code 5 = .ok (.invokespecial 137, 3) := by decide +kernel
theorem d_jdk_67_method_42_8 : decode jdk_67_method_42_code 8 = .ok (.areturn, 1) := by decide +kernel
theorem ef_rmTS (m : MethodId) (x0 : Addr) : entryFrame m #[(.ref x0)] 1 = mkF m 0 #[.val (.ref x0)] [] := by first | (simp [entryFrame, mkF, argsToLocals, Value.category]; done) | rfl
def Q_rmTS (Z : State) (sb_ : Addr) (cst : Int32) (va : Addr) (kc : ClassId) (xs : List Int32) (k : Nat) (ts : List Int32) (h0 : Heap) (n0 : Nat) (v : Option Value) (h : Heap) (L : List Loc) : Prop := ∃ (a : Addr), ∃ (b : Addr), ∃ (kb : ClassId), (v = some (.ref a)) ∧ (Fr n0 L) ∧ (Keep h0 h []) ∧ (Exa Z h a "java/lang/String") ∧ (Fld Z h a "java/lang/String" "value" "[B" (.ref b)) ∧ (Fld Z h a "java/lang/String" "coder" "B" (.int (own_cod ts))) ∧ (Arv Z h b kb .byte (Int32.ofNat (own_enl ts)) (own_enc ts) (.int (0 : Int32))) ∧ (h0.size ≤ a) ∧ (h0.size ≤ b)
set_option maxRecDepth 65536 in
set_option maxHeartbeats 40000000 in
theorem rmTS (l : Launch) (Z : State) (a0 : Array Value) (hw : ∀ d ∈ tables_1, d.before a0 Z = true) (ws : List Jvm.Cond) (sb_ : Addr) (cst : Int32) (va : Addr) (kc : ClassId) (xs : List Int32) (k : Nat) (ts : List Int32) (h0 : Heap) (n0 : Nat) (Z0 : n0 ≤ h0.size) (I1 : Sta Z Z.heap "java/lang/String" "COMPACT_STRINGS" "Z" (.int cst)) (OX : Old Z n0 h0) (hcst : ¬ (cst = (0 : Int32))) (I2 : Exa Z h0 sb_ "java/lang/StringBuilder") (I3 : Fld Z h0 sb_ "java/lang/AbstractStringBuilder" "value" "[B" (.ref va)) (I4 : Fld Z h0 sb_ "java/lang/AbstractStringBuilder" "coder" "B" (.int (0 : Int32))) (I5 : Fld Z h0 sb_ "java/lang/AbstractStringBuilder" "count" "I" (.int (Int32.ofNat k))) (I6 : Arv Z h0 va kc .byte (16 : Int32) (xs.map Value.int) (.int (0 : Int32))) (hx16 : xs.length = 16) (hk16 : k < 16) (hts : xs.take k = ts.map own_lo) (hlt : own_lat ts) (htl : ts.length = k) :
    MetFree l (⟨"java/lang/StringBuilder", "toString", "()Ljava/lang/String;"⟩ : MethodName) (head1 (Jvm.Cond.code (⟨"java/lang/StringBuilder", "toString", "()Ljava/lang/String;"⟩ : MethodName) jdk_67_method_42_code 1 (some (.object "java/lang/String")) :: ws) ({ frames := 5, cells := 2, slots := 20, locals := 101 } : Room)) (fun ar_ U => ar_ = #[(.ref sb_)] ∧ Z.Warmed39 U.vm ∧ U.heap = h0) (fun _ _ _ _ _ => True) (fun _ U oc_ U' => ∃ v L, oc_ = .returned v ∧ Q_rmTS Z sb_ cst va kc xs k ts h0 n0 v U'.heap L ∧ FrameEnd U oc_ U' L ({ frames := 5, cells := 2, slots := 20, locals := 101 } : Room).cells ({ frames := 5, cells := 2, slots := 20, locals := 101 } : Room).slots) := by
  refine MetFree.of_bodySF (plainFor_of_name pn_java_lang_StringBuilder) hisR ?_
  intro p e s m args below meth c s₁ Bd hml0 hP hK
  obtain ⟨rfl, hZ, hh⟩ := hP
  have hx := Bd.exec
  have hby := Bd.bytes
  have hml : c.maxLocals = 1 := hml0
  have hown : s.vm.findClass "java/lang/StringBuilder" = some m.cls := findClass_of_methodNamed Bd.named
  have hnm := (name_of_methodNamed Bd.named Bd.method).1
  have X0 : Stand p l e ({ frames := 5, cells := 2, slots := 20, locals := 101 } : Room) s m #[(.ref sb_)] below meth c s₁ [] 0 0 := Stand.of_body Bd
  have e0 : s₁.heap = h0 := by rw [← hh, Bd.state]; rfl
  have N0 := Fr.nil n0
  have pre0 : ∀ t_, Steps p.tables e below (s₁.setTop (mkF m 0 #[.val (.ref sb_)] [])) t_ → Steps p.tables e below (s₁.setTop (entryFrame m #[(.ref sb_)] 1)) t_ := fun t_ k_ => castTop (ef_rmTS m sb_) k_
  have lt_I2 : @LT.lt Nat _ sb_ h0.size := I2.lt
  have lt_I3 : @LT.lt Nat _ sb_ h0.size := I3.lt
  have lt_I4 : @LT.lt Nat _ sb_ h0.size := I4.lt
  have lt_I5 : @LT.lt Nat _ sb_ h0.size := I5.lt
  have lt_I6 : @LT.lt Nat _ va h0.size := I6.lt
  obtain ⟨T1, h1, X1, e1, E1, A1, D1, -, st1⟩ := newO X0 hx hZ hown (hw _ (List.mem_of_getElem? (i := 162) rfl)) (hw _ (List.mem_of_getElem? (i := 13) rfl)) (hw _ (List.mem_of_getElem? (i := 14) rfl)) e0 (g := (mkF m 0 #[.val (.ref sb_)] [])) rfl (Jvm.hb hby d_jdk_67_method_42_0) (by decide) (by decide)
  obtain ⟨b1, g1⟩ : ∃ z, z = h0.size := ⟨_, rfl⟩
  rw [← g1] at A1 D1 st1
  have z2 : h0.size ≤ h1.size := E1.1
  have l1 : b1 < h1.size := A1.lt
  have F3 : Fld Z h1 b1 "java/lang/String" "coder" "B" (.int (0 : Int32)) := D1 (Or.inr (hw _ (List.mem_of_getElem? (i := 38) rfl))) (ty := .byte) (by decide)
  have F4 : Fld Z h1 b1 "java/lang/String" "value" "[B" .null := D1 (Or.inr (hw _ (List.mem_of_getElem? (i := 40) rfl))) (ty := (.array .byte)) (by decide)
  have O5 : Old Z n0 h1 := (OX.ext E1)
  have f6 : Exa Z h1 sb_ "java/lang/StringBuilder" := (I2.ext E1)
  have f7 : Fld Z h1 sb_ "java/lang/AbstractStringBuilder" "value" "[B" (.ref va) := (I3.ext E1)
  have f8 : Fld Z h1 sb_ "java/lang/AbstractStringBuilder" "coder" "B" (.int (0 : Int32)) := (I4.ext E1)
  have f9 : Fld Z h1 sb_ "java/lang/AbstractStringBuilder" "count" "I" (.int (Int32.ofNat k)) := (I5.ext E1)
  have f10 : Arv Z h1 va kc .byte (16 : Int32) (xs.map Value.int) (.int (0 : Int32)) := (I6.ext E1)
  have Zc11 : n0 ≤ h1.size := by omega
  obtain ⟨_, _, ⟨T12, L12, k12, n12⟩, -, X12, ⟨Lc12, hQ12, l12, y12, z12⟩, st12⟩ := X1.specialBack hx (y := (⟨"java/lang/String", "<init>", "(Ljava/lang/StringBuilder;)V"⟩ : MethodName)) rfl hown (mvT hZ (hw _ (List.mem_of_getElem? (i := 163) rfl))) (mvT hZ (hw _ (List.mem_of_getElem? (i := 164) rfl))) (mvT hZ (hw _ (List.mem_of_getElem? (i := 165) rfl))) (by decide) (backOf (W := 1) (rmSSB l Z a0 hw [] b1 sb_ cst va kc xs k ts h1 n0 Zc11 I1 O5 (hcst : ¬ (cst = (0 : Int32))) f6 f7 f8 f9 f10 (hx16 : xs.length = 16) (hk16 : k < 16) hts hlt htl A1 F4 F3 (by first | assumption | omega | rfl | decide : n0 ≤ b1) (by first | assumption | omega | rfl | decide : @Ne Nat b1 sb_) (by first | assumption | omega | rfl | decide : @Ne Nat b1 va)) hZ (hw _ (List.mem_of_getElem? (i := 165) rfl)) (hw _ (List.mem_of_getElem? (i := 14) rfl)) (by decide) (by decide)) (g := (mkF m 5 #[.val (.ref sb_)] [(.ref sb_), (.ref b1), (.ref b1)])) rfl (by rw [hml]; rfl) (Steps.refl _) (a := b1) (argsL := [(.ref sb_)]) (rest := [(.ref b1)]) (lenOf pd__Ljava_lang_StringBuilder__V rfl) rfl (by show 2 * 0 + _ ≤ _; exact Nat.le_of_eq rfl) (Jvm.hb hby d_jdk_67_method_42_5) (fun _ _ => ⟨rfl, e1, (by decide : 1 + 1 ≤ _), (by decide : 4 + 16 ≤ _)⟩)
  dsimp only [Pt.U, Pt.locs, Pt.cells, Pt.slots] at X12 l12 y12 z12 st12 hQ12
  subst l12 y12 z12
  obtain ⟨b_12, kb_12, rfl, N12q, K12, Fq12_0, Fq12_1, Fq12_2, Fq12_3, P12_0⟩ := hQ12
  have N12 := Fr.app N0 N12q
  obtain ⟨h12, e12⟩ : ∃ z, T12.heap = z := ⟨_, rfl⟩
  rw [e12] at K12 Fq12_0 Fq12_1 Fq12_2 Fq12_3
  have z13 : h1.size ≤ h12.size := K12.1
  have lt12_0 : @LT.lt Nat _ b1 h12.size := Fq12_0.lt
  have lt12_3 : @LT.lt Nat _ b_12 h12.size := Fq12_3.lt
  have s14 : ∀ t_, Steps p.tables e below (T12.setTop (mkF m 8 #[.val (.ref sb_)] [(.ref b1)])) t_ → Steps p.tables e below (s₁.setTop (entryFrame m #[(.ref sb_)] 1)) t_ := fun t_ k_ => pre0 t_ (by
    show Steps p.tables e below (s₁.setTop (mkF m 0 #[.val (.ref sb_)] [])) t_
    refine st1 _ ?_
    show Steps p.tables e below (T1.setTop (mkF m 3 #[.val (.ref sb_)] [(.ref b1)])) _
    refine XS.dup X1.here hx rfl (Jvm.hb hby d_jdk_67_method_42_3) rfl rfl ?_
    refine XS.aloadN X1.here hx rfl (Jvm.hb hby d_jdk_67_method_42_4) rfl rfl ?_
    refine st12.trans ?_
    show Steps p.tables e below (T12.setTop (mkF m 8 #[.val (.ref sb_)] [(.ref b1)])) _
    show Steps p.tables e below (T12.setTop (mkF m 8 #[.val (.ref sb_)] [(.ref b1)])) t_
    exact k_)
  obtain ⟨fs, hr, hrun, hended, hW, hsame⟩ := X12.leave (v := some (.ref b1)) (fun h => by rw [Bd.returns] at h; cases h)
  refine ⟨_, _, s14 _ ?_, hrun, hended, _, _, rfl, ?_, ⟨_, rfl⟩, hW, hsame.mono (by decide) (by decide)⟩
  · show Steps p.tables e below (T12.setTop (mkF m 8 #[.val (.ref sb_)] [(.ref b1)])) _
    jvm_step X12.here [X12.here.top, hx, (Jvm.hb hby d_jdk_67_method_42_8), X12.method', Bd.returns, Value.isRef, FieldType.isReference]
    first | (intro acts; rw [hr _ acts rfl rfl rfl]) | rw [hr _ _ rfl rfl rfl]
    exact Steps.refl _
  · show Q_rmTS Z _ _ _ _ _ _ _ h0 n0 _ T12.heap _
    rw [e12]
    exact ⟨b1, b_12, kb_12, rfl, N12, (((Keep.refl h0 []).ext E1).trans K12 (allS (Or.inr (show h0.size ≤ b1 by omega)) all0)), Fq12_0, Fq12_1, Fq12_2, Fq12_3, by omega, by omega⟩
theorem pn_io_dyeline_store_Layout : plainName "io/dyeline/store/Layout" = true := by first | (simp [plainName, overriddenIn]; done) | decide +kernel
theorem d_prog_8_method_3_0 : decode prog_8_method_3_code 0 = .ok (.new 25, 3) := by decide +kernel
theorem d_prog_8_method_3_3 : decode prog_8_method_3_code 3 = .ok (.dup, 1) := by decide +kernel
theorem pd___V : parseMethodDescriptor "()V" = some ⟨[], none⟩ := by decide +kernel
theorem d_prog_8_method_3_4 : decode prog_8_method_3_code 4 = .ok (.invokespecial 27, 3) := by decide +kernel
theorem d_prog_8_method_3_7 : decode prog_8_method_3_code 7 = .ok (.aload_n 0, 1) := by decide +kernel
theorem d_prog_8_method_3_8 : decode prog_8_method_3_code 8 = .ok (.iconst 0, 1) := by decide +kernel
theorem d_prog_8_method_3_9 : decode prog_8_method_3_code 9 = .ok (.aload_n 0, 1) := by decide +kernel
theorem d_prog_8_method_3_10 : decode prog_8_method_3_code 10 = .ok (.invokevirtual 28, 3) := by decide +kernel
theorem d_prog_8_method_3_13 : decode prog_8_method_3_code 13 = .ok (.ldc 20, 2) := by decide +kernel
theorem d_prog_8_method_3_15 : decode prog_8_method_3_code 15 = .ok (.invokevirtual 28, 3) := by decide +kernel
theorem d_prog_8_method_3_18 : decode prog_8_method_3_code 18 = .ok (.isub, 1) := by decide +kernel
theorem pd__II_Ljava_lang_String_ : parseMethodDescriptor "(II)Ljava/lang/String;" = some ⟨[.int, .int], some (.object "java/lang/String")⟩ := by decide +kernel
theorem d_prog_8_method_3_19 : decode prog_8_method_3_code 19 = .ok (.invokevirtual 32, 3) := by decide +kernel
theorem pd__Ljava_lang_String__Ljava_lang_StringBuilder_ : parseMethodDescriptor "(Ljava/lang/String;)Ljava/lang/StringBuilder;" = some ⟨[(.object "java/lang/String")], some (.object "java/lang/StringBuilder")⟩ := by decide +kernel
theorem d_prog_8_method_3_22 : decode prog_8_method_3_code 22 = .ok (.invokevirtual 36, 3) := by decide +kernel
theorem d_prog_8_method_3_25 : decode prog_8_method_3_code 25 = .ok (.ldc 40, 2) := by decide +kernel
theorem d_prog_8_method_3_27 : decode prog_8_method_3_code 27 = .ok (.invokevirtual 36, 3) := by decide +kernel
theorem pd___Ljava_lang_String_ : parseMethodDescriptor "()Ljava/lang/String;" = some ⟨[], some (.object "java/lang/String")⟩ := by decide +kernel
theorem d_prog_8_method_3_30 : decode prog_8_method_3_code 30 = .ok (.invokevirtual 42, 3) := by decide +kernel
theorem d_prog_8_method_3_33 : decode prog_8_method_3_code 33 = .ok (.areturn, 1) := by decide +kernel
theorem ef_rmTag (m : MethodId) (x0 : Addr) : entryFrame m #[(.ref x0)] 1 = mkF m 0 #[.val (.ref x0)] [] := by first | (simp [entryFrame, mkF, argsToLocals, Value.category]; done) | rfl
def Q_rmTag (Z : State) (sx : Addr) (cst : Int32) (bs : Addr) (ks : ClassId) (cs : List Int32) (fmt : Value) (h0 : Heap) (n0 : Nat) (v : Option Value) (h : Heap) (L : List Loc) : Prop := ∃ (a : Addr), ∃ (b : Addr), ∃ (kb : ClassId), (v = some (.ref a)) ∧ (Fr n0 L) ∧ (Keep h0 h []) ∧ (Exa Z h a "java/lang/String") ∧ (Fld Z h a "java/lang/String" "value" "[B" (.ref b)) ∧ (Fld Z h a "java/lang/String" "coder" "B" (.int (own_cod (cs.take (cs.length - 5) ++ own_tx1)))) ∧ (Arv Z h b kb .byte (Int32.ofNat (own_enl (cs.take (cs.length - 5) ++ own_tx1))) (own_enc (cs.take (cs.length - 5) ++ own_tx1)) (.int (0 : Int32))) ∧ (h0.size ≤ a)
set_option maxRecDepth 65536 in
set_option maxHeartbeats 40000000 in
theorem rmTag (l : Launch) (Z : State) (a0 : Array Value) (hw : ∀ d ∈ tables_1, d.before a0 Z = true) (ws : List Jvm.Cond) (sx : Addr) (cst : Int32) (bs : Addr) (ks : ClassId) (cs : List Int32) (fmt : Value) (h0 : Heap) (n0 : Nat) (Z0 : n0 ≤ h0.size) (I1 : Sta Z Z.heap "java/lang/String" "COMPACT_STRINGS" "Z" (.int cst)) (hfmt : fmt.isRef = true) (I2 : Sta Z Z.heap "jdk/internal/util/Preconditions" "SIOOBE_FORMATTER" "Ljava/util/function/BiFunction;" fmt) (OX : Old Z n0 h0) (hcst : ¬ (cst = (0 : Int32))) (I3 : Exa Z h0 sx "java/lang/String") (I4 : Fld Z h0 sx "java/lang/String" "value" "[B" (.ref bs)) (I5 : Fld Z h0 sx "java/lang/String" "coder" "B" (.int (own_cod cs))) (I6 : Arv Z h0 bs ks .byte (Int32.ofNat (own_enl cs)) (own_enc cs) (.int (0 : Int32))) (hlat : own_lat cs) (hb10 : 10 ≤ cs.length) (hb15 : cs.length ≤ 15) :
    MetFree l (⟨"io/dyeline/store/Layout", "tagFile", "(Ljava/lang/String;)Ljava/lang/String;"⟩ : MethodName) (head1 (Jvm.Cond.code (⟨"io/dyeline/store/Layout", "tagFile", "(Ljava/lang/String;)Ljava/lang/String;"⟩ : MethodName) prog_8_method_3_code 1 (some (.object "java/lang/String")) :: ws) ({ frames := 6, cells := 10, slots := 108, locals := 113 } : Room)) (fun ar_ U => ar_ = #[(.ref sx)] ∧ Z.Warmed39 U.vm ∧ U.heap = h0 ∧ CHv Z ELs U.vm h0) (fun _ _ _ _ _ => True) (fun _ U oc_ U' => ∃ v L, oc_ = .returned v ∧ Q_rmTag Z sx cst bs ks cs fmt h0 n0 v U'.heap L ∧ CHr Z ELs U.vm U.heap U'.vm U'.heap ∧ ReturnedEndW U oc_ U' L ({ frames := 6, cells := 10, slots := 108, locals := 113 } : Room).cells ({ frames := 6, cells := 10, slots := 108, locals := 113 } : Room).slots) := by
  refine MetFree.of_bodySF (plainFor_of_name pn_io_dyeline_store_Layout) hisR ?_
  intro p e s m args below meth c s₁ Bd hml0 hP hK
  obtain ⟨rfl, hZ, hh, hCH⟩ := hP
  have hx := Bd.exec
  have hby := Bd.bytes
  have hml : c.maxLocals = 1 := hml0
  have hown : s.vm.findClass "io/dyeline/store/Layout" = some m.cls := findClass_of_methodNamed Bd.named
  have hnm := (name_of_methodNamed Bd.named Bd.method).1
  have X0 : Stand p l e ({ frames := 6, cells := 10, slots := 108, locals := 113 } : Room) (s.setVm s.vm) m #[(.ref sx)] below meth c s₁ [] 0 0 := Stand.of_body Bd
  have e0 : s₁.heap = h0 := by rw [← hh, Bd.state]; rfl
  have N0 := Fr.nil n0
  have pre0 : ∀ t_, Steps p.tables e below (s₁.setTop (mkF m 0 #[.val (.ref sx)] [])) t_ → Steps p.tables e below (s₁.setTop (entryFrame m #[(.ref sx)] 1)) t_ := fun t_ k_ => castTop (ef_rmTag m sx) k_
  have hEL : EW Z a0 ELs := own_EW hw
  have wS : ∀ a ∈ Bundle.stringAtoms, a.before a0 Z = true := own_wS hw
  have hS : s.Since s.vm s.heap.size := (State.WarmedH.refl s).since _
  have hk : s.heap.size ≤ h0.size := by rw [hh]; exact Nat.le_refl _
  have CR : CHr Z ELs s.vm h0 s.vm h0 := CHr.refl hCH
  have lt_I3 : @LT.lt Nat _ sx h0.size := I3.lt
  have lt_I4 : @LT.lt Nat _ sx h0.size := I4.lt
  have lt_I5 : @LT.lt Nat _ sx h0.size := I5.lt
  have lt_I6 : @LT.lt Nat _ bs h0.size := I6.lt
  obtain ⟨T1, h1, X1, e1, E1, A1, D1, -, st1⟩ := newO X0 hx hZ hown (hw _ (List.mem_of_getElem? (i := 45) rfl)) (hw _ (List.mem_of_getElem? (i := 46) rfl)) (hw _ (List.mem_of_getElem? (i := 47) rfl)) e0 (g := (mkF m 0 #[.val (.ref sx)] [])) rfl (Jvm.hb hby d_prog_8_method_3_0) (by decide) (by decide)
  obtain ⟨b1, g1⟩ : ∃ z, z = h0.size := ⟨_, rfl⟩
  rw [← g1] at A1 D1 st1
  have z2 : h0.size ≤ h1.size := E1.1
  have Cp2 : CHr Z ELs s.vm h0 s.vm h1 := CHr.ext E1 CR.1
  have hk := Nat.le_trans hk z2
  have CR := CR.trans Cp2
  have l1 : b1 < h1.size := A1.lt
  have F3 : Fld Z h1 b1 "java/lang/AbstractStringBuilder" "value" "[B" .null := D1 (Or.inl (hw _ (List.mem_of_getElem? (i := 60) rfl))) (ty := (.array .byte)) (by decide)
  have F4 : Fld Z h1 b1 "java/lang/AbstractStringBuilder" "coder" "B" (.int (0 : Int32)) := D1 (Or.inl (hw _ (List.mem_of_getElem? (i := 62) rfl))) (ty := .byte) (by decide)
  have F5 : Fld Z h1 b1 "java/lang/AbstractStringBuilder" "count" "I" (.int (0 : Int32)) := D1 (Or.inl (hw _ (List.mem_of_getElem? (i := 133) rfl))) (ty := .int) (by decide)
  have O6 : Old Z n0 h1 := (OX.ext E1)
  have Zc7 : n0 ≤ h1.size := by omega
  obtain ⟨_, _, ⟨T8, L8, k8, n8⟩, -, X8, ⟨Lc8, hQ8, l8, y8, z8⟩, st8⟩ := X1.specialBack hx (y := (⟨"java/lang/StringBuilder", "<init>", "()V"⟩ : MethodName)) rfl hown (mvT hZ (hw _ (List.mem_of_getElem? (i := 48) rfl))) (mvT hZ (hw _ (List.mem_of_getElem? (i := 49) rfl))) (mvT hZ (hw _ (List.mem_of_getElem? (i := 50) rfl))) (by decide) (backOf (W := 1) (rmSBi l Z a0 hw [] b1 cst h1 n0 Zc7 I1 O6 (hcst : ¬ (cst = (0 : Int32))) A1 F3 F4 F5 (by first | assumption | omega | rfl | decide : n0 ≤ b1)) hZ (hw _ (List.mem_of_getElem? (i := 50) rfl)) (hw _ (List.mem_of_getElem? (i := 47) rfl)) (by decide) (by decide)) (g := (mkF m 4 #[.val (.ref sx)] [(.ref b1), (.ref b1)])) rfl (by rw [hml]; rfl) (Steps.refl _) (a := b1) (argsL := []) (rest := [(.ref b1)]) (lenOf pd___V rfl) rfl (by show 2 * 0 + _ ≤ _; exact Nat.le_of_eq rfl) (Jvm.hb hby d_prog_8_method_3_4) (fun _ _ => ⟨rfl, e1, (by decide : 1 + 1 ≤ _), (by decide : 4 + 16 ≤ _)⟩)
  dsimp only [Pt.U, Pt.locs, Pt.cells, Pt.slots] at X8 l8 y8 z8 st8 hQ8
  subst l8 y8 z8
  obtain ⟨va_8, kc_8, rfl, N8q, K8, Fq8_0, Fq8_1, Fq8_2, Fq8_3, Fq8_4, P8_0⟩ := hQ8
  have N8 := Fr.app N0 N8q
  obtain ⟨h8, e8⟩ : ∃ z, T8.heap = z := ⟨_, rfl⟩
  rw [e8] at K8 Fq8_0 Fq8_1 Fq8_2 Fq8_3 Fq8_4
  have z9 : h1.size ≤ h8.size := K8.1
  have Sf10 : Safe Z ELs s.vm h8 va_8 := Safe.keep K8 (sfS (Safe.exa hZ.alike A1 (by decide) (by decide)) sf0) CR.1 (Safe.new (by omega))
  have Cp9 : CHr Z ELs s.vm h1 s.vm h8 := CHr.keep K8 (sfS (Safe.exa hZ.alike A1 (by decide) (by decide)) sf0) CR.1
  have hk := Nat.le_trans hk z9
  have CR := CR.trans Cp9
  have lt8_0 : @LT.lt Nat _ b1 h8.size := Fq8_0.lt
  have lt8_4 : @LT.lt Nat _ va_8 h8.size := Fq8_4.lt
  have O11 : Old Z n0 h8 := (O6.keep K8 (allS (show n0 ≤ b1 by omega) all0))
  have f12 : Exa Z h8 sx "java/lang/String" := ((I3.ext E1).keep K8)
  have f13 : Fld Z h8 sx "java/lang/String" "value" "[B" (.ref bs) := ((I4.ext E1).keep K8 (ninS (show @Ne Nat sx b1 by omega) nin0))
  have f14 : Fld Z h8 sx "java/lang/String" "coder" "B" (.int (own_cod cs)) := ((I5.ext E1).keep K8 (ninS (show @Ne Nat sx b1 by omega) nin0))
  have f15 : Arv Z h8 bs ks .byte (Int32.ofNat (own_enl cs)) (own_enc cs) (.int (0 : Int32)) := ((I6.ext E1).keep K8 (ninS (show @Ne Nat bs b1 by omega) nin0))
  have Zc16 : n0 ≤ h8.size := by omega
  obtain ⟨cq17, kq17, q17a, q17b, q17c⟩ := isOf hZ e8 f12
  obtain ⟨_, _, ⟨T17, L17, k17, n17⟩, -, X17, ⟨Lc17, hQ17, l17, y17, z17⟩, st17⟩ := X8.virtualBack hx (y := (⟨"java/lang/String", "length", "()I"⟩ : MethodName)) (z := (⟨"java/lang/String", "length", "()I"⟩ : MethodName)) hown (mvT hZ (hw _ (List.mem_of_getElem? (i := 63) rfl))) (mvT hZ (hw _ (List.mem_of_getElem? (i := 64) rfl))) (notFace_of_selects (args := #[]) (mvT hZ (hw _ (List.mem_of_getElem? (i := 66) rfl)))) (mvT hZ (hw _ (List.mem_of_getElem? (i := 66) rfl))) (mvT hZ (hw _ (List.mem_of_getElem? (i := 65) rfl))) (by decide) (backOf (W := 3) (rmLen l Z a0 hw [] sx cst bs ks cs h8 n0 Zc16 I1 O11 (hcst : ¬ (cst = (0 : Int32))) f12 f13 f14 f15 (by omega)) hZ (hw _ (List.mem_of_getElem? (i := 67) rfl)) (hw _ (List.mem_of_getElem? (i := 14) rfl)) (by decide) (by decide)) q17a q17c (g := (mkF m 10 #[.val (.ref sx)] [(.ref sx), (.int (0 : Int32)), (.ref sx), (.ref b1)])) rfl (by rw [hml]; rfl) (Steps.refl _) (argsL := []) (rest := [(.int (0 : Int32)), (.ref sx), (.ref b1)]) (lenOf pd___I rfl) rfl (by show 2 * 0 + _ ≤ _; exact Nat.le_of_eq rfl) (Jvm.hb hby d_prog_8_method_3_10) (fun _ _ => ⟨rfl, e8, (by decide : 2 + 0 ≤ _), (by decide : 20 + 0 ≤ _)⟩)
  dsimp only [Pt.U, Pt.locs, Pt.cells, Pt.slots] at X17 l17 y17 z17 st17 hQ17
  subst l17 y17 z17
  obtain ⟨rfl, N17q, e17⟩ := hQ17
  have N17 := Fr.app N8 N17q
  have s19 : ∀ t_, Steps p.tables e below (T17.setTop (mkF m 13 #[.val (.ref sx)] [(.int (Int32.ofNat cs.length)), (.int (0 : Int32)), (.ref sx), (.ref b1)])) t_ → Steps p.tables e below (s₁.setTop (entryFrame m #[(.ref sx)] 1)) t_ := fun t_ k_ => pre0 t_ (by
    show Steps p.tables e below (s₁.setTop (mkF m 0 #[.val (.ref sx)] [])) t_
    refine st1 _ ?_
    show Steps p.tables e below (T1.setTop (mkF m 3 #[.val (.ref sx)] [(.ref b1)])) _
    refine XS.dup X1.here hx rfl (Jvm.hb hby d_prog_8_method_3_3) rfl rfl ?_
    refine st8.trans ?_
    show Steps p.tables e below (T8.setTop (mkF m 7 #[.val (.ref sx)] [(.ref b1)])) _
    refine XS.aloadN X8.here hx rfl (Jvm.hb hby d_prog_8_method_3_7) rfl rfl ?_
    refine XS.iconst X8.here hx rfl (Jvm.hb hby d_prog_8_method_3_8) ?_
    refine XS.aloadN X8.here hx rfl (Jvm.hb hby d_prog_8_method_3_9) rfl rfl ?_
    refine st17.trans ?_
    show Steps p.tables e below (T17.setTop (mkF m 13 #[.val (.ref sx)] [(.int (Int32.ofNat cs.length)), (.int (0 : Int32)), (.ref sx), (.ref b1)])) _
    show Steps p.tables e below (T17.setTop (mkF m 13 #[.val (.ref sx)] [(.int (Int32.ofNat cs.length)), (.int (0 : Int32)), (.ref sx), (.ref b1)])) t_
    exact k_)
  obtain ⟨a18, T18, h18, k18, b18, kk18, X18, e18, E18, hS, hk, hZ, hown, Ex18, Fc18, Fv18, Av18, la18, lb18, Cp18, Li18, Sa18, st18⟩ := ldcCH X17 hx hZ hown (hw _ (List.mem_of_getElem? (i := 73) rfl)) wS e17 hS hk hEL (List.mem_of_getElem? (i := 0) rfl) CR.1 (vs := [(.int (46 : Int32)), (.int (106 : Int32)), (.int (115 : Int32)), (.int (111 : Int32)), (.int (110 : Int32))]) (z := (5 : Int32)) ⟨by decide, by decide⟩ (by decide) rfl (g := (mkF m 13 #[.val (.ref sx)] [(.int (Int32.ofNat cs.length)), (.int (0 : Int32)), (.ref sx), (.ref b1)])) rfl (Jvm.hb hby d_prog_8_method_3_13) (n := 20) (by decide) (by decide) (by decide) (by decide)
  have z20 : h8.size ≤ h18.size := E18.1
  have CR := CR.trans Cp18
  have la18 : @LT.lt Nat _ a18 h18.size := la18
  have lb18 : @LT.lt Nat _ b18 h18.size := lb18
  have Fc21 : Fld Z h18 a18 "java/lang/String" "coder" "B" (.int (own_cod own_tx0)) := Fc18
  have Av21 : Arv Z h18 b18 kk18 .byte (Int32.ofNat (own_enl own_tx0)) (own_enc own_tx0) (.int (0 : Int32)) := own_tx0_lit Av18
  have O22 : Old Z n0 h18 := (O11.ext E18)
  have Zc23 : n0 ≤ h18.size := by omega
  obtain ⟨cq24, kq24, q24a, q24b, q24c⟩ := isOf hZ e18 Ex18
  obtain ⟨_, _, ⟨T24, L24, k24, n24⟩, -, X24, ⟨Lc24, hQ24, l24, y24, z24⟩, st24⟩ := X18.virtualBack hx (y := (⟨"java/lang/String", "length", "()I"⟩ : MethodName)) (z := (⟨"java/lang/String", "length", "()I"⟩ : MethodName)) hown (mvT hZ (hw _ (List.mem_of_getElem? (i := 63) rfl))) (mvT hZ (hw _ (List.mem_of_getElem? (i := 64) rfl))) (notFace_of_selects (args := #[]) (mvT hZ (hw _ (List.mem_of_getElem? (i := 66) rfl)))) (mvT hZ (hw _ (List.mem_of_getElem? (i := 66) rfl))) (mvT hZ (hw _ (List.mem_of_getElem? (i := 65) rfl))) (by decide) (backOf (W := 4) (rmLen l Z a0 hw [] a18 cst b18 kk18 own_tx0 h18 n0 Zc23 I1 O22 (hcst : ¬ (cst = (0 : Int32))) Ex18 Fv18 Fc21 Av21 (by decide)) hZ (hw _ (List.mem_of_getElem? (i := 67) rfl)) (hw _ (List.mem_of_getElem? (i := 14) rfl)) (by decide) (by decide)) q24a q24c (g := (mkF m 15 #[.val (.ref sx)] [(.ref a18), (.int (Int32.ofNat cs.length)), (.int (0 : Int32)), (.ref sx), (.ref b1)])) rfl (by rw [hml]; rfl) (Steps.refl _) (argsL := []) (rest := [(.int (Int32.ofNat cs.length)), (.int (0 : Int32)), (.ref sx), (.ref b1)]) (lenOf pd___I rfl) rfl (by show 2 * 0 + _ ≤ _; exact Nat.le_of_eq rfl) (Jvm.hb hby d_prog_8_method_3_15) (fun _ _ => ⟨rfl, e18, (by decide : 4 + 0 ≤ _), (by decide : 44 + 0 ≤ _)⟩)
  dsimp only [Pt.U, Pt.locs, Pt.cells, Pt.slots] at X24 l24 y24 z24 st24 hQ24
  subst l24 y24 z24
  obtain ⟨rfl, N24q, e24⟩ := hQ24
  have N24 := Fr.app N17 N24q
  have f25 : Exa Z h18 sx "java/lang/String" := (f12.ext E18)
  have f26 : Fld Z h18 sx "java/lang/String" "value" "[B" (.ref bs) := (f13.ext E18)
  have f27 : Fld Z h18 sx "java/lang/String" "coder" "B" (.int (own_cod cs)) := (f14.ext E18)
  have f28 : Arv Z h18 bs ks .byte (Int32.ofNat (own_enl cs)) (own_enc cs) (.int (0 : Int32)) := (f15.ext E18)
  have Zc29 : n0 ≤ h18.size := by omega
  obtain ⟨cq30, kq30, q30a, q30b, q30c⟩ := isOf hZ e24 f25
  obtain ⟨_, _, ⟨T30, L30, k30, n30⟩, -, X30, ⟨Lc30, hQ30, l30, y30, z30⟩, st30⟩ := X24.virtualBack hx (y := (⟨"java/lang/String", "substring", "(II)Ljava/lang/String;"⟩ : MethodName)) (z := (⟨"java/lang/String", "substring", "(II)Ljava/lang/String;"⟩ : MethodName)) hown (mvT hZ (hw _ (List.mem_of_getElem? (i := 76) rfl))) (mvT hZ (hw _ (List.mem_of_getElem? (i := 77) rfl))) (notFace_of_selects (args := #[]) (mvT hZ (hw _ (List.mem_of_getElem? (i := 79) rfl)))) (mvT hZ (hw _ (List.mem_of_getElem? (i := 79) rfl))) (mvT hZ (hw _ (List.mem_of_getElem? (i := 78) rfl))) (by decide) (backOf (W := 1) (rmSub l Z a0 hw [] sx cst bs ks cs (cs.length - 5) fmt h18 n0 Zc29 I1 (hfmt : fmt.isRef = true) I2 O22 (hcst : ¬ (cst = (0 : Int32))) f25 f26 f27 f28 (hlat : own_lat cs) (hb15 : cs.length ≤ 15) (by omega) (by omega)) hZ (hw _ (List.mem_of_getElem? (i := 80) rfl)) (hw _ (List.mem_of_getElem? (i := 14) rfl)) (by decide) (by decide)) q30a q30c (g := (mkF m 19 #[.val (.ref sx)] [(.int (Int32.ofNat (cs.length - 5))), (.int (0 : Int32)), (.ref sx), (.ref b1)])) rfl (by rw [hml]; rfl) (Steps.refl _) (argsL := [(.int (0 : Int32)), (.int (Int32.ofNat (cs.length - 5)))]) (rest := [(.ref b1)]) (lenOf pd__II_Ljava_lang_String_ rfl) rfl (by show 2 * 0 + _ ≤ _; exact Nat.le_of_eq rfl) (Jvm.hb hby d_prog_8_method_3_19) (fun _ _ => ⟨rfl, e24, (by decide : 4 + 2 ≤ _), (by decide : 44 + 20 ≤ _)⟩)
  dsimp only [Pt.U, Pt.locs, Pt.cells, Pt.slots] at X30 l30 y30 z30 st30 hQ30
  subst l30 y30 z30
  obtain ⟨sa_30, sb_30, ks_30, rfl, N30q, K30, Fq30_0, Fq30_1, Fq30_2, Fq30_3, P30_0, P30_1⟩ := hQ30
  have N30 := Fr.app N24 N30q
  obtain ⟨h30, e30⟩ : ∃ z, T30.heap = z := ⟨_, rfl⟩
  rw [e30] at K30 Fq30_0 Fq30_1 Fq30_2 Fq30_3
  have z31 : h18.size ≤ h30.size := K30.1
  have Cp31 : CHr Z ELs T18.vm h18 T18.vm h30 := CHr.keep K30 sf0 CR.1
  have hk := Nat.le_trans hk z31
  have CR := CR.trans Cp31
  have lt30_0 : @LT.lt Nat _ sa_30 h30.size := Fq30_0.lt
  have lt30_3 : @LT.lt Nat _ sb_30 h30.size := Fq30_3.lt
  have O32 : Old Z n0 h30 := (O22.keep K30 all0)
  have f33 : Exa Z h30 b1 "java/lang/StringBuilder" := ((Fq8_0.ext E18).keep K30)
  have f34 : Fld Z h30 b1 "java/lang/AbstractStringBuilder" "value" "[B" (.ref va_8) := ((Fq8_1.ext E18).keep K30 nin0)
  have f35 : Fld Z h30 b1 "java/lang/AbstractStringBuilder" "coder" "B" (.int (0 : Int32)) := ((Fq8_2.ext E18).keep K30 nin0)
  have f36 : Fld Z h30 b1 "java/lang/AbstractStringBuilder" "count" "I" (.int (0 : Int32)) := ((Fq8_3.ext E18).keep K30 nin0)
  have f37 : Arv Z h30 va_8 kc_8 .byte (16 : Int32) ((List.replicate 16 (0 : Int32)).map Value.int) (.int (0 : Int32)) := ((Fq8_4.ext E18).keep K30 nin0)
  have Zc38 : n0 ≤ h30.size := by omega
  obtain ⟨cq39, kq39, q39a, q39b, q39c⟩ := isOf hZ e30 f33
  obtain ⟨_, _, ⟨T39, L39, k39, n39⟩, -, X39, ⟨Lc39, hQ39, l39, y39, z39⟩, st39⟩ := X30.virtualBack hx (y := (⟨"java/lang/StringBuilder", "append", "(Ljava/lang/String;)Ljava/lang/StringBuilder;"⟩ : MethodName)) (z := (⟨"java/lang/StringBuilder", "append", "(Ljava/lang/String;)Ljava/lang/StringBuilder;"⟩ : MethodName)) hown (mvT hZ (hw _ (List.mem_of_getElem? (i := 121) rfl))) (mvT hZ (hw _ (List.mem_of_getElem? (i := 122) rfl))) (notFace_of_selects (args := #[]) (mvT hZ (hw _ (List.mem_of_getElem? (i := 124) rfl)))) (mvT hZ (hw _ (List.mem_of_getElem? (i := 124) rfl))) (mvT hZ (hw _ (List.mem_of_getElem? (i := 123) rfl))) (by decide) (backOf (W := 0) (rmSApp l Z a0 hw [] b1 sa_30 cst sb_30 ks_30 (cs.take (cs.length - 5)) va_8 kc_8 (List.replicate 16 (0 : Int32)) 0 h30 n0 Zc38 I1 O32 (hcst : ¬ (cst = (0 : Int32))) f33 f34 f35 f36 f37 Fq30_0 Fq30_1 Fq30_2 Fq30_3 rfl (by first | assumption | omega | rfl | decide : n0 ≤ b1) (by first | assumption | omega | rfl | decide : n0 ≤ va_8) (by first | assumption | omega | rfl | decide : @Ne Nat sb_30 va_8) (by first | assumption | omega | rfl | decide : @Ne Nat b1 va_8) (by first | assumption | omega | rfl | decide : @Ne Nat sa_30 b1) (by first | assumption | omega | rfl | decide : @Ne Nat sb_30 b1) (own_lattake hlat) (by simp only [List.length_take]; omega)) hZ (hw _ (List.mem_of_getElem? (i := 125) rfl)) (hw _ (List.mem_of_getElem? (i := 47) rfl)) (by decide) (by decide)) q39a q39c (g := (mkF m 22 #[.val (.ref sx)] [(.ref sa_30), (.ref b1)])) rfl (by rw [hml]; rfl) (Steps.refl _) (argsL := [(.ref sa_30)]) (rest := []) (lenOf pd__Ljava_lang_String__Ljava_lang_StringBuilder_ rfl) rfl (by show 2 * 0 + _ ≤ _; exact Nat.le_of_eq rfl) (Jvm.hb hby d_prog_8_method_3_22) (fun _ _ => ⟨rfl, e30, (by decide : 6 + 0 ≤ _), (by decide : 64 + 0 ≤ _)⟩)
  dsimp only [Pt.U, Pt.locs, Pt.cells, Pt.slots] at X39 l39 y39 z39 st39 hQ39
  subst l39 y39 z39
  obtain ⟨rfl, N39q, K39, Fq39_0, Fq39_1, Fq39_2, Fq39_3, Fq39_4⟩ := hQ39
  have N39 := Fr.app N30 N39q
  obtain ⟨h39, e39⟩ : ∃ z, T39.heap = z := ⟨_, rfl⟩
  rw [e39] at K39 Fq39_0 Fq39_1 Fq39_2 Fq39_3 Fq39_4
  have Sf41 : Safe Z ELs T18.vm h30 va_8 := (Cp31.safe (show @LT.lt Nat _ va_8 h18.size by omega) (Cp18.safe (show @LT.lt Nat _ va_8 h8.size by omega) Sf10))
  have z40 : h30.size ≤ h39.size := K39.1
  have Cp40 : CHr Z ELs T18.vm h30 T18.vm h39 := CHr.keep K39 (sfS (Safe.exa hZ.alike f33 (by decide) (by decide)) (sfS Sf41 sf0)) CR.1
  have hk := Nat.le_trans hk z40
  have CR := CR.trans Cp40
  have lt39_0 : @LT.lt Nat _ b1 h39.size := Fq39_0.lt
  have lt39_4 : @LT.lt Nat _ va_8 h39.size := Fq39_4.lt
  have s43 : ∀ t_, Steps p.tables e below (T39.setTop (mkF m 25 #[.val (.ref sx)] [(.ref b1)])) t_ → Steps p.tables e below (s₁.setTop (entryFrame m #[(.ref sx)] 1)) t_ := fun t_ k_ => s19 t_ (by
    show Steps p.tables e below (T17.setTop (mkF m 13 #[.val (.ref sx)] [(.int (Int32.ofNat cs.length)), (.int (0 : Int32)), (.ref sx), (.ref b1)])) t_
    refine st18 _ ?_
    show Steps p.tables e below (T18.setTop (mkF m 15 #[.val (.ref sx)] [(.ref a18), (.int (Int32.ofNat cs.length)), (.int (0 : Int32)), (.ref sx), (.ref b1)])) _
    refine st24.trans ?_
    show Steps p.tables e below (T24.setTop (mkF m 18 #[.val (.ref sx)] [(.int (Int32.ofNat own_tx0.length)), (.int (Int32.ofNat cs.length)), (.int (0 : Int32)), (.ref sx), (.ref b1)])) _
    refine XS.isub X24.here hx rfl (Jvm.hb hby d_prog_8_method_3_18) rfl ?_
    show Steps p.tables e below (T24.setTop (mkF m 19 #[.val (.ref sx)] [(.int ((Int32.ofNat cs.length) - (Int32.ofNat own_tx0.length))), (.int (0 : Int32)), (.ref sx), (.ref b1)])) _
    refine castTop (g' := (mkF m 19 #[.val (.ref sx)] [(.int (Int32.ofNat (cs.length - 5))), (.int (0 : Int32)), (.ref sx), (.ref b1)])) (by rw [show (Int32.ofNat cs.length) - (Int32.ofNat own_tx0.length) = Int32.ofNat (cs.length - 5) from own_subn (k := 5) (by omega)]) ?_
    show Steps p.tables e below (T24.setTop (mkF m 19 #[.val (.ref sx)] [(.int (Int32.ofNat (cs.length - 5))), (.int (0 : Int32)), (.ref sx), (.ref b1)])) _
    refine st30.trans ?_
    show Steps p.tables e below (T30.setTop (mkF m 22 #[.val (.ref sx)] [(.ref sa_30), (.ref b1)])) _
    refine st39.trans ?_
    show Steps p.tables e below (T39.setTop (mkF m 25 #[.val (.ref sx)] [(.ref b1)])) _
    show Steps p.tables e below (T39.setTop (mkF m 25 #[.val (.ref sx)] [(.ref b1)])) t_
    exact k_)
  obtain ⟨a42, T42, h42, k42, b42, kk42, X42, e42, E42, hS, hk, hZ, hown, Ex42, Fc42, Fv42, Av42, la42, lb42, Cp42, Li42, Sa42, st42⟩ := ldcCH X39 hx hZ hown (hw _ (List.mem_of_getElem? (i := 156) rfl)) wS e39 hS hk hEL (List.mem_of_getElem? (i := 1) rfl) CR.1 (vs := [(.int (46 : Int32)), (.int (116 : Int32)), (.int (97 : Int32)), (.int (103 : Int32)), (.int (115 : Int32))]) (z := (5 : Int32)) ⟨by decide, by decide⟩ (by decide) rfl (g := (mkF m 25 #[.val (.ref sx)] [(.ref b1)])) rfl (Jvm.hb hby d_prog_8_method_3_25) (n := 20) (by decide) (by decide) (by decide) (by decide)
  have z44 : h39.size ≤ h42.size := E42.1
  have CR := CR.trans Cp42
  have la42 : @LT.lt Nat _ a42 h42.size := la42
  have lb42 : @LT.lt Nat _ b42 h42.size := lb42
  have Fc45 : Fld Z h42 a42 "java/lang/String" "coder" "B" (.int (own_cod own_tx1)) := Fc42
  have Av45 : Arv Z h42 b42 kk42 .byte (Int32.ofNat (own_enl own_tx1)) (own_enc own_tx1) (.int (0 : Int32)) := own_tx1_lit Av42
  have Sf46 : Safe Z ELs T42.vm h42 va_8 := (Cp42.safe (show @LT.lt Nat _ va_8 h39.size by omega) (Cp40.safe (show @LT.lt Nat _ va_8 h30.size by omega) Sf41))
  have f47 : Exa Z h42 b1 "java/lang/StringBuilder" := (Fq39_0.ext E42)
  have O48 : Old Z n0 h42 := ((O32.keep K39 (allS (show n0 ≤ b1 by omega) (allS (show n0 ≤ va_8 by omega) all0))).ext E42)
  have f49 : Fld Z h42 b1 "java/lang/AbstractStringBuilder" "value" "[B" (.ref va_8) := (Fq39_1.ext E42)
  have f50 : Fld Z h42 b1 "java/lang/AbstractStringBuilder" "coder" "B" (.int (0 : Int32)) := (Fq39_2.ext E42)
  have f51 : Fld Z h42 b1 "java/lang/AbstractStringBuilder" "count" "I" (.int (Int32.ofNat (0 + (cs.take (cs.length - 5)).length))) := (Fq39_3.ext E42)
  have f52 : Arv Z h42 va_8 kc_8 .byte (16 : Int32) (((List.replicate 16 (0 : Int32)).take 0 ++ (cs.take (cs.length - 5)).map own_lo ++ (List.replicate 16 (0 : Int32)).drop (0 + (cs.take (cs.length - 5)).length)).map Value.int) (.int (0 : Int32)) := (Fq39_4.ext E42)
  have Zc53 : n0 ≤ h42.size := by omega
  obtain ⟨cq54, kq54, q54a, q54b, q54c⟩ := isOf hZ e42 f47
  obtain ⟨_, _, ⟨T54, L54, k54, n54⟩, -, X54, ⟨Lc54, hQ54, l54, y54, z54⟩, st54⟩ := X42.virtualBack hx (y := (⟨"java/lang/StringBuilder", "append", "(Ljava/lang/String;)Ljava/lang/StringBuilder;"⟩ : MethodName)) (z := (⟨"java/lang/StringBuilder", "append", "(Ljava/lang/String;)Ljava/lang/StringBuilder;"⟩ : MethodName)) hown (mvT hZ (hw _ (List.mem_of_getElem? (i := 121) rfl))) (mvT hZ (hw _ (List.mem_of_getElem? (i := 122) rfl))) (notFace_of_selects (args := #[]) (mvT hZ (hw _ (List.mem_of_getElem? (i := 124) rfl)))) (mvT hZ (hw _ (List.mem_of_getElem? (i := 124) rfl))) (mvT hZ (hw _ (List.mem_of_getElem? (i := 123) rfl))) (by decide) (backOf (W := 0) (rmSApp l Z a0 hw [] b1 a42 cst b42 kk42 own_tx1 va_8 kc_8 ((List.replicate 16 (0 : Int32)).take 0 ++ (cs.take (cs.length - 5)).map own_lo ++ (List.replicate 16 (0 : Int32)).drop (0 + (cs.take (cs.length - 5)).length)) (0 + (cs.take (cs.length - 5)).length) h42 n0 Zc53 I1 O48 (hcst : ¬ (cst = (0 : Int32))) f47 f49 f50 f51 f52 Ex42 Fv42 Fc45 Av45 (by simp only [List.length_append, List.length_take, List.length_drop, List.length_map, List.length_replicate]; omega) (by first | assumption | omega | rfl | decide : n0 ≤ b1) (by first | assumption | omega | rfl | decide : n0 ≤ va_8) (fun e => (Sa42 _ Sf46).2 e.symm) (by first | assumption | omega | rfl | decide : @Ne Nat b1 va_8) (fun e => (Sa42 _ (Safe.exa hZ.alike f47 (by decide) (by decide))).1 e.symm) (fun e => (Sa42 _ (Safe.exa hZ.alike f47 (by decide) (by decide))).2 e.symm) own_tx1_lat (by simp only [List.length_take]; show _ + 5 ≤ 16; omega)) hZ (hw _ (List.mem_of_getElem? (i := 125) rfl)) (hw _ (List.mem_of_getElem? (i := 47) rfl)) (by decide) (by decide)) q54a q54c (g := (mkF m 27 #[.val (.ref sx)] [(.ref a42), (.ref b1)])) rfl (by rw [hml]; rfl) (Steps.refl _) (argsL := [(.ref a42)]) (rest := []) (lenOf pd__Ljava_lang_String__Ljava_lang_StringBuilder_ rfl) rfl (by show 2 * 0 + _ ≤ _; exact Nat.le_of_eq rfl) (Jvm.hb hby d_prog_8_method_3_27) (fun _ _ => ⟨rfl, e42, (by decide : 8 + 0 ≤ _), (by decide : 88 + 0 ≤ _)⟩)
  dsimp only [Pt.U, Pt.locs, Pt.cells, Pt.slots] at X54 l54 y54 z54 st54 hQ54
  subst l54 y54 z54
  obtain ⟨rfl, N54q, K54, Fq54_0, Fq54_1, Fq54_2, Fq54_3, Fq54_4⟩ := hQ54
  have N54 := Fr.app N39 N54q
  obtain ⟨h54, e54⟩ : ∃ z, T54.heap = z := ⟨_, rfl⟩
  rw [e54] at K54 Fq54_0 Fq54_1 Fq54_2 Fq54_3 Fq54_4
  have z55 : h42.size ≤ h54.size := K54.1
  have Cp55 : CHr Z ELs T42.vm h42 T42.vm h54 := CHr.keep K54 (sfS (Safe.exa hZ.alike f47 (by decide) (by decide)) (sfS Sf46 sf0)) CR.1
  have hk := Nat.le_trans hk z55
  have CR := CR.trans Cp55
  have lt54_0 : @LT.lt Nat _ b1 h54.size := Fq54_0.lt
  have lt54_4 : @LT.lt Nat _ va_8 h54.size := Fq54_4.lt
  have O56 : Old Z n0 h54 := (O48.keep K54 (allS (show n0 ≤ b1 by omega) (allS (show n0 ≤ va_8 by omega) all0)))
  have Zc57 : n0 ≤ h54.size := by omega
  obtain ⟨cq58, kq58, q58a, q58b, q58c⟩ := isOf hZ e54 Fq54_0
  obtain ⟨_, _, ⟨T58, L58, k58, n58⟩, -, X58, ⟨Lc58, hQ58, l58, y58, z58⟩, st58⟩ := X54.virtualBack hx (y := (⟨"java/lang/StringBuilder", "toString", "()Ljava/lang/String;"⟩ : MethodName)) (z := (⟨"java/lang/StringBuilder", "toString", "()Ljava/lang/String;"⟩ : MethodName)) hown (mvT hZ (hw _ (List.mem_of_getElem? (i := 157) rfl))) (mvT hZ (hw _ (List.mem_of_getElem? (i := 158) rfl))) (notFace_of_selects (args := #[]) (mvT hZ (hw _ (List.mem_of_getElem? (i := 160) rfl)))) (mvT hZ (hw _ (List.mem_of_getElem? (i := 160) rfl))) (mvT hZ (hw _ (List.mem_of_getElem? (i := 159) rfl))) (by decide) (backOf (W := 0) (rmTS l Z a0 hw [] b1 cst va_8 kc_8 (((List.replicate 16 (0 : Int32)).take 0 ++ (cs.take (cs.length - 5)).map own_lo ++ (List.replicate 16 (0 : Int32)).drop (0 + (cs.take (cs.length - 5)).length)).take (0 + (cs.take (cs.length - 5)).length) ++ own_tx1.map own_lo ++ ((List.replicate 16 (0 : Int32)).take 0 ++ (cs.take (cs.length - 5)).map own_lo ++ (List.replicate 16 (0 : Int32)).drop (0 + (cs.take (cs.length - 5)).length)).drop ((0 + (cs.take (cs.length - 5)).length) + own_tx1.length)) ((0 + (cs.take (cs.length - 5)).length) + own_tx1.length) (cs.take (cs.length - 5) ++ own_tx1) h54 n0 Zc57 I1 O56 (hcst : ¬ (cst = (0 : Int32))) Fq54_0 Fq54_1 Fq54_2 Fq54_3 Fq54_4 (by have e5 : own_tx1.length = 5 := rfl; simp only [List.length_append, List.length_take, List.length_drop, List.length_map, List.length_replicate]; omega) (by simp only [List.length_take]; show _ + 5 < 16; omega) (own_tagts (cs.take (cs.length - 5))) (own_latapp (own_lattake hlat) own_tx1_lat) (by rw [List.length_append, Nat.zero_add])) hZ (hw _ (List.mem_of_getElem? (i := 161) rfl)) (hw _ (List.mem_of_getElem? (i := 47) rfl)) (by decide) (by decide)) q58a q58c (g := (mkF m 30 #[.val (.ref sx)] [(.ref b1)])) rfl (by rw [hml]; rfl) (Steps.refl _) (argsL := []) (rest := []) (lenOf pd___Ljava_lang_String_ rfl) rfl (by show 2 * 0 + _ ≤ _; exact Nat.le_of_eq rfl) (Jvm.hb hby d_prog_8_method_3_30) (fun _ _ => ⟨rfl, e54, (by decide : 8 + 2 ≤ _), (by decide : 88 + 20 ≤ _)⟩)
  dsimp only [Pt.U, Pt.locs, Pt.cells, Pt.slots] at X58 l58 y58 z58 st58 hQ58
  subst l58 y58 z58
  obtain ⟨a_58, b_58, kb_58, rfl, N58q, K58, Fq58_0, Fq58_1, Fq58_2, Fq58_3, P58_0, P58_1⟩ := hQ58
  have N58 := Fr.app N54 N58q
  obtain ⟨h58, e58⟩ : ∃ z, T58.heap = z := ⟨_, rfl⟩
  rw [e58] at K58 Fq58_0 Fq58_1 Fq58_2 Fq58_3
  have z59 : h54.size ≤ h58.size := K58.1
  have Cp59 : CHr Z ELs T42.vm h54 T42.vm h58 := CHr.keep K58 sf0 CR.1
  have hk := Nat.le_trans hk z59
  have CR := CR.trans Cp59
  have lt58_0 : @LT.lt Nat _ a_58 h58.size := Fq58_0.lt
  have lt58_3 : @LT.lt Nat _ b_58 h58.size := Fq58_3.lt
  have s60 : ∀ t_, Steps p.tables e below (T58.setTop (mkF m 33 #[.val (.ref sx)] [(.ref a_58)])) t_ → Steps p.tables e below (s₁.setTop (entryFrame m #[(.ref sx)] 1)) t_ := fun t_ k_ => s43 t_ (by
    show Steps p.tables e below (T39.setTop (mkF m 25 #[.val (.ref sx)] [(.ref b1)])) t_
    refine st42 _ ?_
    show Steps p.tables e below (T42.setTop (mkF m 27 #[.val (.ref sx)] [(.ref a42), (.ref b1)])) _
    refine st54.trans ?_
    show Steps p.tables e below (T54.setTop (mkF m 30 #[.val (.ref sx)] [(.ref b1)])) _
    refine st58.trans ?_
    show Steps p.tables e below (T58.setTop (mkF m 33 #[.val (.ref sx)] [(.ref a_58)])) _
    show Steps p.tables e below (T58.setTop (mkF m 33 #[.val (.ref sx)] [(.ref a_58)])) t_
    exact k_)
  obtain ⟨fs, hr, hrun, hended, hREW⟩ := X58.leaveW hS (by first | exact Nat.le_refl _ | (rw [e58]; exact hk)) (v := some (.ref a_58)) (fun h => by rw [Bd.returns] at h; cases h)
  refine ⟨_, _, s60 _ ?_, hrun, hended, _, _, rfl, ?_, (by show CHr Z ELs s.vm s.heap T58.vm T58.heap; rw [hh, e58]; exact CR.trans (CHv.at X58 hZ hEL CR.1)), hREW.1, hREW.2.1, hREW.2.2.1, hREW.2.2.2.mono (by decide) (by decide)⟩
  · show Steps p.tables e below (T58.setTop (mkF m 33 #[.val (.ref sx)] [(.ref a_58)])) _
    jvm_step X58.here [X58.here.top, hx, (Jvm.hb hby d_prog_8_method_3_33), X58.method', Bd.returns, Value.isRef, FieldType.isReference]
    first | (intro acts; rw [hr _ acts rfl rfl rfl]) | rw [hr _ _ rfl rfl rfl]
    exact Steps.refl _
  · show Q_rmTag Z _ _ _ _ _ _ h0 n0 _ T58.heap _
    rw [e58]
    exact ⟨a_58, b_58, kb_58, rfl, N58, (((((((((Keep.refl h0 []).ext E1).trans K8 (allS (Or.inr (show h0.size ≤ b1 by omega)) all0)).ext E18).trans K30 all0).trans K39 (allS (Or.inr (show h0.size ≤ b1 by omega)) (allS (Or.inr (show h0.size ≤ va_8 by omega)) all0))).ext E42).trans K54 (allS (Or.inr (show h0.size ≤ b1 by omega)) (allS (Or.inr (show h0.size ≤ va_8 by omega)) all0))).trans K58 all0), Fq58_0, Fq58_1, Fq58_2, Fq58_3, by omega⟩
theorem pn_io_dyeline_store_LayoutTagFilePinLaw : plainName "io/dyeline/store/LayoutTagFilePinLaw" = true := by first | (simp [plainName, overriddenIn]; done) | decide +kernel
theorem d_method_2_0 : decode method_2_code 0 = .ok (.aload_n 0, 1) := by decide +kernel
theorem d_method_2_1 : decode method_2_code 1 = .ok (.iconst 0, 1) := by decide +kernel
theorem d_method_2_2 : decode method_2_code 2 = .ok (.bipush 112, 2) := by decide +kernel
theorem d_method_2_4 : decode method_2_code 4 = .ok (.castore, 1) := by decide +kernel
theorem d_method_2_5 : decode method_2_code 5 = .ok (.aload_n 0, 1) := by decide +kernel
theorem d_method_2_6 : decode method_2_code 6 = .ok (.iconst 1, 1) := by decide +kernel
theorem d_method_2_7 : decode method_2_code 7 = .ok (.bipush 97, 2) := by decide +kernel
theorem d_method_2_9 : decode method_2_code 9 = .ok (.castore, 1) := by decide +kernel
theorem d_method_2_10 : decode method_2_code 10 = .ok (.aload_n 0, 1) := by decide +kernel
theorem d_method_2_11 : decode method_2_code 11 = .ok (.iconst 2, 1) := by decide +kernel
theorem d_method_2_12 : decode method_2_code 12 = .ok (.bipush 114, 2) := by decide +kernel
theorem d_method_2_14 : decode method_2_code 14 = .ok (.castore, 1) := by decide +kernel
theorem d_method_2_15 : decode method_2_code 15 = .ok (.aload_n 0, 1) := by decide +kernel
theorem d_method_2_16 : decode method_2_code 16 = .ok (.iconst 3, 1) := by decide +kernel
theorem d_method_2_17 : decode method_2_code 17 = .ok (.bipush 116, 2) := by decide +kernel
theorem d_method_2_19 : decode method_2_code 19 = .ok (.castore, 1) := by decide +kernel
theorem d_method_2_20 : decode method_2_code 20 = .ok (.aload_n 0, 1) := by decide +kernel
theorem d_method_2_21 : decode method_2_code 21 = .ok (.iconst 4, 1) := by decide +kernel
theorem d_method_2_22 : decode method_2_code 22 = .ok (.bipush 45, 2) := by decide +kernel
theorem d_method_2_24 : decode method_2_code 24 = .ok (.castore, 1) := by decide +kernel
theorem d_method_2_25 : decode method_2_code 25 = .ok (.return_, 1) := by decide +kernel
theorem ef_rmPre (m : MethodId) (x0 : Addr) : entryFrame m #[(.ref x0)] 1 = mkF m 0 #[.val (.ref x0)] [] := by first | (simp [entryFrame, mkF, argsToLocals, Value.category]; done) | rfl
def Q_rmPre (Z : State) (ca : Addr) (kc : ClassId) (cs : List Int32) (h0 : Heap) (n0 : Nat) (v : Option Value) (h : Heap) (L : List Loc) : Prop := (v = none) ∧ (Fr n0 L) ∧ (Keep h0 h [ca]) ∧ (Arv Z h ca kc .char (Int32.ofNat cs.length) ((List.set (List.set (List.set (List.set (List.set cs (0) (112 : Int32)) (1) (97 : Int32)) (2) (114 : Int32)) (3) (116 : Int32)) (4) (45 : Int32)).map Value.int) (.int (0 : Int32)))
set_option maxRecDepth 65536 in
set_option maxHeartbeats 40000000 in
theorem rmPre (l : Launch) (Z : State) (a0 : Array Value) (hw : ∀ d ∈ tables_1, d.before a0 Z = true) (ws : List Jvm.Cond) (ca : Addr) (kc : ClassId) (cs : List Int32) (h0 : Heap) (n0 : Nat) (Z0 : n0 ≤ h0.size) (I1 : Arv Z h0 ca kc .char (Int32.ofNat cs.length) (cs.map Value.int) (.int (0 : Int32))) (gc : n0 ≤ ca) (hl10 : 10 ≤ cs.length) (hl15 : cs.length ≤ 15) :
    MetFree l (⟨"io/dyeline/store/LayoutTagFilePinLaw", "putPrefix", "([C)V"⟩ : MethodName) (head1 (Jvm.Cond.code (⟨"io/dyeline/store/LayoutTagFilePinLaw", "putPrefix", "([C)V"⟩ : MethodName) method_2_code 1 none :: ws) ({ frames := 0, cells := 0, slots := 0, locals := 0 } : Room)) (fun ar_ U => ar_ = #[(.ref ca)] ∧ Z.Warmed39 U.vm ∧ U.heap = h0) (fun _ _ _ _ _ => True) (fun _ U oc_ U' => ∃ v L, oc_ = .returned v ∧ Q_rmPre Z ca kc cs h0 n0 v U'.heap L ∧ FrameEnd U oc_ U' L ({ frames := 0, cells := 0, slots := 0, locals := 0 } : Room).cells ({ frames := 0, cells := 0, slots := 0, locals := 0 } : Room).slots) := by
  refine MetFree.of_bodySF (plainFor_of_name pn_io_dyeline_store_LayoutTagFilePinLaw) hisR ?_
  intro p e s m args below meth c s₁ Bd hml0 hP hK
  obtain ⟨rfl, hZ, hh⟩ := hP
  have hx := Bd.exec
  have hby := Bd.bytes
  have hml : c.maxLocals = 1 := hml0
  have hown : s.vm.findClass "io/dyeline/store/LayoutTagFilePinLaw" = some m.cls := findClass_of_methodNamed Bd.named
  have hnm := (name_of_methodNamed Bd.named Bd.method).1
  have X0 : Stand p l e ({ frames := 0, cells := 0, slots := 0, locals := 0 } : Room) s m #[(.ref ca)] below meth c s₁ [] 0 0 := Stand.of_body Bd
  have e0 : s₁.heap = h0 := by rw [← hh, Bd.state]; rfl
  have N0 := Fr.nil n0
  have pre0 : ∀ t_, Steps p.tables e below (s₁.setTop (mkF m 0 #[.val (.ref ca)] [])) t_ → Steps p.tables e below (s₁.setTop (entryFrame m #[(.ref ca)] 1)) t_ := fun t_ k_ => castTop (ef_rmPre m ca) k_
  have lt_I1 : @LT.lt Nat _ ca h0.size := I1.lt
  obtain ⟨cl1, Ar1, q1, S1, M1, H1, G1⟩ := id I1
  have hin1 : ¬ ((0 : Int32) < 0 ∨ cl1.slots.size ≤ ((0 : Int32)).toNatClampNeg) := inb_of S1 (own_in (i := 0) (by omega) (by omega))
  obtain ⟨T2, h2, X2, e2, W2, st2⟩ := stC X0 hx hZ e0 Ar1 (j := (0 : Int32)) hin1 (g := (mkF m 4 #[.val (.ref ca)] [(.int (112 : Int32)), (.int (0 : Int32)), (.ref ca)])) rfl rfl (Jvm.hb hby d_method_2_4)
  have z3 : h0.size ≤ h2.size := Nat.le_of_eq W2.size.symm
  have V2 : Arv Z h2 ca kc .char (Int32.ofNat cs.length) ((List.set cs (0) (112 : Int32)).map Value.int) (.int (0 : Int32)) := by
    have q : Arv Z h2 ca kc .char (Int32.ofNat cs.length) (List.set (List.map Value.int cs) (0) (.int (nar .char (112 : Int32)))) (.int (0 : Int32)) := Arv.set Ar1 q1 S1 M1 H1 G1 (fits_nar_char _) W2 (0) (rfl) (by simp only [List.length_map, List.length_set]; omega)
    rw [show nar .char (112 : Int32) = (112 : Int32) from rfl] at q
    rw [List.map_set]
    exact q
  have N2 := Fr.snoc X2 N0 (show n0 ≤ ca by omega)
  obtain ⟨cl4, Ar4, q4, S4, M4, H4, G4⟩ := id V2
  have hin4 : ¬ ((1 : Int32) < 0 ∨ cl4.slots.size ≤ ((1 : Int32)).toNatClampNeg) := inb_of S4 (own_in (i := 1) (by omega) (by omega))
  obtain ⟨T5, h5, X5, e5, W5, st5⟩ := stC X2 hx hZ e2 Ar4 (j := (1 : Int32)) hin4 (g := (mkF m 9 #[.val (.ref ca)] [(.int (97 : Int32)), (.int (1 : Int32)), (.ref ca)])) rfl rfl (Jvm.hb hby d_method_2_9)
  have z6 : h2.size ≤ h5.size := Nat.le_of_eq W5.size.symm
  have V5 : Arv Z h5 ca kc .char (Int32.ofNat cs.length) ((List.set (List.set cs (0) (112 : Int32)) (1) (97 : Int32)).map Value.int) (.int (0 : Int32)) := by
    have q : Arv Z h5 ca kc .char (Int32.ofNat cs.length) (List.set (List.map Value.int (List.set cs (0) (112 : Int32))) (1) (.int (nar .char (97 : Int32)))) (.int (0 : Int32)) := Arv.set Ar4 q4 S4 M4 H4 G4 (fits_nar_char _) W5 (1) (rfl) (by simp only [List.length_map, List.length_set]; omega)
    rw [show nar .char (97 : Int32) = (97 : Int32) from rfl] at q
    rw [List.map_set]
    exact q
  have N5 := Fr.snoc X5 N2 (show n0 ≤ ca by omega)
  obtain ⟨cl7, Ar7, q7, S7, M7, H7, G7⟩ := id V5
  have hin7 : ¬ ((2 : Int32) < 0 ∨ cl7.slots.size ≤ ((2 : Int32)).toNatClampNeg) := inb_of S7 (own_in (i := 2) (by omega) (by omega))
  obtain ⟨T8, h8, X8, e8, W8, st8⟩ := stC X5 hx hZ e5 Ar7 (j := (2 : Int32)) hin7 (g := (mkF m 14 #[.val (.ref ca)] [(.int (114 : Int32)), (.int (2 : Int32)), (.ref ca)])) rfl rfl (Jvm.hb hby d_method_2_14)
  have z9 : h5.size ≤ h8.size := Nat.le_of_eq W8.size.symm
  have V8 : Arv Z h8 ca kc .char (Int32.ofNat cs.length) ((List.set (List.set (List.set cs (0) (112 : Int32)) (1) (97 : Int32)) (2) (114 : Int32)).map Value.int) (.int (0 : Int32)) := by
    have q : Arv Z h8 ca kc .char (Int32.ofNat cs.length) (List.set (List.map Value.int (List.set (List.set cs (0) (112 : Int32)) (1) (97 : Int32))) (2) (.int (nar .char (114 : Int32)))) (.int (0 : Int32)) := Arv.set Ar7 q7 S7 M7 H7 G7 (fits_nar_char _) W8 (2) (rfl) (by simp only [List.length_map, List.length_set]; omega)
    rw [show nar .char (114 : Int32) = (114 : Int32) from rfl] at q
    rw [List.map_set]
    exact q
  have N8 := Fr.snoc X8 N5 (show n0 ≤ ca by omega)
  obtain ⟨cl10, Ar10, q10, S10, M10, H10, G10⟩ := id V8
  have hin10 : ¬ ((3 : Int32) < 0 ∨ cl10.slots.size ≤ ((3 : Int32)).toNatClampNeg) := inb_of S10 (own_in (i := 3) (by omega) (by omega))
  obtain ⟨T11, h11, X11, e11, W11, st11⟩ := stC X8 hx hZ e8 Ar10 (j := (3 : Int32)) hin10 (g := (mkF m 19 #[.val (.ref ca)] [(.int (116 : Int32)), (.int (3 : Int32)), (.ref ca)])) rfl rfl (Jvm.hb hby d_method_2_19)
  have z12 : h8.size ≤ h11.size := Nat.le_of_eq W11.size.symm
  have V11 : Arv Z h11 ca kc .char (Int32.ofNat cs.length) ((List.set (List.set (List.set (List.set cs (0) (112 : Int32)) (1) (97 : Int32)) (2) (114 : Int32)) (3) (116 : Int32)).map Value.int) (.int (0 : Int32)) := by
    have q : Arv Z h11 ca kc .char (Int32.ofNat cs.length) (List.set (List.map Value.int (List.set (List.set (List.set cs (0) (112 : Int32)) (1) (97 : Int32)) (2) (114 : Int32))) (3) (.int (nar .char (116 : Int32)))) (.int (0 : Int32)) := Arv.set Ar10 q10 S10 M10 H10 G10 (fits_nar_char _) W11 (3) (rfl) (by simp only [List.length_map, List.length_set]; omega)
    rw [show nar .char (116 : Int32) = (116 : Int32) from rfl] at q
    rw [List.map_set]
    exact q
  have N11 := Fr.snoc X11 N8 (show n0 ≤ ca by omega)
  obtain ⟨cl13, Ar13, q13, S13, M13, H13, G13⟩ := id V11
  have hin13 : ¬ ((4 : Int32) < 0 ∨ cl13.slots.size ≤ ((4 : Int32)).toNatClampNeg) := inb_of S13 (own_in (i := 4) (by omega) (by omega))
  obtain ⟨T14, h14, X14, e14, W14, st14⟩ := stC X11 hx hZ e11 Ar13 (j := (4 : Int32)) hin13 (g := (mkF m 24 #[.val (.ref ca)] [(.int (45 : Int32)), (.int (4 : Int32)), (.ref ca)])) rfl rfl (Jvm.hb hby d_method_2_24)
  have z15 : h11.size ≤ h14.size := Nat.le_of_eq W14.size.symm
  have V14 : Arv Z h14 ca kc .char (Int32.ofNat cs.length) ((List.set (List.set (List.set (List.set (List.set cs (0) (112 : Int32)) (1) (97 : Int32)) (2) (114 : Int32)) (3) (116 : Int32)) (4) (45 : Int32)).map Value.int) (.int (0 : Int32)) := by
    have q : Arv Z h14 ca kc .char (Int32.ofNat cs.length) (List.set (List.map Value.int (List.set (List.set (List.set (List.set cs (0) (112 : Int32)) (1) (97 : Int32)) (2) (114 : Int32)) (3) (116 : Int32))) (4) (.int (nar .char (45 : Int32)))) (.int (0 : Int32)) := Arv.set Ar13 q13 S13 M13 H13 G13 (fits_nar_char _) W14 (4) (rfl) (by simp only [List.length_map, List.length_set]; omega)
    rw [show nar .char (45 : Int32) = (45 : Int32) from rfl] at q
    rw [List.map_set]
    exact q
  have N14 := Fr.snoc X14 N11 (show n0 ≤ ca by omega)
  have s16 : ∀ t_, Steps p.tables e below (T14.setTop (mkF m 25 #[.val (.ref ca)] [])) t_ → Steps p.tables e below (s₁.setTop (entryFrame m #[(.ref ca)] 1)) t_ := fun t_ k_ => pre0 t_ (by
    show Steps p.tables e below (s₁.setTop (mkF m 0 #[.val (.ref ca)] [])) t_
    refine XS.aloadN X0.here hx rfl (Jvm.hb hby d_method_2_0) rfl rfl ?_
    refine XS.iconst X0.here hx rfl (Jvm.hb hby d_method_2_1) ?_
    refine XS.bipush X0.here hx rfl (Jvm.hb hby d_method_2_2) ?_
    refine st2 _ ?_
    show Steps p.tables e below (T2.setTop (mkF m 5 #[.val (.ref ca)] [])) _
    refine XS.aloadN X2.here hx rfl (Jvm.hb hby d_method_2_5) rfl rfl ?_
    refine XS.iconst X2.here hx rfl (Jvm.hb hby d_method_2_6) ?_
    refine XS.bipush X2.here hx rfl (Jvm.hb hby d_method_2_7) ?_
    refine st5 _ ?_
    show Steps p.tables e below (T5.setTop (mkF m 10 #[.val (.ref ca)] [])) _
    refine XS.aloadN X5.here hx rfl (Jvm.hb hby d_method_2_10) rfl rfl ?_
    refine XS.iconst X5.here hx rfl (Jvm.hb hby d_method_2_11) ?_
    refine XS.bipush X5.here hx rfl (Jvm.hb hby d_method_2_12) ?_
    refine st8 _ ?_
    show Steps p.tables e below (T8.setTop (mkF m 15 #[.val (.ref ca)] [])) _
    refine XS.aloadN X8.here hx rfl (Jvm.hb hby d_method_2_15) rfl rfl ?_
    refine XS.iconst X8.here hx rfl (Jvm.hb hby d_method_2_16) ?_
    refine XS.bipush X8.here hx rfl (Jvm.hb hby d_method_2_17) ?_
    refine st11 _ ?_
    show Steps p.tables e below (T11.setTop (mkF m 20 #[.val (.ref ca)] [])) _
    refine XS.aloadN X11.here hx rfl (Jvm.hb hby d_method_2_20) rfl rfl ?_
    refine XS.iconst X11.here hx rfl (Jvm.hb hby d_method_2_21) ?_
    refine XS.bipush X11.here hx rfl (Jvm.hb hby d_method_2_22) ?_
    refine st14 _ ?_
    show Steps p.tables e below (T14.setTop (mkF m 25 #[.val (.ref ca)] [])) _
    show Steps p.tables e below (T14.setTop (mkF m 25 #[.val (.ref ca)] [])) t_
    exact k_)
  obtain ⟨fs, hr, hrun, hended, hW, hsame⟩ := X14.leave (v := none) (fun _ => rfl)
  refine ⟨_, _, s16 _ ?_, hrun, hended, _, _, rfl, ?_, ⟨_, rfl⟩, hW, hsame.mono (by decide) (by decide)⟩
  · show Steps p.tables e below (T14.setTop (mkF m 25 #[.val (.ref ca)] [])) _
    exact X14.returnOut hx Bd.returns (Jvm.hb hby d_method_2_25) hr
  · show Q_rmPre Z _ _ _ h0 n0 _ T14.heap _
    rw [e14]
    exact ⟨rfl, N14, ((((((Keep.refl h0 [ca]).wr W2 (Or.inl (by simp))).wr W5 (Or.inl (by simp))).wr W8 (Or.inl (by simp))).wr W11 (Or.inl (by simp))).wr W14 (Or.inl (by simp))), V14⟩
theorem d_method_3_0 : decode method_3_code 0 = .ok (.iload_n 1, 1) := by decide +kernel
theorem d_method_3_1 : decode method_3_code 1 = .ok (.ifCond .le 7, 3) := by decide +kernel
theorem d_method_3_8 : decode method_3_code 8 = .ok (.iload_n 1, 1) := by decide +kernel
theorem d_method_3_9 : decode method_3_code 9 = .ok (.iconst 1, 1) := by decide +kernel
theorem d_method_3_10 : decode method_3_code 10 = .ok (.if_icmp .le 8, 3) := by decide +kernel
theorem d_method_3_18 : decode method_3_code 18 = .ok (.iload_n 1, 1) := by decide +kernel
theorem d_method_3_19 : decode method_3_code 19 = .ok (.iconst 2, 1) := by decide +kernel
theorem d_method_3_20 : decode method_3_code 20 = .ok (.if_icmp .le 9, 3) := by decide +kernel
theorem d_method_3_29 : decode method_3_code 29 = .ok (.iload_n 1, 1) := by decide +kernel
theorem d_method_3_30 : decode method_3_code 30 = .ok (.iconst 3, 1) := by decide +kernel
theorem d_method_3_31 : decode method_3_code 31 = .ok (.if_icmp .le 9, 3) := by decide +kernel
theorem d_method_3_40 : decode method_3_code 40 = .ok (.iload_n 1, 1) := by decide +kernel
theorem d_method_3_41 : decode method_3_code 41 = .ok (.iconst 4, 1) := by decide +kernel
theorem d_method_3_42 : decode method_3_code 42 = .ok (.if_icmp .le 9, 3) := by decide +kernel
theorem d_method_3_51 : decode method_3_code 51 = .ok (.return_, 1) := by decide +kernel
theorem d_method_3_4 : decode method_3_code 4 = .ok (.aload_n 0, 1) := by decide +kernel
theorem d_method_3_5 : decode method_3_code 5 = .ok (.iconst 5, 1) := by decide +kernel
theorem d_method_3_6 : decode method_3_code 6 = .ok (.iload_n 2, 1) := by decide +kernel
theorem d_method_3_7 : decode method_3_code 7 = .ok (.castore, 1) := by decide +kernel
theorem d_method_3_13 : decode method_3_code 13 = .ok (.aload_n 0, 1) := by decide +kernel
theorem d_method_3_14 : decode method_3_code 14 = .ok (.bipush 6, 2) := by decide +kernel
theorem d_method_3_16 : decode method_3_code 16 = .ok (.iload_n 3, 1) := by decide +kernel
theorem d_method_3_17 : decode method_3_code 17 = .ok (.castore, 1) := by decide +kernel
theorem d_method_3_23 : decode method_3_code 23 = .ok (.aload_n 0, 1) := by decide +kernel
theorem d_method_3_24 : decode method_3_code 24 = .ok (.bipush 7, 2) := by decide +kernel
theorem d_method_3_26 : decode method_3_code 26 = .ok (.iload 4, 2) := by decide +kernel
theorem d_method_3_28 : decode method_3_code 28 = .ok (.castore, 1) := by decide +kernel
theorem d_method_3_34 : decode method_3_code 34 = .ok (.aload_n 0, 1) := by decide +kernel
theorem d_method_3_35 : decode method_3_code 35 = .ok (.bipush 8, 2) := by decide +kernel
theorem d_method_3_37 : decode method_3_code 37 = .ok (.iload 5, 2) := by decide +kernel
theorem d_method_3_39 : decode method_3_code 39 = .ok (.castore, 1) := by decide +kernel
theorem d_method_3_45 : decode method_3_code 45 = .ok (.aload_n 0, 1) := by decide +kernel
theorem d_method_3_46 : decode method_3_code 46 = .ok (.bipush 9, 2) := by decide +kernel
theorem d_method_3_48 : decode method_3_code 48 = .ok (.iload 6, 2) := by decide +kernel
theorem d_method_3_50 : decode method_3_code 50 = .ok (.castore, 1) := by decide +kernel
theorem ef_rmStem (m : MethodId) (x0 : Addr) (x1 : Int32) (x2 : Int32) (x3 : Int32) (x4 : Int32) (x5 : Int32) (x6 : Int32) : entryFrame m #[(.ref x0), (.int x1), (.int x2), (.int x3), (.int x4), (.int x5), (.int x6)] 7 = mkF m 0 #[.val (.ref x0), .val (.int x1), .val (.int x2), .val (.int x3), .val (.int x4), .val (.int x5), .val (.int x6)] [] := by first | (simp [entryFrame, mkF, argsToLocals, Value.category]; done) | rfl
def Q_rmStem (Z : State) (ca : Addr) (sa : Int32) (sb : Int32) (sc : Int32) (sd : Int32) (se : Int32) (kc : ClassId) (cs : List Int32) (n : Nat) (h0 : Heap) (n0 : Nat) (v : Option Value) (h : Heap) (L : List Loc) : Prop := (v = none) ∧ (Fr n0 L) ∧ (Keep h0 h [ca]) ∧ (Arv Z h ca kc .char (Int32.ofNat cs.length) ((own_stem n cs sa sb sc sd se).map Value.int) (.int (0 : Int32)))
set_option maxRecDepth 65536 in
set_option maxHeartbeats 40000000 in
theorem rmStem (l : Launch) (Z : State) (a0 : Array Value) (hw : ∀ d ∈ tables_1, d.before a0 Z = true) (ws : List Jvm.Cond) (ca : Addr) (sa : Int32) (sb : Int32) (sc : Int32) (sd : Int32) (se : Int32) (kc : ClassId) (cs : List Int32) (n : Nat) (h0 : Heap) (n0 : Nat) (Z0 : n0 ≤ h0.size) (I1 : Arv Z h0 ca kc .char (Int32.ofNat cs.length) (cs.map Value.int) (.int (0 : Int32))) (gc : n0 ≤ ca) (hl10 : 10 ≤ cs.length) (hl15 : cs.length ≤ 15) (hn6 : n < 6) (rsaa : ¬ (sa < (0 : Int32))) (rsab : ¬ ((255 : Int32) < sa)) (rsba : ¬ (sb < (0 : Int32))) (rsbb : ¬ ((255 : Int32) < sb)) (rsca : ¬ (sc < (0 : Int32))) (rscb : ¬ ((255 : Int32) < sc)) (rsda : ¬ (sd < (0 : Int32))) (rsdb : ¬ ((255 : Int32) < sd)) (rsea : ¬ (se < (0 : Int32))) (rseb : ¬ ((255 : Int32) < se)) :
    MetFree l (⟨"io/dyeline/store/LayoutTagFilePinLaw", "putStem", "([CICCCCC)V"⟩ : MethodName) (head1 (Jvm.Cond.code (⟨"io/dyeline/store/LayoutTagFilePinLaw", "putStem", "([CICCCCC)V"⟩ : MethodName) method_3_code 7 none :: ws) ({ frames := 0, cells := 0, slots := 0, locals := 0 } : Room)) (fun ar_ U => ar_ = #[(.ref ca), (.int (Int32.ofNat n)), (.int sa), (.int sb), (.int sc), (.int sd), (.int se)] ∧ Z.Warmed39 U.vm ∧ U.heap = h0) (fun _ _ _ _ _ => True) (fun _ U oc_ U' => ∃ v L, oc_ = .returned v ∧ Q_rmStem Z ca sa sb sc sd se kc cs n h0 n0 v U'.heap L ∧ FrameEnd U oc_ U' L ({ frames := 0, cells := 0, slots := 0, locals := 0 } : Room).cells ({ frames := 0, cells := 0, slots := 0, locals := 0 } : Room).slots) := by
  refine MetFree.of_bodySF (plainFor_of_name pn_io_dyeline_store_LayoutTagFilePinLaw) hisR ?_
  intro p e s m args below meth c s₁ Bd hml0 hP hK
  obtain ⟨rfl, hZ, hh⟩ := hP
  have hx := Bd.exec
  have hby := Bd.bytes
  have hml : c.maxLocals = 7 := hml0
  have hown : s.vm.findClass "io/dyeline/store/LayoutTagFilePinLaw" = some m.cls := findClass_of_methodNamed Bd.named
  have hnm := (name_of_methodNamed Bd.named Bd.method).1
  have X0 : Stand p l e ({ frames := 0, cells := 0, slots := 0, locals := 0 } : Room) s m #[(.ref ca), (.int (Int32.ofNat n)), (.int sa), (.int sb), (.int sc), (.int sd), (.int se)] below meth c s₁ [] 0 0 := Stand.of_body Bd
  have e0 : s₁.heap = h0 := by rw [← hh, Bd.state]; rfl
  have N0 := Fr.nil n0
  have pre0 : ∀ t_, Steps p.tables e below (s₁.setTop (mkF m 0 #[.val (.ref ca), .val (.int (Int32.ofNat n)), .val (.int sa), .val (.int sb), .val (.int sc), .val (.int sd), .val (.int se)] [])) t_ → Steps p.tables e below (s₁.setTop (entryFrame m #[(.ref ca), (.int (Int32.ofNat n)), (.int sa), (.int sb), (.int sc), (.int sd), (.int se)] 7)) t_ := fun t_ k_ => castTop (ef_rmStem m ca (Int32.ofNat n) sa sb sc sd se) k_
  have lt_I1 : @LT.lt Nat _ ca h0.size := I1.lt
  obtain rfl | rfl | rfl | rfl | rfl | rfl : n = 0 ∨ n = 1 ∨ n = 2 ∨ n = 3 ∨ n = 4 ∨ n = 5 := by omega
  · have hcase := trivial
    have s1 : ∀ t_, Steps p.tables e below (s₁.setTop (mkF m 51 #[.val (.ref ca), .val (.int (0 : Int32)), .val (.int sa), .val (.int sb), .val (.int sc), .val (.int sd), .val (.int se)] [])) t_ → Steps p.tables e below (s₁.setTop (entryFrame m #[(.ref ca), (.int (0 : Int32)), (.int sa), (.int sb), (.int sc), (.int sd), (.int se)] 7)) t_ := fun t_ k_ => pre0 t_ (by
      show Steps p.tables e below (s₁.setTop (mkF m 0 #[.val (.ref ca), .val (.int (0 : Int32)), .val (.int sa), .val (.int sb), .val (.int sc), .val (.int sd), .val (.int se)] [])) t_
      refine XS.iloadN X0.here hx rfl (Jvm.hb hby d_method_3_0) rfl ?_
      refine XS.ifYes X0.here hx rfl (pc0 := 1) (pc' := 8) rfl (Jvm.hb hby d_method_3_1) rfl ((if0 _ _).trans (flt (by decide : ¬ ((0 : Int32) < (0 : Int32)))).2.2.2) (by decide) (by decide) ?_
      show Steps p.tables e below (s₁.setTop (mkF m 8 #[.val (.ref ca), .val (.int (0 : Int32)), .val (.int sa), .val (.int sb), .val (.int sc), .val (.int sd), .val (.int se)] [])) _
      refine XS.iloadN X0.here hx rfl (Jvm.hb hby d_method_3_8) rfl ?_
      refine XS.iconst X0.here hx rfl (Jvm.hb hby d_method_3_9) ?_
      refine XS.icmpYes X0.here hx rfl (pc0 := 10) (pc' := 18) rfl (Jvm.hb hby d_method_3_10) rfl (flt (by decide : ¬ ((1 : Int32) < (0 : Int32)))).2.2.2 (by decide) (by decide) ?_
      show Steps p.tables e below (s₁.setTop (mkF m 18 #[.val (.ref ca), .val (.int (0 : Int32)), .val (.int sa), .val (.int sb), .val (.int sc), .val (.int sd), .val (.int se)] [])) _
      refine XS.iloadN X0.here hx rfl (Jvm.hb hby d_method_3_18) rfl ?_
      refine XS.iconst X0.here hx rfl (Jvm.hb hby d_method_3_19) ?_
      refine XS.icmpYes X0.here hx rfl (pc0 := 20) (pc' := 29) rfl (Jvm.hb hby d_method_3_20) rfl (flt (by decide : ¬ ((2 : Int32) < (0 : Int32)))).2.2.2 (by decide) (by decide) ?_
      show Steps p.tables e below (s₁.setTop (mkF m 29 #[.val (.ref ca), .val (.int (0 : Int32)), .val (.int sa), .val (.int sb), .val (.int sc), .val (.int sd), .val (.int se)] [])) _
      refine XS.iloadN X0.here hx rfl (Jvm.hb hby d_method_3_29) rfl ?_
      refine XS.iconst X0.here hx rfl (Jvm.hb hby d_method_3_30) ?_
      refine XS.icmpYes X0.here hx rfl (pc0 := 31) (pc' := 40) rfl (Jvm.hb hby d_method_3_31) rfl (flt (by decide : ¬ ((3 : Int32) < (0 : Int32)))).2.2.2 (by decide) (by decide) ?_
      show Steps p.tables e below (s₁.setTop (mkF m 40 #[.val (.ref ca), .val (.int (0 : Int32)), .val (.int sa), .val (.int sb), .val (.int sc), .val (.int sd), .val (.int se)] [])) _
      refine XS.iloadN X0.here hx rfl (Jvm.hb hby d_method_3_40) rfl ?_
      refine XS.iconst X0.here hx rfl (Jvm.hb hby d_method_3_41) ?_
      refine XS.icmpYes X0.here hx rfl (pc0 := 42) (pc' := 51) rfl (Jvm.hb hby d_method_3_42) rfl (flt (by decide : ¬ ((4 : Int32) < (0 : Int32)))).2.2.2 (by decide) (by decide) ?_
      show Steps p.tables e below (s₁.setTop (mkF m 51 #[.val (.ref ca), .val (.int (0 : Int32)), .val (.int sa), .val (.int sb), .val (.int sc), .val (.int sd), .val (.int se)] [])) _
      show Steps p.tables e below (s₁.setTop (mkF m 51 #[.val (.ref ca), .val (.int (0 : Int32)), .val (.int sa), .val (.int sb), .val (.int sc), .val (.int sd), .val (.int se)] [])) t_
      exact k_)
    obtain ⟨fs, hr, hrun, hended, hW, hsame⟩ := X0.leave (v := none) (fun _ => rfl)
    refine ⟨_, _, s1 _ ?_, hrun, hended, _, _, rfl, ?_, ⟨_, rfl⟩, hW, hsame.mono (by decide) (by decide)⟩
    · show Steps p.tables e below (s₁.setTop (mkF m 51 #[.val (.ref ca), .val (.int (0 : Int32)), .val (.int sa), .val (.int sb), .val (.int sc), .val (.int sd), .val (.int se)] [])) _
      exact X0.returnOut hx Bd.returns (Jvm.hb hby d_method_3_51) hr
    · show Q_rmStem Z _ _ _ _ _ _ _ _ _ h0 n0 _ s₁.heap _
      rw [e0]
      exact ⟨rfl, N0, (Keep.refl h0 [ca]), I1⟩
  · have hcase := trivial
    obtain ⟨cl2, Ar2, q2, S2, M2, H2, G2⟩ := id I1
    have hin2 : ¬ ((5 : Int32) < 0 ∨ cl2.slots.size ≤ ((5 : Int32)).toNatClampNeg) := inb_of S2 (own_in (i := 5) (by omega) (by omega))
    obtain ⟨T3, h3, X3, e3, W3, st3⟩ := stC X0 hx hZ e0 Ar2 (j := (5 : Int32)) hin2 (g := (mkF m 7 #[.val (.ref ca), .val (.int (1 : Int32)), .val (.int sa), .val (.int sb), .val (.int sc), .val (.int sd), .val (.int se)] [(.int sa), (.int (5 : Int32)), (.ref ca)])) rfl rfl (Jvm.hb hby d_method_3_7)
    have z4 : h0.size ≤ h3.size := Nat.le_of_eq W3.size.symm
    have V3 : Arv Z h3 ca kc .char (Int32.ofNat cs.length) ((List.set cs (5) sa).map Value.int) (.int (0 : Int32)) := by
      have q : Arv Z h3 ca kc .char (Int32.ofNat cs.length) (List.set (List.map Value.int cs) (5) (.int (nar .char sa))) (.int (0 : Int32)) := Arv.set Ar2 q2 S2 M2 H2 G2 (fits_nar_char _) W3 (5) (rfl) (by simp only [List.length_map, List.length_set]; omega)
      rw [show nar .char sa = sa from own_narc rsaa (own_le64k rsab)] at q
      rw [List.map_set]
      exact q
    have N3 := Fr.snoc X3 N0 (show n0 ≤ ca by omega)
    have s5 : ∀ t_, Steps p.tables e below (T3.setTop (mkF m 51 #[.val (.ref ca), .val (.int (1 : Int32)), .val (.int sa), .val (.int sb), .val (.int sc), .val (.int sd), .val (.int se)] [])) t_ → Steps p.tables e below (s₁.setTop (entryFrame m #[(.ref ca), (.int (1 : Int32)), (.int sa), (.int sb), (.int sc), (.int sd), (.int se)] 7)) t_ := fun t_ k_ => pre0 t_ (by
      show Steps p.tables e below (s₁.setTop (mkF m 0 #[.val (.ref ca), .val (.int (1 : Int32)), .val (.int sa), .val (.int sb), .val (.int sc), .val (.int sd), .val (.int se)] [])) t_
      refine XS.iloadN X0.here hx rfl (Jvm.hb hby d_method_3_0) rfl ?_
      refine XS.ifNo X0.here hx rfl (Jvm.hb hby d_method_3_1) rfl ((if0 _ _).trans (tlt (by decide : ((0 : Int32) < (1 : Int32)))).2.2.2) ?_
      show Steps p.tables e below (s₁.setTop (mkF m 4 #[.val (.ref ca), .val (.int (1 : Int32)), .val (.int sa), .val (.int sb), .val (.int sc), .val (.int sd), .val (.int se)] [])) _
      refine XS.aloadN X0.here hx rfl (Jvm.hb hby d_method_3_4) rfl rfl ?_
      refine XS.iconst X0.here hx rfl (Jvm.hb hby d_method_3_5) ?_
      refine XS.iloadN X0.here hx rfl (Jvm.hb hby d_method_3_6) rfl ?_
      refine st3 _ ?_
      show Steps p.tables e below (T3.setTop (mkF m 8 #[.val (.ref ca), .val (.int (1 : Int32)), .val (.int sa), .val (.int sb), .val (.int sc), .val (.int sd), .val (.int se)] [])) _
      refine XS.iloadN X3.here hx rfl (Jvm.hb hby d_method_3_8) rfl ?_
      refine XS.iconst X3.here hx rfl (Jvm.hb hby d_method_3_9) ?_
      refine XS.icmpYes X3.here hx rfl (pc0 := 10) (pc' := 18) rfl (Jvm.hb hby d_method_3_10) rfl (flt (by decide : ¬ ((1 : Int32) < (1 : Int32)))).2.2.2 (by decide) (by decide) ?_
      show Steps p.tables e below (T3.setTop (mkF m 18 #[.val (.ref ca), .val (.int (1 : Int32)), .val (.int sa), .val (.int sb), .val (.int sc), .val (.int sd), .val (.int se)] [])) _
      refine XS.iloadN X3.here hx rfl (Jvm.hb hby d_method_3_18) rfl ?_
      refine XS.iconst X3.here hx rfl (Jvm.hb hby d_method_3_19) ?_
      refine XS.icmpYes X3.here hx rfl (pc0 := 20) (pc' := 29) rfl (Jvm.hb hby d_method_3_20) rfl (flt (by decide : ¬ ((2 : Int32) < (1 : Int32)))).2.2.2 (by decide) (by decide) ?_
      show Steps p.tables e below (T3.setTop (mkF m 29 #[.val (.ref ca), .val (.int (1 : Int32)), .val (.int sa), .val (.int sb), .val (.int sc), .val (.int sd), .val (.int se)] [])) _
      refine XS.iloadN X3.here hx rfl (Jvm.hb hby d_method_3_29) rfl ?_
      refine XS.iconst X3.here hx rfl (Jvm.hb hby d_method_3_30) ?_
      refine XS.icmpYes X3.here hx rfl (pc0 := 31) (pc' := 40) rfl (Jvm.hb hby d_method_3_31) rfl (flt (by decide : ¬ ((3 : Int32) < (1 : Int32)))).2.2.2 (by decide) (by decide) ?_
      show Steps p.tables e below (T3.setTop (mkF m 40 #[.val (.ref ca), .val (.int (1 : Int32)), .val (.int sa), .val (.int sb), .val (.int sc), .val (.int sd), .val (.int se)] [])) _
      refine XS.iloadN X3.here hx rfl (Jvm.hb hby d_method_3_40) rfl ?_
      refine XS.iconst X3.here hx rfl (Jvm.hb hby d_method_3_41) ?_
      refine XS.icmpYes X3.here hx rfl (pc0 := 42) (pc' := 51) rfl (Jvm.hb hby d_method_3_42) rfl (flt (by decide : ¬ ((4 : Int32) < (1 : Int32)))).2.2.2 (by decide) (by decide) ?_
      show Steps p.tables e below (T3.setTop (mkF m 51 #[.val (.ref ca), .val (.int (1 : Int32)), .val (.int sa), .val (.int sb), .val (.int sc), .val (.int sd), .val (.int se)] [])) _
      show Steps p.tables e below (T3.setTop (mkF m 51 #[.val (.ref ca), .val (.int (1 : Int32)), .val (.int sa), .val (.int sb), .val (.int sc), .val (.int sd), .val (.int se)] [])) t_
      exact k_)
    obtain ⟨fs, hr, hrun, hended, hW, hsame⟩ := X3.leave (v := none) (fun _ => rfl)
    refine ⟨_, _, s5 _ ?_, hrun, hended, _, _, rfl, ?_, ⟨_, rfl⟩, hW, hsame.mono (by decide) (by decide)⟩
    · show Steps p.tables e below (T3.setTop (mkF m 51 #[.val (.ref ca), .val (.int (1 : Int32)), .val (.int sa), .val (.int sb), .val (.int sc), .val (.int sd), .val (.int se)] [])) _
      exact X3.returnOut hx Bd.returns (Jvm.hb hby d_method_3_51) hr
    · show Q_rmStem Z _ _ _ _ _ _ _ _ _ h0 n0 _ T3.heap _
      rw [e3]
      exact ⟨rfl, N3, ((Keep.refl h0 [ca]).wr W3 (Or.inl (by simp))), V3⟩
  · have hcase := trivial
    obtain ⟨cl6, Ar6, q6, S6, M6, H6, G6⟩ := id I1
    have hin6 : ¬ ((5 : Int32) < 0 ∨ cl6.slots.size ≤ ((5 : Int32)).toNatClampNeg) := inb_of S6 (own_in (i := 5) (by omega) (by omega))
    obtain ⟨T7, h7, X7, e7, W7, st7⟩ := stC X0 hx hZ e0 Ar6 (j := (5 : Int32)) hin6 (g := (mkF m 7 #[.val (.ref ca), .val (.int (2 : Int32)), .val (.int sa), .val (.int sb), .val (.int sc), .val (.int sd), .val (.int se)] [(.int sa), (.int (5 : Int32)), (.ref ca)])) rfl rfl (Jvm.hb hby d_method_3_7)
    have z8 : h0.size ≤ h7.size := Nat.le_of_eq W7.size.symm
    have V7 : Arv Z h7 ca kc .char (Int32.ofNat cs.length) ((List.set cs (5) sa).map Value.int) (.int (0 : Int32)) := by
      have q : Arv Z h7 ca kc .char (Int32.ofNat cs.length) (List.set (List.map Value.int cs) (5) (.int (nar .char sa))) (.int (0 : Int32)) := Arv.set Ar6 q6 S6 M6 H6 G6 (fits_nar_char _) W7 (5) (rfl) (by simp only [List.length_map, List.length_set]; omega)
      rw [show nar .char sa = sa from own_narc rsaa (own_le64k rsab)] at q
      rw [List.map_set]
      exact q
    have N7 := Fr.snoc X7 N0 (show n0 ≤ ca by omega)
    obtain ⟨cl9, Ar9, q9, S9, M9, H9, G9⟩ := id V7
    have hin9 : ¬ ((6 : Int32) < 0 ∨ cl9.slots.size ≤ ((6 : Int32)).toNatClampNeg) := inb_of S9 (own_in (i := 6) (by omega) (by omega))
    obtain ⟨T10, h10, X10, e10, W10, st10⟩ := stC X7 hx hZ e7 Ar9 (j := (6 : Int32)) hin9 (g := (mkF m 17 #[.val (.ref ca), .val (.int (2 : Int32)), .val (.int sa), .val (.int sb), .val (.int sc), .val (.int sd), .val (.int se)] [(.int sb), (.int (6 : Int32)), (.ref ca)])) rfl rfl (Jvm.hb hby d_method_3_17)
    have z11 : h7.size ≤ h10.size := Nat.le_of_eq W10.size.symm
    have V10 : Arv Z h10 ca kc .char (Int32.ofNat cs.length) ((List.set (List.set cs (5) sa) (6) sb).map Value.int) (.int (0 : Int32)) := by
      have q : Arv Z h10 ca kc .char (Int32.ofNat cs.length) (List.set (List.map Value.int (List.set cs (5) sa)) (6) (.int (nar .char sb))) (.int (0 : Int32)) := Arv.set Ar9 q9 S9 M9 H9 G9 (fits_nar_char _) W10 (6) (rfl) (by simp only [List.length_map, List.length_set]; omega)
      rw [show nar .char sb = sb from own_narc rsba (own_le64k rsbb)] at q
      rw [List.map_set]
      exact q
    have N10 := Fr.snoc X10 N7 (show n0 ≤ ca by omega)
    have s12 : ∀ t_, Steps p.tables e below (T10.setTop (mkF m 51 #[.val (.ref ca), .val (.int (2 : Int32)), .val (.int sa), .val (.int sb), .val (.int sc), .val (.int sd), .val (.int se)] [])) t_ → Steps p.tables e below (s₁.setTop (entryFrame m #[(.ref ca), (.int (2 : Int32)), (.int sa), (.int sb), (.int sc), (.int sd), (.int se)] 7)) t_ := fun t_ k_ => pre0 t_ (by
      show Steps p.tables e below (s₁.setTop (mkF m 0 #[.val (.ref ca), .val (.int (2 : Int32)), .val (.int sa), .val (.int sb), .val (.int sc), .val (.int sd), .val (.int se)] [])) t_
      refine XS.iloadN X0.here hx rfl (Jvm.hb hby d_method_3_0) rfl ?_
      refine XS.ifNo X0.here hx rfl (Jvm.hb hby d_method_3_1) rfl ((if0 _ _).trans (tlt (by decide : ((0 : Int32) < (2 : Int32)))).2.2.2) ?_
      show Steps p.tables e below (s₁.setTop (mkF m 4 #[.val (.ref ca), .val (.int (2 : Int32)), .val (.int sa), .val (.int sb), .val (.int sc), .val (.int sd), .val (.int se)] [])) _
      refine XS.aloadN X0.here hx rfl (Jvm.hb hby d_method_3_4) rfl rfl ?_
      refine XS.iconst X0.here hx rfl (Jvm.hb hby d_method_3_5) ?_
      refine XS.iloadN X0.here hx rfl (Jvm.hb hby d_method_3_6) rfl ?_
      refine st7 _ ?_
      show Steps p.tables e below (T7.setTop (mkF m 8 #[.val (.ref ca), .val (.int (2 : Int32)), .val (.int sa), .val (.int sb), .val (.int sc), .val (.int sd), .val (.int se)] [])) _
      refine XS.iloadN X7.here hx rfl (Jvm.hb hby d_method_3_8) rfl ?_
      refine XS.iconst X7.here hx rfl (Jvm.hb hby d_method_3_9) ?_
      refine XS.icmpNo X7.here hx rfl (Jvm.hb hby d_method_3_10) rfl (tlt (by decide : ((1 : Int32) < (2 : Int32)))).2.2.2 ?_
      show Steps p.tables e below (T7.setTop (mkF m 13 #[.val (.ref ca), .val (.int (2 : Int32)), .val (.int sa), .val (.int sb), .val (.int sc), .val (.int sd), .val (.int se)] [])) _
      refine XS.aloadN X7.here hx rfl (Jvm.hb hby d_method_3_13) rfl rfl ?_
      refine XS.bipush X7.here hx rfl (Jvm.hb hby d_method_3_14) ?_
      refine XS.iloadN X7.here hx rfl (Jvm.hb hby d_method_3_16) rfl ?_
      refine st10 _ ?_
      show Steps p.tables e below (T10.setTop (mkF m 18 #[.val (.ref ca), .val (.int (2 : Int32)), .val (.int sa), .val (.int sb), .val (.int sc), .val (.int sd), .val (.int se)] [])) _
      refine XS.iloadN X10.here hx rfl (Jvm.hb hby d_method_3_18) rfl ?_
      refine XS.iconst X10.here hx rfl (Jvm.hb hby d_method_3_19) ?_
      refine XS.icmpYes X10.here hx rfl (pc0 := 20) (pc' := 29) rfl (Jvm.hb hby d_method_3_20) rfl (flt (by decide : ¬ ((2 : Int32) < (2 : Int32)))).2.2.2 (by decide) (by decide) ?_
      show Steps p.tables e below (T10.setTop (mkF m 29 #[.val (.ref ca), .val (.int (2 : Int32)), .val (.int sa), .val (.int sb), .val (.int sc), .val (.int sd), .val (.int se)] [])) _
      refine XS.iloadN X10.here hx rfl (Jvm.hb hby d_method_3_29) rfl ?_
      refine XS.iconst X10.here hx rfl (Jvm.hb hby d_method_3_30) ?_
      refine XS.icmpYes X10.here hx rfl (pc0 := 31) (pc' := 40) rfl (Jvm.hb hby d_method_3_31) rfl (flt (by decide : ¬ ((3 : Int32) < (2 : Int32)))).2.2.2 (by decide) (by decide) ?_
      show Steps p.tables e below (T10.setTop (mkF m 40 #[.val (.ref ca), .val (.int (2 : Int32)), .val (.int sa), .val (.int sb), .val (.int sc), .val (.int sd), .val (.int se)] [])) _
      refine XS.iloadN X10.here hx rfl (Jvm.hb hby d_method_3_40) rfl ?_
      refine XS.iconst X10.here hx rfl (Jvm.hb hby d_method_3_41) ?_
      refine XS.icmpYes X10.here hx rfl (pc0 := 42) (pc' := 51) rfl (Jvm.hb hby d_method_3_42) rfl (flt (by decide : ¬ ((4 : Int32) < (2 : Int32)))).2.2.2 (by decide) (by decide) ?_
      show Steps p.tables e below (T10.setTop (mkF m 51 #[.val (.ref ca), .val (.int (2 : Int32)), .val (.int sa), .val (.int sb), .val (.int sc), .val (.int sd), .val (.int se)] [])) _
      show Steps p.tables e below (T10.setTop (mkF m 51 #[.val (.ref ca), .val (.int (2 : Int32)), .val (.int sa), .val (.int sb), .val (.int sc), .val (.int sd), .val (.int se)] [])) t_
      exact k_)
    obtain ⟨fs, hr, hrun, hended, hW, hsame⟩ := X10.leave (v := none) (fun _ => rfl)
    refine ⟨_, _, s12 _ ?_, hrun, hended, _, _, rfl, ?_, ⟨_, rfl⟩, hW, hsame.mono (by decide) (by decide)⟩
    · show Steps p.tables e below (T10.setTop (mkF m 51 #[.val (.ref ca), .val (.int (2 : Int32)), .val (.int sa), .val (.int sb), .val (.int sc), .val (.int sd), .val (.int se)] [])) _
      exact X10.returnOut hx Bd.returns (Jvm.hb hby d_method_3_51) hr
    · show Q_rmStem Z _ _ _ _ _ _ _ _ _ h0 n0 _ T10.heap _
      rw [e10]
      exact ⟨rfl, N10, (((Keep.refl h0 [ca]).wr W7 (Or.inl (by simp))).wr W10 (Or.inl (by simp))), V10⟩
  · have hcase := trivial
    obtain ⟨cl13, Ar13, q13, S13, M13, H13, G13⟩ := id I1
    have hin13 : ¬ ((5 : Int32) < 0 ∨ cl13.slots.size ≤ ((5 : Int32)).toNatClampNeg) := inb_of S13 (own_in (i := 5) (by omega) (by omega))
    obtain ⟨T14, h14, X14, e14, W14, st14⟩ := stC X0 hx hZ e0 Ar13 (j := (5 : Int32)) hin13 (g := (mkF m 7 #[.val (.ref ca), .val (.int (3 : Int32)), .val (.int sa), .val (.int sb), .val (.int sc), .val (.int sd), .val (.int se)] [(.int sa), (.int (5 : Int32)), (.ref ca)])) rfl rfl (Jvm.hb hby d_method_3_7)
    have z15 : h0.size ≤ h14.size := Nat.le_of_eq W14.size.symm
    have V14 : Arv Z h14 ca kc .char (Int32.ofNat cs.length) ((List.set cs (5) sa).map Value.int) (.int (0 : Int32)) := by
      have q : Arv Z h14 ca kc .char (Int32.ofNat cs.length) (List.set (List.map Value.int cs) (5) (.int (nar .char sa))) (.int (0 : Int32)) := Arv.set Ar13 q13 S13 M13 H13 G13 (fits_nar_char _) W14 (5) (rfl) (by simp only [List.length_map, List.length_set]; omega)
      rw [show nar .char sa = sa from own_narc rsaa (own_le64k rsab)] at q
      rw [List.map_set]
      exact q
    have N14 := Fr.snoc X14 N0 (show n0 ≤ ca by omega)
    obtain ⟨cl16, Ar16, q16, S16, M16, H16, G16⟩ := id V14
    have hin16 : ¬ ((6 : Int32) < 0 ∨ cl16.slots.size ≤ ((6 : Int32)).toNatClampNeg) := inb_of S16 (own_in (i := 6) (by omega) (by omega))
    obtain ⟨T17, h17, X17, e17, W17, st17⟩ := stC X14 hx hZ e14 Ar16 (j := (6 : Int32)) hin16 (g := (mkF m 17 #[.val (.ref ca), .val (.int (3 : Int32)), .val (.int sa), .val (.int sb), .val (.int sc), .val (.int sd), .val (.int se)] [(.int sb), (.int (6 : Int32)), (.ref ca)])) rfl rfl (Jvm.hb hby d_method_3_17)
    have z18 : h14.size ≤ h17.size := Nat.le_of_eq W17.size.symm
    have V17 : Arv Z h17 ca kc .char (Int32.ofNat cs.length) ((List.set (List.set cs (5) sa) (6) sb).map Value.int) (.int (0 : Int32)) := by
      have q : Arv Z h17 ca kc .char (Int32.ofNat cs.length) (List.set (List.map Value.int (List.set cs (5) sa)) (6) (.int (nar .char sb))) (.int (0 : Int32)) := Arv.set Ar16 q16 S16 M16 H16 G16 (fits_nar_char _) W17 (6) (rfl) (by simp only [List.length_map, List.length_set]; omega)
      rw [show nar .char sb = sb from own_narc rsba (own_le64k rsbb)] at q
      rw [List.map_set]
      exact q
    have N17 := Fr.snoc X17 N14 (show n0 ≤ ca by omega)
    obtain ⟨cl19, Ar19, q19, S19, M19, H19, G19⟩ := id V17
    have hin19 : ¬ ((7 : Int32) < 0 ∨ cl19.slots.size ≤ ((7 : Int32)).toNatClampNeg) := inb_of S19 (own_in (i := 7) (by omega) (by omega))
    obtain ⟨T20, h20, X20, e20, W20, st20⟩ := stC X17 hx hZ e17 Ar19 (j := (7 : Int32)) hin19 (g := (mkF m 28 #[.val (.ref ca), .val (.int (3 : Int32)), .val (.int sa), .val (.int sb), .val (.int sc), .val (.int sd), .val (.int se)] [(.int sc), (.int (7 : Int32)), (.ref ca)])) rfl rfl (Jvm.hb hby d_method_3_28)
    have z21 : h17.size ≤ h20.size := Nat.le_of_eq W20.size.symm
    have V20 : Arv Z h20 ca kc .char (Int32.ofNat cs.length) ((List.set (List.set (List.set cs (5) sa) (6) sb) (7) sc).map Value.int) (.int (0 : Int32)) := by
      have q : Arv Z h20 ca kc .char (Int32.ofNat cs.length) (List.set (List.map Value.int (List.set (List.set cs (5) sa) (6) sb)) (7) (.int (nar .char sc))) (.int (0 : Int32)) := Arv.set Ar19 q19 S19 M19 H19 G19 (fits_nar_char _) W20 (7) (rfl) (by simp only [List.length_map, List.length_set]; omega)
      rw [show nar .char sc = sc from own_narc rsca (own_le64k rscb)] at q
      rw [List.map_set]
      exact q
    have N20 := Fr.snoc X20 N17 (show n0 ≤ ca by omega)
    have s22 : ∀ t_, Steps p.tables e below (T20.setTop (mkF m 51 #[.val (.ref ca), .val (.int (3 : Int32)), .val (.int sa), .val (.int sb), .val (.int sc), .val (.int sd), .val (.int se)] [])) t_ → Steps p.tables e below (s₁.setTop (entryFrame m #[(.ref ca), (.int (3 : Int32)), (.int sa), (.int sb), (.int sc), (.int sd), (.int se)] 7)) t_ := fun t_ k_ => pre0 t_ (by
      show Steps p.tables e below (s₁.setTop (mkF m 0 #[.val (.ref ca), .val (.int (3 : Int32)), .val (.int sa), .val (.int sb), .val (.int sc), .val (.int sd), .val (.int se)] [])) t_
      refine XS.iloadN X0.here hx rfl (Jvm.hb hby d_method_3_0) rfl ?_
      refine XS.ifNo X0.here hx rfl (Jvm.hb hby d_method_3_1) rfl ((if0 _ _).trans (tlt (by decide : ((0 : Int32) < (3 : Int32)))).2.2.2) ?_
      show Steps p.tables e below (s₁.setTop (mkF m 4 #[.val (.ref ca), .val (.int (3 : Int32)), .val (.int sa), .val (.int sb), .val (.int sc), .val (.int sd), .val (.int se)] [])) _
      refine XS.aloadN X0.here hx rfl (Jvm.hb hby d_method_3_4) rfl rfl ?_
      refine XS.iconst X0.here hx rfl (Jvm.hb hby d_method_3_5) ?_
      refine XS.iloadN X0.here hx rfl (Jvm.hb hby d_method_3_6) rfl ?_
      refine st14 _ ?_
      show Steps p.tables e below (T14.setTop (mkF m 8 #[.val (.ref ca), .val (.int (3 : Int32)), .val (.int sa), .val (.int sb), .val (.int sc), .val (.int sd), .val (.int se)] [])) _
      refine XS.iloadN X14.here hx rfl (Jvm.hb hby d_method_3_8) rfl ?_
      refine XS.iconst X14.here hx rfl (Jvm.hb hby d_method_3_9) ?_
      refine XS.icmpNo X14.here hx rfl (Jvm.hb hby d_method_3_10) rfl (tlt (by decide : ((1 : Int32) < (3 : Int32)))).2.2.2 ?_
      show Steps p.tables e below (T14.setTop (mkF m 13 #[.val (.ref ca), .val (.int (3 : Int32)), .val (.int sa), .val (.int sb), .val (.int sc), .val (.int sd), .val (.int se)] [])) _
      refine XS.aloadN X14.here hx rfl (Jvm.hb hby d_method_3_13) rfl rfl ?_
      refine XS.bipush X14.here hx rfl (Jvm.hb hby d_method_3_14) ?_
      refine XS.iloadN X14.here hx rfl (Jvm.hb hby d_method_3_16) rfl ?_
      refine st17 _ ?_
      show Steps p.tables e below (T17.setTop (mkF m 18 #[.val (.ref ca), .val (.int (3 : Int32)), .val (.int sa), .val (.int sb), .val (.int sc), .val (.int sd), .val (.int se)] [])) _
      refine XS.iloadN X17.here hx rfl (Jvm.hb hby d_method_3_18) rfl ?_
      refine XS.iconst X17.here hx rfl (Jvm.hb hby d_method_3_19) ?_
      refine XS.icmpNo X17.here hx rfl (Jvm.hb hby d_method_3_20) rfl (tlt (by decide : ((2 : Int32) < (3 : Int32)))).2.2.2 ?_
      show Steps p.tables e below (T17.setTop (mkF m 23 #[.val (.ref ca), .val (.int (3 : Int32)), .val (.int sa), .val (.int sb), .val (.int sc), .val (.int sd), .val (.int se)] [])) _
      refine XS.aloadN X17.here hx rfl (Jvm.hb hby d_method_3_23) rfl rfl ?_
      refine XS.bipush X17.here hx rfl (Jvm.hb hby d_method_3_24) ?_
      refine XS.iload X17.here hx rfl (Jvm.hb hby d_method_3_26) rfl ?_
      refine st20 _ ?_
      show Steps p.tables e below (T20.setTop (mkF m 29 #[.val (.ref ca), .val (.int (3 : Int32)), .val (.int sa), .val (.int sb), .val (.int sc), .val (.int sd), .val (.int se)] [])) _
      refine XS.iloadN X20.here hx rfl (Jvm.hb hby d_method_3_29) rfl ?_
      refine XS.iconst X20.here hx rfl (Jvm.hb hby d_method_3_30) ?_
      refine XS.icmpYes X20.here hx rfl (pc0 := 31) (pc' := 40) rfl (Jvm.hb hby d_method_3_31) rfl (flt (by decide : ¬ ((3 : Int32) < (3 : Int32)))).2.2.2 (by decide) (by decide) ?_
      show Steps p.tables e below (T20.setTop (mkF m 40 #[.val (.ref ca), .val (.int (3 : Int32)), .val (.int sa), .val (.int sb), .val (.int sc), .val (.int sd), .val (.int se)] [])) _
      refine XS.iloadN X20.here hx rfl (Jvm.hb hby d_method_3_40) rfl ?_
      refine XS.iconst X20.here hx rfl (Jvm.hb hby d_method_3_41) ?_
      refine XS.icmpYes X20.here hx rfl (pc0 := 42) (pc' := 51) rfl (Jvm.hb hby d_method_3_42) rfl (flt (by decide : ¬ ((4 : Int32) < (3 : Int32)))).2.2.2 (by decide) (by decide) ?_
      show Steps p.tables e below (T20.setTop (mkF m 51 #[.val (.ref ca), .val (.int (3 : Int32)), .val (.int sa), .val (.int sb), .val (.int sc), .val (.int sd), .val (.int se)] [])) _
      show Steps p.tables e below (T20.setTop (mkF m 51 #[.val (.ref ca), .val (.int (3 : Int32)), .val (.int sa), .val (.int sb), .val (.int sc), .val (.int sd), .val (.int se)] [])) t_
      exact k_)
    obtain ⟨fs, hr, hrun, hended, hW, hsame⟩ := X20.leave (v := none) (fun _ => rfl)
    refine ⟨_, _, s22 _ ?_, hrun, hended, _, _, rfl, ?_, ⟨_, rfl⟩, hW, hsame.mono (by decide) (by decide)⟩
    · show Steps p.tables e below (T20.setTop (mkF m 51 #[.val (.ref ca), .val (.int (3 : Int32)), .val (.int sa), .val (.int sb), .val (.int sc), .val (.int sd), .val (.int se)] [])) _
      exact X20.returnOut hx Bd.returns (Jvm.hb hby d_method_3_51) hr
    · show Q_rmStem Z _ _ _ _ _ _ _ _ _ h0 n0 _ T20.heap _
      rw [e20]
      exact ⟨rfl, N20, ((((Keep.refl h0 [ca]).wr W14 (Or.inl (by simp))).wr W17 (Or.inl (by simp))).wr W20 (Or.inl (by simp))), V20⟩
  · have hcase := trivial
    obtain ⟨cl23, Ar23, q23, S23, M23, H23, G23⟩ := id I1
    have hin23 : ¬ ((5 : Int32) < 0 ∨ cl23.slots.size ≤ ((5 : Int32)).toNatClampNeg) := inb_of S23 (own_in (i := 5) (by omega) (by omega))
    obtain ⟨T24, h24, X24, e24, W24, st24⟩ := stC X0 hx hZ e0 Ar23 (j := (5 : Int32)) hin23 (g := (mkF m 7 #[.val (.ref ca), .val (.int (4 : Int32)), .val (.int sa), .val (.int sb), .val (.int sc), .val (.int sd), .val (.int se)] [(.int sa), (.int (5 : Int32)), (.ref ca)])) rfl rfl (Jvm.hb hby d_method_3_7)
    have z25 : h0.size ≤ h24.size := Nat.le_of_eq W24.size.symm
    have V24 : Arv Z h24 ca kc .char (Int32.ofNat cs.length) ((List.set cs (5) sa).map Value.int) (.int (0 : Int32)) := by
      have q : Arv Z h24 ca kc .char (Int32.ofNat cs.length) (List.set (List.map Value.int cs) (5) (.int (nar .char sa))) (.int (0 : Int32)) := Arv.set Ar23 q23 S23 M23 H23 G23 (fits_nar_char _) W24 (5) (rfl) (by simp only [List.length_map, List.length_set]; omega)
      rw [show nar .char sa = sa from own_narc rsaa (own_le64k rsab)] at q
      rw [List.map_set]
      exact q
    have N24 := Fr.snoc X24 N0 (show n0 ≤ ca by omega)
    obtain ⟨cl26, Ar26, q26, S26, M26, H26, G26⟩ := id V24
    have hin26 : ¬ ((6 : Int32) < 0 ∨ cl26.slots.size ≤ ((6 : Int32)).toNatClampNeg) := inb_of S26 (own_in (i := 6) (by omega) (by omega))
    obtain ⟨T27, h27, X27, e27, W27, st27⟩ := stC X24 hx hZ e24 Ar26 (j := (6 : Int32)) hin26 (g := (mkF m 17 #[.val (.ref ca), .val (.int (4 : Int32)), .val (.int sa), .val (.int sb), .val (.int sc), .val (.int sd), .val (.int se)] [(.int sb), (.int (6 : Int32)), (.ref ca)])) rfl rfl (Jvm.hb hby d_method_3_17)
    have z28 : h24.size ≤ h27.size := Nat.le_of_eq W27.size.symm
    have V27 : Arv Z h27 ca kc .char (Int32.ofNat cs.length) ((List.set (List.set cs (5) sa) (6) sb).map Value.int) (.int (0 : Int32)) := by
      have q : Arv Z h27 ca kc .char (Int32.ofNat cs.length) (List.set (List.map Value.int (List.set cs (5) sa)) (6) (.int (nar .char sb))) (.int (0 : Int32)) := Arv.set Ar26 q26 S26 M26 H26 G26 (fits_nar_char _) W27 (6) (rfl) (by simp only [List.length_map, List.length_set]; omega)
      rw [show nar .char sb = sb from own_narc rsba (own_le64k rsbb)] at q
      rw [List.map_set]
      exact q
    have N27 := Fr.snoc X27 N24 (show n0 ≤ ca by omega)
    obtain ⟨cl29, Ar29, q29, S29, M29, H29, G29⟩ := id V27
    have hin29 : ¬ ((7 : Int32) < 0 ∨ cl29.slots.size ≤ ((7 : Int32)).toNatClampNeg) := inb_of S29 (own_in (i := 7) (by omega) (by omega))
    obtain ⟨T30, h30, X30, e30, W30, st30⟩ := stC X27 hx hZ e27 Ar29 (j := (7 : Int32)) hin29 (g := (mkF m 28 #[.val (.ref ca), .val (.int (4 : Int32)), .val (.int sa), .val (.int sb), .val (.int sc), .val (.int sd), .val (.int se)] [(.int sc), (.int (7 : Int32)), (.ref ca)])) rfl rfl (Jvm.hb hby d_method_3_28)
    have z31 : h27.size ≤ h30.size := Nat.le_of_eq W30.size.symm
    have V30 : Arv Z h30 ca kc .char (Int32.ofNat cs.length) ((List.set (List.set (List.set cs (5) sa) (6) sb) (7) sc).map Value.int) (.int (0 : Int32)) := by
      have q : Arv Z h30 ca kc .char (Int32.ofNat cs.length) (List.set (List.map Value.int (List.set (List.set cs (5) sa) (6) sb)) (7) (.int (nar .char sc))) (.int (0 : Int32)) := Arv.set Ar29 q29 S29 M29 H29 G29 (fits_nar_char _) W30 (7) (rfl) (by simp only [List.length_map, List.length_set]; omega)
      rw [show nar .char sc = sc from own_narc rsca (own_le64k rscb)] at q
      rw [List.map_set]
      exact q
    have N30 := Fr.snoc X30 N27 (show n0 ≤ ca by omega)
    obtain ⟨cl32, Ar32, q32, S32, M32, H32, G32⟩ := id V30
    have hin32 : ¬ ((8 : Int32) < 0 ∨ cl32.slots.size ≤ ((8 : Int32)).toNatClampNeg) := inb_of S32 (own_in (i := 8) (by omega) (by omega))
    obtain ⟨T33, h33, X33, e33, W33, st33⟩ := stC X30 hx hZ e30 Ar32 (j := (8 : Int32)) hin32 (g := (mkF m 39 #[.val (.ref ca), .val (.int (4 : Int32)), .val (.int sa), .val (.int sb), .val (.int sc), .val (.int sd), .val (.int se)] [(.int sd), (.int (8 : Int32)), (.ref ca)])) rfl rfl (Jvm.hb hby d_method_3_39)
    have z34 : h30.size ≤ h33.size := Nat.le_of_eq W33.size.symm
    have V33 : Arv Z h33 ca kc .char (Int32.ofNat cs.length) ((List.set (List.set (List.set (List.set cs (5) sa) (6) sb) (7) sc) (8) sd).map Value.int) (.int (0 : Int32)) := by
      have q : Arv Z h33 ca kc .char (Int32.ofNat cs.length) (List.set (List.map Value.int (List.set (List.set (List.set cs (5) sa) (6) sb) (7) sc)) (8) (.int (nar .char sd))) (.int (0 : Int32)) := Arv.set Ar32 q32 S32 M32 H32 G32 (fits_nar_char _) W33 (8) (rfl) (by simp only [List.length_map, List.length_set]; omega)
      rw [show nar .char sd = sd from own_narc rsda (own_le64k rsdb)] at q
      rw [List.map_set]
      exact q
    have N33 := Fr.snoc X33 N30 (show n0 ≤ ca by omega)
    have s35 : ∀ t_, Steps p.tables e below (T33.setTop (mkF m 51 #[.val (.ref ca), .val (.int (4 : Int32)), .val (.int sa), .val (.int sb), .val (.int sc), .val (.int sd), .val (.int se)] [])) t_ → Steps p.tables e below (s₁.setTop (entryFrame m #[(.ref ca), (.int (4 : Int32)), (.int sa), (.int sb), (.int sc), (.int sd), (.int se)] 7)) t_ := fun t_ k_ => pre0 t_ (by
      show Steps p.tables e below (s₁.setTop (mkF m 0 #[.val (.ref ca), .val (.int (4 : Int32)), .val (.int sa), .val (.int sb), .val (.int sc), .val (.int sd), .val (.int se)] [])) t_
      refine XS.iloadN X0.here hx rfl (Jvm.hb hby d_method_3_0) rfl ?_
      refine XS.ifNo X0.here hx rfl (Jvm.hb hby d_method_3_1) rfl ((if0 _ _).trans (tlt (by decide : ((0 : Int32) < (4 : Int32)))).2.2.2) ?_
      show Steps p.tables e below (s₁.setTop (mkF m 4 #[.val (.ref ca), .val (.int (4 : Int32)), .val (.int sa), .val (.int sb), .val (.int sc), .val (.int sd), .val (.int se)] [])) _
      refine XS.aloadN X0.here hx rfl (Jvm.hb hby d_method_3_4) rfl rfl ?_
      refine XS.iconst X0.here hx rfl (Jvm.hb hby d_method_3_5) ?_
      refine XS.iloadN X0.here hx rfl (Jvm.hb hby d_method_3_6) rfl ?_
      refine st24 _ ?_
      show Steps p.tables e below (T24.setTop (mkF m 8 #[.val (.ref ca), .val (.int (4 : Int32)), .val (.int sa), .val (.int sb), .val (.int sc), .val (.int sd), .val (.int se)] [])) _
      refine XS.iloadN X24.here hx rfl (Jvm.hb hby d_method_3_8) rfl ?_
      refine XS.iconst X24.here hx rfl (Jvm.hb hby d_method_3_9) ?_
      refine XS.icmpNo X24.here hx rfl (Jvm.hb hby d_method_3_10) rfl (tlt (by decide : ((1 : Int32) < (4 : Int32)))).2.2.2 ?_
      show Steps p.tables e below (T24.setTop (mkF m 13 #[.val (.ref ca), .val (.int (4 : Int32)), .val (.int sa), .val (.int sb), .val (.int sc), .val (.int sd), .val (.int se)] [])) _
      refine XS.aloadN X24.here hx rfl (Jvm.hb hby d_method_3_13) rfl rfl ?_
      refine XS.bipush X24.here hx rfl (Jvm.hb hby d_method_3_14) ?_
      refine XS.iloadN X24.here hx rfl (Jvm.hb hby d_method_3_16) rfl ?_
      refine st27 _ ?_
      show Steps p.tables e below (T27.setTop (mkF m 18 #[.val (.ref ca), .val (.int (4 : Int32)), .val (.int sa), .val (.int sb), .val (.int sc), .val (.int sd), .val (.int se)] [])) _
      refine XS.iloadN X27.here hx rfl (Jvm.hb hby d_method_3_18) rfl ?_
      refine XS.iconst X27.here hx rfl (Jvm.hb hby d_method_3_19) ?_
      refine XS.icmpNo X27.here hx rfl (Jvm.hb hby d_method_3_20) rfl (tlt (by decide : ((2 : Int32) < (4 : Int32)))).2.2.2 ?_
      show Steps p.tables e below (T27.setTop (mkF m 23 #[.val (.ref ca), .val (.int (4 : Int32)), .val (.int sa), .val (.int sb), .val (.int sc), .val (.int sd), .val (.int se)] [])) _
      refine XS.aloadN X27.here hx rfl (Jvm.hb hby d_method_3_23) rfl rfl ?_
      refine XS.bipush X27.here hx rfl (Jvm.hb hby d_method_3_24) ?_
      refine XS.iload X27.here hx rfl (Jvm.hb hby d_method_3_26) rfl ?_
      refine st30 _ ?_
      show Steps p.tables e below (T30.setTop (mkF m 29 #[.val (.ref ca), .val (.int (4 : Int32)), .val (.int sa), .val (.int sb), .val (.int sc), .val (.int sd), .val (.int se)] [])) _
      refine XS.iloadN X30.here hx rfl (Jvm.hb hby d_method_3_29) rfl ?_
      refine XS.iconst X30.here hx rfl (Jvm.hb hby d_method_3_30) ?_
      refine XS.icmpNo X30.here hx rfl (Jvm.hb hby d_method_3_31) rfl (tlt (by decide : ((3 : Int32) < (4 : Int32)))).2.2.2 ?_
      show Steps p.tables e below (T30.setTop (mkF m 34 #[.val (.ref ca), .val (.int (4 : Int32)), .val (.int sa), .val (.int sb), .val (.int sc), .val (.int sd), .val (.int se)] [])) _
      refine XS.aloadN X30.here hx rfl (Jvm.hb hby d_method_3_34) rfl rfl ?_
      refine XS.bipush X30.here hx rfl (Jvm.hb hby d_method_3_35) ?_
      refine XS.iload X30.here hx rfl (Jvm.hb hby d_method_3_37) rfl ?_
      refine st33 _ ?_
      show Steps p.tables e below (T33.setTop (mkF m 40 #[.val (.ref ca), .val (.int (4 : Int32)), .val (.int sa), .val (.int sb), .val (.int sc), .val (.int sd), .val (.int se)] [])) _
      refine XS.iloadN X33.here hx rfl (Jvm.hb hby d_method_3_40) rfl ?_
      refine XS.iconst X33.here hx rfl (Jvm.hb hby d_method_3_41) ?_
      refine XS.icmpYes X33.here hx rfl (pc0 := 42) (pc' := 51) rfl (Jvm.hb hby d_method_3_42) rfl (flt (by decide : ¬ ((4 : Int32) < (4 : Int32)))).2.2.2 (by decide) (by decide) ?_
      show Steps p.tables e below (T33.setTop (mkF m 51 #[.val (.ref ca), .val (.int (4 : Int32)), .val (.int sa), .val (.int sb), .val (.int sc), .val (.int sd), .val (.int se)] [])) _
      show Steps p.tables e below (T33.setTop (mkF m 51 #[.val (.ref ca), .val (.int (4 : Int32)), .val (.int sa), .val (.int sb), .val (.int sc), .val (.int sd), .val (.int se)] [])) t_
      exact k_)
    obtain ⟨fs, hr, hrun, hended, hW, hsame⟩ := X33.leave (v := none) (fun _ => rfl)
    refine ⟨_, _, s35 _ ?_, hrun, hended, _, _, rfl, ?_, ⟨_, rfl⟩, hW, hsame.mono (by decide) (by decide)⟩
    · show Steps p.tables e below (T33.setTop (mkF m 51 #[.val (.ref ca), .val (.int (4 : Int32)), .val (.int sa), .val (.int sb), .val (.int sc), .val (.int sd), .val (.int se)] [])) _
      exact X33.returnOut hx Bd.returns (Jvm.hb hby d_method_3_51) hr
    · show Q_rmStem Z _ _ _ _ _ _ _ _ _ h0 n0 _ T33.heap _
      rw [e33]
      exact ⟨rfl, N33, (((((Keep.refl h0 [ca]).wr W24 (Or.inl (by simp))).wr W27 (Or.inl (by simp))).wr W30 (Or.inl (by simp))).wr W33 (Or.inl (by simp))), V33⟩
  · have hcase := trivial
    obtain ⟨cl36, Ar36, q36, S36, M36, H36, G36⟩ := id I1
    have hin36 : ¬ ((5 : Int32) < 0 ∨ cl36.slots.size ≤ ((5 : Int32)).toNatClampNeg) := inb_of S36 (own_in (i := 5) (by omega) (by omega))
    obtain ⟨T37, h37, X37, e37, W37, st37⟩ := stC X0 hx hZ e0 Ar36 (j := (5 : Int32)) hin36 (g := (mkF m 7 #[.val (.ref ca), .val (.int (5 : Int32)), .val (.int sa), .val (.int sb), .val (.int sc), .val (.int sd), .val (.int se)] [(.int sa), (.int (5 : Int32)), (.ref ca)])) rfl rfl (Jvm.hb hby d_method_3_7)
    have z38 : h0.size ≤ h37.size := Nat.le_of_eq W37.size.symm
    have V37 : Arv Z h37 ca kc .char (Int32.ofNat cs.length) ((List.set cs (5) sa).map Value.int) (.int (0 : Int32)) := by
      have q : Arv Z h37 ca kc .char (Int32.ofNat cs.length) (List.set (List.map Value.int cs) (5) (.int (nar .char sa))) (.int (0 : Int32)) := Arv.set Ar36 q36 S36 M36 H36 G36 (fits_nar_char _) W37 (5) (rfl) (by simp only [List.length_map, List.length_set]; omega)
      rw [show nar .char sa = sa from own_narc rsaa (own_le64k rsab)] at q
      rw [List.map_set]
      exact q
    have N37 := Fr.snoc X37 N0 (show n0 ≤ ca by omega)
    obtain ⟨cl39, Ar39, q39, S39, M39, H39, G39⟩ := id V37
    have hin39 : ¬ ((6 : Int32) < 0 ∨ cl39.slots.size ≤ ((6 : Int32)).toNatClampNeg) := inb_of S39 (own_in (i := 6) (by omega) (by omega))
    obtain ⟨T40, h40, X40, e40, W40, st40⟩ := stC X37 hx hZ e37 Ar39 (j := (6 : Int32)) hin39 (g := (mkF m 17 #[.val (.ref ca), .val (.int (5 : Int32)), .val (.int sa), .val (.int sb), .val (.int sc), .val (.int sd), .val (.int se)] [(.int sb), (.int (6 : Int32)), (.ref ca)])) rfl rfl (Jvm.hb hby d_method_3_17)
    have z41 : h37.size ≤ h40.size := Nat.le_of_eq W40.size.symm
    have V40 : Arv Z h40 ca kc .char (Int32.ofNat cs.length) ((List.set (List.set cs (5) sa) (6) sb).map Value.int) (.int (0 : Int32)) := by
      have q : Arv Z h40 ca kc .char (Int32.ofNat cs.length) (List.set (List.map Value.int (List.set cs (5) sa)) (6) (.int (nar .char sb))) (.int (0 : Int32)) := Arv.set Ar39 q39 S39 M39 H39 G39 (fits_nar_char _) W40 (6) (rfl) (by simp only [List.length_map, List.length_set]; omega)
      rw [show nar .char sb = sb from own_narc rsba (own_le64k rsbb)] at q
      rw [List.map_set]
      exact q
    have N40 := Fr.snoc X40 N37 (show n0 ≤ ca by omega)
    obtain ⟨cl42, Ar42, q42, S42, M42, H42, G42⟩ := id V40
    have hin42 : ¬ ((7 : Int32) < 0 ∨ cl42.slots.size ≤ ((7 : Int32)).toNatClampNeg) := inb_of S42 (own_in (i := 7) (by omega) (by omega))
    obtain ⟨T43, h43, X43, e43, W43, st43⟩ := stC X40 hx hZ e40 Ar42 (j := (7 : Int32)) hin42 (g := (mkF m 28 #[.val (.ref ca), .val (.int (5 : Int32)), .val (.int sa), .val (.int sb), .val (.int sc), .val (.int sd), .val (.int se)] [(.int sc), (.int (7 : Int32)), (.ref ca)])) rfl rfl (Jvm.hb hby d_method_3_28)
    have z44 : h40.size ≤ h43.size := Nat.le_of_eq W43.size.symm
    have V43 : Arv Z h43 ca kc .char (Int32.ofNat cs.length) ((List.set (List.set (List.set cs (5) sa) (6) sb) (7) sc).map Value.int) (.int (0 : Int32)) := by
      have q : Arv Z h43 ca kc .char (Int32.ofNat cs.length) (List.set (List.map Value.int (List.set (List.set cs (5) sa) (6) sb)) (7) (.int (nar .char sc))) (.int (0 : Int32)) := Arv.set Ar42 q42 S42 M42 H42 G42 (fits_nar_char _) W43 (7) (rfl) (by simp only [List.length_map, List.length_set]; omega)
      rw [show nar .char sc = sc from own_narc rsca (own_le64k rscb)] at q
      rw [List.map_set]
      exact q
    have N43 := Fr.snoc X43 N40 (show n0 ≤ ca by omega)
    obtain ⟨cl45, Ar45, q45, S45, M45, H45, G45⟩ := id V43
    have hin45 : ¬ ((8 : Int32) < 0 ∨ cl45.slots.size ≤ ((8 : Int32)).toNatClampNeg) := inb_of S45 (own_in (i := 8) (by omega) (by omega))
    obtain ⟨T46, h46, X46, e46, W46, st46⟩ := stC X43 hx hZ e43 Ar45 (j := (8 : Int32)) hin45 (g := (mkF m 39 #[.val (.ref ca), .val (.int (5 : Int32)), .val (.int sa), .val (.int sb), .val (.int sc), .val (.int sd), .val (.int se)] [(.int sd), (.int (8 : Int32)), (.ref ca)])) rfl rfl (Jvm.hb hby d_method_3_39)
    have z47 : h43.size ≤ h46.size := Nat.le_of_eq W46.size.symm
    have V46 : Arv Z h46 ca kc .char (Int32.ofNat cs.length) ((List.set (List.set (List.set (List.set cs (5) sa) (6) sb) (7) sc) (8) sd).map Value.int) (.int (0 : Int32)) := by
      have q : Arv Z h46 ca kc .char (Int32.ofNat cs.length) (List.set (List.map Value.int (List.set (List.set (List.set cs (5) sa) (6) sb) (7) sc)) (8) (.int (nar .char sd))) (.int (0 : Int32)) := Arv.set Ar45 q45 S45 M45 H45 G45 (fits_nar_char _) W46 (8) (rfl) (by simp only [List.length_map, List.length_set]; omega)
      rw [show nar .char sd = sd from own_narc rsda (own_le64k rsdb)] at q
      rw [List.map_set]
      exact q
    have N46 := Fr.snoc X46 N43 (show n0 ≤ ca by omega)
    obtain ⟨cl48, Ar48, q48, S48, M48, H48, G48⟩ := id V46
    have hin48 : ¬ ((9 : Int32) < 0 ∨ cl48.slots.size ≤ ((9 : Int32)).toNatClampNeg) := inb_of S48 (own_in (i := 9) (by omega) (by omega))
    obtain ⟨T49, h49, X49, e49, W49, st49⟩ := stC X46 hx hZ e46 Ar48 (j := (9 : Int32)) hin48 (g := (mkF m 50 #[.val (.ref ca), .val (.int (5 : Int32)), .val (.int sa), .val (.int sb), .val (.int sc), .val (.int sd), .val (.int se)] [(.int se), (.int (9 : Int32)), (.ref ca)])) rfl rfl (Jvm.hb hby d_method_3_50)
    have z50 : h46.size ≤ h49.size := Nat.le_of_eq W49.size.symm
    have V49 : Arv Z h49 ca kc .char (Int32.ofNat cs.length) ((List.set (List.set (List.set (List.set (List.set cs (5) sa) (6) sb) (7) sc) (8) sd) (9) se).map Value.int) (.int (0 : Int32)) := by
      have q : Arv Z h49 ca kc .char (Int32.ofNat cs.length) (List.set (List.map Value.int (List.set (List.set (List.set (List.set cs (5) sa) (6) sb) (7) sc) (8) sd)) (9) (.int (nar .char se))) (.int (0 : Int32)) := Arv.set Ar48 q48 S48 M48 H48 G48 (fits_nar_char _) W49 (9) (rfl) (by simp only [List.length_map, List.length_set]; omega)
      rw [show nar .char se = se from own_narc rsea (own_le64k rseb)] at q
      rw [List.map_set]
      exact q
    have N49 := Fr.snoc X49 N46 (show n0 ≤ ca by omega)
    have s51 : ∀ t_, Steps p.tables e below (T49.setTop (mkF m 51 #[.val (.ref ca), .val (.int (5 : Int32)), .val (.int sa), .val (.int sb), .val (.int sc), .val (.int sd), .val (.int se)] [])) t_ → Steps p.tables e below (s₁.setTop (entryFrame m #[(.ref ca), (.int (5 : Int32)), (.int sa), (.int sb), (.int sc), (.int sd), (.int se)] 7)) t_ := fun t_ k_ => pre0 t_ (by
      show Steps p.tables e below (s₁.setTop (mkF m 0 #[.val (.ref ca), .val (.int (5 : Int32)), .val (.int sa), .val (.int sb), .val (.int sc), .val (.int sd), .val (.int se)] [])) t_
      refine XS.iloadN X0.here hx rfl (Jvm.hb hby d_method_3_0) rfl ?_
      refine XS.ifNo X0.here hx rfl (Jvm.hb hby d_method_3_1) rfl ((if0 _ _).trans (tlt (by decide : ((0 : Int32) < (5 : Int32)))).2.2.2) ?_
      show Steps p.tables e below (s₁.setTop (mkF m 4 #[.val (.ref ca), .val (.int (5 : Int32)), .val (.int sa), .val (.int sb), .val (.int sc), .val (.int sd), .val (.int se)] [])) _
      refine XS.aloadN X0.here hx rfl (Jvm.hb hby d_method_3_4) rfl rfl ?_
      refine XS.iconst X0.here hx rfl (Jvm.hb hby d_method_3_5) ?_
      refine XS.iloadN X0.here hx rfl (Jvm.hb hby d_method_3_6) rfl ?_
      refine st37 _ ?_
      show Steps p.tables e below (T37.setTop (mkF m 8 #[.val (.ref ca), .val (.int (5 : Int32)), .val (.int sa), .val (.int sb), .val (.int sc), .val (.int sd), .val (.int se)] [])) _
      refine XS.iloadN X37.here hx rfl (Jvm.hb hby d_method_3_8) rfl ?_
      refine XS.iconst X37.here hx rfl (Jvm.hb hby d_method_3_9) ?_
      refine XS.icmpNo X37.here hx rfl (Jvm.hb hby d_method_3_10) rfl (tlt (by decide : ((1 : Int32) < (5 : Int32)))).2.2.2 ?_
      show Steps p.tables e below (T37.setTop (mkF m 13 #[.val (.ref ca), .val (.int (5 : Int32)), .val (.int sa), .val (.int sb), .val (.int sc), .val (.int sd), .val (.int se)] [])) _
      refine XS.aloadN X37.here hx rfl (Jvm.hb hby d_method_3_13) rfl rfl ?_
      refine XS.bipush X37.here hx rfl (Jvm.hb hby d_method_3_14) ?_
      refine XS.iloadN X37.here hx rfl (Jvm.hb hby d_method_3_16) rfl ?_
      refine st40 _ ?_
      show Steps p.tables e below (T40.setTop (mkF m 18 #[.val (.ref ca), .val (.int (5 : Int32)), .val (.int sa), .val (.int sb), .val (.int sc), .val (.int sd), .val (.int se)] [])) _
      refine XS.iloadN X40.here hx rfl (Jvm.hb hby d_method_3_18) rfl ?_
      refine XS.iconst X40.here hx rfl (Jvm.hb hby d_method_3_19) ?_
      refine XS.icmpNo X40.here hx rfl (Jvm.hb hby d_method_3_20) rfl (tlt (by decide : ((2 : Int32) < (5 : Int32)))).2.2.2 ?_
      show Steps p.tables e below (T40.setTop (mkF m 23 #[.val (.ref ca), .val (.int (5 : Int32)), .val (.int sa), .val (.int sb), .val (.int sc), .val (.int sd), .val (.int se)] [])) _
      refine XS.aloadN X40.here hx rfl (Jvm.hb hby d_method_3_23) rfl rfl ?_
      refine XS.bipush X40.here hx rfl (Jvm.hb hby d_method_3_24) ?_
      refine XS.iload X40.here hx rfl (Jvm.hb hby d_method_3_26) rfl ?_
      refine st43 _ ?_
      show Steps p.tables e below (T43.setTop (mkF m 29 #[.val (.ref ca), .val (.int (5 : Int32)), .val (.int sa), .val (.int sb), .val (.int sc), .val (.int sd), .val (.int se)] [])) _
      refine XS.iloadN X43.here hx rfl (Jvm.hb hby d_method_3_29) rfl ?_
      refine XS.iconst X43.here hx rfl (Jvm.hb hby d_method_3_30) ?_
      refine XS.icmpNo X43.here hx rfl (Jvm.hb hby d_method_3_31) rfl (tlt (by decide : ((3 : Int32) < (5 : Int32)))).2.2.2 ?_
      show Steps p.tables e below (T43.setTop (mkF m 34 #[.val (.ref ca), .val (.int (5 : Int32)), .val (.int sa), .val (.int sb), .val (.int sc), .val (.int sd), .val (.int se)] [])) _
      refine XS.aloadN X43.here hx rfl (Jvm.hb hby d_method_3_34) rfl rfl ?_
      refine XS.bipush X43.here hx rfl (Jvm.hb hby d_method_3_35) ?_
      refine XS.iload X43.here hx rfl (Jvm.hb hby d_method_3_37) rfl ?_
      refine st46 _ ?_
      show Steps p.tables e below (T46.setTop (mkF m 40 #[.val (.ref ca), .val (.int (5 : Int32)), .val (.int sa), .val (.int sb), .val (.int sc), .val (.int sd), .val (.int se)] [])) _
      refine XS.iloadN X46.here hx rfl (Jvm.hb hby d_method_3_40) rfl ?_
      refine XS.iconst X46.here hx rfl (Jvm.hb hby d_method_3_41) ?_
      refine XS.icmpNo X46.here hx rfl (Jvm.hb hby d_method_3_42) rfl (tlt (by decide : ((4 : Int32) < (5 : Int32)))).2.2.2 ?_
      show Steps p.tables e below (T46.setTop (mkF m 45 #[.val (.ref ca), .val (.int (5 : Int32)), .val (.int sa), .val (.int sb), .val (.int sc), .val (.int sd), .val (.int se)] [])) _
      refine XS.aloadN X46.here hx rfl (Jvm.hb hby d_method_3_45) rfl rfl ?_
      refine XS.bipush X46.here hx rfl (Jvm.hb hby d_method_3_46) ?_
      refine XS.iload X46.here hx rfl (Jvm.hb hby d_method_3_48) rfl ?_
      refine st49 _ ?_
      show Steps p.tables e below (T49.setTop (mkF m 51 #[.val (.ref ca), .val (.int (5 : Int32)), .val (.int sa), .val (.int sb), .val (.int sc), .val (.int sd), .val (.int se)] [])) _
      show Steps p.tables e below (T49.setTop (mkF m 51 #[.val (.ref ca), .val (.int (5 : Int32)), .val (.int sa), .val (.int sb), .val (.int sc), .val (.int sd), .val (.int se)] [])) t_
      exact k_)
    obtain ⟨fs, hr, hrun, hended, hW, hsame⟩ := X49.leave (v := none) (fun _ => rfl)
    refine ⟨_, _, s51 _ ?_, hrun, hended, _, _, rfl, ?_, ⟨_, rfl⟩, hW, hsame.mono (by decide) (by decide)⟩
    · show Steps p.tables e below (T49.setTop (mkF m 51 #[.val (.ref ca), .val (.int (5 : Int32)), .val (.int sa), .val (.int sb), .val (.int sc), .val (.int sd), .val (.int se)] [])) _
      exact X49.returnOut hx Bd.returns (Jvm.hb hby d_method_3_51) hr
    · show Q_rmStem Z _ _ _ _ _ _ _ _ _ h0 n0 _ T49.heap _
      rw [e49]
      exact ⟨rfl, N49, ((((((Keep.refl h0 [ca]).wr W37 (Or.inl (by simp))).wr W40 (Or.inl (by simp))).wr W43 (Or.inl (by simp))).wr W46 (Or.inl (by simp))).wr W49 (Or.inl (by simp))), V49⟩
theorem d_method_4_0 : decode method_4_code 0 = .ok (.aload_n 0, 1) := by decide +kernel
theorem d_method_4_1 : decode method_4_code 1 = .ok (.iload_n 1, 1) := by decide +kernel
theorem d_method_4_2 : decode method_4_code 2 = .ok (.bipush 46, 2) := by decide +kernel
theorem d_method_4_4 : decode method_4_code 4 = .ok (.castore, 1) := by decide +kernel
theorem d_method_4_5 : decode method_4_code 5 = .ok (.iload_n 2, 1) := by decide +kernel
theorem d_method_4_6 : decode method_4_code 6 = .ok (.ifCond .eq 34, 3) := by decide +kernel
theorem d_method_4_40 : decode method_4_code 40 = .ok (.aload_n 0, 1) := by decide +kernel
theorem d_method_4_41 : decode method_4_code 41 = .ok (.iload_n 1, 1) := by decide +kernel
theorem d_method_4_42 : decode method_4_code 42 = .ok (.iconst 1, 1) := by decide +kernel
theorem d_method_4_43 : decode method_4_code 43 = .ok (.iadd, 1) := by decide +kernel
theorem d_method_4_44 : decode method_4_code 44 = .ok (.bipush 106, 2) := by decide +kernel
theorem d_method_4_46 : decode method_4_code 46 = .ok (.castore, 1) := by decide +kernel
theorem d_method_4_47 : decode method_4_code 47 = .ok (.aload_n 0, 1) := by decide +kernel
theorem d_method_4_48 : decode method_4_code 48 = .ok (.iload_n 1, 1) := by decide +kernel
theorem d_method_4_49 : decode method_4_code 49 = .ok (.iconst 2, 1) := by decide +kernel
theorem d_method_4_50 : decode method_4_code 50 = .ok (.iadd, 1) := by decide +kernel
theorem d_method_4_51 : decode method_4_code 51 = .ok (.bipush 115, 2) := by decide +kernel
theorem d_method_4_53 : decode method_4_code 53 = .ok (.castore, 1) := by decide +kernel
theorem d_method_4_54 : decode method_4_code 54 = .ok (.aload_n 0, 1) := by decide +kernel
theorem d_method_4_55 : decode method_4_code 55 = .ok (.iload_n 1, 1) := by decide +kernel
theorem d_method_4_56 : decode method_4_code 56 = .ok (.iconst 3, 1) := by decide +kernel
theorem d_method_4_57 : decode method_4_code 57 = .ok (.iadd, 1) := by decide +kernel
theorem d_method_4_58 : decode method_4_code 58 = .ok (.bipush 111, 2) := by decide +kernel
theorem d_method_4_60 : decode method_4_code 60 = .ok (.castore, 1) := by decide +kernel
theorem d_method_4_61 : decode method_4_code 61 = .ok (.aload_n 0, 1) := by decide +kernel
theorem d_method_4_62 : decode method_4_code 62 = .ok (.iload_n 1, 1) := by decide +kernel
theorem d_method_4_63 : decode method_4_code 63 = .ok (.iconst 4, 1) := by decide +kernel
theorem d_method_4_64 : decode method_4_code 64 = .ok (.iadd, 1) := by decide +kernel
theorem d_method_4_65 : decode method_4_code 65 = .ok (.bipush 110, 2) := by decide +kernel
theorem d_method_4_67 : decode method_4_code 67 = .ok (.castore, 1) := by decide +kernel
theorem d_method_4_68 : decode method_4_code 68 = .ok (.return_, 1) := by decide +kernel
theorem ef_rmSufJ (m : MethodId) (x0 : Addr) (x1 : Int32) (x2 : Int32) : entryFrame m #[(.ref x0), (.int x1), (.int x2)] 3 = mkF m 0 #[.val (.ref x0), .val (.int x1), .val (.int x2)] [] := by first | (simp [entryFrame, mkF, argsToLocals, Value.category]; done) | rfl
def Q_rmSufJ (Z : State) (ca : Addr) (kc : ClassId) (cs : List Int32) (o : Nat) (h0 : Heap) (n0 : Nat) (v : Option Value) (h : Heap) (L : List Loc) : Prop := (v = none) ∧ (Fr n0 L) ∧ (Keep h0 h [ca]) ∧ (Arv Z h ca kc .char (Int32.ofNat cs.length) ((List.set (List.set (List.set (List.set (List.set cs (o) (46 : Int32)) (o + 1) (106 : Int32)) (o + 2) (115 : Int32)) (o + 3) (111 : Int32)) (o + 4) (110 : Int32)).map Value.int) (.int (0 : Int32)))
set_option maxRecDepth 65536 in
set_option maxHeartbeats 40000000 in
theorem rmSufJ (l : Launch) (Z : State) (a0 : Array Value) (hw : ∀ d ∈ tables_1, d.before a0 Z = true) (ws : List Jvm.Cond) (ca : Addr) (kc : ClassId) (cs : List Int32) (o : Nat) (h0 : Heap) (n0 : Nat) (Z0 : n0 ≤ h0.size) (I1 : Arv Z h0 ca kc .char (Int32.ofNat cs.length) (cs.map Value.int) (.int (0 : Int32))) (gc : n0 ≤ ca) (hl10 : 10 ≤ cs.length) (hl15 : cs.length ≤ 15) (ho : o + 5 ≤ cs.length) :
    MetFree l (⟨"io/dyeline/store/LayoutTagFilePinLaw", "putSuffix", "([CIZ)V"⟩ : MethodName) (head1 (Jvm.Cond.code (⟨"io/dyeline/store/LayoutTagFilePinLaw", "putSuffix", "([CIZ)V"⟩ : MethodName) method_4_code 3 none :: ws) ({ frames := 0, cells := 0, slots := 0, locals := 0 } : Room)) (fun ar_ U => ar_ = #[(.ref ca), (.int (Int32.ofNat o)), (.int (0 : Int32))] ∧ Z.Warmed39 U.vm ∧ U.heap = h0) (fun _ _ _ _ _ => True) (fun _ U oc_ U' => ∃ v L, oc_ = .returned v ∧ Q_rmSufJ Z ca kc cs o h0 n0 v U'.heap L ∧ FrameEnd U oc_ U' L ({ frames := 0, cells := 0, slots := 0, locals := 0 } : Room).cells ({ frames := 0, cells := 0, slots := 0, locals := 0 } : Room).slots) := by
  refine MetFree.of_bodySF (plainFor_of_name pn_io_dyeline_store_LayoutTagFilePinLaw) hisR ?_
  intro p e s m args below meth c s₁ Bd hml0 hP hK
  obtain ⟨rfl, hZ, hh⟩ := hP
  have hx := Bd.exec
  have hby := Bd.bytes
  have hml : c.maxLocals = 3 := hml0
  have hown : s.vm.findClass "io/dyeline/store/LayoutTagFilePinLaw" = some m.cls := findClass_of_methodNamed Bd.named
  have hnm := (name_of_methodNamed Bd.named Bd.method).1
  have X0 : Stand p l e ({ frames := 0, cells := 0, slots := 0, locals := 0 } : Room) s m #[(.ref ca), (.int (Int32.ofNat o)), (.int (0 : Int32))] below meth c s₁ [] 0 0 := Stand.of_body Bd
  have e0 : s₁.heap = h0 := by rw [← hh, Bd.state]; rfl
  have N0 := Fr.nil n0
  have pre0 : ∀ t_, Steps p.tables e below (s₁.setTop (mkF m 0 #[.val (.ref ca), .val (.int (Int32.ofNat o)), .val (.int (0 : Int32))] [])) t_ → Steps p.tables e below (s₁.setTop (entryFrame m #[(.ref ca), (.int (Int32.ofNat o)), (.int (0 : Int32))] 3)) t_ := fun t_ k_ => castTop (ef_rmSufJ m ca (Int32.ofNat o) (0 : Int32)) k_
  have lt_I1 : @LT.lt Nat _ ca h0.size := I1.lt
  obtain ⟨cl1, Ar1, q1, S1, M1, H1, G1⟩ := id I1
  have hin1 : ¬ ((Int32.ofNat o) < 0 ∨ cl1.slots.size ≤ ((Int32.ofNat o)).toNatClampNeg) := inb_of S1 (own_in (by omega) (by omega))
  obtain ⟨T2, h2, X2, e2, W2, st2⟩ := stC X0 hx hZ e0 Ar1 (j := (Int32.ofNat o)) hin1 (g := (mkF m 4 #[.val (.ref ca), .val (.int (Int32.ofNat o)), .val (.int (0 : Int32))] [(.int (46 : Int32)), (.int (Int32.ofNat o)), (.ref ca)])) rfl rfl (Jvm.hb hby d_method_4_4)
  have z3 : h0.size ≤ h2.size := Nat.le_of_eq W2.size.symm
  have V2 : Arv Z h2 ca kc .char (Int32.ofNat cs.length) ((List.set cs (o) (46 : Int32)).map Value.int) (.int (0 : Int32)) := by
    have q : Arv Z h2 ca kc .char (Int32.ofNat cs.length) (List.set (List.map Value.int cs) (o) (.int (nar .char (46 : Int32)))) (.int (0 : Int32)) := Arv.set Ar1 q1 S1 M1 H1 G1 (fits_nar_char _) W2 (o) (own_tn (by omega)) (by simp only [List.length_map, List.length_set]; omega)
    rw [show nar .char (46 : Int32) = (46 : Int32) from rfl] at q
    rw [List.map_set]
    exact q
  have N2 := Fr.snoc X2 N0 (show n0 ≤ ca by omega)
  obtain ⟨cl4, Ar4, q4, S4, M4, H4, G4⟩ := id V2
  have hin4 : ¬ ((Int32.ofNat (o + 1)) < 0 ∨ cl4.slots.size ≤ ((Int32.ofNat (o + 1))).toNatClampNeg) := inb_of S4 (own_in (by omega) (by omega))
  obtain ⟨T5, h5, X5, e5, W5, st5⟩ := stC X2 hx hZ e2 Ar4 (j := (Int32.ofNat (o + 1))) hin4 (g := (mkF m 46 #[.val (.ref ca), .val (.int (Int32.ofNat o)), .val (.int (0 : Int32))] [(.int (106 : Int32)), (.int (Int32.ofNat (o + 1))), (.ref ca)])) rfl rfl (Jvm.hb hby d_method_4_46)
  have z6 : h2.size ≤ h5.size := Nat.le_of_eq W5.size.symm
  have V5 : Arv Z h5 ca kc .char (Int32.ofNat cs.length) ((List.set (List.set cs (o) (46 : Int32)) ((o + 1)) (106 : Int32)).map Value.int) (.int (0 : Int32)) := by
    have q : Arv Z h5 ca kc .char (Int32.ofNat cs.length) (List.set (List.map Value.int (List.set cs (o) (46 : Int32))) ((o + 1)) (.int (nar .char (106 : Int32)))) (.int (0 : Int32)) := Arv.set Ar4 q4 S4 M4 H4 G4 (fits_nar_char _) W5 ((o + 1)) (own_tn (by omega)) (by simp only [List.length_map, List.length_set]; omega)
    rw [show nar .char (106 : Int32) = (106 : Int32) from rfl] at q
    rw [List.map_set]
    exact q
  have N5 := Fr.snoc X5 N2 (show n0 ≤ ca by omega)
  obtain ⟨cl7, Ar7, q7, S7, M7, H7, G7⟩ := id V5
  have hin7 : ¬ ((Int32.ofNat (o + 2)) < 0 ∨ cl7.slots.size ≤ ((Int32.ofNat (o + 2))).toNatClampNeg) := inb_of S7 (own_in (by omega) (by omega))
  obtain ⟨T8, h8, X8, e8, W8, st8⟩ := stC X5 hx hZ e5 Ar7 (j := (Int32.ofNat (o + 2))) hin7 (g := (mkF m 53 #[.val (.ref ca), .val (.int (Int32.ofNat o)), .val (.int (0 : Int32))] [(.int (115 : Int32)), (.int (Int32.ofNat (o + 2))), (.ref ca)])) rfl rfl (Jvm.hb hby d_method_4_53)
  have z9 : h5.size ≤ h8.size := Nat.le_of_eq W8.size.symm
  have V8 : Arv Z h8 ca kc .char (Int32.ofNat cs.length) ((List.set (List.set (List.set cs (o) (46 : Int32)) ((o + 1)) (106 : Int32)) ((o + 2)) (115 : Int32)).map Value.int) (.int (0 : Int32)) := by
    have q : Arv Z h8 ca kc .char (Int32.ofNat cs.length) (List.set (List.map Value.int (List.set (List.set cs (o) (46 : Int32)) ((o + 1)) (106 : Int32))) ((o + 2)) (.int (nar .char (115 : Int32)))) (.int (0 : Int32)) := Arv.set Ar7 q7 S7 M7 H7 G7 (fits_nar_char _) W8 ((o + 2)) (own_tn (by omega)) (by simp only [List.length_map, List.length_set]; omega)
    rw [show nar .char (115 : Int32) = (115 : Int32) from rfl] at q
    rw [List.map_set]
    exact q
  have N8 := Fr.snoc X8 N5 (show n0 ≤ ca by omega)
  obtain ⟨cl10, Ar10, q10, S10, M10, H10, G10⟩ := id V8
  have hin10 : ¬ ((Int32.ofNat (o + 3)) < 0 ∨ cl10.slots.size ≤ ((Int32.ofNat (o + 3))).toNatClampNeg) := inb_of S10 (own_in (by omega) (by omega))
  obtain ⟨T11, h11, X11, e11, W11, st11⟩ := stC X8 hx hZ e8 Ar10 (j := (Int32.ofNat (o + 3))) hin10 (g := (mkF m 60 #[.val (.ref ca), .val (.int (Int32.ofNat o)), .val (.int (0 : Int32))] [(.int (111 : Int32)), (.int (Int32.ofNat (o + 3))), (.ref ca)])) rfl rfl (Jvm.hb hby d_method_4_60)
  have z12 : h8.size ≤ h11.size := Nat.le_of_eq W11.size.symm
  have V11 : Arv Z h11 ca kc .char (Int32.ofNat cs.length) ((List.set (List.set (List.set (List.set cs (o) (46 : Int32)) ((o + 1)) (106 : Int32)) ((o + 2)) (115 : Int32)) ((o + 3)) (111 : Int32)).map Value.int) (.int (0 : Int32)) := by
    have q : Arv Z h11 ca kc .char (Int32.ofNat cs.length) (List.set (List.map Value.int (List.set (List.set (List.set cs (o) (46 : Int32)) ((o + 1)) (106 : Int32)) ((o + 2)) (115 : Int32))) ((o + 3)) (.int (nar .char (111 : Int32)))) (.int (0 : Int32)) := Arv.set Ar10 q10 S10 M10 H10 G10 (fits_nar_char _) W11 ((o + 3)) (own_tn (by omega)) (by simp only [List.length_map, List.length_set]; omega)
    rw [show nar .char (111 : Int32) = (111 : Int32) from rfl] at q
    rw [List.map_set]
    exact q
  have N11 := Fr.snoc X11 N8 (show n0 ≤ ca by omega)
  obtain ⟨cl13, Ar13, q13, S13, M13, H13, G13⟩ := id V11
  have hin13 : ¬ ((Int32.ofNat (o + 4)) < 0 ∨ cl13.slots.size ≤ ((Int32.ofNat (o + 4))).toNatClampNeg) := inb_of S13 (own_in (by omega) (by omega))
  obtain ⟨T14, h14, X14, e14, W14, st14⟩ := stC X11 hx hZ e11 Ar13 (j := (Int32.ofNat (o + 4))) hin13 (g := (mkF m 67 #[.val (.ref ca), .val (.int (Int32.ofNat o)), .val (.int (0 : Int32))] [(.int (110 : Int32)), (.int (Int32.ofNat (o + 4))), (.ref ca)])) rfl rfl (Jvm.hb hby d_method_4_67)
  have z15 : h11.size ≤ h14.size := Nat.le_of_eq W14.size.symm
  have V14 : Arv Z h14 ca kc .char (Int32.ofNat cs.length) ((List.set (List.set (List.set (List.set (List.set cs (o) (46 : Int32)) ((o + 1)) (106 : Int32)) ((o + 2)) (115 : Int32)) ((o + 3)) (111 : Int32)) ((o + 4)) (110 : Int32)).map Value.int) (.int (0 : Int32)) := by
    have q : Arv Z h14 ca kc .char (Int32.ofNat cs.length) (List.set (List.map Value.int (List.set (List.set (List.set (List.set cs (o) (46 : Int32)) ((o + 1)) (106 : Int32)) ((o + 2)) (115 : Int32)) ((o + 3)) (111 : Int32))) ((o + 4)) (.int (nar .char (110 : Int32)))) (.int (0 : Int32)) := Arv.set Ar13 q13 S13 M13 H13 G13 (fits_nar_char _) W14 ((o + 4)) (own_tn (by omega)) (by simp only [List.length_map, List.length_set]; omega)
    rw [show nar .char (110 : Int32) = (110 : Int32) from rfl] at q
    rw [List.map_set]
    exact q
  have N14 := Fr.snoc X14 N11 (show n0 ≤ ca by omega)
  have s16 : ∀ t_, Steps p.tables e below (T14.setTop (mkF m 68 #[.val (.ref ca), .val (.int (Int32.ofNat o)), .val (.int (0 : Int32))] [])) t_ → Steps p.tables e below (s₁.setTop (entryFrame m #[(.ref ca), (.int (Int32.ofNat o)), (.int (0 : Int32))] 3)) t_ := fun t_ k_ => pre0 t_ (by
    show Steps p.tables e below (s₁.setTop (mkF m 0 #[.val (.ref ca), .val (.int (Int32.ofNat o)), .val (.int (0 : Int32))] [])) t_
    refine XS.aloadN X0.here hx rfl (Jvm.hb hby d_method_4_0) rfl rfl ?_
    refine XS.iloadN X0.here hx rfl (Jvm.hb hby d_method_4_1) rfl ?_
    refine XS.bipush X0.here hx rfl (Jvm.hb hby d_method_4_2) ?_
    refine st2 _ ?_
    show Steps p.tables e below (T2.setTop (mkF m 5 #[.val (.ref ca), .val (.int (Int32.ofNat o)), .val (.int (0 : Int32))] [])) _
    refine XS.iloadN X2.here hx rfl (Jvm.hb hby d_method_4_5) rfl ?_
    refine XS.ifYes X2.here hx rfl (pc0 := 6) (pc' := 40) rfl (Jvm.hb hby d_method_4_6) rfl ((if0 _ _).trans (teq (rfl : (0 : Int32) = (0 : Int32))).1) (by decide) (by decide) ?_
    show Steps p.tables e below (T2.setTop (mkF m 40 #[.val (.ref ca), .val (.int (Int32.ofNat o)), .val (.int (0 : Int32))] [])) _
    refine XS.aloadN X2.here hx rfl (Jvm.hb hby d_method_4_40) rfl rfl ?_
    refine XS.iloadN X2.here hx rfl (Jvm.hb hby d_method_4_41) rfl ?_
    refine XS.iconst X2.here hx rfl (Jvm.hb hby d_method_4_42) ?_
    refine XS.iadd X2.here hx rfl (Jvm.hb hby d_method_4_43) rfl ?_
    show Steps p.tables e below (T2.setTop (mkF m 44 #[.val (.ref ca), .val (.int (Int32.ofNat o)), .val (.int (0 : Int32))] [(.int ((Int32.ofNat o) + (1 : Int32))), (.ref ca)])) _
    refine castTop (g' := (mkF m 44 #[.val (.ref ca), .val (.int (Int32.ofNat o)), .val (.int (0 : Int32))] [(.int (Int32.ofNat (o + 1))), (.ref ca)])) (by rw [show Int32.ofNat (o + 1) = (Int32.ofNat o) + (1 : Int32) from Int32.ofNat_add o 1]) ?_
    show Steps p.tables e below (T2.setTop (mkF m 44 #[.val (.ref ca), .val (.int (Int32.ofNat o)), .val (.int (0 : Int32))] [(.int (Int32.ofNat (o + 1))), (.ref ca)])) _
    refine XS.bipush X2.here hx rfl (Jvm.hb hby d_method_4_44) ?_
    refine st5 _ ?_
    show Steps p.tables e below (T5.setTop (mkF m 47 #[.val (.ref ca), .val (.int (Int32.ofNat o)), .val (.int (0 : Int32))] [])) _
    refine XS.aloadN X5.here hx rfl (Jvm.hb hby d_method_4_47) rfl rfl ?_
    refine XS.iloadN X5.here hx rfl (Jvm.hb hby d_method_4_48) rfl ?_
    refine XS.iconst X5.here hx rfl (Jvm.hb hby d_method_4_49) ?_
    refine XS.iadd X5.here hx rfl (Jvm.hb hby d_method_4_50) rfl ?_
    show Steps p.tables e below (T5.setTop (mkF m 51 #[.val (.ref ca), .val (.int (Int32.ofNat o)), .val (.int (0 : Int32))] [(.int ((Int32.ofNat o) + (2 : Int32))), (.ref ca)])) _
    refine castTop (g' := (mkF m 51 #[.val (.ref ca), .val (.int (Int32.ofNat o)), .val (.int (0 : Int32))] [(.int (Int32.ofNat (o + 2))), (.ref ca)])) (by rw [show Int32.ofNat (o + 2) = (Int32.ofNat o) + (2 : Int32) from Int32.ofNat_add o 2]) ?_
    show Steps p.tables e below (T5.setTop (mkF m 51 #[.val (.ref ca), .val (.int (Int32.ofNat o)), .val (.int (0 : Int32))] [(.int (Int32.ofNat (o + 2))), (.ref ca)])) _
    refine XS.bipush X5.here hx rfl (Jvm.hb hby d_method_4_51) ?_
    refine st8 _ ?_
    show Steps p.tables e below (T8.setTop (mkF m 54 #[.val (.ref ca), .val (.int (Int32.ofNat o)), .val (.int (0 : Int32))] [])) _
    refine XS.aloadN X8.here hx rfl (Jvm.hb hby d_method_4_54) rfl rfl ?_
    refine XS.iloadN X8.here hx rfl (Jvm.hb hby d_method_4_55) rfl ?_
    refine XS.iconst X8.here hx rfl (Jvm.hb hby d_method_4_56) ?_
    refine XS.iadd X8.here hx rfl (Jvm.hb hby d_method_4_57) rfl ?_
    show Steps p.tables e below (T8.setTop (mkF m 58 #[.val (.ref ca), .val (.int (Int32.ofNat o)), .val (.int (0 : Int32))] [(.int ((Int32.ofNat o) + (3 : Int32))), (.ref ca)])) _
    refine castTop (g' := (mkF m 58 #[.val (.ref ca), .val (.int (Int32.ofNat o)), .val (.int (0 : Int32))] [(.int (Int32.ofNat (o + 3))), (.ref ca)])) (by rw [show Int32.ofNat (o + 3) = (Int32.ofNat o) + (3 : Int32) from Int32.ofNat_add o 3]) ?_
    show Steps p.tables e below (T8.setTop (mkF m 58 #[.val (.ref ca), .val (.int (Int32.ofNat o)), .val (.int (0 : Int32))] [(.int (Int32.ofNat (o + 3))), (.ref ca)])) _
    refine XS.bipush X8.here hx rfl (Jvm.hb hby d_method_4_58) ?_
    refine st11 _ ?_
    show Steps p.tables e below (T11.setTop (mkF m 61 #[.val (.ref ca), .val (.int (Int32.ofNat o)), .val (.int (0 : Int32))] [])) _
    refine XS.aloadN X11.here hx rfl (Jvm.hb hby d_method_4_61) rfl rfl ?_
    refine XS.iloadN X11.here hx rfl (Jvm.hb hby d_method_4_62) rfl ?_
    refine XS.iconst X11.here hx rfl (Jvm.hb hby d_method_4_63) ?_
    refine XS.iadd X11.here hx rfl (Jvm.hb hby d_method_4_64) rfl ?_
    show Steps p.tables e below (T11.setTop (mkF m 65 #[.val (.ref ca), .val (.int (Int32.ofNat o)), .val (.int (0 : Int32))] [(.int ((Int32.ofNat o) + (4 : Int32))), (.ref ca)])) _
    refine castTop (g' := (mkF m 65 #[.val (.ref ca), .val (.int (Int32.ofNat o)), .val (.int (0 : Int32))] [(.int (Int32.ofNat (o + 4))), (.ref ca)])) (by rw [show Int32.ofNat (o + 4) = (Int32.ofNat o) + (4 : Int32) from Int32.ofNat_add o 4]) ?_
    show Steps p.tables e below (T11.setTop (mkF m 65 #[.val (.ref ca), .val (.int (Int32.ofNat o)), .val (.int (0 : Int32))] [(.int (Int32.ofNat (o + 4))), (.ref ca)])) _
    refine XS.bipush X11.here hx rfl (Jvm.hb hby d_method_4_65) ?_
    refine st14 _ ?_
    show Steps p.tables e below (T14.setTop (mkF m 68 #[.val (.ref ca), .val (.int (Int32.ofNat o)), .val (.int (0 : Int32))] [])) _
    show Steps p.tables e below (T14.setTop (mkF m 68 #[.val (.ref ca), .val (.int (Int32.ofNat o)), .val (.int (0 : Int32))] [])) t_
    exact k_)
  obtain ⟨fs, hr, hrun, hended, hW, hsame⟩ := X14.leave (v := none) (fun _ => rfl)
  refine ⟨_, _, s16 _ ?_, hrun, hended, _, _, rfl, ?_, ⟨_, rfl⟩, hW, hsame.mono (by decide) (by decide)⟩
  · show Steps p.tables e below (T14.setTop (mkF m 68 #[.val (.ref ca), .val (.int (Int32.ofNat o)), .val (.int (0 : Int32))] [])) _
    exact X14.returnOut hx Bd.returns (Jvm.hb hby d_method_4_68) hr
  · show Q_rmSufJ Z _ _ _ _ h0 n0 _ T14.heap _
    rw [e14]
    exact ⟨rfl, N14, ((((((Keep.refl h0 [ca]).wr W2 (Or.inl (by simp))).wr W5 (Or.inl (by simp))).wr W8 (Or.inl (by simp))).wr W11 (Or.inl (by simp))).wr W14 (Or.inl (by simp))), V14⟩
theorem d_method_4_9 : decode method_4_code 9 = .ok (.aload_n 0, 1) := by decide +kernel
theorem d_method_4_10 : decode method_4_code 10 = .ok (.iload_n 1, 1) := by decide +kernel
theorem d_method_4_11 : decode method_4_code 11 = .ok (.iconst 1, 1) := by decide +kernel
theorem d_method_4_12 : decode method_4_code 12 = .ok (.iadd, 1) := by decide +kernel
theorem d_method_4_13 : decode method_4_code 13 = .ok (.bipush 116, 2) := by decide +kernel
theorem d_method_4_15 : decode method_4_code 15 = .ok (.castore, 1) := by decide +kernel
theorem d_method_4_16 : decode method_4_code 16 = .ok (.aload_n 0, 1) := by decide +kernel
theorem d_method_4_17 : decode method_4_code 17 = .ok (.iload_n 1, 1) := by decide +kernel
theorem d_method_4_18 : decode method_4_code 18 = .ok (.iconst 2, 1) := by decide +kernel
theorem d_method_4_19 : decode method_4_code 19 = .ok (.iadd, 1) := by decide +kernel
theorem d_method_4_20 : decode method_4_code 20 = .ok (.bipush 97, 2) := by decide +kernel
theorem d_method_4_22 : decode method_4_code 22 = .ok (.castore, 1) := by decide +kernel
theorem d_method_4_23 : decode method_4_code 23 = .ok (.aload_n 0, 1) := by decide +kernel
theorem d_method_4_24 : decode method_4_code 24 = .ok (.iload_n 1, 1) := by decide +kernel
theorem d_method_4_25 : decode method_4_code 25 = .ok (.iconst 3, 1) := by decide +kernel
theorem d_method_4_26 : decode method_4_code 26 = .ok (.iadd, 1) := by decide +kernel
theorem d_method_4_27 : decode method_4_code 27 = .ok (.bipush 103, 2) := by decide +kernel
theorem d_method_4_29 : decode method_4_code 29 = .ok (.castore, 1) := by decide +kernel
theorem d_method_4_30 : decode method_4_code 30 = .ok (.aload_n 0, 1) := by decide +kernel
theorem d_method_4_31 : decode method_4_code 31 = .ok (.iload_n 1, 1) := by decide +kernel
theorem d_method_4_32 : decode method_4_code 32 = .ok (.iconst 4, 1) := by decide +kernel
theorem d_method_4_33 : decode method_4_code 33 = .ok (.iadd, 1) := by decide +kernel
theorem d_method_4_34 : decode method_4_code 34 = .ok (.bipush 115, 2) := by decide +kernel
theorem d_method_4_36 : decode method_4_code 36 = .ok (.castore, 1) := by decide +kernel
theorem d_method_4_37 : decode method_4_code 37 = .ok (.goto 31, 3) := by decide +kernel
theorem ef_rmSufT (m : MethodId) (x0 : Addr) (x1 : Int32) (x2 : Int32) : entryFrame m #[(.ref x0), (.int x1), (.int x2)] 3 = mkF m 0 #[.val (.ref x0), .val (.int x1), .val (.int x2)] [] := by first | (simp [entryFrame, mkF, argsToLocals, Value.category]; done) | rfl
def Q_rmSufT (Z : State) (ca : Addr) (kc : ClassId) (cs : List Int32) (o : Nat) (h0 : Heap) (n0 : Nat) (v : Option Value) (h : Heap) (L : List Loc) : Prop := (v = none) ∧ (Fr n0 L) ∧ (Keep h0 h [ca]) ∧ (Arv Z h ca kc .char (Int32.ofNat cs.length) ((List.set (List.set (List.set (List.set (List.set cs (o) (46 : Int32)) (o + 1) (116 : Int32)) (o + 2) (97 : Int32)) (o + 3) (103 : Int32)) (o + 4) (115 : Int32)).map Value.int) (.int (0 : Int32)))
set_option maxRecDepth 65536 in
set_option maxHeartbeats 40000000 in
theorem rmSufT (l : Launch) (Z : State) (a0 : Array Value) (hw : ∀ d ∈ tables_1, d.before a0 Z = true) (ws : List Jvm.Cond) (ca : Addr) (kc : ClassId) (cs : List Int32) (o : Nat) (h0 : Heap) (n0 : Nat) (Z0 : n0 ≤ h0.size) (I1 : Arv Z h0 ca kc .char (Int32.ofNat cs.length) (cs.map Value.int) (.int (0 : Int32))) (gc : n0 ≤ ca) (hl10 : 10 ≤ cs.length) (hl15 : cs.length ≤ 15) (ho : o + 5 ≤ cs.length) :
    MetFree l (⟨"io/dyeline/store/LayoutTagFilePinLaw", "putSuffix", "([CIZ)V"⟩ : MethodName) (head1 (Jvm.Cond.code (⟨"io/dyeline/store/LayoutTagFilePinLaw", "putSuffix", "([CIZ)V"⟩ : MethodName) method_4_code 3 none :: ws) ({ frames := 0, cells := 0, slots := 0, locals := 0 } : Room)) (fun ar_ U => ar_ = #[(.ref ca), (.int (Int32.ofNat o)), (.int (1 : Int32))] ∧ Z.Warmed39 U.vm ∧ U.heap = h0) (fun _ _ _ _ _ => True) (fun _ U oc_ U' => ∃ v L, oc_ = .returned v ∧ Q_rmSufT Z ca kc cs o h0 n0 v U'.heap L ∧ FrameEnd U oc_ U' L ({ frames := 0, cells := 0, slots := 0, locals := 0 } : Room).cells ({ frames := 0, cells := 0, slots := 0, locals := 0 } : Room).slots) := by
  refine MetFree.of_bodySF (plainFor_of_name pn_io_dyeline_store_LayoutTagFilePinLaw) hisR ?_
  intro p e s m args below meth c s₁ Bd hml0 hP hK
  obtain ⟨rfl, hZ, hh⟩ := hP
  have hx := Bd.exec
  have hby := Bd.bytes
  have hml : c.maxLocals = 3 := hml0
  have hown : s.vm.findClass "io/dyeline/store/LayoutTagFilePinLaw" = some m.cls := findClass_of_methodNamed Bd.named
  have hnm := (name_of_methodNamed Bd.named Bd.method).1
  have X0 : Stand p l e ({ frames := 0, cells := 0, slots := 0, locals := 0 } : Room) s m #[(.ref ca), (.int (Int32.ofNat o)), (.int (1 : Int32))] below meth c s₁ [] 0 0 := Stand.of_body Bd
  have e0 : s₁.heap = h0 := by rw [← hh, Bd.state]; rfl
  have N0 := Fr.nil n0
  have pre0 : ∀ t_, Steps p.tables e below (s₁.setTop (mkF m 0 #[.val (.ref ca), .val (.int (Int32.ofNat o)), .val (.int (1 : Int32))] [])) t_ → Steps p.tables e below (s₁.setTop (entryFrame m #[(.ref ca), (.int (Int32.ofNat o)), (.int (1 : Int32))] 3)) t_ := fun t_ k_ => castTop (ef_rmSufT m ca (Int32.ofNat o) (1 : Int32)) k_
  have lt_I1 : @LT.lt Nat _ ca h0.size := I1.lt
  obtain ⟨cl1, Ar1, q1, S1, M1, H1, G1⟩ := id I1
  have hin1 : ¬ ((Int32.ofNat o) < 0 ∨ cl1.slots.size ≤ ((Int32.ofNat o)).toNatClampNeg) := inb_of S1 (own_in (by omega) (by omega))
  obtain ⟨T2, h2, X2, e2, W2, st2⟩ := stC X0 hx hZ e0 Ar1 (j := (Int32.ofNat o)) hin1 (g := (mkF m 4 #[.val (.ref ca), .val (.int (Int32.ofNat o)), .val (.int (1 : Int32))] [(.int (46 : Int32)), (.int (Int32.ofNat o)), (.ref ca)])) rfl rfl (Jvm.hb hby d_method_4_4)
  have z3 : h0.size ≤ h2.size := Nat.le_of_eq W2.size.symm
  have V2 : Arv Z h2 ca kc .char (Int32.ofNat cs.length) ((List.set cs (o) (46 : Int32)).map Value.int) (.int (0 : Int32)) := by
    have q : Arv Z h2 ca kc .char (Int32.ofNat cs.length) (List.set (List.map Value.int cs) (o) (.int (nar .char (46 : Int32)))) (.int (0 : Int32)) := Arv.set Ar1 q1 S1 M1 H1 G1 (fits_nar_char _) W2 (o) (own_tn (by omega)) (by simp only [List.length_map, List.length_set]; omega)
    rw [show nar .char (46 : Int32) = (46 : Int32) from rfl] at q
    rw [List.map_set]
    exact q
  have N2 := Fr.snoc X2 N0 (show n0 ≤ ca by omega)
  obtain ⟨cl4, Ar4, q4, S4, M4, H4, G4⟩ := id V2
  have hin4 : ¬ ((Int32.ofNat (o + 1)) < 0 ∨ cl4.slots.size ≤ ((Int32.ofNat (o + 1))).toNatClampNeg) := inb_of S4 (own_in (by omega) (by omega))
  obtain ⟨T5, h5, X5, e5, W5, st5⟩ := stC X2 hx hZ e2 Ar4 (j := (Int32.ofNat (o + 1))) hin4 (g := (mkF m 15 #[.val (.ref ca), .val (.int (Int32.ofNat o)), .val (.int (1 : Int32))] [(.int (116 : Int32)), (.int (Int32.ofNat (o + 1))), (.ref ca)])) rfl rfl (Jvm.hb hby d_method_4_15)
  have z6 : h2.size ≤ h5.size := Nat.le_of_eq W5.size.symm
  have V5 : Arv Z h5 ca kc .char (Int32.ofNat cs.length) ((List.set (List.set cs (o) (46 : Int32)) ((o + 1)) (116 : Int32)).map Value.int) (.int (0 : Int32)) := by
    have q : Arv Z h5 ca kc .char (Int32.ofNat cs.length) (List.set (List.map Value.int (List.set cs (o) (46 : Int32))) ((o + 1)) (.int (nar .char (116 : Int32)))) (.int (0 : Int32)) := Arv.set Ar4 q4 S4 M4 H4 G4 (fits_nar_char _) W5 ((o + 1)) (own_tn (by omega)) (by simp only [List.length_map, List.length_set]; omega)
    rw [show nar .char (116 : Int32) = (116 : Int32) from rfl] at q
    rw [List.map_set]
    exact q
  have N5 := Fr.snoc X5 N2 (show n0 ≤ ca by omega)
  obtain ⟨cl7, Ar7, q7, S7, M7, H7, G7⟩ := id V5
  have hin7 : ¬ ((Int32.ofNat (o + 2)) < 0 ∨ cl7.slots.size ≤ ((Int32.ofNat (o + 2))).toNatClampNeg) := inb_of S7 (own_in (by omega) (by omega))
  obtain ⟨T8, h8, X8, e8, W8, st8⟩ := stC X5 hx hZ e5 Ar7 (j := (Int32.ofNat (o + 2))) hin7 (g := (mkF m 22 #[.val (.ref ca), .val (.int (Int32.ofNat o)), .val (.int (1 : Int32))] [(.int (97 : Int32)), (.int (Int32.ofNat (o + 2))), (.ref ca)])) rfl rfl (Jvm.hb hby d_method_4_22)
  have z9 : h5.size ≤ h8.size := Nat.le_of_eq W8.size.symm
  have V8 : Arv Z h8 ca kc .char (Int32.ofNat cs.length) ((List.set (List.set (List.set cs (o) (46 : Int32)) ((o + 1)) (116 : Int32)) ((o + 2)) (97 : Int32)).map Value.int) (.int (0 : Int32)) := by
    have q : Arv Z h8 ca kc .char (Int32.ofNat cs.length) (List.set (List.map Value.int (List.set (List.set cs (o) (46 : Int32)) ((o + 1)) (116 : Int32))) ((o + 2)) (.int (nar .char (97 : Int32)))) (.int (0 : Int32)) := Arv.set Ar7 q7 S7 M7 H7 G7 (fits_nar_char _) W8 ((o + 2)) (own_tn (by omega)) (by simp only [List.length_map, List.length_set]; omega)
    rw [show nar .char (97 : Int32) = (97 : Int32) from rfl] at q
    rw [List.map_set]
    exact q
  have N8 := Fr.snoc X8 N5 (show n0 ≤ ca by omega)
  obtain ⟨cl10, Ar10, q10, S10, M10, H10, G10⟩ := id V8
  have hin10 : ¬ ((Int32.ofNat (o + 3)) < 0 ∨ cl10.slots.size ≤ ((Int32.ofNat (o + 3))).toNatClampNeg) := inb_of S10 (own_in (by omega) (by omega))
  obtain ⟨T11, h11, X11, e11, W11, st11⟩ := stC X8 hx hZ e8 Ar10 (j := (Int32.ofNat (o + 3))) hin10 (g := (mkF m 29 #[.val (.ref ca), .val (.int (Int32.ofNat o)), .val (.int (1 : Int32))] [(.int (103 : Int32)), (.int (Int32.ofNat (o + 3))), (.ref ca)])) rfl rfl (Jvm.hb hby d_method_4_29)
  have z12 : h8.size ≤ h11.size := Nat.le_of_eq W11.size.symm
  have V11 : Arv Z h11 ca kc .char (Int32.ofNat cs.length) ((List.set (List.set (List.set (List.set cs (o) (46 : Int32)) ((o + 1)) (116 : Int32)) ((o + 2)) (97 : Int32)) ((o + 3)) (103 : Int32)).map Value.int) (.int (0 : Int32)) := by
    have q : Arv Z h11 ca kc .char (Int32.ofNat cs.length) (List.set (List.map Value.int (List.set (List.set (List.set cs (o) (46 : Int32)) ((o + 1)) (116 : Int32)) ((o + 2)) (97 : Int32))) ((o + 3)) (.int (nar .char (103 : Int32)))) (.int (0 : Int32)) := Arv.set Ar10 q10 S10 M10 H10 G10 (fits_nar_char _) W11 ((o + 3)) (own_tn (by omega)) (by simp only [List.length_map, List.length_set]; omega)
    rw [show nar .char (103 : Int32) = (103 : Int32) from rfl] at q
    rw [List.map_set]
    exact q
  have N11 := Fr.snoc X11 N8 (show n0 ≤ ca by omega)
  obtain ⟨cl13, Ar13, q13, S13, M13, H13, G13⟩ := id V11
  have hin13 : ¬ ((Int32.ofNat (o + 4)) < 0 ∨ cl13.slots.size ≤ ((Int32.ofNat (o + 4))).toNatClampNeg) := inb_of S13 (own_in (by omega) (by omega))
  obtain ⟨T14, h14, X14, e14, W14, st14⟩ := stC X11 hx hZ e11 Ar13 (j := (Int32.ofNat (o + 4))) hin13 (g := (mkF m 36 #[.val (.ref ca), .val (.int (Int32.ofNat o)), .val (.int (1 : Int32))] [(.int (115 : Int32)), (.int (Int32.ofNat (o + 4))), (.ref ca)])) rfl rfl (Jvm.hb hby d_method_4_36)
  have z15 : h11.size ≤ h14.size := Nat.le_of_eq W14.size.symm
  have V14 : Arv Z h14 ca kc .char (Int32.ofNat cs.length) ((List.set (List.set (List.set (List.set (List.set cs (o) (46 : Int32)) ((o + 1)) (116 : Int32)) ((o + 2)) (97 : Int32)) ((o + 3)) (103 : Int32)) ((o + 4)) (115 : Int32)).map Value.int) (.int (0 : Int32)) := by
    have q : Arv Z h14 ca kc .char (Int32.ofNat cs.length) (List.set (List.map Value.int (List.set (List.set (List.set (List.set cs (o) (46 : Int32)) ((o + 1)) (116 : Int32)) ((o + 2)) (97 : Int32)) ((o + 3)) (103 : Int32))) ((o + 4)) (.int (nar .char (115 : Int32)))) (.int (0 : Int32)) := Arv.set Ar13 q13 S13 M13 H13 G13 (fits_nar_char _) W14 ((o + 4)) (own_tn (by omega)) (by simp only [List.length_map, List.length_set]; omega)
    rw [show nar .char (115 : Int32) = (115 : Int32) from rfl] at q
    rw [List.map_set]
    exact q
  have N14 := Fr.snoc X14 N11 (show n0 ≤ ca by omega)
  have s16 : ∀ t_, Steps p.tables e below (T14.setTop (mkF m 68 #[.val (.ref ca), .val (.int (Int32.ofNat o)), .val (.int (1 : Int32))] [])) t_ → Steps p.tables e below (s₁.setTop (entryFrame m #[(.ref ca), (.int (Int32.ofNat o)), (.int (1 : Int32))] 3)) t_ := fun t_ k_ => pre0 t_ (by
    show Steps p.tables e below (s₁.setTop (mkF m 0 #[.val (.ref ca), .val (.int (Int32.ofNat o)), .val (.int (1 : Int32))] [])) t_
    refine XS.aloadN X0.here hx rfl (Jvm.hb hby d_method_4_0) rfl rfl ?_
    refine XS.iloadN X0.here hx rfl (Jvm.hb hby d_method_4_1) rfl ?_
    refine XS.bipush X0.here hx rfl (Jvm.hb hby d_method_4_2) ?_
    refine st2 _ ?_
    show Steps p.tables e below (T2.setTop (mkF m 5 #[.val (.ref ca), .val (.int (Int32.ofNat o)), .val (.int (1 : Int32))] [])) _
    refine XS.iloadN X2.here hx rfl (Jvm.hb hby d_method_4_5) rfl ?_
    refine XS.ifNo X2.here hx rfl (Jvm.hb hby d_method_4_6) rfl ((if0 _ _).trans (feq (by decide : ¬ ((1 : Int32) = (0 : Int32)))).1) ?_
    show Steps p.tables e below (T2.setTop (mkF m 9 #[.val (.ref ca), .val (.int (Int32.ofNat o)), .val (.int (1 : Int32))] [])) _
    refine XS.aloadN X2.here hx rfl (Jvm.hb hby d_method_4_9) rfl rfl ?_
    refine XS.iloadN X2.here hx rfl (Jvm.hb hby d_method_4_10) rfl ?_
    refine XS.iconst X2.here hx rfl (Jvm.hb hby d_method_4_11) ?_
    refine XS.iadd X2.here hx rfl (Jvm.hb hby d_method_4_12) rfl ?_
    show Steps p.tables e below (T2.setTop (mkF m 13 #[.val (.ref ca), .val (.int (Int32.ofNat o)), .val (.int (1 : Int32))] [(.int ((Int32.ofNat o) + (1 : Int32))), (.ref ca)])) _
    refine castTop (g' := (mkF m 13 #[.val (.ref ca), .val (.int (Int32.ofNat o)), .val (.int (1 : Int32))] [(.int (Int32.ofNat (o + 1))), (.ref ca)])) (by rw [show Int32.ofNat (o + 1) = (Int32.ofNat o) + (1 : Int32) from Int32.ofNat_add o 1]) ?_
    show Steps p.tables e below (T2.setTop (mkF m 13 #[.val (.ref ca), .val (.int (Int32.ofNat o)), .val (.int (1 : Int32))] [(.int (Int32.ofNat (o + 1))), (.ref ca)])) _
    refine XS.bipush X2.here hx rfl (Jvm.hb hby d_method_4_13) ?_
    refine st5 _ ?_
    show Steps p.tables e below (T5.setTop (mkF m 16 #[.val (.ref ca), .val (.int (Int32.ofNat o)), .val (.int (1 : Int32))] [])) _
    refine XS.aloadN X5.here hx rfl (Jvm.hb hby d_method_4_16) rfl rfl ?_
    refine XS.iloadN X5.here hx rfl (Jvm.hb hby d_method_4_17) rfl ?_
    refine XS.iconst X5.here hx rfl (Jvm.hb hby d_method_4_18) ?_
    refine XS.iadd X5.here hx rfl (Jvm.hb hby d_method_4_19) rfl ?_
    show Steps p.tables e below (T5.setTop (mkF m 20 #[.val (.ref ca), .val (.int (Int32.ofNat o)), .val (.int (1 : Int32))] [(.int ((Int32.ofNat o) + (2 : Int32))), (.ref ca)])) _
    refine castTop (g' := (mkF m 20 #[.val (.ref ca), .val (.int (Int32.ofNat o)), .val (.int (1 : Int32))] [(.int (Int32.ofNat (o + 2))), (.ref ca)])) (by rw [show Int32.ofNat (o + 2) = (Int32.ofNat o) + (2 : Int32) from Int32.ofNat_add o 2]) ?_
    show Steps p.tables e below (T5.setTop (mkF m 20 #[.val (.ref ca), .val (.int (Int32.ofNat o)), .val (.int (1 : Int32))] [(.int (Int32.ofNat (o + 2))), (.ref ca)])) _
    refine XS.bipush X5.here hx rfl (Jvm.hb hby d_method_4_20) ?_
    refine st8 _ ?_
    show Steps p.tables e below (T8.setTop (mkF m 23 #[.val (.ref ca), .val (.int (Int32.ofNat o)), .val (.int (1 : Int32))] [])) _
    refine XS.aloadN X8.here hx rfl (Jvm.hb hby d_method_4_23) rfl rfl ?_
    refine XS.iloadN X8.here hx rfl (Jvm.hb hby d_method_4_24) rfl ?_
    refine XS.iconst X8.here hx rfl (Jvm.hb hby d_method_4_25) ?_
    refine XS.iadd X8.here hx rfl (Jvm.hb hby d_method_4_26) rfl ?_
    show Steps p.tables e below (T8.setTop (mkF m 27 #[.val (.ref ca), .val (.int (Int32.ofNat o)), .val (.int (1 : Int32))] [(.int ((Int32.ofNat o) + (3 : Int32))), (.ref ca)])) _
    refine castTop (g' := (mkF m 27 #[.val (.ref ca), .val (.int (Int32.ofNat o)), .val (.int (1 : Int32))] [(.int (Int32.ofNat (o + 3))), (.ref ca)])) (by rw [show Int32.ofNat (o + 3) = (Int32.ofNat o) + (3 : Int32) from Int32.ofNat_add o 3]) ?_
    show Steps p.tables e below (T8.setTop (mkF m 27 #[.val (.ref ca), .val (.int (Int32.ofNat o)), .val (.int (1 : Int32))] [(.int (Int32.ofNat (o + 3))), (.ref ca)])) _
    refine XS.bipush X8.here hx rfl (Jvm.hb hby d_method_4_27) ?_
    refine st11 _ ?_
    show Steps p.tables e below (T11.setTop (mkF m 30 #[.val (.ref ca), .val (.int (Int32.ofNat o)), .val (.int (1 : Int32))] [])) _
    refine XS.aloadN X11.here hx rfl (Jvm.hb hby d_method_4_30) rfl rfl ?_
    refine XS.iloadN X11.here hx rfl (Jvm.hb hby d_method_4_31) rfl ?_
    refine XS.iconst X11.here hx rfl (Jvm.hb hby d_method_4_32) ?_
    refine XS.iadd X11.here hx rfl (Jvm.hb hby d_method_4_33) rfl ?_
    show Steps p.tables e below (T11.setTop (mkF m 34 #[.val (.ref ca), .val (.int (Int32.ofNat o)), .val (.int (1 : Int32))] [(.int ((Int32.ofNat o) + (4 : Int32))), (.ref ca)])) _
    refine castTop (g' := (mkF m 34 #[.val (.ref ca), .val (.int (Int32.ofNat o)), .val (.int (1 : Int32))] [(.int (Int32.ofNat (o + 4))), (.ref ca)])) (by rw [show Int32.ofNat (o + 4) = (Int32.ofNat o) + (4 : Int32) from Int32.ofNat_add o 4]) ?_
    show Steps p.tables e below (T11.setTop (mkF m 34 #[.val (.ref ca), .val (.int (Int32.ofNat o)), .val (.int (1 : Int32))] [(.int (Int32.ofNat (o + 4))), (.ref ca)])) _
    refine XS.bipush X11.here hx rfl (Jvm.hb hby d_method_4_34) ?_
    refine st14 _ ?_
    show Steps p.tables e below (T14.setTop (mkF m 37 #[.val (.ref ca), .val (.int (Int32.ofNat o)), .val (.int (1 : Int32))] [])) _
    refine XS.goto X14.here hx rfl (pc0 := 37) (pc' := 68) rfl (Jvm.hb hby d_method_4_37) (by decide) (by decide) ?_
    show Steps p.tables e below (T14.setTop (mkF m 68 #[.val (.ref ca), .val (.int (Int32.ofNat o)), .val (.int (1 : Int32))] [])) t_
    exact k_)
  obtain ⟨fs, hr, hrun, hended, hW, hsame⟩ := X14.leave (v := none) (fun _ => rfl)
  refine ⟨_, _, s16 _ ?_, hrun, hended, _, _, rfl, ?_, ⟨_, rfl⟩, hW, hsame.mono (by decide) (by decide)⟩
  · show Steps p.tables e below (T14.setTop (mkF m 68 #[.val (.ref ca), .val (.int (Int32.ofNat o)), .val (.int (1 : Int32))] [])) _
    exact X14.returnOut hx Bd.returns (Jvm.hb hby d_method_4_68) hr
  · show Q_rmSufT Z _ _ _ _ h0 n0 _ T14.heap _
    rw [e14]
    exact ⟨rfl, N14, ((((((Keep.refl h0 [ca]).wr W2 (Or.inl (by simp))).wr W5 (Or.inl (by simp))).wr W8 (Or.inl (by simp))).wr W11 (Or.inl (by simp))).wr W14 (Or.inl (by simp))), V14⟩
theorem pd___C_V : parseMethodDescriptor "([C)V" = some ⟨[(.array .char)], none⟩ := by decide +kernel
theorem pd___CICCCCC_V : parseMethodDescriptor "([CICCCCC)V" = some ⟨[(.array .char), .int, .char, .char, .char, .char, .char], none⟩ := by decide +kernel
theorem pd___CIZ_V : parseMethodDescriptor "([CIZ)V" = some ⟨[(.array .char), .int, .boolean], none⟩ := by decide +kernel
theorem pd__Ljava_lang_String__Ljava_lang_String_ : parseMethodDescriptor "(Ljava/lang/String;)Ljava/lang/String;" = some ⟨[(.object "java/lang/String")], some (.object "java/lang/String")⟩ := by decide +kernel
theorem pd__Ljava_lang_Object__Z : parseMethodDescriptor "(Ljava/lang/Object;)Z" = some ⟨[(.object "java/lang/Object")], some .boolean⟩ := by decide +kernel
theorem ef_rmLaw (m : MethodId) (x0 : Int32) (x1 : Int32) (x2 : Int32) (x3 : Int32) (x4 : Int32) (x5 : Int32) : entryFrame m #[(.int x0), (.int x1), (.int x2), (.int x3), (.int x4), (.int x5)] maxLocals = mkF m 0 #[.val (.int x0), .val (.int x1), .val (.int x2), .val (.int x3), .val (.int x4), .val (.int x5), .unset, .unset, .unset, .unset, .unset, .unset, .unset, .unset, .unset] [] := by first | (simp [entryFrame, mkF, argsToLocals, Value.category, maxLocals]; done) | rfl
def Q_rmLaw (Z : State) (len : Int32) (ca_ : Int32) (cb_ : Int32) (cc_ : Int32) (cd_ : Int32) (ce_ : Int32) (cst : Int32) (fmt : Value) (h0 : Heap) (n0 : Nat) (v : Option Value) (h : Heap) (L : List Loc) : Prop := v = some (.int 1) ∧ Fr n0 L
set_option maxRecDepth 65536 in
set_option maxHeartbeats 40000000 in
theorem rmLaw (l : Launch) (Z : State) (a0 : Array Value) (hw : ∀ d ∈ tables_1, d.before a0 Z = true) (ws : List Jvm.Cond) (len : Int32) (ca_ : Int32) (cb_ : Int32) (cc_ : Int32) (cd_ : Int32) (ce_ : Int32) (cst : Int32) (fmt : Value) (h0 : Heap) (n0 : Nat) (Z0 : n0 ≤ h0.size) (I1 : Sta Z Z.heap "java/lang/String" "COMPACT_STRINGS" "Z" (.int cst)) (hfmt : fmt.isRef = true) (I2 : Sta Z Z.heap "jdk/internal/util/Preconditions" "SIOOBE_FORMATTER" "Ljava/util/function/BiFunction;" fmt) (OX : Old Z n0 h0) (hcst : ¬ (cst = (0 : Int32))) :
    MetFree l x (head1 (Jvm.Cond.code x code maxLocals ret :: ws) room_1) (fun ar_ U => ar_ = #[(.int len), (.int ca_), (.int cb_), (.int cc_), (.int cd_), (.int ce_)] ∧ Z.Warmed39 U.vm ∧ U.heap = h0 ∧ CHv Z ELs U.vm h0) (fun _ _ _ _ _ => True) (fun _ U oc_ U' => ∃ v L, oc_ = .returned v ∧ Q_rmLaw Z len ca_ cb_ cc_ cd_ ce_ cst fmt h0 n0 v U'.heap L ∧ CHr Z ELs U.vm U.heap U'.vm U'.heap ∧ ReturnedEndW U oc_ U' L room_1.cells room_1.slots) := by
  refine MetFree.of_bodySF (plainFor_of_name pn_io_dyeline_store_LayoutTagFilePinLaw) hisR ?_
  intro p e s m args below meth c s₁ Bd hml0 hP hK
  obtain ⟨rfl, hZ, hh, hCH⟩ := hP
  have hx := Bd.exec
  have hby := Bd.bytes
  have hml : c.maxLocals = 15 := hml0
  have hown : s.vm.findClass "io/dyeline/store/LayoutTagFilePinLaw" = some m.cls := findClass_of_methodNamed Bd.named
  have hnm := (name_of_methodNamed Bd.named Bd.method).1
  have X0 : Stand p l e room_1 (s.setVm s.vm) m #[(.int len), (.int ca_), (.int cb_), (.int cc_), (.int cd_), (.int ce_)] below meth c s₁ [] 0 0 := Stand.of_body Bd
  have e0 : s₁.heap = h0 := by rw [← hh, Bd.state]; rfl
  have N0 := Fr.nil n0
  have pre0 : ∀ t_, Steps p.tables e below (s₁.setTop (mkF m 0 #[.val (.int len), .val (.int ca_), .val (.int cb_), .val (.int cc_), .val (.int cd_), .val (.int ce_), .unset, .unset, .unset, .unset, .unset, .unset, .unset, .unset, .unset] [])) t_ → Steps p.tables e below (s₁.setTop (entryFrame m #[(.int len), (.int ca_), (.int cb_), (.int cc_), (.int cd_), (.int ce_)] maxLocals)) t_ := fun t_ k_ => castTop (ef_rmLaw m len ca_ cb_ cc_ cd_ ce_) k_
  have hEL : EW Z a0 ELs := own_EW hw
  have wS : ∀ a ∈ Bundle.stringAtoms, a.before a0 Z = true := own_wS hw
  have hS : s.Since s.vm s.heap.size := (State.WarmedH.refl s).since _
  have hk : s.heap.size ≤ h0.size := by rw [hh]; exact Nat.le_refl _
  have CR : CHr Z ELs s.vm h0 s.vm h0 := CHr.refl hCH
  obtain ⟨nn, hnn, hnl⟩ := own_modn len 6 6 (by decide) (by decide) (by decide)
  obtain ⟨q1, hq1⟩ : ∃ z : Int32, z = (i2c (ca_ &&& (255 : Int32))) := ⟨_, rfl⟩
  obtain ⟨q2, hq2⟩ : ∃ z : Int32, z = (i2c (cb_ &&& (255 : Int32))) := ⟨_, rfl⟩
  obtain ⟨q3, hq3⟩ : ∃ z : Int32, z = (i2c (cc_ &&& (255 : Int32))) := ⟨_, rfl⟩
  obtain ⟨q4, hq4⟩ : ∃ z : Int32, z = (i2c (cd_ &&& (255 : Int32))) := ⟨_, rfl⟩
  obtain ⟨q5, hq5⟩ : ∃ z : Int32, z = (i2c (ce_ &&& (255 : Int32))) := ⟨_, rfl⟩
  have s6 : ∀ t_, Steps p.tables e below (s₁.setTop (mkF m 51 #[.val (.int len), .val (.int ca_), .val (.int cb_), .val (.int cc_), .val (.int cd_), .val (.int ce_), .val (.int (Int32.ofNat nn)), .val (.int q1), .val (.int q2), .val (.int q3), .val (.int q4), .val (.int q5), .unset, .unset, .unset] [])) t_ → Steps p.tables e below (s₁.setTop (entryFrame m #[(.int len), (.int ca_), (.int cb_), (.int cc_), (.int cd_), (.int ce_)] maxLocals)) t_ := fun t_ k_ => pre0 t_ (by
    show Steps p.tables e below (s₁.setTop (mkF m 0 #[.val (.int len), .val (.int ca_), .val (.int cb_), .val (.int cc_), .val (.int cd_), .val (.int ce_), .unset, .unset, .unset, .unset, .unset, .unset, .unset, .unset, .unset] [])) t_
    refine XS.iloadN X0.here hx rfl (Jvm.hb hby at_0) rfl ?_
    refine X0.ldcInt hx hown (mvT hZ (hw _ (List.mem_of_getElem? (i := 0) rfl))) (g := (mkF m 1 #[.val (.int len), .val (.int ca_), .val (.int cb_), .val (.int cc_), .val (.int cd_), .val (.int ce_), .unset, .unset, .unset, .unset, .unset, .unset, .unset, .unset, .unset] [(.int len)])) rfl (Jvm.hb hby at_1) _ ?_
    show Steps p.tables e below (s₁.setTop (mkF m 3 #[.val (.int len), .val (.int ca_), .val (.int cb_), .val (.int cc_), .val (.int cd_), .val (.int ce_), .unset, .unset, .unset, .unset, .unset, .unset, .unset, .unset, .unset] [(.int (2147483647 : Int32)), (.int len)])) _
    refine XS.iand X0.here hx rfl (Jvm.hb hby at_3) rfl ?_
    refine XS.bipush X0.here hx rfl (Jvm.hb hby at_4) ?_
    refine iremM (g := (mkF m 6 #[.val (.int len), .val (.int ca_), .val (.int cb_), .val (.int cc_), .val (.int cd_), .val (.int ce_), .unset, .unset, .unset, .unset, .unset, .unset, .unset, .unset, .unset] [(.int (6 : Int32)), (.int (len &&& (2147483647 : Int32)))])) X0 hx rfl (Jvm.hb hby at_6) rfl (by decide) ?_
    show Steps p.tables e below (s₁.setTop (mkF m 7 #[.val (.int len), .val (.int ca_), .val (.int cb_), .val (.int cc_), .val (.int cd_), .val (.int ce_), .unset, .unset, .unset, .unset, .unset, .unset, .unset, .unset, .unset] [(.int ((len &&& (2147483647 : Int32)) % (6 : Int32)))])) _
    refine XS.istore X0.here hx rfl (Jvm.hb hby at_7) rfl (l' := #[.val (.int len), .val (.int ca_), .val (.int cb_), .val (.int cc_), .val (.int cd_), .val (.int ce_), .val (.int ((len &&& (2147483647 : Int32)) % (6 : Int32))), .unset, .unset, .unset, .unset, .unset, .unset, .unset, .unset]) rfl ?_
    refine XS.iloadN X0.here hx rfl (Jvm.hb hby at_9) rfl ?_
    refine XS.sipush X0.here hx rfl (Jvm.hb hby at_10) ?_
    refine XS.iand X0.here hx rfl (Jvm.hb hby at_13) rfl ?_
    refine XS.i2c X0.here hx rfl (Jvm.hb hby at_14) rfl ?_
    refine XS.istore X0.here hx rfl (Jvm.hb hby at_15) rfl (l' := #[.val (.int len), .val (.int ca_), .val (.int cb_), .val (.int cc_), .val (.int cd_), .val (.int ce_), .val (.int ((len &&& (2147483647 : Int32)) % (6 : Int32))), .val (.int (i2c (ca_ &&& (255 : Int32)))), .unset, .unset, .unset, .unset, .unset, .unset, .unset]) rfl ?_
    show Steps p.tables e below (s₁.setTop (mkF m 17 #[.val (.int len), .val (.int ca_), .val (.int cb_), .val (.int cc_), .val (.int cd_), .val (.int ce_), .val (.int ((len &&& (2147483647 : Int32)) % (6 : Int32))), .val (.int (i2c (ca_ &&& (255 : Int32)))), .unset, .unset, .unset, .unset, .unset, .unset, .unset] [])) _
    refine XS.iloadN X0.here hx rfl (Jvm.hb hby at_17) rfl ?_
    refine XS.sipush X0.here hx rfl (Jvm.hb hby at_18) ?_
    refine XS.iand X0.here hx rfl (Jvm.hb hby at_21) rfl ?_
    refine XS.i2c X0.here hx rfl (Jvm.hb hby at_22) rfl ?_
    refine XS.istore X0.here hx rfl (Jvm.hb hby at_23) rfl (l' := #[.val (.int len), .val (.int ca_), .val (.int cb_), .val (.int cc_), .val (.int cd_), .val (.int ce_), .val (.int ((len &&& (2147483647 : Int32)) % (6 : Int32))), .val (.int (i2c (ca_ &&& (255 : Int32)))), .val (.int (i2c (cb_ &&& (255 : Int32)))), .unset, .unset, .unset, .unset, .unset, .unset]) rfl ?_
    refine XS.iloadN X0.here hx rfl (Jvm.hb hby at_25) rfl ?_
    show Steps p.tables e below (s₁.setTop (mkF m 26 #[.val (.int len), .val (.int ca_), .val (.int cb_), .val (.int cc_), .val (.int cd_), .val (.int ce_), .val (.int ((len &&& (2147483647 : Int32)) % (6 : Int32))), .val (.int (i2c (ca_ &&& (255 : Int32)))), .val (.int (i2c (cb_ &&& (255 : Int32)))), .unset, .unset, .unset, .unset, .unset, .unset] [(.int cc_)])) _
    refine XS.sipush X0.here hx rfl (Jvm.hb hby at_26) ?_
    refine XS.iand X0.here hx rfl (Jvm.hb hby at_29) rfl ?_
    refine XS.i2c X0.here hx rfl (Jvm.hb hby at_30) rfl ?_
    refine XS.istore X0.here hx rfl (Jvm.hb hby at_31) rfl (l' := #[.val (.int len), .val (.int ca_), .val (.int cb_), .val (.int cc_), .val (.int cd_), .val (.int ce_), .val (.int ((len &&& (2147483647 : Int32)) % (6 : Int32))), .val (.int (i2c (ca_ &&& (255 : Int32)))), .val (.int (i2c (cb_ &&& (255 : Int32)))), .val (.int (i2c (cc_ &&& (255 : Int32)))), .unset, .unset, .unset, .unset, .unset]) rfl ?_
    refine XS.iload X0.here hx rfl (Jvm.hb hby at_33) rfl ?_
    refine XS.sipush X0.here hx rfl (Jvm.hb hby at_35) ?_
    show Steps p.tables e below (s₁.setTop (mkF m 38 #[.val (.int len), .val (.int ca_), .val (.int cb_), .val (.int cc_), .val (.int cd_), .val (.int ce_), .val (.int ((len &&& (2147483647 : Int32)) % (6 : Int32))), .val (.int (i2c (ca_ &&& (255 : Int32)))), .val (.int (i2c (cb_ &&& (255 : Int32)))), .val (.int (i2c (cc_ &&& (255 : Int32)))), .unset, .unset, .unset, .unset, .unset] [(.int (255 : Int32)), (.int cd_)])) _
    refine XS.iand X0.here hx rfl (Jvm.hb hby at_38) rfl ?_
    refine XS.i2c X0.here hx rfl (Jvm.hb hby at_39) rfl ?_
    refine XS.istore X0.here hx rfl (Jvm.hb hby at_40) rfl (l' := #[.val (.int len), .val (.int ca_), .val (.int cb_), .val (.int cc_), .val (.int cd_), .val (.int ce_), .val (.int ((len &&& (2147483647 : Int32)) % (6 : Int32))), .val (.int (i2c (ca_ &&& (255 : Int32)))), .val (.int (i2c (cb_ &&& (255 : Int32)))), .val (.int (i2c (cc_ &&& (255 : Int32)))), .val (.int (i2c (cd_ &&& (255 : Int32)))), .unset, .unset, .unset, .unset]) rfl ?_
    refine XS.iload X0.here hx rfl (Jvm.hb hby at_42) rfl ?_
    refine XS.sipush X0.here hx rfl (Jvm.hb hby at_44) ?_
    refine XS.iand X0.here hx rfl (Jvm.hb hby at_47) rfl ?_
    show Steps p.tables e below (s₁.setTop (mkF m 48 #[.val (.int len), .val (.int ca_), .val (.int cb_), .val (.int cc_), .val (.int cd_), .val (.int ce_), .val (.int ((len &&& (2147483647 : Int32)) % (6 : Int32))), .val (.int (i2c (ca_ &&& (255 : Int32)))), .val (.int (i2c (cb_ &&& (255 : Int32)))), .val (.int (i2c (cc_ &&& (255 : Int32)))), .val (.int (i2c (cd_ &&& (255 : Int32)))), .unset, .unset, .unset, .unset] [(.int (ce_ &&& (255 : Int32)))])) _
    refine XS.i2c X0.here hx rfl (Jvm.hb hby at_48) rfl ?_
    refine XS.istore X0.here hx rfl (Jvm.hb hby at_49) rfl (l' := #[.val (.int len), .val (.int ca_), .val (.int cb_), .val (.int cc_), .val (.int cd_), .val (.int ce_), .val (.int ((len &&& (2147483647 : Int32)) % (6 : Int32))), .val (.int (i2c (ca_ &&& (255 : Int32)))), .val (.int (i2c (cb_ &&& (255 : Int32)))), .val (.int (i2c (cc_ &&& (255 : Int32)))), .val (.int (i2c (cd_ &&& (255 : Int32)))), .val (.int (i2c (ce_ &&& (255 : Int32)))), .unset, .unset, .unset]) rfl ?_
    show Steps p.tables e below (s₁.setTop (mkF m 51 #[.val (.int len), .val (.int ca_), .val (.int cb_), .val (.int cc_), .val (.int cd_), .val (.int ce_), .val (.int ((len &&& (2147483647 : Int32)) % (6 : Int32))), .val (.int (i2c (ca_ &&& (255 : Int32)))), .val (.int (i2c (cb_ &&& (255 : Int32)))), .val (.int (i2c (cc_ &&& (255 : Int32)))), .val (.int (i2c (cd_ &&& (255 : Int32)))), .val (.int (i2c (ce_ &&& (255 : Int32)))), .unset, .unset, .unset] [])) t_
    exact castTop (by simp only [hnn, hq1, hq2, hq3, hq4, hq5]) k_)
  have rg7 : ¬ (q1 < (0 : Int32)) ∧ ¬ ((255 : Int32) < q1) := by rw [hq1]; exact own_b255 _
  have rg8 : ¬ (q2 < (0 : Int32)) ∧ ¬ ((255 : Int32) < q2) := by rw [hq2]; exact own_b255 _
  have rg9 : ¬ (q3 < (0 : Int32)) ∧ ¬ ((255 : Int32) < q3) := by rw [hq3]; exact own_b255 _
  have rg10 : ¬ (q4 < (0 : Int32)) ∧ ¬ ((255 : Int32) < q4) := by rw [hq4]; exact own_b255 _
  have rg11 : ¬ (q5 < (0 : Int32)) ∧ ¬ ((255 : Int32) < q5) := by rw [hq5]; exact own_b255 _
  obtain ⟨T12, h12, k12, X12, e12, E12, A12, st12⟩ := newP X0 hx hZ (hw _ (List.mem_of_getElem? (i := 1) rfl)) e0 (g := (mkF m 56 #[.val (.int len), .val (.int ca_), .val (.int cb_), .val (.int cc_), .val (.int cd_), .val (.int ce_), .val (.int (Int32.ofNat nn)), .val (.int q1), .val (.int q2), .val (.int q3), .val (.int q4), .val (.int q5), .unset, .unset, .unset] [(.int (Int32.ofNat (10 + nn)))])) rfl (Jvm.hb hby at_56) rfl (own_nn (by omega)) (cap := 15) (by rw [own_tn (by omega)]; omega) (by decide) (by decide) (by decide)
  obtain ⟨b12, g12⟩ : ∃ z, z = h0.size := ⟨_, rfl⟩
  rw [← g12] at A12 st12
  have z13 : h0.size ≤ h12.size := E12.1
  have Cp13 : CHr Z ELs s.vm h0 s.vm h12 := CHr.ext E12 CR.1
  have hk := Nat.le_trans hk z13
  have CR := CR.trans Cp13
  have l12 : b12 < h12.size := A12.lt
  have V12 : Arv Z h12 b12 k12 .char (Int32.ofNat (10 + nn)) ((List.replicate (10 + nn) (0 : Int32)).map Value.int) (.int (0 : Int32)) := (Arv.new A12 (own_nn (by omega))).pad (by rw [List.map_replicate]; exact pad_rep [] _ (10 + nn))
  obtain ⟨T14, h14, k14, X14, e14, E14, A14, st14⟩ := newP X12 hx hZ (hw _ (List.mem_of_getElem? (i := 1) rfl)) e12 (g := (mkF m 65 #[.val (.int len), .val (.int ca_), .val (.int cb_), .val (.int cc_), .val (.int cd_), .val (.int ce_), .val (.int (Int32.ofNat nn)), .val (.int q1), .val (.int q2), .val (.int q3), .val (.int q4), .val (.int q5), .val (.ref b12), .unset, .unset] [(.int (Int32.ofNat (10 + nn)))])) rfl (Jvm.hb hby at_65) rfl (own_nn (by omega)) (cap := 15) (by rw [own_tn (by omega)]; omega) (by decide) (by decide) (by decide)
  obtain ⟨b14, g14⟩ : ∃ z, z = h12.size := ⟨_, rfl⟩
  rw [← g14] at A14 st14
  have z15 : h12.size ≤ h14.size := E14.1
  have Cp15 : CHr Z ELs s.vm h12 s.vm h14 := CHr.ext E14 CR.1
  have hk := Nat.le_trans hk z15
  have CR := CR.trans Cp15
  have l14 : b14 < h14.size := A14.lt
  have V14 : Arv Z h14 b14 k14 .char (Int32.ofNat (10 + nn)) ((List.replicate (10 + nn) (0 : Int32)).map Value.int) (.int (0 : Int32)) := (Arv.new A14 (own_nn (by omega))).pad (by rw [List.map_replicate]; exact pad_rep [] _ (10 + nn))
  have f16 : Arv Z h14 b12 k12 .char (Int32.ofNat (10 + nn)) ((List.replicate (10 + nn) (0 : Int32)).map Value.int) (.int (0 : Int32)) := (V12.ext E14)
  obtain ⟨xs17, hxs17⟩ : ∃ z : List Int32, z = (List.replicate (10 + nn) (0 : Int32)) := ⟨_, rfl⟩
  have lxs17 : xs17.length = 10 + nn := by rw [hxs17]; exact List.length_replicate
  have V17 : Arv Z h14 b12 k12 .char (Int32.ofNat xs17.length) (xs17.map Value.int) (.int (0 : Int32)) := by rw [lxs17, hxs17]; exact f16
  obtain ⟨xs18, hxs18⟩ : ∃ z : List Int32, z = (List.replicate (10 + nn) (0 : Int32)) := ⟨_, rfl⟩
  have lxs18 : xs18.length = 10 + nn := by rw [hxs18]; exact List.length_replicate
  have V18 : Arv Z h14 b14 k14 .char (Int32.ofNat xs18.length) (xs18.map Value.int) (.int (0 : Int32)) := by rw [lxs18, hxs18]; exact V14
  have s19 : ∀ t_, Steps p.tables e below (T14.setTop (mkF m 71 #[.val (.int len), .val (.int ca_), .val (.int cb_), .val (.int cc_), .val (.int cd_), .val (.int ce_), .val (.int (Int32.ofNat nn)), .val (.int q1), .val (.int q2), .val (.int q3), .val (.int q4), .val (.int q5), .val (.ref b12), .val (.ref b14), .unset] [(.ref b12)])) t_ → Steps p.tables e below (s₁.setTop (entryFrame m #[(.int len), (.int ca_), (.int cb_), (.int cc_), (.int cd_), (.int ce_)] maxLocals)) t_ := fun t_ k_ => s6 t_ (by
    show Steps p.tables e below (s₁.setTop (mkF m 51 #[.val (.int len), .val (.int ca_), .val (.int cb_), .val (.int cc_), .val (.int cd_), .val (.int ce_), .val (.int (Int32.ofNat nn)), .val (.int q1), .val (.int q2), .val (.int q3), .val (.int q4), .val (.int q5), .unset, .unset, .unset] [])) t_
    refine XS.bipush X0.here hx rfl (Jvm.hb hby at_51) ?_
    refine XS.iload X0.here hx rfl (Jvm.hb hby at_53) rfl ?_
    refine XS.iadd X0.here hx rfl (Jvm.hb hby at_55) rfl ?_
    show Steps p.tables e below (s₁.setTop (mkF m 56 #[.val (.int len), .val (.int ca_), .val (.int cb_), .val (.int cc_), .val (.int cd_), .val (.int ce_), .val (.int (Int32.ofNat nn)), .val (.int q1), .val (.int q2), .val (.int q3), .val (.int q4), .val (.int q5), .unset, .unset, .unset] [(.int ((10 : Int32) + (Int32.ofNat nn)))])) _
    refine castTop (g' := (mkF m 56 #[.val (.int len), .val (.int ca_), .val (.int cb_), .val (.int cc_), .val (.int cd_), .val (.int ce_), .val (.int (Int32.ofNat nn)), .val (.int q1), .val (.int q2), .val (.int q3), .val (.int q4), .val (.int q5), .unset, .unset, .unset] [(.int (Int32.ofNat (10 + nn)))])) (by rw [show Int32.ofNat (10 + nn) = (10 : Int32) + (Int32.ofNat nn) from Int32.ofNat_add 10 nn]) ?_
    show Steps p.tables e below (s₁.setTop (mkF m 56 #[.val (.int len), .val (.int ca_), .val (.int cb_), .val (.int cc_), .val (.int cd_), .val (.int ce_), .val (.int (Int32.ofNat nn)), .val (.int q1), .val (.int q2), .val (.int q3), .val (.int q4), .val (.int q5), .unset, .unset, .unset] [(.int (Int32.ofNat (10 + nn)))])) _
    refine st12 _ ?_
    show Steps p.tables e below (T12.setTop (mkF m 58 #[.val (.int len), .val (.int ca_), .val (.int cb_), .val (.int cc_), .val (.int cd_), .val (.int ce_), .val (.int (Int32.ofNat nn)), .val (.int q1), .val (.int q2), .val (.int q3), .val (.int q4), .val (.int q5), .unset, .unset, .unset] [(.ref b12)])) _
    refine XS.astore X12.here hx rfl (Jvm.hb hby at_58) rfl rfl (l' := #[.val (.int len), .val (.int ca_), .val (.int cb_), .val (.int cc_), .val (.int cd_), .val (.int ce_), .val (.int (Int32.ofNat nn)), .val (.int q1), .val (.int q2), .val (.int q3), .val (.int q4), .val (.int q5), .val (.ref b12), .unset, .unset]) rfl ?_
    refine XS.bipush X12.here hx rfl (Jvm.hb hby at_60) ?_
    refine XS.iload X12.here hx rfl (Jvm.hb hby at_62) rfl ?_
    refine XS.iadd X12.here hx rfl (Jvm.hb hby at_64) rfl ?_
    show Steps p.tables e below (T12.setTop (mkF m 65 #[.val (.int len), .val (.int ca_), .val (.int cb_), .val (.int cc_), .val (.int cd_), .val (.int ce_), .val (.int (Int32.ofNat nn)), .val (.int q1), .val (.int q2), .val (.int q3), .val (.int q4), .val (.int q5), .val (.ref b12), .unset, .unset] [(.int ((10 : Int32) + (Int32.ofNat nn)))])) _
    refine castTop (g' := (mkF m 65 #[.val (.int len), .val (.int ca_), .val (.int cb_), .val (.int cc_), .val (.int cd_), .val (.int ce_), .val (.int (Int32.ofNat nn)), .val (.int q1), .val (.int q2), .val (.int q3), .val (.int q4), .val (.int q5), .val (.ref b12), .unset, .unset] [(.int (Int32.ofNat (10 + nn)))])) (by rw [show Int32.ofNat (10 + nn) = (10 : Int32) + (Int32.ofNat nn) from Int32.ofNat_add 10 nn]) ?_
    show Steps p.tables e below (T12.setTop (mkF m 65 #[.val (.int len), .val (.int ca_), .val (.int cb_), .val (.int cc_), .val (.int cd_), .val (.int ce_), .val (.int (Int32.ofNat nn)), .val (.int q1), .val (.int q2), .val (.int q3), .val (.int q4), .val (.int q5), .val (.ref b12), .unset, .unset] [(.int (Int32.ofNat (10 + nn)))])) _
    refine st14 _ ?_
    show Steps p.tables e below (T14.setTop (mkF m 67 #[.val (.int len), .val (.int ca_), .val (.int cb_), .val (.int cc_), .val (.int cd_), .val (.int ce_), .val (.int (Int32.ofNat nn)), .val (.int q1), .val (.int q2), .val (.int q3), .val (.int q4), .val (.int q5), .val (.ref b12), .unset, .unset] [(.ref b14)])) _
    refine XS.astore X14.here hx rfl (Jvm.hb hby at_67) rfl rfl (l' := #[.val (.int len), .val (.int ca_), .val (.int cb_), .val (.int cc_), .val (.int cd_), .val (.int ce_), .val (.int (Int32.ofNat nn)), .val (.int q1), .val (.int q2), .val (.int q3), .val (.int q4), .val (.int q5), .val (.ref b12), .val (.ref b14), .unset]) rfl ?_
    refine XS.aload X14.here hx rfl (Jvm.hb hby at_69) rfl rfl ?_
    show Steps p.tables e below (T14.setTop (mkF m 71 #[.val (.int len), .val (.int ca_), .val (.int cb_), .val (.int cc_), .val (.int cd_), .val (.int ce_), .val (.int (Int32.ofNat nn)), .val (.int q1), .val (.int q2), .val (.int q3), .val (.int q4), .val (.int q5), .val (.ref b12), .val (.ref b14), .unset] [(.ref b12)])) t_
    exact k_)
  have Zc20 : n0 ≤ h14.size := by omega
  obtain ⟨_, _, ⟨T21, L21, k21, n21⟩, -, X21, ⟨Lc21, hQ21, l21, y21, z21⟩, st21⟩ := Jvm.LawKit.callS X14 hx (y := (⟨"io/dyeline/store/LayoutTagFilePinLaw", "putPrefix", "([C)V"⟩ : MethodName)) hown (mvT hZ (hw _ (List.mem_of_getElem? (i := 2) rfl))) (mvT hZ (hw _ (List.mem_of_getElem? (i := 3) rfl))) (mvT hZ (hw _ (List.mem_of_getElem? (i := 4) rfl))) (mvT hZ (hw _ (List.mem_of_getElem? (i := 5) rfl))) (by decide) (backOf (W := 0) (rmPre l Z a0 hw [] b12 k12 xs17 h14 n0 Zc20 V17 (by first | assumption | omega | rfl | decide : n0 ≤ b12) (by first | assumption | omega | rfl | decide : 10 ≤ xs17.length) (by first | assumption | omega | rfl | decide : xs17.length ≤ 15)) hZ (hw _ (List.mem_of_getElem? (i := 5) rfl)) (hw _ (List.mem_of_getElem? (i := 4) rfl)) (by decide) (by decide)) (g := (mkF m 71 #[.val (.int len), .val (.int ca_), .val (.int cb_), .val (.int cc_), .val (.int cd_), .val (.int ce_), .val (.int (Int32.ofNat nn)), .val (.int q1), .val (.int q2), .val (.int q3), .val (.int q4), .val (.int q5), .val (.ref b12), .val (.ref b14), .unset] [(.ref b12)])) rfl (by rw [hml]; rfl) (argsL := [(.ref b12)]) (rest := []) (lenOf pd___C_V rfl) rfl (by show 2 * 0 + _ ≤ _; exact Nat.le_of_eq rfl) (Jvm.hb hby at_71) (fun _ _ => ⟨rfl, e14, (by decide : 2 + 0 ≤ _), (by decide : 30 + 0 ≤ _)⟩)
  dsimp only [Pt.U, Pt.locs, Pt.cells, Pt.slots] at X21 l21 y21 z21 st21 hQ21
  subst l21 y21 z21
  obtain ⟨rfl, N21q, K21, Fq21_0⟩ := hQ21
  have N21 := Fr.app N0 N21q
  obtain ⟨h21, e21⟩ : ∃ z, T21.heap = z := ⟨_, rfl⟩
  rw [e21] at K21 Fq21_0
  have z22 : h14.size ≤ h21.size := K21.1
  have Cp22 : CHr Z ELs s.vm h14 s.vm h21 := CHr.keep K21 (sfS (Safe.arv hZ.alike V17 (by decide)) sf0) CR.1
  have hk := Nat.le_trans hk z22
  have CR := CR.trans Cp22
  have lt21_0 : @LT.lt Nat _ b12 h21.size := Fq21_0.lt
  obtain ⟨xs23, hxs23⟩ : ∃ z : List Int32, z = (List.set (List.set (List.set (List.set (List.set xs17 (0) (112 : Int32)) (1) (97 : Int32)) (2) (114 : Int32)) (3) (116 : Int32)) (4) (45 : Int32)) := ⟨_, rfl⟩
  have lxs23 : xs23.length = 10 + nn := by rw [hxs23]; first | (simp only [List.length_set]; exact lxs17) | (rw [own_steml]; exact lxs17)
  have V23 : Arv Z h21 b12 k12 .char (Int32.ofNat xs23.length) (xs23.map Value.int) (.int (0 : Int32)) := by rw [lxs23, ← lxs17, hxs23]; exact Fq21_0
  have s24 : ∀ t_, Steps p.tables e below (T21.setTop (mkF m 76 #[.val (.int len), .val (.int ca_), .val (.int cb_), .val (.int cc_), .val (.int cd_), .val (.int ce_), .val (.int (Int32.ofNat nn)), .val (.int q1), .val (.int q2), .val (.int q3), .val (.int q4), .val (.int q5), .val (.ref b12), .val (.ref b14), .unset] [(.ref b14)])) t_ → Steps p.tables e below (s₁.setTop (entryFrame m #[(.int len), (.int ca_), (.int cb_), (.int cc_), (.int cd_), (.int ce_)] maxLocals)) t_ := fun t_ k_ => s19 t_ (by
    show Steps p.tables e below (T14.setTop (mkF m 71 #[.val (.int len), .val (.int ca_), .val (.int cb_), .val (.int cc_), .val (.int cd_), .val (.int ce_), .val (.int (Int32.ofNat nn)), .val (.int q1), .val (.int q2), .val (.int q3), .val (.int q4), .val (.int q5), .val (.ref b12), .val (.ref b14), .unset] [(.ref b12)])) t_
    refine st21 _ ?_
    show Steps p.tables e below (T21.setTop (mkF m 74 #[.val (.int len), .val (.int ca_), .val (.int cb_), .val (.int cc_), .val (.int cd_), .val (.int ce_), .val (.int (Int32.ofNat nn)), .val (.int q1), .val (.int q2), .val (.int q3), .val (.int q4), .val (.int q5), .val (.ref b12), .val (.ref b14), .unset] [])) _
    refine XS.aload X21.here hx rfl (Jvm.hb hby at_74) rfl rfl ?_
    show Steps p.tables e below (T21.setTop (mkF m 76 #[.val (.int len), .val (.int ca_), .val (.int cb_), .val (.int cc_), .val (.int cd_), .val (.int ce_), .val (.int (Int32.ofNat nn)), .val (.int q1), .val (.int q2), .val (.int q3), .val (.int q4), .val (.int q5), .val (.ref b12), .val (.ref b14), .unset] [(.ref b14)])) t_
    exact k_)
  have f25 : Arv Z h21 b14 k14 .char (Int32.ofNat xs18.length) (xs18.map Value.int) (.int (0 : Int32)) := (V18.keep K21 (ninS (show @Ne Nat b14 b12 by omega) nin0))
  have Zc26 : n0 ≤ h21.size := by omega
  obtain ⟨_, _, ⟨T27, L27, k27, n27⟩, -, X27, ⟨Lc27, hQ27, l27, y27, z27⟩, st27⟩ := Jvm.LawKit.callS X21 hx (y := (⟨"io/dyeline/store/LayoutTagFilePinLaw", "putPrefix", "([C)V"⟩ : MethodName)) hown (mvT hZ (hw _ (List.mem_of_getElem? (i := 2) rfl))) (mvT hZ (hw _ (List.mem_of_getElem? (i := 3) rfl))) (mvT hZ (hw _ (List.mem_of_getElem? (i := 4) rfl))) (mvT hZ (hw _ (List.mem_of_getElem? (i := 5) rfl))) (by decide) (backOf (W := 0) (rmPre l Z a0 hw [] b14 k14 xs18 h21 n0 Zc26 f25 (by first | assumption | omega | rfl | decide : n0 ≤ b14) (by first | assumption | omega | rfl | decide : 10 ≤ xs18.length) (by first | assumption | omega | rfl | decide : xs18.length ≤ 15)) hZ (hw _ (List.mem_of_getElem? (i := 5) rfl)) (hw _ (List.mem_of_getElem? (i := 4) rfl)) (by decide) (by decide)) (g := (mkF m 76 #[.val (.int len), .val (.int ca_), .val (.int cb_), .val (.int cc_), .val (.int cd_), .val (.int ce_), .val (.int (Int32.ofNat nn)), .val (.int q1), .val (.int q2), .val (.int q3), .val (.int q4), .val (.int q5), .val (.ref b12), .val (.ref b14), .unset] [(.ref b14)])) rfl (by rw [hml]; rfl) (argsL := [(.ref b14)]) (rest := []) (lenOf pd___C_V rfl) rfl (by show 2 * 0 + _ ≤ _; exact Nat.le_of_eq rfl) (Jvm.hb hby at_76) (fun _ _ => ⟨rfl, e21, (by decide : 2 + 0 ≤ _), (by decide : 30 + 0 ≤ _)⟩)
  dsimp only [Pt.U, Pt.locs, Pt.cells, Pt.slots] at X27 l27 y27 z27 st27 hQ27
  subst l27 y27 z27
  obtain ⟨rfl, N27q, K27, Fq27_0⟩ := hQ27
  have N27 := Fr.app N21 N27q
  obtain ⟨h27, e27⟩ : ∃ z, T27.heap = z := ⟨_, rfl⟩
  rw [e27] at K27 Fq27_0
  have z28 : h21.size ≤ h27.size := K27.1
  have Cp28 : CHr Z ELs s.vm h21 s.vm h27 := CHr.keep K27 (sfS (Safe.arv hZ.alike f25 (by decide)) sf0) CR.1
  have hk := Nat.le_trans hk z28
  have CR := CR.trans Cp28
  have lt27_0 : @LT.lt Nat _ b14 h27.size := Fq27_0.lt
  obtain ⟨xs29, hxs29⟩ : ∃ z : List Int32, z = (List.set (List.set (List.set (List.set (List.set xs18 (0) (112 : Int32)) (1) (97 : Int32)) (2) (114 : Int32)) (3) (116 : Int32)) (4) (45 : Int32)) := ⟨_, rfl⟩
  have lxs29 : xs29.length = 10 + nn := by rw [hxs29]; first | (simp only [List.length_set]; exact lxs18) | (rw [own_steml]; exact lxs18)
  have V29 : Arv Z h27 b14 k14 .char (Int32.ofNat xs29.length) (xs29.map Value.int) (.int (0 : Int32)) := by rw [lxs29, ← lxs18, hxs29]; exact Fq27_0
  have s30 : ∀ t_, Steps p.tables e below (T27.setTop (mkF m 93 #[.val (.int len), .val (.int ca_), .val (.int cb_), .val (.int cc_), .val (.int cd_), .val (.int ce_), .val (.int (Int32.ofNat nn)), .val (.int q1), .val (.int q2), .val (.int q3), .val (.int q4), .val (.int q5), .val (.ref b12), .val (.ref b14), .unset] [(.int q5), (.int q4), (.int q3), (.int q2), (.int q1), (.int (Int32.ofNat nn)), (.ref b12)])) t_ → Steps p.tables e below (s₁.setTop (entryFrame m #[(.int len), (.int ca_), (.int cb_), (.int cc_), (.int cd_), (.int ce_)] maxLocals)) t_ := fun t_ k_ => s24 t_ (by
    show Steps p.tables e below (T21.setTop (mkF m 76 #[.val (.int len), .val (.int ca_), .val (.int cb_), .val (.int cc_), .val (.int cd_), .val (.int ce_), .val (.int (Int32.ofNat nn)), .val (.int q1), .val (.int q2), .val (.int q3), .val (.int q4), .val (.int q5), .val (.ref b12), .val (.ref b14), .unset] [(.ref b14)])) t_
    refine st27 _ ?_
    show Steps p.tables e below (T27.setTop (mkF m 79 #[.val (.int len), .val (.int ca_), .val (.int cb_), .val (.int cc_), .val (.int cd_), .val (.int ce_), .val (.int (Int32.ofNat nn)), .val (.int q1), .val (.int q2), .val (.int q3), .val (.int q4), .val (.int q5), .val (.ref b12), .val (.ref b14), .unset] [])) _
    refine XS.aload X27.here hx rfl (Jvm.hb hby at_79) rfl rfl ?_
    refine XS.iload X27.here hx rfl (Jvm.hb hby at_81) rfl ?_
    refine XS.iload X27.here hx rfl (Jvm.hb hby at_83) rfl ?_
    refine XS.iload X27.here hx rfl (Jvm.hb hby at_85) rfl ?_
    refine XS.iload X27.here hx rfl (Jvm.hb hby at_87) rfl ?_
    refine XS.iload X27.here hx rfl (Jvm.hb hby at_89) rfl ?_
    show Steps p.tables e below (T27.setTop (mkF m 91 #[.val (.int len), .val (.int ca_), .val (.int cb_), .val (.int cc_), .val (.int cd_), .val (.int ce_), .val (.int (Int32.ofNat nn)), .val (.int q1), .val (.int q2), .val (.int q3), .val (.int q4), .val (.int q5), .val (.ref b12), .val (.ref b14), .unset] [(.int q4), (.int q3), (.int q2), (.int q1), (.int (Int32.ofNat nn)), (.ref b12)])) _
    refine XS.iload X27.here hx rfl (Jvm.hb hby at_91) rfl ?_
    show Steps p.tables e below (T27.setTop (mkF m 93 #[.val (.int len), .val (.int ca_), .val (.int cb_), .val (.int cc_), .val (.int cd_), .val (.int ce_), .val (.int (Int32.ofNat nn)), .val (.int q1), .val (.int q2), .val (.int q3), .val (.int q4), .val (.int q5), .val (.ref b12), .val (.ref b14), .unset] [(.int q5), (.int q4), (.int q3), (.int q2), (.int q1), (.int (Int32.ofNat nn)), (.ref b12)])) t_
    exact k_)
  have f31 : Arv Z h27 b12 k12 .char (Int32.ofNat xs23.length) (xs23.map Value.int) (.int (0 : Int32)) := (V23.keep K27 (ninS (show @Ne Nat b12 b14 by omega) nin0))
  have Zc32 : n0 ≤ h27.size := by omega
  obtain ⟨_, _, ⟨T33, L33, k33, n33⟩, -, X33, ⟨Lc33, hQ33, l33, y33, z33⟩, st33⟩ := Jvm.LawKit.callS X27 hx (y := (⟨"io/dyeline/store/LayoutTagFilePinLaw", "putStem", "([CICCCCC)V"⟩ : MethodName)) hown (mvT hZ (hw _ (List.mem_of_getElem? (i := 6) rfl))) (mvT hZ (hw _ (List.mem_of_getElem? (i := 7) rfl))) (mvT hZ (hw _ (List.mem_of_getElem? (i := 4) rfl))) (mvT hZ (hw _ (List.mem_of_getElem? (i := 8) rfl))) (by decide) (backOf (W := 0) (rmStem l Z a0 hw [] b12 q1 q2 q3 q4 q5 k12 xs23 nn h27 n0 Zc32 f31 (by first | assumption | omega | rfl | decide : n0 ≤ b12) (by first | assumption | omega | rfl | decide : 10 ≤ xs23.length) (by first | assumption | omega | rfl | decide : xs23.length ≤ 15) (by first | assumption | omega | rfl | decide : nn < 6) (rg7.1 : ¬ (q1 < (0 : Int32))) (rg7.2 : ¬ ((255 : Int32) < q1)) (rg8.1 : ¬ (q2 < (0 : Int32))) (rg8.2 : ¬ ((255 : Int32) < q2)) (rg9.1 : ¬ (q3 < (0 : Int32))) (rg9.2 : ¬ ((255 : Int32) < q3)) (rg10.1 : ¬ (q4 < (0 : Int32))) (rg10.2 : ¬ ((255 : Int32) < q4)) (rg11.1 : ¬ (q5 < (0 : Int32))) (rg11.2 : ¬ ((255 : Int32) < q5))) hZ (hw _ (List.mem_of_getElem? (i := 8) rfl)) (hw _ (List.mem_of_getElem? (i := 4) rfl)) (by decide) (by decide)) (g := (mkF m 93 #[.val (.int len), .val (.int ca_), .val (.int cb_), .val (.int cc_), .val (.int cd_), .val (.int ce_), .val (.int (Int32.ofNat nn)), .val (.int q1), .val (.int q2), .val (.int q3), .val (.int q4), .val (.int q5), .val (.ref b12), .val (.ref b14), .unset] [(.int q5), (.int q4), (.int q3), (.int q2), (.int q1), (.int (Int32.ofNat nn)), (.ref b12)])) rfl (by rw [hml]; rfl) (argsL := [(.ref b12), (.int (Int32.ofNat nn)), (.int q1), (.int q2), (.int q3), (.int q4), (.int q5)]) (rest := []) (lenOf pd___CICCCCC_V rfl) rfl (by show 2 * 0 + _ ≤ _; exact Nat.le_of_eq rfl) (Jvm.hb hby at_93) (fun _ _ => ⟨rfl, e27, (by decide : 2 + 0 ≤ _), (by decide : 30 + 0 ≤ _)⟩)
  dsimp only [Pt.U, Pt.locs, Pt.cells, Pt.slots] at X33 l33 y33 z33 st33 hQ33
  subst l33 y33 z33
  obtain ⟨rfl, N33q, K33, Fq33_0⟩ := hQ33
  have N33 := Fr.app N27 N33q
  obtain ⟨h33, e33⟩ : ∃ z, T33.heap = z := ⟨_, rfl⟩
  rw [e33] at K33 Fq33_0
  have z34 : h27.size ≤ h33.size := K33.1
  have Cp34 : CHr Z ELs s.vm h27 s.vm h33 := CHr.keep K33 (sfS (Safe.arv hZ.alike f31 (by decide)) sf0) CR.1
  have hk := Nat.le_trans hk z34
  have CR := CR.trans Cp34
  have lt33_0 : @LT.lt Nat _ b12 h33.size := Fq33_0.lt
  obtain ⟨xs35, hxs35⟩ : ∃ z : List Int32, z = (own_stem nn xs23 q1 q2 q3 q4 q5) := ⟨_, rfl⟩
  have lxs35 : xs35.length = 10 + nn := by rw [hxs35]; first | (simp only [List.length_set]; exact lxs23) | (rw [own_steml]; exact lxs23)
  have V35 : Arv Z h33 b12 k12 .char (Int32.ofNat xs35.length) (xs35.map Value.int) (.int (0 : Int32)) := by rw [lxs35, ← lxs23, hxs35]; exact Fq33_0
  have s36 : ∀ t_, Steps p.tables e below (T33.setTop (mkF m 110 #[.val (.int len), .val (.int ca_), .val (.int cb_), .val (.int cc_), .val (.int cd_), .val (.int ce_), .val (.int (Int32.ofNat nn)), .val (.int q1), .val (.int q2), .val (.int q3), .val (.int q4), .val (.int q5), .val (.ref b12), .val (.ref b14), .unset] [(.int q5), (.int q4), (.int q3), (.int q2), (.int q1), (.int (Int32.ofNat nn)), (.ref b14)])) t_ → Steps p.tables e below (s₁.setTop (entryFrame m #[(.int len), (.int ca_), (.int cb_), (.int cc_), (.int cd_), (.int ce_)] maxLocals)) t_ := fun t_ k_ => s30 t_ (by
    show Steps p.tables e below (T27.setTop (mkF m 93 #[.val (.int len), .val (.int ca_), .val (.int cb_), .val (.int cc_), .val (.int cd_), .val (.int ce_), .val (.int (Int32.ofNat nn)), .val (.int q1), .val (.int q2), .val (.int q3), .val (.int q4), .val (.int q5), .val (.ref b12), .val (.ref b14), .unset] [(.int q5), (.int q4), (.int q3), (.int q2), (.int q1), (.int (Int32.ofNat nn)), (.ref b12)])) t_
    refine st33 _ ?_
    show Steps p.tables e below (T33.setTop (mkF m 96 #[.val (.int len), .val (.int ca_), .val (.int cb_), .val (.int cc_), .val (.int cd_), .val (.int ce_), .val (.int (Int32.ofNat nn)), .val (.int q1), .val (.int q2), .val (.int q3), .val (.int q4), .val (.int q5), .val (.ref b12), .val (.ref b14), .unset] [])) _
    refine XS.aload X33.here hx rfl (Jvm.hb hby at_96) rfl rfl ?_
    refine XS.iload X33.here hx rfl (Jvm.hb hby at_98) rfl ?_
    refine XS.iload X33.here hx rfl (Jvm.hb hby at_100) rfl ?_
    refine XS.iload X33.here hx rfl (Jvm.hb hby at_102) rfl ?_
    refine XS.iload X33.here hx rfl (Jvm.hb hby at_104) rfl ?_
    refine XS.iload X33.here hx rfl (Jvm.hb hby at_106) rfl ?_
    show Steps p.tables e below (T33.setTop (mkF m 108 #[.val (.int len), .val (.int ca_), .val (.int cb_), .val (.int cc_), .val (.int cd_), .val (.int ce_), .val (.int (Int32.ofNat nn)), .val (.int q1), .val (.int q2), .val (.int q3), .val (.int q4), .val (.int q5), .val (.ref b12), .val (.ref b14), .unset] [(.int q4), (.int q3), (.int q2), (.int q1), (.int (Int32.ofNat nn)), (.ref b14)])) _
    refine XS.iload X33.here hx rfl (Jvm.hb hby at_108) rfl ?_
    show Steps p.tables e below (T33.setTop (mkF m 110 #[.val (.int len), .val (.int ca_), .val (.int cb_), .val (.int cc_), .val (.int cd_), .val (.int ce_), .val (.int (Int32.ofNat nn)), .val (.int q1), .val (.int q2), .val (.int q3), .val (.int q4), .val (.int q5), .val (.ref b12), .val (.ref b14), .unset] [(.int q5), (.int q4), (.int q3), (.int q2), (.int q1), (.int (Int32.ofNat nn)), (.ref b14)])) t_
    exact k_)
  have f37 : Arv Z h33 b14 k14 .char (Int32.ofNat xs29.length) (xs29.map Value.int) (.int (0 : Int32)) := (V29.keep K33 (ninS (show @Ne Nat b14 b12 by omega) nin0))
  have Zc38 : n0 ≤ h33.size := by omega
  obtain ⟨_, _, ⟨T39, L39, k39, n39⟩, -, X39, ⟨Lc39, hQ39, l39, y39, z39⟩, st39⟩ := Jvm.LawKit.callS X33 hx (y := (⟨"io/dyeline/store/LayoutTagFilePinLaw", "putStem", "([CICCCCC)V"⟩ : MethodName)) hown (mvT hZ (hw _ (List.mem_of_getElem? (i := 6) rfl))) (mvT hZ (hw _ (List.mem_of_getElem? (i := 7) rfl))) (mvT hZ (hw _ (List.mem_of_getElem? (i := 4) rfl))) (mvT hZ (hw _ (List.mem_of_getElem? (i := 8) rfl))) (by decide) (backOf (W := 0) (rmStem l Z a0 hw [] b14 q1 q2 q3 q4 q5 k14 xs29 nn h33 n0 Zc38 f37 (by first | assumption | omega | rfl | decide : n0 ≤ b14) (by first | assumption | omega | rfl | decide : 10 ≤ xs29.length) (by first | assumption | omega | rfl | decide : xs29.length ≤ 15) (by first | assumption | omega | rfl | decide : nn < 6) (rg7.1 : ¬ (q1 < (0 : Int32))) (rg7.2 : ¬ ((255 : Int32) < q1)) (rg8.1 : ¬ (q2 < (0 : Int32))) (rg8.2 : ¬ ((255 : Int32) < q2)) (rg9.1 : ¬ (q3 < (0 : Int32))) (rg9.2 : ¬ ((255 : Int32) < q3)) (rg10.1 : ¬ (q4 < (0 : Int32))) (rg10.2 : ¬ ((255 : Int32) < q4)) (rg11.1 : ¬ (q5 < (0 : Int32))) (rg11.2 : ¬ ((255 : Int32) < q5))) hZ (hw _ (List.mem_of_getElem? (i := 8) rfl)) (hw _ (List.mem_of_getElem? (i := 4) rfl)) (by decide) (by decide)) (g := (mkF m 110 #[.val (.int len), .val (.int ca_), .val (.int cb_), .val (.int cc_), .val (.int cd_), .val (.int ce_), .val (.int (Int32.ofNat nn)), .val (.int q1), .val (.int q2), .val (.int q3), .val (.int q4), .val (.int q5), .val (.ref b12), .val (.ref b14), .unset] [(.int q5), (.int q4), (.int q3), (.int q2), (.int q1), (.int (Int32.ofNat nn)), (.ref b14)])) rfl (by rw [hml]; rfl) (argsL := [(.ref b14), (.int (Int32.ofNat nn)), (.int q1), (.int q2), (.int q3), (.int q4), (.int q5)]) (rest := []) (lenOf pd___CICCCCC_V rfl) rfl (by show 2 * 0 + _ ≤ _; exact Nat.le_of_eq rfl) (Jvm.hb hby at_110) (fun _ _ => ⟨rfl, e33, (by decide : 2 + 0 ≤ _), (by decide : 30 + 0 ≤ _)⟩)
  dsimp only [Pt.U, Pt.locs, Pt.cells, Pt.slots] at X39 l39 y39 z39 st39 hQ39
  subst l39 y39 z39
  obtain ⟨rfl, N39q, K39, Fq39_0⟩ := hQ39
  have N39 := Fr.app N33 N39q
  obtain ⟨h39, e39⟩ : ∃ z, T39.heap = z := ⟨_, rfl⟩
  rw [e39] at K39 Fq39_0
  have z40 : h33.size ≤ h39.size := K39.1
  have Cp40 : CHr Z ELs s.vm h33 s.vm h39 := CHr.keep K39 (sfS (Safe.arv hZ.alike f37 (by decide)) sf0) CR.1
  have hk := Nat.le_trans hk z40
  have CR := CR.trans Cp40
  have lt39_0 : @LT.lt Nat _ b14 h39.size := Fq39_0.lt
  obtain ⟨xs41, hxs41⟩ : ∃ z : List Int32, z = (own_stem nn xs29 q1 q2 q3 q4 q5) := ⟨_, rfl⟩
  have lxs41 : xs41.length = 10 + nn := by rw [hxs41]; first | (simp only [List.length_set]; exact lxs29) | (rw [own_steml]; exact lxs29)
  have V41 : Arv Z h39 b14 k14 .char (Int32.ofNat xs41.length) (xs41.map Value.int) (.int (0 : Int32)) := by rw [lxs41, ← lxs29, hxs41]; exact Fq39_0
  have s42 : ∀ t_, Steps p.tables e below (T39.setTop (mkF m 120 #[.val (.int len), .val (.int ca_), .val (.int cb_), .val (.int cc_), .val (.int cd_), .val (.int ce_), .val (.int (Int32.ofNat nn)), .val (.int q1), .val (.int q2), .val (.int q3), .val (.int q4), .val (.int q5), .val (.ref b12), .val (.ref b14), .unset] [(.int (0 : Int32)), (.int (Int32.ofNat (5 + nn))), (.ref b12)])) t_ → Steps p.tables e below (s₁.setTop (entryFrame m #[(.int len), (.int ca_), (.int cb_), (.int cc_), (.int cd_), (.int ce_)] maxLocals)) t_ := fun t_ k_ => s36 t_ (by
    show Steps p.tables e below (T33.setTop (mkF m 110 #[.val (.int len), .val (.int ca_), .val (.int cb_), .val (.int cc_), .val (.int cd_), .val (.int ce_), .val (.int (Int32.ofNat nn)), .val (.int q1), .val (.int q2), .val (.int q3), .val (.int q4), .val (.int q5), .val (.ref b12), .val (.ref b14), .unset] [(.int q5), (.int q4), (.int q3), (.int q2), (.int q1), (.int (Int32.ofNat nn)), (.ref b14)])) t_
    refine st39 _ ?_
    show Steps p.tables e below (T39.setTop (mkF m 113 #[.val (.int len), .val (.int ca_), .val (.int cb_), .val (.int cc_), .val (.int cd_), .val (.int ce_), .val (.int (Int32.ofNat nn)), .val (.int q1), .val (.int q2), .val (.int q3), .val (.int q4), .val (.int q5), .val (.ref b12), .val (.ref b14), .unset] [])) _
    refine XS.aload X39.here hx rfl (Jvm.hb hby at_113) rfl rfl ?_
    refine XS.iconst X39.here hx rfl (Jvm.hb hby at_115) ?_
    refine XS.iload X39.here hx rfl (Jvm.hb hby at_116) rfl ?_
    refine XS.iadd X39.here hx rfl (Jvm.hb hby at_118) rfl ?_
    show Steps p.tables e below (T39.setTop (mkF m 119 #[.val (.int len), .val (.int ca_), .val (.int cb_), .val (.int cc_), .val (.int cd_), .val (.int ce_), .val (.int (Int32.ofNat nn)), .val (.int q1), .val (.int q2), .val (.int q3), .val (.int q4), .val (.int q5), .val (.ref b12), .val (.ref b14), .unset] [(.int ((5 : Int32) + (Int32.ofNat nn))), (.ref b12)])) _
    refine castTop (g' := (mkF m 119 #[.val (.int len), .val (.int ca_), .val (.int cb_), .val (.int cc_), .val (.int cd_), .val (.int ce_), .val (.int (Int32.ofNat nn)), .val (.int q1), .val (.int q2), .val (.int q3), .val (.int q4), .val (.int q5), .val (.ref b12), .val (.ref b14), .unset] [(.int (Int32.ofNat (5 + nn))), (.ref b12)])) (by rw [show Int32.ofNat (5 + nn) = (5 : Int32) + (Int32.ofNat nn) from Int32.ofNat_add 5 nn]) ?_
    show Steps p.tables e below (T39.setTop (mkF m 119 #[.val (.int len), .val (.int ca_), .val (.int cb_), .val (.int cc_), .val (.int cd_), .val (.int ce_), .val (.int (Int32.ofNat nn)), .val (.int q1), .val (.int q2), .val (.int q3), .val (.int q4), .val (.int q5), .val (.ref b12), .val (.ref b14), .unset] [(.int (Int32.ofNat (5 + nn))), (.ref b12)])) _
    refine XS.iconst X39.here hx rfl (Jvm.hb hby at_119) ?_
    show Steps p.tables e below (T39.setTop (mkF m 120 #[.val (.int len), .val (.int ca_), .val (.int cb_), .val (.int cc_), .val (.int cd_), .val (.int ce_), .val (.int (Int32.ofNat nn)), .val (.int q1), .val (.int q2), .val (.int q3), .val (.int q4), .val (.int q5), .val (.ref b12), .val (.ref b14), .unset] [(.int (0 : Int32)), (.int (Int32.ofNat (5 + nn))), (.ref b12)])) t_
    exact k_)
  have f43 : Arv Z h39 b12 k12 .char (Int32.ofNat xs35.length) (xs35.map Value.int) (.int (0 : Int32)) := (V35.keep K39 (ninS (show @Ne Nat b12 b14 by omega) nin0))
  have Zc44 : n0 ≤ h39.size := by omega
  obtain ⟨_, _, ⟨T45, L45, k45, n45⟩, -, X45, ⟨Lc45, hQ45, l45, y45, z45⟩, st45⟩ := Jvm.LawKit.callS X39 hx (y := (⟨"io/dyeline/store/LayoutTagFilePinLaw", "putSuffix", "([CIZ)V"⟩ : MethodName)) hown (mvT hZ (hw _ (List.mem_of_getElem? (i := 9) rfl))) (mvT hZ (hw _ (List.mem_of_getElem? (i := 10) rfl))) (mvT hZ (hw _ (List.mem_of_getElem? (i := 4) rfl))) (mvT hZ (hw _ (List.mem_of_getElem? (i := 11) rfl))) (by decide) (backOf (W := 0) (rmSufJ l Z a0 hw [] b12 k12 xs35 (5 + nn) h39 n0 Zc44 f43 (by first | assumption | omega | rfl | decide : n0 ≤ b12) (by first | assumption | omega | rfl | decide : 10 ≤ xs35.length) (by first | assumption | omega | rfl | decide : xs35.length ≤ 15) (by first | assumption | omega | rfl | decide : (5 + nn) + 5 ≤ xs35.length)) hZ (hw _ (List.mem_of_getElem? (i := 11) rfl)) (hw _ (List.mem_of_getElem? (i := 4) rfl)) (by decide) (by decide)) (g := (mkF m 120 #[.val (.int len), .val (.int ca_), .val (.int cb_), .val (.int cc_), .val (.int cd_), .val (.int ce_), .val (.int (Int32.ofNat nn)), .val (.int q1), .val (.int q2), .val (.int q3), .val (.int q4), .val (.int q5), .val (.ref b12), .val (.ref b14), .unset] [(.int (0 : Int32)), (.int (Int32.ofNat (5 + nn))), (.ref b12)])) rfl (by rw [hml]; rfl) (argsL := [(.ref b12), (.int (Int32.ofNat (5 + nn))), (.int (0 : Int32))]) (rest := []) (lenOf pd___CIZ_V rfl) rfl (by show 2 * 0 + _ ≤ _; exact Nat.le_of_eq rfl) (Jvm.hb hby at_120) (fun _ _ => ⟨rfl, e39, (by decide : 2 + 0 ≤ _), (by decide : 30 + 0 ≤ _)⟩)
  dsimp only [Pt.U, Pt.locs, Pt.cells, Pt.slots] at X45 l45 y45 z45 st45 hQ45
  subst l45 y45 z45
  obtain ⟨rfl, N45q, K45, Fq45_0⟩ := hQ45
  have N45 := Fr.app N39 N45q
  obtain ⟨h45, e45⟩ : ∃ z, T45.heap = z := ⟨_, rfl⟩
  rw [e45] at K45 Fq45_0
  have z46 : h39.size ≤ h45.size := K45.1
  have Cp46 : CHr Z ELs s.vm h39 s.vm h45 := CHr.keep K45 (sfS (Safe.arv hZ.alike f43 (by decide)) sf0) CR.1
  have hk := Nat.le_trans hk z46
  have CR := CR.trans Cp46
  have lt45_0 : @LT.lt Nat _ b12 h45.size := Fq45_0.lt
  obtain ⟨xs47, hxs47⟩ : ∃ z : List Int32, z = (List.set (List.set (List.set (List.set (List.set xs35 ((5 + nn)) (46 : Int32)) ((5 + nn) + 1) (106 : Int32)) ((5 + nn) + 2) (115 : Int32)) ((5 + nn) + 3) (111 : Int32)) ((5 + nn) + 4) (110 : Int32)) := ⟨_, rfl⟩
  have lxs47 : xs47.length = 10 + nn := by rw [hxs47]; first | (simp only [List.length_set]; exact lxs35) | (rw [own_steml]; exact lxs35)
  have V47 : Arv Z h45 b12 k12 .char (Int32.ofNat xs47.length) (xs47.map Value.int) (.int (0 : Int32)) := by rw [lxs47, ← lxs35, hxs47]; exact Fq45_0
  have s48 : ∀ t_, Steps p.tables e below (T45.setTop (mkF m 130 #[.val (.int len), .val (.int ca_), .val (.int cb_), .val (.int cc_), .val (.int cd_), .val (.int ce_), .val (.int (Int32.ofNat nn)), .val (.int q1), .val (.int q2), .val (.int q3), .val (.int q4), .val (.int q5), .val (.ref b12), .val (.ref b14), .unset] [(.int (1 : Int32)), (.int (Int32.ofNat (5 + nn))), (.ref b14)])) t_ → Steps p.tables e below (s₁.setTop (entryFrame m #[(.int len), (.int ca_), (.int cb_), (.int cc_), (.int cd_), (.int ce_)] maxLocals)) t_ := fun t_ k_ => s42 t_ (by
    show Steps p.tables e below (T39.setTop (mkF m 120 #[.val (.int len), .val (.int ca_), .val (.int cb_), .val (.int cc_), .val (.int cd_), .val (.int ce_), .val (.int (Int32.ofNat nn)), .val (.int q1), .val (.int q2), .val (.int q3), .val (.int q4), .val (.int q5), .val (.ref b12), .val (.ref b14), .unset] [(.int (0 : Int32)), (.int (Int32.ofNat (5 + nn))), (.ref b12)])) t_
    refine st45 _ ?_
    show Steps p.tables e below (T45.setTop (mkF m 123 #[.val (.int len), .val (.int ca_), .val (.int cb_), .val (.int cc_), .val (.int cd_), .val (.int ce_), .val (.int (Int32.ofNat nn)), .val (.int q1), .val (.int q2), .val (.int q3), .val (.int q4), .val (.int q5), .val (.ref b12), .val (.ref b14), .unset] [])) _
    refine XS.aload X45.here hx rfl (Jvm.hb hby at_123) rfl rfl ?_
    refine XS.iconst X45.here hx rfl (Jvm.hb hby at_125) ?_
    refine XS.iload X45.here hx rfl (Jvm.hb hby at_126) rfl ?_
    refine XS.iadd X45.here hx rfl (Jvm.hb hby at_128) rfl ?_
    show Steps p.tables e below (T45.setTop (mkF m 129 #[.val (.int len), .val (.int ca_), .val (.int cb_), .val (.int cc_), .val (.int cd_), .val (.int ce_), .val (.int (Int32.ofNat nn)), .val (.int q1), .val (.int q2), .val (.int q3), .val (.int q4), .val (.int q5), .val (.ref b12), .val (.ref b14), .unset] [(.int ((5 : Int32) + (Int32.ofNat nn))), (.ref b14)])) _
    refine castTop (g' := (mkF m 129 #[.val (.int len), .val (.int ca_), .val (.int cb_), .val (.int cc_), .val (.int cd_), .val (.int ce_), .val (.int (Int32.ofNat nn)), .val (.int q1), .val (.int q2), .val (.int q3), .val (.int q4), .val (.int q5), .val (.ref b12), .val (.ref b14), .unset] [(.int (Int32.ofNat (5 + nn))), (.ref b14)])) (by rw [show Int32.ofNat (5 + nn) = (5 : Int32) + (Int32.ofNat nn) from Int32.ofNat_add 5 nn]) ?_
    show Steps p.tables e below (T45.setTop (mkF m 129 #[.val (.int len), .val (.int ca_), .val (.int cb_), .val (.int cc_), .val (.int cd_), .val (.int ce_), .val (.int (Int32.ofNat nn)), .val (.int q1), .val (.int q2), .val (.int q3), .val (.int q4), .val (.int q5), .val (.ref b12), .val (.ref b14), .unset] [(.int (Int32.ofNat (5 + nn))), (.ref b14)])) _
    refine XS.iconst X45.here hx rfl (Jvm.hb hby at_129) ?_
    show Steps p.tables e below (T45.setTop (mkF m 130 #[.val (.int len), .val (.int ca_), .val (.int cb_), .val (.int cc_), .val (.int cd_), .val (.int ce_), .val (.int (Int32.ofNat nn)), .val (.int q1), .val (.int q2), .val (.int q3), .val (.int q4), .val (.int q5), .val (.ref b12), .val (.ref b14), .unset] [(.int (1 : Int32)), (.int (Int32.ofNat (5 + nn))), (.ref b14)])) t_
    exact k_)
  have f49 : Arv Z h45 b14 k14 .char (Int32.ofNat xs41.length) (xs41.map Value.int) (.int (0 : Int32)) := (V41.keep K45 (ninS (show @Ne Nat b14 b12 by omega) nin0))
  have Zc50 : n0 ≤ h45.size := by omega
  obtain ⟨_, _, ⟨T51, L51, k51, n51⟩, -, X51, ⟨Lc51, hQ51, l51, y51, z51⟩, st51⟩ := Jvm.LawKit.callS X45 hx (y := (⟨"io/dyeline/store/LayoutTagFilePinLaw", "putSuffix", "([CIZ)V"⟩ : MethodName)) hown (mvT hZ (hw _ (List.mem_of_getElem? (i := 9) rfl))) (mvT hZ (hw _ (List.mem_of_getElem? (i := 10) rfl))) (mvT hZ (hw _ (List.mem_of_getElem? (i := 4) rfl))) (mvT hZ (hw _ (List.mem_of_getElem? (i := 11) rfl))) (by decide) (backOf (W := 0) (rmSufT l Z a0 hw [] b14 k14 xs41 (5 + nn) h45 n0 Zc50 f49 (by first | assumption | omega | rfl | decide : n0 ≤ b14) (by first | assumption | omega | rfl | decide : 10 ≤ xs41.length) (by first | assumption | omega | rfl | decide : xs41.length ≤ 15) (by first | assumption | omega | rfl | decide : (5 + nn) + 5 ≤ xs41.length)) hZ (hw _ (List.mem_of_getElem? (i := 11) rfl)) (hw _ (List.mem_of_getElem? (i := 4) rfl)) (by decide) (by decide)) (g := (mkF m 130 #[.val (.int len), .val (.int ca_), .val (.int cb_), .val (.int cc_), .val (.int cd_), .val (.int ce_), .val (.int (Int32.ofNat nn)), .val (.int q1), .val (.int q2), .val (.int q3), .val (.int q4), .val (.int q5), .val (.ref b12), .val (.ref b14), .unset] [(.int (1 : Int32)), (.int (Int32.ofNat (5 + nn))), (.ref b14)])) rfl (by rw [hml]; rfl) (argsL := [(.ref b14), (.int (Int32.ofNat (5 + nn))), (.int (1 : Int32))]) (rest := []) (lenOf pd___CIZ_V rfl) rfl (by show 2 * 0 + _ ≤ _; exact Nat.le_of_eq rfl) (Jvm.hb hby at_130) (fun _ _ => ⟨rfl, e45, (by decide : 2 + 0 ≤ _), (by decide : 30 + 0 ≤ _)⟩)
  dsimp only [Pt.U, Pt.locs, Pt.cells, Pt.slots] at X51 l51 y51 z51 st51 hQ51
  subst l51 y51 z51
  obtain ⟨rfl, N51q, K51, Fq51_0⟩ := hQ51
  have N51 := Fr.app N45 N51q
  obtain ⟨h51, e51⟩ : ∃ z, T51.heap = z := ⟨_, rfl⟩
  rw [e51] at K51 Fq51_0
  have z52 : h45.size ≤ h51.size := K51.1
  have Cp52 : CHr Z ELs s.vm h45 s.vm h51 := CHr.keep K51 (sfS (Safe.arv hZ.alike f49 (by decide)) sf0) CR.1
  have hk := Nat.le_trans hk z52
  have CR := CR.trans Cp52
  have lt51_0 : @LT.lt Nat _ b14 h51.size := Fq51_0.lt
  obtain ⟨xs53, hxs53⟩ : ∃ z : List Int32, z = (List.set (List.set (List.set (List.set (List.set xs41 ((5 + nn)) (46 : Int32)) ((5 + nn) + 1) (116 : Int32)) ((5 + nn) + 2) (97 : Int32)) ((5 + nn) + 3) (103 : Int32)) ((5 + nn) + 4) (115 : Int32)) := ⟨_, rfl⟩
  have lxs53 : xs53.length = 10 + nn := by rw [hxs53]; first | (simp only [List.length_set]; exact lxs41) | (rw [own_steml]; exact lxs41)
  have V53 : Arv Z h51 b14 k14 .char (Int32.ofNat xs53.length) (xs53.map Value.int) (.int (0 : Int32)) := by rw [lxs53, ← lxs41, hxs53]; exact Fq51_0
  obtain ⟨T54, h54, X54, e54, E54, A54, D54, -, st54⟩ := newO X51 hx hZ hown (hw _ (List.mem_of_getElem? (i := 12) rfl)) (hw _ (List.mem_of_getElem? (i := 13) rfl)) (hw _ (List.mem_of_getElem? (i := 14) rfl)) e51 (g := (mkF m 133 #[.val (.int len), .val (.int ca_), .val (.int cb_), .val (.int cc_), .val (.int cd_), .val (.int ce_), .val (.int (Int32.ofNat nn)), .val (.int q1), .val (.int q2), .val (.int q3), .val (.int q4), .val (.int q5), .val (.ref b12), .val (.ref b14), .unset] [])) rfl (Jvm.hb hby at_133) (by decide) (by decide)
  obtain ⟨b54, g54⟩ : ∃ z, z = h51.size := ⟨_, rfl⟩
  rw [← g54] at A54 D54 st54
  have z55 : h51.size ≤ h54.size := E54.1
  have Sf56 : Safe Z ELs s.vm h54 b54 := Safe.ext E54 CR.1 (Safe.new (by omega))
  have Cp55 : CHr Z ELs s.vm h51 s.vm h54 := CHr.ext E54 CR.1
  have hk := Nat.le_trans hk z55
  have CR := CR.trans Cp55
  have l54 : b54 < h54.size := A54.lt
  have F57 : Fld Z h54 b54 "java/lang/String" "coder" "B" (.int (0 : Int32)) := D54 (Or.inr (hw _ (List.mem_of_getElem? (i := 38) rfl))) (ty := .byte) (by decide)
  have F58 : Fld Z h54 b54 "java/lang/String" "value" "[B" .null := D54 (Or.inr (hw _ (List.mem_of_getElem? (i := 40) rfl))) (ty := (.array .byte)) (by decide)
  have s59 : ∀ t_, Steps p.tables e below (T54.setTop (mkF m 139 #[.val (.int len), .val (.int ca_), .val (.int cb_), .val (.int cc_), .val (.int cd_), .val (.int ce_), .val (.int (Int32.ofNat nn)), .val (.int q1), .val (.int q2), .val (.int q3), .val (.int q4), .val (.int q5), .val (.ref b12), .val (.ref b14), .unset] [(.ref b12), (.ref b54), (.ref b54)])) t_ → Steps p.tables e below (s₁.setTop (entryFrame m #[(.int len), (.int ca_), (.int cb_), (.int cc_), (.int cd_), (.int ce_)] maxLocals)) t_ := fun t_ k_ => s48 t_ (by
    show Steps p.tables e below (T45.setTop (mkF m 130 #[.val (.int len), .val (.int ca_), .val (.int cb_), .val (.int cc_), .val (.int cd_), .val (.int ce_), .val (.int (Int32.ofNat nn)), .val (.int q1), .val (.int q2), .val (.int q3), .val (.int q4), .val (.int q5), .val (.ref b12), .val (.ref b14), .unset] [(.int (1 : Int32)), (.int (Int32.ofNat (5 + nn))), (.ref b14)])) t_
    refine st51 _ ?_
    show Steps p.tables e below (T51.setTop (mkF m 133 #[.val (.int len), .val (.int ca_), .val (.int cb_), .val (.int cc_), .val (.int cd_), .val (.int ce_), .val (.int (Int32.ofNat nn)), .val (.int q1), .val (.int q2), .val (.int q3), .val (.int q4), .val (.int q5), .val (.ref b12), .val (.ref b14), .unset] [])) _
    refine st54 _ ?_
    show Steps p.tables e below (T54.setTop (mkF m 136 #[.val (.int len), .val (.int ca_), .val (.int cb_), .val (.int cc_), .val (.int cd_), .val (.int ce_), .val (.int (Int32.ofNat nn)), .val (.int q1), .val (.int q2), .val (.int q3), .val (.int q4), .val (.int q5), .val (.ref b12), .val (.ref b14), .unset] [(.ref b54)])) _
    refine XS.dup X54.here hx rfl (Jvm.hb hby at_136) rfl rfl ?_
    refine XS.aload X54.here hx rfl (Jvm.hb hby at_137) rfl rfl ?_
    show Steps p.tables e below (T54.setTop (mkF m 139 #[.val (.int len), .val (.int ca_), .val (.int cb_), .val (.int cc_), .val (.int cd_), .val (.int ce_), .val (.int (Int32.ofNat nn)), .val (.int q1), .val (.int q2), .val (.int q3), .val (.int q4), .val (.int q5), .val (.ref b12), .val (.ref b14), .unset] [(.ref b12), (.ref b54), (.ref b54)])) t_
    exact k_)
  have O60 : Old Z n0 h54 := (((((((((OX.ext E12).ext E14).keep K21 (allS (show n0 ≤ b12 by omega) all0)).keep K27 (allS (show n0 ≤ b14 by omega) all0)).keep K33 (allS (show n0 ≤ b12 by omega) all0)).keep K39 (allS (show n0 ≤ b14 by omega) all0)).keep K45 (allS (show n0 ≤ b12 by omega) all0)).keep K51 (allS (show n0 ≤ b14 by omega) all0)).ext E54)
  have f61 : Arv Z h54 b12 k12 .char (Int32.ofNat xs47.length) (xs47.map Value.int) (.int (0 : Int32)) := ((V47.keep K51 (ninS (show @Ne Nat b12 b14 by omega) nin0)).ext E54)
  have Zc62 : n0 ≤ h54.size := by omega
  obtain ⟨_, _, ⟨T63, L63, k63, n63⟩, -, X63, ⟨Lc63, hQ63, l63, y63, z63⟩, st63⟩ := X54.specialBack hx (y := (⟨"java/lang/String", "<init>", "([C)V"⟩ : MethodName)) rfl hown (mvT hZ (hw _ (List.mem_of_getElem? (i := 15) rfl))) (mvT hZ (hw _ (List.mem_of_getElem? (i := 16) rfl))) (mvT hZ (hw _ (List.mem_of_getElem? (i := 17) rfl))) (by decide) (backOf (W := 1) (rmIni1 l Z a0 hw [] b54 b12 cst xs47 k12 xs47.length h54 n0 Zc62 I1 O60 (hcst : ¬ (cst = (0 : Int32))) A54 F58 F57 f61 rfl (by omega) (by omega) (by rw [hxs47, hxs35, hxs23, hxs17]; exact own_latD nn q1 q2 q3 q4 q5 (by omega) rg7.2 rg8.2 rg9.2 rg10.2 rg11.2) (by first | assumption | omega | rfl | decide : n0 ≤ b54) (by first | assumption | omega | rfl | decide : @Ne Nat b54 b12)) hZ (hw _ (List.mem_of_getElem? (i := 17) rfl)) (hw _ (List.mem_of_getElem? (i := 14) rfl)) (by decide) (by decide)) (g := (mkF m 139 #[.val (.int len), .val (.int ca_), .val (.int cb_), .val (.int cc_), .val (.int cd_), .val (.int ce_), .val (.int (Int32.ofNat nn)), .val (.int q1), .val (.int q2), .val (.int q3), .val (.int q4), .val (.int q5), .val (.ref b12), .val (.ref b14), .unset] [(.ref b12), (.ref b54), (.ref b54)])) rfl (by rw [hml]; rfl) (Steps.refl _) (a := b54) (argsL := [(.ref b12)]) (rest := [(.ref b54)]) (lenOf pd___C_V rfl) rfl (by show 2 * 0 + _ ≤ _; exact Nat.le_of_eq rfl) (Jvm.hb hby at_139) (fun _ _ => ⟨rfl, e54, (by decide : 3 + 1 ≤ _), (by decide : 34 + 15 ≤ _)⟩)
  dsimp only [Pt.U, Pt.locs, Pt.cells, Pt.slots] at X63 l63 y63 z63 st63 hQ63
  subst l63 y63 z63
  obtain ⟨b_63, kb_63, rfl, N63q, K63, Fq63_0, Fq63_1, Fq63_2, Fq63_3, P63_0⟩ := hQ63
  have N63 := Fr.app N51 N63q
  obtain ⟨h63, e63⟩ : ∃ z, T63.heap = z := ⟨_, rfl⟩
  rw [e63] at K63 Fq63_0 Fq63_1 Fq63_2 Fq63_3
  have z64 : h54.size ≤ h63.size := K63.1
  have Cp64 : CHr Z ELs s.vm h54 s.vm h63 := CHr.keep K63 (sfS Sf56 sf0) CR.1
  have hk := Nat.le_trans hk z64
  have CR := CR.trans Cp64
  have lt63_0 : @LT.lt Nat _ b54 h63.size := Fq63_0.lt
  have lt63_3 : @LT.lt Nat _ b_63 h63.size := Fq63_3.lt
  have s65 : ∀ t_, Steps p.tables e below (T63.setTop (mkF m 142 #[.val (.int len), .val (.int ca_), .val (.int cb_), .val (.int cc_), .val (.int cd_), .val (.int ce_), .val (.int (Int32.ofNat nn)), .val (.int q1), .val (.int q2), .val (.int q3), .val (.int q4), .val (.int q5), .val (.ref b12), .val (.ref b14), .unset] [(.ref b54)])) t_ → Steps p.tables e below (s₁.setTop (entryFrame m #[(.int len), (.int ca_), (.int cb_), (.int cc_), (.int cd_), (.int ce_)] maxLocals)) t_ := fun t_ k_ => s59 t_ (by
    show Steps p.tables e below (T54.setTop (mkF m 139 #[.val (.int len), .val (.int ca_), .val (.int cb_), .val (.int cc_), .val (.int cd_), .val (.int ce_), .val (.int (Int32.ofNat nn)), .val (.int q1), .val (.int q2), .val (.int q3), .val (.int q4), .val (.int q5), .val (.ref b12), .val (.ref b14), .unset] [(.ref b12), (.ref b54), (.ref b54)])) t_
    refine st63.trans ?_
    show Steps p.tables e below (T63.setTop (mkF m 142 #[.val (.int len), .val (.int ca_), .val (.int cb_), .val (.int cc_), .val (.int cd_), .val (.int ce_), .val (.int (Int32.ofNat nn)), .val (.int q1), .val (.int q2), .val (.int q3), .val (.int q4), .val (.int q5), .val (.ref b12), .val (.ref b14), .unset] [(.ref b54)])) _
    show Steps p.tables e below (T63.setTop (mkF m 142 #[.val (.int len), .val (.int ca_), .val (.int cb_), .val (.int cc_), .val (.int cd_), .val (.int ce_), .val (.int (Int32.ofNat nn)), .val (.int q1), .val (.int q2), .val (.int q3), .val (.int q4), .val (.int q5), .val (.ref b12), .val (.ref b14), .unset] [(.ref b54)])) t_
    exact k_)
  have O66 : Old Z n0 h63 := (O60.keep K63 (allS (show n0 ≤ b54 by omega) all0))
  have Zc67 : n0 ≤ h63.size := by omega
  obtain ⟨_, _, ⟨T68, L68, k68, n68⟩, -, Xr68, hSr68, hg68, ⟨Lc68, hQ68, l68, y68, z68, Cp68⟩, st68⟩ := callSS X63 hx (y := (⟨"io/dyeline/store/Layout", "tagFile", "(Ljava/lang/String;)Ljava/lang/String;"⟩ : MethodName)) hown (mvT hZ (hw _ (List.mem_of_getElem? (i := 41) rfl))) (mvT hZ (hw _ (List.mem_of_getElem? (i := 42) rfl))) (mvT hZ (hw _ (List.mem_of_getElem? (i := 43) rfl))) (mvT hZ (hw _ (List.mem_of_getElem? (i := 44) rfl))) (by decide) (backOfSH (s := s) (vm0 := s.vm) (W := 0) (rmTag l Z a0 hw [] b54 cst b_63 kb_63 xs47 fmt h63 n0 Zc67 I1 (hfmt : fmt.isRef = true) I2 O66 (hcst : ¬ (cst = (0 : Int32))) Fq63_0 Fq63_1 Fq63_2 Fq63_3 (by rw [hxs47, hxs35, hxs23, hxs17]; exact own_latD nn q1 q2 q3 q4 q5 (by omega) rg7.2 rg8.2 rg9.2 rg10.2 rg11.2) (by omega) (by omega)) hZ (hw _ (List.mem_of_getElem? (i := 44) rfl)) (hw _ (List.mem_of_getElem? (i := 43) rfl)) (by decide) (by decide) hEL CR.1) (g := (mkF m 142 #[.val (.int len), .val (.int ca_), .val (.int cb_), .val (.int cc_), .val (.int cd_), .val (.int ce_), .val (.int (Int32.ofNat nn)), .val (.int q1), .val (.int q2), .val (.int q3), .val (.int q4), .val (.int q5), .val (.ref b12), .val (.ref b14), .unset] [(.ref b54)])) rfl (by rw [hml]; rfl) (argsL := [(.ref b54)]) (rest := []) (lenOf pd__Ljava_lang_String__Ljava_lang_String_ rfl) rfl (by show 2 * 0 + _ ≤ _; exact Nat.le_of_eq rfl) (Jvm.hb hby at_142) (fun _ _ => ⟨rfl, e63, (by decide : 4 + 10 ≤ _), (by decide : 49 + 108 ≤ _)⟩)
  dsimp only [Pt.U, Pt.locs, Pt.cells, Pt.slots] at Xr68 hSr68 hg68 l68 y68 z68 st68 hQ68 Cp68
  subst l68 y68 z68
  obtain ⟨X68, hS, hZ, hown⟩ := rebS (own := "io/dyeline/store/LayoutTagFilePinLaw") hS (by first | exact Nat.le_refl _ | (rw [e63]; exact hk)) Xr68 hSr68 hg68 hZ hown
  obtain ⟨a_68, b_68, kb_68, rfl, N68q, K68, Fq68_0, Fq68_1, Fq68_2, Fq68_3, P68_0⟩ := hQ68
  have N68 := Fr.app N63 N68q
  obtain ⟨h68, e68⟩ : ∃ z, T68.heap = z := ⟨_, rfl⟩
  rw [e68] at K68 Fq68_0 Fq68_1 Fq68_2 Fq68_3 Cp68
  have hk : T68.heap.size ≤ h68.size := Nat.le_of_eq (congrArg Array.size e68)
  have z69 : h63.size ≤ h68.size := K68.1
  have CR := CR.trans Cp68
  have lt68_0 : @LT.lt Nat _ a_68 h68.size := Fq68_0.lt
  have lt68_3 : @LT.lt Nat _ b_68 h68.size := Fq68_3.lt
  obtain ⟨T70, h70, X70, e70, E70, A70, D70, -, st70⟩ := newO X68 hx hZ hown (hw _ (List.mem_of_getElem? (i := 12) rfl)) (hw _ (List.mem_of_getElem? (i := 13) rfl)) (hw _ (List.mem_of_getElem? (i := 14) rfl)) e68 (g := (mkF m 149 #[.val (.int len), .val (.int ca_), .val (.int cb_), .val (.int cc_), .val (.int cd_), .val (.int ce_), .val (.int (Int32.ofNat nn)), .val (.int q1), .val (.int q2), .val (.int q3), .val (.int q4), .val (.int q5), .val (.ref b12), .val (.ref b14), .val (.ref a_68)] [(.ref a_68)])) rfl (Jvm.hb hby at_149) (by decide) (by decide)
  obtain ⟨b70, g70⟩ : ∃ z, z = h68.size := ⟨_, rfl⟩
  rw [← g70] at A70 D70 st70
  have z71 : h68.size ≤ h70.size := E70.1
  have Sf72 : Safe Z ELs T68.vm h70 b70 := Safe.ext E70 CR.1 (Safe.new (by omega))
  have Cp71 : CHr Z ELs T68.vm h68 T68.vm h70 := CHr.ext E70 CR.1
  have hk := Nat.le_trans hk z71
  have CR := CR.trans Cp71
  have l70 : b70 < h70.size := A70.lt
  have F73 : Fld Z h70 b70 "java/lang/String" "coder" "B" (.int (0 : Int32)) := D70 (Or.inr (hw _ (List.mem_of_getElem? (i := 38) rfl))) (ty := .byte) (by decide)
  have F74 : Fld Z h70 b70 "java/lang/String" "value" "[B" .null := D70 (Or.inr (hw _ (List.mem_of_getElem? (i := 40) rfl))) (ty := (.array .byte)) (by decide)
  have s75 : ∀ t_, Steps p.tables e below (T70.setTop (mkF m 155 #[.val (.int len), .val (.int ca_), .val (.int cb_), .val (.int cc_), .val (.int cd_), .val (.int ce_), .val (.int (Int32.ofNat nn)), .val (.int q1), .val (.int q2), .val (.int q3), .val (.int q4), .val (.int q5), .val (.ref b12), .val (.ref b14), .val (.ref a_68)] [(.ref b14), (.ref b70), (.ref b70), (.ref a_68)])) t_ → Steps p.tables e below (s₁.setTop (entryFrame m #[(.int len), (.int ca_), (.int cb_), (.int cc_), (.int cd_), (.int ce_)] maxLocals)) t_ := fun t_ k_ => s65 t_ (by
    show Steps p.tables e below (T63.setTop (mkF m 142 #[.val (.int len), .val (.int ca_), .val (.int cb_), .val (.int cc_), .val (.int cd_), .val (.int ce_), .val (.int (Int32.ofNat nn)), .val (.int q1), .val (.int q2), .val (.int q3), .val (.int q4), .val (.int q5), .val (.ref b12), .val (.ref b14), .unset] [(.ref b54)])) t_
    refine st68.trans ?_
    show Steps p.tables e below (T68.setTop (mkF m 145 #[.val (.int len), .val (.int ca_), .val (.int cb_), .val (.int cc_), .val (.int cd_), .val (.int ce_), .val (.int (Int32.ofNat nn)), .val (.int q1), .val (.int q2), .val (.int q3), .val (.int q4), .val (.int q5), .val (.ref b12), .val (.ref b14), .unset] [(.ref a_68)])) _
    refine XS.astore X68.here hx rfl (Jvm.hb hby at_145) rfl rfl (l' := #[.val (.int len), .val (.int ca_), .val (.int cb_), .val (.int cc_), .val (.int cd_), .val (.int ce_), .val (.int (Int32.ofNat nn)), .val (.int q1), .val (.int q2), .val (.int q3), .val (.int q4), .val (.int q5), .val (.ref b12), .val (.ref b14), .val (.ref a_68)]) rfl ?_
    refine XS.aload X68.here hx rfl (Jvm.hb hby at_147) rfl rfl ?_
    refine st70 _ ?_
    show Steps p.tables e below (T70.setTop (mkF m 152 #[.val (.int len), .val (.int ca_), .val (.int cb_), .val (.int cc_), .val (.int cd_), .val (.int ce_), .val (.int (Int32.ofNat nn)), .val (.int q1), .val (.int q2), .val (.int q3), .val (.int q4), .val (.int q5), .val (.ref b12), .val (.ref b14), .val (.ref a_68)] [(.ref b70), (.ref a_68)])) _
    refine XS.dup X70.here hx rfl (Jvm.hb hby at_152) rfl rfl ?_
    refine XS.aload X70.here hx rfl (Jvm.hb hby at_153) rfl rfl ?_
    show Steps p.tables e below (T70.setTop (mkF m 155 #[.val (.int len), .val (.int ca_), .val (.int cb_), .val (.int cc_), .val (.int cd_), .val (.int ce_), .val (.int (Int32.ofNat nn)), .val (.int q1), .val (.int q2), .val (.int q3), .val (.int q4), .val (.int q5), .val (.ref b12), .val (.ref b14), .val (.ref a_68)] [(.ref b14), (.ref b70), (.ref b70), (.ref a_68)])) t_
    exact k_)
  have O76 : Old Z n0 h70 := ((O66.keep K68 all0).ext E70)
  have f77 : Arv Z h70 b14 k14 .char (Int32.ofNat xs53.length) (xs53.map Value.int) (.int (0 : Int32)) := ((((V53.ext E54).keep K63 (ninS (show @Ne Nat b14 b54 by omega) nin0)).keep K68 nin0).ext E70)
  have Zc78 : n0 ≤ h70.size := by omega
  obtain ⟨_, _, ⟨T79, L79, k79, n79⟩, -, X79, ⟨Lc79, hQ79, l79, y79, z79⟩, st79⟩ := X70.specialBack hx (y := (⟨"java/lang/String", "<init>", "([C)V"⟩ : MethodName)) rfl hown (mvT hZ (hw _ (List.mem_of_getElem? (i := 15) rfl))) (mvT hZ (hw _ (List.mem_of_getElem? (i := 16) rfl))) (mvT hZ (hw _ (List.mem_of_getElem? (i := 17) rfl))) (by decide) (backOf (W := 2) (rmIni1 l Z a0 hw [] b70 b14 cst xs53 k14 xs53.length h70 n0 Zc78 I1 O76 (hcst : ¬ (cst = (0 : Int32))) A70 F74 F73 f77 rfl (by omega) (by omega) (by rw [hxs53, hxs41, hxs29, hxs18]; exact own_latE nn q1 q2 q3 q4 q5 (by omega) rg7.2 rg8.2 rg9.2 rg10.2 rg11.2) (by first | assumption | omega | rfl | decide : n0 ≤ b70) (by first | assumption | omega | rfl | decide : @Ne Nat b70 b14)) hZ (hw _ (List.mem_of_getElem? (i := 17) rfl)) (hw _ (List.mem_of_getElem? (i := 14) rfl)) (by decide) (by decide)) (g := (mkF m 155 #[.val (.int len), .val (.int ca_), .val (.int cb_), .val (.int cc_), .val (.int cd_), .val (.int ce_), .val (.int (Int32.ofNat nn)), .val (.int q1), .val (.int q2), .val (.int q3), .val (.int q4), .val (.int q5), .val (.ref b12), .val (.ref b14), .val (.ref a_68)] [(.ref b14), (.ref b70), (.ref b70), (.ref a_68)])) rfl (by rw [hml]; rfl) (Steps.refl _) (a := b70) (argsL := [(.ref b14)]) (rest := [(.ref b70), (.ref a_68)]) (lenOf pd___C_V rfl) rfl (by show 2 * 0 + _ ≤ _; exact Nat.le_of_eq rfl) (Jvm.hb hby at_155) (fun _ _ => ⟨rfl, e70, (by decide : 15 + 1 ≤ _), (by decide : 161 + 15 ≤ _)⟩)
  dsimp only [Pt.U, Pt.locs, Pt.cells, Pt.slots] at X79 l79 y79 z79 st79 hQ79
  subst l79 y79 z79
  obtain ⟨b_79, kb_79, rfl, N79q, K79, Fq79_0, Fq79_1, Fq79_2, Fq79_3, P79_0⟩ := hQ79
  have N79 := Fr.app N68 N79q
  obtain ⟨h79, e79⟩ : ∃ z, T79.heap = z := ⟨_, rfl⟩
  rw [e79] at K79 Fq79_0 Fq79_1 Fq79_2 Fq79_3
  have z80 : h70.size ≤ h79.size := K79.1
  have Cp80 : CHr Z ELs T68.vm h70 T68.vm h79 := CHr.keep K79 (sfS Sf72 sf0) CR.1
  have hk := Nat.le_trans hk z80
  have CR := CR.trans Cp80
  have lt79_0 : @LT.lt Nat _ b70 h79.size := Fq79_0.lt
  have lt79_3 : @LT.lt Nat _ b_79 h79.size := Fq79_3.lt
  have s81 : ∀ t_, Steps p.tables e below (T79.setTop (mkF m 158 #[.val (.int len), .val (.int ca_), .val (.int cb_), .val (.int cc_), .val (.int cd_), .val (.int ce_), .val (.int (Int32.ofNat nn)), .val (.int q1), .val (.int q2), .val (.int q3), .val (.int q4), .val (.int q5), .val (.ref b12), .val (.ref b14), .val (.ref a_68)] [(.ref b70), (.ref a_68)])) t_ → Steps p.tables e below (s₁.setTop (entryFrame m #[(.int len), (.int ca_), (.int cb_), (.int cc_), (.int cd_), (.int ce_)] maxLocals)) t_ := fun t_ k_ => s75 t_ (by
    show Steps p.tables e below (T70.setTop (mkF m 155 #[.val (.int len), .val (.int ca_), .val (.int cb_), .val (.int cc_), .val (.int cd_), .val (.int ce_), .val (.int (Int32.ofNat nn)), .val (.int q1), .val (.int q2), .val (.int q3), .val (.int q4), .val (.int q5), .val (.ref b12), .val (.ref b14), .val (.ref a_68)] [(.ref b14), (.ref b70), (.ref b70), (.ref a_68)])) t_
    refine st79.trans ?_
    show Steps p.tables e below (T79.setTop (mkF m 158 #[.val (.int len), .val (.int ca_), .val (.int cb_), .val (.int cc_), .val (.int cd_), .val (.int ce_), .val (.int (Int32.ofNat nn)), .val (.int q1), .val (.int q2), .val (.int q3), .val (.int q4), .val (.int q5), .val (.ref b12), .val (.ref b14), .val (.ref a_68)] [(.ref b70), (.ref a_68)])) _
    show Steps p.tables e below (T79.setTop (mkF m 158 #[.val (.int len), .val (.int ca_), .val (.int cb_), .val (.int cc_), .val (.int cd_), .val (.int ce_), .val (.int (Int32.ofNat nn)), .val (.int q1), .val (.int q2), .val (.int q3), .val (.int q4), .val (.int q5), .val (.ref b12), .val (.ref b14), .val (.ref a_68)] [(.ref b70), (.ref a_68)])) t_
    exact k_)
  have O82 : Old Z n0 h79 := (O76.keep K79 (allS (show n0 ≤ b70 by omega) all0))
  have f83 : Exa Z h79 a_68 "java/lang/String" := ((Fq68_0.ext E70).keep K79)
  have f84 : Fld Z h79 a_68 "java/lang/String" "value" "[B" (.ref b_68) := ((Fq68_1.ext E70).keep K79 (ninS (show @Ne Nat a_68 b70 by omega) nin0))
  have f85 : Fld Z h79 a_68 "java/lang/String" "coder" "B" (.int (own_cod (xs47.take (xs47.length - 5) ++ own_tx1))) := ((Fq68_2.ext E70).keep K79 (ninS (show @Ne Nat a_68 b70 by omega) nin0))
  have f86 : Arv Z h79 b_68 kb_68 .byte (Int32.ofNat (own_enl (xs47.take (xs47.length - 5) ++ own_tx1))) (own_enc (xs47.take (xs47.length - 5) ++ own_tx1)) (.int (0 : Int32)) := ((Fq68_3.ext E70).keep K79 (ninS (show @Ne Nat b_68 b70 by omega) nin0))
  have Zc87 : n0 ≤ h79.size := by omega
  obtain ⟨cq88, kq88, q88a, q88b, q88c⟩ := isOf hZ e79 f83
  obtain ⟨_, _, ⟨T88, L88, k88, n88⟩, -, X88, ⟨Lc88, hQ88, l88, y88, z88⟩, st88⟩ := X79.virtualBack hx (y := (⟨"java/lang/String", "equals", "(Ljava/lang/Object;)Z"⟩ : MethodName)) (z := (⟨"java/lang/String", "equals", "(Ljava/lang/Object;)Z"⟩ : MethodName)) hown (mvT hZ (hw _ (List.mem_of_getElem? (i := 188) rfl))) (mvT hZ (hw _ (List.mem_of_getElem? (i := 189) rfl))) (notFace_of_selects (args := #[]) (mvT hZ (hw _ (List.mem_of_getElem? (i := 191) rfl)))) (mvT hZ (hw _ (List.mem_of_getElem? (i := 191) rfl))) (mvT hZ (hw _ (List.mem_of_getElem? (i := 190) rfl))) (by decide) (backOf (W := 0) (rmSEq l Z a0 hw [] a_68 b70 cst b_68 kb_68 (xs47.take (xs47.length - 5) ++ own_tx1) b_79 kb_79 xs53 h79 n0 Zc87 I1 O82 (hcst : ¬ (cst = (0 : Int32))) f83 f84 f85 f86 Fq79_0 Fq79_1 Fq79_2 Fq79_3 (own_neN (by omega)) (own_chsapp (own_chstake (by rw [hxs47, hxs35, hxs23, hxs17]; exact own_chD nn q1 q2 q3 q4 q5 (by omega) ⟨rg7.1, own_le64k rg7.2⟩ ⟨rg8.1, own_le64k rg8.2⟩ ⟨rg9.1, own_le64k rg9.2⟩ ⟨rg10.1, own_le64k rg10.2⟩ ⟨rg11.1, own_le64k rg11.2⟩)) own_tx1_chs) (by rw [hxs53, hxs41, hxs29, hxs18]; exact own_chE nn q1 q2 q3 q4 q5 (by omega) ⟨rg7.1, own_le64k rg7.2⟩ ⟨rg8.1, own_le64k rg8.2⟩ ⟨rg9.1, own_le64k rg9.2⟩ ⟨rg10.1, own_le64k rg10.2⟩ ⟨rg11.1, own_le64k rg11.2⟩) (by simp only [List.length_append, List.length_take]; show _ + 5 ≤ 15; omega) (by omega)) hZ (hw _ (List.mem_of_getElem? (i := 192) rfl)) (hw _ (List.mem_of_getElem? (i := 14) rfl)) (by decide) (by decide)) q88a q88c (g := (mkF m 158 #[.val (.int len), .val (.int ca_), .val (.int cb_), .val (.int cc_), .val (.int cd_), .val (.int ce_), .val (.int (Int32.ofNat nn)), .val (.int q1), .val (.int q2), .val (.int q3), .val (.int q4), .val (.int q5), .val (.ref b12), .val (.ref b14), .val (.ref a_68)] [(.ref b70), (.ref a_68)])) rfl (by rw [hml]; rfl) (Steps.refl _) (argsL := [(.ref b70)]) (rest := []) (lenOf pd__Ljava_lang_Object__Z rfl) rfl (by show 2 * 0 + _ ≤ _; exact Nat.le_of_eq rfl) (Jvm.hb hby at_158) (fun _ _ => ⟨rfl, e79, (by decide : 16 + 0 ≤ _), (by decide : 176 + 0 ≤ _)⟩)
  dsimp only [Pt.U, Pt.locs, Pt.cells, Pt.slots] at X88 l88 y88 z88 st88 hQ88
  subst l88 y88 z88
  obtain ⟨rfl, N88q, e88⟩ := hQ88
  have N88 := Fr.app N79 N88q
  obtain ⟨q89, hq89⟩ : ∃ z : Int32, z = (if (xs47.take (xs47.length - 5) ++ own_tx1) = xs53 then (1 : Int32) else (0 : Int32)) := ⟨_, rfl⟩
  rw [← hq89] at st88
  have s90 : ∀ t_, Steps p.tables e below (T88.setTop (mkF m 161 #[.val (.int len), .val (.int ca_), .val (.int cb_), .val (.int cc_), .val (.int cd_), .val (.int ce_), .val (.int (Int32.ofNat nn)), .val (.int q1), .val (.int q2), .val (.int q3), .val (.int q4), .val (.int q5), .val (.ref b12), .val (.ref b14), .val (.ref a_68)] [(.int q89)])) t_ → Steps p.tables e below (s₁.setTop (entryFrame m #[(.int len), (.int ca_), (.int cb_), (.int cc_), (.int cd_), (.int ce_)] maxLocals)) t_ := fun t_ k_ => s81 t_ (by
    show Steps p.tables e below (T79.setTop (mkF m 158 #[.val (.int len), .val (.int ca_), .val (.int cb_), .val (.int cc_), .val (.int cd_), .val (.int ce_), .val (.int (Int32.ofNat nn)), .val (.int q1), .val (.int q2), .val (.int q3), .val (.int q4), .val (.int q5), .val (.ref b12), .val (.ref b14), .val (.ref a_68)] [(.ref b70), (.ref a_68)])) t_
    refine st88.trans ?_
    show Steps p.tables e below (T88.setTop (mkF m 161 #[.val (.int len), .val (.int ca_), .val (.int cb_), .val (.int cc_), .val (.int cd_), .val (.int ce_), .val (.int (Int32.ofNat nn)), .val (.int q1), .val (.int q2), .val (.int q3), .val (.int q4), .val (.int q5), .val (.ref b12), .val (.ref b14), .val (.ref a_68)] [(.int q89)])) _
    show Steps p.tables e below (T88.setTop (mkF m 161 #[.val (.int len), .val (.int ca_), .val (.int cb_), .val (.int cc_), .val (.int cd_), .val (.int ce_), .val (.int (Int32.ofNat nn)), .val (.int q1), .val (.int q2), .val (.int q3), .val (.int q4), .val (.int q5), .val (.ref b12), .val (.ref b14), .val (.ref a_68)] [(.int q89)])) t_
    exact k_)
  obtain ⟨fs, hr, hrun, hended, hREW⟩ := X88.leaveW hS (by first | exact Nat.le_refl _ | (rw [e88]; exact hk)) (v := some (.int (nar .boolean q89))) (fun h => by rw [Bd.returns] at h; cases h)
  have hone : q89 = 1 := by
    rw [hq89, if_pos]
    rw [lxs47]
    rw [hxs47, hxs35, hxs23, hxs17, hxs53, hxs41, hxs29, hxs18]
    exact own_fin nn q1 q2 q3 q4 q5 (by omega)
  refine ⟨_, _, s90 _ ?_, hrun, hended, _, _, rfl, ?_, (by show CHr Z ELs s.vm s.heap T88.vm T88.heap; rw [hh, e88]; exact CR.trans (CHv.at X88 hZ hEL CR.1)), hREW.1, hREW.2.1, hREW.2.2.1, hREW.2.2.2.mono (by decide) (by decide)⟩
  · show Steps p.tables e below (T88.setTop (mkF m 161 #[.val (.int len), .val (.int ca_), .val (.int cb_), .val (.int cc_), .val (.int cd_), .val (.int ce_), .val (.int (Int32.ofNat nn)), .val (.int q1), .val (.int q2), .val (.int q3), .val (.int q4), .val (.int q5), .val (.ref b12), .val (.ref b14), .val (.ref a_68)] [(.int q89)])) _
    exact retN X88 hx (t := .boolean) Bd.returns (by simp) (Jvm.hb hby at_161) hr
  · show Q_rmLaw Z _ _ _ _ _ _ _ _ h0 n0 _ T88.heap _
    rw [e88]
    exact ⟨by rw [hone]; rfl, N88⟩
set_option maxRecDepth 65536 in
set_option maxHeartbeats 40000000 in
theorem comes_1 {Post : Tables → Env → Array Value → State → Outcome → State → Prop} (hpost : ∀ tb e args s v u, (limb_1_1.after args s (.returned v) u = true ∧ limb_1_2.after args s (.returned v) u = true ∧ True) → ReturnedEndW s (.returned v) u (Jvm.fieldLocs frame_1_writes args s ++ Jvm.arrayLocs frame_1_arrays args s ++ Jvm.staticLocs frame_1_statics s) 40 2368 → Post tb e args s (.returned v) u) :
    ArmFor flags0 classFile x code maxLocals ret World_1 tables_1 room_1 Calls_1 rest_1 Pre_1 Post := by
  intro l hfl _ _ p e ha hc hk s m args below hf hA hF happ hP
  obtain ⟨hcalls, hrest, hpre⟩ := hP
  obtain ⟨-, -, -, hnamed, -, -, -, hat⟩ := (Spec.applies_iff hf).mp happ
  obtain ⟨hg, hn⟩ := and_e (Cond.before_iff.mp (show (Jvm.Cond.and given_1 narrow_1).before args s = true from hpre))
  obtain ⟨ga, gr⟩ := and_e hg
  obtain ⟨g0, gr0⟩ := and_e gr
  obtain ⟨g1, gr1⟩ := and_e gr0
  obtain ⟨g2, gr2⟩ := and_e gr1
  obtain ⟨g3, gr3⟩ := and_e gr2
  obtain ⟨g4, gr4⟩ := and_e gr3
  obtain ⟨w0, w1, w2, w3, w4, w5, rfl⟩ : ∃ w0 w1 w2 w3 w4 w5 : Value, args = #[w0, w1, w2, w3, w4, w5] := by
    have hs : args.size = 6 := by simpa [Cond.value, given_1] using ga
    obtain ⟨L⟩ := args
    match L, hs with
    | [w0, w1, w2, w3, w4, w5], _ => exact ⟨w0, w1, w2, w3, w4, w5, rfl⟩
  have hw := fun d (hd : d ∈ tables_1) => atoms_spec (ws := Jvm.Cond.code x code maxLocals ret :: tables_1) hat d (List.mem_cons_of_mem _ hd)
  have hfit : Fit s := fun {y c} hc i hi => by
    obtain ⟨ha, rfl⟩ := Array.getElem?_eq_some_iff.mp hc
    have q := List.all_eq_true.mp ((Array.all_eq_true_iff_forall_mem.mp hF) _ (Array.getElem_mem ha)) i (List.mem_range.mpr hi)
    simpa [Array.getElem?_eq_getElem hi] using q
  obtain ⟨hsets, hown0⟩ := atoms_of _ (rest_1_c_eq ▸ (show rest_1_c.before _ s = true from hrest))
  have hr0 := Cond.before_iff.mp hown0
  obtain ⟨i0, ei0⟩ := is_v g0
  obtain rfl : w0 = (.int i0) := Option.some.inj ei0
  obtain ⟨i1, ei1⟩ := is_v g1
  obtain rfl : w1 = (.int i1) := Option.some.inj ei1
  obtain ⟨i2, ei2⟩ := is_v g2
  obtain rfl : w2 = (.int i2) := Option.some.inj ei2
  obtain ⟨i3, ei3⟩ := is_v g3
  obtain rfl : w3 = (.int i3) := Option.some.inj ei3
  obtain ⟨i4, ei4⟩ := is_v g4
  obtain rfl : w4 = (.int i4) := Option.some.inj ei4
  obtain ⟨i5, ei5⟩ := is_v gr4
  obtain rfl : w5 = (.int i5) := Option.some.inj ei5
  obtain ⟨cst, ecs⟩ := is_v (Cond.before_iff.mp (hsets _ (List.mem_of_getElem? (i := 1) rfl)))
  have hcw := (hsets _ (List.mem_of_getElem? (i := 2) rfl))
  have hcst : ¬ (cst = (0 : Int32)) := fun q => by
    have h1 := not_v (Cond.before_iff.mp hcw)
    rw [Cond.eq_ints ecs (Term.int_eval 0)] at h1
    simp [q] at h1
  obtain ⟨fmt, efm, hfmt⟩ := isR_v (Cond.before_iff.mp (hsets _ (List.mem_of_getElem? (i := 8) rfl)))
  have hCH : CHv s ELs s.vm s.heap := CHv.start (own_EW hw) (fun p hp => hcalls.1 p hp) (show Jvm.Lit.compactW.before _ s = true from hcw) (hw _ (List.mem_of_getElem? (i := 30) rfl)) (hw _ (List.mem_of_getElem? (i := 13) rfl))
  obtain ⟨n, o, h1, h2, h3, _, L, rfl, ⟨rfl, N⟩, -, hq⟩ := rmLaw l s _ hw tables_1 i0 i1 i2 i3 i4 i5 cst fmt  s.heap s.heap.size (Nat.le_refl _) (Sta.start ecs (Or.inl (hsets _ (List.mem_of_getElem? (i := 0) rfl)))) hfmt (Sta.start efm (Or.inl (hsets _ (List.mem_of_getElem? (i := 7) rfl)))) (Old.start s) hcst  p e ha hc hk s m _ below hf ((Spec.applies_iff_loose hf).mp happ).1 ⟨rfl, State.Warmed39.refl s, rfl, hCH⟩ trivial
  refine ⟨n, _, h1, h2, h3, hpost _ _ _ _ _ _ ⟨Cond.after_iff.mpr rfl, Cond.after_iff.mpr (eq_i res_at (Term.int_eval (1)) rfl), trivial⟩ ⟨hq.1, hq.2.1, hq.2.2.1, (hq.2.2.2.sift fun y hy => Or.inr (N y hy)).mono (by decide) (by decide)⟩⟩
theorem main_1_1 : Claimed_1_1 := comes_1 fun _ _ _ _ _ _ h hF => ⟨h.1, hF⟩
theorem main_1_2 : Claimed_1_2 := comes_1 fun _ _ _ _ _ _ h hF => ⟨h.2.1, hF⟩
end Jvm.Pilot.@@N@@
namespace Jvm.Pilot.@@N@@
open Jvm Jvm.ClassFile Sem Op Lib Jvm.Free Jvm.Stand Jvm.Pilot.@@N@@.Jvm.D
/-! MADE BY PROGRAM (witnessworld.py) out of the Statement's table words and the real class files: 26 classes; the members and pool entries that the words name. The judged class is class 1, her method 4. -/
namespace start1
open Jvm.ClassFile
def u (s : String) : CpInfo := .utf8 (stringToUtf16 s)
/-- a pool by its gaps: so many unusable entries, then the entry; so many at the end -/
def gap : Nat → List CpInfo → List CpInfo
  | 0, r => r
  | n + 1, r => .unusable :: gap n r
def poolList (es : List (Nat × CpInfo)) (last : Nat) : List CpInfo := es.foldr (fun e r => gap e.1 (e.2 :: r)) (gap last [])
def pool (es : List (Nat × CpInfo)) (last : Nat) : Array CpInfo := ⟨poolList es last⟩
def fileOf (pool : Array CpInfo) (this : Nat) (attrs : Array Attribute := #[]) (ms : Array MethodInfo := #[]) (fl : Nat := 33) (sup : Nat := 0) (ifs : Array Nat := #[]) (fds : Array FieldInfo := #[]) : ClassFile where
  minorVersion := 0
  majorVersion := 65
  constantPool := pool
  accessFlags := fl
  thisClass := this
  superClass := sup
  interfaces := ifs
  fields := fds
  methods := ms
  attributes := attrs
def plain (name : String) (sup : Option ClassId) : Class where
  name := name
  kind := .ordinary
  loader := none
  accessFlags := 33
  super := sup
  interfaces := #[]
  cf := none
  fields := #[]
  methods := #[]
  instanceTypes := #[]
  staticTypes := #[]
  resolved := #[]
  callSites := []
  init := .initialized
  statics := none
  mirror := none

def pool0 : Array CpInfo := pool [(5, u "<init>"), (0, u "()V"), (1, .class_ 10), (1, u "java/lang/Object")] 113

def k0c0 : Code := { maxStack := 0, maxLocals := 1, code := object_method_1_code, exceptionTable := #[], attributes := #[] }
def k0m0 : Method := { name := "<init>", desc := "()V", sig := { parameters := [], returnType := none }, accessFlags := 1, code := some k0c0 }
/-- java/lang/Object -/
def k0 : Class := { plain "java/lang/Object" none with
  accessFlags := 33
  interfaces := #[]
  cf := some (fileOf pool0 8 #[] #[{ accessFlags := 1, nameIndex := 5, descriptorIndex := 6, attributes := #[] }] 33 0 #[] #[])
  fields := #[]
  methods := #[k0m0]
  instanceTypes := #[]
  staticTypes := #[]
  resolved := Array.replicate 124 none
  statics := none }

def pool1 : Array CpInfo := pool [(2, .class_ 4), (1, u "java/lang/Object"), (0, u "<init>"), (0, u "()V"), (0, .integer 2147483647), (0, .methodref 9 10), (0, .class_ 11), (0, .nameAndType 12 13), (0, u "io/dyeline/store/LayoutTagFilePinLaw"), (0, u "putPrefix"), (0, u "([C)V"), (0, .methodref 9 15), (0, .nameAndType 16 17), (0, u "putStem"), (0, u "([CICCCCC)V"), (0, .methodref 9 19), (0, .nameAndType 20 21), (0, u "putSuffix"), (0, u "([CIZ)V"), (0, .class_ 23), (0, u "java/lang/String"), (0, .methodref 22 25), (0, .nameAndType 5 13), (0, .methodref 27 28), (0, .class_ 29), (0, .nameAndType 30 31), (0, u "io/dyeline/store/Layout"), (0, u "tagFile"), (0, u "(Ljava/lang/String;)Ljava/lang/String;"), (0, .methodref 22 33), (0, .nameAndType 34 35), (0, u "equals"), (0, u "(Ljava/lang/Object;)Z"), (3, u "law"), (0, u "(IIIIII)Z")] 2

def k1m0 : Method := { name := "<init>", desc := "()V", sig := { parameters := [], returnType := none }, accessFlags := 2, code := none }
def k1c1 : Code := { maxStack := 3, maxLocals := 1, code := method_2_code, exceptionTable := #[], attributes := #[] }
def k1m1 : Method := { name := "putPrefix", desc := "([C)V", sig := { parameters := [(.array .char)], returnType := none }, accessFlags := 10, code := some k1c1 }
def k1c2 : Code := { maxStack := 3, maxLocals := 7, code := method_3_code, exceptionTable := #[], attributes := #[] }
def k1m2 : Method := { name := "putStem", desc := "([CICCCCC)V", sig := { parameters := [(.array .char), .int, .char, .char, .char, .char, .char], returnType := none }, accessFlags := 10, code := some k1c2 }
def k1c3 : Code := { maxStack := 3, maxLocals := 3, code := method_4_code, exceptionTable := #[], attributes := #[] }
def k1m3 : Method := { name := "putSuffix", desc := "([CIZ)V", sig := { parameters := [(.array .char), .int, .boolean], returnType := none }, accessFlags := 10, code := some k1c3 }
def k1c4 : Code := { maxStack := 7, maxLocals := 15, code := code, exceptionTable := #[], attributes := #[] }
def k1m4 : Method := { name := "law", desc := "(IIIIII)Z", sig := { parameters := [.int, .int, .int, .int, .int, .int], returnType := some .boolean }, accessFlags := 9, code := some k1c4 }
/-- io/dyeline/store/LayoutTagFilePinLaw -/
def k1 : Class := { plain "io/dyeline/store/LayoutTagFilePinLaw" (some 0) with
  accessFlags := 49
  interfaces := #[]
  cf := some (fileOf pool1 9 #[] #[{ accessFlags := 2, nameIndex := 5, descriptorIndex := 6, attributes := #[] }, { accessFlags := 10, nameIndex := 12, descriptorIndex := 13, attributes := #[] }, { accessFlags := 10, nameIndex := 16, descriptorIndex := 17, attributes := #[] }, { accessFlags := 10, nameIndex := 20, descriptorIndex := 21, attributes := #[] }, { accessFlags := 9, nameIndex := 39, descriptorIndex := 40, attributes := #[] }] 49 2 #[] #[])
  fields := #[]
  methods := #[k1m0, k1m1, k1m2, k1m3, k1m4]
  instanceTypes := #[]
  staticTypes := #[]
  resolved := Array.replicate 43 none
  statics := none }

def pool2 : Array CpInfo := pool [(1, .class_ 2), (0, u "java/io/Serializable"), (0, .class_ 4), (0, u "java/lang/Object")] 2

/-- java/io/Serializable -/
def k2 : Class := { plain "java/io/Serializable" (some 0) with
  accessFlags := 1537
  interfaces := #[]
  cf := some (fileOf pool2 1 #[] #[] 1537 3 #[] #[])
  fields := #[]
  methods := #[]
  instanceTypes := #[]
  staticTypes := #[]
  resolved := Array.replicate 7 none
  statics := none }

def pool3 : Array CpInfo := pool [(1, .class_ 2), (0, u "java/lang/Comparable"), (0, .class_ 4), (0, u "java/lang/Object")] 7

/-- java/lang/Comparable -/
def k3 : Class := { plain "java/lang/Comparable" (some 0) with
  accessFlags := 1537
  interfaces := #[]
  cf := some (fileOf pool3 1 #[] #[] 1537 3 #[] #[])
  fields := #[]
  methods := #[]
  instanceTypes := #[]
  staticTypes := #[]
  resolved := Array.replicate 12 none
  statics := none }

def pool4 : Array CpInfo := pool [(2, .class_ 4), (1, u "java/lang/CharSequence"), (42, .class_ 48), (0, u "java/lang/CharSequence$1CodePointIterator"), (10, .class_ 60), (0, u "java/lang/CharSequence$1CharIterator"), (5, .class_ 67), (0, u "java/lang/Object")] 63

/-- java/lang/CharSequence -/
def k4 : Class := { plain "java/lang/CharSequence" (some 0) with
  accessFlags := 1537
  interfaces := #[]
  cf := some (fileOf pool4 2 #[.nestMembers #[47, 59]] #[] 1537 66 #[] #[])
  fields := #[]
  methods := #[]
  instanceTypes := #[]
  staticTypes := #[]
  resolved := Array.replicate 131 none
  statics := none }

def pool5 : Array CpInfo := pool [(1, .class_ 2), (0, u "java/lang/constant/Constable"), (0, .class_ 4), (0, u "java/lang/Object")] 6

/-- java/lang/constant/Constable -/
def k5 : Class := { plain "java/lang/constant/Constable" (some 0) with
  accessFlags := 1537
  interfaces := #[]
  cf := some (fileOf pool5 1 #[] #[] 1537 3 #[] #[])
  fields := #[]
  methods := #[]
  instanceTypes := #[]
  staticTypes := #[]
  resolved := Array.replicate 11 none
  statics := none }

def pool6 : Array CpInfo := pool [(1, .class_ 2), (0, u "java/lang/constant/ConstantDesc"), (0, .class_ 4), (0, u "java/lang/Object")] 32

/-- java/lang/constant/ConstantDesc -/
def k6 : Class := { plain "java/lang/constant/ConstantDesc" (some 0) with
  accessFlags := 1537
  interfaces := #[]
  cf := some (fileOf pool6 1 #[] #[] 1537 3 #[] #[])
  fields := #[]
  methods := #[]
  instanceTypes := #[]
  staticTypes := #[]
  resolved := Array.replicate 37 none
  statics := none }

def pool7 : Array CpInfo := pool [(1, .methodref 2 3), (0, .class_ 4), (0, .nameAndType 5 6), (0, u "java/lang/Object"), (0, u "<init>"), (0, u "()V"), (2, .fieldref 10 11), (0, .class_ 12), (0, .nameAndType 13 14), (0, u "java/lang/String"), (0, u "value"), (0, u "[B"), (0, .fieldref 10 16), (0, .nameAndType 17 18), (0, u "coder"), (0, u "B"), (2, u "hash"), (0, u "I"), (2, u "hashIsZero"), (0, u "Z"), (0, .methodref 10 28), (0, .nameAndType 5 29), (0, u "([CIILjava/lang/Void;)V"), (8, .fieldref 10 39), (0, .nameAndType 40 26), (0, u "COMPACT_STRINGS"), (1, .class_ 44), (1, u "java/lang/StringUTF16"), (0, u "compress"), (1, .methodref 42 48), (0, .nameAndType 49 50), (0, u "coderFromArrayLen"), (0, u "([BI)B"), (3, .methodref 55 56), (0, .class_ 57), (0, .nameAndType 58 59), (0, u "java/util/Arrays"), (0, u "copyOfRange"), (0, u "([BII)[B"), (47, .class_ 109), (1, u "java/lang/StringLatin1"), (32, u "()Z"), (34, .methodref 42 178), (0, .nameAndType 45 179), (0, u "([CII)[B"), (13, .class_ 195), (1, u "java/lang/System"), (15, u "([BB)V"), (0, .methodref 193 213), (0, .nameAndType 214 215), (0, u "arraycopy"), (0, u "(Ljava/lang/Object;ILjava/lang/Object;II)V"), (118, u "()I"), (0, .methodref 10 336), (0, .nameAndType 17 337), (0, u "()B"), (2, u "()[B"), (148, .methodref 10 490), (0, .nameAndType 5 491), (0, u "(Ljava/lang/AbstractStringBuilder;Ljava/lang/Void;)V"), (0, .methodref 10 493), (0, .nameAndType 494 142), (0, u "isLatin1"), (10, .methodref 10 506), (0, .nameAndType 507 334), (0, u "length"), (5, u "checkFromToIndex"), (7, .methodref 10 522), (0, .nameAndType 523 524), (0, u "checkBoundsBeginEnd"), (0, u "(III)V"), (7, u "getBytes"), (8, .methodref 107 542), (0, .nameAndType 543 544), (0, u "equals"), (0, u "([B[B)Z"), (4, .methodref 550 506), (0, .class_ 551), (0, u "java/lang/AbstractStringBuilder"), (0, .methodref 550 553), (0, .nameAndType 554 340), (0, u "getValue"), (18, u "(Ljava/lang/Object;)Z"), (1, .class_ 576), (0, u "java/lang/CharSequence"), (22, u "CASE_INSENSITIVE_ORDER"), (0, u "Ljava/util/Comparator;"), (82, u "substring"), (0, u "(II)Ljava/lang/String;"), (0, .methodref 107 686), (0, .nameAndType 687 688), (0, u "newString"), (0, u "([BII)Ljava/lang/String;"), (132, u "([BIB)V"), (188, u "([C)V"), (36, .methodref 550 493), (5, .fieldref 1054 1055), (0, .class_ 1056), (0, .nameAndType 1057 1058), (0, u "jdk/internal/util/Preconditions"), (0, u "SIOOBE_FORMATTER"), (0, u "Ljava/util/function/BiFunction;"), (3, .methodref 1054 1063), (0, .nameAndType 513 1064), (0, u "(IIILjava/util/function/BiFunction;)I"), (36, u "serialPersistentFields"), (0, u "[Ljava/io/ObjectStreamField;"), (0, .class_ 1104), (0, u "java/lang/String$CaseInsensitiveComparator"), (1, .class_ 1107), (0, u "java/io/Serializable"), (0, .class_ 1109), (0, u "java/lang/Comparable"), (0, .class_ 1111), (0, u "java/lang/constant/Constable"), (0, .class_ 1113), (0, u "java/lang/constant/ConstantDesc"), (2, u "serialVersionUID"), (0, u "J"), (3, u "REPL"), (0, u "C"), (2, u "LATIN1"), (1, u "UTF16"), (105, u "(Ljava/lang/StringBuilder;)V")] 217

def k7m0 : Method := { name := "<init>", desc := "()V", sig := { parameters := [], returnType := none }, accessFlags := 1, code := none }
def k7c1 : Code := { maxStack := 5, maxLocals := 2, code := jdk_42_method_3_code, exceptionTable := #[], attributes := #[] }
def k7m1 : Method := { name := "<init>", desc := "([C)V", sig := { parameters := [(.array .char)], returnType := none }, accessFlags := 1, code := some k7c1 }
def k7c2 : Code := { maxStack := 3, maxLocals := 2, code := jdk_42_method_53_code, exceptionTable := #[], attributes := #[] }
def k7m2 : Method := { name := "<init>", desc := "(Ljava/lang/StringBuilder;)V", sig := { parameters := [(.object "java/lang/StringBuilder")], returnType := none }, accessFlags := 1, code := some k7c2 }
def k7c3 : Code := { maxStack := 2, maxLocals := 1, code := jdk_42_method_54_code, exceptionTable := #[], attributes := #[] }
def k7m3 : Method := { name := "length", desc := "()I", sig := { parameters := [], returnType := some .int }, accessFlags := 1, code := some k7c3 }
def k7c4 : Code := { maxStack := 2, maxLocals := 3, code := jdk_42_method_66_code, exceptionTable := #[], attributes := #[] }
def k7m4 : Method := { name := "equals", desc := "(Ljava/lang/Object;)Z", sig := { parameters := [(.object "java/lang/Object")], returnType := some .boolean }, accessFlags := 1, code := some k7c4 }
def k7c5 : Code := { maxStack := 3, maxLocals := 5, code := jdk_42_method_92_code, exceptionTable := #[], attributes := #[] }
def k7m5 : Method := { name := "substring", desc := "(II)Ljava/lang/String;", sig := { parameters := [.int, .int], returnType := some (.object "java/lang/String") }, accessFlags := 1, code := some k7c5 }
def k7c6 : Code := { maxStack := 5, maxLocals := 4, code := jdk_42_method_147_code, exceptionTable := #[], attributes := #[] }
def k7m6 : Method := { name := "getBytes", desc := "([BIB)V", sig := { parameters := [(.array .byte), .int, .byte], returnType := none }, accessFlags := 0, code := some k7c6 }
def k7c7 : Code := { maxStack := 4, maxLocals := 6, code := jdk_42_method_149_code, exceptionTable := #[], attributes := #[] }
def k7m7 : Method := { name := "<init>", desc := "([CIILjava/lang/Void;)V", sig := { parameters := [(.array .char), .int, .int, (.object "java/lang/Void")], returnType := none }, accessFlags := 2, code := some k7c7 }
def k7c8 : Code := { maxStack := 5, maxLocals := 5, code := jdk_42_method_150_code, exceptionTable := #[], attributes := #[] }
def k7m8 : Method := { name := "<init>", desc := "(Ljava/lang/AbstractStringBuilder;Ljava/lang/Void;)V", sig := { parameters := [(.object "java/lang/AbstractStringBuilder"), (.object "java/lang/Void")], returnType := none }, accessFlags := 0, code := some k7c8 }
def k7c9 : Code := { maxStack := 2, maxLocals := 3, code := jdk_42_method_151_code, exceptionTable := #[], attributes := #[] }
def k7m9 : Method := { name := "<init>", desc := "([BB)V", sig := { parameters := [(.array .byte), .byte], returnType := none }, accessFlags := 0, code := some k7c9 }
def k7c10 : Code := { maxStack := 1, maxLocals := 1, code := jdk_42_method_152_code, exceptionTable := #[], attributes := #[] }
def k7m10 : Method := { name := "coder", desc := "()B", sig := { parameters := [], returnType := some .byte }, accessFlags := 0, code := some k7c10 }
def k7c11 : Code := { maxStack := 1, maxLocals := 1, code := jdk_42_method_154_code, exceptionTable := #[], attributes := #[] }
def k7m11 : Method := { name := "isLatin1", desc := "()Z", sig := { parameters := [], returnType := some .boolean }, accessFlags := 0, code := some k7c11 }
def k7c12 : Code := { maxStack := 4, maxLocals := 3, code := jdk_42_method_158_code, exceptionTable := #[], attributes := #[] }
def k7m12 : Method := { name := "checkBoundsBeginEnd", desc := "(III)V", sig := { parameters := [.int, .int, .int], returnType := none }, accessFlags := 8, code := some k7c12 }
/-- java/lang/String -/
def k7 : Class := { plain "java/lang/String" (some 0) with
  accessFlags := 49
  interfaces := #[2, 3, 4, 5, 6]
  cf := some (fileOf pool7 10 #[.nestMembers #[1103]] #[{ accessFlags := 1, nameIndex := 5, descriptorIndex := 6, attributes := #[] }, { accessFlags := 1, nameIndex := 5, descriptorIndex := 1010, attributes := #[] }, { accessFlags := 1, nameIndex := 5, descriptorIndex := 1233, attributes := #[] }, { accessFlags := 1, nameIndex := 507, descriptorIndex := 334, attributes := #[] }, { accessFlags := 1, nameIndex := 543, descriptorIndex := 573, attributes := #[] }, { accessFlags := 1, nameIndex := 683, descriptorIndex := 684, attributes := #[] }, { accessFlags := 0, nameIndex := 532, descriptorIndex := 821, attributes := #[] }, { accessFlags := 2, nameIndex := 5, descriptorIndex := 29, attributes := #[] }, { accessFlags := 0, nameIndex := 5, descriptorIndex := 491, attributes := #[] }, { accessFlags := 0, nameIndex := 5, descriptorIndex := 211, attributes := #[] }, { accessFlags := 0, nameIndex := 17, descriptorIndex := 337, attributes := #[] }, { accessFlags := 0, nameIndex := 494, descriptorIndex := 142, attributes := #[] }, { accessFlags := 8, nameIndex := 523, descriptorIndex := 524, attributes := #[] }] 49 2 #[1106, 1108, 575, 1110, 1112] #[{ accessFlags := 18, nameIndex := 13, descriptorIndex := 14, attributes := #[] }, { accessFlags := 18, nameIndex := 17, descriptorIndex := 18, attributes := #[] }, { accessFlags := 2, nameIndex := 21, descriptorIndex := 22, attributes := #[] }, { accessFlags := 2, nameIndex := 25, descriptorIndex := 26, attributes := #[] }, { accessFlags := 26, nameIndex := 1116, descriptorIndex := 1117, attributes := #[] }, { accessFlags := 24, nameIndex := 40, descriptorIndex := 26, attributes := #[] }, { accessFlags := 26, nameIndex := 1101, descriptorIndex := 1102, attributes := #[] }, { accessFlags := 26, nameIndex := 1121, descriptorIndex := 1122, attributes := #[] }, { accessFlags := 25, nameIndex := 599, descriptorIndex := 600, attributes := #[] }, { accessFlags := 24, nameIndex := 1125, descriptorIndex := 18, attributes := #[] }, { accessFlags := 24, nameIndex := 1127, descriptorIndex := 18, attributes := #[] }])
  fields := #[{ name := "value", type := (.array .byte), accessFlags := 18, slot := 0, constantValue := 0 }, { name := "coder", type := .byte, accessFlags := 18, slot := 1, constantValue := 0 }, { name := "hash", type := .int, accessFlags := 2, slot := 2, constantValue := 0 }, { name := "hashIsZero", type := .boolean, accessFlags := 2, slot := 3, constantValue := 0 }, { name := "serialVersionUID", type := .long, accessFlags := 26, slot := 0, constantValue := 0 }, { name := "COMPACT_STRINGS", type := .boolean, accessFlags := 24, slot := 1, constantValue := 0 }, { name := "serialPersistentFields", type := (.array (.object "java/io/ObjectStreamField")), accessFlags := 26, slot := 2, constantValue := 0 }, { name := "REPL", type := .char, accessFlags := 26, slot := 3, constantValue := 0 }, { name := "CASE_INSENSITIVE_ORDER", type := (.object "java/util/Comparator"), accessFlags := 25, slot := 4, constantValue := 0 }, { name := "LATIN1", type := .byte, accessFlags := 24, slot := 5, constantValue := 0 }, { name := "UTF16", type := .byte, accessFlags := 24, slot := 6, constantValue := 0 }]
  methods := #[k7m0, k7m1, k7m2, k7m3, k7m4, k7m5, k7m6, k7m7, k7m8, k7m9, k7m10, k7m11, k7m12]
  instanceTypes := #[(.array .byte), .byte, .int, .boolean]
  staticTypes := #[.long, .boolean, (.array (.object "java/io/ObjectStreamField")), .char, (.object "java/util/Comparator"), .byte, .byte]
  resolved := Array.replicate 1451 none
  statics := some 0 }

def pool8 : Array CpInfo := pool [(6, .class_ 8), (1, u "java/lang/Object"), (0, u "<init>"), (0, u "()V"), (1, .class_ 14), (1, u "java/lang/StringUTF16"), (31, u "$assertionsDisabled"), (0, u "Z"), (13, u "HI_BYTE_SHIFT"), (0, u "I"), (2, u "LO_BYTE_SHIFT"), (49, .methodref 12 116), (0, .nameAndType 117 118), (0, u "compress"), (0, u "([CI[BII)I"), (3, u "([CII)[B"), (138, u "coderFromArrayLen"), (0, u "([BI)B"), (106, .class_ 371), (1, u "java/lang/StringUTF16$LinesSpliterator"), (58, u "MAX_LENGTH"), (196, .class_ 628), (0, u "java/lang/StringUTF16$CodePointsSpliterator"), (0, .class_ 630), (0, u "java/lang/StringUTF16$CharsSpliterator")] 4

def k8m0 : Method := { name := "<init>", desc := "()V", sig := { parameters := [], returnType := none }, accessFlags := 0, code := none }
def k8c1 : Code := { maxStack := 2, maxLocals := 2, code := jdk_52_method_15_code, exceptionTable := #[], attributes := #[] }
def k8m1 : Method := { name := "coderFromArrayLen", desc := "([BI)B", sig := { parameters := [(.array .byte), .int], returnType := some .byte }, accessFlags := 8, code := some k8c1 }
def k8c2 : Code := { maxStack := 5, maxLocals := 6, code := jdk_52_method_16_code, exceptionTable := #[], attributes := #[] }
def k8m2 : Method := { name := "compress", desc := "([CII)[B", sig := { parameters := [(.array .char), .int, .int], returnType := some (.array .byte) }, accessFlags := 9, code := some k8c2 }
def k8c3 : Code := { maxStack := 3, maxLocals := 7, code := jdk_52_method_21_code, exceptionTable := #[], attributes := #[] }
def k8m3 : Method := { name := "compress", desc := "([CI[BII)I", sig := { parameters := [(.array .char), .int, (.array .byte), .int, .int], returnType := some .int }, accessFlags := 9, code := some k8c3 }
/-- java/lang/StringUTF16 -/
def k8 : Class := { plain "java/lang/StringUTF16" (some 0) with
  accessFlags := 48
  interfaces := #[]
  cf := some (fileOf pool8 12 #[.nestMembers #[627, 629, 369]] #[{ accessFlags := 0, nameIndex := 9, descriptorIndex := 10, attributes := #[] }, { accessFlags := 8, nameIndex := 261, descriptorIndex := 262, attributes := #[] }, { accessFlags := 9, nameIndex := 117, descriptorIndex := 122, attributes := #[] }, { accessFlags := 9, nameIndex := 117, descriptorIndex := 118, attributes := #[] }] 48 6 #[] #[{ accessFlags := 26, nameIndex := 61, descriptorIndex := 62, attributes := #[] }, { accessFlags := 26, nameIndex := 65, descriptorIndex := 62, attributes := #[] }, { accessFlags := 24, nameIndex := 430, descriptorIndex := 62, attributes := #[] }, { accessFlags := 4120, nameIndex := 46, descriptorIndex := 47, attributes := #[] }])
  fields := #[{ name := "HI_BYTE_SHIFT", type := .int, accessFlags := 26, slot := 0, constantValue := 0 }, { name := "LO_BYTE_SHIFT", type := .int, accessFlags := 26, slot := 1, constantValue := 0 }, { name := "MAX_LENGTH", type := .int, accessFlags := 24, slot := 2, constantValue := 0 }, { name := "$assertionsDisabled", type := .boolean, accessFlags := 4120, slot := 3, constantValue := 0 }]
  methods := #[k8m0, k8m1, k8m2, k8m3]
  instanceTypes := #[]
  staticTypes := #[.int, .int, .int, .boolean]
  resolved := Array.replicate 635 none
  statics := none }

def pool9 : Array CpInfo := pool [(2, .class_ 4), (0, .nameAndType 5 6), (0, u "java/lang/Object"), (0, u "<init>"), (0, u "()V"), (3, .class_ 11), (0, u "io/dyeline/store/Layout"), (3, .class_ 17), (1, u "java/lang/String"), (2, .string 21), (0, u ".json"), (3, .class_ 26), (0, u "java/lang/StringBuilder"), (0, .methodref 25 3), (0, .methodref 15 29), (0, .nameAndType 30 31), (0, u "length"), (0, u "()I"), (0, .methodref 15 33), (0, .nameAndType 34 35), (0, u "substring"), (0, u "(II)Ljava/lang/String;"), (0, .methodref 25 37), (0, .nameAndType 38 39), (0, u "append"), (0, u "(Ljava/lang/String;)Ljava/lang/StringBuilder;"), (0, .string 41), (0, u ".tags"), (0, .methodref 25 43), (0, .nameAndType 44 45), (0, u "toString"), (0, u "()Ljava/lang/String;"), (4, u "TAGS_DIR"), (0, u "Ljava/lang/String;"), (3, u "MANIFEST"), (2, u "FORMAT"), (0, u "I"), (1, u "DATA_PREFIX"), (0, u "DATA_SUFFIX"), (0, u "TAGS_SUFFIX"), (0, u "NUMBERED"), (1, u "SETS"), (2, u "SETS_SUFFIX"), (0, u "INDEX_SUFFIX"), (4, u "tagFile"), (0, u "(Ljava/lang/String;)Ljava/lang/String;")] 4

def k9m0 : Method := { name := "<init>", desc := "()V", sig := { parameters := [], returnType := none }, accessFlags := 2, code := none }
def k9c1 : Code := { maxStack := 5, maxLocals := 1, code := prog_8_method_3_code, exceptionTable := #[], attributes := #[] }
def k9m1 : Method := { name := "tagFile", desc := "(Ljava/lang/String;)Ljava/lang/String;", sig := { parameters := [(.object "java/lang/String")], returnType := some (.object "java/lang/String") }, accessFlags := 8, code := some k9c1 }
/-- io/dyeline/store/Layout -/
def k9 : Class := { plain "io/dyeline/store/Layout" (some 0) with
  accessFlags := 48
  interfaces := #[]
  cf := some (fileOf pool9 10 #[] #[{ accessFlags := 2, nameIndex := 5, descriptorIndex := 6, attributes := #[] }, { accessFlags := 8, nameIndex := 75, descriptorIndex := 76, attributes := #[] }] 48 2 #[] #[{ accessFlags := 24, nameIndex := 50, descriptorIndex := 51, attributes := #[] }, { accessFlags := 24, nameIndex := 55, descriptorIndex := 51, attributes := #[] }, { accessFlags := 24, nameIndex := 58, descriptorIndex := 59, attributes := #[] }, { accessFlags := 24, nameIndex := 61, descriptorIndex := 51, attributes := #[] }, { accessFlags := 24, nameIndex := 62, descriptorIndex := 51, attributes := #[] }, { accessFlags := 24, nameIndex := 63, descriptorIndex := 51, attributes := #[] }, { accessFlags := 24, nameIndex := 64, descriptorIndex := 59, attributes := #[] }, { accessFlags := 24, nameIndex := 66, descriptorIndex := 51, attributes := #[] }, { accessFlags := 24, nameIndex := 69, descriptorIndex := 51, attributes := #[] }, { accessFlags := 24, nameIndex := 70, descriptorIndex := 51, attributes := #[] }])
  fields := #[{ name := "TAGS_DIR", type := (.object "java/lang/String"), accessFlags := 24, slot := 0, constantValue := 0 }, { name := "MANIFEST", type := (.object "java/lang/String"), accessFlags := 24, slot := 1, constantValue := 0 }, { name := "FORMAT", type := .int, accessFlags := 24, slot := 2, constantValue := 0 }, { name := "DATA_PREFIX", type := (.object "java/lang/String"), accessFlags := 24, slot := 3, constantValue := 0 }, { name := "DATA_SUFFIX", type := (.object "java/lang/String"), accessFlags := 24, slot := 4, constantValue := 0 }, { name := "TAGS_SUFFIX", type := (.object "java/lang/String"), accessFlags := 24, slot := 5, constantValue := 0 }, { name := "NUMBERED", type := .int, accessFlags := 24, slot := 6, constantValue := 0 }, { name := "SETS", type := (.object "java/lang/String"), accessFlags := 24, slot := 7, constantValue := 0 }, { name := "SETS_SUFFIX", type := (.object "java/lang/String"), accessFlags := 24, slot := 8, constantValue := 0 }, { name := "INDEX_SUFFIX", type := (.object "java/lang/String"), accessFlags := 24, slot := 9, constantValue := 0 }]
  methods := #[k9m0, k9m1]
  instanceTypes := #[]
  staticTypes := #[(.object "java/lang/String"), (.object "java/lang/String"), .int, (.object "java/lang/String"), (.object "java/lang/String"), (.object "java/lang/String"), .int, (.object "java/lang/String"), (.object "java/lang/String"), (.object "java/lang/String")]
  resolved := Array.replicate 81 none
  statics := none }

def pool10 : Array CpInfo := pool [(1, .class_ 2), (0, u "java/lang/Appendable"), (0, .class_ 4), (0, u "java/lang/Object")] 9

/-- java/lang/Appendable -/
def k10 : Class := { plain "java/lang/Appendable" (some 0) with
  accessFlags := 1537
  interfaces := #[]
  cf := some (fileOf pool10 1 #[] #[] 1537 3 #[] #[])
  fields := #[]
  methods := #[]
  instanceTypes := #[]
  staticTypes := #[]
  resolved := Array.replicate 14 none
  statics := none }

def pool11 : Array CpInfo := pool [(1, .class_ 2), (0, u "java/lang/String"), (0, .methodref 4 5), (0, .class_ 6), (0, .nameAndType 7 8), (0, u "java/lang/Object"), (0, u "<init>"), (0, u "()V"), (1, .class_ 12), (1, u "java/lang/AbstractStringBuilder"), (0, u "EMPTYVALUE"), (0, u "[B"), (0, .fieldref 10 16), (0, .nameAndType 17 14), (0, u "value"), (0, .fieldref 1 19), (0, .nameAndType 20 21), (0, u "COMPACT_STRINGS"), (0, u "Z"), (0, .fieldref 10 23), (0, .nameAndType 24 25), (0, u "coder"), (0, u "B"), (6, .methodref 1 33), (0, .nameAndType 34 35), (0, u "length"), (0, u "()I"), (4, .methodref 1 41), (0, .nameAndType 24 42), (0, u "()B"), (2, u "append"), (0, u "(Ljava/lang/String;)Ljava/lang/AbstractStringBuilder;"), (1, .class_ 49), (0, u "java/lang/CharSequence"), (19, u "(Ljava/lang/String;)V"), (5, u "maybeLatin1"), (3, .fieldref 10 80), (0, .nameAndType 81 82), (0, u "count"), (0, u "I"), (2, u "isLatin1"), (0, u "()Z"), (13, .methodref 10 101), (0, .nameAndType 102 103), (0, u "ensureCapacityInternal"), (0, u "(I)V"), (104, .methodref 10 209), (0, .nameAndType 210 211), (0, u "putStringAt"), (0, u "(ILjava/lang/String;)V"), (5, u "inflateIfNeededFor"), (2, .nameAndType 221 222), (0, u "getBytes"), (0, u "([BIB)V"), (174, .methodref 10 398), (0, .nameAndType 217 69), (0, .methodref 1 220), (3, u "()[B"), (40, .class_ 445), (0, u "java/lang/Appendable"), (106, u "getValue")] 56

def k11m0 : Method := { name := "<init>", desc := "()V", sig := { parameters := [], returnType := none }, accessFlags := 0, code := none }
def k11c1 : Code := { maxStack := 2, maxLocals := 2, code := jdk_68_method_2_code, exceptionTable := #[], attributes := #[] }
def k11m1 : Method := { name := "<init>", desc := "(I)V", sig := { parameters := [.int], returnType := none }, accessFlags := 0, code := some k11c1 }
def k11c2 : Code := { maxStack := 1, maxLocals := 1, code := jdk_68_method_6_code, exceptionTable := #[], attributes := #[] }
def k11m2 : Method := { name := "length", desc := "()I", sig := { parameters := [], returnType := some .int }, accessFlags := 1, code := some k11c2 }
def k11c3 : Code := { maxStack := 4, maxLocals := 3, code := jdk_68_method_9_code, exceptionTable := #[], attributes := #[] }
def k11m3 : Method := { name := "ensureCapacityInternal", desc := "(I)V", sig := { parameters := [.int], returnType := none }, accessFlags := 2, code := some k11c3 }
def k11c4 : Code := { maxStack := 3, maxLocals := 3, code := jdk_68_method_22_code, exceptionTable := #[], attributes := #[] }
def k11m4 : Method := { name := "append", desc := "(Ljava/lang/String;)Ljava/lang/AbstractStringBuilder;", sig := { parameters := [(.object "java/lang/String")], returnType := some (.object "java/lang/AbstractStringBuilder") }, accessFlags := 1, code := some k11c4 }
def k11c5 : Code := { maxStack := 1, maxLocals := 1, code := jdk_68_method_64_code, exceptionTable := #[], attributes := #[] }
def k11m5 : Method := { name := "getValue", desc := "()[B", sig := { parameters := [], returnType := some (.array .byte) }, accessFlags := 16, code := some k11c5 }
def k11c6 : Code := { maxStack := 1, maxLocals := 1, code := jdk_68_method_68_code, exceptionTable := #[], attributes := #[] }
def k11m6 : Method := { name := "isLatin1", desc := "()Z", sig := { parameters := [], returnType := some .boolean }, accessFlags := 16, code := some k11c6 }
def k11c7 : Code := { maxStack := 2, maxLocals := 2, code := jdk_68_method_71_code, exceptionTable := #[], attributes := #[] }
def k11m7 : Method := { name := "inflateIfNeededFor", desc := "(Ljava/lang/String;)V", sig := { parameters := [(.object "java/lang/String")], returnType := none }, accessFlags := 2, code := some k11c7 }
def k11c8 : Code := { maxStack := 4, maxLocals := 3, code := jdk_68_method_73_code, exceptionTable := #[], attributes := #[] }
def k11m8 : Method := { name := "putStringAt", desc := "(ILjava/lang/String;)V", sig := { parameters := [.int, (.object "java/lang/String")], returnType := none }, accessFlags := 2, code := some k11c8 }
/-- java/lang/AbstractStringBuilder -/
def k11 : Class := { plain "java/lang/AbstractStringBuilder" (some 0) with
  accessFlags := 1056
  interfaces := #[10, 4]
  cf := some (fileOf pool11 10 #[] #[{ accessFlags := 0, nameIndex := 7, descriptorIndex := 8, attributes := #[] }, { accessFlags := 0, nameIndex := 7, descriptorIndex := 103, attributes := #[] }, { accessFlags := 1, nameIndex := 34, descriptorIndex := 35, attributes := #[] }, { accessFlags := 2, nameIndex := 102, descriptorIndex := 103, attributes := #[] }, { accessFlags := 1, nameIndex := 45, descriptorIndex := 46, attributes := #[] }, { accessFlags := 16, nameIndex := 552, descriptorIndex := 403, attributes := #[] }, { accessFlags := 16, nameIndex := 85, descriptorIndex := 86, attributes := #[] }, { accessFlags := 2, nameIndex := 217, descriptorIndex := 69, attributes := #[] }, { accessFlags := 2, nameIndex := 210, descriptorIndex := 211, attributes := #[] }] 1056 4 #[444, 48] #[{ accessFlags := 0, nameIndex := 17, descriptorIndex := 14, attributes := #[] }, { accessFlags := 0, nameIndex := 24, descriptorIndex := 25, attributes := #[] }, { accessFlags := 0, nameIndex := 75, descriptorIndex := 21, attributes := #[] }, { accessFlags := 0, nameIndex := 81, descriptorIndex := 82, attributes := #[] }, { accessFlags := 26, nameIndex := 13, descriptorIndex := 14, attributes := #[] }])
  fields := #[{ name := "value", type := (.array .byte), accessFlags := 0, slot := 0, constantValue := 0 }, { name := "coder", type := .byte, accessFlags := 0, slot := 1, constantValue := 0 }, { name := "maybeLatin1", type := .boolean, accessFlags := 0, slot := 2, constantValue := 0 }, { name := "count", type := .int, accessFlags := 0, slot := 3, constantValue := 0 }, { name := "EMPTYVALUE", type := (.array .byte), accessFlags := 26, slot := 0, constantValue := 0 }]
  methods := #[k11m0, k11m1, k11m2, k11m3, k11m4, k11m5, k11m6, k11m7, k11m8]
  instanceTypes := #[(.array .byte), .byte, .boolean, .int]
  staticTypes := #[(.array .byte)]
  resolved := Array.replicate 609 none
  statics := none }

def pool12 : Array CpInfo := pool [(1, .methodref 2 3), (0, .class_ 4), (0, .nameAndType 5 6), (0, u "java/lang/AbstractStringBuilder"), (0, u "<init>"), (0, u "(I)V"), (11, .class_ 20), (1, u "java/lang/String"), (3, .class_ 26), (1, u "java/lang/StringBuilder"), (0, u "append"), (0, u "(Ljava/lang/String;)Ljava/lang/StringBuilder;"), (0, .methodref 2 30), (0, .nameAndType 27 31), (0, u "(Ljava/lang/String;)Ljava/lang/AbstractStringBuilder;"), (105, .methodref 18 138), (0, .nameAndType 5 139), (0, u "(Ljava/lang/StringBuilder;)V"), (5, u "()V"), (10, u "()I"), (186, .methodref 2 344), (0, .nameAndType 345 156), (0, u "length"), (3, .class_ 350), (0, u "java/lang/Appendable"), (0, .class_ 352), (0, u "java/io/Serializable"), (0, .class_ 354), (0, u "java/lang/Comparable"), (0, .class_ 356), (0, u "java/lang/CharSequence"), (0, u "serialVersionUID"), (0, u "J"), (40, u "toString"), (0, u "()Ljava/lang/String;")] 21

def k12c0 : Code := { maxStack := 2, maxLocals := 1, code := jdk_67_method_1_code, exceptionTable := #[], attributes := #[] }
def k12m0 : Method := { name := "<init>", desc := "()V", sig := { parameters := [], returnType := none }, accessFlags := 1, code := some k12c0 }
def k12c1 : Code := { maxStack := 2, maxLocals := 2, code := jdk_67_method_7_code, exceptionTable := #[], attributes := #[] }
def k12m1 : Method := { name := "append", desc := "(Ljava/lang/String;)Ljava/lang/StringBuilder;", sig := { parameters := [(.object "java/lang/String")], returnType := some (.object "java/lang/StringBuilder") }, accessFlags := 1, code := some k12c1 }
def k12c2 : Code := { maxStack := 3, maxLocals := 1, code := jdk_67_method_42_code, exceptionTable := #[], attributes := #[] }
def k12m2 : Method := { name := "toString", desc := "()Ljava/lang/String;", sig := { parameters := [], returnType := some (.object "java/lang/String") }, accessFlags := 1, code := some k12c2 }
def k12c3 : Code := { maxStack := 1, maxLocals := 1, code := jdk_67_method_93_code, exceptionTable := #[], attributes := #[] }
def k12m3 : Method := { name := "length", desc := "()I", sig := { parameters := [], returnType := some .int }, accessFlags := 4161, code := some k12c3 }
/-- java/lang/StringBuilder -/
def k12 : Class := { plain "java/lang/StringBuilder" (some 11) with
  accessFlags := 49
  interfaces := #[10, 2, 3, 4]
  cf := some (fileOf pool12 24 #[] #[{ accessFlags := 1, nameIndex := 5, descriptorIndex := 145, attributes := #[] }, { accessFlags := 1, nameIndex := 27, descriptorIndex := 28, attributes := #[] }, { accessFlags := 1, nameIndex := 399, descriptorIndex := 400, attributes := #[] }, { accessFlags := 4161, nameIndex := 345, descriptorIndex := 156, attributes := #[] }] 49 2 #[349, 351, 353, 355] #[{ accessFlags := 24, nameIndex := 357, descriptorIndex := 358, attributes := #[] }])
  fields := #[{ name := "serialVersionUID", type := .long, accessFlags := 24, slot := 0, constantValue := 0 }]
  methods := #[k12m0, k12m1, k12m2, k12m3]
  instanceTypes := #[(.array .byte), .byte, .boolean, .int]
  staticTypes := #[.long]
  resolved := Array.replicate 422 none
  statics := none }

def pool13 : Array CpInfo := pool [(2, .class_ 4), (1, u "java/lang/Object"), (0, u "<init>"), (0, u "()V"), (17, .class_ 26), (1, u "jdk/internal/util/Preconditions"), (20, u "checkFromToIndex"), (7, .class_ 56), (0, u "jdk/internal/util/Preconditions$4"), (57, .class_ 115), (0, u "jdk/internal/util/Preconditions$1"), (7, u "SIOOBE_FORMATTER"), (0, u "Ljava/util/function/BiFunction;"), (0, .class_ 126), (0, u "jdk/internal/util/Preconditions$2"), (3, u "AIOOBE_FORMATTER"), (0, .class_ 132), (0, u "jdk/internal/util/Preconditions$3"), (3, u "IOOBE_FORMATTER"), (46, u "(IIILjava/util/function/BiFunction;)I")] 10

def k13m0 : Method := { name := "<init>", desc := "()V", sig := { parameters := [], returnType := none }, accessFlags := 1, code := none }
def k13c1 : Code := { maxStack := 4, maxLocals := 4, code := jdk_41_method_12_code, exceptionTable := #[], attributes := #[] }
def k13m1 : Method := { name := "checkFromToIndex", desc := "(IIILjava/util/function/BiFunction;)I", sig := { parameters := [.int, .int, .int, (.object "java/util/function/BiFunction")], returnType := some .int }, accessFlags := 9, code := some k13c1 }
/-- jdk/internal/util/Preconditions -/
def k13 : Class := { plain "jdk/internal/util/Preconditions" (some 0) with
  accessFlags := 33
  interfaces := #[]
  cf := some (fileOf pool13 24 #[.nestMembers #[55, 131, 125, 114]] #[{ accessFlags := 1, nameIndex := 5, descriptorIndex := 6, attributes := #[] }, { accessFlags := 9, nameIndex := 47, descriptorIndex := 183, attributes := #[] }] 33 2 #[] #[{ accessFlags := 25, nameIndex := 123, descriptorIndex := 124, attributes := #[] }, { accessFlags := 25, nameIndex := 130, descriptorIndex := 124, attributes := #[] }, { accessFlags := 25, nameIndex := 136, descriptorIndex := 124, attributes := #[] }])
  fields := #[{ name := "SIOOBE_FORMATTER", type := (.object "java/util/function/BiFunction"), accessFlags := 25, slot := 0, constantValue := 0 }, { name := "AIOOBE_FORMATTER", type := (.object "java/util/function/BiFunction"), accessFlags := 25, slot := 1, constantValue := 0 }, { name := "IOOBE_FORMATTER", type := (.object "java/util/function/BiFunction"), accessFlags := 25, slot := 2, constantValue := 0 }]
  methods := #[k13m0, k13m1]
  instanceTypes := #[]
  staticTypes := #[(.object "java/util/function/BiFunction"), (.object "java/util/function/BiFunction"), (.object "java/util/function/BiFunction")]
  resolved := Array.replicate 194 none
  statics := some 1 }

def pool14 : Array CpInfo := pool [(1, .class_ 2), (0, u "java/lang/String"), (1, .class_ 6), (1, u "java/lang/Object"), (0, u "<init>"), (0, u "()V"), (5, .class_ 16), (1, u "java/lang/StringLatin1"), (95, .methodref 1 113), (0, .nameAndType 7 114), (0, u "([BB)V"), (6, u "$assertionsDisabled"), (0, u "Z"), (8, .class_ 133), (1, u "java/util/Arrays"), (62, u "newString"), (0, u "([BII)Ljava/lang/String;"), (23, .class_ 223), (1, u "java/lang/StringLatin1$LinesSpliterator"), (8, .methodref 131 233), (0, .nameAndType 234 235), (0, u "copyOfRange"), (0, u "([BII)[B"), (45, u "equals"), (0, u "([B[B)Z"), (107, .class_ 391), (0, u "java/lang/StringLatin1$CharsSpliterator")] 3

def k14m0 : Method := { name := "<init>", desc := "()V", sig := { parameters := [], returnType := none }, accessFlags := 0, code := none }
def k14c1 : Code := { maxStack := 3, maxLocals := 3, code := jdk_43_method_13_code, exceptionTable := #[], attributes := #[] }
def k14m1 : Method := { name := "equals", desc := "([B[B)Z", sig := { parameters := [(.array .byte), (.array .byte)], returnType := some .boolean }, accessFlags := 9, code := some k14c1 }
def k14c2 : Code := { maxStack := 6, maxLocals := 3, code := jdk_43_method_47_code, exceptionTable := #[], attributes := #[] }
def k14m2 : Method := { name := "newString", desc := "([BII)Ljava/lang/String;", sig := { parameters := [(.array .byte), .int, .int], returnType := some (.object "java/lang/String") }, accessFlags := 9, code := some k14c2 }
/-- java/lang/StringLatin1 -/
def k14 : Class := { plain "java/lang/StringLatin1" (some 0) with
  accessFlags := 48
  interfaces := #[]
  cf := some (fileOf pool14 14 #[.nestMembers #[390, 221]] #[{ accessFlags := 0, nameIndex := 7, descriptorIndex := 8, attributes := #[] }, { accessFlags := 9, nameIndex := 281, descriptorIndex := 282, attributes := #[] }, { accessFlags := 9, nameIndex := 196, descriptorIndex := 197, attributes := #[] }] 48 4 #[] #[{ accessFlags := 4120, nameIndex := 121, descriptorIndex := 122, attributes := #[] }])
  fields := #[{ name := "$assertionsDisabled", type := .boolean, accessFlags := 4120, slot := 0, constantValue := 0 }]
  methods := #[k14m0, k14m1, k14m2]
  instanceTypes := #[]
  staticTypes := #[.boolean]
  resolved := Array.replicate 395 none
  statics := none }

def pool15 : Array CpInfo := pool [(2, .class_ 4), (1, u "java/lang/Object"), (0, u "<init>"), (0, u "()V"), (7, .class_ 16), (1, u "java/util/Arrays"), (57, .class_ 76), (1, u "java/util/Arrays$NaturalOrder"), (36, .class_ 115), (1, u "java/util/Arrays$LegacyMergeSort"), (1, u "Z"), (21, u "copyOfRange"), (10, .methodref 151 152), (0, .class_ 153), (0, .nameAndType 154 155), (0, u "java/lang/System"), (0, u "arraycopy"), (0, u "(Ljava/lang/Object;ILjava/lang/Object;II)V"), (148, .methodref 305 306), (0, .class_ 307), (0, .nameAndType 308 309), (0, u "java/lang/Math"), (0, u "min"), (0, u "(II)I"), (29, .methodref 14 340), (0, .nameAndType 341 342), (0, u "copyOfRangeByte"), (0, u "([BII)[B"), (0, .methodref 14 344), (0, .nameAndType 345 346), (0, u "checkLength"), (0, u "(II)V"), (28, .class_ 376), (0, u "java/util/Arrays$ArrayList"), (68, u "$assertionsDisabled"), (269, u "MIN_ARRAY_SORT_GRAN"), (0, u "I"), (2, u "INSERTIONSORT_THRESHOLD"), (255, .class_ 976), (0, u "java/util/Arrays$ArrayItr")] 52

def k15m0 : Method := { name := "<init>", desc := "()V", sig := { parameters := [], returnType := none }, accessFlags := 2, code := none }
def k15c1 : Code := { maxStack := 4, maxLocals := 2, code := jdk_65_method_131_code, exceptionTable := #[], attributes := #[] }
def k15m1 : Method := { name := "checkLength", desc := "(II)V", sig := { parameters := [.int, .int], returnType := none }, accessFlags := 10, code := some k15c1 }
def k15c2 : Code := { maxStack := 3, maxLocals := 3, code := jdk_65_method_132_code, exceptionTable := #[], attributes := #[] }
def k15m2 : Method := { name := "copyOfRange", desc := "([BII)[B", sig := { parameters := [(.array .byte), .int, .int], returnType := some (.array .byte) }, accessFlags := 9, code := some k15c2 }
def k15c3 : Code := { maxStack := 6, maxLocals := 5, code := jdk_65_method_133_code, exceptionTable := #[], attributes := #[] }
def k15m3 : Method := { name := "copyOfRangeByte", desc := "([BII)[B", sig := { parameters := [(.array .byte), .int, .int], returnType := some (.array .byte) }, accessFlags := 10, code := some k15c3 }
/-- java/util/Arrays -/
def k15 : Class := { plain "java/util/Arrays" (some 0) with
  accessFlags := 49
  interfaces := #[]
  cf := some (fileOf pool15 14 #[.nestMembers #[975, 375, 113, 74]] #[{ accessFlags := 2, nameIndex := 5, descriptorIndex := 6, attributes := #[] }, { accessFlags := 10, nameIndex := 345, descriptorIndex := 346, attributes := #[] }, { accessFlags := 9, nameIndex := 139, descriptorIndex := 342, attributes := #[] }, { accessFlags := 10, nameIndex := 341, descriptorIndex := 342, attributes := #[] }] 49 2 #[] #[{ accessFlags := 26, nameIndex := 715, descriptorIndex := 716, attributes := #[] }, { accessFlags := 26, nameIndex := 719, descriptorIndex := 716, attributes := #[] }, { accessFlags := 4120, nameIndex := 445, descriptorIndex := 117, attributes := #[] }])
  fields := #[{ name := "MIN_ARRAY_SORT_GRAN", type := .int, accessFlags := 26, slot := 0, constantValue := 0 }, { name := "INSERTIONSORT_THRESHOLD", type := .int, accessFlags := 26, slot := 1, constantValue := 0 }, { name := "$assertionsDisabled", type := .boolean, accessFlags := 4120, slot := 2, constantValue := 0 }]
  methods := #[k15m0, k15m1, k15m2, k15m3]
  instanceTypes := #[]
  staticTypes := #[.int, .int, .boolean]
  resolved := Array.replicate 1029 none
  statics := none }

def pool16 : Array CpInfo := pool [(1, .class_ 2), (0, u "java/lang/Math"), (1, .class_ 6), (1, u "java/lang/Object"), (0, u "<init>"), (0, u "()V"), (89, .class_ 100), (1, u "java/lang/Math$RandomNumberGeneratorHolder"), (71, u "negativeZeroFloatBits"), (0, u "J"), (2, u "negativeZeroDoubleBits"), (24, u "min"), (43, u "$assertionsDisabled"), (0, u "Z"), (88, u "(II)I"), (2, u "twoToTheDoubleScaleDown"), (0, u "D"), (4, u "twoToTheDoubleScaleUp"), (9, u "E"), (3, u "PI"), (2, u "TAU"), (2, u "DEGREES_TO_RADIANS"), (0, u "RADIANS_TO_DEGREES")] 94

def k16m0 : Method := { name := "<init>", desc := "()V", sig := { parameters := [], returnType := none }, accessFlags := 2, code := none }
def k16c1 : Code := { maxStack := 2, maxLocals := 2, code := jdk_29_method_69_code, exceptionTable := #[], attributes := #[] }
def k16m1 : Method := { name := "min", desc := "(II)I", sig := { parameters := [.int, .int], returnType := some .int }, accessFlags := 9, code := some k16c1 }
/-- java/lang/Math -/
def k16 : Class := { plain "java/lang/Math" (some 0) with
  accessFlags := 49
  interfaces := #[]
  cf := some (fileOf pool16 1 #[.nestMembers #[98]] #[{ accessFlags := 2, nameIndex := 7, descriptorIndex := 8, attributes := #[] }, { accessFlags := 9, nameIndex := 201, descriptorIndex := 335, attributes := #[] }] 49 4 #[] #[{ accessFlags := 25, nameIndex := 354, descriptorIndex := 339, attributes := #[] }, { accessFlags := 25, nameIndex := 358, descriptorIndex := 339, attributes := #[] }, { accessFlags := 25, nameIndex := 361, descriptorIndex := 339, attributes := #[] }, { accessFlags := 26, nameIndex := 364, descriptorIndex := 339, attributes := #[] }, { accessFlags := 26, nameIndex := 365, descriptorIndex := 339, attributes := #[] }, { accessFlags := 26, nameIndex := 172, descriptorIndex := 173, attributes := #[] }, { accessFlags := 26, nameIndex := 176, descriptorIndex := 173, attributes := #[] }, { accessFlags := 8, nameIndex := 344, descriptorIndex := 339, attributes := #[] }, { accessFlags := 8, nameIndex := 338, descriptorIndex := 339, attributes := #[] }, { accessFlags := 4120, nameIndex := 245, descriptorIndex := 246, attributes := #[] }])
  fields := #[{ name := "E", type := .double, accessFlags := 25, slot := 0, constantValue := 0 }, { name := "PI", type := .double, accessFlags := 25, slot := 1, constantValue := 0 }, { name := "TAU", type := .double, accessFlags := 25, slot := 2, constantValue := 0 }, { name := "DEGREES_TO_RADIANS", type := .double, accessFlags := 26, slot := 3, constantValue := 0 }, { name := "RADIANS_TO_DEGREES", type := .double, accessFlags := 26, slot := 4, constantValue := 0 }, { name := "negativeZeroFloatBits", type := .long, accessFlags := 26, slot := 5, constantValue := 0 }, { name := "negativeZeroDoubleBits", type := .long, accessFlags := 26, slot := 6, constantValue := 0 }, { name := "twoToTheDoubleScaleUp", type := .double, accessFlags := 8, slot := 7, constantValue := 0 }, { name := "twoToTheDoubleScaleDown", type := .double, accessFlags := 8, slot := 8, constantValue := 0 }, { name := "$assertionsDisabled", type := .boolean, accessFlags := 4120, slot := 9, constantValue := 0 }]
  methods := #[k16m0, k16m1]
  instanceTypes := #[]
  staticTypes := #[.double, .double, .double, .double, .double, .long, .long, .double, .double, .boolean]
  resolved := Array.replicate 460 none
  statics := none }

def pool17 : Array CpInfo := pool [(2, .class_ 4), (1, u "java/lang/Object"), (0, u "<init>"), (0, u "()V"), (1, .class_ 10), (1, u "java/lang/System"), (0, u "allowSecurityManager"), (0, u "I"), (16, u "cons"), (0, u "Ljava/io/Console;"), (77, .class_ 110), (1, u "java/lang/System$CallersHolder"), (43, u "initialErrStream"), (0, u "Ljava/io/PrintStream;"), (19, u "security"), (0, u "Ljava/lang/SecurityManager;"), (31, .class_ 209), (0, u "java/lang/System$1"), (7, u "props"), (0, u "Ljava/util/Properties;"), (2, u "lineSeparator"), (0, u "Ljava/lang/String;"), (96, .class_ 321), (1, u "java/lang/System$LoggerFinder"), (5, .class_ 328), (0, u "java/lang/System$Logger"), (67, u "err"), (2, u "out"), (91, u "notSupportedJnuEncoding"), (15, u "in"), (17, u "initialIn"), (0, u "Ljava/io/InputStream;"), (35, u "bootLayer"), (0, u "Ljava/lang/ModuleLayer;"), (99, .class_ 664), (0, u "java/lang/System$2"), (9, u "NEVER"), (2, u "MAYBE"), (49, u "arraycopy"), (0, u "(Ljava/lang/Object;ILjava/lang/Object;II)V"), (72, .class_ 802), (0, u "java/lang/System$Logger$Level")] 31

def k17m0 : Method := { name := "<init>", desc := "()V", sig := { parameters := [], returnType := none }, accessFlags := 2, code := none }
def k17m1 : Method := { name := "arraycopy", desc := "(Ljava/lang/Object;ILjava/lang/Object;II)V", sig := { parameters := [(.object "java/lang/Object"), .int, (.object "java/lang/Object"), .int, .int], returnType := none }, accessFlags := 265, code := none }
/-- java/lang/System -/
def k17 : Class := { plain "java/lang/System" (some 0) with
  accessFlags := 49
  interfaces := #[]
  cf := some (fileOf pool17 8 #[.nestMembers #[319, 327, 801, 108, 663, 208]] #[{ accessFlags := 2, nameIndex := 5, descriptorIndex := 6, attributes := #[] }, { accessFlags := 265, nameIndex := 727, descriptorIndex := 728, attributes := #[] }] 49 2 #[] #[{ accessFlags := 25, nameIndex := 507, descriptorIndex := 526, attributes := #[] }, { accessFlags := 25, nameIndex := 399, descriptorIndex := 155, attributes := #[] }, { accessFlags := 25, nameIndex := 396, descriptorIndex := 155, attributes := #[] }, { accessFlags := 10, nameIndex := 525, descriptorIndex := 526, attributes := #[] }, { accessFlags := 26, nameIndex := 674, descriptorIndex := 12, attributes := #[] }, { accessFlags := 26, nameIndex := 677, descriptorIndex := 12, attributes := #[] }, { accessFlags := 10, nameIndex := 11, descriptorIndex := 12, attributes := #[] }, { accessFlags := 74, nameIndex := 175, descriptorIndex := 176, attributes := #[] }, { accessFlags := 10, nameIndex := 491, descriptorIndex := 222, attributes := #[] }, { accessFlags := 74, nameIndex := 29, descriptorIndex := 30, attributes := #[] }, { accessFlags := 74, nameIndex := 154, descriptorIndex := 155, attributes := #[] }, { accessFlags := 10, nameIndex := 217, descriptorIndex := 218, attributes := #[] }, { accessFlags := 10, nameIndex := 221, descriptorIndex := 222, attributes := #[] }, { accessFlags := 8, nameIndex := 562, descriptorIndex := 563, attributes := #[] }])
  fields := #[{ name := "in", type := (.object "java/io/InputStream"), accessFlags := 25, slot := 0, constantValue := 0 }, { name := "out", type := (.object "java/io/PrintStream"), accessFlags := 25, slot := 1, constantValue := 0 }, { name := "err", type := (.object "java/io/PrintStream"), accessFlags := 25, slot := 2, constantValue := 0 }, { name := "initialIn", type := (.object "java/io/InputStream"), accessFlags := 10, slot := 3, constantValue := 0 }, { name := "NEVER", type := .int, accessFlags := 26, slot := 4, constantValue := 0 }, { name := "MAYBE", type := .int, accessFlags := 26, slot := 5, constantValue := 0 }, { name := "allowSecurityManager", type := .int, accessFlags := 10, slot := 6, constantValue := 0 }, { name := "security", type := (.object "java/lang/SecurityManager"), accessFlags := 74, slot := 7, constantValue := 0 }, { name := "notSupportedJnuEncoding", type := (.object "java/lang/String"), accessFlags := 10, slot := 8, constantValue := 0 }, { name := "cons", type := (.object "java/io/Console"), accessFlags := 74, slot := 9, constantValue := 0 }, { name := "initialErrStream", type := (.object "java/io/PrintStream"), accessFlags := 74, slot := 10, constantValue := 0 }, { name := "props", type := (.object "java/util/Properties"), accessFlags := 10, slot := 11, constantValue := 0 }, { name := "lineSeparator", type := (.object "java/lang/String"), accessFlags := 10, slot := 12, constantValue := 0 }, { name := "bootLayer", type := (.object "java/lang/ModuleLayer"), accessFlags := 8, slot := 13, constantValue := 0 }]
  methods := #[k17m0, k17m1]
  instanceTypes := #[]
  staticTypes := #[(.object "java/io/InputStream"), (.object "java/io/PrintStream"), (.object "java/io/PrintStream"), (.object "java/io/InputStream"), .int, .int, .int, (.object "java/lang/SecurityManager"), (.object "java/lang/String"), (.object "java/io/Console"), (.object "java/io/PrintStream"), (.object "java/util/Properties"), (.object "java/lang/String"), (.object "java/lang/ModuleLayer")]
  resolved := Array.replicate 834 none
  statics := none }

def pool18 : Array CpInfo := pool [(9, u "<init>"), (6, .class_ 18), (1, u "java/lang/Object"), (0, u "()V"), (1, .class_ 23), (1, u "jdk/internal/util/ArraysSupport"), (0, u "LOG2_ARRAY_LONG_INDEX_SCALE"), (0, u "I"), (2, u "U"), (0, u "Ljdk/internal/misc/Unsafe;"), (8, u "BIG_ENDIAN"), (0, u "Z"), (8, u "LOG2_BYTE_BIT_SIZE"), (4, u "LOG2_ARRAY_INT_INDEX_SCALE"), (54, u "JLA"), (0, u "Ljdk/internal/access/JavaLangAccess;"), (11, u "LOG2_ARRAY_BOOLEAN_INDEX_SCALE"), (9, u "LOG2_ARRAY_BYTE_INDEX_SCALE"), (5, u "LOG2_ARRAY_CHAR_INDEX_SCALE"), (5, u "LOG2_ARRAY_SHORT_INDEX_SCALE"), (18, u "LOG2_ARRAY_FLOAT_INDEX_SCALE"), (24, u "LOG2_ARRAY_DOUBLE_INDEX_SCALE"), (89, u "T_BOOLEAN"), (2, u "T_CHAR"), (1, u "T_FLOAT"), (1, u "T_DOUBLE"), (1, u "T_BYTE"), (1, u "T_SHORT"), (1, u "T_INT"), (1, u "T_LONG"), (1, u "SOFT_MAX_ARRAY_LENGTH")] 83

def k18m0 : Method := { name := "<init>", desc := "()V", sig := { parameters := [], returnType := none }, accessFlags := 2, code := none }
/-- jdk/internal/util/ArraysSupport -/
def k18 : Class := { plain "jdk/internal/util/ArraysSupport" (some 0) with
  accessFlags := 33
  interfaces := #[]
  cf := some (fileOf pool18 21 #[] #[{ accessFlags := 2, nameIndex := 9, descriptorIndex := 19, attributes := #[] }] 33 16 #[] #[{ accessFlags := 24, nameIndex := 28, descriptorIndex := 29, attributes := #[] }, { accessFlags := 26, nameIndex := 38, descriptorIndex := 39, attributes := #[] }, { accessFlags := 25, nameIndex := 121, descriptorIndex := 25, attributes := #[] }, { accessFlags := 25, nameIndex := 131, descriptorIndex := 25, attributes := #[] }, { accessFlags := 25, nameIndex := 137, descriptorIndex := 25, attributes := #[] }, { accessFlags := 25, nameIndex := 143, descriptorIndex := 25, attributes := #[] }, { accessFlags := 25, nameIndex := 53, descriptorIndex := 25, attributes := #[] }, { accessFlags := 25, nameIndex := 24, descriptorIndex := 25, attributes := #[] }, { accessFlags := 25, nameIndex := 162, descriptorIndex := 25, attributes := #[] }, { accessFlags := 25, nameIndex := 187, descriptorIndex := 25, attributes := #[] }, { accessFlags := 26, nameIndex := 48, descriptorIndex := 25, attributes := #[] }, { accessFlags := 25, nameIndex := 277, descriptorIndex := 25, attributes := #[] }, { accessFlags := 25, nameIndex := 280, descriptorIndex := 25, attributes := #[] }, { accessFlags := 25, nameIndex := 282, descriptorIndex := 25, attributes := #[] }, { accessFlags := 25, nameIndex := 284, descriptorIndex := 25, attributes := #[] }, { accessFlags := 25, nameIndex := 286, descriptorIndex := 25, attributes := #[] }, { accessFlags := 25, nameIndex := 288, descriptorIndex := 25, attributes := #[] }, { accessFlags := 25, nameIndex := 290, descriptorIndex := 25, attributes := #[] }, { accessFlags := 25, nameIndex := 292, descriptorIndex := 25, attributes := #[] }, { accessFlags := 26, nameIndex := 108, descriptorIndex := 109, attributes := #[] }, { accessFlags := 25, nameIndex := 294, descriptorIndex := 25, attributes := #[] }])
  fields := #[{ name := "U", type := (.object "jdk/internal/misc/Unsafe"), accessFlags := 24, slot := 0, constantValue := 0 }, { name := "BIG_ENDIAN", type := .boolean, accessFlags := 26, slot := 1, constantValue := 0 }, { name := "LOG2_ARRAY_BOOLEAN_INDEX_SCALE", type := .int, accessFlags := 25, slot := 2, constantValue := 0 }, { name := "LOG2_ARRAY_BYTE_INDEX_SCALE", type := .int, accessFlags := 25, slot := 3, constantValue := 0 }, { name := "LOG2_ARRAY_CHAR_INDEX_SCALE", type := .int, accessFlags := 25, slot := 4, constantValue := 0 }, { name := "LOG2_ARRAY_SHORT_INDEX_SCALE", type := .int, accessFlags := 25, slot := 5, constantValue := 0 }, { name := "LOG2_ARRAY_INT_INDEX_SCALE", type := .int, accessFlags := 25, slot := 6, constantValue := 0 }, { name := "LOG2_ARRAY_LONG_INDEX_SCALE", type := .int, accessFlags := 25, slot := 7, constantValue := 0 }, { name := "LOG2_ARRAY_FLOAT_INDEX_SCALE", type := .int, accessFlags := 25, slot := 8, constantValue := 0 }, { name := "LOG2_ARRAY_DOUBLE_INDEX_SCALE", type := .int, accessFlags := 25, slot := 9, constantValue := 0 }, { name := "LOG2_BYTE_BIT_SIZE", type := .int, accessFlags := 26, slot := 10, constantValue := 0 }, { name := "T_BOOLEAN", type := .int, accessFlags := 25, slot := 11, constantValue := 0 }, { name := "T_CHAR", type := .int, accessFlags := 25, slot := 12, constantValue := 0 }, { name := "T_FLOAT", type := .int, accessFlags := 25, slot := 13, constantValue := 0 }, { name := "T_DOUBLE", type := .int, accessFlags := 25, slot := 14, constantValue := 0 }, { name := "T_BYTE", type := .int, accessFlags := 25, slot := 15, constantValue := 0 }, { name := "T_SHORT", type := .int, accessFlags := 25, slot := 16, constantValue := 0 }, { name := "T_INT", type := .int, accessFlags := 25, slot := 17, constantValue := 0 }, { name := "T_LONG", type := .int, accessFlags := 25, slot := 18, constantValue := 0 }, { name := "JLA", type := (.object "jdk/internal/access/JavaLangAccess"), accessFlags := 26, slot := 19, constantValue := 0 }, { name := "SOFT_MAX_ARRAY_LENGTH", type := .int, accessFlags := 25, slot := 20, constantValue := 0 }]
  methods := #[k18m0]
  instanceTypes := #[]
  staticTypes := #[(.object "jdk/internal/misc/Unsafe"), .boolean, .int, .int, .int, .int, .int, .int, .int, .int, .int, .int, .int, .int, .int, .int, .int, .int, .int, (.object "jdk/internal/access/JavaLangAccess"), .int]
  resolved := Array.replicate 378 none
  statics := none }

def pool19 : Array CpInfo := pool [(1, u "java/lang/Cloneable"), (0, .class_ 1), (0, u "java/lang/Object"), (0, .class_ 3)] 3

/-- java/lang/Cloneable -/
def k19 : Class := { plain "java/lang/Cloneable" (some 0) with
  accessFlags := 1537
  interfaces := #[]
  cf := some (fileOf pool19 2 #[] #[] 1537 4 #[] #[])
  fields := #[]
  methods := #[]
  instanceTypes := #[]
  staticTypes := #[]
  resolved := Array.replicate 8 none
  statics := none }

/-- the primitive byte -/
def k20 : Class := { plain "byte" none with kind := .primitive 'B', accessFlags := 0x411 }
/-- [B -/
def k21 : Class := { plain "[B" (some 0) with kind := .array 20 .byte, interfaces := #[19, 2], accessFlags := 1041 }

/-- the primitive char -/
def k22 : Class := { plain "char" none with kind := .primitive 'C', accessFlags := 0x411 }
/-- [C -/
def k23 : Class := { plain "[C" (some 0) with kind := .array 22 .char, interfaces := #[19, 2], accessFlags := 1041 }

/-- the primitive int -/
def k24 : Class := { plain "int" none with kind := .primitive 'I', accessFlags := 0x411 }
/-- [I -/
def k25 : Class := { plain "[I" (some 0) with kind := .array 24 .int, interfaces := #[19, 2], accessFlags := 1041 }

def heap : Heap := #[{ cls := 7, slots := #[.long 0, .int 1, .null, .int 0, .null, .int 0, .int 0], vm := .statics 7 },
  { cls := 13, slots := #[.null, .null, .null], vm := .statics 13 }]
def classes : Array Class := #[k0, k1, k2, k3, k4, k5, k6, k7, k8, k9, k10, k11, k12, k13, k14, k15, k16, k17, k18, k19, k20, k21, k22, k23, k24, k25]
def interned : List (Array UInt16 × Addr) := []
def slotsUsed : Nat := 10
def theMethod : MethodId := ⟨1, 4⟩
def args0 : Array Value := #[.int 5, .int 5, .int 5, .int 5, .int 5, .int 5]
def aboutOver (below : List Frame) : State where
  vm := { classes := classes, interned := interned.toArray }
  heap := heap
  slotsUsed := slotsUsed
  threads := #[{ frames := .invoking theMethod args0 :: below }]
def below0 : List Frame := [.native { method := ⟨0, 0⟩, args := #[] }]
def about1 : State := aboutOver below0
def p0 : Program := .bare "" "" ""
def e0 : Env := launch0.env 0 0 0
theorem w_frames : about1.frames = Frame.invoking theMethod args0 :: below0 := rfl
set_option maxRecDepth 65536 in
theorem w_args : argsFit about1.vm theMethod args0 = true := by decide +kernel
set_option maxRecDepth 65536 in
theorem w_heap : heapFits about1 = true := by decide +kernel
set_option maxRecDepth 65536 in
theorem w_runnable : about1.curStatus? = some .runnable := by decide +kernel
set_option maxRecDepth 65536 in
theorem w_alone : about1.alone = true := by decide +kernel
set_option maxRecDepth 65536 in
theorem w_named : about1.methodNamed? x = some theMethod := by decide +kernel
set_option maxRecDepth 65536 in
theorem w_hears : about1.hears theMethod below0 = true := by decide +kernel
set_option maxRecDepth 65536 in
theorem w_ripe : about1.ripe theMethod args0 below0 = true := by decide +kernel
theorem w_running : about1.status = .running := rfl
set_option maxRecDepth 65536 in
theorem w_room : about1.hasRoom e0.platform room_1 = true :=
  launch0.hasRoom_least _ room_1 (by decide +kernel) (by decide +kernel) (by decide +kernel) (by decide +kernel) (by decide +kernel) (by decide +kernel)
theorem allAtoms_all (ts : List Jvm.Cond) (a : Array Jvm.Value) (st : Jvm.State) : (allAtoms ts).before a st = ts.all (fun c => c.before a st) := by
  induction ts with
  | nil => rfl
  | cons c t ih =>
    show (Jvm.Cond.and c (allAtoms t)).before a st = _
    rw [Jvm.Cond.before_and, ih, List.all_cons]
def words1 : List Jvm.Cond := Jvm.Cond.code x code maxLocals ret :: tables_1
/-- a 'code' word, met by the world's own term for the bytes: nothing is compared byte by byte -/
theorem code_word {y : MethodName} {bytes : ByteArray} {mx : Nat} {rt : Option FieldType} {a : Array Value} {s : State} {m : MethodId} {meth : Method} {c : Code} (h1 : s.methodNamed? y = some m) (h2 : s.vm.method? m = some meth) (h3 : meth.code = some c) (h4 : c.code = bytes)
    (h5 : (c.maxLocals == mx && c.exceptionTable.isEmpty && decide (c.maxStack ≤ mostOperands) && decide (meth.sig.returnType = rt) && !meth.locks && decide (parseMethodDescriptor y.desc = some meth.sig)) = true) : (Jvm.Cond.code y bytes mx rt).before a s = true := by
  simp only [Bool.and_eq_true, beq_iff_eq, Bool.not_eq_true', decide_eq_true_eq] at h5
  obtain ⟨⟨⟨⟨⟨g1, g2⟩, g3⟩, g4⟩, g5⟩, g6⟩ := h5
  simp [Cond.before, Cond.holds, Cond.value, h1, h2, h3, h4, g1, g2, g3, g4, g5, g6]
def isCode : Jvm.Cond → Bool
  | .code _ _ _ _ => true
  | _ => false
theorem all_split {L : List Jvm.Cond} {P : Jvm.Cond → Bool} (h1 : L.all (fun c => isCode c || P c) = true) (h2 : ∀ c ∈ L.filter isCode, P c = true) : L.all P = true := by
  refine List.all_eq_true.mpr fun c hc => ?_
  have h := List.all_eq_true.mp h1 c hc
  rcases Bool.eq_false_or_eq_true (isCode c) with hi | hi
  · exact h2 c (List.mem_filter.mpr ⟨hc, hi⟩)
  · simpa [hi] using h
set_option maxRecDepth 65536 in
theorem w_c0 : (Jvm.Cond.code x code maxLocals ret).before args0 about1 = true := code_word (m := ⟨1, 4⟩) (meth := k1m4) (c := k1c4) (by decide +kernel) rfl rfl rfl (by decide +kernel)
set_option maxRecDepth 65536 in
theorem w_c1 : (Jvm.Cond.code ({ cls := "io/dyeline/store/LayoutTagFilePinLaw", name := "putPrefix", desc := "([C)V" } : Jvm.MethodName) method_2_code (1 : Nat) (Option.none : Option Jvm.ClassFile.FieldType)).before args0 about1 = true := code_word (m := ⟨1, 1⟩) (meth := k1m1) (c := k1c1) (by decide +kernel) rfl rfl rfl (by decide +kernel)
set_option maxRecDepth 65536 in
theorem w_c2 : (Jvm.Cond.code ({ cls := "io/dyeline/store/LayoutTagFilePinLaw", name := "putStem", desc := "([CICCCCC)V" } : Jvm.MethodName) method_3_code (7 : Nat) (Option.none : Option Jvm.ClassFile.FieldType)).before args0 about1 = true := code_word (m := ⟨1, 2⟩) (meth := k1m2) (c := k1c2) (by decide +kernel) rfl rfl rfl (by decide +kernel)
set_option maxRecDepth 65536 in
theorem w_c3 : (Jvm.Cond.code ({ cls := "io/dyeline/store/LayoutTagFilePinLaw", name := "putSuffix", desc := "([CIZ)V" } : Jvm.MethodName) method_4_code (3 : Nat) (Option.none : Option Jvm.ClassFile.FieldType)).before args0 about1 = true := code_word (m := ⟨1, 3⟩) (meth := k1m3) (c := k1c3) (by decide +kernel) rfl rfl rfl (by decide +kernel)
set_option maxRecDepth 65536 in
theorem w_c4 : (Jvm.Cond.code ({ cls := "java/lang/String", name := "<init>", desc := "([C)V" } : Jvm.MethodName) jdk_42_method_3_code (2 : Nat) (Option.none : Option Jvm.ClassFile.FieldType)).before args0 about1 = true := code_word (m := ⟨7, 1⟩) (meth := k7m1) (c := k7c1) (by decide +kernel) rfl rfl rfl (by decide +kernel)
set_option maxRecDepth 65536 in
theorem w_c5 : (Jvm.Cond.code ({ cls := "java/lang/String", name := "<init>", desc := "([CIILjava/lang/Void;)V" } : Jvm.MethodName) jdk_42_method_149_code (6 : Nat) (Option.none : Option Jvm.ClassFile.FieldType)).before args0 about1 = true := code_word (m := ⟨7, 7⟩) (meth := k7m7) (c := k7c7) (by decide +kernel) rfl rfl rfl (by decide +kernel)
set_option maxRecDepth 65536 in
theorem w_c6 : (Jvm.Cond.code ({ cls := "java/lang/Object", name := "<init>", desc := "()V" } : Jvm.MethodName) object_method_1_code (1 : Nat) (Option.none : Option Jvm.ClassFile.FieldType)).before args0 about1 = true := code_word (m := ⟨0, 0⟩) (meth := k0m0) (c := k0c0) (by decide +kernel) rfl rfl rfl (by decide +kernel)
set_option maxRecDepth 65536 in
theorem w_c7 : (Jvm.Cond.code ({ cls := "java/lang/StringUTF16", name := "compress", desc := "([CII)[B" } : Jvm.MethodName) jdk_52_method_16_code (6 : Nat) (Option.some (Jvm.ClassFile.FieldType.array Jvm.ClassFile.FieldType.byte))).before args0 about1 = true := code_word (m := ⟨8, 2⟩) (meth := k8m2) (c := k8c2) (by decide +kernel) rfl rfl rfl (by decide +kernel)
set_option maxRecDepth 65536 in
theorem w_c8 : (Jvm.Cond.code ({ cls := "java/lang/StringUTF16", name := "compress", desc := "([CI[BII)I" } : Jvm.MethodName) jdk_52_method_21_code (7 : Nat) (Option.some Jvm.ClassFile.FieldType.int)).before args0 about1 = true := code_word (m := ⟨8, 3⟩) (meth := k8m3) (c := k8c3) (by decide +kernel) rfl rfl rfl (by decide +kernel)
set_option maxRecDepth 65536 in
theorem w_c9 : (Jvm.Cond.code ({ cls := "java/lang/StringUTF16", name := "coderFromArrayLen", desc := "([BI)B" } : Jvm.MethodName) jdk_52_method_15_code (2 : Nat) (Option.some Jvm.ClassFile.FieldType.byte)).before args0 about1 = true := code_word (m := ⟨8, 1⟩) (meth := k8m1) (c := k8c1) (by decide +kernel) rfl rfl rfl (by decide +kernel)
set_option maxRecDepth 65536 in
theorem w_c10 : (Jvm.Cond.code ({ cls := "io/dyeline/store/Layout", name := "tagFile", desc := "(Ljava/lang/String;)Ljava/lang/String;" } : Jvm.MethodName) prog_8_method_3_code (1 : Nat) (Option.some (Jvm.ClassFile.FieldType.object "java/lang/String"))).before args0 about1 = true := code_word (m := ⟨9, 1⟩) (meth := k9m1) (c := k9c1) (by decide +kernel) rfl rfl rfl (by decide +kernel)
set_option maxRecDepth 65536 in
theorem w_c11 : (Jvm.Cond.code ({ cls := "java/lang/StringBuilder", name := "<init>", desc := "()V" } : Jvm.MethodName) jdk_67_method_1_code (1 : Nat) (Option.none : Option Jvm.ClassFile.FieldType)).before args0 about1 = true := code_word (m := ⟨12, 0⟩) (meth := k12m0) (c := k12c0) (by decide +kernel) rfl rfl rfl (by decide +kernel)
set_option maxRecDepth 65536 in
theorem w_c12 : (Jvm.Cond.code ({ cls := "java/lang/AbstractStringBuilder", name := "<init>", desc := "(I)V" } : Jvm.MethodName) jdk_68_method_2_code (2 : Nat) (Option.none : Option Jvm.ClassFile.FieldType)).before args0 about1 = true := code_word (m := ⟨11, 1⟩) (meth := k11m1) (c := k11c1) (by decide +kernel) rfl rfl rfl (by decide +kernel)
set_option maxRecDepth 65536 in
theorem w_c13 : (Jvm.Cond.code ({ cls := "java/lang/String", name := "length", desc := "()I" } : Jvm.MethodName) jdk_42_method_54_code (1 : Nat) (Option.some Jvm.ClassFile.FieldType.int)).before args0 about1 = true := code_word (m := ⟨7, 3⟩) (meth := k7m3) (c := k7c3) (by decide +kernel) rfl rfl rfl (by decide +kernel)
set_option maxRecDepth 65536 in
theorem w_c14 : (Jvm.Cond.code ({ cls := "java/lang/String", name := "coder", desc := "()B" } : Jvm.MethodName) jdk_42_method_152_code (1 : Nat) (Option.some Jvm.ClassFile.FieldType.byte)).before args0 about1 = true := code_word (m := ⟨7, 10⟩) (meth := k7m10) (c := k7c10) (by decide +kernel) rfl rfl rfl (by decide +kernel)
set_option maxRecDepth 65536 in
theorem w_c15 : (Jvm.Cond.code ({ cls := "java/lang/String", name := "substring", desc := "(II)Ljava/lang/String;" } : Jvm.MethodName) jdk_42_method_92_code (5 : Nat) (Option.some (Jvm.ClassFile.FieldType.object "java/lang/String"))).before args0 about1 = true := code_word (m := ⟨7, 5⟩) (meth := k7m5) (c := k7c5) (by decide +kernel) rfl rfl rfl (by decide +kernel)
set_option maxRecDepth 65536 in
theorem w_c16 : (Jvm.Cond.code ({ cls := "java/lang/String", name := "checkBoundsBeginEnd", desc := "(III)V" } : Jvm.MethodName) jdk_42_method_158_code (3 : Nat) (Option.none : Option Jvm.ClassFile.FieldType)).before args0 about1 = true := code_word (m := ⟨7, 12⟩) (meth := k7m12) (c := k7c12) (by decide +kernel) rfl rfl rfl (by decide +kernel)
set_option maxRecDepth 65536 in
theorem w_c17 : (Jvm.Cond.code ({ cls := "jdk/internal/util/Preconditions", name := "checkFromToIndex", desc := "(IIILjava/util/function/BiFunction;)I" } : Jvm.MethodName) jdk_41_method_12_code (4 : Nat) (Option.some Jvm.ClassFile.FieldType.int)).before args0 about1 = true := code_word (m := ⟨13, 1⟩) (meth := k13m1) (c := k13c1) (by decide +kernel) rfl rfl rfl (by decide +kernel)
set_option maxRecDepth 65536 in
theorem w_c18 : (Jvm.Cond.code ({ cls := "java/lang/String", name := "isLatin1", desc := "()Z" } : Jvm.MethodName) jdk_42_method_154_code (1 : Nat) (Option.some Jvm.ClassFile.FieldType.boolean)).before args0 about1 = true := code_word (m := ⟨7, 11⟩) (meth := k7m11) (c := k7c11) (by decide +kernel) rfl rfl rfl (by decide +kernel)
set_option maxRecDepth 65536 in
theorem w_c19 : (Jvm.Cond.code ({ cls := "java/lang/StringLatin1", name := "newString", desc := "([BII)Ljava/lang/String;" } : Jvm.MethodName) jdk_43_method_47_code (3 : Nat) (Option.some (Jvm.ClassFile.FieldType.object "java/lang/String"))).before args0 about1 = true := code_word (m := ⟨14, 2⟩) (meth := k14m2) (c := k14c2) (by decide +kernel) rfl rfl rfl (by decide +kernel)
set_option maxRecDepth 65536 in
theorem w_c20 : (Jvm.Cond.code ({ cls := "java/util/Arrays", name := "copyOfRange", desc := "([BII)[B" } : Jvm.MethodName) jdk_65_method_132_code (3 : Nat) (Option.some (Jvm.ClassFile.FieldType.array Jvm.ClassFile.FieldType.byte))).before args0 about1 = true := code_word (m := ⟨15, 2⟩) (meth := k15m2) (c := k15c2) (by decide +kernel) rfl rfl rfl (by decide +kernel)
set_option maxRecDepth 65536 in
theorem w_c21 : (Jvm.Cond.code ({ cls := "java/util/Arrays", name := "copyOfRangeByte", desc := "([BII)[B" } : Jvm.MethodName) jdk_65_method_133_code (5 : Nat) (Option.some (Jvm.ClassFile.FieldType.array Jvm.ClassFile.FieldType.byte))).before args0 about1 = true := code_word (m := ⟨15, 3⟩) (meth := k15m3) (c := k15c3) (by decide +kernel) rfl rfl rfl (by decide +kernel)
set_option maxRecDepth 65536 in
theorem w_c22 : (Jvm.Cond.code ({ cls := "java/util/Arrays", name := "checkLength", desc := "(II)V" } : Jvm.MethodName) jdk_65_method_131_code (2 : Nat) (Option.none : Option Jvm.ClassFile.FieldType)).before args0 about1 = true := code_word (m := ⟨15, 1⟩) (meth := k15m1) (c := k15c1) (by decide +kernel) rfl rfl rfl (by decide +kernel)
set_option maxRecDepth 65536 in
theorem w_c23 : (Jvm.Cond.code ({ cls := "java/lang/Math", name := "min", desc := "(II)I" } : Jvm.MethodName) jdk_29_method_69_code (2 : Nat) (Option.some Jvm.ClassFile.FieldType.int)).before args0 about1 = true := code_word (m := ⟨16, 1⟩) (meth := k16m1) (c := k16c1) (by decide +kernel) rfl rfl rfl (by decide +kernel)
set_option maxRecDepth 65536 in
theorem w_c24 : (Jvm.Cond.code ({ cls := "java/lang/String", name := "<init>", desc := "([BB)V" } : Jvm.MethodName) jdk_42_method_151_code (3 : Nat) (Option.none : Option Jvm.ClassFile.FieldType)).before args0 about1 = true := code_word (m := ⟨7, 9⟩) (meth := k7m9) (c := k7c9) (by decide +kernel) rfl rfl rfl (by decide +kernel)
set_option maxRecDepth 65536 in
theorem w_c25 : (Jvm.Cond.code ({ cls := "java/lang/StringBuilder", name := "append", desc := "(Ljava/lang/String;)Ljava/lang/StringBuilder;" } : Jvm.MethodName) jdk_67_method_7_code (2 : Nat) (Option.some (Jvm.ClassFile.FieldType.object "java/lang/StringBuilder"))).before args0 about1 = true := code_word (m := ⟨12, 1⟩) (meth := k12m1) (c := k12c1) (by decide +kernel) rfl rfl rfl (by decide +kernel)
set_option maxRecDepth 65536 in
theorem w_c26 : (Jvm.Cond.code ({ cls := "java/lang/AbstractStringBuilder", name := "append", desc := "(Ljava/lang/String;)Ljava/lang/AbstractStringBuilder;" } : Jvm.MethodName) jdk_68_method_22_code (3 : Nat) (Option.some (Jvm.ClassFile.FieldType.object "java/lang/AbstractStringBuilder"))).before args0 about1 = true := code_word (m := ⟨11, 4⟩) (meth := k11m4) (c := k11c4) (by decide +kernel) rfl rfl rfl (by decide +kernel)
set_option maxRecDepth 65536 in
theorem w_c27 : (Jvm.Cond.code ({ cls := "java/lang/AbstractStringBuilder", name := "ensureCapacityInternal", desc := "(I)V" } : Jvm.MethodName) jdk_68_method_9_code (3 : Nat) (Option.none : Option Jvm.ClassFile.FieldType)).before args0 about1 = true := code_word (m := ⟨11, 3⟩) (meth := k11m3) (c := k11c3) (by decide +kernel) rfl rfl rfl (by decide +kernel)
set_option maxRecDepth 65536 in
theorem w_c28 : (Jvm.Cond.code ({ cls := "java/lang/AbstractStringBuilder", name := "putStringAt", desc := "(ILjava/lang/String;)V" } : Jvm.MethodName) jdk_68_method_73_code (3 : Nat) (Option.none : Option Jvm.ClassFile.FieldType)).before args0 about1 = true := code_word (m := ⟨11, 8⟩) (meth := k11m8) (c := k11c8) (by decide +kernel) rfl rfl rfl (by decide +kernel)
set_option maxRecDepth 65536 in
theorem w_c29 : (Jvm.Cond.code ({ cls := "java/lang/AbstractStringBuilder", name := "inflateIfNeededFor", desc := "(Ljava/lang/String;)V" } : Jvm.MethodName) jdk_68_method_71_code (2 : Nat) (Option.none : Option Jvm.ClassFile.FieldType)).before args0 about1 = true := code_word (m := ⟨11, 7⟩) (meth := k11m7) (c := k11c7) (by decide +kernel) rfl rfl rfl (by decide +kernel)
set_option maxRecDepth 65536 in
theorem w_c30 : (Jvm.Cond.code ({ cls := "java/lang/String", name := "getBytes", desc := "([BIB)V" } : Jvm.MethodName) jdk_42_method_147_code (4 : Nat) (Option.none : Option Jvm.ClassFile.FieldType)).before args0 about1 = true := code_word (m := ⟨7, 6⟩) (meth := k7m6) (c := k7c6) (by decide +kernel) rfl rfl rfl (by decide +kernel)
set_option maxRecDepth 65536 in
theorem w_c31 : (Jvm.Cond.code ({ cls := "java/lang/StringBuilder", name := "toString", desc := "()Ljava/lang/String;" } : Jvm.MethodName) jdk_67_method_42_code (1 : Nat) (Option.some (Jvm.ClassFile.FieldType.object "java/lang/String"))).before args0 about1 = true := code_word (m := ⟨12, 2⟩) (meth := k12m2) (c := k12c2) (by decide +kernel) rfl rfl rfl (by decide +kernel)
set_option maxRecDepth 65536 in
theorem w_c32 : (Jvm.Cond.code ({ cls := "java/lang/String", name := "<init>", desc := "(Ljava/lang/StringBuilder;)V" } : Jvm.MethodName) jdk_42_method_53_code (2 : Nat) (Option.none : Option Jvm.ClassFile.FieldType)).before args0 about1 = true := code_word (m := ⟨7, 2⟩) (meth := k7m2) (c := k7c2) (by decide +kernel) rfl rfl rfl (by decide +kernel)
set_option maxRecDepth 65536 in
theorem w_c33 : (Jvm.Cond.code ({ cls := "java/lang/String", name := "<init>", desc := "(Ljava/lang/AbstractStringBuilder;Ljava/lang/Void;)V" } : Jvm.MethodName) jdk_42_method_150_code (5 : Nat) (Option.none : Option Jvm.ClassFile.FieldType)).before args0 about1 = true := code_word (m := ⟨7, 8⟩) (meth := k7m8) (c := k7c8) (by decide +kernel) rfl rfl rfl (by decide +kernel)
set_option maxRecDepth 65536 in
theorem w_c34 : (Jvm.Cond.code ({ cls := "java/lang/AbstractStringBuilder", name := "getValue", desc := "()[B" } : Jvm.MethodName) jdk_68_method_64_code (1 : Nat) (Option.some (Jvm.ClassFile.FieldType.array Jvm.ClassFile.FieldType.byte))).before args0 about1 = true := code_word (m := ⟨11, 5⟩) (meth := k11m5) (c := k11c5) (by decide +kernel) rfl rfl rfl (by decide +kernel)
set_option maxRecDepth 65536 in
theorem w_c35 : (Jvm.Cond.code ({ cls := "java/lang/StringBuilder", name := "length", desc := "()I" } : Jvm.MethodName) jdk_67_method_93_code (1 : Nat) (Option.some Jvm.ClassFile.FieldType.int)).before args0 about1 = true := code_word (m := ⟨12, 3⟩) (meth := k12m3) (c := k12c3) (by decide +kernel) rfl rfl rfl (by decide +kernel)
set_option maxRecDepth 65536 in
theorem w_c36 : (Jvm.Cond.code ({ cls := "java/lang/AbstractStringBuilder", name := "length", desc := "()I" } : Jvm.MethodName) jdk_68_method_6_code (1 : Nat) (Option.some Jvm.ClassFile.FieldType.int)).before args0 about1 = true := code_word (m := ⟨11, 2⟩) (meth := k11m2) (c := k11c2) (by decide +kernel) rfl rfl rfl (by decide +kernel)
set_option maxRecDepth 65536 in
theorem w_c37 : (Jvm.Cond.code ({ cls := "java/lang/AbstractStringBuilder", name := "isLatin1", desc := "()Z" } : Jvm.MethodName) jdk_68_method_68_code (1 : Nat) (Option.some Jvm.ClassFile.FieldType.boolean)).before args0 about1 = true := code_word (m := ⟨11, 6⟩) (meth := k11m6) (c := k11c6) (by decide +kernel) rfl rfl rfl (by decide +kernel)
set_option maxRecDepth 65536 in
theorem w_c38 : (Jvm.Cond.code ({ cls := "java/lang/String", name := "equals", desc := "(Ljava/lang/Object;)Z" } : Jvm.MethodName) jdk_42_method_66_code (3 : Nat) (Option.some Jvm.ClassFile.FieldType.boolean)).before args0 about1 = true := code_word (m := ⟨7, 4⟩) (meth := k7m4) (c := k7c4) (by decide +kernel) rfl rfl rfl (by decide +kernel)
set_option maxRecDepth 65536 in
theorem w_c39 : (Jvm.Cond.code ({ cls := "java/lang/StringLatin1", name := "equals", desc := "([B[B)Z" } : Jvm.MethodName) jdk_43_method_13_code (3 : Nat) (Option.some Jvm.ClassFile.FieldType.boolean)).before args0 about1 = true := code_word (m := ⟨14, 1⟩) (meth := k14m1) (c := k14c1) (by decide +kernel) rfl rfl rfl (by decide +kernel)
def codes1 : List Jvm.Cond := [Jvm.Cond.code x code maxLocals ret, Jvm.Cond.code ({ cls := "io/dyeline/store/LayoutTagFilePinLaw", name := "putPrefix", desc := "([C)V" } : Jvm.MethodName) method_2_code (1 : Nat) (Option.none : Option Jvm.ClassFile.FieldType), Jvm.Cond.code ({ cls := "io/dyeline/store/LayoutTagFilePinLaw", name := "putStem", desc := "([CICCCCC)V" } : Jvm.MethodName) method_3_code (7 : Nat) (Option.none : Option Jvm.ClassFile.FieldType), Jvm.Cond.code ({ cls := "io/dyeline/store/LayoutTagFilePinLaw", name := "putSuffix", desc := "([CIZ)V" } : Jvm.MethodName) method_4_code (3 : Nat) (Option.none : Option Jvm.ClassFile.FieldType), Jvm.Cond.code ({ cls := "java/lang/String", name := "<init>", desc := "([C)V" } : Jvm.MethodName) jdk_42_method_3_code (2 : Nat) (Option.none : Option Jvm.ClassFile.FieldType), Jvm.Cond.code ({ cls := "java/lang/String", name := "<init>", desc := "([CIILjava/lang/Void;)V" } : Jvm.MethodName) jdk_42_method_149_code (6 : Nat) (Option.none : Option Jvm.ClassFile.FieldType), Jvm.Cond.code ({ cls := "java/lang/Object", name := "<init>", desc := "()V" } : Jvm.MethodName) object_method_1_code (1 : Nat) (Option.none : Option Jvm.ClassFile.FieldType), Jvm.Cond.code ({ cls := "java/lang/StringUTF16", name := "compress", desc := "([CII)[B" } : Jvm.MethodName) jdk_52_method_16_code (6 : Nat) (Option.some (Jvm.ClassFile.FieldType.array Jvm.ClassFile.FieldType.byte)), Jvm.Cond.code ({ cls := "java/lang/StringUTF16", name := "compress", desc := "([CI[BII)I" } : Jvm.MethodName) jdk_52_method_21_code (7 : Nat) (Option.some Jvm.ClassFile.FieldType.int), Jvm.Cond.code ({ cls := "java/lang/StringUTF16", name := "coderFromArrayLen", desc := "([BI)B" } : Jvm.MethodName) jdk_52_method_15_code (2 : Nat) (Option.some Jvm.ClassFile.FieldType.byte), Jvm.Cond.code ({ cls := "io/dyeline/store/Layout", name := "tagFile", desc := "(Ljava/lang/String;)Ljava/lang/String;" } : Jvm.MethodName) prog_8_method_3_code (1 : Nat) (Option.some (Jvm.ClassFile.FieldType.object "java/lang/String")), Jvm.Cond.code ({ cls := "java/lang/StringBuilder", name := "<init>", desc := "()V" } : Jvm.MethodName) jdk_67_method_1_code (1 : Nat) (Option.none : Option Jvm.ClassFile.FieldType), Jvm.Cond.code ({ cls := "java/lang/AbstractStringBuilder", name := "<init>", desc := "(I)V" } : Jvm.MethodName) jdk_68_method_2_code (2 : Nat) (Option.none : Option Jvm.ClassFile.FieldType), Jvm.Cond.code ({ cls := "java/lang/String", name := "length", desc := "()I" } : Jvm.MethodName) jdk_42_method_54_code (1 : Nat) (Option.some Jvm.ClassFile.FieldType.int), Jvm.Cond.code ({ cls := "java/lang/String", name := "coder", desc := "()B" } : Jvm.MethodName) jdk_42_method_152_code (1 : Nat) (Option.some Jvm.ClassFile.FieldType.byte), Jvm.Cond.code ({ cls := "java/lang/String", name := "substring", desc := "(II)Ljava/lang/String;" } : Jvm.MethodName) jdk_42_method_92_code (5 : Nat) (Option.some (Jvm.ClassFile.FieldType.object "java/lang/String")), Jvm.Cond.code ({ cls := "java/lang/String", name := "checkBoundsBeginEnd", desc := "(III)V" } : Jvm.MethodName) jdk_42_method_158_code (3 : Nat) (Option.none : Option Jvm.ClassFile.FieldType), Jvm.Cond.code ({ cls := "jdk/internal/util/Preconditions", name := "checkFromToIndex", desc := "(IIILjava/util/function/BiFunction;)I" } : Jvm.MethodName) jdk_41_method_12_code (4 : Nat) (Option.some Jvm.ClassFile.FieldType.int), Jvm.Cond.code ({ cls := "java/lang/String", name := "isLatin1", desc := "()Z" } : Jvm.MethodName) jdk_42_method_154_code (1 : Nat) (Option.some Jvm.ClassFile.FieldType.boolean), Jvm.Cond.code ({ cls := "java/lang/StringLatin1", name := "newString", desc := "([BII)Ljava/lang/String;" } : Jvm.MethodName) jdk_43_method_47_code (3 : Nat) (Option.some (Jvm.ClassFile.FieldType.object "java/lang/String")), Jvm.Cond.code ({ cls := "java/util/Arrays", name := "copyOfRange", desc := "([BII)[B" } : Jvm.MethodName) jdk_65_method_132_code (3 : Nat) (Option.some (Jvm.ClassFile.FieldType.array Jvm.ClassFile.FieldType.byte)), Jvm.Cond.code ({ cls := "java/util/Arrays", name := "copyOfRangeByte", desc := "([BII)[B" } : Jvm.MethodName) jdk_65_method_133_code (5 : Nat) (Option.some (Jvm.ClassFile.FieldType.array Jvm.ClassFile.FieldType.byte)), Jvm.Cond.code ({ cls := "java/util/Arrays", name := "checkLength", desc := "(II)V" } : Jvm.MethodName) jdk_65_method_131_code (2 : Nat) (Option.none : Option Jvm.ClassFile.FieldType), Jvm.Cond.code ({ cls := "java/lang/Math", name := "min", desc := "(II)I" } : Jvm.MethodName) jdk_29_method_69_code (2 : Nat) (Option.some Jvm.ClassFile.FieldType.int), Jvm.Cond.code ({ cls := "java/lang/String", name := "<init>", desc := "([BB)V" } : Jvm.MethodName) jdk_42_method_151_code (3 : Nat) (Option.none : Option Jvm.ClassFile.FieldType), Jvm.Cond.code ({ cls := "java/lang/StringBuilder", name := "append", desc := "(Ljava/lang/String;)Ljava/lang/StringBuilder;" } : Jvm.MethodName) jdk_67_method_7_code (2 : Nat) (Option.some (Jvm.ClassFile.FieldType.object "java/lang/StringBuilder")), Jvm.Cond.code ({ cls := "java/lang/AbstractStringBuilder", name := "append", desc := "(Ljava/lang/String;)Ljava/lang/AbstractStringBuilder;" } : Jvm.MethodName) jdk_68_method_22_code (3 : Nat) (Option.some (Jvm.ClassFile.FieldType.object "java/lang/AbstractStringBuilder")), Jvm.Cond.code ({ cls := "java/lang/AbstractStringBuilder", name := "ensureCapacityInternal", desc := "(I)V" } : Jvm.MethodName) jdk_68_method_9_code (3 : Nat) (Option.none : Option Jvm.ClassFile.FieldType), Jvm.Cond.code ({ cls := "java/lang/AbstractStringBuilder", name := "putStringAt", desc := "(ILjava/lang/String;)V" } : Jvm.MethodName) jdk_68_method_73_code (3 : Nat) (Option.none : Option Jvm.ClassFile.FieldType), Jvm.Cond.code ({ cls := "java/lang/AbstractStringBuilder", name := "inflateIfNeededFor", desc := "(Ljava/lang/String;)V" } : Jvm.MethodName) jdk_68_method_71_code (2 : Nat) (Option.none : Option Jvm.ClassFile.FieldType), Jvm.Cond.code ({ cls := "java/lang/String", name := "getBytes", desc := "([BIB)V" } : Jvm.MethodName) jdk_42_method_147_code (4 : Nat) (Option.none : Option Jvm.ClassFile.FieldType), Jvm.Cond.code ({ cls := "java/lang/StringBuilder", name := "toString", desc := "()Ljava/lang/String;" } : Jvm.MethodName) jdk_67_method_42_code (1 : Nat) (Option.some (Jvm.ClassFile.FieldType.object "java/lang/String")), Jvm.Cond.code ({ cls := "java/lang/String", name := "<init>", desc := "(Ljava/lang/StringBuilder;)V" } : Jvm.MethodName) jdk_42_method_53_code (2 : Nat) (Option.none : Option Jvm.ClassFile.FieldType), Jvm.Cond.code ({ cls := "java/lang/String", name := "<init>", desc := "(Ljava/lang/AbstractStringBuilder;Ljava/lang/Void;)V" } : Jvm.MethodName) jdk_42_method_150_code (5 : Nat) (Option.none : Option Jvm.ClassFile.FieldType), Jvm.Cond.code ({ cls := "java/lang/AbstractStringBuilder", name := "getValue", desc := "()[B" } : Jvm.MethodName) jdk_68_method_64_code (1 : Nat) (Option.some (Jvm.ClassFile.FieldType.array Jvm.ClassFile.FieldType.byte)), Jvm.Cond.code ({ cls := "java/lang/StringBuilder", name := "length", desc := "()I" } : Jvm.MethodName) jdk_67_method_93_code (1 : Nat) (Option.some Jvm.ClassFile.FieldType.int), Jvm.Cond.code ({ cls := "java/lang/AbstractStringBuilder", name := "length", desc := "()I" } : Jvm.MethodName) jdk_68_method_6_code (1 : Nat) (Option.some Jvm.ClassFile.FieldType.int), Jvm.Cond.code ({ cls := "java/lang/AbstractStringBuilder", name := "isLatin1", desc := "()Z" } : Jvm.MethodName) jdk_68_method_68_code (1 : Nat) (Option.some Jvm.ClassFile.FieldType.boolean), Jvm.Cond.code ({ cls := "java/lang/String", name := "equals", desc := "(Ljava/lang/Object;)Z" } : Jvm.MethodName) jdk_42_method_66_code (3 : Nat) (Option.some Jvm.ClassFile.FieldType.boolean), Jvm.Cond.code ({ cls := "java/lang/StringLatin1", name := "equals", desc := "([B[B)Z" } : Jvm.MethodName) jdk_43_method_13_code (3 : Nat) (Option.some Jvm.ClassFile.FieldType.boolean)]
set_option maxRecDepth 65536 in
theorem codes_eq : words1.filter isCode = codes1 := rfl
theorem w_codes : ∀ c ∈ words1.filter isCode, c.before args0 about1 = true := by
  rw [codes_eq]
  intro c hc
  simp only [codes1, List.mem_cons, List.not_mem_nil, or_false] at hc
  rcases hc with rfl | rfl | rfl | rfl | rfl | rfl | rfl | rfl | rfl | rfl | rfl | rfl | rfl | rfl | rfl | rfl | rfl | rfl | rfl | rfl | rfl | rfl | rfl | rfl | rfl | rfl | rfl | rfl | rfl | rfl | rfl | rfl | rfl | rfl | rfl | rfl | rfl | rfl | rfl | rfl
  · exact w_c0
  · exact w_c1
  · exact w_c2
  · exact w_c3
  · exact w_c4
  · exact w_c5
  · exact w_c6
  · exact w_c7
  · exact w_c8
  · exact w_c9
  · exact w_c10
  · exact w_c11
  · exact w_c12
  · exact w_c13
  · exact w_c14
  · exact w_c15
  · exact w_c16
  · exact w_c17
  · exact w_c18
  · exact w_c19
  · exact w_c20
  · exact w_c21
  · exact w_c22
  · exact w_c23
  · exact w_c24
  · exact w_c25
  · exact w_c26
  · exact w_c27
  · exact w_c28
  · exact w_c29
  · exact w_c30
  · exact w_c31
  · exact w_c32
  · exact w_c33
  · exact w_c34
  · exact w_c35
  · exact w_c36
  · exact w_c37
  · exact w_c38
  · exact w_c39
set_option maxRecDepth 65536 in
theorem w_t1 : (words1.take 24).all (fun c => isCode c || c.before args0 about1) = true := by decide +kernel
set_option maxRecDepth 65536 in
theorem w_t2 : ((words1.drop 24).take 24).all (fun c => isCode c || c.before args0 about1) = true := by decide +kernel
set_option maxRecDepth 65536 in
theorem w_t3 : (((words1.drop 24).drop 24).take 24).all (fun c => isCode c || c.before args0 about1) = true := by decide +kernel
set_option maxRecDepth 65536 in
theorem w_t4 : ((((words1.drop 24).drop 24).drop 24).take 24).all (fun c => isCode c || c.before args0 about1) = true := by decide +kernel
set_option maxRecDepth 65536 in
theorem w_t5 : (((((words1.drop 24).drop 24).drop 24).drop 24).take 24).all (fun c => isCode c || c.before args0 about1) = true := by decide +kernel
set_option maxRecDepth 65536 in
theorem w_t6 : ((((((words1.drop 24).drop 24).drop 24).drop 24).drop 24).take 24).all (fun c => isCode c || c.before args0 about1) = true := by decide +kernel
set_option maxRecDepth 65536 in
theorem w_t7 : (((((((words1.drop 24).drop 24).drop 24).drop 24).drop 24).drop 24).take 24).all (fun c => isCode c || c.before args0 about1) = true := by decide +kernel
set_option maxRecDepth 65536 in
theorem w_t8 : ((((((((words1.drop 24).drop 24).drop 24).drop 24).drop 24).drop 24).drop 24).take 24).all (fun c => isCode c || c.before args0 about1) = true := by decide +kernel
set_option maxRecDepth 65536 in
theorem w_t9 : ((((((((words1.drop 24).drop 24).drop 24).drop 24).drop 24).drop 24).drop 24).drop 24).all (fun c => isCode c || c.before args0 about1) = true := by decide +kernel
theorem w_tables : (allAtoms (Jvm.Cond.code x code maxLocals ret :: tables_1)).before args0 about1 = true := by
  rw [allAtoms_all]
  show words1.all (fun c => c.before args0 about1) = true
  refine all_split ?_ w_codes
  rw [← List.take_append_drop 24 words1, List.all_append, w_t1, ← List.take_append_drop 24 (words1.drop 24), List.all_append, w_t2, ← List.take_append_drop 24 ((words1.drop 24).drop 24), List.all_append, w_t3, ← List.take_append_drop 24 (((words1.drop 24).drop 24).drop 24), List.all_append, w_t4, ← List.take_append_drop 24 ((((words1.drop 24).drop 24).drop 24).drop 24), List.all_append, w_t5, ← List.take_append_drop 24 (((((words1.drop 24).drop 24).drop 24).drop 24).drop 24), List.all_append, w_t6, ← List.take_append_drop 24 ((((((words1.drop 24).drop 24).drop 24).drop 24).drop 24).drop 24), List.all_append, w_t7, ← List.take_append_drop 24 (((((((words1.drop 24).drop 24).drop 24).drop 24).drop 24).drop 24).drop 24), List.all_append, w_t8, w_t9]
  rfl
set_option maxRecDepth 65536 in
theorem w_rest : rest_1_c.before args0 about1 = true := by decide +kernel
set_option maxRecDepth 65536 in
theorem w_case : (Jvm.Cond.and given_1 narrow_1).before args0 about1 = true := by decide +kernel
set_option maxRecDepth 65536 in
theorem w_consts : constsHeld consts_1 about1 := Jvm.Lit.constsHeldB_iff.mp (by decide +kernel)
theorem w_applies : (headSpec (Jvm.Cond.code x code maxLocals ret :: tables_1) room_1).applies x e0.platform about1 = true :=
  (Spec.applies_iff w_frames).mpr ⟨w_running, w_runnable, w_alone, w_named, w_hears, w_ripe, w_room, w_tables⟩
theorem atStart : AtStart classFile x code maxLocals ret World_1 tables_1 room_1 Calls_1 rest_1 Pre_1 launch0 p0 e0 about1 theMethod args0 below0 :=
  ⟨lists_1, trivial, launch0.admits_env _ _ _, launch0.least_env, fairChoices_fair.cas, fairChoices_fair.clock, w_frames, w_args, w_heap, w_applies, ⟨w_consts, trivial⟩, w_rest, w_case⟩
end start1
theorem witness_1 : WitnessClaimed_1 := ⟨start1.p0, start1.e0, start1.about1, start1.theMethod, start1.args0, start1.below0, start1.atStart⟩
end Jvm.Pilot.@@N@@
