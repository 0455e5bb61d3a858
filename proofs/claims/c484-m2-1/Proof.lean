import JvmDerived
import JvmDerived.Pilot.@@N@@Statement
import JvmDerived.Pilot.@@N@@Code
set_option linter.unusedVariables false
set_option linter.unusedSimpArgs false
namespace Jvm.RoadKit
open Sem ClassFile Op Lib Jvm.Stand Jvm.Free Jvm.LawKit
section New
variable {p : Program} {l : Launch} {e : Env} {R : Room} {s : State} {m : MethodId} {args : Array Value} {below : List Frame} {meth : Method} {c : Code} {T : State} {locs : List Loc} {cells slots : Nat}
theorem retI (X : Stand p l e R s m args below meth c T locs cells slots) (hx : p.tables.exec = Jvm.exec) {pc : Nat} {Ls : Array Slot} {z : Int32} {rest : List Value} (hret : meth.sig.returnType = some .int) (hd : decode c.code pc = .ok (.ireturn, 1)) {fs : List Frame}
    (hl : ∀ (f : JFrame) (acts : List Action), f.method = m → f.locked = none → f.entered = [] → (doReturn e (T.setTop f) acts (some (.int z))).1 = T.setFrames fs) : Steps p.tables e below (T.setTop (mkF m pc Ls (.int z :: rest))) (T.setFrames fs) := by
  have hm' : T.vm.method? m = some meth := X.method'
  have hn : narrow .int (.int z) = .int z := rfl
  show Steps p.tables e below (T.setTop { method := m, pc := pc, locals := Ls, stack := _ :: rest, locked := none }) _
  jvm_step X.here [X.here.top, hx, hd, hm', hret, hn]
  first | (intro acts; rw [hl _ acts rfl rfl rfl]) | rw [hl _ _ rfl rfl rfl]
  exact Steps.refl _
theorem seg (X : Stand p l e R s m args below meth c T locs cells slots) (P : State → Prop) (h : ∃ T', Stand p l e R s m args below meth c T' locs cells slots ∧ P T') : ∃ T', Stand p l e R s m args below meth c T' locs cells slots ∧ P T' := h
/-- int to char -/
def i2c (x : Int32) : Int32 := x.toUInt32.toUInt16.toUInt32.toInt32
/-- int to byte -/
def own_lo (x : Int32) : Int32 := x.toInt8.toInt32
/-- the unsigned shift of an int -/
def ushr (x y : Int32) : Int32 := (x.toUInt32 >>> (y &&& 31).toUInt32).toInt32
/-- the unsigned shift of a long -/
def ushrJ (x : Int64) (y : Int32) : Int64 := (x.toUInt64 >>> (y &&& 0x3f).toInt64.toUInt64).toInt64
end New
end Jvm.RoadKit
namespace Jvm.Pilot.@@N@@
open Jvm Jvm.ClassFile Sem Op Lib Jvm.Free Jvm.Stand Jvm.LawKit Jvm.RoadKit Bundle Jvm.Pilot.@@N@@.Jvm.D
theorem own_declares {Z : State} {a0 : Array Value} {y : MethodName} {bytes : ByteArray} {mx : Nat} {r : Option FieldType} (w1 : (Jvm.Cond.instanceMethod y).before a0 Z = true) (w2 : (Jvm.Cond.code y bytes mx r).before a0 Z = true) : (Jvm.Cond.declares y).before a0 Z = true := by
  obtain ⟨mk, meth, h1, h2, h3, -⟩ := Cond.instanceMethod_spec w1
  obtain ⟨meth', c, q1, -, -, -, -, -, -, q2⟩ := Cond.code_spec h1 w2
  cases h2.symm.trans q1
  simp [Cond.before, Cond.holds, Cond.value, h1, h2, h3, q2]
/-- the class of a method that an object selects is no interface -/
theorem own_nf {Z : State} {a0 : Array Value} {y z : MethodName} {C : String} (hz : z.cls = y.cls) (w : (Jvm.Cond.selects C z z).before a0 Z = true) : ∀ r, Z.methodNamed? y = some r → ∃ k, Z.vm.classes[r.cls]? = some k ∧ k.isInterface = false := fun r hr => by
  obtain ⟨c, r2, m2, -, -, q3, -, kP, hkP, hkPi⟩ := Cond.selects_spec w
  have h1 := findClass_of_methodNamed q3
  have h2 := findClass_of_methodNamed hr
  rw [hz, h2] at h1
  rw [Option.some.inj h1]
  exact ⟨kP, hkP, hkPi⟩
/-- a method that its class declares itself is the one that the look-up finds -/
theorem own_same {Z : State} {a0 : Array Value} {y : MethodName} (w1 : (Jvm.Cond.instanceMethod y).before a0 Z = true) (w2 : ∀ r, Z.methodNamed? y = some r → ∃ k, Z.vm.classes[r.cls]? = some k ∧ k.isInterface = false) (hy : y.cls ≠ "java/lang/invoke/MethodHandle" ∧ y.cls ≠ "java/lang/invoke/VarHandle") : (Jvm.Cond.sameMethod y.cls y.cls y.name y.desc).before a0 Z = true := by
  obtain ⟨mk, meth, h1, -⟩ := Cond.instanceMethod_spec w1
  have hc := findClass_of_methodNamed h1
  obtain ⟨k, hk, hi⟩ := w2 mk h1
  have hf := State.methodFound?_of_named h1 hy
  have hk' : Z.vm.classes[mk.cls]? = some k := hk
  simp [Cond.before, Cond.holds, Cond.value, hc, hf, h1, hk', hi]
theorem own_eqR {Z : State} {args : Array Value} {X F : Term} {a : Addr} (hF : F.eval args Z none [] Z = some (.ref a)) (h : (Jvm.Cond.eq X F).value args Z none Z [] = some true) : X.eval args Z none [] Z = some (.ref a) := by
  obtain ⟨x, y, e1, e2, k1, k2⟩ := cmp_v (Or.inl h)
  cases hF.symm.trans e2
  have hx : x.isRef = true := k2.2
  have := gotT (eq_R e1 hF hx rfl) h
  rw [e1, this]
theorem own_arr2 {Z : State} {args : Array Value} {t u1 u2 : Term} {a b1 b2 : Addr} {cl : Cell} {C : String} (hf : Fit Z) (A : Arr Z Z.heap a cl (.object C)) (et : t.eval args Z none [] Z = some (.ref a))
    (hl : (Jvm.Cond.eq (.length t) (.int 2)).value args Z none Z [] = some true) (h1 : (Jvm.Cond.eq (.elem t (.int 0)) u1).value args Z none Z [] = some true) (h2 : (Jvm.Cond.eq (.elem t (.int 1)) u2).value args Z none Z [] = some true)
    (e1 : u1.eval args Z none [] Z = some (.ref b1)) (e2 : u2.eval args Z none [] Z = some (.ref b2)) : Arv Z Z.heap a cl.cls (.object C) 2 [.ref b1, .ref b2] .null := by
  have l1 := eqv_i (Term.int_eval 2) hl
  have a1 := elem_in (own_eqR e1 h1) et (Term.int_eval 0) A.1
  have a2 := elem_in (own_eqR e2 h2) et (Term.int_eval 1) A.1
  have q : cl.slots.size < 2 ^ 31 ∧ cl.slots.size.toInt32 = 2 := by
    obtain ⟨a', cell, ha', hat, hv⟩ := Term.length_spec l1
    cases et.symm.trans ha'
    obtain ⟨hc, -⟩ := State.arrayAt?_spec hat
    cases hc.symm.trans A.1
    refine ⟨?_, (Value.int.inj hv).symm⟩
    simp only [Term.eval, et, hat, Option.bind_eq_bind, Option.bind_some] at l1
    by_cases hn : cl.slots.size < 2147483648
    · exact hn
    · rw [if_neg hn] at l1; cases l1
  exact Arv.start hf A q.1 q.2 (by decide) rfl ⟨a1.2, a2.2, trivial⟩
theorem pn_com_example_sieb_sieb_format_FilterKind : plainName "com/example/sieb/sieb/format/FilterKind" = true := by first | (simp [plainName, overriddenIn]; done) | decide +kernel
theorem d_prog_13_method_1_0 : decode prog_13_method_1_code 0 = .ok (.getstatic 10, 3) := by decide +kernel
theorem d_prog_13_method_1_3 : decode prog_13_method_1_code 3 = .ok (.invokevirtual 14, 3) := by decide +kernel
theorem d_prog_13_method_1_6 : decode prog_13_method_1_code 6 = .ok (.checkcast 15, 3) := by decide +kernel
theorem d_prog_13_method_1_9 : decode prog_13_method_1_code 9 = .ok (.areturn, 1) := by decide +kernel
theorem ef_rmVals (m : MethodId)  : entryFrame m #[] 0 = mkF m 0 #[] [] := by first | (simp [entryFrame, mkF, argsToLocals, Value.category]; done) | rfl
def Q_rmVals (Z : State) (va : Addr) (pl : Addr) (co : Addr) (kv : ClassId) (h0 : Heap) (n0 : Nat) (v : Option Value) (h : Heap) (L : List Loc) : Prop := ∃ (na : Addr), (v = some (.ref na)) ∧ (Fr n0 L) ∧ (Keep h0 h []) ∧ (Arv Z h na kv (.object "com/example/sieb/sieb/format/FilterKind") (2 : Int32) [.ref pl, .ref co] .null)
set_option maxRecDepth 65536 in
set_option maxHeartbeats 40000000 in
theorem rmVals (l : Launch) (Z : State) (a0 : Array Value) (hw : ∀ d ∈ tables_1, d.before a0 Z = true) (ws : List Jvm.Cond) (va : Addr) (pl : Addr) (co : Addr) (kv : ClassId) (h0 : Heap) (n0 : Nat) (Z0 : n0 ≤ h0.size) (I1 : Sta Z Z.heap "com/example/sieb/sieb/format/FilterKind" "$VALUES" "[Lcom/example/sieb/sieb/format/FilterKind;" (.ref va)) (I2 : Exa Z Z.heap va "[Lcom/example/sieb/sieb/format/FilterKind;") (I3 : Arv Z Z.heap va kv (.object "com/example/sieb/sieb/format/FilterKind") (2 : Int32) [.ref pl, .ref co] .null) (OX : Old Z n0 h0) :
    MetFree l (⟨"com/example/sieb/sieb/format/FilterKind", "values", "()[Lcom/example/sieb/sieb/format/FilterKind;"⟩ : MethodName) (head1 (Jvm.Cond.code (⟨"com/example/sieb/sieb/format/FilterKind", "values", "()[Lcom/example/sieb/sieb/format/FilterKind;"⟩ : MethodName) prog_13_method_1_code 0 (some (.array (.object "com/example/sieb/sieb/format/FilterKind"))) :: ws) ({ frames := 1, cells := 1, slots := 2, locals := 14 } : Room)) (fun a U => a = #[] ∧ Z.Warmed39 U.vm ∧ U.heap = h0) (fun _ _ _ _ _ => True) (fun _ U o U' => ∃ v L, o = .returned v ∧ Q_rmVals Z va pl co kv h0 n0 v U'.heap L ∧ FrameEnd U o U' L ({ frames := 1, cells := 1, slots := 2, locals := 14 } : Room).cells ({ frames := 1, cells := 1, slots := 2, locals := 14 } : Room).slots) := by
  refine MetFree.of_bodySF (plainFor_of_name pn_com_example_sieb_sieb_format_FilterKind) hisR ?_
  intro p e s m args below meth c s₁ Bd hml0 hP hK
  obtain ⟨rfl, hZ, hh⟩ := hP
  have hx := Bd.exec
  have hby := Bd.bytes
  have hml : c.maxLocals = 0 := hml0
  have hown : s.vm.findClass "com/example/sieb/sieb/format/FilterKind" = some m.cls := findClass_of_methodNamed Bd.named
  have hnm := (name_of_methodNamed Bd.named Bd.method).1
  have X0 : Stand p l e ({ frames := 1, cells := 1, slots := 2, locals := 14 } : Room) s m #[] below meth c s₁ [] 0 0 := Stand.of_body Bd
  have e0 : s₁.heap = h0 := by rw [← hh, Bd.state]; rfl
  have N0 := Fr.nil n0
  have pre0 : ∀ t_, Steps p.tables e below (s₁.setTop (mkF m 0 #[] [])) t_ → Steps p.tables e below (s₁.setTop (entryFrame m #[] 0)) t_ := fun t_ k_ => castTop (ef_rmVals m ) k_
  obtain ⟨T1, X1, e1, st1⟩ := getS2 X0 hx hZ hown (host := "") (Or.inl (hw _ (List.mem_of_getElem? (i := 7) rfl))) Via.refl e0 (I1.ext OX.2) (g := (mkF m 0 #[] [])) rfl (hb hby d_prog_13_method_1_0)
  obtain ⟨T2, h2, X2, e2, E2, A2, G2, st2⟩ := cloneH X1 hx hZ hown (hw _ (List.mem_of_getElem? (i := 9) rfl)) (hw _ (List.mem_of_getElem? (i := 10) rfl)) (hw _ (List.mem_of_getElem? (i := 14) rfl)) (hw _ (List.mem_of_getElem? (i := 12) rfl)) (hw _ (List.mem_of_getElem? (i := 13) rfl)) (hw _ (List.mem_of_getElem? (i := 15) rfl)) e1 (Arv.arh (I3.ext OX.2)) (I2.ext OX.2) (g := (mkF m 3 #[] [(.ref va)])) rfl (by rw [hml]; rfl) rfl (hb hby d_prog_13_method_1_3) (by decide) (W := 0) (cap := 2) (by show 2 * 0 + _ ≤ _; exact Nat.le_of_eq rfl) (by decide) (by decide) (by decide) (by decide)
  obtain ⟨b2, g2⟩ : ∃ z, z = h0.size := ⟨_, rfl⟩
  rw [← g2] at A2 G2 st2
  have z3 : h0.size ≤ h2.size := E2.1
  have l2 : b2 < h2.size := G2.lt
  have V2 : Arv Z h2 b2 kv (.object "com/example/sieb/sieb/format/FilterKind") (2 : Int32) [.ref pl, .ref co] .null := A2
  obtain ⟨T4, X4, e4, st4⟩ := castY X2 hx hZ hown (hw _ (List.mem_of_getElem? (i := 19) rfl)) e2 (Ins.self G2) (g := (mkF m 6 #[] [(.ref b2)])) rfl rfl (hb hby d_prog_13_method_1_6)
  have s5 : ∀ t_, Steps p.tables e below (T4.setTop (mkF m 9 #[] [(.ref b2)])) t_ → Steps p.tables e below (s₁.setTop (entryFrame m #[] 0)) t_ := fun t_ k_ => pre0 t_ (by
    show Steps p.tables e below (s₁.setTop (mkF m 0 #[] [])) t_
    refine st1 _ ?_
    show Steps p.tables e below (T1.setTop (mkF m 3 #[] [(.ref va)])) _
    refine st2 _ ?_
    show Steps p.tables e below (T2.setTop (mkF m 6 #[] [(.ref b2)])) _
    refine st4 _ ?_
    show Steps p.tables e below (T4.setTop (mkF m 9 #[] [(.ref b2)])) _
    show Steps p.tables e below (T4.setTop (mkF m 9 #[] [(.ref b2)])) t_
    exact k_)
  obtain ⟨fs, hr, hrun, hended, hW, hsame⟩ := X4.leave (v := some (.ref b2)) (fun h => by rw [Bd.returns] at h; cases h)
  refine ⟨_, _, s5 _ ?_, hrun, hended, _, _, rfl, ?_, ⟨_, rfl⟩, hW, hsame.mono (by decide) (by decide)⟩
  · show Steps p.tables e below (T4.setTop (mkF m 9 #[] [(.ref b2)])) _
    jvm_step X4.here [X4.here.top, hx, (hb hby d_prog_13_method_1_9), X4.method', Bd.returns, Value.isRef, FieldType.isReference]
    first | (intro acts; rw [hr _ acts rfl rfl rfl]) | rw [hr _ _ rfl rfl rfl]
    exact Steps.refl _
  · show Q_rmVals Z _ _ _ _ h0 n0 _ T4.heap _
    rw [e4]
    exact ⟨b2, rfl, N0, ((Keep.refl h0 []).ext E2), V2⟩
theorem pd____Lcom_example_sieb_sieb_format_FilterKind_ : parseMethodDescriptor "()[Lcom/example/sieb/sieb/format/FilterKind;" = some ⟨[], some (.array (.object "com/example/sieb/sieb/format/FilterKind"))⟩ := by decide +kernel
theorem d_prog_13_method_8_0 : decode prog_13_method_8_code 0 = .ok (.invokestatic 43, 3) := by decide +kernel
theorem d_prog_13_method_8_3 : decode prog_13_method_8_code 3 = .ok (.astore_n 1, 1) := by decide +kernel
theorem d_prog_13_method_8_4 : decode prog_13_method_8_code 4 = .ok (.aload_n 1, 1) := by decide +kernel
theorem d_prog_13_method_8_5 : decode prog_13_method_8_code 5 = .ok (.arraylength, 1) := by decide +kernel
theorem d_prog_13_method_8_6 : decode prog_13_method_8_code 6 = .ok (.istore_n 2, 1) := by decide +kernel
theorem d_prog_13_method_8_7 : decode prog_13_method_8_code 7 = .ok (.iconst 0, 1) := by decide +kernel
theorem d_prog_13_method_8_8 : decode prog_13_method_8_code 8 = .ok (.istore_n 3, 1) := by decide +kernel
theorem d_prog_13_method_8_9 : decode prog_13_method_8_code 9 = .ok (.iload_n 3, 1) := by decide +kernel
theorem d_prog_13_method_8_10 : decode prog_13_method_8_code 10 = .ok (.iload_n 2, 1) := by decide +kernel
theorem d_prog_13_method_8_11 : decode prog_13_method_8_code 11 = .ok (.if_icmp .ge 26, 3) := by decide +kernel
theorem d_prog_13_method_8_14 : decode prog_13_method_8_code 14 = .ok (.aload_n 1, 1) := by decide +kernel
theorem d_prog_13_method_8_15 : decode prog_13_method_8_code 15 = .ok (.iload_n 3, 1) := by decide +kernel
theorem d_prog_13_method_8_16 : decode prog_13_method_8_code 16 = .ok (.aaload, 1) := by decide +kernel
theorem d_prog_13_method_8_17 : decode prog_13_method_8_code 17 = .ok (.astore 4, 2) := by decide +kernel
theorem d_prog_13_method_8_19 : decode prog_13_method_8_code 19 = .ok (.aload 4, 2) := by decide +kernel
theorem d_prog_13_method_8_21 : decode prog_13_method_8_code 21 = .ok (.getfield 29, 3) := by decide +kernel
theorem d_prog_13_method_8_24 : decode prog_13_method_8_code 24 = .ok (.iload_n 0, 1) := by decide +kernel
theorem d_prog_13_method_8_25 : decode prog_13_method_8_code 25 = .ok (.if_icmp .ne 6, 3) := by decide +kernel
theorem d_prog_13_method_8_28 : decode prog_13_method_8_code 28 = .ok (.aload 4, 2) := by decide +kernel
theorem d_prog_13_method_8_30 : decode prog_13_method_8_code 30 = .ok (.areturn, 1) := by decide +kernel
theorem d_prog_13_method_8_31 : decode prog_13_method_8_code 31 = .ok (.iinc 3 1, 3) := by decide +kernel
theorem d_prog_13_method_8_34 : decode prog_13_method_8_code 34 = .ok (.goto (-25), 3) := by decide +kernel
theorem d_prog_13_method_8_37 : decode prog_13_method_8_code 37 = .ok (.aconst_null, 1) := by decide +kernel
theorem d_prog_13_method_8_38 : decode prog_13_method_8_code 38 = .ok (.areturn, 1) := by decide +kernel
theorem ef_rmFrom (m : MethodId) (x0 : Int32) : entryFrame m #[(.int x0)] 5 = mkF m 0 #[.val (.int x0), .unset, .unset, .unset, .unset] [] := by first | (simp [entryFrame, mkF, argsToLocals, Value.category]; done) | rfl
def Q_rmFrom (Z : State) (cd : Int32) (va : Addr) (pl : Addr) (co : Addr) (kv : ClassId) (h0 : Heap) (n0 : Nat) (v : Option Value) (h : Heap) (L : List Loc) : Prop := (v = some (if (1 : Int32) = cd then .ref pl else (if (2 : Int32) = cd then .ref co else .null))) ∧ (Fr n0 L) ∧ (Keep h0 h [])
set_option maxRecDepth 65536 in
set_option maxHeartbeats 40000000 in
theorem rmFrom (l : Launch) (Z : State) (a0 : Array Value) (hw : ∀ d ∈ tables_1, d.before a0 Z = true) (ws : List Jvm.Cond) (cd : Int32) (va : Addr) (pl : Addr) (co : Addr) (kv : ClassId) (h0 : Heap) (n0 : Nat) (Z0 : n0 ≤ h0.size) (I1 : Sta Z Z.heap "com/example/sieb/sieb/format/FilterKind" "$VALUES" "[Lcom/example/sieb/sieb/format/FilterKind;" (.ref va)) (I2 : Exa Z Z.heap va "[Lcom/example/sieb/sieb/format/FilterKind;") (I3 : Arv Z Z.heap va kv (.object "com/example/sieb/sieb/format/FilterKind") (2 : Int32) [.ref pl, .ref co] .null) (I4 : Fld Z Z.heap pl "com/example/sieb/sieb/format/FilterKind" "code" "I" (.int (1 : Int32))) (I5 : Fld Z Z.heap co "com/example/sieb/sieb/format/FilterKind" "code" "I" (.int (2 : Int32))) (OX : Old Z n0 h0) :
    MetFree l (⟨"com/example/sieb/sieb/format/FilterKind", "fromCode", "(I)Lcom/example/sieb/sieb/format/FilterKind;"⟩ : MethodName) (head1 (Jvm.Cond.code (⟨"com/example/sieb/sieb/format/FilterKind", "fromCode", "(I)Lcom/example/sieb/sieb/format/FilterKind;"⟩ : MethodName) prog_13_method_8_code 5 (some (.object "com/example/sieb/sieb/format/FilterKind")) :: ws) ({ frames := 2, cells := 1, slots := 2, locals := 25 } : Room)) (fun a U => a = #[(.int cd)] ∧ Z.Warmed39 U.vm ∧ U.heap = h0) (fun _ _ _ _ _ => True) (fun _ U o U' => ∃ v L, o = .returned v ∧ Q_rmFrom Z cd va pl co kv h0 n0 v U'.heap L ∧ FrameEnd U o U' L ({ frames := 2, cells := 1, slots := 2, locals := 25 } : Room).cells ({ frames := 2, cells := 1, slots := 2, locals := 25 } : Room).slots) := by
  refine MetFree.of_bodySF (plainFor_of_name pn_com_example_sieb_sieb_format_FilterKind) hisR ?_
  intro p e s m args below meth c s₁ Bd hml0 hP hK
  obtain ⟨rfl, hZ, hh⟩ := hP
  have hx := Bd.exec
  have hby := Bd.bytes
  have hml : c.maxLocals = 5 := hml0
  have hown : s.vm.findClass "com/example/sieb/sieb/format/FilterKind" = some m.cls := findClass_of_methodNamed Bd.named
  have hnm := (name_of_methodNamed Bd.named Bd.method).1
  have X0 : Stand p l e ({ frames := 2, cells := 1, slots := 2, locals := 25 } : Room) s m #[(.int cd)] below meth c s₁ [] 0 0 := Stand.of_body Bd
  have e0 : s₁.heap = h0 := by rw [← hh, Bd.state]; rfl
  have N0 := Fr.nil n0
  have pre0 : ∀ t_, Steps p.tables e below (s₁.setTop (mkF m 0 #[.val (.int cd), .unset, .unset, .unset, .unset] [])) t_ → Steps p.tables e below (s₁.setTop (entryFrame m #[(.int cd)] 5)) t_ := fun t_ k_ => castTop (ef_rmFrom m cd) k_
  have Zc1 : n0 ≤ h0.size := by omega
  obtain ⟨_, _, ⟨T2, L2, k2, n2⟩, -, X2, ⟨Lc2, hQ2, l2, y2, z2⟩, st2⟩ := Jvm.LawKit.callS X0 hx (y := (⟨"com/example/sieb/sieb/format/FilterKind", "values", "()[Lcom/example/sieb/sieb/format/FilterKind;"⟩ : MethodName)) hown (mvT hZ (hw _ (List.mem_of_getElem? (i := 4) rfl))) (mvT hZ (hw _ (List.mem_of_getElem? (i := 5) rfl))) (mvT hZ (hw _ (List.mem_of_getElem? (i := 2) rfl))) (mvT hZ (hw _ (List.mem_of_getElem? (i := 6) rfl))) (by decide) (backOf (W := 0) (rmVals l Z a0 hw [] va pl co kv h0 n0 Zc1 I1 I2 I3 OX) hZ (hw _ (List.mem_of_getElem? (i := 6) rfl)) (hw _ (List.mem_of_getElem? (i := 2) rfl)) (by decide) (by decide)) (g := (mkF m 0 #[.val (.int cd), .unset, .unset, .unset, .unset] [])) rfl (by rw [hml]; rfl) (argsL := []) (rest := []) (lenOf pd____Lcom_example_sieb_sieb_format_FilterKind_ rfl) rfl (by show 2 * 0 + _ ≤ _; exact Nat.le_of_eq rfl) (hb hby d_prog_13_method_8_0) (fun _ _ => ⟨rfl, e0, (by decide : 0 + 1 ≤ _), (by decide : 0 + 2 ≤ _)⟩)
  dsimp only [Pt.U, Pt.locs, Pt.cells, Pt.slots] at X2 l2 y2 z2 st2 hQ2
  subst l2 y2 z2
  obtain ⟨na_2, rfl, N2q, K2, Fq2_0⟩ := hQ2
  have N2 := Fr.app N0 N2q
  obtain ⟨h2, e2⟩ : ∃ z, T2.heap = z := ⟨_, rfl⟩
  rw [e2] at K2 Fq2_0
  have z3 : h0.size ≤ h2.size := K2.1
  have lt2_0 := Fq2_0.lt
  obtain ⟨cl4, Ar4, -, S4, M4, -, -⟩ := id Fq2_0
  obtain ⟨cl5, Ar5, -, S5, M5, H5, -⟩ := id Fq2_0
  have hin5 : ¬ ((0 : Int32) < 0 ∨ cl5.slots.size ≤ ((0 : Int32)).toNatClampNeg) := inb_of S5 ⟨by decide, by decide⟩
  have hat5 : cl5.slots[((0 : Int32)).toNatClampNeg]? = some (.ref pl) := H5.at hin5 (rfl)
  have O6 : Old Z n0 h2 := (OX.keep K2 all0)
  obtain ⟨T7, X7, e7, st7⟩ := getF X2 hx hZ hown (host := "") (Or.inl (hw _ (List.mem_of_getElem? (i := 21) rfl))) Via.refl e2 (I4.ext O6.2) (g := (mkF m 21 #[.val (.int cd), .val (.ref na_2), .val (.int (2 : Int32)), .val (.int (0 : Int32)), .val (.ref pl)] [(.ref pl)])) rfl rfl (hb hby d_prog_13_method_8_21)
  have s8 : ∀ t_, Steps p.tables e below (T7.setTop (mkF m 25 #[.val (.int cd), .val (.ref na_2), .val (.int (2 : Int32)), .val (.int (0 : Int32)), .val (.ref pl)] [(.int cd), (.int (1 : Int32))])) t_ → Steps p.tables e below (s₁.setTop (entryFrame m #[(.int cd)] 5)) t_ := fun t_ k_ => pre0 t_ (by
    show Steps p.tables e below (s₁.setTop (mkF m 0 #[.val (.int cd), .unset, .unset, .unset, .unset] [])) t_
    refine st2 _ ?_
    show Steps p.tables e below (T2.setTop (mkF m 3 #[.val (.int cd), .unset, .unset, .unset, .unset] [(.ref na_2)])) _
    refine XS.astoreN X2.here hx rfl (hb hby d_prog_13_method_8_3) rfl rfl (l' := #[.val (.int cd), .val (.ref na_2), .unset, .unset, .unset]) rfl ?_
    show Steps p.tables e below (T2.setTop (mkF m 4 #[.val (.int cd), .val (.ref na_2), .unset, .unset, .unset] [])) _
    refine XS.aloadN X2.here hx rfl (hb hby d_prog_13_method_8_4) rfl rfl ?_
    show Steps p.tables e below (T2.setTop (mkF m 5 #[.val (.int cd), .val (.ref na_2), .unset, .unset, .unset] [(.ref na_2)])) _
    refine X2.arraylength hx (by rw [e2]; exact Ar4.1) (State.isArrayOf_alike hZ.alike Ar4.2.1) (g := (mkF m 5 #[.val (.int cd), .val (.ref na_2), .unset, .unset, .unset] [(.ref na_2)])) rfl rfl (hb hby d_prog_13_method_8_5) _ ?_
    rw [len_of S4 M4]
    show Steps p.tables e below (T2.setTop (mkF m 6 #[.val (.int cd), .val (.ref na_2), .unset, .unset, .unset] [(.int (2 : Int32))])) _
    refine XS.istoreN X2.here hx rfl (hb hby d_prog_13_method_8_6) rfl (l' := #[.val (.int cd), .val (.ref na_2), .val (.int (2 : Int32)), .unset, .unset]) rfl ?_
    show Steps p.tables e below (T2.setTop (mkF m 7 #[.val (.int cd), .val (.ref na_2), .val (.int (2 : Int32)), .unset, .unset] [])) _
    refine XS.iconst X2.here hx rfl (hb hby d_prog_13_method_8_7) ?_
    show Steps p.tables e below (T2.setTop (mkF m 8 #[.val (.int cd), .val (.ref na_2), .val (.int (2 : Int32)), .unset, .unset] [(.int (0 : Int32))])) _
    refine XS.istoreN X2.here hx rfl (hb hby d_prog_13_method_8_8) rfl (l' := #[.val (.int cd), .val (.ref na_2), .val (.int (2 : Int32)), .val (.int (0 : Int32)), .unset]) rfl ?_
    show Steps p.tables e below (T2.setTop (mkF m 9 #[.val (.int cd), .val (.ref na_2), .val (.int (2 : Int32)), .val (.int (0 : Int32)), .unset] [])) _
    refine XS.iloadN X2.here hx rfl (hb hby d_prog_13_method_8_9) rfl ?_
    show Steps p.tables e below (T2.setTop (mkF m 10 #[.val (.int cd), .val (.ref na_2), .val (.int (2 : Int32)), .val (.int (0 : Int32)), .unset] [(.int (0 : Int32))])) _
    refine XS.iloadN X2.here hx rfl (hb hby d_prog_13_method_8_10) rfl ?_
    show Steps p.tables e below (T2.setTop (mkF m 11 #[.val (.int cd), .val (.ref na_2), .val (.int (2 : Int32)), .val (.int (0 : Int32)), .unset] [(.int (2 : Int32)), (.int (0 : Int32))])) _
    refine XS.icmpNo X2.here hx rfl (hb hby d_prog_13_method_8_11) rfl (tlt (by decide : ((0 : Int32) < (2 : Int32)))).2.1 ?_
    show Steps p.tables e below (T2.setTop (mkF m 14 #[.val (.int cd), .val (.ref na_2), .val (.int (2 : Int32)), .val (.int (0 : Int32)), .unset] [])) _
    refine XS.aloadN X2.here hx rfl (hb hby d_prog_13_method_8_14) rfl rfl ?_
    show Steps p.tables e below (T2.setTop (mkF m 15 #[.val (.int cd), .val (.ref na_2), .val (.int (2 : Int32)), .val (.int (0 : Int32)), .unset] [(.ref na_2)])) _
    refine XS.iloadN X2.here hx rfl (hb hby d_prog_13_method_8_15) rfl ?_
    show Steps p.tables e below (T2.setTop (mkF m 16 #[.val (.int cd), .val (.ref na_2), .val (.int (2 : Int32)), .val (.int (0 : Int32)), .unset] [(.int (0 : Int32)), (.ref na_2)])) _
    refine X2.aaload hx (j := (0 : Int32)) (v := (.ref pl)) (by rw [e2]; exact Ar5.1) (State.isArrayOf_alike hZ.alike Ar5.2.1) rfl Ar5.2.2 hin5 hat5 (g := (mkF m 16 #[.val (.int cd), .val (.ref na_2), .val (.int (2 : Int32)), .val (.int (0 : Int32)), .unset] [(.int (0 : Int32)), (.ref na_2)])) rfl rfl (hb hby d_prog_13_method_8_16) _ ?_
    show Steps p.tables e below (T2.setTop (mkF m 17 #[.val (.int cd), .val (.ref na_2), .val (.int (2 : Int32)), .val (.int (0 : Int32)), .unset] [(.ref pl)])) _
    refine XS.astore X2.here hx rfl (hb hby d_prog_13_method_8_17) rfl rfl (l' := #[.val (.int cd), .val (.ref na_2), .val (.int (2 : Int32)), .val (.int (0 : Int32)), .val (.ref pl)]) rfl ?_
    show Steps p.tables e below (T2.setTop (mkF m 19 #[.val (.int cd), .val (.ref na_2), .val (.int (2 : Int32)), .val (.int (0 : Int32)), .val (.ref pl)] [])) _
    refine XS.aload X2.here hx rfl (hb hby d_prog_13_method_8_19) rfl rfl ?_
    show Steps p.tables e below (T2.setTop (mkF m 21 #[.val (.int cd), .val (.ref na_2), .val (.int (2 : Int32)), .val (.int (0 : Int32)), .val (.ref pl)] [(.ref pl)])) _
    refine st7 _ ?_
    show Steps p.tables e below (T7.setTop (mkF m 24 #[.val (.int cd), .val (.ref na_2), .val (.int (2 : Int32)), .val (.int (0 : Int32)), .val (.ref pl)] [(.int (1 : Int32))])) _
    refine XS.iloadN X7.here hx rfl (hb hby d_prog_13_method_8_24) rfl ?_
    show Steps p.tables e below (T7.setTop (mkF m 25 #[.val (.int cd), .val (.ref na_2), .val (.int (2 : Int32)), .val (.int (0 : Int32)), .val (.ref pl)] [(.int cd), (.int (1 : Int32))])) _
    show Steps p.tables e below (T7.setTop (mkF m 25 #[.val (.int cd), .val (.ref na_2), .val (.int (2 : Int32)), .val (.int (0 : Int32)), .val (.ref pl)] [(.int cd), (.int (1 : Int32))])) t_
    exact k_)
  by_cases h9 : (1 : Int32) = cd
  · have s10 : ∀ t_, Steps p.tables e below (T7.setTop (mkF m 30 #[.val (.int cd), .val (.ref na_2), .val (.int (2 : Int32)), .val (.int (0 : Int32)), .val (.ref pl)] [(.ref pl)])) t_ → Steps p.tables e below (s₁.setTop (entryFrame m #[(.int cd)] 5)) t_ := fun t_ k_ => s8 t_ (by
      show Steps p.tables e below (T7.setTop (mkF m 25 #[.val (.int cd), .val (.ref na_2), .val (.int (2 : Int32)), .val (.int (0 : Int32)), .val (.ref pl)] [(.int cd), (.int (1 : Int32))])) t_
      refine XS.icmpNo X7.here hx rfl (hb hby d_prog_13_method_8_25) rfl (teq h9).2 ?_
      show Steps p.tables e below (T7.setTop (mkF m 28 #[.val (.int cd), .val (.ref na_2), .val (.int (2 : Int32)), .val (.int (0 : Int32)), .val (.ref pl)] [])) _
      refine XS.aload X7.here hx rfl (hb hby d_prog_13_method_8_28) rfl rfl ?_
      show Steps p.tables e below (T7.setTop (mkF m 30 #[.val (.int cd), .val (.ref na_2), .val (.int (2 : Int32)), .val (.int (0 : Int32)), .val (.ref pl)] [(.ref pl)])) _
      show Steps p.tables e below (T7.setTop (mkF m 30 #[.val (.int cd), .val (.ref na_2), .val (.int (2 : Int32)), .val (.int (0 : Int32)), .val (.ref pl)] [(.ref pl)])) t_
      exact k_)
    obtain ⟨fs, hr, hrun, hended, hW, hsame⟩ := X7.leave (v := some (.ref pl)) (fun h => by rw [Bd.returns] at h; cases h)
    refine ⟨_, _, s10 _ ?_, hrun, hended, _, _, rfl, ?_, ⟨_, rfl⟩, hW, hsame.mono (by decide) (by decide)⟩
    · show Steps p.tables e below (T7.setTop (mkF m 30 #[.val (.int cd), .val (.ref na_2), .val (.int (2 : Int32)), .val (.int (0 : Int32)), .val (.ref pl)] [(.ref pl)])) _
      jvm_step X7.here [X7.here.top, hx, (hb hby d_prog_13_method_8_30), X7.method', Bd.returns, Value.isRef, FieldType.isReference]
      first | (intro acts; rw [hr _ acts rfl rfl rfl]) | rw [hr _ _ rfl rfl rfl]
      exact Steps.refl _
    · show Q_rmFrom Z _ _ _ _ _ h0 n0 _ T7.heap _
      rw [e7]
      exact ⟨(by first | rfl | (simp only [if_pos h9]; done) | (simp only [if_pos h9]; rfl)), N2, ((Keep.refl h0 []).trans K2 all0)⟩
  · obtain ⟨cl11, Ar11, -, S11, M11, H11, -⟩ := id Fq2_0
    have hin11 : ¬ ((1 : Int32) < 0 ∨ cl11.slots.size ≤ ((1 : Int32)).toNatClampNeg) := inb_of S11 ⟨by decide, by decide⟩
    have hat11 : cl11.slots[((1 : Int32)).toNatClampNeg]? = some (.ref co) := H11.at hin11 (rfl)
    obtain ⟨T12, X12, e12, st12⟩ := getF X7 hx hZ hown (host := "") (Or.inl (hw _ (List.mem_of_getElem? (i := 21) rfl))) Via.refl e7 (I5.ext O6.2) (g := (mkF m 21 #[.val (.int cd), .val (.ref na_2), .val (.int (2 : Int32)), .val (.int (1 : Int32)), .val (.ref co)] [(.ref co)])) rfl rfl (hb hby d_prog_13_method_8_21)
    have s13 : ∀ t_, Steps p.tables e below (T12.setTop (mkF m 25 #[.val (.int cd), .val (.ref na_2), .val (.int (2 : Int32)), .val (.int (1 : Int32)), .val (.ref co)] [(.int cd), (.int (2 : Int32))])) t_ → Steps p.tables e below (s₁.setTop (entryFrame m #[(.int cd)] 5)) t_ := fun t_ k_ => s8 t_ (by
      show Steps p.tables e below (T7.setTop (mkF m 25 #[.val (.int cd), .val (.ref na_2), .val (.int (2 : Int32)), .val (.int (0 : Int32)), .val (.ref pl)] [(.int cd), (.int (1 : Int32))])) t_
      refine XS.icmpYes X7.here hx rfl (pc0 := 25) (pc' := 31) rfl (hb hby d_prog_13_method_8_25) rfl (feq h9).2 (by decide) (by decide) ?_
      show Steps p.tables e below (T7.setTop (mkF m 31 #[.val (.int cd), .val (.ref na_2), .val (.int (2 : Int32)), .val (.int (0 : Int32)), .val (.ref pl)] [])) _
      refine XS.iinc X7.here hx rfl (hb hby d_prog_13_method_8_31) rfl (l' := #[.val (.int cd), .val (.ref na_2), .val (.int (2 : Int32)), .val (.int (1 : Int32)), .val (.ref pl)]) rfl ?_
      show Steps p.tables e below (T7.setTop (mkF m 34 #[.val (.int cd), .val (.ref na_2), .val (.int (2 : Int32)), .val (.int (1 : Int32)), .val (.ref pl)] [])) _
      refine XS.goto X7.here hx rfl (pc0 := 34) (pc' := 9) rfl (hb hby d_prog_13_method_8_34) (by decide) (by decide) ?_
      show Steps p.tables e below (T7.setTop (mkF m 9 #[.val (.int cd), .val (.ref na_2), .val (.int (2 : Int32)), .val (.int (1 : Int32)), .val (.ref pl)] [])) _
      refine XS.iloadN X7.here hx rfl (hb hby d_prog_13_method_8_9) rfl ?_
      show Steps p.tables e below (T7.setTop (mkF m 10 #[.val (.int cd), .val (.ref na_2), .val (.int (2 : Int32)), .val (.int (1 : Int32)), .val (.ref pl)] [(.int (1 : Int32))])) _
      refine XS.iloadN X7.here hx rfl (hb hby d_prog_13_method_8_10) rfl ?_
      show Steps p.tables e below (T7.setTop (mkF m 11 #[.val (.int cd), .val (.ref na_2), .val (.int (2 : Int32)), .val (.int (1 : Int32)), .val (.ref pl)] [(.int (2 : Int32)), (.int (1 : Int32))])) _
      refine XS.icmpNo X7.here hx rfl (hb hby d_prog_13_method_8_11) rfl (tlt (by decide : ((1 : Int32) < (2 : Int32)))).2.1 ?_
      show Steps p.tables e below (T7.setTop (mkF m 14 #[.val (.int cd), .val (.ref na_2), .val (.int (2 : Int32)), .val (.int (1 : Int32)), .val (.ref pl)] [])) _
      refine XS.aloadN X7.here hx rfl (hb hby d_prog_13_method_8_14) rfl rfl ?_
      show Steps p.tables e below (T7.setTop (mkF m 15 #[.val (.int cd), .val (.ref na_2), .val (.int (2 : Int32)), .val (.int (1 : Int32)), .val (.ref pl)] [(.ref na_2)])) _
      refine XS.iloadN X7.here hx rfl (hb hby d_prog_13_method_8_15) rfl ?_
      show Steps p.tables e below (T7.setTop (mkF m 16 #[.val (.int cd), .val (.ref na_2), .val (.int (2 : Int32)), .val (.int (1 : Int32)), .val (.ref pl)] [(.int (1 : Int32)), (.ref na_2)])) _
      refine X7.aaload hx (j := (1 : Int32)) (v := (.ref co)) (by rw [e7]; exact Ar11.1) (State.isArrayOf_alike hZ.alike Ar11.2.1) rfl Ar11.2.2 hin11 hat11 (g := (mkF m 16 #[.val (.int cd), .val (.ref na_2), .val (.int (2 : Int32)), .val (.int (1 : Int32)), .val (.ref pl)] [(.int (1 : Int32)), (.ref na_2)])) rfl rfl (hb hby d_prog_13_method_8_16) _ ?_
      show Steps p.tables e below (T7.setTop (mkF m 17 #[.val (.int cd), .val (.ref na_2), .val (.int (2 : Int32)), .val (.int (1 : Int32)), .val (.ref pl)] [(.ref co)])) _
      refine XS.astore X7.here hx rfl (hb hby d_prog_13_method_8_17) rfl rfl (l' := #[.val (.int cd), .val (.ref na_2), .val (.int (2 : Int32)), .val (.int (1 : Int32)), .val (.ref co)]) rfl ?_
      show Steps p.tables e below (T7.setTop (mkF m 19 #[.val (.int cd), .val (.ref na_2), .val (.int (2 : Int32)), .val (.int (1 : Int32)), .val (.ref co)] [])) _
      refine XS.aload X7.here hx rfl (hb hby d_prog_13_method_8_19) rfl rfl ?_
      show Steps p.tables e below (T7.setTop (mkF m 21 #[.val (.int cd), .val (.ref na_2), .val (.int (2 : Int32)), .val (.int (1 : Int32)), .val (.ref co)] [(.ref co)])) _
      refine st12 _ ?_
      show Steps p.tables e below (T12.setTop (mkF m 24 #[.val (.int cd), .val (.ref na_2), .val (.int (2 : Int32)), .val (.int (1 : Int32)), .val (.ref co)] [(.int (2 : Int32))])) _
      refine XS.iloadN X12.here hx rfl (hb hby d_prog_13_method_8_24) rfl ?_
      show Steps p.tables e below (T12.setTop (mkF m 25 #[.val (.int cd), .val (.ref na_2), .val (.int (2 : Int32)), .val (.int (1 : Int32)), .val (.ref co)] [(.int cd), (.int (2 : Int32))])) _
      show Steps p.tables e below (T12.setTop (mkF m 25 #[.val (.int cd), .val (.ref na_2), .val (.int (2 : Int32)), .val (.int (1 : Int32)), .val (.ref co)] [(.int cd), (.int (2 : Int32))])) t_
      exact k_)
    by_cases h14 : (2 : Int32) = cd
    · have s15 : ∀ t_, Steps p.tables e below (T12.setTop (mkF m 30 #[.val (.int cd), .val (.ref na_2), .val (.int (2 : Int32)), .val (.int (1 : Int32)), .val (.ref co)] [(.ref co)])) t_ → Steps p.tables e below (s₁.setTop (entryFrame m #[(.int cd)] 5)) t_ := fun t_ k_ => s13 t_ (by
        show Steps p.tables e below (T12.setTop (mkF m 25 #[.val (.int cd), .val (.ref na_2), .val (.int (2 : Int32)), .val (.int (1 : Int32)), .val (.ref co)] [(.int cd), (.int (2 : Int32))])) t_
        refine XS.icmpNo X12.here hx rfl (hb hby d_prog_13_method_8_25) rfl (teq h14).2 ?_
        show Steps p.tables e below (T12.setTop (mkF m 28 #[.val (.int cd), .val (.ref na_2), .val (.int (2 : Int32)), .val (.int (1 : Int32)), .val (.ref co)] [])) _
        refine XS.aload X12.here hx rfl (hb hby d_prog_13_method_8_28) rfl rfl ?_
        show Steps p.tables e below (T12.setTop (mkF m 30 #[.val (.int cd), .val (.ref na_2), .val (.int (2 : Int32)), .val (.int (1 : Int32)), .val (.ref co)] [(.ref co)])) _
        show Steps p.tables e below (T12.setTop (mkF m 30 #[.val (.int cd), .val (.ref na_2), .val (.int (2 : Int32)), .val (.int (1 : Int32)), .val (.ref co)] [(.ref co)])) t_
        exact k_)
      obtain ⟨fs, hr, hrun, hended, hW, hsame⟩ := X12.leave (v := some (.ref co)) (fun h => by rw [Bd.returns] at h; cases h)
      refine ⟨_, _, s15 _ ?_, hrun, hended, _, _, rfl, ?_, ⟨_, rfl⟩, hW, hsame.mono (by decide) (by decide)⟩
      · show Steps p.tables e below (T12.setTop (mkF m 30 #[.val (.int cd), .val (.ref na_2), .val (.int (2 : Int32)), .val (.int (1 : Int32)), .val (.ref co)] [(.ref co)])) _
        jvm_step X12.here [X12.here.top, hx, (hb hby d_prog_13_method_8_30), X12.method', Bd.returns, Value.isRef, FieldType.isReference]
        first | (intro acts; rw [hr _ acts rfl rfl rfl]) | rw [hr _ _ rfl rfl rfl]
        exact Steps.refl _
      · show Q_rmFrom Z _ _ _ _ _ h0 n0 _ T12.heap _
        rw [e12]
        exact ⟨(by first | rfl | (simp only [if_neg h9, if_pos h14]; done) | (simp only [if_neg h9, if_pos h14]; rfl)), N2, ((Keep.refl h0 []).trans K2 all0)⟩
    · have s16 : ∀ t_, Steps p.tables e below (T12.setTop (mkF m 38 #[.val (.int cd), .val (.ref na_2), .val (.int (2 : Int32)), .val (.int (2 : Int32)), .val (.ref co)] [.null])) t_ → Steps p.tables e below (s₁.setTop (entryFrame m #[(.int cd)] 5)) t_ := fun t_ k_ => s13 t_ (by
        show Steps p.tables e below (T12.setTop (mkF m 25 #[.val (.int cd), .val (.ref na_2), .val (.int (2 : Int32)), .val (.int (1 : Int32)), .val (.ref co)] [(.int cd), (.int (2 : Int32))])) t_
        refine XS.icmpYes X12.here hx rfl (pc0 := 25) (pc' := 31) rfl (hb hby d_prog_13_method_8_25) rfl (feq h14).2 (by decide) (by decide) ?_
        show Steps p.tables e below (T12.setTop (mkF m 31 #[.val (.int cd), .val (.ref na_2), .val (.int (2 : Int32)), .val (.int (1 : Int32)), .val (.ref co)] [])) _
        refine XS.iinc X12.here hx rfl (hb hby d_prog_13_method_8_31) rfl (l' := #[.val (.int cd), .val (.ref na_2), .val (.int (2 : Int32)), .val (.int (2 : Int32)), .val (.ref co)]) rfl ?_
        show Steps p.tables e below (T12.setTop (mkF m 34 #[.val (.int cd), .val (.ref na_2), .val (.int (2 : Int32)), .val (.int (2 : Int32)), .val (.ref co)] [])) _
        refine XS.goto X12.here hx rfl (pc0 := 34) (pc' := 9) rfl (hb hby d_prog_13_method_8_34) (by decide) (by decide) ?_
        show Steps p.tables e below (T12.setTop (mkF m 9 #[.val (.int cd), .val (.ref na_2), .val (.int (2 : Int32)), .val (.int (2 : Int32)), .val (.ref co)] [])) _
        refine XS.iloadN X12.here hx rfl (hb hby d_prog_13_method_8_9) rfl ?_
        show Steps p.tables e below (T12.setTop (mkF m 10 #[.val (.int cd), .val (.ref na_2), .val (.int (2 : Int32)), .val (.int (2 : Int32)), .val (.ref co)] [(.int (2 : Int32))])) _
        refine XS.iloadN X12.here hx rfl (hb hby d_prog_13_method_8_10) rfl ?_
        show Steps p.tables e below (T12.setTop (mkF m 11 #[.val (.int cd), .val (.ref na_2), .val (.int (2 : Int32)), .val (.int (2 : Int32)), .val (.ref co)] [(.int (2 : Int32)), (.int (2 : Int32))])) _
        refine XS.icmpYes X12.here hx rfl (pc0 := 11) (pc' := 37) rfl (hb hby d_prog_13_method_8_11) rfl (flt (by decide : ¬ ((2 : Int32) < (2 : Int32)))).2.1 (by decide) (by decide) ?_
        show Steps p.tables e below (T12.setTop (mkF m 37 #[.val (.int cd), .val (.ref na_2), .val (.int (2 : Int32)), .val (.int (2 : Int32)), .val (.ref co)] [])) _
        refine XS.aconstNull X12.here hx rfl (hb hby d_prog_13_method_8_37) ?_
        show Steps p.tables e below (T12.setTop (mkF m 38 #[.val (.int cd), .val (.ref na_2), .val (.int (2 : Int32)), .val (.int (2 : Int32)), .val (.ref co)] [.null])) _
        show Steps p.tables e below (T12.setTop (mkF m 38 #[.val (.int cd), .val (.ref na_2), .val (.int (2 : Int32)), .val (.int (2 : Int32)), .val (.ref co)] [.null])) t_
        exact k_)
      obtain ⟨fs, hr, hrun, hended, hW, hsame⟩ := X12.leave (v := some .null) (fun h => by rw [Bd.returns] at h; cases h)
      refine ⟨_, _, s16 _ ?_, hrun, hended, _, _, rfl, ?_, ⟨_, rfl⟩, hW, hsame.mono (by decide) (by decide)⟩
      · show Steps p.tables e below (T12.setTop (mkF m 38 #[.val (.int cd), .val (.ref na_2), .val (.int (2 : Int32)), .val (.int (2 : Int32)), .val (.ref co)] [.null])) _
        jvm_step X12.here [X12.here.top, hx, (hb hby d_prog_13_method_8_38), X12.method', Bd.returns, Value.isRef, FieldType.isReference]
        first | (intro acts; rw [hr _ acts rfl rfl rfl]) | rw [hr _ _ rfl rfl rfl]
        exact Steps.refl _
      · show Q_rmFrom Z _ _ _ _ _ h0 n0 _ T12.heap _
        rw [e12]
        exact ⟨(by first | rfl | (simp only [if_neg h9, if_neg h14]; done) | (simp only [if_neg h9, if_neg h14]; rfl)), N2, ((Keep.refl h0 []).trans K2 all0)⟩
theorem pn_com_example_sieb_sieb_format_FilterKindFromCodePinLaw : plainName "com/example/sieb/sieb/format/FilterKindFromCodePinLaw" = true := by first | (simp [plainName, overriddenIn]; done) | decide +kernel
theorem pd__I_Lcom_example_sieb_sieb_format_FilterKind_ : parseMethodDescriptor "(I)Lcom/example/sieb/sieb/format/FilterKind;" = some ⟨[.int], some (.object "com/example/sieb/sieb/format/FilterKind")⟩ := by decide +kernel
theorem ef_rmLaw (m : MethodId) (x0 : Int32) (x1 : Int32) : entryFrame m #[(.int x0), (.int x1)] maxLocals = mkF m 0 #[.val (.int x0), .val (.int x1), .unset, .unset, .unset] [] := by first | (simp [entryFrame, mkF, argsToLocals, Value.category, maxLocals]; done) | rfl
def Q_rmLaw (Z : State) (raw : Int32) (sel : Int32) (va : Addr) (pl : Addr) (co : Addr) (kv : ClassId) (h0 : Heap) (n0 : Nat) (v : Option Value) (h : Heap) (L : List Loc) : Prop := v = some (.int 1) ∧ Fr n0 L
set_option maxRecDepth 65536 in
set_option maxHeartbeats 40000000 in
theorem rmLaw (l : Launch) (Z : State) (a0 : Array Value) (hw : ∀ d ∈ tables_1, d.before a0 Z = true) (ws : List Jvm.Cond) (raw : Int32) (sel : Int32) (va : Addr) (pl : Addr) (co : Addr) (kv : ClassId) (h0 : Heap) (n0 : Nat) (Z0 : n0 ≤ h0.size) (I1 : Sta Z Z.heap "com/example/sieb/sieb/format/FilterKind" "$VALUES" "[Lcom/example/sieb/sieb/format/FilterKind;" (.ref va)) (I2 : Exa Z Z.heap va "[Lcom/example/sieb/sieb/format/FilterKind;") (I3 : Arv Z Z.heap va kv (.object "com/example/sieb/sieb/format/FilterKind") (2 : Int32) [.ref pl, .ref co] .null) (I4 : Fld Z Z.heap pl "com/example/sieb/sieb/format/FilterKind" "code" "I" (.int (1 : Int32))) (I5 : Fld Z Z.heap co "com/example/sieb/sieb/format/FilterKind" "code" "I" (.int (2 : Int32))) (I6 : Sta Z Z.heap "com/example/sieb/sieb/format/FilterKind" "PLAIN" "Lcom/example/sieb/sieb/format/FilterKind;" (.ref pl)) (I7 : Sta Z Z.heap "com/example/sieb/sieb/format/FilterKind" "COUNTING" "Lcom/example/sieb/sieb/format/FilterKind;" (.ref co)) (OX : Old Z n0 h0) :
    MetFree l x (head1 (Jvm.Cond.code x code maxLocals ret :: ws) room_1) (fun a U => a = #[(.int raw), (.int sel)] ∧ Z.Warmed39 U.vm ∧ U.heap = h0) (fun _ _ _ _ _ => True) (fun _ U o U' => ∃ v L, o = .returned v ∧ Q_rmLaw Z raw sel va pl co kv h0 n0 v U'.heap L ∧ FrameEnd U o U' L room_1.cells room_1.slots) := by
  refine MetFree.of_bodySF (plainFor_of_name pn_com_example_sieb_sieb_format_FilterKindFromCodePinLaw) hisR ?_
  intro p e s m args below meth c s₁ Bd hml0 hP hK
  obtain ⟨rfl, hZ, hh⟩ := hP
  have hx := Bd.exec
  have hby := Bd.bytes
  have hml : c.maxLocals = 5 := hml0
  have hown : s.vm.findClass "com/example/sieb/sieb/format/FilterKindFromCodePinLaw" = some m.cls := findClass_of_methodNamed Bd.named
  have hnm := (name_of_methodNamed Bd.named Bd.method).1
  have X0 : Stand p l e room_1 s m #[(.int raw), (.int sel)] below meth c s₁ [] 0 0 := Stand.of_body Bd
  have e0 : s₁.heap = h0 := by rw [← hh, Bd.state]; rfl
  have N0 := Fr.nil n0
  have pre0 : ∀ t_, Steps p.tables e below (s₁.setTop (mkF m 0 #[.val (.int raw), .val (.int sel), .unset, .unset, .unset] [])) t_ → Steps p.tables e below (s₁.setTop (entryFrame m #[(.int raw), (.int sel)] maxLocals)) t_ := fun t_ k_ => castTop (ef_rmLaw m raw sel) k_
  obtain ⟨q1, hq1⟩ : ∃ z : Int32, z = (sel &&& (1 : Int32)) := ⟨_, rfl⟩
  have s2 : ∀ t_, Steps p.tables e below (s₁.setTop (mkF m 3 #[.val (.int raw), .val (.int sel), .unset, .unset, .unset] [(.int q1)])) t_ → Steps p.tables e below (s₁.setTop (entryFrame m #[(.int raw), (.int sel)] maxLocals)) t_ := fun t_ k_ => pre0 t_ (by
    show Steps p.tables e below (s₁.setTop (mkF m 0 #[.val (.int raw), .val (.int sel), .unset, .unset, .unset] [])) t_
    refine XS.iloadN X0.here hx rfl (hb hby at_0) rfl ?_
    show Steps p.tables e below (s₁.setTop (mkF m 1 #[.val (.int raw), .val (.int sel), .unset, .unset, .unset] [(.int sel)])) _
    refine XS.iconst X0.here hx rfl (hb hby at_1) ?_
    show Steps p.tables e below (s₁.setTop (mkF m 2 #[.val (.int raw), .val (.int sel), .unset, .unset, .unset] [(.int (1 : Int32)), (.int sel)])) _
    refine XS.iand X0.here hx rfl (hb hby at_2) rfl ?_
    show Steps p.tables e below (s₁.setTop (mkF m 3 #[.val (.int raw), .val (.int sel), .unset, .unset, .unset] [(.int (sel &&& (1 : Int32)))])) _
    exact castTop (by simp only [hq1]) k_)
  obtain ⟨q3, hq3⟩ : ∃ z : Int32, z = (if q1 = (0 : Int32) then (raw &&& (3 : Int32)) else raw) := ⟨_, rfl⟩
  obtain ⟨T4, X4, e4, s4⟩ := seg X0 (fun T' => T'.heap = h0 ∧ ∀ t_, Steps p.tables e below (T'.setTop (mkF m 13 #[.val (.int raw), .val (.int sel), .unset, .unset, .unset] [(.int q3)])) t_ → Steps p.tables e below (s₁.setTop (entryFrame m #[(.int raw), (.int sel)] maxLocals)) t_) (by
    by_cases h5 : q1 = (0 : Int32)
    · have s6 : ∀ t_, Steps p.tables e below (s₁.setTop (mkF m 13 #[.val (.int raw), .val (.int sel), .unset, .unset, .unset] [(.int (raw &&& (3 : Int32)))])) t_ → Steps p.tables e below (s₁.setTop (entryFrame m #[(.int raw), (.int sel)] maxLocals)) t_ := fun t_ k_ => s2 t_ (by
        show Steps p.tables e below (s₁.setTop (mkF m 3 #[.val (.int raw), .val (.int sel), .unset, .unset, .unset] [(.int q1)])) t_
        refine XS.ifYes X0.here hx rfl (pc0 := 3) (pc' := 10) rfl (hb hby at_3) rfl ((if0 _ _).trans (teq h5).1) (by decide) (by decide) ?_
        show Steps p.tables e below (s₁.setTop (mkF m 10 #[.val (.int raw), .val (.int sel), .unset, .unset, .unset] [])) _
        refine XS.iloadN X0.here hx rfl (hb hby at_10) rfl ?_
        show Steps p.tables e below (s₁.setTop (mkF m 11 #[.val (.int raw), .val (.int sel), .unset, .unset, .unset] [(.int raw)])) _
        refine XS.iconst X0.here hx rfl (hb hby at_11) ?_
        show Steps p.tables e below (s₁.setTop (mkF m 12 #[.val (.int raw), .val (.int sel), .unset, .unset, .unset] [(.int (3 : Int32)), (.int raw)])) _
        refine XS.iand X0.here hx rfl (hb hby at_12) rfl ?_
        show Steps p.tables e below (s₁.setTop (mkF m 13 #[.val (.int raw), .val (.int sel), .unset, .unset, .unset] [(.int (raw &&& (3 : Int32)))])) _
        show Steps p.tables e below (s₁.setTop (mkF m 13 #[.val (.int raw), .val (.int sel), .unset, .unset, .unset] [(.int (raw &&& (3 : Int32)))])) t_
        exact k_)
      exact ⟨s₁, X0, e0, fun t_ k_ => s6 t_ (castTop (by simp only [hq3, if_pos h5]) k_)⟩
    · have s7 : ∀ t_, Steps p.tables e below (s₁.setTop (mkF m 13 #[.val (.int raw), .val (.int sel), .unset, .unset, .unset] [(.int raw)])) t_ → Steps p.tables e below (s₁.setTop (entryFrame m #[(.int raw), (.int sel)] maxLocals)) t_ := fun t_ k_ => s2 t_ (by
        show Steps p.tables e below (s₁.setTop (mkF m 3 #[.val (.int raw), .val (.int sel), .unset, .unset, .unset] [(.int q1)])) t_
        refine XS.ifNo X0.here hx rfl (hb hby at_3) rfl ((if0 _ _).trans (feq h5).1) ?_
        show Steps p.tables e below (s₁.setTop (mkF m 6 #[.val (.int raw), .val (.int sel), .unset, .unset, .unset] [])) _
        refine XS.iloadN X0.here hx rfl (hb hby at_6) rfl ?_
        show Steps p.tables e below (s₁.setTop (mkF m 7 #[.val (.int raw), .val (.int sel), .unset, .unset, .unset] [(.int raw)])) _
        refine XS.goto X0.here hx rfl (pc0 := 7) (pc' := 13) rfl (hb hby at_7) (by decide) (by decide) ?_
        show Steps p.tables e below (s₁.setTop (mkF m 13 #[.val (.int raw), .val (.int sel), .unset, .unset, .unset] [(.int raw)])) _
        show Steps p.tables e below (s₁.setTop (mkF m 13 #[.val (.int raw), .val (.int sel), .unset, .unset, .unset] [(.int raw)])) t_
        exact k_)
      exact ⟨s₁, X0, e0, fun t_ k_ => s7 t_ (castTop (by simp only [hq3, if_neg h5]) k_)⟩)
  have s8 : ∀ t_, Steps p.tables e below (T4.setTop (mkF m 15 #[.val (.int raw), .val (.int sel), .val (.int q3), .unset, .unset] [(.int q3)])) t_ → Steps p.tables e below (s₁.setTop (entryFrame m #[(.int raw), (.int sel)] maxLocals)) t_ := fun t_ k_ => s4 t_ (by
    show Steps p.tables e below (T4.setTop (mkF m 13 #[.val (.int raw), .val (.int sel), .unset, .unset, .unset] [(.int q3)])) t_
    refine XS.istoreN X4.here hx rfl (hb hby at_13) rfl (l' := #[.val (.int raw), .val (.int sel), .val (.int q3), .unset, .unset]) rfl ?_
    show Steps p.tables e below (T4.setTop (mkF m 14 #[.val (.int raw), .val (.int sel), .val (.int q3), .unset, .unset] [])) _
    refine XS.iloadN X4.here hx rfl (hb hby at_14) rfl ?_
    show Steps p.tables e below (T4.setTop (mkF m 15 #[.val (.int raw), .val (.int sel), .val (.int q3), .unset, .unset] [(.int q3)])) _
    show Steps p.tables e below (T4.setTop (mkF m 15 #[.val (.int raw), .val (.int sel), .val (.int q3), .unset, .unset] [(.int q3)])) t_
    exact k_)
  have Zc9 : n0 ≤ h0.size := by omega
  obtain ⟨_, _, ⟨T10, L10, k10, n10⟩, -, X10, ⟨Lc10, hQ10, l10, y10, z10⟩, st10⟩ := Jvm.LawKit.callS X4 hx (y := (⟨"com/example/sieb/sieb/format/FilterKind", "fromCode", "(I)Lcom/example/sieb/sieb/format/FilterKind;"⟩ : MethodName)) hown (mvT hZ (hw _ (List.mem_of_getElem? (i := 0) rfl))) (mvT hZ (hw _ (List.mem_of_getElem? (i := 1) rfl))) (mvT hZ (hw _ (List.mem_of_getElem? (i := 2) rfl))) (mvT hZ (hw _ (List.mem_of_getElem? (i := 3) rfl))) (by decide) (backOf (W := 0) (rmFrom l Z a0 hw [] q3 va pl co kv h0 n0 Zc9 I1 I2 I3 I4 I5 OX) hZ (hw _ (List.mem_of_getElem? (i := 3) rfl)) (hw _ (List.mem_of_getElem? (i := 2) rfl)) (by decide) (by decide)) (g := (mkF m 15 #[.val (.int raw), .val (.int sel), .val (.int q3), .unset, .unset] [(.int q3)])) rfl (by rw [hml]; rfl) (argsL := [(.int q3)]) (rest := []) (lenOf pd__I_Lcom_example_sieb_sieb_format_FilterKind_ rfl) rfl (by show 2 * 0 + _ ≤ _; exact Nat.le_of_eq rfl) (hb hby at_15) (fun _ _ => ⟨rfl, e4, (by decide : 0 + 1 ≤ _), (by decide : 0 + 2 ≤ _)⟩)
  dsimp only [Pt.U, Pt.locs, Pt.cells, Pt.slots] at X10 l10 y10 z10 st10 hQ10
  subst l10 y10 z10
  obtain ⟨rfl, N10q, K10⟩ := hQ10
  have N10 := Fr.app N0 N10q
  obtain ⟨h10, e10⟩ : ∃ z, T10.heap = z := ⟨_, rfl⟩
  rw [e10] at K10
  have z11 : h0.size ≤ h10.size := K10.1
  have s12 : ∀ t_, Steps p.tables e below (T10.setTop (mkF m 18 #[.val (.int raw), .val (.int sel), .val (.int q3), .unset, .unset] [(if (1 : Int32) = q3 then .ref pl else (if (2 : Int32) = q3 then .ref co else .null))])) t_ → Steps p.tables e below (s₁.setTop (entryFrame m #[(.int raw), (.int sel)] maxLocals)) t_ := fun t_ k_ => s8 t_ (by
    show Steps p.tables e below (T4.setTop (mkF m 15 #[.val (.int raw), .val (.int sel), .val (.int q3), .unset, .unset] [(.int q3)])) t_
    refine st10 _ ?_
    show Steps p.tables e below (T10.setTop (mkF m 18 #[.val (.int raw), .val (.int sel), .val (.int q3), .unset, .unset] [(if (1 : Int32) = q3 then .ref pl else (if (2 : Int32) = q3 then .ref co else .null))])) _
    show Steps p.tables e below (T10.setTop (mkF m 18 #[.val (.int raw), .val (.int sel), .val (.int q3), .unset, .unset] [(if (1 : Int32) = q3 then .ref pl else (if (2 : Int32) = q3 then .ref co else .null))])) t_
    exact k_)
  by_cases h13 : (1 : Int32) = q3
  · have s14 : ∀ t_, Steps p.tables e below (T10.setTop (mkF m 18 #[.val (.int raw), .val (.int sel), .val (.int q3), .unset, .unset] [(.ref pl)])) t_ → Steps p.tables e below (s₁.setTop (entryFrame m #[(.int raw), (.int sel)] maxLocals)) t_ := fun t_ k_ => s12 t_ (castTop (by simp only [if_pos h13]) k_)
    have O15 : Old Z n0 h10 := (OX.keep K10 all0)
    obtain ⟨T16, X16, e16, st16⟩ := getS2 X10 hx hZ hown (host := "") (Or.inl (hw _ (List.mem_of_getElem? (i := 24) rfl))) Via.refl e10 (I6.ext O15.2) (g := (mkF m 24 #[.val (.int raw), .val (.int sel), .val (.int q3), .val (.ref pl), .unset] [])) rfl (hb hby at_24)
    have s17 : ∀ t_, Steps p.tables e below (T16.setTop (mkF m 59 #[.val (.int raw), .val (.int sel), .val (.int q3), .val (.ref pl), .val (.ref pl)] [(.int (1 : Int32))])) t_ → Steps p.tables e below (s₁.setTop (entryFrame m #[(.int raw), (.int sel)] maxLocals)) t_ := fun t_ k_ => s14 t_ (by
      show Steps p.tables e below (T10.setTop (mkF m 18 #[.val (.int raw), .val (.int sel), .val (.int q3), .unset, .unset] [(.ref pl)])) t_
      refine XS.astoreN X10.here hx rfl (hb hby at_18) rfl rfl (l' := #[.val (.int raw), .val (.int sel), .val (.int q3), .val (.ref pl), .unset]) rfl ?_
      show Steps p.tables e below (T10.setTop (mkF m 19 #[.val (.int raw), .val (.int sel), .val (.int q3), .val (.ref pl), .unset] [])) _
      refine XS.iloadN X10.here hx rfl (hb hby at_19) rfl ?_
      show Steps p.tables e below (T10.setTop (mkF m 20 #[.val (.int raw), .val (.int sel), .val (.int q3), .val (.ref pl), .unset] [(.int q3)])) _
      refine XS.iconst X10.here hx rfl (hb hby at_20) ?_
      show Steps p.tables e below (T10.setTop (mkF m 21 #[.val (.int raw), .val (.int sel), .val (.int q3), .val (.ref pl), .unset] [(.int (1 : Int32)), (.int q3)])) _
      refine XS.icmpNo X10.here hx rfl (hb hby at_21) rfl (teq (h13).symm).2 ?_
      show Steps p.tables e below (T10.setTop (mkF m 24 #[.val (.int raw), .val (.int sel), .val (.int q3), .val (.ref pl), .unset] [])) _
      refine st16 _ ?_
      show Steps p.tables e below (T16.setTop (mkF m 27 #[.val (.int raw), .val (.int sel), .val (.int q3), .val (.ref pl), .unset] [(.ref pl)])) _
      refine XS.astore X16.here hx rfl (hb hby at_27) rfl rfl (l' := #[.val (.int raw), .val (.int sel), .val (.int q3), .val (.ref pl), .val (.ref pl)]) rfl ?_
      show Steps p.tables e below (T16.setTop (mkF m 29 #[.val (.int raw), .val (.int sel), .val (.int q3), .val (.ref pl), .val (.ref pl)] [])) _
      refine XS.goto X16.here hx rfl (pc0 := 29) (pc' := 48) rfl (hb hby at_29) (by decide) (by decide) ?_
      show Steps p.tables e below (T16.setTop (mkF m 48 #[.val (.int raw), .val (.int sel), .val (.int q3), .val (.ref pl), .val (.ref pl)] [])) _
      refine XS.aloadN X16.here hx rfl (hb hby at_48) rfl rfl ?_
      show Steps p.tables e below (T16.setTop (mkF m 49 #[.val (.int raw), .val (.int sel), .val (.int q3), .val (.ref pl), .val (.ref pl)] [(.ref pl)])) _
      refine XS.aload X16.here hx rfl (hb hby at_49) rfl rfl ?_
      show Steps p.tables e below (T16.setTop (mkF m 51 #[.val (.int raw), .val (.int sel), .val (.int q3), .val (.ref pl), .val (.ref pl)] [(.ref pl), (.ref pl)])) _
      refine Jvm.RoadKit.acmp (g := (mkF m 51 #[.val (.int raw), .val (.int sel), .val (.int q3), .val (.ref pl), .val (.ref pl)] [(.ref pl), (.ref pl)])) X16 hx rfl rfl rfl (pc0 := 51) (pc' := 54) (same := true) rfl (hb hby at_51) rfl (decide_eq_true rfl) (by decide) (by decide) ?_
      show Steps p.tables e below (T16.setTop (mkF m 54 #[.val (.int raw), .val (.int sel), .val (.int q3), .val (.ref pl), .val (.ref pl)] [])) _
      refine XS.iconst X16.here hx rfl (hb hby at_54) ?_
      show Steps p.tables e below (T16.setTop (mkF m 55 #[.val (.int raw), .val (.int sel), .val (.int q3), .val (.ref pl), .val (.ref pl)] [(.int (1 : Int32))])) _
      refine XS.goto X16.here hx rfl (pc0 := 55) (pc' := 59) rfl (hb hby at_55) (by decide) (by decide) ?_
      show Steps p.tables e below (T16.setTop (mkF m 59 #[.val (.int raw), .val (.int sel), .val (.int q3), .val (.ref pl), .val (.ref pl)] [(.int (1 : Int32))])) _
      show Steps p.tables e below (T16.setTop (mkF m 59 #[.val (.int raw), .val (.int sel), .val (.int q3), .val (.ref pl), .val (.ref pl)] [(.int (1 : Int32))])) t_
      exact k_)
    obtain ⟨fs, hr, hrun, hended, hW, hsame⟩ := X16.leave (v := some (.int (1 : Int32))) (fun h => by rw [Bd.returns] at h; cases h)
    refine ⟨_, _, s17 _ ?_, hrun, hended, _, _, rfl, ?_, ⟨_, rfl⟩, hW, hsame.mono (by decide) (by decide)⟩
    · show Steps p.tables e below (T16.setTop (mkF m 59 #[.val (.int raw), .val (.int sel), .val (.int q3), .val (.ref pl), .val (.ref pl)] [(.int (1 : Int32))])) _
      exact retN X16 hx (t := .boolean) Bd.returns (by simp) (hb hby at_59) hr
    · show Q_rmLaw Z _ _ _ _ _ _ h0 n0 _ T16.heap _
      rw [e16]
      exact ⟨rfl, N10⟩
  · have s18 : ∀ t_, Steps p.tables e below (T10.setTop (mkF m 18 #[.val (.int raw), .val (.int sel), .val (.int q3), .unset, .unset] [(if (2 : Int32) = q3 then .ref co else .null)])) t_ → Steps p.tables e below (s₁.setTop (entryFrame m #[(.int raw), (.int sel)] maxLocals)) t_ := fun t_ k_ => s12 t_ (castTop (by simp only [if_neg h13]) k_)
    by_cases h19 : (2 : Int32) = q3
    · have s20 : ∀ t_, Steps p.tables e below (T10.setTop (mkF m 18 #[.val (.int raw), .val (.int sel), .val (.int q3), .unset, .unset] [(.ref co)])) t_ → Steps p.tables e below (s₁.setTop (entryFrame m #[(.int raw), (.int sel)] maxLocals)) t_ := fun t_ k_ => s18 t_ (castTop (by simp only [if_pos h19]) k_)
      have O21 : Old Z n0 h10 := (OX.keep K10 all0)
      obtain ⟨T22, X22, e22, st22⟩ := getS2 X10 hx hZ hown (host := "") (Or.inl (hw _ (List.mem_of_getElem? (i := 23) rfl))) Via.refl e10 (I7.ext O21.2) (g := (mkF m 37 #[.val (.int raw), .val (.int sel), .val (.int q3), .val (.ref co), .unset] [])) rfl (hb hby at_37)
      have s23 : ∀ t_, Steps p.tables e below (T22.setTop (mkF m 59 #[.val (.int raw), .val (.int sel), .val (.int q3), .val (.ref co), .val (.ref co)] [(.int (1 : Int32))])) t_ → Steps p.tables e below (s₁.setTop (entryFrame m #[(.int raw), (.int sel)] maxLocals)) t_ := fun t_ k_ => s20 t_ (by
        show Steps p.tables e below (T10.setTop (mkF m 18 #[.val (.int raw), .val (.int sel), .val (.int q3), .unset, .unset] [(.ref co)])) t_
        refine XS.astoreN X10.here hx rfl (hb hby at_18) rfl rfl (l' := #[.val (.int raw), .val (.int sel), .val (.int q3), .val (.ref co), .unset]) rfl ?_
        show Steps p.tables e below (T10.setTop (mkF m 19 #[.val (.int raw), .val (.int sel), .val (.int q3), .val (.ref co), .unset] [])) _
        refine XS.iloadN X10.here hx rfl (hb hby at_19) rfl ?_
        show Steps p.tables e below (T10.setTop (mkF m 20 #[.val (.int raw), .val (.int sel), .val (.int q3), .val (.ref co), .unset] [(.int q3)])) _
        refine XS.iconst X10.here hx rfl (hb hby at_20) ?_
        show Steps p.tables e below (T10.setTop (mkF m 21 #[.val (.int raw), .val (.int sel), .val (.int q3), .val (.ref co), .unset] [(.int (1 : Int32)), (.int q3)])) _
        refine XS.icmpYes X10.here hx rfl (pc0 := 21) (pc' := 32) rfl (hb hby at_21) rfl (feq (fun z => h13 z.symm)).2 (by decide) (by decide) ?_
        show Steps p.tables e below (T10.setTop (mkF m 32 #[.val (.int raw), .val (.int sel), .val (.int q3), .val (.ref co), .unset] [])) _
        refine XS.iloadN X10.here hx rfl (hb hby at_32) rfl ?_
        show Steps p.tables e below (T10.setTop (mkF m 33 #[.val (.int raw), .val (.int sel), .val (.int q3), .val (.ref co), .unset] [(.int q3)])) _
        refine XS.iconst X10.here hx rfl (hb hby at_33) ?_
        show Steps p.tables e below (T10.setTop (mkF m 34 #[.val (.int raw), .val (.int sel), .val (.int q3), .val (.ref co), .unset] [(.int (2 : Int32)), (.int q3)])) _
        refine XS.icmpNo X10.here hx rfl (hb hby at_34) rfl (teq (h19).symm).2 ?_
        show Steps p.tables e below (T10.setTop (mkF m 37 #[.val (.int raw), .val (.int sel), .val (.int q3), .val (.ref co), .unset] [])) _
        refine st22 _ ?_
        show Steps p.tables e below (T22.setTop (mkF m 40 #[.val (.int raw), .val (.int sel), .val (.int q3), .val (.ref co), .unset] [(.ref co)])) _
        refine XS.astore X22.here hx rfl (hb hby at_40) rfl rfl (l' := #[.val (.int raw), .val (.int sel), .val (.int q3), .val (.ref co), .val (.ref co)]) rfl ?_
        show Steps p.tables e below (T22.setTop (mkF m 42 #[.val (.int raw), .val (.int sel), .val (.int q3), .val (.ref co), .val (.ref co)] [])) _
        refine XS.goto X22.here hx rfl (pc0 := 42) (pc' := 48) rfl (hb hby at_42) (by decide) (by decide) ?_
        show Steps p.tables e below (T22.setTop (mkF m 48 #[.val (.int raw), .val (.int sel), .val (.int q3), .val (.ref co), .val (.ref co)] [])) _
        refine XS.aloadN X22.here hx rfl (hb hby at_48) rfl rfl ?_
        show Steps p.tables e below (T22.setTop (mkF m 49 #[.val (.int raw), .val (.int sel), .val (.int q3), .val (.ref co), .val (.ref co)] [(.ref co)])) _
        refine XS.aload X22.here hx rfl (hb hby at_49) rfl rfl ?_
        show Steps p.tables e below (T22.setTop (mkF m 51 #[.val (.int raw), .val (.int sel), .val (.int q3), .val (.ref co), .val (.ref co)] [(.ref co), (.ref co)])) _
        refine Jvm.RoadKit.acmp (g := (mkF m 51 #[.val (.int raw), .val (.int sel), .val (.int q3), .val (.ref co), .val (.ref co)] [(.ref co), (.ref co)])) X22 hx rfl rfl rfl (pc0 := 51) (pc' := 54) (same := true) rfl (hb hby at_51) rfl (decide_eq_true rfl) (by decide) (by decide) ?_
        show Steps p.tables e below (T22.setTop (mkF m 54 #[.val (.int raw), .val (.int sel), .val (.int q3), .val (.ref co), .val (.ref co)] [])) _
        refine XS.iconst X22.here hx rfl (hb hby at_54) ?_
        show Steps p.tables e below (T22.setTop (mkF m 55 #[.val (.int raw), .val (.int sel), .val (.int q3), .val (.ref co), .val (.ref co)] [(.int (1 : Int32))])) _
        refine XS.goto X22.here hx rfl (pc0 := 55) (pc' := 59) rfl (hb hby at_55) (by decide) (by decide) ?_
        show Steps p.tables e below (T22.setTop (mkF m 59 #[.val (.int raw), .val (.int sel), .val (.int q3), .val (.ref co), .val (.ref co)] [(.int (1 : Int32))])) _
        show Steps p.tables e below (T22.setTop (mkF m 59 #[.val (.int raw), .val (.int sel), .val (.int q3), .val (.ref co), .val (.ref co)] [(.int (1 : Int32))])) t_
        exact k_)
      obtain ⟨fs, hr, hrun, hended, hW, hsame⟩ := X22.leave (v := some (.int (1 : Int32))) (fun h => by rw [Bd.returns] at h; cases h)
      refine ⟨_, _, s23 _ ?_, hrun, hended, _, _, rfl, ?_, ⟨_, rfl⟩, hW, hsame.mono (by decide) (by decide)⟩
      · show Steps p.tables e below (T22.setTop (mkF m 59 #[.val (.int raw), .val (.int sel), .val (.int q3), .val (.ref co), .val (.ref co)] [(.int (1 : Int32))])) _
        exact retN X22 hx (t := .boolean) Bd.returns (by simp) (hb hby at_59) hr
      · show Q_rmLaw Z _ _ _ _ _ _ h0 n0 _ T22.heap _
        rw [e22]
        exact ⟨rfl, N10⟩
    · have s24 : ∀ t_, Steps p.tables e below (T10.setTop (mkF m 18 #[.val (.int raw), .val (.int sel), .val (.int q3), .unset, .unset] [.null])) t_ → Steps p.tables e below (s₁.setTop (entryFrame m #[(.int raw), (.int sel)] maxLocals)) t_ := fun t_ k_ => s18 t_ (castTop (by simp only [if_neg h19]) k_)
      have s25 : ∀ t_, Steps p.tables e below (T10.setTop (mkF m 59 #[.val (.int raw), .val (.int sel), .val (.int q3), .val .null, .val .null] [(.int (1 : Int32))])) t_ → Steps p.tables e below (s₁.setTop (entryFrame m #[(.int raw), (.int sel)] maxLocals)) t_ := fun t_ k_ => s24 t_ (by
        show Steps p.tables e below (T10.setTop (mkF m 18 #[.val (.int raw), .val (.int sel), .val (.int q3), .unset, .unset] [.null])) t_
        refine XS.astoreN X10.here hx rfl (hb hby at_18) rfl rfl (l' := #[.val (.int raw), .val (.int sel), .val (.int q3), .val .null, .unset]) rfl ?_
        show Steps p.tables e below (T10.setTop (mkF m 19 #[.val (.int raw), .val (.int sel), .val (.int q3), .val .null, .unset] [])) _
        refine XS.iloadN X10.here hx rfl (hb hby at_19) rfl ?_
        show Steps p.tables e below (T10.setTop (mkF m 20 #[.val (.int raw), .val (.int sel), .val (.int q3), .val .null, .unset] [(.int q3)])) _
        refine XS.iconst X10.here hx rfl (hb hby at_20) ?_
        show Steps p.tables e below (T10.setTop (mkF m 21 #[.val (.int raw), .val (.int sel), .val (.int q3), .val .null, .unset] [(.int (1 : Int32)), (.int q3)])) _
        refine XS.icmpYes X10.here hx rfl (pc0 := 21) (pc' := 32) rfl (hb hby at_21) rfl (feq (fun z => h13 z.symm)).2 (by decide) (by decide) ?_
        show Steps p.tables e below (T10.setTop (mkF m 32 #[.val (.int raw), .val (.int sel), .val (.int q3), .val .null, .unset] [])) _
        refine XS.iloadN X10.here hx rfl (hb hby at_32) rfl ?_
        show Steps p.tables e below (T10.setTop (mkF m 33 #[.val (.int raw), .val (.int sel), .val (.int q3), .val .null, .unset] [(.int q3)])) _
        refine XS.iconst X10.here hx rfl (hb hby at_33) ?_
        show Steps p.tables e below (T10.setTop (mkF m 34 #[.val (.int raw), .val (.int sel), .val (.int q3), .val .null, .unset] [(.int (2 : Int32)), (.int q3)])) _
        refine XS.icmpYes X10.here hx rfl (pc0 := 34) (pc' := 45) rfl (hb hby at_34) rfl (feq (fun z => h19 z.symm)).2 (by decide) (by decide) ?_
        show Steps p.tables e below (T10.setTop (mkF m 45 #[.val (.int raw), .val (.int sel), .val (.int q3), .val .null, .unset] [])) _
        refine XS.aconstNull X10.here hx rfl (hb hby at_45) ?_
        show Steps p.tables e below (T10.setTop (mkF m 46 #[.val (.int raw), .val (.int sel), .val (.int q3), .val .null, .unset] [.null])) _
        refine XS.astore X10.here hx rfl (hb hby at_46) rfl rfl (l' := #[.val (.int raw), .val (.int sel), .val (.int q3), .val .null, .val .null]) rfl ?_
        show Steps p.tables e below (T10.setTop (mkF m 48 #[.val (.int raw), .val (.int sel), .val (.int q3), .val .null, .val .null] [])) _
        refine XS.aloadN X10.here hx rfl (hb hby at_48) rfl rfl ?_
        show Steps p.tables e below (T10.setTop (mkF m 49 #[.val (.int raw), .val (.int sel), .val (.int q3), .val .null, .val .null] [.null])) _
        refine XS.aload X10.here hx rfl (hb hby at_49) rfl rfl ?_
        show Steps p.tables e below (T10.setTop (mkF m 51 #[.val (.int raw), .val (.int sel), .val (.int q3), .val .null, .val .null] [.null, .null])) _
        refine Jvm.RoadKit.acmp (g := (mkF m 51 #[.val (.int raw), .val (.int sel), .val (.int q3), .val .null, .val .null] [.null, .null])) X10 hx rfl rfl rfl (pc0 := 51) (pc' := 54) (same := true) rfl (hb hby at_51) rfl (decide_eq_true rfl) (by decide) (by decide) ?_
        show Steps p.tables e below (T10.setTop (mkF m 54 #[.val (.int raw), .val (.int sel), .val (.int q3), .val .null, .val .null] [])) _
        refine XS.iconst X10.here hx rfl (hb hby at_54) ?_
        show Steps p.tables e below (T10.setTop (mkF m 55 #[.val (.int raw), .val (.int sel), .val (.int q3), .val .null, .val .null] [(.int (1 : Int32))])) _
        refine XS.goto X10.here hx rfl (pc0 := 55) (pc' := 59) rfl (hb hby at_55) (by decide) (by decide) ?_
        show Steps p.tables e below (T10.setTop (mkF m 59 #[.val (.int raw), .val (.int sel), .val (.int q3), .val .null, .val .null] [(.int (1 : Int32))])) _
        show Steps p.tables e below (T10.setTop (mkF m 59 #[.val (.int raw), .val (.int sel), .val (.int q3), .val .null, .val .null] [(.int (1 : Int32))])) t_
        exact k_)
      obtain ⟨fs, hr, hrun, hended, hW, hsame⟩ := X10.leave (v := some (.int (1 : Int32))) (fun h => by rw [Bd.returns] at h; cases h)
      refine ⟨_, _, s25 _ ?_, hrun, hended, _, _, rfl, ?_, ⟨_, rfl⟩, hW, hsame.mono (by decide) (by decide)⟩
      · show Steps p.tables e below (T10.setTop (mkF m 59 #[.val (.int raw), .val (.int sel), .val (.int q3), .val .null, .val .null] [(.int (1 : Int32))])) _
        exact retN X10 hx (t := .boolean) Bd.returns (by simp) (hb hby at_59) hr
      · show Q_rmLaw Z _ _ _ _ _ _ h0 n0 _ T10.heap _
        rw [e10]
        exact ⟨rfl, N10⟩
set_option maxRecDepth 65536 in
set_option maxHeartbeats 40000000 in
theorem comes_1 {Post : Tables → Env → Array Value → State → Outcome → State → Prop} (hpost : ∀ tb e args s v u, (limb_1_1.after args s (.returned v) u = true ∧ limb_1_2.after args s (.returned v) u = true ∧ True) → FrameEnd s (.returned v) u (Jvm.fieldLocs frame_1_writes args s ++ Jvm.arrayLocs frame_1_arrays args s ++ Jvm.staticLocs frame_1_statics s) 16 128 → Post tb e args s (.returned v) u) :
    ArmFor flags0 classFile x code maxLocals ret World_1 tables_1 room_1 Calls_1 rest_1 Pre_1 Post := by
  intro l hfl _ _ p e ha hc hk s m args below hf hA hF happ hP
  obtain ⟨hcalls, hrest, hpre⟩ := hP
  obtain ⟨-, -, -, hnamed, -, -, -, hat⟩ := (Spec.applies_iff hf).mp happ
  obtain ⟨hg, hn⟩ := and_e (Cond.before_iff.mp (show (Jvm.Cond.and given_1 narrow_1).before args s = true from hpre))
  obtain ⟨ga, gr⟩ := and_e hg
  obtain ⟨g0, gr0⟩ := and_e gr
  obtain ⟨w0, w1, rfl⟩ : ∃ w0 w1 : Value, args = #[w0, w1] := by
    have hs : args.size = 2 := by simpa [Cond.value, given_1] using ga
    obtain ⟨L⟩ := args
    match L, hs with
    | [w0, w1], _ => exact ⟨w0, w1, rfl⟩
  have hw := fun d (hd : d ∈ tables_1) => atoms_spec (ws := Jvm.Cond.code x code maxLocals ret :: tables_1) hat d (List.mem_cons_of_mem _ hd)
  have hfit : Fit s := fun {y c} hc i hi => by
    obtain ⟨ha, rfl⟩ := Array.getElem?_eq_some_iff.mp hc
    have q := List.all_eq_true.mp ((Array.all_eq_true_iff_forall_mem.mp hF) _ (Array.getElem_mem ha)) i (List.mem_range.mpr hi)
    simpa [Array.getElem?_eq_getElem hi] using q
  obtain ⟨i0, ei0⟩ := is_v g0
  obtain rfl : w0 = (.int i0) := Option.some.inj ei0
  obtain ⟨i1, ei1⟩ := is_v gr0
  obtain rfl : w1 = (.int i1) := Option.some.inj ei1
  obtain ⟨n1, hn⟩ := and_e hn
  obtain ⟨n2, hn⟩ := and_e hn
  obtain ⟨n3, hn⟩ := and_e hn
  obtain ⟨n4, hn⟩ := and_e hn
  obtain ⟨n5, hn⟩ := and_e hn
  obtain ⟨n6, hn⟩ := and_e hn
  obtain ⟨n7, hn⟩ := and_e hn
  obtain ⟨n8, n9⟩ := and_e hn
  obtain ⟨va, ev⟩ := exa_v n2
  obtain ⟨pl, ep⟩ := exa_v n4
  obtain ⟨co, ec⟩ := exa_v n6
  obtain ⟨cv, AV⟩ := Arr.start ev n1
  have VV := own_arr2 hfit AV ev n3 n5 n7 ep ec
  have f1 := Fld.start ((fld_at ep).symm.trans (eqv_i (Term.int_eval 1) n8))
  have f2 := Fld.start ((fld_at ec).symm.trans (eqv_i (Term.int_eval 2) n9))
  obtain ⟨n, o, h1, h2, h3, _, L, rfl, ⟨rfl, N⟩, hq⟩ := rmLaw l s _ hw tables_1 i0 i1 va pl co cv.cls s.heap s.heap.size (Nat.le_refl _) (Sta.start ev (Or.inl (hw _ (List.mem_of_getElem? (i := 18) rfl)))) (Exa.start ev n2) VV f1 f2 (Sta.start ep (Or.inr ⟨(hw _ (List.mem_of_getElem? (i := 2) rfl)), (hw _ (List.mem_of_getElem? (i := 16) rfl))⟩)) (Sta.start ec (Or.inr ⟨(hw _ (List.mem_of_getElem? (i := 2) rfl)), (hw _ (List.mem_of_getElem? (i := 17) rfl))⟩)) (Old.start s) p e ha hc hk s m _ below hf ((Spec.applies_iff_loose hf).mp happ).1 ⟨rfl, State.Warmed39.refl s, rfl⟩ trivial
  refine ⟨n, _, h1, h2, h3, hpost _ _ _ _ _ _ ⟨Cond.after_iff.mpr rfl, Cond.after_iff.mpr (eq_i res_at (Term.int_eval (1)) rfl), trivial⟩ ⟨hq.1, hq.2.1, (hq.2.2.sift fun y hy => Or.inr (N y hy)).mono (by decide) (by decide)⟩⟩
theorem main_1_1 : Claimed_1_1 := comes_1 fun _ _ _ _ _ _ h hF => ⟨h.1, hF⟩
theorem main_1_2 : Claimed_1_2 := comes_1 fun _ _ _ _ _ _ h hF => ⟨h.2.1, hF⟩
end Jvm.Pilot.@@N@@
namespace Jvm.Pilot.@@N@@
open Jvm Jvm.ClassFile Sem Op Lib Jvm.Free Jvm.Stand Jvm.Pilot.@@N@@.Jvm.D
/-! MADE BY PROGRAM (witnessworld.py) out of the Statement's table words and the real class files: 13 classes; the members and pool entries that the words name. The judged class is class 1, her method 1. -/
namespace start1
open Jvm.ClassFile
def u (s : String) : CpInfo := .utf8 (stringToUtf16 s)
/-- a pool by its gaps: so many unusable entries, then the entry; so many at the end -/
def gap : Nat → List CpInfo → List CpInfo
  | 0, r => r
  | n + 1, r => .unusable :: gap n r
def poolList (es : List (Nat × CpInfo)) (last : Nat) : List CpInfo := es.foldr (fun e r => gap e.1 (e.2 :: r)) (gap last [])
def pool (es : List (Nat × CpInfo)) (last : Nat) : Array CpInfo := ⟨poolList es last⟩
def fileOf (pool : Array CpInfo) (this : Nat) (attrs : Array Attribute := #[]) (ms : Array MethodInfo := #[]) (fl : Nat := 33) (sup : Nat := 0) (ifs : Array Nat := #[]) (fds : Array FieldInfo := #[]) : ClassFile where
  minorVersion := 0
  majorVersion := 65
  constantPool := pool
  accessFlags := fl
  thisClass := this
  superClass := sup
  interfaces := ifs
  fields := fds
  methods := ms
  attributes := attrs
def plain (name : String) (sup : Option ClassId) : Class where
  name := name
  kind := .ordinary
  loader := none
  accessFlags := 33
  super := sup
  interfaces := #[]
  cf := none
  fields := #[]
  methods := #[]
  instanceTypes := #[]
  staticTypes := #[]
  resolved := #[]
  callSites := []
  init := .initialized
  statics := none
  mirror := none

def pool0 : Array CpInfo := pool [(5, u "<init>"), (0, u "()V"), (1, .class_ 10), (1, u "java/lang/Object"), (85, u "clone"), (0, u "()Ljava/lang/Object;")] 26

def k0m0 : Method := { name := "<init>", desc := "()V", sig := { parameters := [], returnType := none }, accessFlags := 1, code := none }
def k0m1 : Method := { name := "clone", desc := "()Ljava/lang/Object;", sig := { parameters := [], returnType := some (.object "java/lang/Object") }, accessFlags := 260, code := none }
/-- java/lang/Object -/
def k0 : Class := { plain "java/lang/Object" none with
  accessFlags := 33
  interfaces := #[]
  cf := some (fileOf pool0 8 #[] #[{ accessFlags := 1, nameIndex := 5, descriptorIndex := 6, attributes := #[] }, { accessFlags := 260, nameIndex := 96, descriptorIndex := 97, attributes := #[] }] 33 0 #[] #[])
  fields := #[]
  methods := #[k0m0, k0m1]
  instanceTypes := #[]
  staticTypes := #[]
  resolved := Array.replicate 124 none
  statics := none }

def pool1 : Array CpInfo := pool [(2, .class_ 4), (1, u "java/lang/Object"), (0, u "<init>"), (0, u "()V"), (0, .methodref 8 9), (0, .class_ 10), (0, .nameAndType 11 12), (0, u "com/example/sieb/sieb/format/FilterKind"), (0, u "fromCode"), (0, u "(I)Lcom/example/sieb/sieb/format/FilterKind;"), (0, .fieldref 8 14), (0, .nameAndType 15 16), (0, u "PLAIN"), (0, u "Lcom/example/sieb/sieb/format/FilterKind;"), (0, .fieldref 8 18), (0, .nameAndType 19 16), (0, u "COUNTING"), (0, .class_ 21), (0, u "com/example/sieb/sieb/format/FilterKindFromCodePinLaw"), (2, u "law"), (0, u "(II)Z")] 3

def k1m0 : Method := { name := "<init>", desc := "()V", sig := { parameters := [], returnType := none }, accessFlags := 1, code := none }
def k1c1 : Code := { maxStack := 2, maxLocals := 5, code := code, exceptionTable := #[], attributes := #[] }
def k1m1 : Method := { name := "law", desc := "(II)Z", sig := { parameters := [.int, .int], returnType := some .boolean }, accessFlags := 9, code := some k1c1 }
/-- com/example/sieb/sieb/format/FilterKindFromCodePinLaw -/
def k1 : Class := { plain "com/example/sieb/sieb/format/FilterKindFromCodePinLaw" (some 0) with
  accessFlags := 49
  interfaces := #[]
  cf := some (fileOf pool1 20 #[] #[{ accessFlags := 1, nameIndex := 5, descriptorIndex := 6, attributes := #[] }, { accessFlags := 9, nameIndex := 24, descriptorIndex := 25, attributes := #[] }] 49 2 #[] #[])
  fields := #[]
  methods := #[k1m0, k1m1]
  instanceTypes := #[]
  staticTypes := #[]
  resolved := Array.replicate 29 none
  statics := none }

def pool2 : Array CpInfo := pool [(1, .class_ 2), (0, u "java/lang/constant/Constable"), (0, .class_ 4), (0, u "java/lang/Object")] 6

/-- java/lang/constant/Constable -/
def k2 : Class := { plain "java/lang/constant/Constable" (some 0) with
  accessFlags := 1537
  interfaces := #[]
  cf := some (fileOf pool2 1 #[] #[] 1537 3 #[] #[])
  fields := #[]
  methods := #[]
  instanceTypes := #[]
  staticTypes := #[]
  resolved := Array.replicate 11 none
  statics := none }

def pool3 : Array CpInfo := pool [(1, .class_ 2), (0, u "java/lang/Comparable"), (0, .class_ 4), (0, u "java/lang/Object")] 7

/-- java/lang/Comparable -/
def k3 : Class := { plain "java/lang/Comparable" (some 0) with
  accessFlags := 1537
  interfaces := #[]
  cf := some (fileOf pool3 1 #[] #[] 1537 3 #[] #[])
  fields := #[]
  methods := #[]
  instanceTypes := #[]
  staticTypes := #[]
  resolved := Array.replicate 12 none
  statics := none }

def pool4 : Array CpInfo := pool [(1, .class_ 2), (0, u "java/io/Serializable"), (0, .class_ 4), (0, u "java/lang/Object")] 2

/-- java/io/Serializable -/
def k4 : Class := { plain "java/io/Serializable" (some 0) with
  accessFlags := 1537
  interfaces := #[]
  cf := some (fileOf pool4 1 #[] #[] 1537 3 #[] #[])
  fields := #[]
  methods := #[]
  instanceTypes := #[]
  staticTypes := #[]
  resolved := Array.replicate 7 none
  statics := none }

def pool5 : Array CpInfo := pool [(2, .class_ 4), (1, u "java/lang/Enum"), (0, u "name"), (0, u "Ljava/lang/String;"), (2, u "ordinal"), (0, u "I"), (1, .class_ 14), (1, u "java/lang/Object"), (4, u "hash"), (86, .class_ 108), (1, u "java/lang/Enum$EnumDesc"), (2, .class_ 112), (0, u "java/lang/constant/Constable"), (0, .class_ 114), (0, u "java/lang/Comparable"), (0, .class_ 116), (0, u "java/io/Serializable")] 87

/-- java/lang/Enum -/
def k5 : Class := { plain "java/lang/Enum" (some 0) with
  accessFlags := 1057
  interfaces := #[2, 3, 4]
  cf := some (fileOf pool5 2 #[.nestMembers #[106]] #[] 1057 12 #[111, 113, 115] #[{ accessFlags := 18, nameIndex := 5, descriptorIndex := 6, attributes := #[] }, { accessFlags := 18, nameIndex := 9, descriptorIndex := 10, attributes := #[] }, { accessFlags := 2, nameIndex := 19, descriptorIndex := 10, attributes := #[] }])
  fields := #[{ name := "name", type := (.object "java/lang/String"), accessFlags := 18, slot := 0, constantValue := 0 }, { name := "ordinal", type := .int, accessFlags := 18, slot := 1, constantValue := 0 }, { name := "hash", type := .int, accessFlags := 2, slot := 2, constantValue := 0 }]
  methods := #[]
  instanceTypes := #[(.object "java/lang/String"), .int, .int]
  staticTypes := #[]
  resolved := Array.replicate 204 none
  statics := none }

def pool6 : Array CpInfo := pool [(1, .class_ 2), (0, u "com/example/sieb/sieb/format/FilterKind"), (2, u "PLAIN"), (0, u "Lcom/example/sieb/sieb/format/FilterKind;"), (2, u "COUNTING"), (0, .fieldref 1 11), (0, .nameAndType 12 13), (0, u "$VALUES"), (0, u "[Lcom/example/sieb/sieb/format/FilterKind;"), (0, .methodref 15 16), (0, .class_ 13), (0, .nameAndType 17 18), (0, u "clone"), (0, u "()Ljava/lang/Object;"), (1, .class_ 22), (1, u "java/lang/Enum"), (6, .fieldref 1 30), (0, .nameAndType 31 32), (0, u "code"), (0, u "I"), (2, u "label"), (0, u "Ljava/lang/String;"), (2, u "cellBits"), (2, u "cellName"), (0, .methodref 1 44), (0, .nameAndType 45 46), (0, u "values"), (0, u "()[Lcom/example/sieb/sieb/format/FilterKind;"), (30, u "fromCode"), (0, u "(I)Lcom/example/sieb/sieb/format/FilterKind;")] 7

def k6c0 : Code := { maxStack := 1, maxLocals := 0, code := prog_13_method_1_code, exceptionTable := #[], attributes := #[] }
def k6m0 : Method := { name := "values", desc := "()[Lcom/example/sieb/sieb/format/FilterKind;", sig := { parameters := [], returnType := some (.array (.object "com/example/sieb/sieb/format/FilterKind")) }, accessFlags := 9, code := some k6c0 }
def k6c1 : Code := { maxStack := 2, maxLocals := 5, code := prog_13_method_8_code, exceptionTable := #[], attributes := #[] }
def k6m1 : Method := { name := "fromCode", desc := "(I)Lcom/example/sieb/sieb/format/FilterKind;", sig := { parameters := [.int], returnType := some (.object "com/example/sieb/sieb/format/FilterKind") }, accessFlags := 8, code := some k6c1 }
/-- com/example/sieb/sieb/format/FilterKind -/
def k6 : Class := { plain "com/example/sieb/sieb/format/FilterKind" (some 5) with
  accessFlags := 16433
  interfaces := #[]
  cf := some (fileOf pool6 1 #[] #[{ accessFlags := 9, nameIndex := 45, descriptorIndex := 46, attributes := #[] }, { accessFlags := 8, nameIndex := 77, descriptorIndex := 78, attributes := #[] }] 16433 20 #[] #[{ accessFlags := 16409, nameIndex := 5, descriptorIndex := 6, attributes := #[] }, { accessFlags := 16409, nameIndex := 9, descriptorIndex := 6, attributes := #[] }, { accessFlags := 18, nameIndex := 31, descriptorIndex := 32, attributes := #[] }, { accessFlags := 18, nameIndex := 35, descriptorIndex := 36, attributes := #[] }, { accessFlags := 18, nameIndex := 39, descriptorIndex := 32, attributes := #[] }, { accessFlags := 18, nameIndex := 42, descriptorIndex := 36, attributes := #[] }, { accessFlags := 4122, nameIndex := 12, descriptorIndex := 13, attributes := #[] }])
  fields := #[{ name := "PLAIN", type := (.object "com/example/sieb/sieb/format/FilterKind"), accessFlags := 16409, slot := 0, constantValue := 0 }, { name := "COUNTING", type := (.object "com/example/sieb/sieb/format/FilterKind"), accessFlags := 16409, slot := 1, constantValue := 0 }, { name := "code", type := .int, accessFlags := 18, slot := 3, constantValue := 0 }, { name := "label", type := (.object "java/lang/String"), accessFlags := 18, slot := 4, constantValue := 0 }, { name := "cellBits", type := .int, accessFlags := 18, slot := 5, constantValue := 0 }, { name := "cellName", type := (.object "java/lang/String"), accessFlags := 18, slot := 6, constantValue := 0 }, { name := "$VALUES", type := (.array (.object "com/example/sieb/sieb/format/FilterKind")), accessFlags := 4122, slot := 2, constantValue := 0 }]
  methods := #[k6m0, k6m1]
  instanceTypes := #[(.object "java/lang/String"), .int, .int, .int, (.object "java/lang/String"), .int, (.object "java/lang/String")]
  staticTypes := #[(.object "com/example/sieb/sieb/format/FilterKind"), (.object "com/example/sieb/sieb/format/FilterKind"), (.array (.object "com/example/sieb/sieb/format/FilterKind"))]
  resolved := Array.replicate 86 none
  statics := some 0 }

def pool7 : Array CpInfo := pool [(1, .class_ 2), (0, u "java/lang/Cloneable"), (0, .class_ 4), (0, u "java/lang/Object")] 2

/-- java/lang/Cloneable -/
def k7 : Class := { plain "java/lang/Cloneable" (some 0) with
  accessFlags := 1537
  interfaces := #[]
  cf := some (fileOf pool7 1 #[] #[] 1537 3 #[] #[])
  fields := #[]
  methods := #[]
  instanceTypes := #[]
  staticTypes := #[]
  resolved := Array.replicate 7 none
  statics := none }

/-- the primitive byte -/
def k8 : Class := { plain "byte" none with kind := .primitive 'B', accessFlags := 0x411 }
/-- [B -/
def k9 : Class := { plain "[B" (some 0) with kind := .array 8 .byte, interfaces := #[7, 4], accessFlags := 1041 }

/-- the primitive int -/
def k10 : Class := { plain "int" none with kind := .primitive 'I', accessFlags := 0x411 }
/-- [I -/
def k11 : Class := { plain "[I" (some 0) with kind := .array 10 .int, interfaces := #[7, 4], accessFlags := 1041 }

/-- [Lcom/example/sieb/sieb/format/FilterKind; -/
def k12 : Class := { plain "[Lcom/example/sieb/sieb/format/FilterKind;" (some 0) with kind := .array 6 (.object "com/example/sieb/sieb/format/FilterKind"), interfaces := #[7, 4], accessFlags := 1041 }

def heap : Heap := #[{ cls := 6, slots := #[.ref 2, .ref 3, .ref 1], vm := .statics 6 },
  { cls := 12, slots := #[.ref 2, .ref 3], vm := .none },
  { cls := 6, slots := #[.null, .int 0, .int 0, .int 1, .null, .int 0, .null], vm := .none },
  { cls := 6, slots := #[.null, .int 1, .int 0, .int 2, .null, .int 0, .null], vm := .none }]
def classes : Array Class := #[k0, k1, k2, k3, k4, k5, k6, k7, k8, k9, k10, k11, k12]
def interned : List (Array UInt16 × Addr) := []
def slotsUsed : Nat := 19
def theMethod : MethodId := ⟨1, 1⟩
def args0 : Array Value := #[.int 5, .int 5]
def aboutOver (below : List Frame) : State where
  vm := { classes := classes, interned := interned.toArray }
  heap := heap
  slotsUsed := slotsUsed
  threads := #[{ frames := .invoking theMethod args0 :: below }]
def below0 : List Frame := [.native { method := ⟨0, 0⟩, args := #[] }]
def about1 : State := aboutOver below0
def p0 : Program := .bare "" "" ""
def e0 : Env := launch0.env 0 0 0
theorem w_frames : about1.frames = Frame.invoking theMethod args0 :: below0 := rfl
set_option maxRecDepth 65536 in
theorem w_args : argsFit about1.vm theMethod args0 = true := by decide +kernel
set_option maxRecDepth 65536 in
theorem w_heap : heapFits about1 = true := by decide +kernel
set_option maxRecDepth 65536 in
theorem w_runnable : about1.curStatus? = some .runnable := by decide +kernel
set_option maxRecDepth 65536 in
theorem w_alone : about1.alone = true := by decide +kernel
set_option maxRecDepth 65536 in
theorem w_named : about1.methodNamed? x = some theMethod := by decide +kernel
set_option maxRecDepth 65536 in
theorem w_hears : about1.hears theMethod below0 = true := by decide +kernel
set_option maxRecDepth 65536 in
theorem w_ripe : about1.ripe theMethod args0 below0 = true := by decide +kernel
theorem w_running : about1.status = .running := rfl
set_option maxRecDepth 65536 in
theorem w_room : about1.hasRoom e0.platform room_1 = true :=
  launch0.hasRoom_least _ room_1 (by decide +kernel) (by decide +kernel) (by decide +kernel) (by decide +kernel) (by decide +kernel) (by decide +kernel)
theorem allAtoms_all (ts : List Jvm.Cond) (a : Array Jvm.Value) (st : Jvm.State) : (allAtoms ts).before a st = ts.all (fun c => c.before a st) := by
  induction ts with
  | nil => rfl
  | cons c t ih =>
    show (Jvm.Cond.and c (allAtoms t)).before a st = _
    rw [Jvm.Cond.before_and, ih, List.all_cons]
def words1 : List Jvm.Cond := Jvm.Cond.code x code maxLocals ret :: tables_1
/-- a 'code' word, met by the world's own term for the bytes: nothing is compared byte by byte -/
theorem code_word {y : MethodName} {bytes : ByteArray} {mx : Nat} {rt : Option FieldType} {a : Array Value} {s : State} {m : MethodId} {meth : Method} {c : Code} (h1 : s.methodNamed? y = some m) (h2 : s.vm.method? m = some meth) (h3 : meth.code = some c) (h4 : c.code = bytes)
    (h5 : (c.maxLocals == mx && c.exceptionTable.isEmpty && decide (c.maxStack ≤ mostOperands) && decide (meth.sig.returnType = rt) && !meth.locks && decide (parseMethodDescriptor y.desc = some meth.sig)) = true) : (Jvm.Cond.code y bytes mx rt).before a s = true := by
  simp only [Bool.and_eq_true, beq_iff_eq, Bool.not_eq_true', decide_eq_true_eq] at h5
  obtain ⟨⟨⟨⟨⟨g1, g2⟩, g3⟩, g4⟩, g5⟩, g6⟩ := h5
  simp [Cond.before, Cond.holds, Cond.value, h1, h2, h3, h4, g1, g2, g3, g4, g5, g6]
def isCode : Jvm.Cond → Bool
  | .code _ _ _ _ => true
  | _ => false
theorem all_split {L : List Jvm.Cond} {P : Jvm.Cond → Bool} (h1 : L.all (fun c => isCode c || P c) = true) (h2 : ∀ c ∈ L.filter isCode, P c = true) : L.all P = true := by
  refine List.all_eq_true.mpr fun c hc => ?_
  have h := List.all_eq_true.mp h1 c hc
  rcases Bool.eq_false_or_eq_true (isCode c) with hi | hi
  · exact h2 c (List.mem_filter.mpr ⟨hc, hi⟩)
  · simpa [hi] using h
set_option maxRecDepth 65536 in
theorem w_c0 : (Jvm.Cond.code x code maxLocals ret).before args0 about1 = true := code_word (m := ⟨1, 1⟩) (meth := k1m1) (c := k1c1) (by decide +kernel) rfl rfl rfl (by decide +kernel)
set_option maxRecDepth 65536 in
theorem w_c1 : (Jvm.Cond.code ({ cls := "com/example/sieb/sieb/format/FilterKind", name := "fromCode", desc := "(I)Lcom/example/sieb/sieb/format/FilterKind;" } : Jvm.MethodName) prog_13_method_8_code (5 : Nat) (Option.some (Jvm.ClassFile.FieldType.object "com/example/sieb/sieb/format/FilterKind"))).before args0 about1 = true := code_word (m := ⟨6, 1⟩) (meth := k6m1) (c := k6c1) (by decide +kernel) rfl rfl rfl (by decide +kernel)
set_option maxRecDepth 65536 in
theorem w_c2 : (Jvm.Cond.code ({ cls := "com/example/sieb/sieb/format/FilterKind", name := "values", desc := "()[Lcom/example/sieb/sieb/format/FilterKind;" } : Jvm.MethodName) prog_13_method_1_code (0 : Nat) (Option.some (Jvm.ClassFile.FieldType.array (Jvm.ClassFile.FieldType.object "com/example/sieb/sieb/format/FilterKind")))).before args0 about1 = true := code_word (m := ⟨6, 0⟩) (meth := k6m0) (c := k6c0) (by decide +kernel) rfl rfl rfl (by decide +kernel)
def codes1 : List Jvm.Cond := [Jvm.Cond.code x code maxLocals ret, Jvm.Cond.code ({ cls := "com/example/sieb/sieb/format/FilterKind", name := "fromCode", desc := "(I)Lcom/example/sieb/sieb/format/FilterKind;" } : Jvm.MethodName) prog_13_method_8_code (5 : Nat) (Option.some (Jvm.ClassFile.FieldType.object "com/example/sieb/sieb/format/FilterKind")), Jvm.Cond.code ({ cls := "com/example/sieb/sieb/format/FilterKind", name := "values", desc := "()[Lcom/example/sieb/sieb/format/FilterKind;" } : Jvm.MethodName) prog_13_method_1_code (0 : Nat) (Option.some (Jvm.ClassFile.FieldType.array (Jvm.ClassFile.FieldType.object "com/example/sieb/sieb/format/FilterKind")))]
set_option maxRecDepth 65536 in
theorem codes_eq : words1.filter isCode = codes1 := rfl
theorem w_codes : ∀ c ∈ words1.filter isCode, c.before args0 about1 = true := by
  rw [codes_eq]
  intro c hc
  simp only [codes1, List.mem_cons, List.not_mem_nil, or_false] at hc
  rcases hc with rfl | rfl | rfl
  · exact w_c0
  · exact w_c1
  · exact w_c2
set_option maxRecDepth 65536 in
theorem w_t1 : (words1.take 24).all (fun c => isCode c || c.before args0 about1) = true := by decide +kernel
set_option maxRecDepth 65536 in
theorem w_t2 : (words1.drop 24).all (fun c => isCode c || c.before args0 about1) = true := by decide +kernel
theorem w_tables : (allAtoms (Jvm.Cond.code x code maxLocals ret :: tables_1)).before args0 about1 = true := by
  rw [allAtoms_all]
  show words1.all (fun c => c.before args0 about1) = true
  refine all_split ?_ w_codes
  rw [← List.take_append_drop 24 words1, List.all_append, w_t1, w_t2]
  rfl
set_option maxRecDepth 65536 in
theorem w_case : (Jvm.Cond.and given_1 narrow_1).before args0 about1 = true := by decide +kernel
theorem w_applies : (headSpec (Jvm.Cond.code x code maxLocals ret :: tables_1) room_1).applies x e0.platform about1 = true :=
  (Spec.applies_iff w_frames).mpr ⟨w_running, w_runnable, w_alone, w_named, w_hears, w_ripe, w_room, w_tables⟩
theorem atStart : AtStart classFile x code maxLocals ret World_1 tables_1 room_1 Calls_1 rest_1 Pre_1 launch0 p0 e0 about1 theMethod args0 below0 :=
  ⟨lists_1, trivial, launch0.admits_env _ _ _, launch0.least_env, fairChoices_fair.cas, fairChoices_fair.clock, w_frames, w_args, w_heap, w_applies, trivial, trivial, w_case⟩
end start1
theorem witness_1 : WitnessClaimed_1 := ⟨start1.p0, start1.e0, start1.about1, start1.theMethod, start1.args0, start1.below0, start1.atStart⟩
end Jvm.Pilot.@@N@@
