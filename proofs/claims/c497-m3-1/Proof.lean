import JvmDerived
import JvmDerived.Pilot.@@N@@Statement
import JvmDerived.Pilot.@@N@@Code
set_option linter.unusedVariables false
set_option linter.unusedSimpArgs false
namespace Jvm.RoadKit
open Sem ClassFile Op Lib Jvm.Stand Jvm.Free Jvm.LawKit
section New
variable {p : Program} {l : Launch} {e : Env} {R : Room} {s : State} {m : MethodId} {args : Array Value} {below : List Frame} {meth : Method} {c : Code} {T : State} {locs : List Loc} {cells slots : Nat}
theorem retI (X : Stand p l e R s m args below meth c T locs cells slots) (hx : p.tables.exec = Jvm.exec) {pc : Nat} {Ls : Array Slot} {z : Int32} {rest : List Value} (hret : meth.sig.returnType = some .int) (hd : decode c.code pc = .ok (.ireturn, 1)) {fs : List Frame}
    (hl : ∀ (f : JFrame) (acts : List Action), f.method = m → f.locked = none → f.entered = [] → (doReturn e (T.setTop f) acts (some (.int z))).1 = T.setFrames fs) : Steps p.tables e below (T.setTop (mkF m pc Ls (.int z :: rest))) (T.setFrames fs) := by
  have hm' : T.vm.method? m = some meth := X.method'
  have hn : narrow .int (.int z) = .int z := rfl
  show Steps p.tables e below (T.setTop { method := m, pc := pc, locals := Ls, stack := _ :: rest, locked := none }) _
  jvm_step X.here [X.here.top, hx, hd, hm', hret, hn]
  first | (intro acts; rw [hl _ acts rfl rfl rfl]) | rw [hl _ _ rfl rfl rfl]
  exact Steps.refl _
theorem seg (X : Stand p l e R s m args below meth c T locs cells slots) (P : State → Prop) (h : ∃ T', Stand p l e R s m args below meth c T' locs cells slots ∧ P T') : ∃ T', Stand p l e R s m args below meth c T' locs cells slots ∧ P T' := h
/-- int to char -/
def i2c (x : Int32) : Int32 := x.toUInt32.toUInt16.toUInt32.toInt32
/-- int to byte -/
def own_lo (x : Int32) : Int32 := x.toInt8.toInt32
/-- the unsigned shift of an int -/
def ushr (x y : Int32) : Int32 := (x.toUInt32 >>> (y &&& 31).toUInt32).toInt32
/-- the unsigned shift of a long -/
def ushrJ (x : Int64) (y : Int32) : Int64 := (x.toUInt64 >>> (y &&& 0x3f).toInt64.toUInt64).toInt64
end New
end Jvm.RoadKit
namespace Jvm.Pilot.@@N@@
open Jvm Jvm.ClassFile Sem Op Lib Jvm.Free Jvm.Stand Jvm.LawKit Jvm.RoadKit Bundle Jvm.Pilot.@@N@@.Jvm.D
theorem own_neN {a b : Addr} (h : @Ne Nat a b) : ¬ (a = b) := h
theorem own_narb {q : Prop} [Decidable q] : nar .boolean (if q then (1 : Int32) else (0 : Int32)) = (if q then (1 : Int32) else (0 : Int32)) := by split <;> rfl
theorem own_declares {Z : State} {a0 : Array Value} {y : MethodName} {bytes : ByteArray} {mx : Nat} {r : Option FieldType} (w1 : (Jvm.Cond.instanceMethod y).before a0 Z = true) (w2 : (Jvm.Cond.code y bytes mx r).before a0 Z = true) : (Jvm.Cond.declares y).before a0 Z = true := by
  obtain ⟨mk, meth, h1, h2, h3, -⟩ := Cond.instanceMethod_spec w1
  obtain ⟨meth', c, q1, -, -, -, -, -, -, q2⟩ := Cond.code_spec h1 w2
  cases h2.symm.trans q1
  simp [Cond.before, Cond.holds, Cond.value, h1, h2, h3, q2]
/-- the class of a method that an object selects is no interface -/
theorem own_nf {Z : State} {a0 : Array Value} {y z : MethodName} {C : String} (hz : z.cls = y.cls) (w : (Jvm.Cond.selects C z z).before a0 Z = true) : ∀ r, Z.methodNamed? y = some r → ∃ k, Z.vm.classes[r.cls]? = some k ∧ k.isInterface = false := fun r hr => by
  obtain ⟨c, r2, m2, -, -, q3, -, kP, hkP, hkPi⟩ := Cond.selects_spec w
  have h1 := findClass_of_methodNamed q3
  have h2 := findClass_of_methodNamed hr
  rw [hz, h2] at h1
  rw [Option.some.inj h1]
  exact ⟨kP, hkP, hkPi⟩
/-- a method that its class declares itself is the one that the look-up finds -/
theorem own_same {Z : State} {a0 : Array Value} {y : MethodName} (w1 : (Jvm.Cond.instanceMethod y).before a0 Z = true) (w2 : ∀ r, Z.methodNamed? y = some r → ∃ k, Z.vm.classes[r.cls]? = some k ∧ k.isInterface = false) (hy : y.cls ≠ "java/lang/invoke/MethodHandle" ∧ y.cls ≠ "java/lang/invoke/VarHandle") : (Jvm.Cond.sameMethod y.cls y.cls y.name y.desc).before a0 Z = true := by
  obtain ⟨mk, meth, h1, -⟩ := Cond.instanceMethod_spec w1
  have hc := findClass_of_methodNamed h1
  obtain ⟨k, hk, hi⟩ := w2 mk h1
  have hf := State.methodFound?_of_named h1 hy
  have hk' : Z.vm.classes[mk.cls]? = some k := hk
  simp [Cond.before, Cond.holds, Cond.value, hc, hf, h1, hk', hi]
def own_pick (n : Nat) (a b c : Int32) : Int32 := if n = 0 then a else if n = 1 then b else c
theorem own_up (k : Nat) : Int32.ofNat (k + 1) = Int32.ofNat k + (1 : Int32) := Int32.ofNat_add k 1
theorem own_tn {k : Nat} (h : k < 16) : (Int32.ofNat k).toNatClampNeg = k := (by decide : ∀ k, k < 16 → (Int32.ofNat k).toNatClampNeg = k) k h
theorem own_in {k : Nat} (h : k < 16) : ¬ (Int32.ofNat k) < 0 ∧ (Int32.ofNat k) < (16 : Int32) := (by decide : ∀ k, k < 16 → (¬ (Int32.ofNat k) < 0 ∧ (Int32.ofNat k) < (16 : Int32))) k h
theorem own_nn {k : Nat} (h : k < 16) : ¬ ((Int32.ofNat k) < (0 : Int32)) := (own_in h).1
theorem own_n16 {k : Nat} (h : k < 16) : ¬ ((Int32.ofNat k) = (16 : Int32)) := (by decide : ∀ k, k < 16 → ¬ ((Int32.ofNat k) = (16 : Int32))) k h
theorem own_cap {k : Nat} (h : k < 16) : ¬ ((0 : Int32) < (((Int32.ofNat k) + (1 : Int32)) - ((16 : Int32) >>> ((0 : Int32) &&& 31)))) := (by decide : ∀ k, k < 16 → ¬ ((0 : Int32) < (((Int32.ofNat k) + (1 : Int32)) - ((16 : Int32) >>> ((0 : Int32) &&& 31))))) k h
theorem own_int (z : Int32) (n : Nat) (h : z.toInt = n) : z = Int32.ofNat n := by
  apply Int32.toInt_inj.mp
  rw [h]
  have := z.toInt_lt
  have := z.le_toInt
  rw [Int32.toInt_ofNat_of_lt]
  omega
theorem own_and3 (z : Int32) : ∃ n : Nat, (z &&& (3 : Int32)) = Int32.ofNat n ∧ n < 4 := by
  have h := c_mask z 3 2 (by decide) (by decide)
  refine ⟨(z.toInt % 4).toNat, own_int _ _ ?_, by omega⟩
  rw [h]; omega
theorem own_mod3 (z : Int32) : ∃ n : Nat, ((z &&& (2147483647 : Int32)) % (3 : Int32)) = Int32.ofNat n ∧ n < 3 := by
  have h := c_mask z 2147483647 31 (by decide) (by decide)
  have h2 := (c_irem (z &&& (2147483647 : Int32)) 3 3 (by decide)).1 (by rw [h]; omega)
  refine ⟨((z &&& (2147483647 : Int32)).toInt % 3).toNat, own_int _ _ ?_, by omega⟩
  rw [h2]; omega
theorem own_fin0 : ∀ a, a < 4 → ∀ b, b < 4 → ∀ c, c < 4 → ∀ n, n < 3 →
  (if (own_pick n (0 : Int32) (Int32.ofNat (0 + a)) (Int32.ofNat ((0 + a) + b))) = (if (Int32.ofNat n) = (0 : Int32) then (0 : Int32) else (if (Int32.ofNat n) = (1 : Int32) then (Int32.ofNat a) else ((Int32.ofNat a) + (Int32.ofNat b)))) then
    (if ((own_pick n (Int32.ofNat (0 + a)) (Int32.ofNat ((0 + a) + b)) (Int32.ofNat (((0 + a) + b) + c))) - (own_pick n (0 : Int32) (Int32.ofNat (0 + a)) (Int32.ofNat ((0 + a) + b)))) = (if (Int32.ofNat n) = (0 : Int32) then (Int32.ofNat a) else (if (Int32.ofNat n) = (1 : Int32) then (Int32.ofNat b) else (Int32.ofNat c))) then (1 : Int32) else (0 : Int32)) else (0 : Int32)) = 1 := by
  decide +kernel
theorem own_fin (a b c n : Nat) (ha : a < 4) (hb : b < 4) (hc : c < 4) (hn : n < 3) :
  (if (own_pick n (0 : Int32) (Int32.ofNat (0 + a)) (Int32.ofNat ((0 + a) + b))) = (if (Int32.ofNat n) = (0 : Int32) then (0 : Int32) else (if (Int32.ofNat n) = (1 : Int32) then (Int32.ofNat a) else ((Int32.ofNat a) + (Int32.ofNat b)))) then
    (if ((own_pick n (Int32.ofNat (0 + a)) (Int32.ofNat ((0 + a) + b)) (Int32.ofNat (((0 + a) + b) + c))) - (own_pick n (0 : Int32) (Int32.ofNat (0 + a)) (Int32.ofNat ((0 + a) + b)))) = (if (Int32.ofNat n) = (0 : Int32) then (Int32.ofNat a) else (if (Int32.ofNat n) = (1 : Int32) then (Int32.ofNat b) else (Int32.ofNat c))) then (1 : Int32) else (0 : Int32)) else (0 : Int32)) = 1 := own_fin0 a ha b hb c hc n hn
theorem pn_java_lang_AbstractStringBuilder : plainName "java/lang/AbstractStringBuilder" = true := by first | (simp [plainName, overriddenIn]; done) | decide +kernel
theorem d_jdk_68_method_2_0 : decode jdk_68_method_2_code 0 = .ok (.aload_n 0, 1) := by decide +kernel
theorem d_jdk_68_method_2_1 : decode jdk_68_method_2_code 1 = .ok (.invokespecial 3, 3) := by decide +kernel
theorem d_jdk_68_method_2_4 : decode jdk_68_method_2_code 4 = .ok (.getstatic 18, 3) := by decide +kernel
theorem d_jdk_68_method_2_7 : decode jdk_68_method_2_code 7 = .ok (.ifCond .eq 18, 3) := by decide +kernel
theorem d_jdk_68_method_2_10 : decode jdk_68_method_2_code 10 = .ok (.aload_n 0, 1) := by decide +kernel
theorem d_jdk_68_method_2_11 : decode jdk_68_method_2_code 11 = .ok (.iload_n 1, 1) := by decide +kernel
theorem d_jdk_68_method_2_12 : decode jdk_68_method_2_code 12 = .ok (.newarray .byte, 2) := by decide +kernel
theorem d_jdk_68_method_2_14 : decode jdk_68_method_2_code 14 = .ok (.putfield 15, 3) := by decide +kernel
theorem d_jdk_68_method_2_17 : decode jdk_68_method_2_code 17 = .ok (.aload_n 0, 1) := by decide +kernel
theorem d_jdk_68_method_2_18 : decode jdk_68_method_2_code 18 = .ok (.iconst 0, 1) := by decide +kernel
theorem d_jdk_68_method_2_19 : decode jdk_68_method_2_code 19 = .ok (.putfield 22, 3) := by decide +kernel
theorem d_jdk_68_method_2_22 : decode jdk_68_method_2_code 22 = .ok (.goto 16, 3) := by decide +kernel
theorem d_jdk_68_method_2_38 : decode jdk_68_method_2_code 38 = .ok (.return_, 1) := by decide +kernel
theorem ef_rmASBi (m : MethodId) (x0 : Addr) (x1 : Int32) : entryFrame m #[(.ref x0), (.int x1)] 2 = mkF m 0 #[.val (.ref x0), .val (.int x1)] [] := by first | (simp [entryFrame, mkF, argsToLocals, Value.category]; done) | rfl
def Q_rmASBi (Z : State) (b : Addr) (cst : Int32) (h0 : Heap) (n0 : Nat) (v : Option Value) (h : Heap) (L : List Loc) : Prop := ∃ (va : Addr), ∃ (kc : ClassId), (v = none) ∧ (Fr n0 L) ∧ (Keep h0 h [b]) ∧ (Exa Z h b "java/lang/StringBuilder") ∧ (Fld Z h b "java/lang/AbstractStringBuilder" "value" "[B" (.ref va)) ∧ (Fld Z h b "java/lang/AbstractStringBuilder" "coder" "B" (.int (0 : Int32))) ∧ (Fld Z h b "java/lang/AbstractStringBuilder" "count" "I" (.int (0 : Int32))) ∧ (Fld Z h b "java/lang/AbstractStringBuilder" "maybeLatin1" "Z" (.int (0 : Int32))) ∧ (Arv Z h va kc .byte (16 : Int32) [(.int (0 : Int32)), (.int (0 : Int32)), (.int (0 : Int32)), (.int (0 : Int32)), (.int (0 : Int32)), (.int (0 : Int32)), (.int (0 : Int32)), (.int (0 : Int32)), (.int (0 : Int32)), (.int (0 : Int32)), (.int (0 : Int32)), (.int (0 : Int32)), (.int (0 : Int32)), (.int (0 : Int32)), (.int (0 : Int32)), (.int (0 : Int32))] (.int (0 : Int32))) ∧ (h0.size ≤ va)
set_option maxRecDepth 65536 in
set_option maxHeartbeats 40000000 in
theorem rmASBi (l : Launch) (Z : State) (a0 : Array Value) (hw : ∀ d ∈ tables_1, d.before a0 Z = true) (ws : List Jvm.Cond) (b : Addr) (cst : Int32) (h0 : Heap) (n0 : Nat) (Z0 : n0 ≤ h0.size) (I1 : Sta Z Z.heap "java/lang/String" "COMPACT_STRINGS" "Z" (.int cst)) (OX : Old Z n0 h0) (hcst : ¬ (cst = (0 : Int32))) (I2 : Exa Z h0 b "java/lang/StringBuilder") (I3 : Fld Z h0 b "java/lang/AbstractStringBuilder" "value" "[B" .null) (I4 : Fld Z h0 b "java/lang/AbstractStringBuilder" "coder" "B" (.int (0 : Int32))) (I5 : Fld Z h0 b "java/lang/AbstractStringBuilder" "count" "I" (.int (0 : Int32))) (I6 : Fld Z h0 b "java/lang/AbstractStringBuilder" "maybeLatin1" "Z" (.int (0 : Int32))) (gb : n0 ≤ b) :
    MetFree l (⟨"java/lang/AbstractStringBuilder", "<init>", "(I)V"⟩ : MethodName) (head1 (Jvm.Cond.code (⟨"java/lang/AbstractStringBuilder", "<init>", "(I)V"⟩ : MethodName) jdk_68_method_2_code 2 none :: ws) ({ frames := 1, cells := 1, slots := 16, locals := 12 } : Room)) (fun ar_ U => ar_ = #[(.ref b), (.int (16 : Int32))] ∧ Z.Warmed39 U.vm ∧ U.heap = h0) (fun _ _ _ _ _ => True) (fun _ U o U' => ∃ v L, o = .returned v ∧ Q_rmASBi Z b cst h0 n0 v U'.heap L ∧ FrameEnd U o U' L ({ frames := 1, cells := 1, slots := 16, locals := 12 } : Room).cells ({ frames := 1, cells := 1, slots := 16, locals := 12 } : Room).slots) := by
  refine MetFree.of_bodySF (plainFor_of_name pn_java_lang_AbstractStringBuilder) hisR ?_
  intro p e s m args below meth c s₁ Bd hml0 hP hK
  obtain ⟨rfl, hZ, hh⟩ := hP
  have hx := Bd.exec
  have hby := Bd.bytes
  have hml : c.maxLocals = 2 := hml0
  have hown : s.vm.findClass "java/lang/AbstractStringBuilder" = some m.cls := findClass_of_methodNamed Bd.named
  have hnm := (name_of_methodNamed Bd.named Bd.method).1
  have X0 : Stand p l e ({ frames := 1, cells := 1, slots := 16, locals := 12 } : Room) s m #[(.ref b), (.int (16 : Int32))] below meth c s₁ [] 0 0 := Stand.of_body Bd
  have e0 : s₁.heap = h0 := by rw [← hh, Bd.state]; rfl
  have N0 := Fr.nil n0
  have pre0 : ∀ t_, Steps p.tables e below (s₁.setTop (mkF m 0 #[.val (.ref b), .val (.int (16 : Int32))] [])) t_ → Steps p.tables e below (s₁.setTop (entryFrame m #[(.ref b), (.int (16 : Int32))] 2)) t_ := fun t_ k_ => castTop (ef_rmASBi m b (16 : Int32)) k_
  have lt_I2 : @LT.lt Nat _ b h0.size := I2.lt
  have lt_I3 : @LT.lt Nat _ b h0.size := I3.lt
  have lt_I4 : @LT.lt Nat _ b h0.size := I4.lt
  have lt_I5 : @LT.lt Nat _ b h0.size := I5.lt
  have lt_I6 : @LT.lt Nat _ b h0.size := I6.lt
  obtain ⟨T1, X1, e1, st1⟩ := initO X0 hx hZ hown (hw _ (List.mem_of_getElem? (i := 22) rfl)) (hw _ (List.mem_of_getElem? (i := 8) rfl)) (hw _ (List.mem_of_getElem? (i := 9) rfl)) e0 (g := (mkF m 1 #[.val (.ref b), .val (.int (16 : Int32))] [(.ref b)])) rfl (by rw [hml]; rfl) rfl (Jvm.hb hby d_jdk_68_method_2_1) (by decide) (W := 0) (by show 2 * 0 + _ ≤ _; exact Nat.le_of_eq rfl) (by decide)
  obtain ⟨T2, X2, e2, st2⟩ := getS2 X1 hx hZ hown (host := "") (Or.inl (hw _ (List.mem_of_getElem? (i := 23) rfl))) Via.refl e1 (I1.ext OX.2) (g := (mkF m 4 #[.val (.ref b), .val (.int (16 : Int32))] [])) rfl (Jvm.hb hby d_jdk_68_method_2_4)
  obtain ⟨T3, h3, k3, X3, e3, E3, A3, st3⟩ := newP X2 hx hZ (hw _ (List.mem_of_getElem? (i := 25) rfl)) e2 (g := (mkF m 12 #[.val (.ref b), .val (.int (16 : Int32))] [(.int (16 : Int32)), (.ref b)])) rfl (Jvm.hb hby d_jdk_68_method_2_12) rfl (by decide) (cap := 16) (by decide) (by decide) (by decide) (by decide)
  obtain ⟨b3, g3⟩ : ∃ z, z = h0.size := ⟨_, rfl⟩
  rw [← g3] at A3 st3
  have z4 : h0.size ≤ h3.size := E3.1
  have l3 : b3 < h3.size := A3.lt
  have V3 : Arv Z h3 b3 k3 .byte (16 : Int32) [(.int (0 : Int32)), (.int (0 : Int32)), (.int (0 : Int32)), (.int (0 : Int32)), (.int (0 : Int32)), (.int (0 : Int32)), (.int (0 : Int32)), (.int (0 : Int32)), (.int (0 : Int32)), (.int (0 : Int32)), (.int (0 : Int32)), (.int (0 : Int32)), (.int (0 : Int32)), (.int (0 : Int32)), (.int (0 : Int32)), (.int (0 : Int32))] (.int (0 : Int32)) := (Arv.new A3 (by decide)).pad (pad_rep [] (.int (0 : Int32)) 16)
  have f5 : Exa Z h3 b "java/lang/StringBuilder" := (I2.ext E3)
  have f6 : Fld Z h3 b "java/lang/AbstractStringBuilder" "value" "[B" .null := (I3.ext E3)
  obtain ⟨T7, h7, X7, e7, W7, st7⟩ := putF X3 hx hZ hown (host := "") (Or.inl (hw _ (List.mem_of_getElem? (i := 26) rfl))) Via.refl e3 f6 f5 (Or.inl (hw _ (List.mem_of_getElem? (i := 27) rfl))) (hw _ (List.mem_of_getElem? (i := 11) rfl)) (ty := (.array .byte)) (by decide) rfl rfl (g := (mkF m 14 #[.val (.ref b), .val (.int (16 : Int32))] [(.ref b3), (.ref b)])) rfl rfl (Jvm.hb hby d_jdk_68_method_2_14)
  have z8 : h3.size ≤ h7.size := Nat.le_of_eq W7.size.symm
  have F7 : Fld Z h7 b "java/lang/AbstractStringBuilder" "value" "[B" (.ref b3) := f6.same W7
  have N7 := Fr.snoc X7 N0 (show n0 ≤ b by omega)
  have f9 : Exa Z h7 b "java/lang/StringBuilder" := (f5.wr W7)
  have f10 : Fld Z h7 b "java/lang/AbstractStringBuilder" "coder" "B" (.int (0 : Int32)) := ((I4.ext E3).other W7 (Or.inr (slot_ne (Or.inl (hw _ (List.mem_of_getElem? (i := 29) rfl))) (Or.inl (hw _ (List.mem_of_getElem? (i := 27) rfl))) (by decide) (t := .byte) (t' := (.array .byte)) (by decide) (by decide))))
  obtain ⟨T11, h11, X11, e11, W11, st11⟩ := putFN X7 hx hZ hown (hw _ (List.mem_of_getElem? (i := 28) rfl)) Via.refl e7 f10 f9 (Or.inl (hw _ (List.mem_of_getElem? (i := 29) rfl))) (hw _ (List.mem_of_getElem? (i := 11) rfl)) (ty := .byte) (v' := (.int (0 : Int32))) (by decide) rfl rfl (g := (mkF m 19 #[.val (.ref b), .val (.int (16 : Int32))] [(.int (0 : Int32)), (.ref b)])) rfl rfl (Jvm.hb hby d_jdk_68_method_2_19)
  have z12 : h7.size ≤ h11.size := Nat.le_of_eq W11.size.symm
  have F11 : Fld Z h11 b "java/lang/AbstractStringBuilder" "coder" "B" (.int (0 : Int32)) := f10.same W11
  have N11 := Fr.snoc X11 N7 (show n0 ≤ b by omega)
  have s13 : ∀ t_, Steps p.tables e below (T11.setTop (mkF m 38 #[.val (.ref b), .val (.int (16 : Int32))] [])) t_ → Steps p.tables e below (s₁.setTop (entryFrame m #[(.ref b), (.int (16 : Int32))] 2)) t_ := fun t_ k_ => pre0 t_ (by
    show Steps p.tables e below (s₁.setTop (mkF m 0 #[.val (.ref b), .val (.int (16 : Int32))] [])) t_
    refine XS.aloadN X0.here hx rfl (Jvm.hb hby d_jdk_68_method_2_0) rfl rfl ?_
    show Steps p.tables e below (s₁.setTop (mkF m 1 #[.val (.ref b), .val (.int (16 : Int32))] [(.ref b)])) _
    refine st1 _ ?_
    show Steps p.tables e below (T1.setTop (mkF m 4 #[.val (.ref b), .val (.int (16 : Int32))] [])) _
    refine st2 _ ?_
    show Steps p.tables e below (T2.setTop (mkF m 7 #[.val (.ref b), .val (.int (16 : Int32))] [(.int cst)])) _
    refine XS.ifNo X2.here hx rfl (Jvm.hb hby d_jdk_68_method_2_7) rfl ((if0 _ _).trans (feq hcst).1) ?_
    show Steps p.tables e below (T2.setTop (mkF m 10 #[.val (.ref b), .val (.int (16 : Int32))] [])) _
    refine XS.aloadN X2.here hx rfl (Jvm.hb hby d_jdk_68_method_2_10) rfl rfl ?_
    show Steps p.tables e below (T2.setTop (mkF m 11 #[.val (.ref b), .val (.int (16 : Int32))] [(.ref b)])) _
    refine XS.iloadN X2.here hx rfl (Jvm.hb hby d_jdk_68_method_2_11) rfl ?_
    show Steps p.tables e below (T2.setTop (mkF m 12 #[.val (.ref b), .val (.int (16 : Int32))] [(.int (16 : Int32)), (.ref b)])) _
    refine st3 _ ?_
    show Steps p.tables e below (T3.setTop (mkF m 14 #[.val (.ref b), .val (.int (16 : Int32))] [(.ref b3), (.ref b)])) _
    refine st7 _ ?_
    show Steps p.tables e below (T7.setTop (mkF m 17 #[.val (.ref b), .val (.int (16 : Int32))] [])) _
    refine XS.aloadN X7.here hx rfl (Jvm.hb hby d_jdk_68_method_2_17) rfl rfl ?_
    show Steps p.tables e below (T7.setTop (mkF m 18 #[.val (.ref b), .val (.int (16 : Int32))] [(.ref b)])) _
    refine XS.iconst X7.here hx rfl (Jvm.hb hby d_jdk_68_method_2_18) ?_
    show Steps p.tables e below (T7.setTop (mkF m 19 #[.val (.ref b), .val (.int (16 : Int32))] [(.int (0 : Int32)), (.ref b)])) _
    refine st11 _ ?_
    show Steps p.tables e below (T11.setTop (mkF m 22 #[.val (.ref b), .val (.int (16 : Int32))] [])) _
    refine XS.goto X11.here hx rfl (pc0 := 22) (pc' := 38) rfl (Jvm.hb hby d_jdk_68_method_2_22) (by decide) (by decide) ?_
    show Steps p.tables e below (T11.setTop (mkF m 38 #[.val (.ref b), .val (.int (16 : Int32))] [])) _
    show Steps p.tables e below (T11.setTop (mkF m 38 #[.val (.ref b), .val (.int (16 : Int32))] [])) t_
    exact k_)
  obtain ⟨fs, hr, hrun, hended, hW, hsame⟩ := X11.leave (v := none) (fun _ => rfl)
  have f14 : Exa Z h11 b "java/lang/StringBuilder" := (f9.wr W11)
  have f15 : Fld Z h11 b "java/lang/AbstractStringBuilder" "value" "[B" (.ref b3) := (F7.other W11 (Or.inr (slot_ne (Or.inl (hw _ (List.mem_of_getElem? (i := 27) rfl))) (Or.inl (hw _ (List.mem_of_getElem? (i := 29) rfl))) (by decide) (t := (.array .byte)) (t' := .byte) (by decide) (by decide))))
  have f16 : Fld Z h11 b "java/lang/AbstractStringBuilder" "count" "I" (.int (0 : Int32)) := (((I5.ext E3).other W7 (Or.inr (slot_ne (Or.inl (hw _ (List.mem_of_getElem? (i := 62) rfl))) (Or.inl (hw _ (List.mem_of_getElem? (i := 27) rfl))) (by decide) (t := .int) (t' := (.array .byte)) (by decide) (by decide)))).other W11 (Or.inr (slot_ne (Or.inl (hw _ (List.mem_of_getElem? (i := 62) rfl))) (Or.inl (hw _ (List.mem_of_getElem? (i := 29) rfl))) (by decide) (t := .int) (t' := .byte) (by decide) (by decide))))
  have f17 : Fld Z h11 b "java/lang/AbstractStringBuilder" "maybeLatin1" "Z" (.int (0 : Int32)) := (((I6.ext E3).other W7 (Or.inr (slot_ne (Or.inl (hw _ (List.mem_of_getElem? (i := 111) rfl))) (Or.inl (hw _ (List.mem_of_getElem? (i := 27) rfl))) (by decide) (t := .boolean) (t' := (.array .byte)) (by decide) (by decide)))).other W11 (Or.inr (slot_ne (Or.inl (hw _ (List.mem_of_getElem? (i := 111) rfl))) (Or.inl (hw _ (List.mem_of_getElem? (i := 29) rfl))) (by decide) (t := .boolean) (t' := .byte) (by decide) (by decide))))
  have f18 : Arv Z h11 b3 k3 .byte (16 : Int32) [(.int (0 : Int32)), (.int (0 : Int32)), (.int (0 : Int32)), (.int (0 : Int32)), (.int (0 : Int32)), (.int (0 : Int32)), (.int (0 : Int32)), (.int (0 : Int32)), (.int (0 : Int32)), (.int (0 : Int32)), (.int (0 : Int32)), (.int (0 : Int32)), (.int (0 : Int32)), (.int (0 : Int32)), (.int (0 : Int32)), (.int (0 : Int32))] (.int (0 : Int32)) := ((V3.other W7 (show @Ne Nat b3 b by omega)).other W11 (show @Ne Nat b3 b by omega))
  refine ⟨_, _, s13 _ ?_, hrun, hended, _, _, rfl, ?_, ⟨_, rfl⟩, hW, hsame.mono (by decide) (by decide)⟩
  · show Steps p.tables e below (T11.setTop (mkF m 38 #[.val (.ref b), .val (.int (16 : Int32))] [])) _
    exact X11.returnOut hx Bd.returns (Jvm.hb hby d_jdk_68_method_2_38) hr
  · show Q_rmASBi Z _ _ h0 n0 _ T11.heap _
    rw [e11]
    exact ⟨b3, k3, rfl, N11, ((((Keep.refl h0 [b]).ext E3).wr W7 (Or.inl (by simp))).wr W11 (Or.inl (by simp))), f14, f15, F11, f16, f17, f18, by omega⟩
theorem pn_java_lang_StringBuilder : plainName "java/lang/StringBuilder" = true := by first | (simp [plainName, overriddenIn]; done) | decide +kernel
theorem d_jdk_67_method_1_0 : decode jdk_67_method_1_code 0 = .ok (.aload_n 0, 1) := by decide +kernel
theorem d_jdk_67_method_1_1 : decode jdk_67_method_1_code 1 = .ok (.bipush 16, 2) := by decide +kernel
theorem pd__I_V : parseMethodDescriptor "(I)V" = some ⟨[.int], none⟩ := by decide +kernel
theorem d_jdk_67_method_1_3 : decode jdk_67_method_1_code 3 = .ok (.invokespecial 1, 3) := by decide +kernel
theorem d_jdk_67_method_1_6 : decode jdk_67_method_1_code 6 = .ok (.return_, 1) := by decide +kernel
theorem ef_rmSBi (m : MethodId) (x0 : Addr) : entryFrame m #[(.ref x0)] 1 = mkF m 0 #[.val (.ref x0)] [] := by first | (simp [entryFrame, mkF, argsToLocals, Value.category]; done) | rfl
def Q_rmSBi (Z : State) (b : Addr) (cst : Int32) (h0 : Heap) (n0 : Nat) (v : Option Value) (h : Heap) (L : List Loc) : Prop := ∃ (va : Addr), ∃ (kc : ClassId), (v = none) ∧ (Fr n0 L) ∧ (Keep h0 h [b]) ∧ (Exa Z h b "java/lang/StringBuilder") ∧ (Fld Z h b "java/lang/AbstractStringBuilder" "value" "[B" (.ref va)) ∧ (Fld Z h b "java/lang/AbstractStringBuilder" "coder" "B" (.int (0 : Int32))) ∧ (Fld Z h b "java/lang/AbstractStringBuilder" "count" "I" (.int (0 : Int32))) ∧ (Fld Z h b "java/lang/AbstractStringBuilder" "maybeLatin1" "Z" (.int (0 : Int32))) ∧ (Arv Z h va kc .byte (16 : Int32) [(.int (0 : Int32)), (.int (0 : Int32)), (.int (0 : Int32)), (.int (0 : Int32)), (.int (0 : Int32)), (.int (0 : Int32)), (.int (0 : Int32)), (.int (0 : Int32)), (.int (0 : Int32)), (.int (0 : Int32)), (.int (0 : Int32)), (.int (0 : Int32)), (.int (0 : Int32)), (.int (0 : Int32)), (.int (0 : Int32)), (.int (0 : Int32))] (.int (0 : Int32))) ∧ (h0.size ≤ va)
set_option maxRecDepth 65536 in
set_option maxHeartbeats 40000000 in
theorem rmSBi (l : Launch) (Z : State) (a0 : Array Value) (hw : ∀ d ∈ tables_1, d.before a0 Z = true) (ws : List Jvm.Cond) (b : Addr) (cst : Int32) (h0 : Heap) (n0 : Nat) (Z0 : n0 ≤ h0.size) (I1 : Sta Z Z.heap "java/lang/String" "COMPACT_STRINGS" "Z" (.int cst)) (OX : Old Z n0 h0) (hcst : ¬ (cst = (0 : Int32))) (I2 : Exa Z h0 b "java/lang/StringBuilder") (I3 : Fld Z h0 b "java/lang/AbstractStringBuilder" "value" "[B" .null) (I4 : Fld Z h0 b "java/lang/AbstractStringBuilder" "coder" "B" (.int (0 : Int32))) (I5 : Fld Z h0 b "java/lang/AbstractStringBuilder" "count" "I" (.int (0 : Int32))) (I6 : Fld Z h0 b "java/lang/AbstractStringBuilder" "maybeLatin1" "Z" (.int (0 : Int32))) (gb : n0 ≤ b) :
    MetFree l (⟨"java/lang/StringBuilder", "<init>", "()V"⟩ : MethodName) (head1 (Jvm.Cond.code (⟨"java/lang/StringBuilder", "<init>", "()V"⟩ : MethodName) jdk_67_method_1_code 1 none :: ws) ({ frames := 2, cells := 1, slots := 16, locals := 25 } : Room)) (fun ar_ U => ar_ = #[(.ref b)] ∧ Z.Warmed39 U.vm ∧ U.heap = h0) (fun _ _ _ _ _ => True) (fun _ U o U' => ∃ v L, o = .returned v ∧ Q_rmSBi Z b cst h0 n0 v U'.heap L ∧ FrameEnd U o U' L ({ frames := 2, cells := 1, slots := 16, locals := 25 } : Room).cells ({ frames := 2, cells := 1, slots := 16, locals := 25 } : Room).slots) := by
  refine MetFree.of_bodySF (plainFor_of_name pn_java_lang_StringBuilder) hisR ?_
  intro p e s m args below meth c s₁ Bd hml0 hP hK
  obtain ⟨rfl, hZ, hh⟩ := hP
  have hx := Bd.exec
  have hby := Bd.bytes
  have hml : c.maxLocals = 1 := hml0
  have hown : s.vm.findClass "java/lang/StringBuilder" = some m.cls := findClass_of_methodNamed Bd.named
  have hnm := (name_of_methodNamed Bd.named Bd.method).1
  have X0 : Stand p l e ({ frames := 2, cells := 1, slots := 16, locals := 25 } : Room) s m #[(.ref b)] below meth c s₁ [] 0 0 := Stand.of_body Bd
  have e0 : s₁.heap = h0 := by rw [← hh, Bd.state]; rfl
  have N0 := Fr.nil n0
  have pre0 : ∀ t_, Steps p.tables e below (s₁.setTop (mkF m 0 #[.val (.ref b)] [])) t_ → Steps p.tables e below (s₁.setTop (entryFrame m #[(.ref b)] 1)) t_ := fun t_ k_ => castTop (ef_rmSBi m b) k_
  have lt_I2 : @LT.lt Nat _ b h0.size := I2.lt
  have lt_I3 : @LT.lt Nat _ b h0.size := I3.lt
  have lt_I4 : @LT.lt Nat _ b h0.size := I4.lt
  have lt_I5 : @LT.lt Nat _ b h0.size := I5.lt
  have lt_I6 : @LT.lt Nat _ b h0.size := I6.lt
  have Zc1 : n0 ≤ h0.size := by omega
  obtain ⟨_, _, ⟨T2, L2, k2, n2⟩, -, X2, ⟨Lc2, hQ2, l2, y2, z2⟩, st2⟩ := X0.specialBack hx (y := (⟨"java/lang/AbstractStringBuilder", "<init>", "(I)V"⟩ : MethodName)) rfl hown (mvT hZ (hw _ (List.mem_of_getElem? (i := 16) rfl))) (mvT hZ (hw _ (List.mem_of_getElem? (i := 17) rfl))) (mvT hZ (hw _ (List.mem_of_getElem? (i := 21) rfl))) (by decide) (backOf (W := 0) (rmASBi l Z a0 hw [] b cst h0 n0 Zc1 I1 OX (hcst : ¬ (cst = (0 : Int32))) I2 I3 I4 I5 I6 (gb : n0 ≤ b)) hZ (hw _ (List.mem_of_getElem? (i := 21) rfl)) (hw _ (List.mem_of_getElem? (i := 20) rfl)) (by decide) (by decide)) (g := (mkF m 3 #[.val (.ref b)] [(.int (16 : Int32)), (.ref b)])) rfl (by rw [hml]; rfl) (Steps.refl _) (a := b) (argsL := [(.int (16 : Int32))]) (rest := []) (lenOf pd__I_V rfl) rfl (by show 2 * 0 + _ ≤ _; exact Nat.le_of_eq rfl) (Jvm.hb hby d_jdk_67_method_1_3) (fun _ _ => ⟨rfl, e0, (by decide : 0 + 1 ≤ _), (by decide : 0 + 16 ≤ _)⟩)
  dsimp only [Pt.U, Pt.locs, Pt.cells, Pt.slots] at X2 l2 y2 z2 st2 hQ2
  subst l2 y2 z2
  obtain ⟨va_2, kc_2, rfl, N2q, K2, Fq2_0, Fq2_1, Fq2_2, Fq2_3, Fq2_4, Fq2_5, P2_0⟩ := hQ2
  have N2 := Fr.app N0 N2q
  obtain ⟨h2, e2⟩ : ∃ z, T2.heap = z := ⟨_, rfl⟩
  rw [e2] at K2 Fq2_0 Fq2_1 Fq2_2 Fq2_3 Fq2_4 Fq2_5
  have z3 : h0.size ≤ h2.size := K2.1
  have lt2_0 : @LT.lt Nat _ b h2.size := Fq2_0.lt
  have lt2_5 : @LT.lt Nat _ va_2 h2.size := Fq2_5.lt
  have s4 : ∀ t_, Steps p.tables e below (T2.setTop (mkF m 6 #[.val (.ref b)] [])) t_ → Steps p.tables e below (s₁.setTop (entryFrame m #[(.ref b)] 1)) t_ := fun t_ k_ => pre0 t_ (by
    show Steps p.tables e below (s₁.setTop (mkF m 0 #[.val (.ref b)] [])) t_
    refine XS.aloadN X0.here hx rfl (Jvm.hb hby d_jdk_67_method_1_0) rfl rfl ?_
    show Steps p.tables e below (s₁.setTop (mkF m 1 #[.val (.ref b)] [(.ref b)])) _
    refine XS.bipush X0.here hx rfl (Jvm.hb hby d_jdk_67_method_1_1) ?_
    show Steps p.tables e below (s₁.setTop (mkF m 3 #[.val (.ref b)] [(.int (16 : Int32)), (.ref b)])) _
    refine st2.trans ?_
    show Steps p.tables e below (T2.setTop (mkF m 6 #[.val (.ref b)] [])) _
    show Steps p.tables e below (T2.setTop (mkF m 6 #[.val (.ref b)] [])) t_
    exact k_)
  obtain ⟨fs, hr, hrun, hended, hW, hsame⟩ := X2.leave (v := none) (fun _ => rfl)
  refine ⟨_, _, s4 _ ?_, hrun, hended, _, _, rfl, ?_, ⟨_, rfl⟩, hW, hsame.mono (by decide) (by decide)⟩
  · show Steps p.tables e below (T2.setTop (mkF m 6 #[.val (.ref b)] [])) _
    exact X2.returnOut hx Bd.returns (Jvm.hb hby d_jdk_67_method_1_6) hr
  · show Q_rmSBi Z _ _ h0 n0 _ T2.heap _
    rw [e2]
    exact ⟨va_2, kc_2, rfl, N2, ((Keep.refl h0 [b]).trans K2 (allS (Or.inl (by simp)) all0)), Fq2_0, Fq2_1, Fq2_2, Fq2_3, Fq2_4, Fq2_5, by omega⟩
theorem d_jdk_68_method_6_0 : decode jdk_68_method_6_code 0 = .ok (.aload_n 0, 1) := by decide +kernel
theorem d_jdk_68_method_6_1 : decode jdk_68_method_6_code 1 = .ok (.getfield 79, 3) := by decide +kernel
theorem d_jdk_68_method_6_4 : decode jdk_68_method_6_code 4 = .ok (.ireturn, 1) := by decide +kernel
theorem ef_rmALen (m : MethodId) (x0 : Addr) : entryFrame m #[(.ref x0)] 1 = mkF m 0 #[.val (.ref x0)] [] := by first | (simp [entryFrame, mkF, argsToLocals, Value.category]; done) | rfl
def Q_rmALen (Z : State) (b : Addr) (cn : Int32) (h0 : Heap) (n0 : Nat) (v : Option Value) (h : Heap) (L : List Loc) : Prop := (v = some (.int cn)) ∧ (Fr n0 L) ∧ (h = h0)
set_option maxRecDepth 65536 in
set_option maxHeartbeats 40000000 in
theorem rmALen (l : Launch) (Z : State) (a0 : Array Value) (hw : ∀ d ∈ tables_1, d.before a0 Z = true) (ws : List Jvm.Cond) (b : Addr) (cn : Int32) (h0 : Heap) (n0 : Nat) (Z0 : n0 ≤ h0.size) (I1 : Exa Z h0 b "java/lang/StringBuilder") (I2 : Fld Z h0 b "java/lang/AbstractStringBuilder" "count" "I" (.int cn)) :
    MetFree l (⟨"java/lang/AbstractStringBuilder", "length", "()I"⟩ : MethodName) (head1 (Jvm.Cond.code (⟨"java/lang/AbstractStringBuilder", "length", "()I"⟩ : MethodName) jdk_68_method_6_code 1 (some .int) :: ws) ({ frames := 0, cells := 0, slots := 0, locals := 0 } : Room)) (fun ar_ U => ar_ = #[(.ref b)] ∧ Z.Warmed39 U.vm ∧ U.heap = h0) (fun _ _ _ _ _ => True) (fun _ U o U' => ∃ v L, o = .returned v ∧ Q_rmALen Z b cn h0 n0 v U'.heap L ∧ FrameEnd U o U' L ({ frames := 0, cells := 0, slots := 0, locals := 0 } : Room).cells ({ frames := 0, cells := 0, slots := 0, locals := 0 } : Room).slots) := by
  refine MetFree.of_bodySF (plainFor_of_name pn_java_lang_AbstractStringBuilder) hisR ?_
  intro p e s m args below meth c s₁ Bd hml0 hP hK
  obtain ⟨rfl, hZ, hh⟩ := hP
  have hx := Bd.exec
  have hby := Bd.bytes
  have hml : c.maxLocals = 1 := hml0
  have hown : s.vm.findClass "java/lang/AbstractStringBuilder" = some m.cls := findClass_of_methodNamed Bd.named
  have hnm := (name_of_methodNamed Bd.named Bd.method).1
  have X0 : Stand p l e ({ frames := 0, cells := 0, slots := 0, locals := 0 } : Room) s m #[(.ref b)] below meth c s₁ [] 0 0 := Stand.of_body Bd
  have e0 : s₁.heap = h0 := by rw [← hh, Bd.state]; rfl
  have N0 := Fr.nil n0
  have pre0 : ∀ t_, Steps p.tables e below (s₁.setTop (mkF m 0 #[.val (.ref b)] [])) t_ → Steps p.tables e below (s₁.setTop (entryFrame m #[(.ref b)] 1)) t_ := fun t_ k_ => castTop (ef_rmALen m b) k_
  have lt_I1 : @LT.lt Nat _ b h0.size := I1.lt
  have lt_I2 : @LT.lt Nat _ b h0.size := I2.lt
  obtain ⟨T1, X1, e1, st1⟩ := getF X0 hx hZ hown (host := "") (Or.inl (hw _ (List.mem_of_getElem? (i := 61) rfl))) Via.refl e0 I2 (g := (mkF m 1 #[.val (.ref b)] [(.ref b)])) rfl rfl (Jvm.hb hby d_jdk_68_method_6_1)
  have s2 : ∀ t_, Steps p.tables e below (T1.setTop (mkF m 4 #[.val (.ref b)] [(.int cn)])) t_ → Steps p.tables e below (s₁.setTop (entryFrame m #[(.ref b)] 1)) t_ := fun t_ k_ => pre0 t_ (by
    show Steps p.tables e below (s₁.setTop (mkF m 0 #[.val (.ref b)] [])) t_
    refine XS.aloadN X0.here hx rfl (Jvm.hb hby d_jdk_68_method_6_0) rfl rfl ?_
    show Steps p.tables e below (s₁.setTop (mkF m 1 #[.val (.ref b)] [(.ref b)])) _
    refine st1 _ ?_
    show Steps p.tables e below (T1.setTop (mkF m 4 #[.val (.ref b)] [(.int cn)])) _
    show Steps p.tables e below (T1.setTop (mkF m 4 #[.val (.ref b)] [(.int cn)])) t_
    exact k_)
  obtain ⟨fs, hr, hrun, hended, hW, hsame⟩ := X1.leave (v := some (.int cn)) (fun h => by rw [Bd.returns] at h; cases h)
  refine ⟨_, _, s2 _ ?_, hrun, hended, _, _, rfl, ?_, ⟨_, rfl⟩, hW, hsame.mono (by decide) (by decide)⟩
  · show Steps p.tables e below (T1.setTop (mkF m 4 #[.val (.ref b)] [(.int cn)])) _
    exact retI X1 hx Bd.returns (Jvm.hb hby d_jdk_68_method_6_4) hr
  · show Q_rmALen Z _ _ h0 n0 _ T1.heap _
    rw [e1]
    exact ⟨rfl, N0, rfl⟩
theorem d_jdk_67_method_93_0 : decode jdk_67_method_93_code 0 = .ok (.aload_n 0, 1) := by decide +kernel
theorem pd___I : parseMethodDescriptor "()I" = some ⟨[], some .int⟩ := by decide +kernel
theorem d_jdk_67_method_93_1 : decode jdk_67_method_93_code 1 = .ok (.invokespecial 343, 3) := by decide +kernel
theorem d_jdk_67_method_93_4 : decode jdk_67_method_93_code 4 = .ok (.ireturn, 1) := by decide +kernel
theorem ef_rmSLen (m : MethodId) (x0 : Addr) : entryFrame m #[(.ref x0)] 1 = mkF m 0 #[.val (.ref x0)] [] := by first | (simp [entryFrame, mkF, argsToLocals, Value.category]; done) | rfl
def Q_rmSLen (Z : State) (b : Addr) (cn : Int32) (h0 : Heap) (n0 : Nat) (v : Option Value) (h : Heap) (L : List Loc) : Prop := (v = some (.int cn)) ∧ (Fr n0 L) ∧ (h = h0)
set_option maxRecDepth 65536 in
set_option maxHeartbeats 40000000 in
theorem rmSLen (l : Launch) (Z : State) (a0 : Array Value) (hw : ∀ d ∈ tables_1, d.before a0 Z = true) (ws : List Jvm.Cond) (b : Addr) (cn : Int32) (h0 : Heap) (n0 : Nat) (Z0 : n0 ≤ h0.size) (I1 : Exa Z h0 b "java/lang/StringBuilder") (I2 : Fld Z h0 b "java/lang/AbstractStringBuilder" "count" "I" (.int cn)) :
    MetFree l (⟨"java/lang/StringBuilder", "length", "()I"⟩ : MethodName) (head1 (Jvm.Cond.code (⟨"java/lang/StringBuilder", "length", "()I"⟩ : MethodName) jdk_67_method_93_code 1 (some .int) :: ws) ({ frames := 1, cells := 0, slots := 0, locals := 12 } : Room)) (fun ar_ U => ar_ = #[(.ref b)] ∧ Z.Warmed39 U.vm ∧ U.heap = h0) (fun _ _ _ _ _ => True) (fun _ U o U' => ∃ v L, o = .returned v ∧ Q_rmSLen Z b cn h0 n0 v U'.heap L ∧ FrameEnd U o U' L ({ frames := 1, cells := 0, slots := 0, locals := 12 } : Room).cells ({ frames := 1, cells := 0, slots := 0, locals := 12 } : Room).slots) := by
  refine MetFree.of_bodySF (plainFor_of_name pn_java_lang_StringBuilder) hisR ?_
  intro p e s m args below meth c s₁ Bd hml0 hP hK
  obtain ⟨rfl, hZ, hh⟩ := hP
  have hx := Bd.exec
  have hby := Bd.bytes
  have hml : c.maxLocals = 1 := hml0
  have hown : s.vm.findClass "java/lang/StringBuilder" = some m.cls := findClass_of_methodNamed Bd.named
  have hnm := (name_of_methodNamed Bd.named Bd.method).1
  have X0 : Stand p l e ({ frames := 1, cells := 0, slots := 0, locals := 12 } : Room) s m #[(.ref b)] below meth c s₁ [] 0 0 := Stand.of_body Bd
  have e0 : s₁.heap = h0 := by rw [← hh, Bd.state]; rfl
  have N0 := Fr.nil n0
  have pre0 : ∀ t_, Steps p.tables e below (s₁.setTop (mkF m 0 #[.val (.ref b)] [])) t_ → Steps p.tables e below (s₁.setTop (entryFrame m #[(.ref b)] 1)) t_ := fun t_ k_ => castTop (ef_rmSLen m b) k_
  have lt_I1 : @LT.lt Nat _ b h0.size := I1.lt
  have lt_I2 : @LT.lt Nat _ b h0.size := I2.lt
  have Zc1 : n0 ≤ h0.size := by omega
  obtain ⟨_, _, ⟨T2, L2, k2, n2⟩, -, X2, ⟨Lc2, hQ2, l2, y2, z2⟩, st2⟩ := superBack X0 hx hZ (y := (⟨"java/lang/AbstractStringBuilder", "length", "()I"⟩ : MethodName)) hown (hw _ (List.mem_of_getElem? (i := 56) rfl)) (own_same (hw _ (List.mem_of_getElem? (i := 57) rfl)) (own_nf (y := (⟨"java/lang/AbstractStringBuilder", "length", "()I"⟩ : MethodName)) (z := (⟨"java/lang/AbstractStringBuilder", "ensureCapacityInternal", "(I)V"⟩ : MethodName)) rfl (hw _ (List.mem_of_getElem? (i := 75) rfl))) (by decide)) (hw _ (List.mem_of_getElem? (i := 57) rfl)) (hw _ (List.mem_of_getElem? (i := 58) rfl)) (by decide) (backOf (W := 0) (rmALen l Z a0 hw [] b cn h0 n0 Zc1 I1 I2) hZ (hw _ (List.mem_of_getElem? (i := 60) rfl)) (hw _ (List.mem_of_getElem? (i := 20) rfl)) (by decide) (by decide)) e0 (Ins.self I1) (g := (mkF m 1 #[.val (.ref b)] [(.ref b)])) rfl (by rw [hml]; rfl) (hw _ (List.mem_of_getElem? (i := 60) rfl)) (argsL := []) (rest := []) (lenOf pd___I rfl) rfl (by show 2 * 0 + _ ≤ _; exact Nat.le_of_eq rfl) (Jvm.hb hby d_jdk_67_method_93_1) (fun _ _ => ⟨rfl, e0, (by decide : 0 + 0 ≤ _), (by decide : 0 + 0 ≤ _)⟩)
  dsimp only [Pt.U, Pt.locs, Pt.cells, Pt.slots] at X2 l2 y2 z2 st2 hQ2
  subst l2 y2 z2
  obtain ⟨rfl, N2q, e2⟩ := hQ2
  have N2 := Fr.app N0 N2q
  have s3 : ∀ t_, Steps p.tables e below (T2.setTop (mkF m 4 #[.val (.ref b)] [(.int cn)])) t_ → Steps p.tables e below (s₁.setTop (entryFrame m #[(.ref b)] 1)) t_ := fun t_ k_ => pre0 t_ (by
    show Steps p.tables e below (s₁.setTop (mkF m 0 #[.val (.ref b)] [])) t_
    refine XS.aloadN X0.here hx rfl (Jvm.hb hby d_jdk_67_method_93_0) rfl rfl ?_
    show Steps p.tables e below (s₁.setTop (mkF m 1 #[.val (.ref b)] [(.ref b)])) _
    refine st2.trans ?_
    show Steps p.tables e below (T2.setTop (mkF m 4 #[.val (.ref b)] [(.int cn)])) _
    show Steps p.tables e below (T2.setTop (mkF m 4 #[.val (.ref b)] [(.int cn)])) t_
    exact k_)
  obtain ⟨fs, hr, hrun, hended, hW, hsame⟩ := X2.leave (v := some (.int cn)) (fun h => by rw [Bd.returns] at h; cases h)
  refine ⟨_, _, s3 _ ?_, hrun, hended, _, _, rfl, ?_, ⟨_, rfl⟩, hW, hsame.mono (by decide) (by decide)⟩
  · show Steps p.tables e below (T2.setTop (mkF m 4 #[.val (.ref b)] [(.int cn)])) _
    exact retI X2 hx Bd.returns (Jvm.hb hby d_jdk_67_method_93_4) hr
  · show Q_rmSLen Z _ _ h0 n0 _ T2.heap _
    rw [e2]
    exact ⟨rfl, N2, rfl⟩
theorem d_jdk_68_method_9_0 : decode jdk_68_method_9_code 0 = .ok (.aload_n 0, 1) := by decide +kernel
theorem d_jdk_68_method_9_1 : decode jdk_68_method_9_code 1 = .ok (.getfield 15, 3) := by decide +kernel
theorem d_jdk_68_method_9_4 : decode jdk_68_method_9_code 4 = .ok (.arraylength, 1) := by decide +kernel
theorem d_jdk_68_method_9_5 : decode jdk_68_method_9_code 5 = .ok (.aload_n 0, 1) := by decide +kernel
theorem d_jdk_68_method_9_6 : decode jdk_68_method_9_code 6 = .ok (.getfield 22, 3) := by decide +kernel
theorem d_jdk_68_method_9_9 : decode jdk_68_method_9_code 9 = .ok (.ishr, 1) := by decide +kernel
theorem d_jdk_68_method_9_10 : decode jdk_68_method_9_code 10 = .ok (.istore_n 2, 1) := by decide +kernel
theorem d_jdk_68_method_9_11 : decode jdk_68_method_9_code 11 = .ok (.iload_n 1, 1) := by decide +kernel
theorem d_jdk_68_method_9_12 : decode jdk_68_method_9_code 12 = .ok (.iload_n 2, 1) := by decide +kernel
theorem d_jdk_68_method_9_13 : decode jdk_68_method_9_code 13 = .ok (.isub, 1) := by decide +kernel
theorem d_jdk_68_method_9_14 : decode jdk_68_method_9_code 14 = .ok (.ifCond .le 24, 3) := by decide +kernel
theorem d_jdk_68_method_9_38 : decode jdk_68_method_9_code 38 = .ok (.return_, 1) := by decide +kernel
theorem ef_rmEns (m : MethodId) (x0 : Addr) (x1 : Int32) : entryFrame m #[(.ref x0), (.int x1)] 3 = mkF m 0 #[.val (.ref x0), .val (.int x1), .unset] [] := by first | (simp [entryFrame, mkF, argsToLocals, Value.category]; done) | rfl
def Q_rmEns (Z : State) (b : Addr) (mi : Int32) (va : Addr) (kc : ClassId) (vs : List Value) (h0 : Heap) (n0 : Nat) (v : Option Value) (h : Heap) (L : List Loc) : Prop := (v = none) ∧ (Fr n0 L) ∧ (h = h0)
set_option maxRecDepth 65536 in
set_option maxHeartbeats 40000000 in
theorem rmEns (l : Launch) (Z : State) (a0 : Array Value) (hw : ∀ d ∈ tables_1, d.before a0 Z = true) (ws : List Jvm.Cond) (b : Addr) (mi : Int32) (va : Addr) (kc : ClassId) (vs : List Value) (h0 : Heap) (n0 : Nat) (Z0 : n0 ≤ h0.size) (I1 : Fld Z h0 b "java/lang/AbstractStringBuilder" "value" "[B" (.ref va)) (I2 : Fld Z h0 b "java/lang/AbstractStringBuilder" "coder" "B" (.int (0 : Int32))) (I3 : Arv Z h0 va kc .byte (16 : Int32) vs (.int (0 : Int32))) (hmi : ¬ ((0 : Int32) < (mi - ((16 : Int32) >>> ((0 : Int32) &&& 31))))) :
    MetFree l (⟨"java/lang/AbstractStringBuilder", "ensureCapacityInternal", "(I)V"⟩ : MethodName) (head1 (Jvm.Cond.code (⟨"java/lang/AbstractStringBuilder", "ensureCapacityInternal", "(I)V"⟩ : MethodName) jdk_68_method_9_code 3 none :: ws) ({ frames := 0, cells := 0, slots := 0, locals := 0 } : Room)) (fun ar_ U => ar_ = #[(.ref b), (.int mi)] ∧ Z.Warmed39 U.vm ∧ U.heap = h0) (fun _ _ _ _ _ => True) (fun _ U o U' => ∃ v L, o = .returned v ∧ Q_rmEns Z b mi va kc vs h0 n0 v U'.heap L ∧ FrameEnd U o U' L ({ frames := 0, cells := 0, slots := 0, locals := 0 } : Room).cells ({ frames := 0, cells := 0, slots := 0, locals := 0 } : Room).slots) := by
  refine MetFree.of_bodySF (plainFor_of_name pn_java_lang_AbstractStringBuilder) hisR ?_
  intro p e s m args below meth c s₁ Bd hml0 hP hK
  obtain ⟨rfl, hZ, hh⟩ := hP
  have hx := Bd.exec
  have hby := Bd.bytes
  have hml : c.maxLocals = 3 := hml0
  have hown : s.vm.findClass "java/lang/AbstractStringBuilder" = some m.cls := findClass_of_methodNamed Bd.named
  have hnm := (name_of_methodNamed Bd.named Bd.method).1
  have X0 : Stand p l e ({ frames := 0, cells := 0, slots := 0, locals := 0 } : Room) s m #[(.ref b), (.int mi)] below meth c s₁ [] 0 0 := Stand.of_body Bd
  have e0 : s₁.heap = h0 := by rw [← hh, Bd.state]; rfl
  have N0 := Fr.nil n0
  have pre0 : ∀ t_, Steps p.tables e below (s₁.setTop (mkF m 0 #[.val (.ref b), .val (.int mi), .unset] [])) t_ → Steps p.tables e below (s₁.setTop (entryFrame m #[(.ref b), (.int mi)] 3)) t_ := fun t_ k_ => castTop (ef_rmEns m b mi) k_
  have lt_I1 : @LT.lt Nat _ b h0.size := I1.lt
  have lt_I2 : @LT.lt Nat _ b h0.size := I2.lt
  have lt_I3 : @LT.lt Nat _ va h0.size := I3.lt
  obtain ⟨T1, X1, e1, st1⟩ := getF X0 hx hZ hown (host := "") (Or.inl (hw _ (List.mem_of_getElem? (i := 26) rfl))) Via.refl e0 I1 (g := (mkF m 1 #[.val (.ref b), .val (.int mi), .unset] [(.ref b)])) rfl rfl (Jvm.hb hby d_jdk_68_method_9_1)
  obtain ⟨cl2, Ar2, -, S2, M2, -, -⟩ := id I3
  obtain ⟨T3, X3, e3, st3⟩ := getF X1 hx hZ hown (host := "") (Or.inl (hw _ (List.mem_of_getElem? (i := 28) rfl))) Via.refl e1 I2 (g := (mkF m 6 #[.val (.ref b), .val (.int mi), .unset] [(.ref b), (.int (16 : Int32))])) rfl rfl (Jvm.hb hby d_jdk_68_method_9_6)
  have s4 : ∀ t_, Steps p.tables e below (T3.setTop (mkF m 38 #[.val (.ref b), .val (.int mi), .val (.int ((16 : Int32) >>> ((0 : Int32) &&& 31)))] [])) t_ → Steps p.tables e below (s₁.setTop (entryFrame m #[(.ref b), (.int mi)] 3)) t_ := fun t_ k_ => pre0 t_ (by
    show Steps p.tables e below (s₁.setTop (mkF m 0 #[.val (.ref b), .val (.int mi), .unset] [])) t_
    refine XS.aloadN X0.here hx rfl (Jvm.hb hby d_jdk_68_method_9_0) rfl rfl ?_
    show Steps p.tables e below (s₁.setTop (mkF m 1 #[.val (.ref b), .val (.int mi), .unset] [(.ref b)])) _
    refine st1 _ ?_
    show Steps p.tables e below (T1.setTop (mkF m 4 #[.val (.ref b), .val (.int mi), .unset] [(.ref va)])) _
    refine X1.arraylength hx (by rw [e1]; exact Ar2.1) (State.isArrayOf_alike hZ.alike Ar2.2.1) (g := (mkF m 4 #[.val (.ref b), .val (.int mi), .unset] [(.ref va)])) rfl rfl (Jvm.hb hby d_jdk_68_method_9_4) _ ?_
    rw [len_of S2 M2]
    show Steps p.tables e below (T1.setTop (mkF m 5 #[.val (.ref b), .val (.int mi), .unset] [(.int (16 : Int32))])) _
    refine XS.aloadN X1.here hx rfl (Jvm.hb hby d_jdk_68_method_9_5) rfl rfl ?_
    show Steps p.tables e below (T1.setTop (mkF m 6 #[.val (.ref b), .val (.int mi), .unset] [(.ref b), (.int (16 : Int32))])) _
    refine st3 _ ?_
    show Steps p.tables e below (T3.setTop (mkF m 9 #[.val (.ref b), .val (.int mi), .unset] [(.int (0 : Int32)), (.int (16 : Int32))])) _
    refine XS.ishr X3.here hx rfl (Jvm.hb hby d_jdk_68_method_9_9) rfl ?_
    show Steps p.tables e below (T3.setTop (mkF m 10 #[.val (.ref b), .val (.int mi), .unset] [(.int ((16 : Int32) >>> ((0 : Int32) &&& 31)))])) _
    refine XS.istoreN X3.here hx rfl (Jvm.hb hby d_jdk_68_method_9_10) rfl (l' := #[.val (.ref b), .val (.int mi), .val (.int ((16 : Int32) >>> ((0 : Int32) &&& 31)))]) rfl ?_
    show Steps p.tables e below (T3.setTop (mkF m 11 #[.val (.ref b), .val (.int mi), .val (.int ((16 : Int32) >>> ((0 : Int32) &&& 31)))] [])) _
    refine XS.iloadN X3.here hx rfl (Jvm.hb hby d_jdk_68_method_9_11) rfl ?_
    show Steps p.tables e below (T3.setTop (mkF m 12 #[.val (.ref b), .val (.int mi), .val (.int ((16 : Int32) >>> ((0 : Int32) &&& 31)))] [(.int mi)])) _
    refine XS.iloadN X3.here hx rfl (Jvm.hb hby d_jdk_68_method_9_12) rfl ?_
    show Steps p.tables e below (T3.setTop (mkF m 13 #[.val (.ref b), .val (.int mi), .val (.int ((16 : Int32) >>> ((0 : Int32) &&& 31)))] [(.int ((16 : Int32) >>> ((0 : Int32) &&& 31))), (.int mi)])) _
    refine XS.isub X3.here hx rfl (Jvm.hb hby d_jdk_68_method_9_13) rfl ?_
    show Steps p.tables e below (T3.setTop (mkF m 14 #[.val (.ref b), .val (.int mi), .val (.int ((16 : Int32) >>> ((0 : Int32) &&& 31)))] [(.int (mi - ((16 : Int32) >>> ((0 : Int32) &&& 31))))])) _
    refine XS.ifYes X3.here hx rfl (pc0 := 14) (pc' := 38) rfl (Jvm.hb hby d_jdk_68_method_9_14) rfl ((if0 _ _).trans (flt hmi).2.2.2) (by decide) (by decide) ?_
    show Steps p.tables e below (T3.setTop (mkF m 38 #[.val (.ref b), .val (.int mi), .val (.int ((16 : Int32) >>> ((0 : Int32) &&& 31)))] [])) _
    show Steps p.tables e below (T3.setTop (mkF m 38 #[.val (.ref b), .val (.int mi), .val (.int ((16 : Int32) >>> ((0 : Int32) &&& 31)))] [])) t_
    exact k_)
  obtain ⟨fs, hr, hrun, hended, hW, hsame⟩ := X3.leave (v := none) (fun _ => rfl)
  refine ⟨_, _, s4 _ ?_, hrun, hended, _, _, rfl, ?_, ⟨_, rfl⟩, hW, hsame.mono (by decide) (by decide)⟩
  · show Steps p.tables e below (T3.setTop (mkF m 38 #[.val (.ref b), .val (.int mi), .val (.int ((16 : Int32) >>> ((0 : Int32) &&& 31)))] [])) _
    exact X3.returnOut hx Bd.returns (Jvm.hb hby d_jdk_68_method_9_38) hr
  · show Q_rmEns Z _ _ _ _ _ h0 n0 _ T3.heap _
    rw [e3]
    exact ⟨rfl, N0, rfl⟩
theorem d_jdk_68_method_68_0 : decode jdk_68_method_68_code 0 = .ok (.getstatic 18, 3) := by decide +kernel
theorem d_jdk_68_method_68_3 : decode jdk_68_method_68_code 3 = .ok (.ifCond .eq 14, 3) := by decide +kernel
theorem d_jdk_68_method_68_6 : decode jdk_68_method_68_code 6 = .ok (.aload_n 0, 1) := by decide +kernel
theorem d_jdk_68_method_68_7 : decode jdk_68_method_68_code 7 = .ok (.getfield 22, 3) := by decide +kernel
theorem d_jdk_68_method_68_10 : decode jdk_68_method_68_code 10 = .ok (.ifCond .ne 7, 3) := by decide +kernel
theorem d_jdk_68_method_68_13 : decode jdk_68_method_68_code 13 = .ok (.iconst 1, 1) := by decide +kernel
theorem d_jdk_68_method_68_14 : decode jdk_68_method_68_code 14 = .ok (.goto 4, 3) := by decide +kernel
theorem d_jdk_68_method_68_18 : decode jdk_68_method_68_code 18 = .ok (.ireturn, 1) := by decide +kernel
theorem ef_rmLat (m : MethodId) (x0 : Addr) : entryFrame m #[(.ref x0)] 1 = mkF m 0 #[.val (.ref x0)] [] := by first | (simp [entryFrame, mkF, argsToLocals, Value.category]; done) | rfl
def Q_rmLat (Z : State) (b : Addr) (cst : Int32) (h0 : Heap) (n0 : Nat) (v : Option Value) (h : Heap) (L : List Loc) : Prop := (v = some (.int (1 : Int32))) ∧ (Fr n0 L) ∧ (h = h0)
set_option maxRecDepth 65536 in
set_option maxHeartbeats 40000000 in
theorem rmLat (l : Launch) (Z : State) (a0 : Array Value) (hw : ∀ d ∈ tables_1, d.before a0 Z = true) (ws : List Jvm.Cond) (b : Addr) (cst : Int32) (h0 : Heap) (n0 : Nat) (Z0 : n0 ≤ h0.size) (I1 : Sta Z Z.heap "java/lang/String" "COMPACT_STRINGS" "Z" (.int cst)) (OX : Old Z n0 h0) (hcst : ¬ (cst = (0 : Int32))) (I2 : Fld Z h0 b "java/lang/AbstractStringBuilder" "coder" "B" (.int (0 : Int32))) :
    MetFree l (⟨"java/lang/AbstractStringBuilder", "isLatin1", "()Z"⟩ : MethodName) (head1 (Jvm.Cond.code (⟨"java/lang/AbstractStringBuilder", "isLatin1", "()Z"⟩ : MethodName) jdk_68_method_68_code 1 (some .boolean) :: ws) ({ frames := 0, cells := 0, slots := 0, locals := 0 } : Room)) (fun ar_ U => ar_ = #[(.ref b)] ∧ Z.Warmed39 U.vm ∧ U.heap = h0) (fun _ _ _ _ _ => True) (fun _ U o U' => ∃ v L, o = .returned v ∧ Q_rmLat Z b cst h0 n0 v U'.heap L ∧ FrameEnd U o U' L ({ frames := 0, cells := 0, slots := 0, locals := 0 } : Room).cells ({ frames := 0, cells := 0, slots := 0, locals := 0 } : Room).slots) := by
  refine MetFree.of_bodySF (plainFor_of_name pn_java_lang_AbstractStringBuilder) hisR ?_
  intro p e s m args below meth c s₁ Bd hml0 hP hK
  obtain ⟨rfl, hZ, hh⟩ := hP
  have hx := Bd.exec
  have hby := Bd.bytes
  have hml : c.maxLocals = 1 := hml0
  have hown : s.vm.findClass "java/lang/AbstractStringBuilder" = some m.cls := findClass_of_methodNamed Bd.named
  have hnm := (name_of_methodNamed Bd.named Bd.method).1
  have X0 : Stand p l e ({ frames := 0, cells := 0, slots := 0, locals := 0 } : Room) s m #[(.ref b)] below meth c s₁ [] 0 0 := Stand.of_body Bd
  have e0 : s₁.heap = h0 := by rw [← hh, Bd.state]; rfl
  have N0 := Fr.nil n0
  have pre0 : ∀ t_, Steps p.tables e below (s₁.setTop (mkF m 0 #[.val (.ref b)] [])) t_ → Steps p.tables e below (s₁.setTop (entryFrame m #[(.ref b)] 1)) t_ := fun t_ k_ => castTop (ef_rmLat m b) k_
  have lt_I2 : @LT.lt Nat _ b h0.size := I2.lt
  obtain ⟨T1, X1, e1, st1⟩ := getS2 X0 hx hZ hown (host := "") (Or.inl (hw _ (List.mem_of_getElem? (i := 23) rfl))) Via.refl e0 (I1.ext OX.2) (g := (mkF m 0 #[.val (.ref b)] [])) rfl (Jvm.hb hby d_jdk_68_method_68_0)
  obtain ⟨T2, X2, e2, st2⟩ := getF X1 hx hZ hown (host := "") (Or.inl (hw _ (List.mem_of_getElem? (i := 28) rfl))) Via.refl e1 I2 (g := (mkF m 7 #[.val (.ref b)] [(.ref b)])) rfl rfl (Jvm.hb hby d_jdk_68_method_68_7)
  have s3 : ∀ t_, Steps p.tables e below (T2.setTop (mkF m 18 #[.val (.ref b)] [(.int (1 : Int32))])) t_ → Steps p.tables e below (s₁.setTop (entryFrame m #[(.ref b)] 1)) t_ := fun t_ k_ => pre0 t_ (by
    show Steps p.tables e below (s₁.setTop (mkF m 0 #[.val (.ref b)] [])) t_
    refine st1 _ ?_
    show Steps p.tables e below (T1.setTop (mkF m 3 #[.val (.ref b)] [(.int cst)])) _
    refine XS.ifNo X1.here hx rfl (Jvm.hb hby d_jdk_68_method_68_3) rfl ((if0 _ _).trans (feq hcst).1) ?_
    show Steps p.tables e below (T1.setTop (mkF m 6 #[.val (.ref b)] [])) _
    refine XS.aloadN X1.here hx rfl (Jvm.hb hby d_jdk_68_method_68_6) rfl rfl ?_
    show Steps p.tables e below (T1.setTop (mkF m 7 #[.val (.ref b)] [(.ref b)])) _
    refine st2 _ ?_
    show Steps p.tables e below (T2.setTop (mkF m 10 #[.val (.ref b)] [(.int (0 : Int32))])) _
    refine XS.ifNo X2.here hx rfl (Jvm.hb hby d_jdk_68_method_68_10) rfl ((if0 _ _).trans (teq (rfl : (0 : Int32) = (0 : Int32))).2) ?_
    show Steps p.tables e below (T2.setTop (mkF m 13 #[.val (.ref b)] [])) _
    refine XS.iconst X2.here hx rfl (Jvm.hb hby d_jdk_68_method_68_13) ?_
    show Steps p.tables e below (T2.setTop (mkF m 14 #[.val (.ref b)] [(.int (1 : Int32))])) _
    refine XS.goto X2.here hx rfl (pc0 := 14) (pc' := 18) rfl (Jvm.hb hby d_jdk_68_method_68_14) (by decide) (by decide) ?_
    show Steps p.tables e below (T2.setTop (mkF m 18 #[.val (.ref b)] [(.int (1 : Int32))])) _
    show Steps p.tables e below (T2.setTop (mkF m 18 #[.val (.ref b)] [(.int (1 : Int32))])) t_
    exact k_)
  obtain ⟨fs, hr, hrun, hended, hW, hsame⟩ := X2.leave (v := some (.int (1 : Int32))) (fun h => by rw [Bd.returns] at h; cases h)
  refine ⟨_, _, s3 _ ?_, hrun, hended, _, _, rfl, ?_, ⟨_, rfl⟩, hW, hsame.mono (by decide) (by decide)⟩
  · show Steps p.tables e below (T2.setTop (mkF m 18 #[.val (.ref b)] [(.int (1 : Int32))])) _
    exact retN X2 hx (t := .boolean) Bd.returns (by simp) (Jvm.hb hby d_jdk_68_method_68_18) hr
  · show Q_rmLat Z _ _ h0 n0 _ T2.heap _
    rw [e2]
    exact ⟨rfl, N0, rfl⟩
theorem pn_java_lang_StringLatin1 : plainName "java/lang/StringLatin1" = true := by first | (simp [plainName, overriddenIn]; done) | decide +kernel
theorem d_jdk_43_method_3_0 : decode jdk_43_method_3_code 0 = .ok (.iload_n 0, 1) := by decide +kernel
theorem d_jdk_43_method_3_1 : decode jdk_43_method_3_code 1 = .ok (.sipush 255, 3) := by decide +kernel
theorem d_jdk_43_method_3_4 : decode jdk_43_method_3_code 4 = .ok (.if_icmp .gt 7, 3) := by decide +kernel
theorem d_jdk_43_method_3_7 : decode jdk_43_method_3_code 7 = .ok (.iconst 1, 1) := by decide +kernel
theorem d_jdk_43_method_3_8 : decode jdk_43_method_3_code 8 = .ok (.goto 4, 3) := by decide +kernel
theorem d_jdk_43_method_3_12 : decode jdk_43_method_3_code 12 = .ok (.ireturn, 1) := by decide +kernel
theorem ef_rmCan (m : MethodId) (x0 : Int32) : entryFrame m #[(.int x0)] 1 = mkF m 0 #[.val (.int x0)] [] := by first | (simp [entryFrame, mkF, argsToLocals, Value.category]; done) | rfl
def Q_rmCan (Z : State) (ch : Int32) (h0 : Heap) (n0 : Nat) (v : Option Value) (h : Heap) (L : List Loc) : Prop := (v = some (.int (1 : Int32))) ∧ (Fr n0 L) ∧ (h = h0)
set_option maxRecDepth 65536 in
set_option maxHeartbeats 40000000 in
theorem rmCan (l : Launch) (Z : State) (a0 : Array Value) (hw : ∀ d ∈ tables_1, d.before a0 Z = true) (ws : List Jvm.Cond) (ch : Int32) (h0 : Heap) (n0 : Nat) (Z0 : n0 ≤ h0.size) (hch : ¬ ((255 : Int32) < ch)) :
    MetFree l (⟨"java/lang/StringLatin1", "canEncode", "(C)Z"⟩ : MethodName) (head1 (Jvm.Cond.code (⟨"java/lang/StringLatin1", "canEncode", "(C)Z"⟩ : MethodName) jdk_43_method_3_code 1 (some .boolean) :: ws) ({ frames := 0, cells := 0, slots := 0, locals := 0 } : Room)) (fun ar_ U => ar_ = #[(.int ch)] ∧ Z.Warmed39 U.vm ∧ U.heap = h0) (fun _ _ _ _ _ => True) (fun _ U o U' => ∃ v L, o = .returned v ∧ Q_rmCan Z ch h0 n0 v U'.heap L ∧ FrameEnd U o U' L ({ frames := 0, cells := 0, slots := 0, locals := 0 } : Room).cells ({ frames := 0, cells := 0, slots := 0, locals := 0 } : Room).slots) := by
  refine MetFree.of_bodySF (plainFor_of_name pn_java_lang_StringLatin1) hisR ?_
  intro p e s m args below meth c s₁ Bd hml0 hP hK
  obtain ⟨rfl, hZ, hh⟩ := hP
  have hx := Bd.exec
  have hby := Bd.bytes
  have hml : c.maxLocals = 1 := hml0
  have hown : s.vm.findClass "java/lang/StringLatin1" = some m.cls := findClass_of_methodNamed Bd.named
  have hnm := (name_of_methodNamed Bd.named Bd.method).1
  have X0 : Stand p l e ({ frames := 0, cells := 0, slots := 0, locals := 0 } : Room) s m #[(.int ch)] below meth c s₁ [] 0 0 := Stand.of_body Bd
  have e0 : s₁.heap = h0 := by rw [← hh, Bd.state]; rfl
  have N0 := Fr.nil n0
  have pre0 : ∀ t_, Steps p.tables e below (s₁.setTop (mkF m 0 #[.val (.int ch)] [])) t_ → Steps p.tables e below (s₁.setTop (entryFrame m #[(.int ch)] 1)) t_ := fun t_ k_ => castTop (ef_rmCan m ch) k_
  have s1 : ∀ t_, Steps p.tables e below (s₁.setTop (mkF m 12 #[.val (.int ch)] [(.int (1 : Int32))])) t_ → Steps p.tables e below (s₁.setTop (entryFrame m #[(.int ch)] 1)) t_ := fun t_ k_ => pre0 t_ (by
    show Steps p.tables e below (s₁.setTop (mkF m 0 #[.val (.int ch)] [])) t_
    refine XS.iloadN X0.here hx rfl (Jvm.hb hby d_jdk_43_method_3_0) rfl ?_
    show Steps p.tables e below (s₁.setTop (mkF m 1 #[.val (.int ch)] [(.int ch)])) _
    refine XS.sipush X0.here hx rfl (Jvm.hb hby d_jdk_43_method_3_1) ?_
    show Steps p.tables e below (s₁.setTop (mkF m 4 #[.val (.int ch)] [(.int (255 : Int32)), (.int ch)])) _
    refine XS.icmpNo X0.here hx rfl (Jvm.hb hby d_jdk_43_method_3_4) rfl (flt hch).2.2.1 ?_
    show Steps p.tables e below (s₁.setTop (mkF m 7 #[.val (.int ch)] [])) _
    refine XS.iconst X0.here hx rfl (Jvm.hb hby d_jdk_43_method_3_7) ?_
    show Steps p.tables e below (s₁.setTop (mkF m 8 #[.val (.int ch)] [(.int (1 : Int32))])) _
    refine XS.goto X0.here hx rfl (pc0 := 8) (pc' := 12) rfl (Jvm.hb hby d_jdk_43_method_3_8) (by decide) (by decide) ?_
    show Steps p.tables e below (s₁.setTop (mkF m 12 #[.val (.int ch)] [(.int (1 : Int32))])) _
    show Steps p.tables e below (s₁.setTop (mkF m 12 #[.val (.int ch)] [(.int (1 : Int32))])) t_
    exact k_)
  obtain ⟨fs, hr, hrun, hended, hW, hsame⟩ := X0.leave (v := some (.int (1 : Int32))) (fun h => by rw [Bd.returns] at h; cases h)
  refine ⟨_, _, s1 _ ?_, hrun, hended, _, _, rfl, ?_, ⟨_, rfl⟩, hW, hsame.mono (by decide) (by decide)⟩
  · show Steps p.tables e below (s₁.setTop (mkF m 12 #[.val (.int ch)] [(.int (1 : Int32))])) _
    exact retN X0 hx (t := .boolean) Bd.returns (by simp) (Jvm.hb hby d_jdk_43_method_3_12) hr
  · show Q_rmCan Z _ h0 n0 _ s₁.heap _
    rw [e0]
    exact ⟨rfl, N0, rfl⟩
theorem d_jdk_68_method_31_0 : decode jdk_68_method_31_code 0 = .ok (.aload_n 0, 1) := by decide +kernel
theorem d_jdk_68_method_31_1 : decode jdk_68_method_31_code 1 = .ok (.aload_n 0, 1) := by decide +kernel
theorem d_jdk_68_method_31_2 : decode jdk_68_method_31_code 2 = .ok (.getfield 79, 3) := by decide +kernel
theorem d_jdk_68_method_31_5 : decode jdk_68_method_31_code 5 = .ok (.iconst 1, 1) := by decide +kernel
theorem d_jdk_68_method_31_6 : decode jdk_68_method_31_code 6 = .ok (.iadd, 1) := by decide +kernel
theorem d_jdk_68_method_31_7 : decode jdk_68_method_31_code 7 = .ok (.invokevirtual 100, 3) := by decide +kernel
theorem d_jdk_68_method_31_10 : decode jdk_68_method_31_code 10 = .ok (.aload_n 0, 1) := by decide +kernel
theorem pd___Z : parseMethodDescriptor "()Z" = some ⟨[], some .boolean⟩ := by decide +kernel
theorem d_jdk_68_method_31_11 : decode jdk_68_method_31_code 11 = .ok (.invokevirtual 83, 3) := by decide +kernel
theorem d_jdk_68_method_31_14 : decode jdk_68_method_31_code 14 = .ok (.ifCond .eq 31, 3) := by decide +kernel
theorem d_jdk_68_method_31_17 : decode jdk_68_method_31_code 17 = .ok (.iload_n 1, 1) := by decide +kernel
theorem pd__C_Z : parseMethodDescriptor "(C)Z" = some ⟨[.char], some .boolean⟩ := by decide +kernel
theorem d_jdk_68_method_31_18 : decode jdk_68_method_31_code 18 = .ok (.invokestatic 191, 3) := by decide +kernel
theorem d_jdk_68_method_31_21 : decode jdk_68_method_31_code 21 = .ok (.ifCond .eq 24, 3) := by decide +kernel
theorem d_jdk_68_method_31_24 : decode jdk_68_method_31_code 24 = .ok (.aload_n 0, 1) := by decide +kernel
theorem d_jdk_68_method_31_25 : decode jdk_68_method_31_code 25 = .ok (.getfield 15, 3) := by decide +kernel
theorem d_jdk_68_method_31_28 : decode jdk_68_method_31_code 28 = .ok (.aload_n 0, 1) := by decide +kernel
theorem d_jdk_68_method_31_29 : decode jdk_68_method_31_code 29 = .ok (.dup, 1) := by decide +kernel
theorem d_jdk_68_method_31_30 : decode jdk_68_method_31_code 30 = .ok (.getfield 79, 3) := by decide +kernel
theorem d_jdk_68_method_31_33 : decode jdk_68_method_31_code 33 = .ok (.dup_x1, 1) := by decide +kernel
theorem d_jdk_68_method_31_34 : decode jdk_68_method_31_code 34 = .ok (.iconst 1, 1) := by decide +kernel
theorem d_jdk_68_method_31_35 : decode jdk_68_method_31_code 35 = .ok (.iadd, 1) := by decide +kernel
theorem d_jdk_68_method_31_36 : decode jdk_68_method_31_code 36 = .ok (.putfield 79, 3) := by decide +kernel
theorem d_jdk_68_method_31_39 : decode jdk_68_method_31_code 39 = .ok (.iload_n 1, 1) := by decide +kernel
theorem d_jdk_68_method_31_40 : decode jdk_68_method_31_code 40 = .ok (.i2b, 1) := by decide +kernel
theorem d_jdk_68_method_31_41 : decode jdk_68_method_31_code 41 = .ok (.bastore, 1) := by decide +kernel
theorem d_jdk_68_method_31_42 : decode jdk_68_method_31_code 42 = .ok (.goto 33, 3) := by decide +kernel
theorem d_jdk_68_method_31_75 : decode jdk_68_method_31_code 75 = .ok (.aload_n 0, 1) := by decide +kernel
theorem d_jdk_68_method_31_76 : decode jdk_68_method_31_code 76 = .ok (.areturn, 1) := by decide +kernel
theorem ef_rmAApp (m : MethodId) (x0 : Addr) (x1 : Int32) : entryFrame m #[(.ref x0), (.int x1)] 2 = mkF m 0 #[.val (.ref x0), .val (.int x1)] [] := by first | (simp [entryFrame, mkF, argsToLocals, Value.category]; done) | rfl
def Q_rmAApp (Z : State) (b : Addr) (ch : Int32) (cst : Int32) (va : Addr) (kc : ClassId) (vs : List Value) (k : Nat) (ml : Int32) (h0 : Heap) (n0 : Nat) (v : Option Value) (h : Heap) (L : List Loc) : Prop := ∃ (vt : List Value), (v = some (.ref b)) ∧ (Fr n0 L) ∧ (Keep h0 h [b, va]) ∧ (Exa Z h b "java/lang/StringBuilder") ∧ (Fld Z h b "java/lang/AbstractStringBuilder" "value" "[B" (.ref va)) ∧ (Fld Z h b "java/lang/AbstractStringBuilder" "coder" "B" (.int (0 : Int32))) ∧ (Fld Z h b "java/lang/AbstractStringBuilder" "count" "I" (.int (Int32.ofNat (k + 1)))) ∧ (Fld Z h b "java/lang/AbstractStringBuilder" "maybeLatin1" "Z" (.int ml)) ∧ (Arv Z h va kc .byte (16 : Int32) vt (.int (0 : Int32))) ∧ (vt.length = 16)
set_option maxRecDepth 65536 in
set_option maxHeartbeats 40000000 in
theorem rmAApp (l : Launch) (Z : State) (a0 : Array Value) (hw : ∀ d ∈ tables_1, d.before a0 Z = true) (ws : List Jvm.Cond) (b : Addr) (ch : Int32) (cst : Int32) (va : Addr) (kc : ClassId) (vs : List Value) (k : Nat) (ml : Int32) (h0 : Heap) (n0 : Nat) (Z0 : n0 ≤ h0.size) (I1 : Sta Z Z.heap "java/lang/String" "COMPACT_STRINGS" "Z" (.int cst)) (OX : Old Z n0 h0) (hcst : ¬ (cst = (0 : Int32))) (I2 : Exa Z h0 b "java/lang/StringBuilder") (I3 : Fld Z h0 b "java/lang/AbstractStringBuilder" "value" "[B" (.ref va)) (I4 : Fld Z h0 b "java/lang/AbstractStringBuilder" "coder" "B" (.int (0 : Int32))) (I5 : Fld Z h0 b "java/lang/AbstractStringBuilder" "count" "I" (.int (Int32.ofNat k))) (I6 : Fld Z h0 b "java/lang/AbstractStringBuilder" "maybeLatin1" "Z" (.int ml)) (I7 : Arv Z h0 va kc .byte (16 : Int32) vs (.int (0 : Int32))) (hch : ¬ ((255 : Int32) < ch)) (hvs : vs.length = 16) (hk : k < 16) (gb : n0 ≤ b) (gv : n0 ≤ va) (hbv : @Ne Nat b va) :
    MetFree l (⟨"java/lang/AbstractStringBuilder", "append", "(C)Ljava/lang/AbstractStringBuilder;"⟩ : MethodName) (head1 (Jvm.Cond.code (⟨"java/lang/AbstractStringBuilder", "append", "(C)Ljava/lang/AbstractStringBuilder;"⟩ : MethodName) jdk_68_method_31_code 2 (some (.object "java/lang/AbstractStringBuilder")) :: ws) ({ frames := 1, cells := 0, slots := 0, locals := 14 } : Room)) (fun ar_ U => ar_ = #[(.ref b), (.int ch)] ∧ Z.Warmed39 U.vm ∧ U.heap = h0) (fun _ _ _ _ _ => True) (fun _ U o U' => ∃ v L, o = .returned v ∧ Q_rmAApp Z b ch cst va kc vs k ml h0 n0 v U'.heap L ∧ FrameEnd U o U' L ({ frames := 1, cells := 0, slots := 0, locals := 14 } : Room).cells ({ frames := 1, cells := 0, slots := 0, locals := 14 } : Room).slots) := by
  refine MetFree.of_bodySF (plainFor_of_name pn_java_lang_AbstractStringBuilder) hisR ?_
  intro p e s m args below meth c s₁ Bd hml0 hP hK
  obtain ⟨rfl, hZ, hh⟩ := hP
  have hx := Bd.exec
  have hby := Bd.bytes
  have hml : c.maxLocals = 2 := hml0
  have hown : s.vm.findClass "java/lang/AbstractStringBuilder" = some m.cls := findClass_of_methodNamed Bd.named
  have hnm := (name_of_methodNamed Bd.named Bd.method).1
  have X0 : Stand p l e ({ frames := 1, cells := 0, slots := 0, locals := 14 } : Room) s m #[(.ref b), (.int ch)] below meth c s₁ [] 0 0 := Stand.of_body Bd
  have e0 : s₁.heap = h0 := by rw [← hh, Bd.state]; rfl
  have N0 := Fr.nil n0
  have pre0 : ∀ t_, Steps p.tables e below (s₁.setTop (mkF m 0 #[.val (.ref b), .val (.int ch)] [])) t_ → Steps p.tables e below (s₁.setTop (entryFrame m #[(.ref b), (.int ch)] 2)) t_ := fun t_ k_ => castTop (ef_rmAApp m b ch) k_
  have lt_I2 : @LT.lt Nat _ b h0.size := I2.lt
  have lt_I3 : @LT.lt Nat _ b h0.size := I3.lt
  have lt_I4 : @LT.lt Nat _ b h0.size := I4.lt
  have lt_I5 : @LT.lt Nat _ b h0.size := I5.lt
  have lt_I6 : @LT.lt Nat _ b h0.size := I6.lt
  have lt_I7 : @LT.lt Nat _ va h0.size := I7.lt
  obtain ⟨T1, X1, e1, st1⟩ := getF X0 hx hZ hown (host := "") (Or.inl (hw _ (List.mem_of_getElem? (i := 61) rfl))) Via.refl e0 I5 (g := (mkF m 2 #[.val (.ref b), .val (.int ch)] [(.ref b), (.ref b)])) rfl rfl (Jvm.hb hby d_jdk_68_method_31_2)
  have Zc2 : n0 ≤ h0.size := by omega
  obtain ⟨cq3, kq3, q3a, q3b, q3c⟩ := isOf hZ e1 I2
  obtain ⟨_, _, ⟨T3, L3, k3, n3⟩, -, X3, ⟨Lc3, hQ3, l3, y3, z3⟩, st3⟩ := X1.virtualBack hx (y := (⟨"java/lang/AbstractStringBuilder", "ensureCapacityInternal", "(I)V"⟩ : MethodName)) (z := (⟨"java/lang/AbstractStringBuilder", "ensureCapacityInternal", "(I)V"⟩ : MethodName)) hown (mvT hZ (hw _ (List.mem_of_getElem? (i := 72) rfl))) (mvT hZ (own_declares (hw _ (List.mem_of_getElem? (i := 73) rfl)) (hw _ (List.mem_of_getElem? (i := 76) rfl)))) (notFace_of_selects (args := #[]) (mvT hZ (hw _ (List.mem_of_getElem? (i := 75) rfl)))) (mvT hZ (hw _ (List.mem_of_getElem? (i := 75) rfl))) (mvT hZ (hw _ (List.mem_of_getElem? (i := 73) rfl))) (by decide) (backOf (W := 0) (rmEns l Z a0 hw [] b ((Int32.ofNat k) + (1 : Int32)) va kc vs h0 n0 Zc2 I3 I4 I7 (own_cap hk)) hZ (hw _ (List.mem_of_getElem? (i := 76) rfl)) (hw _ (List.mem_of_getElem? (i := 20) rfl)) (by decide) (by decide)) q3a q3c (g := (mkF m 7 #[.val (.ref b), .val (.int ch)] [(.int ((Int32.ofNat k) + (1 : Int32))), (.ref b)])) rfl (by rw [hml]; rfl) (Steps.refl _) (argsL := [(.int ((Int32.ofNat k) + (1 : Int32)))]) (rest := []) (lenOf pd__I_V rfl) rfl (by show 2 * 0 + _ ≤ _; exact Nat.le_of_eq rfl) (Jvm.hb hby d_jdk_68_method_31_7) (fun _ _ => ⟨rfl, e1, (by decide : 0 + 0 ≤ _), (by decide : 0 + 0 ≤ _)⟩)
  dsimp only [Pt.U, Pt.locs, Pt.cells, Pt.slots] at X3 l3 y3 z3 st3 hQ3
  subst l3 y3 z3
  obtain ⟨rfl, N3q, e3⟩ := hQ3
  have N3 := Fr.app N0 N3q
  have Zc4 : n0 ≤ h0.size := by omega
  obtain ⟨cq5, kq5, q5a, q5b, q5c⟩ := isOf hZ e3 I2
  obtain ⟨_, _, ⟨T5, L5, k5, n5⟩, -, X5, ⟨Lc5, hQ5, l5, y5, z5⟩, st5⟩ := X3.virtualBack hx (y := (⟨"java/lang/AbstractStringBuilder", "isLatin1", "()Z"⟩ : MethodName)) (z := (⟨"java/lang/AbstractStringBuilder", "isLatin1", "()Z"⟩ : MethodName)) hown (mvT hZ (hw _ (List.mem_of_getElem? (i := 77) rfl))) (mvT hZ (hw _ (List.mem_of_getElem? (i := 78) rfl))) (notFace_of_selects (args := #[]) (mvT hZ (hw _ (List.mem_of_getElem? (i := 80) rfl)))) (mvT hZ (hw _ (List.mem_of_getElem? (i := 80) rfl))) (mvT hZ (hw _ (List.mem_of_getElem? (i := 79) rfl))) (by decide) (backOf (W := 0) (rmLat l Z a0 hw [] b cst h0 n0 Zc4 I1 OX (hcst : ¬ (cst = (0 : Int32))) I4) hZ (hw _ (List.mem_of_getElem? (i := 81) rfl)) (hw _ (List.mem_of_getElem? (i := 20) rfl)) (by decide) (by decide)) q5a q5c (g := (mkF m 11 #[.val (.ref b), .val (.int ch)] [(.ref b)])) rfl (by rw [hml]; rfl) (Steps.refl _) (argsL := []) (rest := []) (lenOf pd___Z rfl) rfl (by show 2 * 0 + _ ≤ _; exact Nat.le_of_eq rfl) (Jvm.hb hby d_jdk_68_method_31_11) (fun _ _ => ⟨rfl, e3, (by decide : 0 + 0 ≤ _), (by decide : 0 + 0 ≤ _)⟩)
  dsimp only [Pt.U, Pt.locs, Pt.cells, Pt.slots] at X5 l5 y5 z5 st5 hQ5
  subst l5 y5 z5
  obtain ⟨rfl, N5q, e5⟩ := hQ5
  have N5 := Fr.app N3 N5q
  have Zc6 : n0 ≤ h0.size := by omega
  obtain ⟨_, _, ⟨T7, L7, k7, n7⟩, -, X7, ⟨Lc7, hQ7, l7, y7, z7⟩, st7⟩ := Jvm.LawKit.callS X5 hx (y := (⟨"java/lang/StringLatin1", "canEncode", "(C)Z"⟩ : MethodName)) hown (mvT hZ (hw _ (List.mem_of_getElem? (i := 82) rfl))) (mvT hZ (hw _ (List.mem_of_getElem? (i := 83) rfl))) (mvT hZ (hw _ (List.mem_of_getElem? (i := 84) rfl))) (mvT hZ (hw _ (List.mem_of_getElem? (i := 85) rfl))) (by decide) (backOf (W := 0) (rmCan l Z a0 hw [] ch h0 n0 Zc6 (hch : ¬ ((255 : Int32) < ch))) hZ (hw _ (List.mem_of_getElem? (i := 85) rfl)) (hw _ (List.mem_of_getElem? (i := 84) rfl)) (by decide) (by decide)) (g := (mkF m 18 #[.val (.ref b), .val (.int ch)] [(.int ch)])) rfl (by rw [hml]; rfl) (argsL := [(.int ch)]) (rest := []) (lenOf pd__C_Z rfl) rfl (by show 2 * 0 + _ ≤ _; exact Nat.le_of_eq rfl) (Jvm.hb hby d_jdk_68_method_31_18) (fun _ _ => ⟨rfl, e5, (by decide : 0 + 0 ≤ _), (by decide : 0 + 0 ≤ _)⟩)
  dsimp only [Pt.U, Pt.locs, Pt.cells, Pt.slots] at X7 l7 y7 z7 st7 hQ7
  subst l7 y7 z7
  obtain ⟨rfl, N7q, e7⟩ := hQ7
  have N7 := Fr.app N5 N7q
  obtain ⟨T8, X8, e8, st8⟩ := getF X7 hx hZ hown (host := "") (Or.inl (hw _ (List.mem_of_getElem? (i := 26) rfl))) Via.refl e7 I3 (g := (mkF m 25 #[.val (.ref b), .val (.int ch)] [(.ref b)])) rfl rfl (Jvm.hb hby d_jdk_68_method_31_25)
  obtain ⟨T9, X9, e9, st9⟩ := getF X8 hx hZ hown (host := "") (Or.inl (hw _ (List.mem_of_getElem? (i := 61) rfl))) Via.refl e8 I5 (g := (mkF m 30 #[.val (.ref b), .val (.int ch)] [(.ref b), (.ref b), (.ref va)])) rfl rfl (Jvm.hb hby d_jdk_68_method_31_30)
  obtain ⟨T10, h10, X10, e10, W10, st10⟩ := putF X9 hx hZ hown (host := "") (Or.inl (hw _ (List.mem_of_getElem? (i := 61) rfl))) Via.refl e9 I5 I2 (Or.inl (hw _ (List.mem_of_getElem? (i := 62) rfl))) (hw _ (List.mem_of_getElem? (i := 11) rfl)) (ty := .int) (by decide) rfl rfl (g := (mkF m 36 #[.val (.ref b), .val (.int ch)] [(.int ((Int32.ofNat k) + (1 : Int32))), (.ref b), (.int (Int32.ofNat k)), (.ref va)])) rfl rfl (Jvm.hb hby d_jdk_68_method_31_36)
  have z11 : h0.size ≤ h10.size := Nat.le_of_eq W10.size.symm
  have F10 : Fld Z h10 b "java/lang/AbstractStringBuilder" "count" "I" (.int ((Int32.ofNat k) + (1 : Int32))) := I5.same W10
  have N10 := Fr.snoc X10 N7 (show n0 ≤ b by omega)
  have f12 : Arv Z h10 va kc .byte (16 : Int32) vs (.int (0 : Int32)) := (I7.other W10 (show @Ne Nat va b by omega))
  obtain ⟨cl13, Ar13, q13, S13, M13, H13, G13⟩ := id f12
  have hin13 : ¬ ((Int32.ofNat k) < 0 ∨ cl13.slots.size ≤ ((Int32.ofNat k)).toNatClampNeg) := inb_of S13 (own_in hk)
  obtain ⟨T14, h14, X14, e14, W14, st14⟩ := stB X10 hx hZ e10 Ar13 (j := (Int32.ofNat k)) hin13 (g := (mkF m 41 #[.val (.ref b), .val (.int ch)] [(.int (own_lo ch)), (.int (Int32.ofNat k)), (.ref va)])) rfl rfl (Jvm.hb hby d_jdk_68_method_31_41)
  have z15 : h10.size ≤ h14.size := Nat.le_of_eq W14.size.symm
  have V14 : Arv Z h14 va kc .byte (16 : Int32) (vs.set k (.int (nar .byte (own_lo ch)))) (.int (0 : Int32)) := Arv.set Ar13 q13 S13 M13 H13 G13 (fits_nar_byte _) W14 k (own_tn hk) (by rw [hvs]; exact hk)
  have N14 := Fr.snoc X14 N10 (show n0 ≤ va by omega)
  have s16 : ∀ t_, Steps p.tables e below (T14.setTop (mkF m 76 #[.val (.ref b), .val (.int ch)] [(.ref b)])) t_ → Steps p.tables e below (s₁.setTop (entryFrame m #[(.ref b), (.int ch)] 2)) t_ := fun t_ k_ => pre0 t_ (by
    show Steps p.tables e below (s₁.setTop (mkF m 0 #[.val (.ref b), .val (.int ch)] [])) t_
    refine XS.aloadN X0.here hx rfl (Jvm.hb hby d_jdk_68_method_31_0) rfl rfl ?_
    show Steps p.tables e below (s₁.setTop (mkF m 1 #[.val (.ref b), .val (.int ch)] [(.ref b)])) _
    refine XS.aloadN X0.here hx rfl (Jvm.hb hby d_jdk_68_method_31_1) rfl rfl ?_
    show Steps p.tables e below (s₁.setTop (mkF m 2 #[.val (.ref b), .val (.int ch)] [(.ref b), (.ref b)])) _
    refine st1 _ ?_
    show Steps p.tables e below (T1.setTop (mkF m 5 #[.val (.ref b), .val (.int ch)] [(.int (Int32.ofNat k)), (.ref b)])) _
    refine XS.iconst X1.here hx rfl (Jvm.hb hby d_jdk_68_method_31_5) ?_
    show Steps p.tables e below (T1.setTop (mkF m 6 #[.val (.ref b), .val (.int ch)] [(.int (1 : Int32)), (.int (Int32.ofNat k)), (.ref b)])) _
    refine XS.iadd X1.here hx rfl (Jvm.hb hby d_jdk_68_method_31_6) rfl ?_
    show Steps p.tables e below (T1.setTop (mkF m 7 #[.val (.ref b), .val (.int ch)] [(.int ((Int32.ofNat k) + (1 : Int32))), (.ref b)])) _
    refine st3.trans ?_
    show Steps p.tables e below (T3.setTop (mkF m 10 #[.val (.ref b), .val (.int ch)] [])) _
    refine XS.aloadN X3.here hx rfl (Jvm.hb hby d_jdk_68_method_31_10) rfl rfl ?_
    show Steps p.tables e below (T3.setTop (mkF m 11 #[.val (.ref b), .val (.int ch)] [(.ref b)])) _
    refine st5.trans ?_
    show Steps p.tables e below (T5.setTop (mkF m 14 #[.val (.ref b), .val (.int ch)] [(.int (1 : Int32))])) _
    refine XS.ifNo X5.here hx rfl (Jvm.hb hby d_jdk_68_method_31_14) rfl ((if0 _ _).trans (feq (by decide : ¬ ((1 : Int32) = (0 : Int32)))).1) ?_
    show Steps p.tables e below (T5.setTop (mkF m 17 #[.val (.ref b), .val (.int ch)] [])) _
    refine XS.iloadN X5.here hx rfl (Jvm.hb hby d_jdk_68_method_31_17) rfl ?_
    show Steps p.tables e below (T5.setTop (mkF m 18 #[.val (.ref b), .val (.int ch)] [(.int ch)])) _
    refine st7 _ ?_
    show Steps p.tables e below (T7.setTop (mkF m 21 #[.val (.ref b), .val (.int ch)] [(.int (1 : Int32))])) _
    refine XS.ifNo X7.here hx rfl (Jvm.hb hby d_jdk_68_method_31_21) rfl ((if0 _ _).trans (feq (by decide : ¬ ((1 : Int32) = (0 : Int32)))).1) ?_
    show Steps p.tables e below (T7.setTop (mkF m 24 #[.val (.ref b), .val (.int ch)] [])) _
    refine XS.aloadN X7.here hx rfl (Jvm.hb hby d_jdk_68_method_31_24) rfl rfl ?_
    show Steps p.tables e below (T7.setTop (mkF m 25 #[.val (.ref b), .val (.int ch)] [(.ref b)])) _
    refine st8 _ ?_
    show Steps p.tables e below (T8.setTop (mkF m 28 #[.val (.ref b), .val (.int ch)] [(.ref va)])) _
    refine XS.aloadN X8.here hx rfl (Jvm.hb hby d_jdk_68_method_31_28) rfl rfl ?_
    show Steps p.tables e below (T8.setTop (mkF m 29 #[.val (.ref b), .val (.int ch)] [(.ref b), (.ref va)])) _
    refine XS.dup X8.here hx rfl (Jvm.hb hby d_jdk_68_method_31_29) rfl rfl ?_
    show Steps p.tables e below (T8.setTop (mkF m 30 #[.val (.ref b), .val (.int ch)] [(.ref b), (.ref b), (.ref va)])) _
    refine st9 _ ?_
    show Steps p.tables e below (T9.setTop (mkF m 33 #[.val (.ref b), .val (.int ch)] [(.int (Int32.ofNat k)), (.ref b), (.ref va)])) _
    refine XS.dupX1 X9.here hx rfl (Jvm.hb hby d_jdk_68_method_31_33) rfl rfl rfl ?_
    show Steps p.tables e below (T9.setTop (mkF m 34 #[.val (.ref b), .val (.int ch)] [(.int (Int32.ofNat k)), (.ref b), (.int (Int32.ofNat k)), (.ref va)])) _
    refine XS.iconst X9.here hx rfl (Jvm.hb hby d_jdk_68_method_31_34) ?_
    show Steps p.tables e below (T9.setTop (mkF m 35 #[.val (.ref b), .val (.int ch)] [(.int (1 : Int32)), (.int (Int32.ofNat k)), (.ref b), (.int (Int32.ofNat k)), (.ref va)])) _
    refine XS.iadd X9.here hx rfl (Jvm.hb hby d_jdk_68_method_31_35) rfl ?_
    show Steps p.tables e below (T9.setTop (mkF m 36 #[.val (.ref b), .val (.int ch)] [(.int ((Int32.ofNat k) + (1 : Int32))), (.ref b), (.int (Int32.ofNat k)), (.ref va)])) _
    refine st10 _ ?_
    show Steps p.tables e below (T10.setTop (mkF m 39 #[.val (.ref b), .val (.int ch)] [(.int (Int32.ofNat k)), (.ref va)])) _
    refine XS.iloadN X10.here hx rfl (Jvm.hb hby d_jdk_68_method_31_39) rfl ?_
    show Steps p.tables e below (T10.setTop (mkF m 40 #[.val (.ref b), .val (.int ch)] [(.int ch), (.int (Int32.ofNat k)), (.ref va)])) _
    refine XS.i2b X10.here hx rfl (Jvm.hb hby d_jdk_68_method_31_40) rfl ?_
    show Steps p.tables e below (T10.setTop (mkF m 41 #[.val (.ref b), .val (.int ch)] [(.int (own_lo ch)), (.int (Int32.ofNat k)), (.ref va)])) _
    refine st14 _ ?_
    show Steps p.tables e below (T14.setTop (mkF m 42 #[.val (.ref b), .val (.int ch)] [])) _
    refine XS.goto X14.here hx rfl (pc0 := 42) (pc' := 75) rfl (Jvm.hb hby d_jdk_68_method_31_42) (by decide) (by decide) ?_
    show Steps p.tables e below (T14.setTop (mkF m 75 #[.val (.ref b), .val (.int ch)] [])) _
    refine XS.aloadN X14.here hx rfl (Jvm.hb hby d_jdk_68_method_31_75) rfl rfl ?_
    show Steps p.tables e below (T14.setTop (mkF m 76 #[.val (.ref b), .val (.int ch)] [(.ref b)])) _
    show Steps p.tables e below (T14.setTop (mkF m 76 #[.val (.ref b), .val (.int ch)] [(.ref b)])) t_
    exact k_)
  obtain ⟨fs, hr, hrun, hended, hW, hsame⟩ := X14.leave (v := some (.ref b)) (fun h => by rw [Bd.returns] at h; cases h)
  have f17 : Fld Z h14 b "java/lang/AbstractStringBuilder" "count" "I" (.int ((Int32.ofNat k) + (1 : Int32))) := (F10.other W14 (Or.inl (show @Ne Nat b va by omega)))
  have F18 : Fld Z h14 b "java/lang/AbstractStringBuilder" "count" "I" (.int (Int32.ofNat (k + 1))) := by have q := f17; rw [← own_up k] at q; exact q
  have f19 : Exa Z h14 b "java/lang/StringBuilder" := ((I2.wr W10).wr W14)
  have f20 : Fld Z h14 b "java/lang/AbstractStringBuilder" "value" "[B" (.ref va) := ((I3.other W10 (Or.inr (slot_ne (Or.inl (hw _ (List.mem_of_getElem? (i := 27) rfl))) (Or.inl (hw _ (List.mem_of_getElem? (i := 62) rfl))) (by decide) (t := (.array .byte)) (t' := .int) (by decide) (by decide)))).other W14 (Or.inl (show @Ne Nat b va by omega)))
  have f21 : Fld Z h14 b "java/lang/AbstractStringBuilder" "coder" "B" (.int (0 : Int32)) := ((I4.other W10 (Or.inr (slot_ne (Or.inl (hw _ (List.mem_of_getElem? (i := 29) rfl))) (Or.inl (hw _ (List.mem_of_getElem? (i := 62) rfl))) (by decide) (t := .byte) (t' := .int) (by decide) (by decide)))).other W14 (Or.inl (show @Ne Nat b va by omega)))
  have f22 : Fld Z h14 b "java/lang/AbstractStringBuilder" "maybeLatin1" "Z" (.int ml) := ((I6.other W10 (Or.inr (slot_ne (Or.inl (hw _ (List.mem_of_getElem? (i := 111) rfl))) (Or.inl (hw _ (List.mem_of_getElem? (i := 62) rfl))) (by decide) (t := .boolean) (t' := .int) (by decide) (by decide)))).other W14 (Or.inl (show @Ne Nat b va by omega)))
  refine ⟨_, _, s16 _ ?_, hrun, hended, _, _, rfl, ?_, ⟨_, rfl⟩, hW, hsame.mono (by decide) (by decide)⟩
  · show Steps p.tables e below (T14.setTop (mkF m 76 #[.val (.ref b), .val (.int ch)] [(.ref b)])) _
    jvm_step X14.here [X14.here.top, hx, (Jvm.hb hby d_jdk_68_method_31_76), X14.method', Bd.returns, Value.isRef, FieldType.isReference]
    first | (intro acts; rw [hr _ acts rfl rfl rfl]) | rw [hr _ _ rfl rfl rfl]
    exact Steps.refl _
  · show Q_rmAApp Z _ _ _ _ _ _ _ _ h0 n0 _ T14.heap _
    rw [e14]
    exact ⟨(vs.set k (.int (nar .byte (own_lo ch)))), rfl, N14, (((Keep.refl h0 [b, va]).wr W10 (Or.inl (by simp))).wr W14 (Or.inl (by simp))), f19, f20, f21, F18, f22, V14, by simp [hvs]⟩
theorem d_jdk_67_method_14_0 : decode jdk_67_method_14_code 0 = .ok (.aload_n 0, 1) := by decide +kernel
theorem d_jdk_67_method_14_1 : decode jdk_67_method_14_code 1 = .ok (.iload_n 1, 1) := by decide +kernel
theorem pd__C_Ljava_lang_AbstractStringBuilder_ : parseMethodDescriptor "(C)Ljava/lang/AbstractStringBuilder;" = some ⟨[.char], some (.object "java/lang/AbstractStringBuilder")⟩ := by decide +kernel
theorem d_jdk_67_method_14_2 : decode jdk_67_method_14_code 2 = .ok (.invokespecial 50, 3) := by decide +kernel
theorem d_jdk_67_method_14_5 : decode jdk_67_method_14_code 5 = .ok (.pop, 1) := by decide +kernel
theorem d_jdk_67_method_14_6 : decode jdk_67_method_14_code 6 = .ok (.aload_n 0, 1) := by decide +kernel
theorem d_jdk_67_method_14_7 : decode jdk_67_method_14_code 7 = .ok (.areturn, 1) := by decide +kernel
theorem ef_rmSApp (m : MethodId) (x0 : Addr) (x1 : Int32) : entryFrame m #[(.ref x0), (.int x1)] 2 = mkF m 0 #[.val (.ref x0), .val (.int x1)] [] := by first | (simp [entryFrame, mkF, argsToLocals, Value.category]; done) | rfl
def Q_rmSApp (Z : State) (b : Addr) (ch : Int32) (cst : Int32) (va : Addr) (kc : ClassId) (vs : List Value) (k : Nat) (ml : Int32) (h0 : Heap) (n0 : Nat) (v : Option Value) (h : Heap) (L : List Loc) : Prop := ∃ (vt : List Value), (v = some (.ref b)) ∧ (Fr n0 L) ∧ (Keep h0 h [b, va]) ∧ (Exa Z h b "java/lang/StringBuilder") ∧ (Fld Z h b "java/lang/AbstractStringBuilder" "value" "[B" (.ref va)) ∧ (Fld Z h b "java/lang/AbstractStringBuilder" "coder" "B" (.int (0 : Int32))) ∧ (Fld Z h b "java/lang/AbstractStringBuilder" "count" "I" (.int (Int32.ofNat (k + 1)))) ∧ (Fld Z h b "java/lang/AbstractStringBuilder" "maybeLatin1" "Z" (.int ml)) ∧ (Arv Z h va kc .byte (16 : Int32) vt (.int (0 : Int32))) ∧ (vt.length = 16)
set_option maxRecDepth 65536 in
set_option maxHeartbeats 40000000 in
theorem rmSApp (l : Launch) (Z : State) (a0 : Array Value) (hw : ∀ d ∈ tables_1, d.before a0 Z = true) (ws : List Jvm.Cond) (b : Addr) (ch : Int32) (cst : Int32) (va : Addr) (kc : ClassId) (vs : List Value) (k : Nat) (ml : Int32) (h0 : Heap) (n0 : Nat) (Z0 : n0 ≤ h0.size) (I1 : Sta Z Z.heap "java/lang/String" "COMPACT_STRINGS" "Z" (.int cst)) (OX : Old Z n0 h0) (hcst : ¬ (cst = (0 : Int32))) (I2 : Exa Z h0 b "java/lang/StringBuilder") (I3 : Fld Z h0 b "java/lang/AbstractStringBuilder" "value" "[B" (.ref va)) (I4 : Fld Z h0 b "java/lang/AbstractStringBuilder" "coder" "B" (.int (0 : Int32))) (I5 : Fld Z h0 b "java/lang/AbstractStringBuilder" "count" "I" (.int (Int32.ofNat k))) (I6 : Fld Z h0 b "java/lang/AbstractStringBuilder" "maybeLatin1" "Z" (.int ml)) (I7 : Arv Z h0 va kc .byte (16 : Int32) vs (.int (0 : Int32))) (hch : ¬ ((255 : Int32) < ch)) (hvs : vs.length = 16) (hk : k < 16) (gb : n0 ≤ b) (gv : n0 ≤ va) (hbv : @Ne Nat b va) :
    MetFree l (⟨"java/lang/StringBuilder", "append", "(C)Ljava/lang/StringBuilder;"⟩ : MethodName) (head1 (Jvm.Cond.code (⟨"java/lang/StringBuilder", "append", "(C)Ljava/lang/StringBuilder;"⟩ : MethodName) jdk_67_method_14_code 2 (some (.object "java/lang/StringBuilder")) :: ws) ({ frames := 2, cells := 0, slots := 0, locals := 27 } : Room)) (fun ar_ U => ar_ = #[(.ref b), (.int ch)] ∧ Z.Warmed39 U.vm ∧ U.heap = h0) (fun _ _ _ _ _ => True) (fun _ U o U' => ∃ v L, o = .returned v ∧ Q_rmSApp Z b ch cst va kc vs k ml h0 n0 v U'.heap L ∧ FrameEnd U o U' L ({ frames := 2, cells := 0, slots := 0, locals := 27 } : Room).cells ({ frames := 2, cells := 0, slots := 0, locals := 27 } : Room).slots) := by
  refine MetFree.of_bodySF (plainFor_of_name pn_java_lang_StringBuilder) hisR ?_
  intro p e s m args below meth c s₁ Bd hml0 hP hK
  obtain ⟨rfl, hZ, hh⟩ := hP
  have hx := Bd.exec
  have hby := Bd.bytes
  have hml : c.maxLocals = 2 := hml0
  have hown : s.vm.findClass "java/lang/StringBuilder" = some m.cls := findClass_of_methodNamed Bd.named
  have hnm := (name_of_methodNamed Bd.named Bd.method).1
  have X0 : Stand p l e ({ frames := 2, cells := 0, slots := 0, locals := 27 } : Room) s m #[(.ref b), (.int ch)] below meth c s₁ [] 0 0 := Stand.of_body Bd
  have e0 : s₁.heap = h0 := by rw [← hh, Bd.state]; rfl
  have N0 := Fr.nil n0
  have pre0 : ∀ t_, Steps p.tables e below (s₁.setTop (mkF m 0 #[.val (.ref b), .val (.int ch)] [])) t_ → Steps p.tables e below (s₁.setTop (entryFrame m #[(.ref b), (.int ch)] 2)) t_ := fun t_ k_ => castTop (ef_rmSApp m b ch) k_
  have lt_I2 : @LT.lt Nat _ b h0.size := I2.lt
  have lt_I3 : @LT.lt Nat _ b h0.size := I3.lt
  have lt_I4 : @LT.lt Nat _ b h0.size := I4.lt
  have lt_I5 : @LT.lt Nat _ b h0.size := I5.lt
  have lt_I6 : @LT.lt Nat _ b h0.size := I6.lt
  have lt_I7 : @LT.lt Nat _ va h0.size := I7.lt
  have Zc1 : n0 ≤ h0.size := by omega
  obtain ⟨_, _, ⟨T2, L2, k2, n2⟩, -, X2, ⟨Lc2, hQ2, l2, y2, z2⟩, st2⟩ := superBack X0 hx hZ (y := (⟨"java/lang/AbstractStringBuilder", "append", "(C)Ljava/lang/AbstractStringBuilder;"⟩ : MethodName)) hown (hw _ (List.mem_of_getElem? (i := 68) rfl)) (own_same (hw _ (List.mem_of_getElem? (i := 69) rfl)) (own_nf (y := (⟨"java/lang/AbstractStringBuilder", "append", "(C)Ljava/lang/AbstractStringBuilder;"⟩ : MethodName)) (z := (⟨"java/lang/AbstractStringBuilder", "ensureCapacityInternal", "(I)V"⟩ : MethodName)) rfl (hw _ (List.mem_of_getElem? (i := 75) rfl))) (by decide)) (hw _ (List.mem_of_getElem? (i := 69) rfl)) (hw _ (List.mem_of_getElem? (i := 58) rfl)) (by decide) (backOf (W := 0) (rmAApp l Z a0 hw [] b ch cst va kc vs k ml h0 n0 Zc1 I1 OX (hcst : ¬ (cst = (0 : Int32))) I2 I3 I4 I5 I6 I7 (hch : ¬ ((255 : Int32) < ch)) (hvs : vs.length = 16) (hk : k < 16) (gb : n0 ≤ b) (gv : n0 ≤ va) (hbv : @Ne Nat b va)) hZ (hw _ (List.mem_of_getElem? (i := 71) rfl)) (hw _ (List.mem_of_getElem? (i := 20) rfl)) (by decide) (by decide)) e0 (Ins.self I2) (g := (mkF m 2 #[.val (.ref b), .val (.int ch)] [(.int ch), (.ref b)])) rfl (by rw [hml]; rfl) (hw _ (List.mem_of_getElem? (i := 71) rfl)) (argsL := [(.int ch)]) (rest := []) (lenOf pd__C_Ljava_lang_AbstractStringBuilder_ rfl) rfl (by show 2 * 0 + _ ≤ _; exact Nat.le_of_eq rfl) (Jvm.hb hby d_jdk_67_method_14_2) (fun _ _ => ⟨rfl, e0, (by decide : 0 + 0 ≤ _), (by decide : 0 + 0 ≤ _)⟩)
  dsimp only [Pt.U, Pt.locs, Pt.cells, Pt.slots] at X2 l2 y2 z2 st2 hQ2
  subst l2 y2 z2
  obtain ⟨vt_2, rfl, N2q, K2, Fq2_0, Fq2_1, Fq2_2, Fq2_3, Fq2_4, Fq2_5, P2_0⟩ := hQ2
  have N2 := Fr.app N0 N2q
  obtain ⟨h2, e2⟩ : ∃ z, T2.heap = z := ⟨_, rfl⟩
  rw [e2] at K2 Fq2_0 Fq2_1 Fq2_2 Fq2_3 Fq2_4 Fq2_5
  have z3 : h0.size ≤ h2.size := K2.1
  have lt2_0 : @LT.lt Nat _ b h2.size := Fq2_0.lt
  have lt2_5 : @LT.lt Nat _ va h2.size := Fq2_5.lt
  have s4 : ∀ t_, Steps p.tables e below (T2.setTop (mkF m 7 #[.val (.ref b), .val (.int ch)] [(.ref b)])) t_ → Steps p.tables e below (s₁.setTop (entryFrame m #[(.ref b), (.int ch)] 2)) t_ := fun t_ k_ => pre0 t_ (by
    show Steps p.tables e below (s₁.setTop (mkF m 0 #[.val (.ref b), .val (.int ch)] [])) t_
    refine XS.aloadN X0.here hx rfl (Jvm.hb hby d_jdk_67_method_14_0) rfl rfl ?_
    show Steps p.tables e below (s₁.setTop (mkF m 1 #[.val (.ref b), .val (.int ch)] [(.ref b)])) _
    refine XS.iloadN X0.here hx rfl (Jvm.hb hby d_jdk_67_method_14_1) rfl ?_
    show Steps p.tables e below (s₁.setTop (mkF m 2 #[.val (.ref b), .val (.int ch)] [(.int ch), (.ref b)])) _
    refine st2.trans ?_
    show Steps p.tables e below (T2.setTop (mkF m 5 #[.val (.ref b), .val (.int ch)] [(.ref b)])) _
    refine XS.pop X2.here hx rfl (Jvm.hb hby d_jdk_67_method_14_5) rfl rfl ?_
    show Steps p.tables e below (T2.setTop (mkF m 6 #[.val (.ref b), .val (.int ch)] [])) _
    refine XS.aloadN X2.here hx rfl (Jvm.hb hby d_jdk_67_method_14_6) rfl rfl ?_
    show Steps p.tables e below (T2.setTop (mkF m 7 #[.val (.ref b), .val (.int ch)] [(.ref b)])) _
    show Steps p.tables e below (T2.setTop (mkF m 7 #[.val (.ref b), .val (.int ch)] [(.ref b)])) t_
    exact k_)
  obtain ⟨fs, hr, hrun, hended, hW, hsame⟩ := X2.leave (v := some (.ref b)) (fun h => by rw [Bd.returns] at h; cases h)
  refine ⟨_, _, s4 _ ?_, hrun, hended, _, _, rfl, ?_, ⟨_, rfl⟩, hW, hsame.mono (by decide) (by decide)⟩
  · show Steps p.tables e below (T2.setTop (mkF m 7 #[.val (.ref b), .val (.int ch)] [(.ref b)])) _
    jvm_step X2.here [X2.here.top, hx, (Jvm.hb hby d_jdk_67_method_14_7), X2.method', Bd.returns, Value.isRef, FieldType.isReference]
    first | (intro acts; rw [hr _ acts rfl rfl rfl]) | rw [hr _ _ rfl rfl rfl]
    exact Steps.refl _
  · show Q_rmSApp Z _ _ _ _ _ _ _ _ h0 n0 _ T2.heap _
    rw [e2]
    exact ⟨vt_2, rfl, N2, ((Keep.refl h0 [b, va]).trans K2 (allS (Or.inl (by simp)) (allS (Or.inl (by simp)) all0))), Fq2_0, Fq2_1, Fq2_2, Fq2_3, Fq2_4, Fq2_5, P2_0⟩
theorem pn_com_example_bezugswerk_bezugswerk_DecodedPartsStartPinLaw : plainName "com/example/bezugswerk/bezugswerk/DecodedPartsStartPinLaw" = true := by first | (simp [plainName, overriddenIn]; done) | decide +kernel
theorem d_method_2_0 : decode method_2_code 0 = .ok (.iload_n 1, 1) := by decide +kernel
theorem d_method_2_1 : decode method_2_code 1 = .ok (.ifCond .le 10, 3) := by decide +kernel
theorem d_method_2_11 : decode method_2_code 11 = .ok (.iload_n 1, 1) := by decide +kernel
theorem d_method_2_12 : decode method_2_code 12 = .ok (.iconst 1, 1) := by decide +kernel
theorem d_method_2_13 : decode method_2_code 13 = .ok (.if_icmp .le 10, 3) := by decide +kernel
theorem d_method_2_23 : decode method_2_code 23 = .ok (.iload_n 1, 1) := by decide +kernel
theorem d_method_2_24 : decode method_2_code 24 = .ok (.iconst 2, 1) := by decide +kernel
theorem d_method_2_25 : decode method_2_code 25 = .ok (.if_icmp .le 10, 3) := by decide +kernel
theorem d_method_2_35 : decode method_2_code 35 = .ok (.return_, 1) := by decide +kernel
theorem d_method_2_4 : decode method_2_code 4 = .ok (.aload_n 0, 1) := by decide +kernel
theorem d_method_2_5 : decode method_2_code 5 = .ok (.bipush 120, 2) := by decide +kernel
theorem pd__C_Ljava_lang_StringBuilder_ : parseMethodDescriptor "(C)Ljava/lang/StringBuilder;" = some ⟨[.char], some (.object "java/lang/StringBuilder")⟩ := by decide +kernel
theorem d_method_2_7 : decode method_2_code 7 = .ok (.invokevirtual 7, 3) := by decide +kernel
theorem d_method_2_10 : decode method_2_code 10 = .ok (.pop, 1) := by decide +kernel
theorem d_method_2_16 : decode method_2_code 16 = .ok (.aload_n 0, 1) := by decide +kernel
theorem d_method_2_17 : decode method_2_code 17 = .ok (.bipush 121, 2) := by decide +kernel
theorem d_method_2_19 : decode method_2_code 19 = .ok (.invokevirtual 7, 3) := by decide +kernel
theorem d_method_2_22 : decode method_2_code 22 = .ok (.pop, 1) := by decide +kernel
theorem d_method_2_28 : decode method_2_code 28 = .ok (.aload_n 0, 1) := by decide +kernel
theorem d_method_2_29 : decode method_2_code 29 = .ok (.bipush 122, 2) := by decide +kernel
theorem d_method_2_31 : decode method_2_code 31 = .ok (.invokevirtual 7, 3) := by decide +kernel
theorem d_method_2_34 : decode method_2_code 34 = .ok (.pop, 1) := by decide +kernel
theorem ef_rmFill (m : MethodId) (x0 : Addr) (x1 : Int32) : entryFrame m #[(.ref x0), (.int x1)] 2 = mkF m 0 #[.val (.ref x0), .val (.int x1)] [] := by first | (simp [entryFrame, mkF, argsToLocals, Value.category]; done) | rfl
def Q_rmFill (Z : State) (b : Addr) (cst : Int32) (va : Addr) (kc : ClassId) (vs : List Value) (k : Nat) (ml : Int32) (n : Nat) (h0 : Heap) (n0 : Nat) (v : Option Value) (h : Heap) (L : List Loc) : Prop := ∃ (vt : List Value), (v = none) ∧ (Fr n0 L) ∧ (Keep h0 h [b, va]) ∧ (Exa Z h b "java/lang/StringBuilder") ∧ (Fld Z h b "java/lang/AbstractStringBuilder" "value" "[B" (.ref va)) ∧ (Fld Z h b "java/lang/AbstractStringBuilder" "coder" "B" (.int (0 : Int32))) ∧ (Fld Z h b "java/lang/AbstractStringBuilder" "count" "I" (.int (Int32.ofNat (k + n)))) ∧ (Fld Z h b "java/lang/AbstractStringBuilder" "maybeLatin1" "Z" (.int ml)) ∧ (Arv Z h va kc .byte (16 : Int32) vt (.int (0 : Int32))) ∧ (vt.length = 16)
set_option maxRecDepth 65536 in
set_option maxHeartbeats 40000000 in
theorem rmFill (l : Launch) (Z : State) (a0 : Array Value) (hw : ∀ d ∈ tables_1, d.before a0 Z = true) (ws : List Jvm.Cond) (b : Addr) (cst : Int32) (va : Addr) (kc : ClassId) (vs : List Value) (k : Nat) (ml : Int32) (n : Nat) (h0 : Heap) (n0 : Nat) (Z0 : n0 ≤ h0.size) (I1 : Sta Z Z.heap "java/lang/String" "COMPACT_STRINGS" "Z" (.int cst)) (OX : Old Z n0 h0) (hcst : ¬ (cst = (0 : Int32))) (I2 : Exa Z h0 b "java/lang/StringBuilder") (I3 : Fld Z h0 b "java/lang/AbstractStringBuilder" "value" "[B" (.ref va)) (I4 : Fld Z h0 b "java/lang/AbstractStringBuilder" "coder" "B" (.int (0 : Int32))) (I5 : Fld Z h0 b "java/lang/AbstractStringBuilder" "count" "I" (.int (Int32.ofNat k))) (I6 : Fld Z h0 b "java/lang/AbstractStringBuilder" "maybeLatin1" "Z" (.int ml)) (I7 : Arv Z h0 va kc .byte (16 : Int32) vs (.int (0 : Int32))) (hvs : vs.length = 16) (hn : n < 4) (hk : k + 3 < 16) (gb : n0 ≤ b) (gv : n0 ≤ va) (hbv : @Ne Nat b va) :
    MetFree l (⟨"com/example/bezugswerk/bezugswerk/DecodedPartsStartPinLaw", "fill", "(Ljava/lang/StringBuilder;I)V"⟩ : MethodName) (head1 (Jvm.Cond.code (⟨"com/example/bezugswerk/bezugswerk/DecodedPartsStartPinLaw", "fill", "(Ljava/lang/StringBuilder;I)V"⟩ : MethodName) method_2_code 2 none :: ws) ({ frames := 3, cells := 0, slots := 0, locals := 40 } : Room)) (fun ar_ U => ar_ = #[(.ref b), (.int (Int32.ofNat n))] ∧ Z.Warmed39 U.vm ∧ U.heap = h0) (fun _ _ _ _ _ => True) (fun _ U o U' => ∃ v L, o = .returned v ∧ Q_rmFill Z b cst va kc vs k ml n h0 n0 v U'.heap L ∧ FrameEnd U o U' L ({ frames := 3, cells := 0, slots := 0, locals := 40 } : Room).cells ({ frames := 3, cells := 0, slots := 0, locals := 40 } : Room).slots) := by
  refine MetFree.of_bodySF (plainFor_of_name pn_com_example_bezugswerk_bezugswerk_DecodedPartsStartPinLaw) hisR ?_
  intro p e s m args below meth c s₁ Bd hml0 hP hK
  obtain ⟨rfl, hZ, hh⟩ := hP
  have hx := Bd.exec
  have hby := Bd.bytes
  have hml : c.maxLocals = 2 := hml0
  have hown : s.vm.findClass "com/example/bezugswerk/bezugswerk/DecodedPartsStartPinLaw" = some m.cls := findClass_of_methodNamed Bd.named
  have hnm := (name_of_methodNamed Bd.named Bd.method).1
  have X0 : Stand p l e ({ frames := 3, cells := 0, slots := 0, locals := 40 } : Room) s m #[(.ref b), (.int (Int32.ofNat n))] below meth c s₁ [] 0 0 := Stand.of_body Bd
  have e0 : s₁.heap = h0 := by rw [← hh, Bd.state]; rfl
  have N0 := Fr.nil n0
  have pre0 : ∀ t_, Steps p.tables e below (s₁.setTop (mkF m 0 #[.val (.ref b), .val (.int (Int32.ofNat n))] [])) t_ → Steps p.tables e below (s₁.setTop (entryFrame m #[(.ref b), (.int (Int32.ofNat n))] 2)) t_ := fun t_ k_ => castTop (ef_rmFill m b (Int32.ofNat n)) k_
  have lt_I2 : @LT.lt Nat _ b h0.size := I2.lt
  have lt_I3 : @LT.lt Nat _ b h0.size := I3.lt
  have lt_I4 : @LT.lt Nat _ b h0.size := I4.lt
  have lt_I5 : @LT.lt Nat _ b h0.size := I5.lt
  have lt_I6 : @LT.lt Nat _ b h0.size := I6.lt
  have lt_I7 : @LT.lt Nat _ va h0.size := I7.lt
  obtain rfl | rfl | rfl | rfl : n = 0 ∨ n = 1 ∨ n = 2 ∨ n = 3 := by omega
  · have hcase := trivial
    have s1 : ∀ t_, Steps p.tables e below (s₁.setTop (mkF m 35 #[.val (.ref b), .val (.int (0 : Int32))] [])) t_ → Steps p.tables e below (s₁.setTop (entryFrame m #[(.ref b), (.int (0 : Int32))] 2)) t_ := fun t_ k_ => pre0 t_ (by
      show Steps p.tables e below (s₁.setTop (mkF m 0 #[.val (.ref b), .val (.int (0 : Int32))] [])) t_
      refine XS.iloadN X0.here hx rfl (Jvm.hb hby d_method_2_0) rfl ?_
      show Steps p.tables e below (s₁.setTop (mkF m 1 #[.val (.ref b), .val (.int (0 : Int32))] [(.int (0 : Int32))])) _
      refine XS.ifYes X0.here hx rfl (pc0 := 1) (pc' := 11) rfl (Jvm.hb hby d_method_2_1) rfl ((if0 _ _).trans (flt (by decide : ¬ ((0 : Int32) < (0 : Int32)))).2.2.2) (by decide) (by decide) ?_
      show Steps p.tables e below (s₁.setTop (mkF m 11 #[.val (.ref b), .val (.int (0 : Int32))] [])) _
      refine XS.iloadN X0.here hx rfl (Jvm.hb hby d_method_2_11) rfl ?_
      show Steps p.tables e below (s₁.setTop (mkF m 12 #[.val (.ref b), .val (.int (0 : Int32))] [(.int (0 : Int32))])) _
      refine XS.iconst X0.here hx rfl (Jvm.hb hby d_method_2_12) ?_
      show Steps p.tables e below (s₁.setTop (mkF m 13 #[.val (.ref b), .val (.int (0 : Int32))] [(.int (1 : Int32)), (.int (0 : Int32))])) _
      refine XS.icmpYes X0.here hx rfl (pc0 := 13) (pc' := 23) rfl (Jvm.hb hby d_method_2_13) rfl (flt (by decide : ¬ ((1 : Int32) < (0 : Int32)))).2.2.2 (by decide) (by decide) ?_
      show Steps p.tables e below (s₁.setTop (mkF m 23 #[.val (.ref b), .val (.int (0 : Int32))] [])) _
      refine XS.iloadN X0.here hx rfl (Jvm.hb hby d_method_2_23) rfl ?_
      show Steps p.tables e below (s₁.setTop (mkF m 24 #[.val (.ref b), .val (.int (0 : Int32))] [(.int (0 : Int32))])) _
      refine XS.iconst X0.here hx rfl (Jvm.hb hby d_method_2_24) ?_
      show Steps p.tables e below (s₁.setTop (mkF m 25 #[.val (.ref b), .val (.int (0 : Int32))] [(.int (2 : Int32)), (.int (0 : Int32))])) _
      refine XS.icmpYes X0.here hx rfl (pc0 := 25) (pc' := 35) rfl (Jvm.hb hby d_method_2_25) rfl (flt (by decide : ¬ ((2 : Int32) < (0 : Int32)))).2.2.2 (by decide) (by decide) ?_
      show Steps p.tables e below (s₁.setTop (mkF m 35 #[.val (.ref b), .val (.int (0 : Int32))] [])) _
      show Steps p.tables e below (s₁.setTop (mkF m 35 #[.val (.ref b), .val (.int (0 : Int32))] [])) t_
      exact k_)
    obtain ⟨fs, hr, hrun, hended, hW, hsame⟩ := X0.leave (v := none) (fun _ => rfl)
    refine ⟨_, _, s1 _ ?_, hrun, hended, _, _, rfl, ?_, ⟨_, rfl⟩, hW, hsame.mono (by decide) (by decide)⟩
    · show Steps p.tables e below (s₁.setTop (mkF m 35 #[.val (.ref b), .val (.int (0 : Int32))] [])) _
      exact X0.returnOut hx Bd.returns (Jvm.hb hby d_method_2_35) hr
    · show Q_rmFill Z _ _ _ _ _ _ _ _ h0 n0 _ s₁.heap _
      rw [e0]
      exact ⟨vs, rfl, N0, (Keep.refl h0 [b, va]), I2, I3, I4, I5, I6, I7, hvs⟩
  · have hcase := trivial
    have Zc2 : n0 ≤ h0.size := by omega
    obtain ⟨cq3, kq3, q3a, q3b, q3c⟩ := isOf hZ e0 I2
    obtain ⟨_, _, ⟨T3, L3, k3, n3⟩, -, X3, ⟨Lc3, hQ3, l3, y3, z3⟩, st3⟩ := X0.virtualBack hx (y := (⟨"java/lang/StringBuilder", "append", "(C)Ljava/lang/StringBuilder;"⟩ : MethodName)) (z := (⟨"java/lang/StringBuilder", "append", "(C)Ljava/lang/StringBuilder;"⟩ : MethodName)) hown (mvT hZ (hw _ (List.mem_of_getElem? (i := 63) rfl))) (mvT hZ (hw _ (List.mem_of_getElem? (i := 64) rfl))) (notFace_of_selects (args := #[]) (mvT hZ (hw _ (List.mem_of_getElem? (i := 66) rfl)))) (mvT hZ (hw _ (List.mem_of_getElem? (i := 66) rfl))) (mvT hZ (hw _ (List.mem_of_getElem? (i := 65) rfl))) (by decide) (backOf (W := 0) (rmSApp l Z a0 hw [] b (120 : Int32) cst va kc vs k ml h0 n0 Zc2 I1 OX (hcst : ¬ (cst = (0 : Int32))) I2 I3 I4 I5 I6 I7 (by first | assumption | rfl | decide | omega : ¬ ((255 : Int32) < (120 : Int32))) (hvs : vs.length = 16) (by first | assumption | rfl | decide | omega : k < 16) (gb : n0 ≤ b) (gv : n0 ≤ va) (hbv : @Ne Nat b va)) hZ (hw _ (List.mem_of_getElem? (i := 67) rfl)) (hw _ (List.mem_of_getElem? (i := 12) rfl)) (by decide) (by decide)) q3a q3c (g := (mkF m 7 #[.val (.ref b), .val (.int (1 : Int32))] [(.int (120 : Int32)), (.ref b)])) rfl (by rw [hml]; rfl) (Steps.refl _) (argsL := [(.int (120 : Int32))]) (rest := []) (lenOf pd__C_Ljava_lang_StringBuilder_ rfl) rfl (by show 2 * 0 + _ ≤ _; exact Nat.le_of_eq rfl) (Jvm.hb hby d_method_2_7) (fun _ _ => ⟨rfl, e0, (by decide : 0 + 0 ≤ _), (by decide : 0 + 0 ≤ _)⟩)
    dsimp only [Pt.U, Pt.locs, Pt.cells, Pt.slots] at X3 l3 y3 z3 st3 hQ3
    subst l3 y3 z3
    obtain ⟨vt_3, rfl, N3q, K3, Fq3_0, Fq3_1, Fq3_2, Fq3_3, Fq3_4, Fq3_5, P3_0⟩ := hQ3
    have N3 := Fr.app N0 N3q
    obtain ⟨h3, e3⟩ : ∃ z, T3.heap = z := ⟨_, rfl⟩
    rw [e3] at K3 Fq3_0 Fq3_1 Fq3_2 Fq3_3 Fq3_4 Fq3_5
    have z4 : h0.size ≤ h3.size := K3.1
    have lt3_0 : @LT.lt Nat _ b h3.size := Fq3_0.lt
    have lt3_5 : @LT.lt Nat _ va h3.size := Fq3_5.lt
    have s5 : ∀ t_, Steps p.tables e below (T3.setTop (mkF m 35 #[.val (.ref b), .val (.int (1 : Int32))] [])) t_ → Steps p.tables e below (s₁.setTop (entryFrame m #[(.ref b), (.int (1 : Int32))] 2)) t_ := fun t_ k_ => pre0 t_ (by
      show Steps p.tables e below (s₁.setTop (mkF m 0 #[.val (.ref b), .val (.int (1 : Int32))] [])) t_
      refine XS.iloadN X0.here hx rfl (Jvm.hb hby d_method_2_0) rfl ?_
      show Steps p.tables e below (s₁.setTop (mkF m 1 #[.val (.ref b), .val (.int (1 : Int32))] [(.int (1 : Int32))])) _
      refine XS.ifNo X0.here hx rfl (Jvm.hb hby d_method_2_1) rfl ((if0 _ _).trans (tlt (by decide : ((0 : Int32) < (1 : Int32)))).2.2.2) ?_
      show Steps p.tables e below (s₁.setTop (mkF m 4 #[.val (.ref b), .val (.int (1 : Int32))] [])) _
      refine XS.aloadN X0.here hx rfl (Jvm.hb hby d_method_2_4) rfl rfl ?_
      show Steps p.tables e below (s₁.setTop (mkF m 5 #[.val (.ref b), .val (.int (1 : Int32))] [(.ref b)])) _
      refine XS.bipush X0.here hx rfl (Jvm.hb hby d_method_2_5) ?_
      show Steps p.tables e below (s₁.setTop (mkF m 7 #[.val (.ref b), .val (.int (1 : Int32))] [(.int (120 : Int32)), (.ref b)])) _
      refine st3.trans ?_
      show Steps p.tables e below (T3.setTop (mkF m 10 #[.val (.ref b), .val (.int (1 : Int32))] [(.ref b)])) _
      refine XS.pop X3.here hx rfl (Jvm.hb hby d_method_2_10) rfl rfl ?_
      show Steps p.tables e below (T3.setTop (mkF m 11 #[.val (.ref b), .val (.int (1 : Int32))] [])) _
      refine XS.iloadN X3.here hx rfl (Jvm.hb hby d_method_2_11) rfl ?_
      show Steps p.tables e below (T3.setTop (mkF m 12 #[.val (.ref b), .val (.int (1 : Int32))] [(.int (1 : Int32))])) _
      refine XS.iconst X3.here hx rfl (Jvm.hb hby d_method_2_12) ?_
      show Steps p.tables e below (T3.setTop (mkF m 13 #[.val (.ref b), .val (.int (1 : Int32))] [(.int (1 : Int32)), (.int (1 : Int32))])) _
      refine XS.icmpYes X3.here hx rfl (pc0 := 13) (pc' := 23) rfl (Jvm.hb hby d_method_2_13) rfl (flt (by decide : ¬ ((1 : Int32) < (1 : Int32)))).2.2.2 (by decide) (by decide) ?_
      show Steps p.tables e below (T3.setTop (mkF m 23 #[.val (.ref b), .val (.int (1 : Int32))] [])) _
      refine XS.iloadN X3.here hx rfl (Jvm.hb hby d_method_2_23) rfl ?_
      show Steps p.tables e below (T3.setTop (mkF m 24 #[.val (.ref b), .val (.int (1 : Int32))] [(.int (1 : Int32))])) _
      refine XS.iconst X3.here hx rfl (Jvm.hb hby d_method_2_24) ?_
      show Steps p.tables e below (T3.setTop (mkF m 25 #[.val (.ref b), .val (.int (1 : Int32))] [(.int (2 : Int32)), (.int (1 : Int32))])) _
      refine XS.icmpYes X3.here hx rfl (pc0 := 25) (pc' := 35) rfl (Jvm.hb hby d_method_2_25) rfl (flt (by decide : ¬ ((2 : Int32) < (1 : Int32)))).2.2.2 (by decide) (by decide) ?_
      show Steps p.tables e below (T3.setTop (mkF m 35 #[.val (.ref b), .val (.int (1 : Int32))] [])) _
      show Steps p.tables e below (T3.setTop (mkF m 35 #[.val (.ref b), .val (.int (1 : Int32))] [])) t_
      exact k_)
    obtain ⟨fs, hr, hrun, hended, hW, hsame⟩ := X3.leave (v := none) (fun _ => rfl)
    refine ⟨_, _, s5 _ ?_, hrun, hended, _, _, rfl, ?_, ⟨_, rfl⟩, hW, hsame.mono (by decide) (by decide)⟩
    · show Steps p.tables e below (T3.setTop (mkF m 35 #[.val (.ref b), .val (.int (1 : Int32))] [])) _
      exact X3.returnOut hx Bd.returns (Jvm.hb hby d_method_2_35) hr
    · show Q_rmFill Z _ _ _ _ _ _ _ _ h0 n0 _ T3.heap _
      rw [e3]
      exact ⟨vt_3, rfl, N3, ((Keep.refl h0 [b, va]).trans K3 (allS (Or.inl (by simp)) (allS (Or.inl (by simp)) all0))), Fq3_0, Fq3_1, Fq3_2, Fq3_3, Fq3_4, Fq3_5, P3_0⟩
  · have hcase := trivial
    have Zc6 : n0 ≤ h0.size := by omega
    obtain ⟨cq7, kq7, q7a, q7b, q7c⟩ := isOf hZ e0 I2
    obtain ⟨_, _, ⟨T7, L7, k7, n7⟩, -, X7, ⟨Lc7, hQ7, l7, y7, z7⟩, st7⟩ := X0.virtualBack hx (y := (⟨"java/lang/StringBuilder", "append", "(C)Ljava/lang/StringBuilder;"⟩ : MethodName)) (z := (⟨"java/lang/StringBuilder", "append", "(C)Ljava/lang/StringBuilder;"⟩ : MethodName)) hown (mvT hZ (hw _ (List.mem_of_getElem? (i := 63) rfl))) (mvT hZ (hw _ (List.mem_of_getElem? (i := 64) rfl))) (notFace_of_selects (args := #[]) (mvT hZ (hw _ (List.mem_of_getElem? (i := 66) rfl)))) (mvT hZ (hw _ (List.mem_of_getElem? (i := 66) rfl))) (mvT hZ (hw _ (List.mem_of_getElem? (i := 65) rfl))) (by decide) (backOf (W := 0) (rmSApp l Z a0 hw [] b (120 : Int32) cst va kc vs k ml h0 n0 Zc6 I1 OX (hcst : ¬ (cst = (0 : Int32))) I2 I3 I4 I5 I6 I7 (by first | assumption | rfl | decide | omega : ¬ ((255 : Int32) < (120 : Int32))) (hvs : vs.length = 16) (by first | assumption | rfl | decide | omega : k < 16) (gb : n0 ≤ b) (gv : n0 ≤ va) (hbv : @Ne Nat b va)) hZ (hw _ (List.mem_of_getElem? (i := 67) rfl)) (hw _ (List.mem_of_getElem? (i := 12) rfl)) (by decide) (by decide)) q7a q7c (g := (mkF m 7 #[.val (.ref b), .val (.int (2 : Int32))] [(.int (120 : Int32)), (.ref b)])) rfl (by rw [hml]; rfl) (Steps.refl _) (argsL := [(.int (120 : Int32))]) (rest := []) (lenOf pd__C_Ljava_lang_StringBuilder_ rfl) rfl (by show 2 * 0 + _ ≤ _; exact Nat.le_of_eq rfl) (Jvm.hb hby d_method_2_7) (fun _ _ => ⟨rfl, e0, (by decide : 0 + 0 ≤ _), (by decide : 0 + 0 ≤ _)⟩)
    dsimp only [Pt.U, Pt.locs, Pt.cells, Pt.slots] at X7 l7 y7 z7 st7 hQ7
    subst l7 y7 z7
    obtain ⟨vt_7, rfl, N7q, K7, Fq7_0, Fq7_1, Fq7_2, Fq7_3, Fq7_4, Fq7_5, P7_0⟩ := hQ7
    have N7 := Fr.app N0 N7q
    obtain ⟨h7, e7⟩ : ∃ z, T7.heap = z := ⟨_, rfl⟩
    rw [e7] at K7 Fq7_0 Fq7_1 Fq7_2 Fq7_3 Fq7_4 Fq7_5
    have z8 : h0.size ≤ h7.size := K7.1
    have lt7_0 : @LT.lt Nat _ b h7.size := Fq7_0.lt
    have lt7_5 : @LT.lt Nat _ va h7.size := Fq7_5.lt
    have O9 : Old Z n0 h7 := (OX.keep K7 (allS (show n0 ≤ b by omega) (allS (show n0 ≤ va by omega) all0)))
    have Zc10 : n0 ≤ h7.size := by omega
    obtain ⟨cq11, kq11, q11a, q11b, q11c⟩ := isOf hZ e7 Fq7_0
    obtain ⟨_, _, ⟨T11, L11, k11, n11⟩, -, X11, ⟨Lc11, hQ11, l11, y11, z11⟩, st11⟩ := X7.virtualBack hx (y := (⟨"java/lang/StringBuilder", "append", "(C)Ljava/lang/StringBuilder;"⟩ : MethodName)) (z := (⟨"java/lang/StringBuilder", "append", "(C)Ljava/lang/StringBuilder;"⟩ : MethodName)) hown (mvT hZ (hw _ (List.mem_of_getElem? (i := 63) rfl))) (mvT hZ (hw _ (List.mem_of_getElem? (i := 64) rfl))) (notFace_of_selects (args := #[]) (mvT hZ (hw _ (List.mem_of_getElem? (i := 66) rfl)))) (mvT hZ (hw _ (List.mem_of_getElem? (i := 66) rfl))) (mvT hZ (hw _ (List.mem_of_getElem? (i := 65) rfl))) (by decide) (backOf (W := 0) (rmSApp l Z a0 hw [] b (121 : Int32) cst va kc vt_7 (k + 1) ml h7 n0 Zc10 I1 O9 (hcst : ¬ (cst = (0 : Int32))) Fq7_0 Fq7_1 Fq7_2 Fq7_3 Fq7_4 Fq7_5 (by first | assumption | rfl | decide | omega : ¬ ((255 : Int32) < (121 : Int32))) (P7_0 : vt_7.length = 16) (by first | assumption | rfl | decide | omega : (k + 1) < 16) (gb : n0 ≤ b) (gv : n0 ≤ va) (hbv : @Ne Nat b va)) hZ (hw _ (List.mem_of_getElem? (i := 67) rfl)) (hw _ (List.mem_of_getElem? (i := 12) rfl)) (by decide) (by decide)) q11a q11c (g := (mkF m 19 #[.val (.ref b), .val (.int (2 : Int32))] [(.int (121 : Int32)), (.ref b)])) rfl (by rw [hml]; rfl) (Steps.refl _) (argsL := [(.int (121 : Int32))]) (rest := []) (lenOf pd__C_Ljava_lang_StringBuilder_ rfl) rfl (by show 2 * 0 + _ ≤ _; exact Nat.le_of_eq rfl) (Jvm.hb hby d_method_2_19) (fun _ _ => ⟨rfl, e7, (by decide : 0 + 0 ≤ _), (by decide : 0 + 0 ≤ _)⟩)
    dsimp only [Pt.U, Pt.locs, Pt.cells, Pt.slots] at X11 l11 y11 z11 st11 hQ11
    subst l11 y11 z11
    obtain ⟨vt_11, rfl, N11q, K11, Fq11_0, Fq11_1, Fq11_2, Fq11_3, Fq11_4, Fq11_5, P11_0⟩ := hQ11
    have N11 := Fr.app N7 N11q
    obtain ⟨h11, e11⟩ : ∃ z, T11.heap = z := ⟨_, rfl⟩
    rw [e11] at K11 Fq11_0 Fq11_1 Fq11_2 Fq11_3 Fq11_4 Fq11_5
    have z12 : h7.size ≤ h11.size := K11.1
    have lt11_0 : @LT.lt Nat _ b h11.size := Fq11_0.lt
    have lt11_5 : @LT.lt Nat _ va h11.size := Fq11_5.lt
    have s13 : ∀ t_, Steps p.tables e below (T11.setTop (mkF m 35 #[.val (.ref b), .val (.int (2 : Int32))] [])) t_ → Steps p.tables e below (s₁.setTop (entryFrame m #[(.ref b), (.int (2 : Int32))] 2)) t_ := fun t_ k_ => pre0 t_ (by
      show Steps p.tables e below (s₁.setTop (mkF m 0 #[.val (.ref b), .val (.int (2 : Int32))] [])) t_
      refine XS.iloadN X0.here hx rfl (Jvm.hb hby d_method_2_0) rfl ?_
      show Steps p.tables e below (s₁.setTop (mkF m 1 #[.val (.ref b), .val (.int (2 : Int32))] [(.int (2 : Int32))])) _
      refine XS.ifNo X0.here hx rfl (Jvm.hb hby d_method_2_1) rfl ((if0 _ _).trans (tlt (by decide : ((0 : Int32) < (2 : Int32)))).2.2.2) ?_
      show Steps p.tables e below (s₁.setTop (mkF m 4 #[.val (.ref b), .val (.int (2 : Int32))] [])) _
      refine XS.aloadN X0.here hx rfl (Jvm.hb hby d_method_2_4) rfl rfl ?_
      show Steps p.tables e below (s₁.setTop (mkF m 5 #[.val (.ref b), .val (.int (2 : Int32))] [(.ref b)])) _
      refine XS.bipush X0.here hx rfl (Jvm.hb hby d_method_2_5) ?_
      show Steps p.tables e below (s₁.setTop (mkF m 7 #[.val (.ref b), .val (.int (2 : Int32))] [(.int (120 : Int32)), (.ref b)])) _
      refine st7.trans ?_
      show Steps p.tables e below (T7.setTop (mkF m 10 #[.val (.ref b), .val (.int (2 : Int32))] [(.ref b)])) _
      refine XS.pop X7.here hx rfl (Jvm.hb hby d_method_2_10) rfl rfl ?_
      show Steps p.tables e below (T7.setTop (mkF m 11 #[.val (.ref b), .val (.int (2 : Int32))] [])) _
      refine XS.iloadN X7.here hx rfl (Jvm.hb hby d_method_2_11) rfl ?_
      show Steps p.tables e below (T7.setTop (mkF m 12 #[.val (.ref b), .val (.int (2 : Int32))] [(.int (2 : Int32))])) _
      refine XS.iconst X7.here hx rfl (Jvm.hb hby d_method_2_12) ?_
      show Steps p.tables e below (T7.setTop (mkF m 13 #[.val (.ref b), .val (.int (2 : Int32))] [(.int (1 : Int32)), (.int (2 : Int32))])) _
      refine XS.icmpNo X7.here hx rfl (Jvm.hb hby d_method_2_13) rfl (tlt (by decide : ((1 : Int32) < (2 : Int32)))).2.2.2 ?_
      show Steps p.tables e below (T7.setTop (mkF m 16 #[.val (.ref b), .val (.int (2 : Int32))] [])) _
      refine XS.aloadN X7.here hx rfl (Jvm.hb hby d_method_2_16) rfl rfl ?_
      show Steps p.tables e below (T7.setTop (mkF m 17 #[.val (.ref b), .val (.int (2 : Int32))] [(.ref b)])) _
      refine XS.bipush X7.here hx rfl (Jvm.hb hby d_method_2_17) ?_
      show Steps p.tables e below (T7.setTop (mkF m 19 #[.val (.ref b), .val (.int (2 : Int32))] [(.int (121 : Int32)), (.ref b)])) _
      refine st11.trans ?_
      show Steps p.tables e below (T11.setTop (mkF m 22 #[.val (.ref b), .val (.int (2 : Int32))] [(.ref b)])) _
      refine XS.pop X11.here hx rfl (Jvm.hb hby d_method_2_22) rfl rfl ?_
      show Steps p.tables e below (T11.setTop (mkF m 23 #[.val (.ref b), .val (.int (2 : Int32))] [])) _
      refine XS.iloadN X11.here hx rfl (Jvm.hb hby d_method_2_23) rfl ?_
      show Steps p.tables e below (T11.setTop (mkF m 24 #[.val (.ref b), .val (.int (2 : Int32))] [(.int (2 : Int32))])) _
      refine XS.iconst X11.here hx rfl (Jvm.hb hby d_method_2_24) ?_
      show Steps p.tables e below (T11.setTop (mkF m 25 #[.val (.ref b), .val (.int (2 : Int32))] [(.int (2 : Int32)), (.int (2 : Int32))])) _
      refine XS.icmpYes X11.here hx rfl (pc0 := 25) (pc' := 35) rfl (Jvm.hb hby d_method_2_25) rfl (flt (by decide : ¬ ((2 : Int32) < (2 : Int32)))).2.2.2 (by decide) (by decide) ?_
      show Steps p.tables e below (T11.setTop (mkF m 35 #[.val (.ref b), .val (.int (2 : Int32))] [])) _
      show Steps p.tables e below (T11.setTop (mkF m 35 #[.val (.ref b), .val (.int (2 : Int32))] [])) t_
      exact k_)
    obtain ⟨fs, hr, hrun, hended, hW, hsame⟩ := X11.leave (v := none) (fun _ => rfl)
    refine ⟨_, _, s13 _ ?_, hrun, hended, _, _, rfl, ?_, ⟨_, rfl⟩, hW, hsame.mono (by decide) (by decide)⟩
    · show Steps p.tables e below (T11.setTop (mkF m 35 #[.val (.ref b), .val (.int (2 : Int32))] [])) _
      exact X11.returnOut hx Bd.returns (Jvm.hb hby d_method_2_35) hr
    · show Q_rmFill Z _ _ _ _ _ _ _ _ h0 n0 _ T11.heap _
      rw [e11]
      exact ⟨vt_11, rfl, N11, (((Keep.refl h0 [b, va]).trans K7 (allS (Or.inl (by simp)) (allS (Or.inl (by simp)) all0))).trans K11 (allS (Or.inl (by simp)) (allS (Or.inl (by simp)) all0))), Fq11_0, Fq11_1, Fq11_2, Fq11_3, Fq11_4, Fq11_5, P11_0⟩
  · have hcase := trivial
    have Zc14 : n0 ≤ h0.size := by omega
    obtain ⟨cq15, kq15, q15a, q15b, q15c⟩ := isOf hZ e0 I2
    obtain ⟨_, _, ⟨T15, L15, k15, n15⟩, -, X15, ⟨Lc15, hQ15, l15, y15, z15⟩, st15⟩ := X0.virtualBack hx (y := (⟨"java/lang/StringBuilder", "append", "(C)Ljava/lang/StringBuilder;"⟩ : MethodName)) (z := (⟨"java/lang/StringBuilder", "append", "(C)Ljava/lang/StringBuilder;"⟩ : MethodName)) hown (mvT hZ (hw _ (List.mem_of_getElem? (i := 63) rfl))) (mvT hZ (hw _ (List.mem_of_getElem? (i := 64) rfl))) (notFace_of_selects (args := #[]) (mvT hZ (hw _ (List.mem_of_getElem? (i := 66) rfl)))) (mvT hZ (hw _ (List.mem_of_getElem? (i := 66) rfl))) (mvT hZ (hw _ (List.mem_of_getElem? (i := 65) rfl))) (by decide) (backOf (W := 0) (rmSApp l Z a0 hw [] b (120 : Int32) cst va kc vs k ml h0 n0 Zc14 I1 OX (hcst : ¬ (cst = (0 : Int32))) I2 I3 I4 I5 I6 I7 (by first | assumption | rfl | decide | omega : ¬ ((255 : Int32) < (120 : Int32))) (hvs : vs.length = 16) (by first | assumption | rfl | decide | omega : k < 16) (gb : n0 ≤ b) (gv : n0 ≤ va) (hbv : @Ne Nat b va)) hZ (hw _ (List.mem_of_getElem? (i := 67) rfl)) (hw _ (List.mem_of_getElem? (i := 12) rfl)) (by decide) (by decide)) q15a q15c (g := (mkF m 7 #[.val (.ref b), .val (.int (3 : Int32))] [(.int (120 : Int32)), (.ref b)])) rfl (by rw [hml]; rfl) (Steps.refl _) (argsL := [(.int (120 : Int32))]) (rest := []) (lenOf pd__C_Ljava_lang_StringBuilder_ rfl) rfl (by show 2 * 0 + _ ≤ _; exact Nat.le_of_eq rfl) (Jvm.hb hby d_method_2_7) (fun _ _ => ⟨rfl, e0, (by decide : 0 + 0 ≤ _), (by decide : 0 + 0 ≤ _)⟩)
    dsimp only [Pt.U, Pt.locs, Pt.cells, Pt.slots] at X15 l15 y15 z15 st15 hQ15
    subst l15 y15 z15
    obtain ⟨vt_15, rfl, N15q, K15, Fq15_0, Fq15_1, Fq15_2, Fq15_3, Fq15_4, Fq15_5, P15_0⟩ := hQ15
    have N15 := Fr.app N0 N15q
    obtain ⟨h15, e15⟩ : ∃ z, T15.heap = z := ⟨_, rfl⟩
    rw [e15] at K15 Fq15_0 Fq15_1 Fq15_2 Fq15_3 Fq15_4 Fq15_5
    have z16 : h0.size ≤ h15.size := K15.1
    have lt15_0 : @LT.lt Nat _ b h15.size := Fq15_0.lt
    have lt15_5 : @LT.lt Nat _ va h15.size := Fq15_5.lt
    have O17 : Old Z n0 h15 := (OX.keep K15 (allS (show n0 ≤ b by omega) (allS (show n0 ≤ va by omega) all0)))
    have Zc18 : n0 ≤ h15.size := by omega
    obtain ⟨cq19, kq19, q19a, q19b, q19c⟩ := isOf hZ e15 Fq15_0
    obtain ⟨_, _, ⟨T19, L19, k19, n19⟩, -, X19, ⟨Lc19, hQ19, l19, y19, z19⟩, st19⟩ := X15.virtualBack hx (y := (⟨"java/lang/StringBuilder", "append", "(C)Ljava/lang/StringBuilder;"⟩ : MethodName)) (z := (⟨"java/lang/StringBuilder", "append", "(C)Ljava/lang/StringBuilder;"⟩ : MethodName)) hown (mvT hZ (hw _ (List.mem_of_getElem? (i := 63) rfl))) (mvT hZ (hw _ (List.mem_of_getElem? (i := 64) rfl))) (notFace_of_selects (args := #[]) (mvT hZ (hw _ (List.mem_of_getElem? (i := 66) rfl)))) (mvT hZ (hw _ (List.mem_of_getElem? (i := 66) rfl))) (mvT hZ (hw _ (List.mem_of_getElem? (i := 65) rfl))) (by decide) (backOf (W := 0) (rmSApp l Z a0 hw [] b (121 : Int32) cst va kc vt_15 (k + 1) ml h15 n0 Zc18 I1 O17 (hcst : ¬ (cst = (0 : Int32))) Fq15_0 Fq15_1 Fq15_2 Fq15_3 Fq15_4 Fq15_5 (by first | assumption | rfl | decide | omega : ¬ ((255 : Int32) < (121 : Int32))) (P15_0 : vt_15.length = 16) (by first | assumption | rfl | decide | omega : (k + 1) < 16) (gb : n0 ≤ b) (gv : n0 ≤ va) (hbv : @Ne Nat b va)) hZ (hw _ (List.mem_of_getElem? (i := 67) rfl)) (hw _ (List.mem_of_getElem? (i := 12) rfl)) (by decide) (by decide)) q19a q19c (g := (mkF m 19 #[.val (.ref b), .val (.int (3 : Int32))] [(.int (121 : Int32)), (.ref b)])) rfl (by rw [hml]; rfl) (Steps.refl _) (argsL := [(.int (121 : Int32))]) (rest := []) (lenOf pd__C_Ljava_lang_StringBuilder_ rfl) rfl (by show 2 * 0 + _ ≤ _; exact Nat.le_of_eq rfl) (Jvm.hb hby d_method_2_19) (fun _ _ => ⟨rfl, e15, (by decide : 0 + 0 ≤ _), (by decide : 0 + 0 ≤ _)⟩)
    dsimp only [Pt.U, Pt.locs, Pt.cells, Pt.slots] at X19 l19 y19 z19 st19 hQ19
    subst l19 y19 z19
    obtain ⟨vt_19, rfl, N19q, K19, Fq19_0, Fq19_1, Fq19_2, Fq19_3, Fq19_4, Fq19_5, P19_0⟩ := hQ19
    have N19 := Fr.app N15 N19q
    obtain ⟨h19, e19⟩ : ∃ z, T19.heap = z := ⟨_, rfl⟩
    rw [e19] at K19 Fq19_0 Fq19_1 Fq19_2 Fq19_3 Fq19_4 Fq19_5
    have z20 : h15.size ≤ h19.size := K19.1
    have lt19_0 : @LT.lt Nat _ b h19.size := Fq19_0.lt
    have lt19_5 : @LT.lt Nat _ va h19.size := Fq19_5.lt
    have O21 : Old Z n0 h19 := (O17.keep K19 (allS (show n0 ≤ b by omega) (allS (show n0 ≤ va by omega) all0)))
    have Zc22 : n0 ≤ h19.size := by omega
    obtain ⟨cq23, kq23, q23a, q23b, q23c⟩ := isOf hZ e19 Fq19_0
    obtain ⟨_, _, ⟨T23, L23, k23, n23⟩, -, X23, ⟨Lc23, hQ23, l23, y23, z23⟩, st23⟩ := X19.virtualBack hx (y := (⟨"java/lang/StringBuilder", "append", "(C)Ljava/lang/StringBuilder;"⟩ : MethodName)) (z := (⟨"java/lang/StringBuilder", "append", "(C)Ljava/lang/StringBuilder;"⟩ : MethodName)) hown (mvT hZ (hw _ (List.mem_of_getElem? (i := 63) rfl))) (mvT hZ (hw _ (List.mem_of_getElem? (i := 64) rfl))) (notFace_of_selects (args := #[]) (mvT hZ (hw _ (List.mem_of_getElem? (i := 66) rfl)))) (mvT hZ (hw _ (List.mem_of_getElem? (i := 66) rfl))) (mvT hZ (hw _ (List.mem_of_getElem? (i := 65) rfl))) (by decide) (backOf (W := 0) (rmSApp l Z a0 hw [] b (122 : Int32) cst va kc vt_19 ((k + 1) + 1) ml h19 n0 Zc22 I1 O21 (hcst : ¬ (cst = (0 : Int32))) Fq19_0 Fq19_1 Fq19_2 Fq19_3 Fq19_4 Fq19_5 (by first | assumption | rfl | decide | omega : ¬ ((255 : Int32) < (122 : Int32))) (P19_0 : vt_19.length = 16) (by first | assumption | rfl | decide | omega : ((k + 1) + 1) < 16) (gb : n0 ≤ b) (gv : n0 ≤ va) (hbv : @Ne Nat b va)) hZ (hw _ (List.mem_of_getElem? (i := 67) rfl)) (hw _ (List.mem_of_getElem? (i := 12) rfl)) (by decide) (by decide)) q23a q23c (g := (mkF m 31 #[.val (.ref b), .val (.int (3 : Int32))] [(.int (122 : Int32)), (.ref b)])) rfl (by rw [hml]; rfl) (Steps.refl _) (argsL := [(.int (122 : Int32))]) (rest := []) (lenOf pd__C_Ljava_lang_StringBuilder_ rfl) rfl (by show 2 * 0 + _ ≤ _; exact Nat.le_of_eq rfl) (Jvm.hb hby d_method_2_31) (fun _ _ => ⟨rfl, e19, (by decide : 0 + 0 ≤ _), (by decide : 0 + 0 ≤ _)⟩)
    dsimp only [Pt.U, Pt.locs, Pt.cells, Pt.slots] at X23 l23 y23 z23 st23 hQ23
    subst l23 y23 z23
    obtain ⟨vt_23, rfl, N23q, K23, Fq23_0, Fq23_1, Fq23_2, Fq23_3, Fq23_4, Fq23_5, P23_0⟩ := hQ23
    have N23 := Fr.app N19 N23q
    obtain ⟨h23, e23⟩ : ∃ z, T23.heap = z := ⟨_, rfl⟩
    rw [e23] at K23 Fq23_0 Fq23_1 Fq23_2 Fq23_3 Fq23_4 Fq23_5
    have z24 : h19.size ≤ h23.size := K23.1
    have lt23_0 : @LT.lt Nat _ b h23.size := Fq23_0.lt
    have lt23_5 : @LT.lt Nat _ va h23.size := Fq23_5.lt
    have s25 : ∀ t_, Steps p.tables e below (T23.setTop (mkF m 35 #[.val (.ref b), .val (.int (3 : Int32))] [])) t_ → Steps p.tables e below (s₁.setTop (entryFrame m #[(.ref b), (.int (3 : Int32))] 2)) t_ := fun t_ k_ => pre0 t_ (by
      show Steps p.tables e below (s₁.setTop (mkF m 0 #[.val (.ref b), .val (.int (3 : Int32))] [])) t_
      refine XS.iloadN X0.here hx rfl (Jvm.hb hby d_method_2_0) rfl ?_
      show Steps p.tables e below (s₁.setTop (mkF m 1 #[.val (.ref b), .val (.int (3 : Int32))] [(.int (3 : Int32))])) _
      refine XS.ifNo X0.here hx rfl (Jvm.hb hby d_method_2_1) rfl ((if0 _ _).trans (tlt (by decide : ((0 : Int32) < (3 : Int32)))).2.2.2) ?_
      show Steps p.tables e below (s₁.setTop (mkF m 4 #[.val (.ref b), .val (.int (3 : Int32))] [])) _
      refine XS.aloadN X0.here hx rfl (Jvm.hb hby d_method_2_4) rfl rfl ?_
      show Steps p.tables e below (s₁.setTop (mkF m 5 #[.val (.ref b), .val (.int (3 : Int32))] [(.ref b)])) _
      refine XS.bipush X0.here hx rfl (Jvm.hb hby d_method_2_5) ?_
      show Steps p.tables e below (s₁.setTop (mkF m 7 #[.val (.ref b), .val (.int (3 : Int32))] [(.int (120 : Int32)), (.ref b)])) _
      refine st15.trans ?_
      show Steps p.tables e below (T15.setTop (mkF m 10 #[.val (.ref b), .val (.int (3 : Int32))] [(.ref b)])) _
      refine XS.pop X15.here hx rfl (Jvm.hb hby d_method_2_10) rfl rfl ?_
      show Steps p.tables e below (T15.setTop (mkF m 11 #[.val (.ref b), .val (.int (3 : Int32))] [])) _
      refine XS.iloadN X15.here hx rfl (Jvm.hb hby d_method_2_11) rfl ?_
      show Steps p.tables e below (T15.setTop (mkF m 12 #[.val (.ref b), .val (.int (3 : Int32))] [(.int (3 : Int32))])) _
      refine XS.iconst X15.here hx rfl (Jvm.hb hby d_method_2_12) ?_
      show Steps p.tables e below (T15.setTop (mkF m 13 #[.val (.ref b), .val (.int (3 : Int32))] [(.int (1 : Int32)), (.int (3 : Int32))])) _
      refine XS.icmpNo X15.here hx rfl (Jvm.hb hby d_method_2_13) rfl (tlt (by decide : ((1 : Int32) < (3 : Int32)))).2.2.2 ?_
      show Steps p.tables e below (T15.setTop (mkF m 16 #[.val (.ref b), .val (.int (3 : Int32))] [])) _
      refine XS.aloadN X15.here hx rfl (Jvm.hb hby d_method_2_16) rfl rfl ?_
      show Steps p.tables e below (T15.setTop (mkF m 17 #[.val (.ref b), .val (.int (3 : Int32))] [(.ref b)])) _
      refine XS.bipush X15.here hx rfl (Jvm.hb hby d_method_2_17) ?_
      show Steps p.tables e below (T15.setTop (mkF m 19 #[.val (.ref b), .val (.int (3 : Int32))] [(.int (121 : Int32)), (.ref b)])) _
      refine st19.trans ?_
      show Steps p.tables e below (T19.setTop (mkF m 22 #[.val (.ref b), .val (.int (3 : Int32))] [(.ref b)])) _
      refine XS.pop X19.here hx rfl (Jvm.hb hby d_method_2_22) rfl rfl ?_
      show Steps p.tables e below (T19.setTop (mkF m 23 #[.val (.ref b), .val (.int (3 : Int32))] [])) _
      refine XS.iloadN X19.here hx rfl (Jvm.hb hby d_method_2_23) rfl ?_
      show Steps p.tables e below (T19.setTop (mkF m 24 #[.val (.ref b), .val (.int (3 : Int32))] [(.int (3 : Int32))])) _
      refine XS.iconst X19.here hx rfl (Jvm.hb hby d_method_2_24) ?_
      show Steps p.tables e below (T19.setTop (mkF m 25 #[.val (.ref b), .val (.int (3 : Int32))] [(.int (2 : Int32)), (.int (3 : Int32))])) _
      refine XS.icmpNo X19.here hx rfl (Jvm.hb hby d_method_2_25) rfl (tlt (by decide : ((2 : Int32) < (3 : Int32)))).2.2.2 ?_
      show Steps p.tables e below (T19.setTop (mkF m 28 #[.val (.ref b), .val (.int (3 : Int32))] [])) _
      refine XS.aloadN X19.here hx rfl (Jvm.hb hby d_method_2_28) rfl rfl ?_
      show Steps p.tables e below (T19.setTop (mkF m 29 #[.val (.ref b), .val (.int (3 : Int32))] [(.ref b)])) _
      refine XS.bipush X19.here hx rfl (Jvm.hb hby d_method_2_29) ?_
      show Steps p.tables e below (T19.setTop (mkF m 31 #[.val (.ref b), .val (.int (3 : Int32))] [(.int (122 : Int32)), (.ref b)])) _
      refine st23.trans ?_
      show Steps p.tables e below (T23.setTop (mkF m 34 #[.val (.ref b), .val (.int (3 : Int32))] [(.ref b)])) _
      refine XS.pop X23.here hx rfl (Jvm.hb hby d_method_2_34) rfl rfl ?_
      show Steps p.tables e below (T23.setTop (mkF m 35 #[.val (.ref b), .val (.int (3 : Int32))] [])) _
      show Steps p.tables e below (T23.setTop (mkF m 35 #[.val (.ref b), .val (.int (3 : Int32))] [])) t_
      exact k_)
    obtain ⟨fs, hr, hrun, hended, hW, hsame⟩ := X23.leave (v := none) (fun _ => rfl)
    refine ⟨_, _, s25 _ ?_, hrun, hended, _, _, rfl, ?_, ⟨_, rfl⟩, hW, hsame.mono (by decide) (by decide)⟩
    · show Steps p.tables e below (T23.setTop (mkF m 35 #[.val (.ref b), .val (.int (3 : Int32))] [])) _
      exact X23.returnOut hx Bd.returns (Jvm.hb hby d_method_2_35) hr
    · show Q_rmFill Z _ _ _ _ _ _ _ _ h0 n0 _ T23.heap _
      rw [e23]
      exact ⟨vt_23, rfl, N23, ((((Keep.refl h0 [b, va]).trans K15 (allS (Or.inl (by simp)) (allS (Or.inl (by simp)) all0))).trans K19 (allS (Or.inl (by simp)) (allS (Or.inl (by simp)) all0))).trans K23 (allS (Or.inl (by simp)) (allS (Or.inl (by simp)) all0))), Fq23_0, Fq23_1, Fq23_2, Fq23_3, Fq23_4, Fq23_5, P23_0⟩
theorem d_jdk_68_method_13_0 : decode jdk_68_method_13_code 0 = .ok (.iload_n 1, 1) := by decide +kernel
theorem d_jdk_68_method_13_1 : decode jdk_68_method_13_code 1 = .ok (.ifCond .ge 12, 3) := by decide +kernel
theorem d_jdk_68_method_13_13 : decode jdk_68_method_13_code 13 = .ok (.aload_n 0, 1) := by decide +kernel
theorem d_jdk_68_method_13_14 : decode jdk_68_method_13_code 14 = .ok (.iload_n 1, 1) := by decide +kernel
theorem d_jdk_68_method_13_15 : decode jdk_68_method_13_code 15 = .ok (.invokevirtual 100, 3) := by decide +kernel
theorem d_jdk_68_method_13_18 : decode jdk_68_method_13_code 18 = .ok (.aload_n 0, 1) := by decide +kernel
theorem d_jdk_68_method_13_19 : decode jdk_68_method_13_code 19 = .ok (.getfield 79, 3) := by decide +kernel
theorem d_jdk_68_method_13_22 : decode jdk_68_method_13_code 22 = .ok (.iload_n 1, 1) := by decide +kernel
theorem d_jdk_68_method_13_23 : decode jdk_68_method_13_code 23 = .ok (.if_icmp .ge 40, 3) := by decide +kernel
theorem d_jdk_68_method_13_63 : decode jdk_68_method_13_code 63 = .ok (.aload_n 0, 1) := by decide +kernel
theorem d_jdk_68_method_13_64 : decode jdk_68_method_13_code 64 = .ok (.getfield 79, 3) := by decide +kernel
theorem d_jdk_68_method_13_67 : decode jdk_68_method_13_code 67 = .ok (.iload_n 1, 1) := by decide +kernel
theorem d_jdk_68_method_13_68 : decode jdk_68_method_13_code 68 = .ok (.if_icmp .le 8, 3) := by decide +kernel
theorem d_jdk_68_method_13_71 : decode jdk_68_method_13_code 71 = .ok (.aload_n 0, 1) := by decide +kernel
theorem d_jdk_68_method_13_72 : decode jdk_68_method_13_code 72 = .ok (.iconst 1, 1) := by decide +kernel
theorem d_jdk_68_method_13_73 : decode jdk_68_method_13_code 73 = .ok (.putfield 73, 3) := by decide +kernel
theorem d_jdk_68_method_13_76 : decode jdk_68_method_13_code 76 = .ok (.aload_n 0, 1) := by decide +kernel
theorem d_jdk_68_method_13_77 : decode jdk_68_method_13_code 77 = .ok (.iload_n 1, 1) := by decide +kernel
theorem d_jdk_68_method_13_78 : decode jdk_68_method_13_code 78 = .ok (.putfield 79, 3) := by decide +kernel
theorem d_jdk_68_method_13_81 : decode jdk_68_method_13_code 81 = .ok (.return_, 1) := by decide +kernel
theorem ef_rmASet (m : MethodId) (x0 : Addr) (x1 : Int32) : entryFrame m #[(.ref x0), (.int x1)] 2 = mkF m 0 #[.val (.ref x0), .val (.int x1)] [] := by first | (simp [entryFrame, mkF, argsToLocals, Value.category]; done) | rfl
def Q_rmASet (Z : State) (b : Addr) (va : Addr) (kc : ClassId) (vs : List Value) (k : Nat) (ml : Int32) (h0 : Heap) (n0 : Nat) (v : Option Value) (h : Heap) (L : List Loc) : Prop := ∃ (mm : Int32), (v = none) ∧ (Fr n0 L) ∧ (Keep h0 h [b]) ∧ (Exa Z h b "java/lang/StringBuilder") ∧ (Fld Z h b "java/lang/AbstractStringBuilder" "value" "[B" (.ref va)) ∧ (Fld Z h b "java/lang/AbstractStringBuilder" "coder" "B" (.int (0 : Int32))) ∧ (Fld Z h b "java/lang/AbstractStringBuilder" "count" "I" (.int (0 : Int32))) ∧ (Fld Z h b "java/lang/AbstractStringBuilder" "maybeLatin1" "Z" (.int mm))
set_option maxRecDepth 65536 in
set_option maxHeartbeats 40000000 in
theorem rmASet (l : Launch) (Z : State) (a0 : Array Value) (hw : ∀ d ∈ tables_1, d.before a0 Z = true) (ws : List Jvm.Cond) (b : Addr) (va : Addr) (kc : ClassId) (vs : List Value) (k : Nat) (ml : Int32) (h0 : Heap) (n0 : Nat) (Z0 : n0 ≤ h0.size) (I1 : Exa Z h0 b "java/lang/StringBuilder") (I2 : Fld Z h0 b "java/lang/AbstractStringBuilder" "value" "[B" (.ref va)) (I3 : Fld Z h0 b "java/lang/AbstractStringBuilder" "coder" "B" (.int (0 : Int32))) (I4 : Fld Z h0 b "java/lang/AbstractStringBuilder" "count" "I" (.int (Int32.ofNat k))) (I5 : Fld Z h0 b "java/lang/AbstractStringBuilder" "maybeLatin1" "Z" (.int ml)) (I6 : Arv Z h0 va kc .byte (16 : Int32) vs (.int (0 : Int32))) (hk : k < 16) (gb : n0 ≤ b) :
    MetFree l (⟨"java/lang/AbstractStringBuilder", "setLength", "(I)V"⟩ : MethodName) (head1 (Jvm.Cond.code (⟨"java/lang/AbstractStringBuilder", "setLength", "(I)V"⟩ : MethodName) jdk_68_method_13_code 2 none :: ws) ({ frames := 1, cells := 0, slots := 0, locals := 14 } : Room)) (fun ar_ U => ar_ = #[(.ref b), (.int (0 : Int32))] ∧ Z.Warmed39 U.vm ∧ U.heap = h0) (fun _ _ _ _ _ => True) (fun _ U o U' => ∃ v L, o = .returned v ∧ Q_rmASet Z b va kc vs k ml h0 n0 v U'.heap L ∧ FrameEnd U o U' L ({ frames := 1, cells := 0, slots := 0, locals := 14 } : Room).cells ({ frames := 1, cells := 0, slots := 0, locals := 14 } : Room).slots) := by
  refine MetFree.of_bodySF (plainFor_of_name pn_java_lang_AbstractStringBuilder) hisR ?_
  intro p e s m args below meth c s₁ Bd hml0 hP hK
  obtain ⟨rfl, hZ, hh⟩ := hP
  have hx := Bd.exec
  have hby := Bd.bytes
  have hml : c.maxLocals = 2 := hml0
  have hown : s.vm.findClass "java/lang/AbstractStringBuilder" = some m.cls := findClass_of_methodNamed Bd.named
  have hnm := (name_of_methodNamed Bd.named Bd.method).1
  have X0 : Stand p l e ({ frames := 1, cells := 0, slots := 0, locals := 14 } : Room) s m #[(.ref b), (.int (0 : Int32))] below meth c s₁ [] 0 0 := Stand.of_body Bd
  have e0 : s₁.heap = h0 := by rw [← hh, Bd.state]; rfl
  have N0 := Fr.nil n0
  have pre0 : ∀ t_, Steps p.tables e below (s₁.setTop (mkF m 0 #[.val (.ref b), .val (.int (0 : Int32))] [])) t_ → Steps p.tables e below (s₁.setTop (entryFrame m #[(.ref b), (.int (0 : Int32))] 2)) t_ := fun t_ k_ => castTop (ef_rmASet m b (0 : Int32)) k_
  have lt_I1 : @LT.lt Nat _ b h0.size := I1.lt
  have lt_I2 : @LT.lt Nat _ b h0.size := I2.lt
  have lt_I3 : @LT.lt Nat _ b h0.size := I3.lt
  have lt_I4 : @LT.lt Nat _ b h0.size := I4.lt
  have lt_I5 : @LT.lt Nat _ b h0.size := I5.lt
  have lt_I6 : @LT.lt Nat _ va h0.size := I6.lt
  have Zc1 : n0 ≤ h0.size := by omega
  obtain ⟨cq2, kq2, q2a, q2b, q2c⟩ := isOf hZ e0 I1
  obtain ⟨_, _, ⟨T2, L2, k2, n2⟩, -, X2, ⟨Lc2, hQ2, l2, y2, z2⟩, st2⟩ := X0.virtualBack hx (y := (⟨"java/lang/AbstractStringBuilder", "ensureCapacityInternal", "(I)V"⟩ : MethodName)) (z := (⟨"java/lang/AbstractStringBuilder", "ensureCapacityInternal", "(I)V"⟩ : MethodName)) hown (mvT hZ (hw _ (List.mem_of_getElem? (i := 72) rfl))) (mvT hZ (own_declares (hw _ (List.mem_of_getElem? (i := 73) rfl)) (hw _ (List.mem_of_getElem? (i := 76) rfl)))) (notFace_of_selects (args := #[]) (mvT hZ (hw _ (List.mem_of_getElem? (i := 75) rfl)))) (mvT hZ (hw _ (List.mem_of_getElem? (i := 75) rfl))) (mvT hZ (hw _ (List.mem_of_getElem? (i := 73) rfl))) (by decide) (backOf (W := 0) (rmEns l Z a0 hw [] b (0 : Int32) va kc vs h0 n0 Zc1 I2 I3 I6 (by decide)) hZ (hw _ (List.mem_of_getElem? (i := 76) rfl)) (hw _ (List.mem_of_getElem? (i := 20) rfl)) (by decide) (by decide)) q2a q2c (g := (mkF m 15 #[.val (.ref b), .val (.int (0 : Int32))] [(.int (0 : Int32)), (.ref b)])) rfl (by rw [hml]; rfl) (Steps.refl _) (argsL := [(.int (0 : Int32))]) (rest := []) (lenOf pd__I_V rfl) rfl (by show 2 * 0 + _ ≤ _; exact Nat.le_of_eq rfl) (Jvm.hb hby d_jdk_68_method_13_15) (fun _ _ => ⟨rfl, e0, (by decide : 0 + 0 ≤ _), (by decide : 0 + 0 ≤ _)⟩)
  dsimp only [Pt.U, Pt.locs, Pt.cells, Pt.slots] at X2 l2 y2 z2 st2 hQ2
  subst l2 y2 z2
  obtain ⟨rfl, N2q, e2⟩ := hQ2
  have N2 := Fr.app N0 N2q
  obtain ⟨T3, X3, e3, st3⟩ := getF X2 hx hZ hown (host := "") (Or.inl (hw _ (List.mem_of_getElem? (i := 61) rfl))) Via.refl e2 I4 (g := (mkF m 19 #[.val (.ref b), .val (.int (0 : Int32))] [(.ref b)])) rfl rfl (Jvm.hb hby d_jdk_68_method_13_19)
  obtain ⟨T4, X4, e4, st4⟩ := getF X3 hx hZ hown (host := "") (Or.inl (hw _ (List.mem_of_getElem? (i := 61) rfl))) Via.refl e3 I4 (g := (mkF m 64 #[.val (.ref b), .val (.int (0 : Int32))] [(.ref b)])) rfl rfl (Jvm.hb hby d_jdk_68_method_13_64)
  have s5 : ∀ t_, Steps p.tables e below (T4.setTop (mkF m 68 #[.val (.ref b), .val (.int (0 : Int32))] [(.int (0 : Int32)), (.int (Int32.ofNat k))])) t_ → Steps p.tables e below (s₁.setTop (entryFrame m #[(.ref b), (.int (0 : Int32))] 2)) t_ := fun t_ k_ => pre0 t_ (by
    show Steps p.tables e below (s₁.setTop (mkF m 0 #[.val (.ref b), .val (.int (0 : Int32))] [])) t_
    refine XS.iloadN X0.here hx rfl (Jvm.hb hby d_jdk_68_method_13_0) rfl ?_
    show Steps p.tables e below (s₁.setTop (mkF m 1 #[.val (.ref b), .val (.int (0 : Int32))] [(.int (0 : Int32))])) _
    refine XS.ifYes X0.here hx rfl (pc0 := 1) (pc' := 13) rfl (Jvm.hb hby d_jdk_68_method_13_1) rfl ((if0 _ _).trans (flt (by decide : ¬ ((0 : Int32) < (0 : Int32)))).2.1) (by decide) (by decide) ?_
    show Steps p.tables e below (s₁.setTop (mkF m 13 #[.val (.ref b), .val (.int (0 : Int32))] [])) _
    refine XS.aloadN X0.here hx rfl (Jvm.hb hby d_jdk_68_method_13_13) rfl rfl ?_
    show Steps p.tables e below (s₁.setTop (mkF m 14 #[.val (.ref b), .val (.int (0 : Int32))] [(.ref b)])) _
    refine XS.iloadN X0.here hx rfl (Jvm.hb hby d_jdk_68_method_13_14) rfl ?_
    show Steps p.tables e below (s₁.setTop (mkF m 15 #[.val (.ref b), .val (.int (0 : Int32))] [(.int (0 : Int32)), (.ref b)])) _
    refine st2.trans ?_
    show Steps p.tables e below (T2.setTop (mkF m 18 #[.val (.ref b), .val (.int (0 : Int32))] [])) _
    refine XS.aloadN X2.here hx rfl (Jvm.hb hby d_jdk_68_method_13_18) rfl rfl ?_
    show Steps p.tables e below (T2.setTop (mkF m 19 #[.val (.ref b), .val (.int (0 : Int32))] [(.ref b)])) _
    refine st3 _ ?_
    show Steps p.tables e below (T3.setTop (mkF m 22 #[.val (.ref b), .val (.int (0 : Int32))] [(.int (Int32.ofNat k))])) _
    refine XS.iloadN X3.here hx rfl (Jvm.hb hby d_jdk_68_method_13_22) rfl ?_
    show Steps p.tables e below (T3.setTop (mkF m 23 #[.val (.ref b), .val (.int (0 : Int32))] [(.int (0 : Int32)), (.int (Int32.ofNat k))])) _
    refine XS.icmpYes X3.here hx rfl (pc0 := 23) (pc' := 63) rfl (Jvm.hb hby d_jdk_68_method_13_23) rfl (flt (own_nn hk)).2.1 (by decide) (by decide) ?_
    show Steps p.tables e below (T3.setTop (mkF m 63 #[.val (.ref b), .val (.int (0 : Int32))] [])) _
    refine XS.aloadN X3.here hx rfl (Jvm.hb hby d_jdk_68_method_13_63) rfl rfl ?_
    show Steps p.tables e below (T3.setTop (mkF m 64 #[.val (.ref b), .val (.int (0 : Int32))] [(.ref b)])) _
    refine st4 _ ?_
    show Steps p.tables e below (T4.setTop (mkF m 67 #[.val (.ref b), .val (.int (0 : Int32))] [(.int (Int32.ofNat k))])) _
    refine XS.iloadN X4.here hx rfl (Jvm.hb hby d_jdk_68_method_13_67) rfl ?_
    show Steps p.tables e below (T4.setTop (mkF m 68 #[.val (.ref b), .val (.int (0 : Int32))] [(.int (0 : Int32)), (.int (Int32.ofNat k))])) _
    show Steps p.tables e below (T4.setTop (mkF m 68 #[.val (.ref b), .val (.int (0 : Int32))] [(.int (0 : Int32)), (.int (Int32.ofNat k))])) t_
    exact k_)
  by_cases h6 : (0 : Int32) < (Int32.ofNat k)
  · obtain ⟨T7, h7, X7, e7, W7, st7⟩ := putFN X4 hx hZ hown (hw _ (List.mem_of_getElem? (i := 110) rfl)) Via.refl e4 I5 I1 (Or.inl (hw _ (List.mem_of_getElem? (i := 111) rfl))) (hw _ (List.mem_of_getElem? (i := 11) rfl)) (ty := .boolean) (v' := (.int (1 : Int32))) (by decide) rfl rfl (g := (mkF m 73 #[.val (.ref b), .val (.int (0 : Int32))] [(.int (1 : Int32)), (.ref b)])) rfl rfl (Jvm.hb hby d_jdk_68_method_13_73)
    have z8 : h0.size ≤ h7.size := Nat.le_of_eq W7.size.symm
    have F7 : Fld Z h7 b "java/lang/AbstractStringBuilder" "maybeLatin1" "Z" (.int (1 : Int32)) := I5.same W7
    have N7 := Fr.snoc X7 N2 (show n0 ≤ b by omega)
    have f9 : Exa Z h7 b "java/lang/StringBuilder" := (I1.wr W7)
    have f10 : Fld Z h7 b "java/lang/AbstractStringBuilder" "count" "I" (.int (Int32.ofNat k)) := (I4.other W7 (Or.inr (slot_ne (Or.inl (hw _ (List.mem_of_getElem? (i := 62) rfl))) (Or.inl (hw _ (List.mem_of_getElem? (i := 111) rfl))) (by decide) (t := .int) (t' := .boolean) (by decide) (by decide))))
    obtain ⟨T11, h11, X11, e11, W11, st11⟩ := putF X7 hx hZ hown (host := "") (Or.inl (hw _ (List.mem_of_getElem? (i := 61) rfl))) Via.refl e7 f10 f9 (Or.inl (hw _ (List.mem_of_getElem? (i := 62) rfl))) (hw _ (List.mem_of_getElem? (i := 11) rfl)) (ty := .int) (by decide) rfl rfl (g := (mkF m 78 #[.val (.ref b), .val (.int (0 : Int32))] [(.int (0 : Int32)), (.ref b)])) rfl rfl (Jvm.hb hby d_jdk_68_method_13_78)
    have z12 : h7.size ≤ h11.size := Nat.le_of_eq W11.size.symm
    have F11 : Fld Z h11 b "java/lang/AbstractStringBuilder" "count" "I" (.int (0 : Int32)) := f10.same W11
    have N11 := Fr.snoc X11 N7 (show n0 ≤ b by omega)
    have s13 : ∀ t_, Steps p.tables e below (T11.setTop (mkF m 81 #[.val (.ref b), .val (.int (0 : Int32))] [])) t_ → Steps p.tables e below (s₁.setTop (entryFrame m #[(.ref b), (.int (0 : Int32))] 2)) t_ := fun t_ k_ => s5 t_ (by
      show Steps p.tables e below (T4.setTop (mkF m 68 #[.val (.ref b), .val (.int (0 : Int32))] [(.int (0 : Int32)), (.int (Int32.ofNat k))])) t_
      refine XS.icmpNo X4.here hx rfl (Jvm.hb hby d_jdk_68_method_13_68) rfl (tlt h6).2.2.2 ?_
      show Steps p.tables e below (T4.setTop (mkF m 71 #[.val (.ref b), .val (.int (0 : Int32))] [])) _
      refine XS.aloadN X4.here hx rfl (Jvm.hb hby d_jdk_68_method_13_71) rfl rfl ?_
      show Steps p.tables e below (T4.setTop (mkF m 72 #[.val (.ref b), .val (.int (0 : Int32))] [(.ref b)])) _
      refine XS.iconst X4.here hx rfl (Jvm.hb hby d_jdk_68_method_13_72) ?_
      show Steps p.tables e below (T4.setTop (mkF m 73 #[.val (.ref b), .val (.int (0 : Int32))] [(.int (1 : Int32)), (.ref b)])) _
      refine st7 _ ?_
      show Steps p.tables e below (T7.setTop (mkF m 76 #[.val (.ref b), .val (.int (0 : Int32))] [])) _
      refine XS.aloadN X7.here hx rfl (Jvm.hb hby d_jdk_68_method_13_76) rfl rfl ?_
      show Steps p.tables e below (T7.setTop (mkF m 77 #[.val (.ref b), .val (.int (0 : Int32))] [(.ref b)])) _
      refine XS.iloadN X7.here hx rfl (Jvm.hb hby d_jdk_68_method_13_77) rfl ?_
      show Steps p.tables e below (T7.setTop (mkF m 78 #[.val (.ref b), .val (.int (0 : Int32))] [(.int (0 : Int32)), (.ref b)])) _
      refine st11 _ ?_
      show Steps p.tables e below (T11.setTop (mkF m 81 #[.val (.ref b), .val (.int (0 : Int32))] [])) _
      show Steps p.tables e below (T11.setTop (mkF m 81 #[.val (.ref b), .val (.int (0 : Int32))] [])) t_
      exact k_)
    obtain ⟨fs, hr, hrun, hended, hW, hsame⟩ := X11.leave (v := none) (fun _ => rfl)
    have f14 : Exa Z h11 b "java/lang/StringBuilder" := (f9.wr W11)
    have f15 : Fld Z h11 b "java/lang/AbstractStringBuilder" "value" "[B" (.ref va) := ((I2.other W7 (Or.inr (slot_ne (Or.inl (hw _ (List.mem_of_getElem? (i := 27) rfl))) (Or.inl (hw _ (List.mem_of_getElem? (i := 111) rfl))) (by decide) (t := (.array .byte)) (t' := .boolean) (by decide) (by decide)))).other W11 (Or.inr (slot_ne (Or.inl (hw _ (List.mem_of_getElem? (i := 27) rfl))) (Or.inl (hw _ (List.mem_of_getElem? (i := 62) rfl))) (by decide) (t := (.array .byte)) (t' := .int) (by decide) (by decide))))
    have f16 : Fld Z h11 b "java/lang/AbstractStringBuilder" "coder" "B" (.int (0 : Int32)) := ((I3.other W7 (Or.inr (slot_ne (Or.inl (hw _ (List.mem_of_getElem? (i := 29) rfl))) (Or.inl (hw _ (List.mem_of_getElem? (i := 111) rfl))) (by decide) (t := .byte) (t' := .boolean) (by decide) (by decide)))).other W11 (Or.inr (slot_ne (Or.inl (hw _ (List.mem_of_getElem? (i := 29) rfl))) (Or.inl (hw _ (List.mem_of_getElem? (i := 62) rfl))) (by decide) (t := .byte) (t' := .int) (by decide) (by decide))))
    have f17 : Fld Z h11 b "java/lang/AbstractStringBuilder" "maybeLatin1" "Z" (.int (1 : Int32)) := (F7.other W11 (Or.inr (slot_ne (Or.inl (hw _ (List.mem_of_getElem? (i := 111) rfl))) (Or.inl (hw _ (List.mem_of_getElem? (i := 62) rfl))) (by decide) (t := .boolean) (t' := .int) (by decide) (by decide))))
    refine ⟨_, _, s13 _ ?_, hrun, hended, _, _, rfl, ?_, ⟨_, rfl⟩, hW, hsame.mono (by decide) (by decide)⟩
    · show Steps p.tables e below (T11.setTop (mkF m 81 #[.val (.ref b), .val (.int (0 : Int32))] [])) _
      exact X11.returnOut hx Bd.returns (Jvm.hb hby d_jdk_68_method_13_81) hr
    · show Q_rmASet Z _ _ _ _ _ _ h0 n0 _ T11.heap _
      rw [e11]
      exact ⟨(1 : Int32), rfl, N11, (((Keep.refl h0 [b]).wr W7 (Or.inl (by simp))).wr W11 (Or.inl (by simp))), f14, f15, f16, F11, f17⟩
  · obtain ⟨T18, h18, X18, e18, W18, st18⟩ := putF X4 hx hZ hown (host := "") (Or.inl (hw _ (List.mem_of_getElem? (i := 61) rfl))) Via.refl e4 I4 I1 (Or.inl (hw _ (List.mem_of_getElem? (i := 62) rfl))) (hw _ (List.mem_of_getElem? (i := 11) rfl)) (ty := .int) (by decide) rfl rfl (g := (mkF m 78 #[.val (.ref b), .val (.int (0 : Int32))] [(.int (0 : Int32)), (.ref b)])) rfl rfl (Jvm.hb hby d_jdk_68_method_13_78)
    have z19 : h0.size ≤ h18.size := Nat.le_of_eq W18.size.symm
    have F18 : Fld Z h18 b "java/lang/AbstractStringBuilder" "count" "I" (.int (0 : Int32)) := I4.same W18
    have N18 := Fr.snoc X18 N2 (show n0 ≤ b by omega)
    have s20 : ∀ t_, Steps p.tables e below (T18.setTop (mkF m 81 #[.val (.ref b), .val (.int (0 : Int32))] [])) t_ → Steps p.tables e below (s₁.setTop (entryFrame m #[(.ref b), (.int (0 : Int32))] 2)) t_ := fun t_ k_ => s5 t_ (by
      show Steps p.tables e below (T4.setTop (mkF m 68 #[.val (.ref b), .val (.int (0 : Int32))] [(.int (0 : Int32)), (.int (Int32.ofNat k))])) t_
      refine XS.icmpYes X4.here hx rfl (pc0 := 68) (pc' := 76) rfl (Jvm.hb hby d_jdk_68_method_13_68) rfl (flt h6).2.2.2 (by decide) (by decide) ?_
      show Steps p.tables e below (T4.setTop (mkF m 76 #[.val (.ref b), .val (.int (0 : Int32))] [])) _
      refine XS.aloadN X4.here hx rfl (Jvm.hb hby d_jdk_68_method_13_76) rfl rfl ?_
      show Steps p.tables e below (T4.setTop (mkF m 77 #[.val (.ref b), .val (.int (0 : Int32))] [(.ref b)])) _
      refine XS.iloadN X4.here hx rfl (Jvm.hb hby d_jdk_68_method_13_77) rfl ?_
      show Steps p.tables e below (T4.setTop (mkF m 78 #[.val (.ref b), .val (.int (0 : Int32))] [(.int (0 : Int32)), (.ref b)])) _
      refine st18 _ ?_
      show Steps p.tables e below (T18.setTop (mkF m 81 #[.val (.ref b), .val (.int (0 : Int32))] [])) _
      show Steps p.tables e below (T18.setTop (mkF m 81 #[.val (.ref b), .val (.int (0 : Int32))] [])) t_
      exact k_)
    obtain ⟨fs, hr, hrun, hended, hW, hsame⟩ := X18.leave (v := none) (fun _ => rfl)
    have f21 : Exa Z h18 b "java/lang/StringBuilder" := (I1.wr W18)
    have f22 : Fld Z h18 b "java/lang/AbstractStringBuilder" "value" "[B" (.ref va) := (I2.other W18 (Or.inr (slot_ne (Or.inl (hw _ (List.mem_of_getElem? (i := 27) rfl))) (Or.inl (hw _ (List.mem_of_getElem? (i := 62) rfl))) (by decide) (t := (.array .byte)) (t' := .int) (by decide) (by decide))))
    have f23 : Fld Z h18 b "java/lang/AbstractStringBuilder" "coder" "B" (.int (0 : Int32)) := (I3.other W18 (Or.inr (slot_ne (Or.inl (hw _ (List.mem_of_getElem? (i := 29) rfl))) (Or.inl (hw _ (List.mem_of_getElem? (i := 62) rfl))) (by decide) (t := .byte) (t' := .int) (by decide) (by decide))))
    have f24 : Fld Z h18 b "java/lang/AbstractStringBuilder" "maybeLatin1" "Z" (.int ml) := (I5.other W18 (Or.inr (slot_ne (Or.inl (hw _ (List.mem_of_getElem? (i := 111) rfl))) (Or.inl (hw _ (List.mem_of_getElem? (i := 62) rfl))) (by decide) (t := .boolean) (t' := .int) (by decide) (by decide))))
    refine ⟨_, _, s20 _ ?_, hrun, hended, _, _, rfl, ?_, ⟨_, rfl⟩, hW, hsame.mono (by decide) (by decide)⟩
    · show Steps p.tables e below (T18.setTop (mkF m 81 #[.val (.ref b), .val (.int (0 : Int32))] [])) _
      exact X18.returnOut hx Bd.returns (Jvm.hb hby d_jdk_68_method_13_81) hr
    · show Q_rmASet Z _ _ _ _ _ _ h0 n0 _ T18.heap _
      rw [e18]
      exact ⟨ml, rfl, N18, ((Keep.refl h0 [b]).wr W18 (Or.inl (by simp))), f21, f22, f23, F18, f24⟩
theorem d_jdk_67_method_89_0 : decode jdk_67_method_89_code 0 = .ok (.aload_n 0, 1) := by decide +kernel
theorem d_jdk_67_method_89_1 : decode jdk_67_method_89_code 1 = .ok (.iload_n 1, 1) := by decide +kernel
theorem d_jdk_67_method_89_2 : decode jdk_67_method_89_code 2 = .ok (.invokespecial 333, 3) := by decide +kernel
theorem d_jdk_67_method_89_5 : decode jdk_67_method_89_code 5 = .ok (.return_, 1) := by decide +kernel
theorem ef_rmSSet (m : MethodId) (x0 : Addr) (x1 : Int32) : entryFrame m #[(.ref x0), (.int x1)] 2 = mkF m 0 #[.val (.ref x0), .val (.int x1)] [] := by first | (simp [entryFrame, mkF, argsToLocals, Value.category]; done) | rfl
def Q_rmSSet (Z : State) (b : Addr) (va : Addr) (kc : ClassId) (vs : List Value) (k : Nat) (ml : Int32) (h0 : Heap) (n0 : Nat) (v : Option Value) (h : Heap) (L : List Loc) : Prop := ∃ (mm : Int32), (v = none) ∧ (Fr n0 L) ∧ (Keep h0 h [b]) ∧ (Exa Z h b "java/lang/StringBuilder") ∧ (Fld Z h b "java/lang/AbstractStringBuilder" "value" "[B" (.ref va)) ∧ (Fld Z h b "java/lang/AbstractStringBuilder" "coder" "B" (.int (0 : Int32))) ∧ (Fld Z h b "java/lang/AbstractStringBuilder" "count" "I" (.int (0 : Int32))) ∧ (Fld Z h b "java/lang/AbstractStringBuilder" "maybeLatin1" "Z" (.int mm))
set_option maxRecDepth 65536 in
set_option maxHeartbeats 40000000 in
theorem rmSSet (l : Launch) (Z : State) (a0 : Array Value) (hw : ∀ d ∈ tables_1, d.before a0 Z = true) (ws : List Jvm.Cond) (b : Addr) (va : Addr) (kc : ClassId) (vs : List Value) (k : Nat) (ml : Int32) (h0 : Heap) (n0 : Nat) (Z0 : n0 ≤ h0.size) (I1 : Exa Z h0 b "java/lang/StringBuilder") (I2 : Fld Z h0 b "java/lang/AbstractStringBuilder" "value" "[B" (.ref va)) (I3 : Fld Z h0 b "java/lang/AbstractStringBuilder" "coder" "B" (.int (0 : Int32))) (I4 : Fld Z h0 b "java/lang/AbstractStringBuilder" "count" "I" (.int (Int32.ofNat k))) (I5 : Fld Z h0 b "java/lang/AbstractStringBuilder" "maybeLatin1" "Z" (.int ml)) (I6 : Arv Z h0 va kc .byte (16 : Int32) vs (.int (0 : Int32))) (hk : k < 16) (gb : n0 ≤ b) :
    MetFree l (⟨"java/lang/StringBuilder", "setLength", "(I)V"⟩ : MethodName) (head1 (Jvm.Cond.code (⟨"java/lang/StringBuilder", "setLength", "(I)V"⟩ : MethodName) jdk_67_method_89_code 2 none :: ws) ({ frames := 2, cells := 0, slots := 0, locals := 27 } : Room)) (fun ar_ U => ar_ = #[(.ref b), (.int (0 : Int32))] ∧ Z.Warmed39 U.vm ∧ U.heap = h0) (fun _ _ _ _ _ => True) (fun _ U o U' => ∃ v L, o = .returned v ∧ Q_rmSSet Z b va kc vs k ml h0 n0 v U'.heap L ∧ FrameEnd U o U' L ({ frames := 2, cells := 0, slots := 0, locals := 27 } : Room).cells ({ frames := 2, cells := 0, slots := 0, locals := 27 } : Room).slots) := by
  refine MetFree.of_bodySF (plainFor_of_name pn_java_lang_StringBuilder) hisR ?_
  intro p e s m args below meth c s₁ Bd hml0 hP hK
  obtain ⟨rfl, hZ, hh⟩ := hP
  have hx := Bd.exec
  have hby := Bd.bytes
  have hml : c.maxLocals = 2 := hml0
  have hown : s.vm.findClass "java/lang/StringBuilder" = some m.cls := findClass_of_methodNamed Bd.named
  have hnm := (name_of_methodNamed Bd.named Bd.method).1
  have X0 : Stand p l e ({ frames := 2, cells := 0, slots := 0, locals := 27 } : Room) s m #[(.ref b), (.int (0 : Int32))] below meth c s₁ [] 0 0 := Stand.of_body Bd
  have e0 : s₁.heap = h0 := by rw [← hh, Bd.state]; rfl
  have N0 := Fr.nil n0
  have pre0 : ∀ t_, Steps p.tables e below (s₁.setTop (mkF m 0 #[.val (.ref b), .val (.int (0 : Int32))] [])) t_ → Steps p.tables e below (s₁.setTop (entryFrame m #[(.ref b), (.int (0 : Int32))] 2)) t_ := fun t_ k_ => castTop (ef_rmSSet m b (0 : Int32)) k_
  have lt_I1 : @LT.lt Nat _ b h0.size := I1.lt
  have lt_I2 : @LT.lt Nat _ b h0.size := I2.lt
  have lt_I3 : @LT.lt Nat _ b h0.size := I3.lt
  have lt_I4 : @LT.lt Nat _ b h0.size := I4.lt
  have lt_I5 : @LT.lt Nat _ b h0.size := I5.lt
  have lt_I6 : @LT.lt Nat _ va h0.size := I6.lt
  have Zc1 : n0 ≤ h0.size := by omega
  obtain ⟨_, _, ⟨T2, L2, k2, n2⟩, -, X2, ⟨Lc2, hQ2, l2, y2, z2⟩, st2⟩ := superBack X0 hx hZ (y := (⟨"java/lang/AbstractStringBuilder", "setLength", "(I)V"⟩ : MethodName)) hown (hw _ (List.mem_of_getElem? (i := 106) rfl)) (own_same (hw _ (List.mem_of_getElem? (i := 107) rfl)) (own_nf (y := (⟨"java/lang/AbstractStringBuilder", "setLength", "(I)V"⟩ : MethodName)) (z := (⟨"java/lang/AbstractStringBuilder", "ensureCapacityInternal", "(I)V"⟩ : MethodName)) rfl (hw _ (List.mem_of_getElem? (i := 75) rfl))) (by decide)) (hw _ (List.mem_of_getElem? (i := 107) rfl)) (hw _ (List.mem_of_getElem? (i := 58) rfl)) (by decide) (backOf (W := 0) (rmASet l Z a0 hw [] b va kc vs k ml h0 n0 Zc1 I1 I2 I3 I4 I5 I6 (hk : k < 16) (gb : n0 ≤ b)) hZ (hw _ (List.mem_of_getElem? (i := 109) rfl)) (hw _ (List.mem_of_getElem? (i := 20) rfl)) (by decide) (by decide)) e0 (Ins.self I1) (g := (mkF m 2 #[.val (.ref b), .val (.int (0 : Int32))] [(.int (0 : Int32)), (.ref b)])) rfl (by rw [hml]; rfl) (hw _ (List.mem_of_getElem? (i := 109) rfl)) (argsL := [(.int (0 : Int32))]) (rest := []) (lenOf pd__I_V rfl) rfl (by show 2 * 0 + _ ≤ _; exact Nat.le_of_eq rfl) (Jvm.hb hby d_jdk_67_method_89_2) (fun _ _ => ⟨rfl, e0, (by decide : 0 + 0 ≤ _), (by decide : 0 + 0 ≤ _)⟩)
  dsimp only [Pt.U, Pt.locs, Pt.cells, Pt.slots] at X2 l2 y2 z2 st2 hQ2
  subst l2 y2 z2
  obtain ⟨mm_2, rfl, N2q, K2, Fq2_0, Fq2_1, Fq2_2, Fq2_3, Fq2_4⟩ := hQ2
  have N2 := Fr.app N0 N2q
  obtain ⟨h2, e2⟩ : ∃ z, T2.heap = z := ⟨_, rfl⟩
  rw [e2] at K2 Fq2_0 Fq2_1 Fq2_2 Fq2_3 Fq2_4
  have z3 : h0.size ≤ h2.size := K2.1
  have lt2_0 : @LT.lt Nat _ b h2.size := Fq2_0.lt
  have s4 : ∀ t_, Steps p.tables e below (T2.setTop (mkF m 5 #[.val (.ref b), .val (.int (0 : Int32))] [])) t_ → Steps p.tables e below (s₁.setTop (entryFrame m #[(.ref b), (.int (0 : Int32))] 2)) t_ := fun t_ k_ => pre0 t_ (by
    show Steps p.tables e below (s₁.setTop (mkF m 0 #[.val (.ref b), .val (.int (0 : Int32))] [])) t_
    refine XS.aloadN X0.here hx rfl (Jvm.hb hby d_jdk_67_method_89_0) rfl rfl ?_
    show Steps p.tables e below (s₁.setTop (mkF m 1 #[.val (.ref b), .val (.int (0 : Int32))] [(.ref b)])) _
    refine XS.iloadN X0.here hx rfl (Jvm.hb hby d_jdk_67_method_89_1) rfl ?_
    show Steps p.tables e below (s₁.setTop (mkF m 2 #[.val (.ref b), .val (.int (0 : Int32))] [(.int (0 : Int32)), (.ref b)])) _
    refine st2.trans ?_
    show Steps p.tables e below (T2.setTop (mkF m 5 #[.val (.ref b), .val (.int (0 : Int32))] [])) _
    show Steps p.tables e below (T2.setTop (mkF m 5 #[.val (.ref b), .val (.int (0 : Int32))] [])) t_
    exact k_)
  obtain ⟨fs, hr, hrun, hended, hW, hsame⟩ := X2.leave (v := none) (fun _ => rfl)
  refine ⟨_, _, s4 _ ?_, hrun, hended, _, _, rfl, ?_, ⟨_, rfl⟩, hW, hsame.mono (by decide) (by decide)⟩
  · show Steps p.tables e below (T2.setTop (mkF m 5 #[.val (.ref b), .val (.int (0 : Int32))] [])) _
    exact X2.returnOut hx Bd.returns (Jvm.hb hby d_jdk_67_method_89_5) hr
  · show Q_rmSSet Z _ _ _ _ _ _ h0 n0 _ T2.heap _
    rw [e2]
    exact ⟨mm_2, rfl, N2, ((Keep.refl h0 [b]).trans K2 (allS (Or.inl (by simp)) all0)), Fq2_0, Fq2_1, Fq2_2, Fq2_3, Fq2_4⟩
theorem pn_com_example_bezugswerk_bezugswerk_DecodedParts : plainName "com/example/bezugswerk/bezugswerk/DecodedParts" = true := by first | (simp [plainName, overriddenIn]; done) | decide +kernel
theorem d_prog_8_method_1_0 : decode prog_8_method_1_code 0 = .ok (.aload_n 0, 1) := by decide +kernel
theorem d_prog_8_method_1_1 : decode prog_8_method_1_code 1 = .ok (.invokespecial 1, 3) := by decide +kernel
theorem d_prog_8_method_1_4 : decode prog_8_method_1_code 4 = .ok (.aload_n 0, 1) := by decide +kernel
theorem d_prog_8_method_1_5 : decode prog_8_method_1_code 5 = .ok (.new 7, 3) := by decide +kernel
theorem d_prog_8_method_1_8 : decode prog_8_method_1_code 8 = .ok (.dup, 1) := by decide +kernel
theorem pd___V : parseMethodDescriptor "()V" = some ⟨[], none⟩ := by decide +kernel
theorem d_prog_8_method_1_9 : decode prog_8_method_1_code 9 = .ok (.invokespecial 9, 3) := by decide +kernel
theorem d_prog_8_method_1_12 : decode prog_8_method_1_code 12 = .ok (.putfield 10, 3) := by decide +kernel
theorem d_prog_8_method_1_15 : decode prog_8_method_1_code 15 = .ok (.aload_n 0, 1) := by decide +kernel
theorem d_prog_8_method_1_16 : decode prog_8_method_1_code 16 = .ok (.bipush 16, 2) := by decide +kernel
theorem d_prog_8_method_1_18 : decode prog_8_method_1_code 18 = .ok (.newarray .int, 2) := by decide +kernel
theorem d_prog_8_method_1_20 : decode prog_8_method_1_code 20 = .ok (.putfield 16, 3) := by decide +kernel
theorem d_prog_8_method_1_23 : decode prog_8_method_1_code 23 = .ok (.return_, 1) := by decide +kernel
theorem ef_rmDPi (m : MethodId) (x0 : Addr) : entryFrame m #[(.ref x0)] 1 = mkF m 0 #[.val (.ref x0)] [] := by first | (simp [entryFrame, mkF, argsToLocals, Value.category]; done) | rfl
def Q_rmDPi (Z : State) (a : Addr) (cst : Int32) (h0 : Heap) (n0 : Nat) (v : Option Value) (h : Heap) (L : List Loc) : Prop := ∃ (b : Addr), ∃ (va : Addr), ∃ (kc : ClassId), ∃ (ea : Addr), ∃ (ke : ClassId), (v = none) ∧ (Fr n0 L) ∧ (Keep h0 h [a]) ∧ (Exa Z h a "com/example/bezugswerk/bezugswerk/DecodedParts") ∧ (Fld Z h a "com/example/bezugswerk/bezugswerk/DecodedParts" "text" "Ljava/lang/StringBuilder;" (.ref b)) ∧ (Fld Z h a "com/example/bezugswerk/bezugswerk/DecodedParts" "ends" "[I" (.ref ea)) ∧ (Fld Z h a "com/example/bezugswerk/bezugswerk/DecodedParts" "size" "I" (.int (0 : Int32))) ∧ (Exa Z h b "java/lang/StringBuilder") ∧ (Fld Z h b "java/lang/AbstractStringBuilder" "value" "[B" (.ref va)) ∧ (Fld Z h b "java/lang/AbstractStringBuilder" "coder" "B" (.int (0 : Int32))) ∧ (Fld Z h b "java/lang/AbstractStringBuilder" "count" "I" (.int (0 : Int32))) ∧ (Fld Z h b "java/lang/AbstractStringBuilder" "maybeLatin1" "Z" (.int (0 : Int32))) ∧ (Arv Z h va kc .byte (16 : Int32) [(.int (0 : Int32)), (.int (0 : Int32)), (.int (0 : Int32)), (.int (0 : Int32)), (.int (0 : Int32)), (.int (0 : Int32)), (.int (0 : Int32)), (.int (0 : Int32)), (.int (0 : Int32)), (.int (0 : Int32)), (.int (0 : Int32)), (.int (0 : Int32)), (.int (0 : Int32)), (.int (0 : Int32)), (.int (0 : Int32)), (.int (0 : Int32))] (.int (0 : Int32))) ∧ (Arv Z h ea ke .int (16 : Int32) [(.int (0 : Int32)), (.int (0 : Int32)), (.int (0 : Int32)), (.int (0 : Int32)), (.int (0 : Int32)), (.int (0 : Int32)), (.int (0 : Int32)), (.int (0 : Int32)), (.int (0 : Int32)), (.int (0 : Int32)), (.int (0 : Int32)), (.int (0 : Int32)), (.int (0 : Int32)), (.int (0 : Int32)), (.int (0 : Int32)), (.int (0 : Int32))] (.int (0 : Int32))) ∧ (h0.size ≤ b) ∧ (@LT.lt Nat _ b va) ∧ (@LT.lt Nat _ va ea)
set_option maxRecDepth 65536 in
set_option maxHeartbeats 40000000 in
theorem rmDPi (l : Launch) (Z : State) (a0 : Array Value) (hw : ∀ d ∈ tables_1, d.before a0 Z = true) (ws : List Jvm.Cond) (a : Addr) (cst : Int32) (h0 : Heap) (n0 : Nat) (Z0 : n0 ≤ h0.size) (I1 : Sta Z Z.heap "java/lang/String" "COMPACT_STRINGS" "Z" (.int cst)) (OX : Old Z n0 h0) (hcst : ¬ (cst = (0 : Int32))) (I2 : Exa Z h0 a "com/example/bezugswerk/bezugswerk/DecodedParts") (I3 : Fld Z h0 a "com/example/bezugswerk/bezugswerk/DecodedParts" "text" "Ljava/lang/StringBuilder;" .null) (I4 : Fld Z h0 a "com/example/bezugswerk/bezugswerk/DecodedParts" "ends" "[I" .null) (I5 : Fld Z h0 a "com/example/bezugswerk/bezugswerk/DecodedParts" "size" "I" (.int (0 : Int32))) (ga : n0 ≤ a) :
    MetFree l (⟨"com/example/bezugswerk/bezugswerk/DecodedParts", "<init>", "()V"⟩ : MethodName) (head1 (Jvm.Cond.code (⟨"com/example/bezugswerk/bezugswerk/DecodedParts", "<init>", "()V"⟩ : MethodName) prog_8_method_1_code 1 none :: ws) ({ frames := 3, cells := 3, slots := 36, locals := 39 } : Room)) (fun ar_ U => ar_ = #[(.ref a)] ∧ Z.Warmed39 U.vm ∧ U.heap = h0) (fun _ _ _ _ _ => True) (fun _ U o U' => ∃ v L, o = .returned v ∧ Q_rmDPi Z a cst h0 n0 v U'.heap L ∧ FrameEnd U o U' L ({ frames := 3, cells := 3, slots := 36, locals := 39 } : Room).cells ({ frames := 3, cells := 3, slots := 36, locals := 39 } : Room).slots) := by
  refine MetFree.of_bodySF (plainFor_of_name pn_com_example_bezugswerk_bezugswerk_DecodedParts) hisR ?_
  intro p e s m args below meth c s₁ Bd hml0 hP hK
  obtain ⟨rfl, hZ, hh⟩ := hP
  have hx := Bd.exec
  have hby := Bd.bytes
  have hml : c.maxLocals = 1 := hml0
  have hown : s.vm.findClass "com/example/bezugswerk/bezugswerk/DecodedParts" = some m.cls := findClass_of_methodNamed Bd.named
  have hnm := (name_of_methodNamed Bd.named Bd.method).1
  have X0 : Stand p l e ({ frames := 3, cells := 3, slots := 36, locals := 39 } : Room) s m #[(.ref a)] below meth c s₁ [] 0 0 := Stand.of_body Bd
  have e0 : s₁.heap = h0 := by rw [← hh, Bd.state]; rfl
  have N0 := Fr.nil n0
  have pre0 : ∀ t_, Steps p.tables e below (s₁.setTop (mkF m 0 #[.val (.ref a)] [])) t_ → Steps p.tables e below (s₁.setTop (entryFrame m #[(.ref a)] 1)) t_ := fun t_ k_ => castTop (ef_rmDPi m a) k_
  have lt_I2 : @LT.lt Nat _ a h0.size := I2.lt
  have lt_I3 : @LT.lt Nat _ a h0.size := I3.lt
  have lt_I4 : @LT.lt Nat _ a h0.size := I4.lt
  have lt_I5 : @LT.lt Nat _ a h0.size := I5.lt
  obtain ⟨T1, X1, e1, st1⟩ := initO X0 hx hZ hown (hw _ (List.mem_of_getElem? (i := 7) rfl)) (hw _ (List.mem_of_getElem? (i := 8) rfl)) (hw _ (List.mem_of_getElem? (i := 9) rfl)) e0 (g := (mkF m 1 #[.val (.ref a)] [(.ref a)])) rfl (by rw [hml]; rfl) rfl (Jvm.hb hby d_prog_8_method_1_1) (by decide) (W := 0) (by show 2 * 0 + _ ≤ _; exact Nat.le_of_eq rfl) (by decide)
  obtain ⟨T2, h2, X2, e2, E2, A2, D2, -, st2⟩ := newO X1 hx hZ hown (hw _ (List.mem_of_getElem? (i := 10) rfl)) (hw _ (List.mem_of_getElem? (i := 11) rfl)) (hw _ (List.mem_of_getElem? (i := 12) rfl)) e1 (g := (mkF m 5 #[.val (.ref a)] [(.ref a)])) rfl (Jvm.hb hby d_prog_8_method_1_5) (by decide) (by decide)
  obtain ⟨b2, g2⟩ : ∃ z, z = h0.size := ⟨_, rfl⟩
  rw [← g2] at A2 D2 st2
  have z3 : h0.size ≤ h2.size := E2.1
  have l2 : b2 < h2.size := A2.lt
  have F4 : Fld Z h2 b2 "java/lang/AbstractStringBuilder" "value" "[B" .null := D2 (Or.inl (hw _ (List.mem_of_getElem? (i := 27) rfl))) (ty := (.array .byte)) (by decide)
  have F5 : Fld Z h2 b2 "java/lang/AbstractStringBuilder" "coder" "B" (.int (0 : Int32)) := D2 (Or.inl (hw _ (List.mem_of_getElem? (i := 29) rfl))) (ty := .byte) (by decide)
  have F6 : Fld Z h2 b2 "java/lang/AbstractStringBuilder" "count" "I" (.int (0 : Int32)) := D2 (Or.inl (hw _ (List.mem_of_getElem? (i := 62) rfl))) (ty := .int) (by decide)
  have F7 : Fld Z h2 b2 "java/lang/AbstractStringBuilder" "maybeLatin1" "Z" (.int (0 : Int32)) := D2 (Or.inl (hw _ (List.mem_of_getElem? (i := 111) rfl))) (ty := .boolean) (by decide)
  have O8 : Old Z n0 h2 := (OX.ext E2)
  have Zc9 : n0 ≤ h2.size := by omega
  obtain ⟨_, _, ⟨T10, L10, k10, n10⟩, -, X10, ⟨Lc10, hQ10, l10, y10, z10⟩, st10⟩ := X2.specialBack hx (y := (⟨"java/lang/StringBuilder", "<init>", "()V"⟩ : MethodName)) rfl hown (mvT hZ (hw _ (List.mem_of_getElem? (i := 13) rfl))) (mvT hZ (hw _ (List.mem_of_getElem? (i := 14) rfl))) (mvT hZ (hw _ (List.mem_of_getElem? (i := 15) rfl))) (by decide) (backOf (W := 2) (rmSBi l Z a0 hw [] b2 cst h2 n0 Zc9 I1 O8 (hcst : ¬ (cst = (0 : Int32))) A2 F4 F5 F6 F7 (by first | assumption | rfl | decide | omega : n0 ≤ b2)) hZ (hw _ (List.mem_of_getElem? (i := 15) rfl)) (hw _ (List.mem_of_getElem? (i := 12) rfl)) (by decide) (by decide)) (g := (mkF m 9 #[.val (.ref a)] [(.ref b2), (.ref b2), (.ref a)])) rfl (by rw [hml]; rfl) (Steps.refl _) (a := b2) (argsL := []) (rest := [(.ref b2), (.ref a)]) (lenOf pd___V rfl) rfl (by show 2 * 0 + _ ≤ _; exact Nat.le_of_eq rfl) (Jvm.hb hby d_prog_8_method_1_9) (fun _ _ => ⟨rfl, e2, (by decide : 1 + 1 ≤ _), (by decide : 4 + 16 ≤ _)⟩)
  dsimp only [Pt.U, Pt.locs, Pt.cells, Pt.slots] at X10 l10 y10 z10 st10 hQ10
  subst l10 y10 z10
  obtain ⟨va_10, kc_10, rfl, N10q, K10, Fq10_0, Fq10_1, Fq10_2, Fq10_3, Fq10_4, Fq10_5, P10_0⟩ := hQ10
  have N10 := Fr.app N0 N10q
  obtain ⟨h10, e10⟩ : ∃ z, T10.heap = z := ⟨_, rfl⟩
  rw [e10] at K10 Fq10_0 Fq10_1 Fq10_2 Fq10_3 Fq10_4 Fq10_5
  have z11 : h2.size ≤ h10.size := K10.1
  have lt10_0 : @LT.lt Nat _ b2 h10.size := Fq10_0.lt
  have lt10_5 : @LT.lt Nat _ va_10 h10.size := Fq10_5.lt
  have f12 : Exa Z h10 a "com/example/bezugswerk/bezugswerk/DecodedParts" := ((I2.ext E2).keep K10)
  have f13 : Fld Z h10 a "com/example/bezugswerk/bezugswerk/DecodedParts" "text" "Ljava/lang/StringBuilder;" .null := ((I3.ext E2).keep K10 (ninS (show @Ne Nat a b2 by omega) nin0))
  obtain ⟨T14, h14, X14, e14, W14, st14⟩ := putF X10 hx hZ hown (host := "") (Or.inl (hw _ (List.mem_of_getElem? (i := 30) rfl))) Via.refl e10 f13 f12 (Or.inr ⟨(hw _ (List.mem_of_getElem? (i := 31) rfl)), rfl, hnm⟩) (hw _ (List.mem_of_getElem? (i := 2) rfl)) (ty := (.object "java/lang/StringBuilder")) (by decide) rfl rfl (g := (mkF m 12 #[.val (.ref a)] [(.ref b2), (.ref a)])) rfl rfl (Jvm.hb hby d_prog_8_method_1_12)
  have z15 : h10.size ≤ h14.size := Nat.le_of_eq W14.size.symm
  have F14 : Fld Z h14 a "com/example/bezugswerk/bezugswerk/DecodedParts" "text" "Ljava/lang/StringBuilder;" (.ref b2) := f13.same W14
  have N14 := Fr.snoc X14 N10 (show n0 ≤ a by omega)
  obtain ⟨T16, h16, k16, X16, e16, E16, A16, st16⟩ := newP X14 hx hZ (hw _ (List.mem_of_getElem? (i := 32) rfl)) e14 (g := (mkF m 18 #[.val (.ref a)] [(.int (16 : Int32)), (.ref a)])) rfl (Jvm.hb hby d_prog_8_method_1_18) rfl (by decide) (cap := 16) (by decide) (by decide) (by decide) (by decide)
  obtain ⟨b16, g16⟩ : ∃ z, z = h14.size := ⟨_, rfl⟩
  rw [← g16] at A16 st16
  have z17 : h14.size ≤ h16.size := E16.1
  have l16 : b16 < h16.size := A16.lt
  have V16 : Arv Z h16 b16 k16 .int (16 : Int32) [(.int (0 : Int32)), (.int (0 : Int32)), (.int (0 : Int32)), (.int (0 : Int32)), (.int (0 : Int32)), (.int (0 : Int32)), (.int (0 : Int32)), (.int (0 : Int32)), (.int (0 : Int32)), (.int (0 : Int32)), (.int (0 : Int32)), (.int (0 : Int32)), (.int (0 : Int32)), (.int (0 : Int32)), (.int (0 : Int32)), (.int (0 : Int32))] (.int (0 : Int32)) := (Arv.new A16 (by decide)).pad (pad_rep [] (.int (0 : Int32)) 16)
  have f18 : Exa Z h16 a "com/example/bezugswerk/bezugswerk/DecodedParts" := ((f12.wr W14).ext E16)
  have f19 : Fld Z h16 a "com/example/bezugswerk/bezugswerk/DecodedParts" "ends" "[I" .null := ((((I4.ext E2).keep K10 (ninS (show @Ne Nat a b2 by omega) nin0)).other W14 (Or.inr (slot_ne (Or.inl (hw _ (List.mem_of_getElem? (i := 34) rfl))) (Or.inr (hw _ (List.mem_of_getElem? (i := 31) rfl))) (by decide) (t := (.array .int)) (t' := (.object "java/lang/StringBuilder")) (by decide) (by decide)))).ext E16)
  obtain ⟨T20, h20, X20, e20, W20, st20⟩ := putF X16 hx hZ hown (host := "") (Or.inl (hw _ (List.mem_of_getElem? (i := 33) rfl))) Via.refl e16 f19 f18 (Or.inl (hw _ (List.mem_of_getElem? (i := 34) rfl))) (hw _ (List.mem_of_getElem? (i := 2) rfl)) (ty := (.array .int)) (by decide) rfl rfl (g := (mkF m 20 #[.val (.ref a)] [(.ref b16), (.ref a)])) rfl rfl (Jvm.hb hby d_prog_8_method_1_20)
  have z21 : h16.size ≤ h20.size := Nat.le_of_eq W20.size.symm
  have F20 : Fld Z h20 a "com/example/bezugswerk/bezugswerk/DecodedParts" "ends" "[I" (.ref b16) := f19.same W20
  have N20 := Fr.snoc X20 N14 (show n0 ≤ a by omega)
  have s22 : ∀ t_, Steps p.tables e below (T20.setTop (mkF m 23 #[.val (.ref a)] [])) t_ → Steps p.tables e below (s₁.setTop (entryFrame m #[(.ref a)] 1)) t_ := fun t_ k_ => pre0 t_ (by
    show Steps p.tables e below (s₁.setTop (mkF m 0 #[.val (.ref a)] [])) t_
    refine XS.aloadN X0.here hx rfl (Jvm.hb hby d_prog_8_method_1_0) rfl rfl ?_
    show Steps p.tables e below (s₁.setTop (mkF m 1 #[.val (.ref a)] [(.ref a)])) _
    refine st1 _ ?_
    show Steps p.tables e below (T1.setTop (mkF m 4 #[.val (.ref a)] [])) _
    refine XS.aloadN X1.here hx rfl (Jvm.hb hby d_prog_8_method_1_4) rfl rfl ?_
    show Steps p.tables e below (T1.setTop (mkF m 5 #[.val (.ref a)] [(.ref a)])) _
    refine st2 _ ?_
    show Steps p.tables e below (T2.setTop (mkF m 8 #[.val (.ref a)] [(.ref b2), (.ref a)])) _
    refine XS.dup X2.here hx rfl (Jvm.hb hby d_prog_8_method_1_8) rfl rfl ?_
    show Steps p.tables e below (T2.setTop (mkF m 9 #[.val (.ref a)] [(.ref b2), (.ref b2), (.ref a)])) _
    refine st10.trans ?_
    show Steps p.tables e below (T10.setTop (mkF m 12 #[.val (.ref a)] [(.ref b2), (.ref a)])) _
    refine st14 _ ?_
    show Steps p.tables e below (T14.setTop (mkF m 15 #[.val (.ref a)] [])) _
    refine XS.aloadN X14.here hx rfl (Jvm.hb hby d_prog_8_method_1_15) rfl rfl ?_
    show Steps p.tables e below (T14.setTop (mkF m 16 #[.val (.ref a)] [(.ref a)])) _
    refine XS.bipush X14.here hx rfl (Jvm.hb hby d_prog_8_method_1_16) ?_
    show Steps p.tables e below (T14.setTop (mkF m 18 #[.val (.ref a)] [(.int (16 : Int32)), (.ref a)])) _
    refine st16 _ ?_
    show Steps p.tables e below (T16.setTop (mkF m 20 #[.val (.ref a)] [(.ref b16), (.ref a)])) _
    refine st20 _ ?_
    show Steps p.tables e below (T20.setTop (mkF m 23 #[.val (.ref a)] [])) _
    show Steps p.tables e below (T20.setTop (mkF m 23 #[.val (.ref a)] [])) t_
    exact k_)
  obtain ⟨fs, hr, hrun, hended, hW, hsame⟩ := X20.leave (v := none) (fun _ => rfl)
  have f23 : Exa Z h20 a "com/example/bezugswerk/bezugswerk/DecodedParts" := (f18.wr W20)
  have f24 : Fld Z h20 a "com/example/bezugswerk/bezugswerk/DecodedParts" "text" "Ljava/lang/StringBuilder;" (.ref b2) := ((F14.ext E16).other W20 (Or.inr (slot_ne (Or.inr (hw _ (List.mem_of_getElem? (i := 31) rfl))) (Or.inl (hw _ (List.mem_of_getElem? (i := 34) rfl))) (by decide) (t := (.object "java/lang/StringBuilder")) (t' := (.array .int)) (by decide) (by decide))))
  have f25 : Fld Z h20 a "com/example/bezugswerk/bezugswerk/DecodedParts" "size" "I" (.int (0 : Int32)) := (((((I5.ext E2).keep K10 (ninS (show @Ne Nat a b2 by omega) nin0)).other W14 (Or.inr (slot_ne (Or.inl (hw _ (List.mem_of_getElem? (i := 50) rfl))) (Or.inr (hw _ (List.mem_of_getElem? (i := 31) rfl))) (by decide) (t := .int) (t' := (.object "java/lang/StringBuilder")) (by decide) (by decide)))).ext E16).other W20 (Or.inr (slot_ne (Or.inl (hw _ (List.mem_of_getElem? (i := 50) rfl))) (Or.inl (hw _ (List.mem_of_getElem? (i := 34) rfl))) (by decide) (t := .int) (t' := (.array .int)) (by decide) (by decide))))
  have f26 : Exa Z h20 b2 "java/lang/StringBuilder" := (((Fq10_0.wr W14).ext E16).wr W20)
  have f27 : Fld Z h20 b2 "java/lang/AbstractStringBuilder" "value" "[B" (.ref va_10) := (((Fq10_1.other W14 (Or.inl (show @Ne Nat b2 a by omega))).ext E16).other W20 (Or.inl (show @Ne Nat b2 a by omega)))
  have f28 : Fld Z h20 b2 "java/lang/AbstractStringBuilder" "coder" "B" (.int (0 : Int32)) := (((Fq10_2.other W14 (Or.inl (show @Ne Nat b2 a by omega))).ext E16).other W20 (Or.inl (show @Ne Nat b2 a by omega)))
  have f29 : Fld Z h20 b2 "java/lang/AbstractStringBuilder" "count" "I" (.int (0 : Int32)) := (((Fq10_3.other W14 (Or.inl (show @Ne Nat b2 a by omega))).ext E16).other W20 (Or.inl (show @Ne Nat b2 a by omega)))
  have f30 : Fld Z h20 b2 "java/lang/AbstractStringBuilder" "maybeLatin1" "Z" (.int (0 : Int32)) := (((Fq10_4.other W14 (Or.inl (show @Ne Nat b2 a by omega))).ext E16).other W20 (Or.inl (show @Ne Nat b2 a by omega)))
  have f31 : Arv Z h20 va_10 kc_10 .byte (16 : Int32) [(.int (0 : Int32)), (.int (0 : Int32)), (.int (0 : Int32)), (.int (0 : Int32)), (.int (0 : Int32)), (.int (0 : Int32)), (.int (0 : Int32)), (.int (0 : Int32)), (.int (0 : Int32)), (.int (0 : Int32)), (.int (0 : Int32)), (.int (0 : Int32)), (.int (0 : Int32)), (.int (0 : Int32)), (.int (0 : Int32)), (.int (0 : Int32))] (.int (0 : Int32)) := (((Fq10_5.other W14 (show @Ne Nat va_10 a by omega)).ext E16).other W20 (show @Ne Nat va_10 a by omega))
  have f32 : Arv Z h20 b16 k16 .int (16 : Int32) [(.int (0 : Int32)), (.int (0 : Int32)), (.int (0 : Int32)), (.int (0 : Int32)), (.int (0 : Int32)), (.int (0 : Int32)), (.int (0 : Int32)), (.int (0 : Int32)), (.int (0 : Int32)), (.int (0 : Int32)), (.int (0 : Int32)), (.int (0 : Int32)), (.int (0 : Int32)), (.int (0 : Int32)), (.int (0 : Int32)), (.int (0 : Int32))] (.int (0 : Int32)) := (V16.other W20 (show @Ne Nat b16 a by omega))
  refine ⟨_, _, s22 _ ?_, hrun, hended, _, _, rfl, ?_, ⟨_, rfl⟩, hW, hsame.mono (by decide) (by decide)⟩
  · show Steps p.tables e below (T20.setTop (mkF m 23 #[.val (.ref a)] [])) _
    exact X20.returnOut hx Bd.returns (Jvm.hb hby d_prog_8_method_1_23) hr
  · show Q_rmDPi Z _ _ h0 n0 _ T20.heap _
    rw [e20]
    exact ⟨b2, va_10, kc_10, b16, k16, rfl, N20, ((((((Keep.refl h0 [a]).ext E2).trans K10 (allS (Or.inr (show h0.size ≤ b2 by omega)) all0)).wr W14 (Or.inl (by simp))).ext E16).wr W20 (Or.inl (by simp))), f23, f24, F20, f25, f26, f27, f28, f29, f30, f31, f32, by omega, by omega, by omega⟩
theorem d_prog_8_method_8_0 : decode prog_8_method_8_code 0 = .ok (.aload_n 0, 1) := by decide +kernel
theorem d_prog_8_method_8_1 : decode prog_8_method_8_code 1 = .ok (.getfield 10, 3) := by decide +kernel
theorem d_prog_8_method_8_4 : decode prog_8_method_8_code 4 = .ok (.areturn, 1) := by decide +kernel
theorem ef_rmDec (m : MethodId) (x0 : Addr) : entryFrame m #[(.ref x0)] 1 = mkF m 0 #[.val (.ref x0)] [] := by first | (simp [entryFrame, mkF, argsToLocals, Value.category]; done) | rfl
def Q_rmDec (Z : State) (a : Addr) (b : Addr) (h0 : Heap) (n0 : Nat) (v : Option Value) (h : Heap) (L : List Loc) : Prop := (v = some (.ref b)) ∧ (Fr n0 L) ∧ (h = h0)
set_option maxRecDepth 65536 in
set_option maxHeartbeats 40000000 in
theorem rmDec (l : Launch) (Z : State) (a0 : Array Value) (hw : ∀ d ∈ tables_1, d.before a0 Z = true) (ws : List Jvm.Cond) (a : Addr) (b : Addr) (h0 : Heap) (n0 : Nat) (Z0 : n0 ≤ h0.size) (I1 : Fld Z h0 a "com/example/bezugswerk/bezugswerk/DecodedParts" "text" "Ljava/lang/StringBuilder;" (.ref b)) :
    MetFree l (⟨"com/example/bezugswerk/bezugswerk/DecodedParts", "decoded", "()Ljava/lang/StringBuilder;"⟩ : MethodName) (head1 (Jvm.Cond.code (⟨"com/example/bezugswerk/bezugswerk/DecodedParts", "decoded", "()Ljava/lang/StringBuilder;"⟩ : MethodName) prog_8_method_8_code 1 (some (.object "java/lang/StringBuilder")) :: ws) ({ frames := 0, cells := 0, slots := 0, locals := 0 } : Room)) (fun ar_ U => ar_ = #[(.ref a)] ∧ Z.Warmed39 U.vm ∧ U.heap = h0) (fun _ _ _ _ _ => True) (fun _ U o U' => ∃ v L, o = .returned v ∧ Q_rmDec Z a b h0 n0 v U'.heap L ∧ FrameEnd U o U' L ({ frames := 0, cells := 0, slots := 0, locals := 0 } : Room).cells ({ frames := 0, cells := 0, slots := 0, locals := 0 } : Room).slots) := by
  refine MetFree.of_bodySF (plainFor_of_name pn_com_example_bezugswerk_bezugswerk_DecodedParts) hisR ?_
  intro p e s m args below meth c s₁ Bd hml0 hP hK
  obtain ⟨rfl, hZ, hh⟩ := hP
  have hx := Bd.exec
  have hby := Bd.bytes
  have hml : c.maxLocals = 1 := hml0
  have hown : s.vm.findClass "com/example/bezugswerk/bezugswerk/DecodedParts" = some m.cls := findClass_of_methodNamed Bd.named
  have hnm := (name_of_methodNamed Bd.named Bd.method).1
  have X0 : Stand p l e ({ frames := 0, cells := 0, slots := 0, locals := 0 } : Room) s m #[(.ref a)] below meth c s₁ [] 0 0 := Stand.of_body Bd
  have e0 : s₁.heap = h0 := by rw [← hh, Bd.state]; rfl
  have N0 := Fr.nil n0
  have pre0 : ∀ t_, Steps p.tables e below (s₁.setTop (mkF m 0 #[.val (.ref a)] [])) t_ → Steps p.tables e below (s₁.setTop (entryFrame m #[(.ref a)] 1)) t_ := fun t_ k_ => castTop (ef_rmDec m a) k_
  have lt_I1 : @LT.lt Nat _ a h0.size := I1.lt
  obtain ⟨T1, X1, e1, st1⟩ := getF X0 hx hZ hown (host := "") (Or.inl (hw _ (List.mem_of_getElem? (i := 30) rfl))) Via.refl e0 I1 (g := (mkF m 1 #[.val (.ref a)] [(.ref a)])) rfl rfl (Jvm.hb hby d_prog_8_method_8_1)
  have s2 : ∀ t_, Steps p.tables e below (T1.setTop (mkF m 4 #[.val (.ref a)] [(.ref b)])) t_ → Steps p.tables e below (s₁.setTop (entryFrame m #[(.ref a)] 1)) t_ := fun t_ k_ => pre0 t_ (by
    show Steps p.tables e below (s₁.setTop (mkF m 0 #[.val (.ref a)] [])) t_
    refine XS.aloadN X0.here hx rfl (Jvm.hb hby d_prog_8_method_8_0) rfl rfl ?_
    show Steps p.tables e below (s₁.setTop (mkF m 1 #[.val (.ref a)] [(.ref a)])) _
    refine st1 _ ?_
    show Steps p.tables e below (T1.setTop (mkF m 4 #[.val (.ref a)] [(.ref b)])) _
    show Steps p.tables e below (T1.setTop (mkF m 4 #[.val (.ref a)] [(.ref b)])) t_
    exact k_)
  obtain ⟨fs, hr, hrun, hended, hW, hsame⟩ := X1.leave (v := some (.ref b)) (fun h => by rw [Bd.returns] at h; cases h)
  refine ⟨_, _, s2 _ ?_, hrun, hended, _, _, rfl, ?_, ⟨_, rfl⟩, hW, hsame.mono (by decide) (by decide)⟩
  · show Steps p.tables e below (T1.setTop (mkF m 4 #[.val (.ref a)] [(.ref b)])) _
    jvm_step X1.here [X1.here.top, hx, (Jvm.hb hby d_prog_8_method_8_4), X1.method', Bd.returns, Value.isRef, FieldType.isReference]
    first | (intro acts; rw [hr _ acts rfl rfl rfl]) | rw [hr _ _ rfl rfl rfl]
    exact Steps.refl _
  · show Q_rmDec Z _ _ h0 n0 _ T1.heap _
    rw [e1]
    exact ⟨rfl, N0, rfl⟩
theorem d_prog_8_method_9_0 : decode prog_8_method_9_code 0 = .ok (.aload_n 0, 1) := by decide +kernel
theorem d_prog_8_method_9_1 : decode prog_8_method_9_code 1 = .ok (.getfield 20, 3) := by decide +kernel
theorem d_prog_8_method_9_4 : decode prog_8_method_9_code 4 = .ok (.aload_n 0, 1) := by decide +kernel
theorem d_prog_8_method_9_5 : decode prog_8_method_9_code 5 = .ok (.getfield 16, 3) := by decide +kernel
theorem d_prog_8_method_9_8 : decode prog_8_method_9_code 8 = .ok (.arraylength, 1) := by decide +kernel
theorem d_prog_8_method_9_9 : decode prog_8_method_9_code 9 = .ok (.if_icmp .ne 28, 3) := by decide +kernel
theorem d_prog_8_method_9_37 : decode prog_8_method_9_code 37 = .ok (.aload_n 0, 1) := by decide +kernel
theorem d_prog_8_method_9_38 : decode prog_8_method_9_code 38 = .ok (.getfield 16, 3) := by decide +kernel
theorem d_prog_8_method_9_41 : decode prog_8_method_9_code 41 = .ok (.aload_n 0, 1) := by decide +kernel
theorem d_prog_8_method_9_42 : decode prog_8_method_9_code 42 = .ok (.getfield 20, 3) := by decide +kernel
theorem d_prog_8_method_9_45 : decode prog_8_method_9_code 45 = .ok (.aload_n 0, 1) := by decide +kernel
theorem d_prog_8_method_9_46 : decode prog_8_method_9_code 46 = .ok (.getfield 10, 3) := by decide +kernel
theorem d_prog_8_method_9_49 : decode prog_8_method_9_code 49 = .ok (.invokevirtual 61, 3) := by decide +kernel
theorem d_prog_8_method_9_52 : decode prog_8_method_9_code 52 = .ok (.iastore, 1) := by decide +kernel
theorem d_prog_8_method_9_53 : decode prog_8_method_9_code 53 = .ok (.aload_n 0, 1) := by decide +kernel
theorem d_prog_8_method_9_54 : decode prog_8_method_9_code 54 = .ok (.dup, 1) := by decide +kernel
theorem d_prog_8_method_9_55 : decode prog_8_method_9_code 55 = .ok (.getfield 20, 3) := by decide +kernel
theorem d_prog_8_method_9_58 : decode prog_8_method_9_code 58 = .ok (.iconst 1, 1) := by decide +kernel
theorem d_prog_8_method_9_59 : decode prog_8_method_9_code 59 = .ok (.iadd, 1) := by decide +kernel
theorem d_prog_8_method_9_60 : decode prog_8_method_9_code 60 = .ok (.putfield 20, 3) := by decide +kernel
theorem d_prog_8_method_9_63 : decode prog_8_method_9_code 63 = .ok (.return_, 1) := by decide +kernel
theorem ef_rmEnd (m : MethodId) (x0 : Addr) : entryFrame m #[(.ref x0)] 1 = mkF m 0 #[.val (.ref x0)] [] := by first | (simp [entryFrame, mkF, argsToLocals, Value.category]; done) | rfl
def Q_rmEnd (Z : State) (a : Addr) (b : Addr) (ea : Addr) (ke : ClassId) (es : List Value) (i : Nat) (cn : Int32) (h0 : Heap) (n0 : Nat) (v : Option Value) (h : Heap) (L : List Loc) : Prop := (v = none) ∧ (Fr n0 L) ∧ (Keep h0 h [a, ea]) ∧ (Exa Z h a "com/example/bezugswerk/bezugswerk/DecodedParts") ∧ (Fld Z h a "com/example/bezugswerk/bezugswerk/DecodedParts" "text" "Ljava/lang/StringBuilder;" (.ref b)) ∧ (Fld Z h a "com/example/bezugswerk/bezugswerk/DecodedParts" "ends" "[I" (.ref ea)) ∧ (Fld Z h a "com/example/bezugswerk/bezugswerk/DecodedParts" "size" "I" (.int (Int32.ofNat (i + 1)))) ∧ (Arv Z h ea ke .int (16 : Int32) (es.set i (.int cn)) (.int (0 : Int32)))
set_option maxRecDepth 65536 in
set_option maxHeartbeats 40000000 in
theorem rmEnd (l : Launch) (Z : State) (a0 : Array Value) (hw : ∀ d ∈ tables_1, d.before a0 Z = true) (ws : List Jvm.Cond) (a : Addr) (b : Addr) (ea : Addr) (ke : ClassId) (es : List Value) (i : Nat) (cn : Int32) (h0 : Heap) (n0 : Nat) (Z0 : n0 ≤ h0.size) (I1 : Exa Z h0 a "com/example/bezugswerk/bezugswerk/DecodedParts") (I2 : Fld Z h0 a "com/example/bezugswerk/bezugswerk/DecodedParts" "text" "Ljava/lang/StringBuilder;" (.ref b)) (I3 : Fld Z h0 a "com/example/bezugswerk/bezugswerk/DecodedParts" "ends" "[I" (.ref ea)) (I4 : Fld Z h0 a "com/example/bezugswerk/bezugswerk/DecodedParts" "size" "I" (.int (Int32.ofNat i))) (I5 : Exa Z h0 b "java/lang/StringBuilder") (I6 : Fld Z h0 b "java/lang/AbstractStringBuilder" "count" "I" (.int cn)) (I7 : Arv Z h0 ea ke .int (16 : Int32) es (.int (0 : Int32))) (hes : es.length = 16) (hi : i < 16) (ga : n0 ≤ a) (ge : n0 ≤ ea) (hae : @Ne Nat a ea) :
    MetFree l (⟨"com/example/bezugswerk/bezugswerk/DecodedParts", "endPart", "()V"⟩ : MethodName) (head1 (Jvm.Cond.code (⟨"com/example/bezugswerk/bezugswerk/DecodedParts", "endPart", "()V"⟩ : MethodName) prog_8_method_9_code 1 none :: ws) ({ frames := 2, cells := 0, slots := 0, locals := 26 } : Room)) (fun ar_ U => ar_ = #[(.ref a)] ∧ Z.Warmed39 U.vm ∧ U.heap = h0) (fun _ _ _ _ _ => True) (fun _ U o U' => ∃ v L, o = .returned v ∧ Q_rmEnd Z a b ea ke es i cn h0 n0 v U'.heap L ∧ FrameEnd U o U' L ({ frames := 2, cells := 0, slots := 0, locals := 26 } : Room).cells ({ frames := 2, cells := 0, slots := 0, locals := 26 } : Room).slots) := by
  refine MetFree.of_bodySF (plainFor_of_name pn_com_example_bezugswerk_bezugswerk_DecodedParts) hisR ?_
  intro p e s m args below meth c s₁ Bd hml0 hP hK
  obtain ⟨rfl, hZ, hh⟩ := hP
  have hx := Bd.exec
  have hby := Bd.bytes
  have hml : c.maxLocals = 1 := hml0
  have hown : s.vm.findClass "com/example/bezugswerk/bezugswerk/DecodedParts" = some m.cls := findClass_of_methodNamed Bd.named
  have hnm := (name_of_methodNamed Bd.named Bd.method).1
  have X0 : Stand p l e ({ frames := 2, cells := 0, slots := 0, locals := 26 } : Room) s m #[(.ref a)] below meth c s₁ [] 0 0 := Stand.of_body Bd
  have e0 : s₁.heap = h0 := by rw [← hh, Bd.state]; rfl
  have N0 := Fr.nil n0
  have pre0 : ∀ t_, Steps p.tables e below (s₁.setTop (mkF m 0 #[.val (.ref a)] [])) t_ → Steps p.tables e below (s₁.setTop (entryFrame m #[(.ref a)] 1)) t_ := fun t_ k_ => castTop (ef_rmEnd m a) k_
  have lt_I1 : @LT.lt Nat _ a h0.size := I1.lt
  have lt_I2 : @LT.lt Nat _ a h0.size := I2.lt
  have lt_I3 : @LT.lt Nat _ a h0.size := I3.lt
  have lt_I4 : @LT.lt Nat _ a h0.size := I4.lt
  have lt_I5 : @LT.lt Nat _ b h0.size := I5.lt
  have lt_I6 : @LT.lt Nat _ b h0.size := I6.lt
  have lt_I7 : @LT.lt Nat _ ea h0.size := I7.lt
  obtain ⟨T1, X1, e1, st1⟩ := getF X0 hx hZ hown (host := "") (Or.inl (hw _ (List.mem_of_getElem? (i := 49) rfl))) Via.refl e0 I4 (g := (mkF m 1 #[.val (.ref a)] [(.ref a)])) rfl rfl (Jvm.hb hby d_prog_8_method_9_1)
  obtain ⟨T2, X2, e2, st2⟩ := getF X1 hx hZ hown (host := "") (Or.inl (hw _ (List.mem_of_getElem? (i := 33) rfl))) Via.refl e1 I3 (g := (mkF m 5 #[.val (.ref a)] [(.ref a), (.int (Int32.ofNat i))])) rfl rfl (Jvm.hb hby d_prog_8_method_9_5)
  obtain ⟨cl3, Ar3, -, S3, M3, -, -⟩ := id I7
  obtain ⟨T4, X4, e4, st4⟩ := getF X2 hx hZ hown (host := "") (Or.inl (hw _ (List.mem_of_getElem? (i := 33) rfl))) Via.refl e2 I3 (g := (mkF m 38 #[.val (.ref a)] [(.ref a)])) rfl rfl (Jvm.hb hby d_prog_8_method_9_38)
  obtain ⟨T5, X5, e5, st5⟩ := getF X4 hx hZ hown (host := "") (Or.inl (hw _ (List.mem_of_getElem? (i := 49) rfl))) Via.refl e4 I4 (g := (mkF m 42 #[.val (.ref a)] [(.ref a), (.ref ea)])) rfl rfl (Jvm.hb hby d_prog_8_method_9_42)
  obtain ⟨T6, X6, e6, st6⟩ := getF X5 hx hZ hown (host := "") (Or.inl (hw _ (List.mem_of_getElem? (i := 30) rfl))) Via.refl e5 I2 (g := (mkF m 46 #[.val (.ref a)] [(.ref a), (.int (Int32.ofNat i)), (.ref ea)])) rfl rfl (Jvm.hb hby d_prog_8_method_9_46)
  have Zc7 : n0 ≤ h0.size := by omega
  obtain ⟨cq8, kq8, q8a, q8b, q8c⟩ := isOf hZ e6 I5
  obtain ⟨_, _, ⟨T8, L8, k8, n8⟩, -, X8, ⟨Lc8, hQ8, l8, y8, z8⟩, st8⟩ := X6.virtualBack hx (y := (⟨"java/lang/StringBuilder", "length", "()I"⟩ : MethodName)) (z := (⟨"java/lang/StringBuilder", "length", "()I"⟩ : MethodName)) hown (mvT hZ (hw _ (List.mem_of_getElem? (i := 51) rfl))) (mvT hZ (hw _ (List.mem_of_getElem? (i := 52) rfl))) (notFace_of_selects (args := #[]) (mvT hZ (hw _ (List.mem_of_getElem? (i := 54) rfl)))) (mvT hZ (hw _ (List.mem_of_getElem? (i := 54) rfl))) (mvT hZ (hw _ (List.mem_of_getElem? (i := 53) rfl))) (by decide) (backOf (W := 2) (rmSLen l Z a0 hw [] b cn h0 n0 Zc7 I5 I6) hZ (hw _ (List.mem_of_getElem? (i := 55) rfl)) (hw _ (List.mem_of_getElem? (i := 12) rfl)) (by decide) (by decide)) q8a q8c (g := (mkF m 49 #[.val (.ref a)] [(.ref b), (.int (Int32.ofNat i)), (.ref ea)])) rfl (by rw [hml]; rfl) (Steps.refl _) (argsL := []) (rest := [(.int (Int32.ofNat i)), (.ref ea)]) (lenOf pd___I rfl) rfl (by show 2 * 0 + _ ≤ _; exact Nat.le_of_eq rfl) (Jvm.hb hby d_prog_8_method_9_49) (fun _ _ => ⟨rfl, e6, (by decide : 0 + 0 ≤ _), (by decide : 0 + 0 ≤ _)⟩)
  dsimp only [Pt.U, Pt.locs, Pt.cells, Pt.slots] at X8 l8 y8 z8 st8 hQ8
  subst l8 y8 z8
  obtain ⟨rfl, N8q, e8⟩ := hQ8
  have N8 := Fr.app N0 N8q
  obtain ⟨cl9, Ar9, q9, S9, M9, H9, G9⟩ := id I7
  have hin9 : ¬ ((Int32.ofNat i) < 0 ∨ cl9.slots.size ≤ ((Int32.ofNat i)).toNatClampNeg) := inb_of S9 (own_in hi)
  obtain ⟨T10, h10, X10, e10, W10, st10⟩ := stI X8 hx hZ e8 Ar9 (j := (Int32.ofNat i)) hin9 (g := (mkF m 52 #[.val (.ref a)] [(.int cn), (.int (Int32.ofNat i)), (.ref ea)])) rfl rfl (Jvm.hb hby d_prog_8_method_9_52)
  have z11 : h0.size ≤ h10.size := Nat.le_of_eq W10.size.symm
  have V10 : Arv Z h10 ea ke .int (16 : Int32) (es.set i (.int cn)) (.int (0 : Int32)) := Arv.set Ar9 q9 S9 M9 H9 G9 rfl W10 i (own_tn hi) (by rw [hes]; exact hi)
  have N10 := Fr.snoc X10 N8 (show n0 ≤ ea by omega)
  have f12 : Fld Z h10 a "com/example/bezugswerk/bezugswerk/DecodedParts" "size" "I" (.int (Int32.ofNat i)) := (I4.other W10 (Or.inl (show @Ne Nat a ea by omega)))
  obtain ⟨T13, X13, e13, st13⟩ := getF X10 hx hZ hown (host := "") (Or.inl (hw _ (List.mem_of_getElem? (i := 49) rfl))) Via.refl e10 f12 (g := (mkF m 55 #[.val (.ref a)] [(.ref a), (.ref a)])) rfl rfl (Jvm.hb hby d_prog_8_method_9_55)
  have f14 : Exa Z h10 a "com/example/bezugswerk/bezugswerk/DecodedParts" := (I1.wr W10)
  obtain ⟨T15, h15, X15, e15, W15, st15⟩ := putF X13 hx hZ hown (host := "") (Or.inl (hw _ (List.mem_of_getElem? (i := 49) rfl))) Via.refl e13 f12 f14 (Or.inl (hw _ (List.mem_of_getElem? (i := 50) rfl))) (hw _ (List.mem_of_getElem? (i := 2) rfl)) (ty := .int) (by decide) rfl rfl (g := (mkF m 60 #[.val (.ref a)] [(.int ((Int32.ofNat i) + (1 : Int32))), (.ref a)])) rfl rfl (Jvm.hb hby d_prog_8_method_9_60)
  have z16 : h10.size ≤ h15.size := Nat.le_of_eq W15.size.symm
  have F15 : Fld Z h15 a "com/example/bezugswerk/bezugswerk/DecodedParts" "size" "I" (.int ((Int32.ofNat i) + (1 : Int32))) := f12.same W15
  have N15 := Fr.snoc X15 N10 (show n0 ≤ a by omega)
  have s17 : ∀ t_, Steps p.tables e below (T15.setTop (mkF m 63 #[.val (.ref a)] [])) t_ → Steps p.tables e below (s₁.setTop (entryFrame m #[(.ref a)] 1)) t_ := fun t_ k_ => pre0 t_ (by
    show Steps p.tables e below (s₁.setTop (mkF m 0 #[.val (.ref a)] [])) t_
    refine XS.aloadN X0.here hx rfl (Jvm.hb hby d_prog_8_method_9_0) rfl rfl ?_
    show Steps p.tables e below (s₁.setTop (mkF m 1 #[.val (.ref a)] [(.ref a)])) _
    refine st1 _ ?_
    show Steps p.tables e below (T1.setTop (mkF m 4 #[.val (.ref a)] [(.int (Int32.ofNat i))])) _
    refine XS.aloadN X1.here hx rfl (Jvm.hb hby d_prog_8_method_9_4) rfl rfl ?_
    show Steps p.tables e below (T1.setTop (mkF m 5 #[.val (.ref a)] [(.ref a), (.int (Int32.ofNat i))])) _
    refine st2 _ ?_
    show Steps p.tables e below (T2.setTop (mkF m 8 #[.val (.ref a)] [(.ref ea), (.int (Int32.ofNat i))])) _
    refine X2.arraylength hx (by rw [e2]; exact Ar3.1) (State.isArrayOf_alike hZ.alike Ar3.2.1) (g := (mkF m 8 #[.val (.ref a)] [(.ref ea), (.int (Int32.ofNat i))])) rfl rfl (Jvm.hb hby d_prog_8_method_9_8) _ ?_
    rw [len_of S3 M3]
    show Steps p.tables e below (T2.setTop (mkF m 9 #[.val (.ref a)] [(.int (16 : Int32)), (.int (Int32.ofNat i))])) _
    refine XS.icmpYes X2.here hx rfl (pc0 := 9) (pc' := 37) rfl (Jvm.hb hby d_prog_8_method_9_9) rfl (feq (own_n16 hi)).2 (by decide) (by decide) ?_
    show Steps p.tables e below (T2.setTop (mkF m 37 #[.val (.ref a)] [])) _
    refine XS.aloadN X2.here hx rfl (Jvm.hb hby d_prog_8_method_9_37) rfl rfl ?_
    show Steps p.tables e below (T2.setTop (mkF m 38 #[.val (.ref a)] [(.ref a)])) _
    refine st4 _ ?_
    show Steps p.tables e below (T4.setTop (mkF m 41 #[.val (.ref a)] [(.ref ea)])) _
    refine XS.aloadN X4.here hx rfl (Jvm.hb hby d_prog_8_method_9_41) rfl rfl ?_
    show Steps p.tables e below (T4.setTop (mkF m 42 #[.val (.ref a)] [(.ref a), (.ref ea)])) _
    refine st5 _ ?_
    show Steps p.tables e below (T5.setTop (mkF m 45 #[.val (.ref a)] [(.int (Int32.ofNat i)), (.ref ea)])) _
    refine XS.aloadN X5.here hx rfl (Jvm.hb hby d_prog_8_method_9_45) rfl rfl ?_
    show Steps p.tables e below (T5.setTop (mkF m 46 #[.val (.ref a)] [(.ref a), (.int (Int32.ofNat i)), (.ref ea)])) _
    refine st6 _ ?_
    show Steps p.tables e below (T6.setTop (mkF m 49 #[.val (.ref a)] [(.ref b), (.int (Int32.ofNat i)), (.ref ea)])) _
    refine st8.trans ?_
    show Steps p.tables e below (T8.setTop (mkF m 52 #[.val (.ref a)] [(.int cn), (.int (Int32.ofNat i)), (.ref ea)])) _
    refine st10 _ ?_
    show Steps p.tables e below (T10.setTop (mkF m 53 #[.val (.ref a)] [])) _
    refine XS.aloadN X10.here hx rfl (Jvm.hb hby d_prog_8_method_9_53) rfl rfl ?_
    show Steps p.tables e below (T10.setTop (mkF m 54 #[.val (.ref a)] [(.ref a)])) _
    refine XS.dup X10.here hx rfl (Jvm.hb hby d_prog_8_method_9_54) rfl rfl ?_
    show Steps p.tables e below (T10.setTop (mkF m 55 #[.val (.ref a)] [(.ref a), (.ref a)])) _
    refine st13 _ ?_
    show Steps p.tables e below (T13.setTop (mkF m 58 #[.val (.ref a)] [(.int (Int32.ofNat i)), (.ref a)])) _
    refine XS.iconst X13.here hx rfl (Jvm.hb hby d_prog_8_method_9_58) ?_
    show Steps p.tables e below (T13.setTop (mkF m 59 #[.val (.ref a)] [(.int (1 : Int32)), (.int (Int32.ofNat i)), (.ref a)])) _
    refine XS.iadd X13.here hx rfl (Jvm.hb hby d_prog_8_method_9_59) rfl ?_
    show Steps p.tables e below (T13.setTop (mkF m 60 #[.val (.ref a)] [(.int ((Int32.ofNat i) + (1 : Int32))), (.ref a)])) _
    refine st15 _ ?_
    show Steps p.tables e below (T15.setTop (mkF m 63 #[.val (.ref a)] [])) _
    show Steps p.tables e below (T15.setTop (mkF m 63 #[.val (.ref a)] [])) t_
    exact k_)
  obtain ⟨fs, hr, hrun, hended, hW, hsame⟩ := X15.leave (v := none) (fun _ => rfl)
  have F18 : Fld Z h15 a "com/example/bezugswerk/bezugswerk/DecodedParts" "size" "I" (.int (Int32.ofNat (i + 1))) := by have q := F15; rw [← own_up i] at q; exact q
  have f19 : Exa Z h15 a "com/example/bezugswerk/bezugswerk/DecodedParts" := (f14.wr W15)
  have f20 : Fld Z h15 a "com/example/bezugswerk/bezugswerk/DecodedParts" "text" "Ljava/lang/StringBuilder;" (.ref b) := ((I2.other W10 (Or.inl (show @Ne Nat a ea by omega))).other W15 (Or.inr (slot_ne (Or.inr (hw _ (List.mem_of_getElem? (i := 31) rfl))) (Or.inl (hw _ (List.mem_of_getElem? (i := 50) rfl))) (by decide) (t := (.object "java/lang/StringBuilder")) (t' := .int) (by decide) (by decide))))
  have f21 : Fld Z h15 a "com/example/bezugswerk/bezugswerk/DecodedParts" "ends" "[I" (.ref ea) := ((I3.other W10 (Or.inl (show @Ne Nat a ea by omega))).other W15 (Or.inr (slot_ne (Or.inl (hw _ (List.mem_of_getElem? (i := 34) rfl))) (Or.inl (hw _ (List.mem_of_getElem? (i := 50) rfl))) (by decide) (t := (.array .int)) (t' := .int) (by decide) (by decide))))
  have f22 : Arv Z h15 ea ke .int (16 : Int32) (es.set i (.int cn)) (.int (0 : Int32)) := (V10.other W15 (show @Ne Nat ea a by omega))
  refine ⟨_, _, s17 _ ?_, hrun, hended, _, _, rfl, ?_, ⟨_, rfl⟩, hW, hsame.mono (by decide) (by decide)⟩
  · show Steps p.tables e below (T15.setTop (mkF m 63 #[.val (.ref a)] [])) _
    exact X15.returnOut hx Bd.returns (Jvm.hb hby d_prog_8_method_9_63) hr
  · show Q_rmEnd Z _ _ _ _ _ _ _ h0 n0 _ T15.heap _
    rw [e15]
    exact ⟨rfl, N15, (((Keep.refl h0 [a, ea]).wr W10 (Or.inl (by simp))).wr W15 (Or.inl (by simp))), f19, f20, f21, F18, f22⟩
theorem d_prog_8_method_7_0 : decode prog_8_method_7_code 0 = .ok (.aload_n 0, 1) := by decide +kernel
theorem d_prog_8_method_7_1 : decode prog_8_method_7_code 1 = .ok (.getfield 10, 3) := by decide +kernel
theorem d_prog_8_method_7_4 : decode prog_8_method_7_code 4 = .ok (.iconst 0, 1) := by decide +kernel
theorem d_prog_8_method_7_5 : decode prog_8_method_7_code 5 = .ok (.invokevirtual 46, 3) := by decide +kernel
theorem d_prog_8_method_7_8 : decode prog_8_method_7_code 8 = .ok (.aload_n 0, 1) := by decide +kernel
theorem d_prog_8_method_7_9 : decode prog_8_method_7_code 9 = .ok (.iconst 0, 1) := by decide +kernel
theorem d_prog_8_method_7_10 : decode prog_8_method_7_code 10 = .ok (.putfield 20, 3) := by decide +kernel
theorem d_prog_8_method_7_13 : decode prog_8_method_7_code 13 = .ok (.return_, 1) := by decide +kernel
theorem ef_rmClear (m : MethodId) (x0 : Addr) : entryFrame m #[(.ref x0)] 1 = mkF m 0 #[.val (.ref x0)] [] := by first | (simp [entryFrame, mkF, argsToLocals, Value.category]; done) | rfl
def Q_rmClear (Z : State) (a : Addr) (va : Addr) (kc : ClassId) (vs : List Value) (k : Nat) (ml : Int32) (b : Addr) (sz : Int32) (ea : Addr) (h0 : Heap) (n0 : Nat) (v : Option Value) (h : Heap) (L : List Loc) : Prop := ∃ (mm : Int32), (v = none) ∧ (Fr n0 L) ∧ (Keep h0 h [a, b]) ∧ (Exa Z h a "com/example/bezugswerk/bezugswerk/DecodedParts") ∧ (Fld Z h a "com/example/bezugswerk/bezugswerk/DecodedParts" "text" "Ljava/lang/StringBuilder;" (.ref b)) ∧ (Fld Z h a "com/example/bezugswerk/bezugswerk/DecodedParts" "ends" "[I" (.ref ea)) ∧ (Fld Z h a "com/example/bezugswerk/bezugswerk/DecodedParts" "size" "I" (.int (0 : Int32))) ∧ (Exa Z h b "java/lang/StringBuilder") ∧ (Fld Z h b "java/lang/AbstractStringBuilder" "value" "[B" (.ref va)) ∧ (Fld Z h b "java/lang/AbstractStringBuilder" "coder" "B" (.int (0 : Int32))) ∧ (Fld Z h b "java/lang/AbstractStringBuilder" "count" "I" (.int (0 : Int32))) ∧ (Fld Z h b "java/lang/AbstractStringBuilder" "maybeLatin1" "Z" (.int mm))
set_option maxRecDepth 65536 in
set_option maxHeartbeats 40000000 in
theorem rmClear (l : Launch) (Z : State) (a0 : Array Value) (hw : ∀ d ∈ tables_1, d.before a0 Z = true) (ws : List Jvm.Cond) (a : Addr) (va : Addr) (kc : ClassId) (vs : List Value) (k : Nat) (ml : Int32) (b : Addr) (sz : Int32) (ea : Addr) (h0 : Heap) (n0 : Nat) (Z0 : n0 ≤ h0.size) (I1 : Exa Z h0 a "com/example/bezugswerk/bezugswerk/DecodedParts") (I2 : Fld Z h0 a "com/example/bezugswerk/bezugswerk/DecodedParts" "text" "Ljava/lang/StringBuilder;" (.ref b)) (I3 : Fld Z h0 a "com/example/bezugswerk/bezugswerk/DecodedParts" "ends" "[I" (.ref ea)) (I4 : Fld Z h0 a "com/example/bezugswerk/bezugswerk/DecodedParts" "size" "I" (.int sz)) (I5 : Exa Z h0 b "java/lang/StringBuilder") (I6 : Fld Z h0 b "java/lang/AbstractStringBuilder" "value" "[B" (.ref va)) (I7 : Fld Z h0 b "java/lang/AbstractStringBuilder" "coder" "B" (.int (0 : Int32))) (I8 : Fld Z h0 b "java/lang/AbstractStringBuilder" "count" "I" (.int (Int32.ofNat k))) (I9 : Fld Z h0 b "java/lang/AbstractStringBuilder" "maybeLatin1" "Z" (.int ml)) (I10 : Arv Z h0 va kc .byte (16 : Int32) vs (.int (0 : Int32))) (hk : k < 16) (gb : n0 ≤ b) (ga : n0 ≤ a) (hab : @Ne Nat a b) :
    MetFree l (⟨"com/example/bezugswerk/bezugswerk/DecodedParts", "clear", "()V"⟩ : MethodName) (head1 (Jvm.Cond.code (⟨"com/example/bezugswerk/bezugswerk/DecodedParts", "clear", "()V"⟩ : MethodName) prog_8_method_7_code 1 none :: ws) ({ frames := 3, cells := 0, slots := 0, locals := 40 } : Room)) (fun ar_ U => ar_ = #[(.ref a)] ∧ Z.Warmed39 U.vm ∧ U.heap = h0) (fun _ _ _ _ _ => True) (fun _ U o U' => ∃ v L, o = .returned v ∧ Q_rmClear Z a va kc vs k ml b sz ea h0 n0 v U'.heap L ∧ FrameEnd U o U' L ({ frames := 3, cells := 0, slots := 0, locals := 40 } : Room).cells ({ frames := 3, cells := 0, slots := 0, locals := 40 } : Room).slots) := by
  refine MetFree.of_bodySF (plainFor_of_name pn_com_example_bezugswerk_bezugswerk_DecodedParts) hisR ?_
  intro p e s m args below meth c s₁ Bd hml0 hP hK
  obtain ⟨rfl, hZ, hh⟩ := hP
  have hx := Bd.exec
  have hby := Bd.bytes
  have hml : c.maxLocals = 1 := hml0
  have hown : s.vm.findClass "com/example/bezugswerk/bezugswerk/DecodedParts" = some m.cls := findClass_of_methodNamed Bd.named
  have hnm := (name_of_methodNamed Bd.named Bd.method).1
  have X0 : Stand p l e ({ frames := 3, cells := 0, slots := 0, locals := 40 } : Room) s m #[(.ref a)] below meth c s₁ [] 0 0 := Stand.of_body Bd
  have e0 : s₁.heap = h0 := by rw [← hh, Bd.state]; rfl
  have N0 := Fr.nil n0
  have pre0 : ∀ t_, Steps p.tables e below (s₁.setTop (mkF m 0 #[.val (.ref a)] [])) t_ → Steps p.tables e below (s₁.setTop (entryFrame m #[(.ref a)] 1)) t_ := fun t_ k_ => castTop (ef_rmClear m a) k_
  have lt_I1 : @LT.lt Nat _ a h0.size := I1.lt
  have lt_I2 : @LT.lt Nat _ a h0.size := I2.lt
  have lt_I3 : @LT.lt Nat _ a h0.size := I3.lt
  have lt_I4 : @LT.lt Nat _ a h0.size := I4.lt
  have lt_I5 : @LT.lt Nat _ b h0.size := I5.lt
  have lt_I6 : @LT.lt Nat _ b h0.size := I6.lt
  have lt_I7 : @LT.lt Nat _ b h0.size := I7.lt
  have lt_I8 : @LT.lt Nat _ b h0.size := I8.lt
  have lt_I9 : @LT.lt Nat _ b h0.size := I9.lt
  have lt_I10 : @LT.lt Nat _ va h0.size := I10.lt
  obtain ⟨T1, X1, e1, st1⟩ := getF X0 hx hZ hown (host := "") (Or.inl (hw _ (List.mem_of_getElem? (i := 30) rfl))) Via.refl e0 I2 (g := (mkF m 1 #[.val (.ref a)] [(.ref a)])) rfl rfl (Jvm.hb hby d_prog_8_method_7_1)
  have Zc2 : n0 ≤ h0.size := by omega
  obtain ⟨cq3, kq3, q3a, q3b, q3c⟩ := isOf hZ e1 I5
  obtain ⟨_, _, ⟨T3, L3, k3, n3⟩, -, X3, ⟨Lc3, hQ3, l3, y3, z3⟩, st3⟩ := X1.virtualBack hx (y := (⟨"java/lang/StringBuilder", "setLength", "(I)V"⟩ : MethodName)) (z := (⟨"java/lang/StringBuilder", "setLength", "(I)V"⟩ : MethodName)) hown (mvT hZ (hw _ (List.mem_of_getElem? (i := 101) rfl))) (mvT hZ (hw _ (List.mem_of_getElem? (i := 102) rfl))) (notFace_of_selects (args := #[]) (mvT hZ (hw _ (List.mem_of_getElem? (i := 104) rfl)))) (mvT hZ (hw _ (List.mem_of_getElem? (i := 104) rfl))) (mvT hZ (hw _ (List.mem_of_getElem? (i := 103) rfl))) (by decide) (backOf (W := 0) (rmSSet l Z a0 hw [] b va kc vs k ml h0 n0 Zc2 I5 I6 I7 I8 I9 I10 (hk : k < 16) (gb : n0 ≤ b)) hZ (hw _ (List.mem_of_getElem? (i := 105) rfl)) (hw _ (List.mem_of_getElem? (i := 12) rfl)) (by decide) (by decide)) q3a q3c (g := (mkF m 5 #[.val (.ref a)] [(.int (0 : Int32)), (.ref b)])) rfl (by rw [hml]; rfl) (Steps.refl _) (argsL := [(.int (0 : Int32))]) (rest := []) (lenOf pd__I_V rfl) rfl (by show 2 * 0 + _ ≤ _; exact Nat.le_of_eq rfl) (Jvm.hb hby d_prog_8_method_7_5) (fun _ _ => ⟨rfl, e1, (by decide : 0 + 0 ≤ _), (by decide : 0 + 0 ≤ _)⟩)
  dsimp only [Pt.U, Pt.locs, Pt.cells, Pt.slots] at X3 l3 y3 z3 st3 hQ3
  subst l3 y3 z3
  obtain ⟨mm_3, rfl, N3q, K3, Fq3_0, Fq3_1, Fq3_2, Fq3_3, Fq3_4⟩ := hQ3
  have N3 := Fr.app N0 N3q
  obtain ⟨h3, e3⟩ : ∃ z, T3.heap = z := ⟨_, rfl⟩
  rw [e3] at K3 Fq3_0 Fq3_1 Fq3_2 Fq3_3 Fq3_4
  have z4 : h0.size ≤ h3.size := K3.1
  have lt3_0 : @LT.lt Nat _ b h3.size := Fq3_0.lt
  have f5 : Exa Z h3 a "com/example/bezugswerk/bezugswerk/DecodedParts" := (I1.keep K3)
  have f6 : Fld Z h3 a "com/example/bezugswerk/bezugswerk/DecodedParts" "size" "I" (.int sz) := (I4.keep K3 (ninS (show @Ne Nat a b by omega) nin0))
  obtain ⟨T7, h7, X7, e7, W7, st7⟩ := putF X3 hx hZ hown (host := "") (Or.inl (hw _ (List.mem_of_getElem? (i := 49) rfl))) Via.refl e3 f6 f5 (Or.inl (hw _ (List.mem_of_getElem? (i := 50) rfl))) (hw _ (List.mem_of_getElem? (i := 2) rfl)) (ty := .int) (by decide) rfl rfl (g := (mkF m 10 #[.val (.ref a)] [(.int (0 : Int32)), (.ref a)])) rfl rfl (Jvm.hb hby d_prog_8_method_7_10)
  have z8 : h3.size ≤ h7.size := Nat.le_of_eq W7.size.symm
  have F7 : Fld Z h7 a "com/example/bezugswerk/bezugswerk/DecodedParts" "size" "I" (.int (0 : Int32)) := f6.same W7
  have N7 := Fr.snoc X7 N3 (show n0 ≤ a by omega)
  have s9 : ∀ t_, Steps p.tables e below (T7.setTop (mkF m 13 #[.val (.ref a)] [])) t_ → Steps p.tables e below (s₁.setTop (entryFrame m #[(.ref a)] 1)) t_ := fun t_ k_ => pre0 t_ (by
    show Steps p.tables e below (s₁.setTop (mkF m 0 #[.val (.ref a)] [])) t_
    refine XS.aloadN X0.here hx rfl (Jvm.hb hby d_prog_8_method_7_0) rfl rfl ?_
    show Steps p.tables e below (s₁.setTop (mkF m 1 #[.val (.ref a)] [(.ref a)])) _
    refine st1 _ ?_
    show Steps p.tables e below (T1.setTop (mkF m 4 #[.val (.ref a)] [(.ref b)])) _
    refine XS.iconst X1.here hx rfl (Jvm.hb hby d_prog_8_method_7_4) ?_
    show Steps p.tables e below (T1.setTop (mkF m 5 #[.val (.ref a)] [(.int (0 : Int32)), (.ref b)])) _
    refine st3.trans ?_
    show Steps p.tables e below (T3.setTop (mkF m 8 #[.val (.ref a)] [])) _
    refine XS.aloadN X3.here hx rfl (Jvm.hb hby d_prog_8_method_7_8) rfl rfl ?_
    show Steps p.tables e below (T3.setTop (mkF m 9 #[.val (.ref a)] [(.ref a)])) _
    refine XS.iconst X3.here hx rfl (Jvm.hb hby d_prog_8_method_7_9) ?_
    show Steps p.tables e below (T3.setTop (mkF m 10 #[.val (.ref a)] [(.int (0 : Int32)), (.ref a)])) _
    refine st7 _ ?_
    show Steps p.tables e below (T7.setTop (mkF m 13 #[.val (.ref a)] [])) _
    show Steps p.tables e below (T7.setTop (mkF m 13 #[.val (.ref a)] [])) t_
    exact k_)
  obtain ⟨fs, hr, hrun, hended, hW, hsame⟩ := X7.leave (v := none) (fun _ => rfl)
  have f10 : Exa Z h7 a "com/example/bezugswerk/bezugswerk/DecodedParts" := (f5.wr W7)
  have f11 : Fld Z h7 a "com/example/bezugswerk/bezugswerk/DecodedParts" "text" "Ljava/lang/StringBuilder;" (.ref b) := ((I2.keep K3 (ninS (show @Ne Nat a b by omega) nin0)).other W7 (Or.inr (slot_ne (Or.inr (hw _ (List.mem_of_getElem? (i := 31) rfl))) (Or.inl (hw _ (List.mem_of_getElem? (i := 50) rfl))) (by decide) (t := (.object "java/lang/StringBuilder")) (t' := .int) (by decide) (by decide))))
  have f12 : Fld Z h7 a "com/example/bezugswerk/bezugswerk/DecodedParts" "ends" "[I" (.ref ea) := ((I3.keep K3 (ninS (show @Ne Nat a b by omega) nin0)).other W7 (Or.inr (slot_ne (Or.inl (hw _ (List.mem_of_getElem? (i := 34) rfl))) (Or.inl (hw _ (List.mem_of_getElem? (i := 50) rfl))) (by decide) (t := (.array .int)) (t' := .int) (by decide) (by decide))))
  have f13 : Exa Z h7 b "java/lang/StringBuilder" := (Fq3_0.wr W7)
  have f14 : Fld Z h7 b "java/lang/AbstractStringBuilder" "value" "[B" (.ref va) := (Fq3_1.other W7 (Or.inl (show @Ne Nat b a by omega)))
  have f15 : Fld Z h7 b "java/lang/AbstractStringBuilder" "coder" "B" (.int (0 : Int32)) := (Fq3_2.other W7 (Or.inl (show @Ne Nat b a by omega)))
  have f16 : Fld Z h7 b "java/lang/AbstractStringBuilder" "count" "I" (.int (0 : Int32)) := (Fq3_3.other W7 (Or.inl (show @Ne Nat b a by omega)))
  have f17 : Fld Z h7 b "java/lang/AbstractStringBuilder" "maybeLatin1" "Z" (.int mm_3) := (Fq3_4.other W7 (Or.inl (show @Ne Nat b a by omega)))
  refine ⟨_, _, s9 _ ?_, hrun, hended, _, _, rfl, ?_, ⟨_, rfl⟩, hW, hsame.mono (by decide) (by decide)⟩
  · show Steps p.tables e below (T7.setTop (mkF m 13 #[.val (.ref a)] [])) _
    exact X7.returnOut hx Bd.returns (Jvm.hb hby d_prog_8_method_7_13) hr
  · show Q_rmClear Z _ _ _ _ _ _ _ _ _ h0 n0 _ T7.heap _
    rw [e7]
    exact ⟨mm_3, rfl, N7, (((Keep.refl h0 [a, b]).trans K3 (allS (Or.inl (by simp)) all0)).wr W7 (Or.inl (by simp))), f10, f11, f12, F7, f13, f14, f15, f16, f17⟩
theorem d_prog_8_method_4_0 : decode prog_8_method_4_code 0 = .ok (.iload_n 1, 1) := by decide +kernel
theorem d_prog_8_method_4_1 : decode prog_8_method_4_code 1 = .ok (.ifCond .ne 7, 3) := by decide +kernel
theorem d_prog_8_method_4_4 : decode prog_8_method_4_code 4 = .ok (.iconst 0, 1) := by decide +kernel
theorem d_prog_8_method_4_5 : decode prog_8_method_4_code 5 = .ok (.goto 11, 3) := by decide +kernel
theorem d_prog_8_method_4_16 : decode prog_8_method_4_code 16 = .ok (.ireturn, 1) := by decide +kernel
theorem d_prog_8_method_4_8 : decode prog_8_method_4_code 8 = .ok (.aload_n 0, 1) := by decide +kernel
theorem d_prog_8_method_4_9 : decode prog_8_method_4_code 9 = .ok (.getfield 16, 3) := by decide +kernel
theorem d_prog_8_method_4_12 : decode prog_8_method_4_code 12 = .ok (.iload_n 1, 1) := by decide +kernel
theorem d_prog_8_method_4_13 : decode prog_8_method_4_code 13 = .ok (.iconst 1, 1) := by decide +kernel
theorem d_prog_8_method_4_14 : decode prog_8_method_4_code 14 = .ok (.isub, 1) := by decide +kernel
theorem d_prog_8_method_4_15 : decode prog_8_method_4_code 15 = .ok (.iaload, 1) := by decide +kernel
theorem ef_rmStart (m : MethodId) (x0 : Addr) (x1 : Int32) : entryFrame m #[(.ref x0), (.int x1)] 2 = mkF m 0 #[.val (.ref x0), .val (.int x1)] [] := by first | (simp [entryFrame, mkF, argsToLocals, Value.category]; done) | rfl
def Q_rmStart (Z : State) (a : Addr) (ea : Addr) (ke : ClassId) (ex : Int32) (ey : Int32) (ez : Int32) (n : Nat) (h0 : Heap) (n0 : Nat) (v : Option Value) (h : Heap) (L : List Loc) : Prop := (v = some (.int (own_pick n (0 : Int32) ex ey))) ∧ (Fr n0 L) ∧ (h = h0)
set_option maxRecDepth 65536 in
set_option maxHeartbeats 40000000 in
theorem rmStart (l : Launch) (Z : State) (a0 : Array Value) (hw : ∀ d ∈ tables_1, d.before a0 Z = true) (ws : List Jvm.Cond) (a : Addr) (ea : Addr) (ke : ClassId) (ex : Int32) (ey : Int32) (ez : Int32) (n : Nat) (h0 : Heap) (n0 : Nat) (Z0 : n0 ≤ h0.size) (I1 : Exa Z h0 a "com/example/bezugswerk/bezugswerk/DecodedParts") (I2 : Fld Z h0 a "com/example/bezugswerk/bezugswerk/DecodedParts" "ends" "[I" (.ref ea)) (I3 : Arv Z h0 ea ke .int (16 : Int32) [(.int ex), (.int ey), (.int ez), (.int (0 : Int32)), (.int (0 : Int32)), (.int (0 : Int32)), (.int (0 : Int32)), (.int (0 : Int32)), (.int (0 : Int32)), (.int (0 : Int32)), (.int (0 : Int32)), (.int (0 : Int32)), (.int (0 : Int32)), (.int (0 : Int32)), (.int (0 : Int32)), (.int (0 : Int32))] (.int (0 : Int32))) (hn : n < 3) :
    MetFree l (⟨"com/example/bezugswerk/bezugswerk/DecodedParts", "start", "(I)I"⟩ : MethodName) (head1 (Jvm.Cond.code (⟨"com/example/bezugswerk/bezugswerk/DecodedParts", "start", "(I)I"⟩ : MethodName) prog_8_method_4_code 2 (some .int) :: ws) ({ frames := 0, cells := 0, slots := 0, locals := 0 } : Room)) (fun ar_ U => ar_ = #[(.ref a), (.int (Int32.ofNat n))] ∧ Z.Warmed39 U.vm ∧ U.heap = h0) (fun _ _ _ _ _ => True) (fun _ U o U' => ∃ v L, o = .returned v ∧ Q_rmStart Z a ea ke ex ey ez n h0 n0 v U'.heap L ∧ FrameEnd U o U' L ({ frames := 0, cells := 0, slots := 0, locals := 0 } : Room).cells ({ frames := 0, cells := 0, slots := 0, locals := 0 } : Room).slots) := by
  refine MetFree.of_bodySF (plainFor_of_name pn_com_example_bezugswerk_bezugswerk_DecodedParts) hisR ?_
  intro p e s m args below meth c s₁ Bd hml0 hP hK
  obtain ⟨rfl, hZ, hh⟩ := hP
  have hx := Bd.exec
  have hby := Bd.bytes
  have hml : c.maxLocals = 2 := hml0
  have hown : s.vm.findClass "com/example/bezugswerk/bezugswerk/DecodedParts" = some m.cls := findClass_of_methodNamed Bd.named
  have hnm := (name_of_methodNamed Bd.named Bd.method).1
  have X0 : Stand p l e ({ frames := 0, cells := 0, slots := 0, locals := 0 } : Room) s m #[(.ref a), (.int (Int32.ofNat n))] below meth c s₁ [] 0 0 := Stand.of_body Bd
  have e0 : s₁.heap = h0 := by rw [← hh, Bd.state]; rfl
  have N0 := Fr.nil n0
  have pre0 : ∀ t_, Steps p.tables e below (s₁.setTop (mkF m 0 #[.val (.ref a), .val (.int (Int32.ofNat n))] [])) t_ → Steps p.tables e below (s₁.setTop (entryFrame m #[(.ref a), (.int (Int32.ofNat n))] 2)) t_ := fun t_ k_ => castTop (ef_rmStart m a (Int32.ofNat n)) k_
  have lt_I1 : @LT.lt Nat _ a h0.size := I1.lt
  have lt_I2 : @LT.lt Nat _ a h0.size := I2.lt
  have lt_I3 : @LT.lt Nat _ ea h0.size := I3.lt
  obtain rfl | rfl | rfl : n = 0 ∨ n = 1 ∨ n = 2 := by omega
  · have hcase := trivial
    have s1 : ∀ t_, Steps p.tables e below (s₁.setTop (mkF m 16 #[.val (.ref a), .val (.int (0 : Int32))] [(.int (0 : Int32))])) t_ → Steps p.tables e below (s₁.setTop (entryFrame m #[(.ref a), (.int (0 : Int32))] 2)) t_ := fun t_ k_ => pre0 t_ (by
      show Steps p.tables e below (s₁.setTop (mkF m 0 #[.val (.ref a), .val (.int (0 : Int32))] [])) t_
      refine XS.iloadN X0.here hx rfl (Jvm.hb hby d_prog_8_method_4_0) rfl ?_
      show Steps p.tables e below (s₁.setTop (mkF m 1 #[.val (.ref a), .val (.int (0 : Int32))] [(.int (0 : Int32))])) _
      refine XS.ifNo X0.here hx rfl (Jvm.hb hby d_prog_8_method_4_1) rfl ((if0 _ _).trans (teq (rfl : (0 : Int32) = (0 : Int32))).2) ?_
      show Steps p.tables e below (s₁.setTop (mkF m 4 #[.val (.ref a), .val (.int (0 : Int32))] [])) _
      refine XS.iconst X0.here hx rfl (Jvm.hb hby d_prog_8_method_4_4) ?_
      show Steps p.tables e below (s₁.setTop (mkF m 5 #[.val (.ref a), .val (.int (0 : Int32))] [(.int (0 : Int32))])) _
      refine XS.goto X0.here hx rfl (pc0 := 5) (pc' := 16) rfl (Jvm.hb hby d_prog_8_method_4_5) (by decide) (by decide) ?_
      show Steps p.tables e below (s₁.setTop (mkF m 16 #[.val (.ref a), .val (.int (0 : Int32))] [(.int (0 : Int32))])) _
      show Steps p.tables e below (s₁.setTop (mkF m 16 #[.val (.ref a), .val (.int (0 : Int32))] [(.int (0 : Int32))])) t_
      exact k_)
    obtain ⟨fs, hr, hrun, hended, hW, hsame⟩ := X0.leave (v := some (.int (0 : Int32))) (fun h => by rw [Bd.returns] at h; cases h)
    refine ⟨_, _, s1 _ ?_, hrun, hended, _, _, rfl, ?_, ⟨_, rfl⟩, hW, hsame.mono (by decide) (by decide)⟩
    · show Steps p.tables e below (s₁.setTop (mkF m 16 #[.val (.ref a), .val (.int (0 : Int32))] [(.int (0 : Int32))])) _
      exact retI X0 hx Bd.returns (Jvm.hb hby d_prog_8_method_4_16) hr
    · show Q_rmStart Z _ _ _ _ _ _ _ h0 n0 _ s₁.heap _
      rw [e0]
      exact ⟨rfl, N0, rfl⟩
  · have hcase := trivial
    obtain ⟨T2, X2, e2, st2⟩ := getF X0 hx hZ hown (host := "") (Or.inl (hw _ (List.mem_of_getElem? (i := 33) rfl))) Via.refl e0 I2 (g := (mkF m 9 #[.val (.ref a), .val (.int (1 : Int32))] [(.ref a)])) rfl rfl (Jvm.hb hby d_prog_8_method_4_9)
    obtain ⟨cl3, Ar3, -, S3, M3, H3, -⟩ := id I3
    have hin3 : ¬ ((0 : Int32) < 0 ∨ cl3.slots.size ≤ ((0 : Int32)).toNatClampNeg) := inb_of S3 ⟨by decide, by decide⟩
    have hat3 : cl3.slots[((0 : Int32)).toNatClampNeg]? = some (.int ex) := H3.at hin3 (rfl)
    have s4 : ∀ t_, Steps p.tables e below (T2.setTop (mkF m 16 #[.val (.ref a), .val (.int (1 : Int32))] [(.int ex)])) t_ → Steps p.tables e below (s₁.setTop (entryFrame m #[(.ref a), (.int (1 : Int32))] 2)) t_ := fun t_ k_ => pre0 t_ (by
      show Steps p.tables e below (s₁.setTop (mkF m 0 #[.val (.ref a), .val (.int (1 : Int32))] [])) t_
      refine XS.iloadN X0.here hx rfl (Jvm.hb hby d_prog_8_method_4_0) rfl ?_
      show Steps p.tables e below (s₁.setTop (mkF m 1 #[.val (.ref a), .val (.int (1 : Int32))] [(.int (1 : Int32))])) _
      refine XS.ifYes X0.here hx rfl (pc0 := 1) (pc' := 8) rfl (Jvm.hb hby d_prog_8_method_4_1) rfl ((if0 _ _).trans (feq (by decide : ¬ ((1 : Int32) = (0 : Int32)))).2) (by decide) (by decide) ?_
      show Steps p.tables e below (s₁.setTop (mkF m 8 #[.val (.ref a), .val (.int (1 : Int32))] [])) _
      refine XS.aloadN X0.here hx rfl (Jvm.hb hby d_prog_8_method_4_8) rfl rfl ?_
      show Steps p.tables e below (s₁.setTop (mkF m 9 #[.val (.ref a), .val (.int (1 : Int32))] [(.ref a)])) _
      refine st2 _ ?_
      show Steps p.tables e below (T2.setTop (mkF m 12 #[.val (.ref a), .val (.int (1 : Int32))] [(.ref ea)])) _
      refine XS.iloadN X2.here hx rfl (Jvm.hb hby d_prog_8_method_4_12) rfl ?_
      show Steps p.tables e below (T2.setTop (mkF m 13 #[.val (.ref a), .val (.int (1 : Int32))] [(.int (1 : Int32)), (.ref ea)])) _
      refine XS.iconst X2.here hx rfl (Jvm.hb hby d_prog_8_method_4_13) ?_
      show Steps p.tables e below (T2.setTop (mkF m 14 #[.val (.ref a), .val (.int (1 : Int32))] [(.int (1 : Int32)), (.int (1 : Int32)), (.ref ea)])) _
      refine XS.isub X2.here hx rfl (Jvm.hb hby d_prog_8_method_4_14) rfl ?_
      show Steps p.tables e below (T2.setTop (mkF m 15 #[.val (.ref a), .val (.int (1 : Int32))] [(.int (0 : Int32)), (.ref ea)])) _
      refine X2.iaload hx (j := (0 : Int32)) (v := (.int ex)) (by rw [e2]; exact Ar3.1) (State.isArrayOf_alike hZ.alike Ar3.2.1) Ar3.2.2 hin3 hat3 (g := (mkF m 15 #[.val (.ref a), .val (.int (1 : Int32))] [(.int (0 : Int32)), (.ref ea)])) rfl rfl (Jvm.hb hby d_prog_8_method_4_15) _ ?_
      show Steps p.tables e below (T2.setTop (mkF m 16 #[.val (.ref a), .val (.int (1 : Int32))] [(.int ex)])) _
      show Steps p.tables e below (T2.setTop (mkF m 16 #[.val (.ref a), .val (.int (1 : Int32))] [(.int ex)])) t_
      exact k_)
    obtain ⟨fs, hr, hrun, hended, hW, hsame⟩ := X2.leave (v := some (.int ex)) (fun h => by rw [Bd.returns] at h; cases h)
    refine ⟨_, _, s4 _ ?_, hrun, hended, _, _, rfl, ?_, ⟨_, rfl⟩, hW, hsame.mono (by decide) (by decide)⟩
    · show Steps p.tables e below (T2.setTop (mkF m 16 #[.val (.ref a), .val (.int (1 : Int32))] [(.int ex)])) _
      exact retI X2 hx Bd.returns (Jvm.hb hby d_prog_8_method_4_16) hr
    · show Q_rmStart Z _ _ _ _ _ _ _ h0 n0 _ T2.heap _
      rw [e2]
      exact ⟨rfl, N0, rfl⟩
  · have hcase := trivial
    obtain ⟨T5, X5, e5, st5⟩ := getF X0 hx hZ hown (host := "") (Or.inl (hw _ (List.mem_of_getElem? (i := 33) rfl))) Via.refl e0 I2 (g := (mkF m 9 #[.val (.ref a), .val (.int (2 : Int32))] [(.ref a)])) rfl rfl (Jvm.hb hby d_prog_8_method_4_9)
    obtain ⟨cl6, Ar6, -, S6, M6, H6, -⟩ := id I3
    have hin6 : ¬ ((1 : Int32) < 0 ∨ cl6.slots.size ≤ ((1 : Int32)).toNatClampNeg) := inb_of S6 ⟨by decide, by decide⟩
    have hat6 : cl6.slots[((1 : Int32)).toNatClampNeg]? = some (.int ey) := H6.at hin6 (rfl)
    have s7 : ∀ t_, Steps p.tables e below (T5.setTop (mkF m 16 #[.val (.ref a), .val (.int (2 : Int32))] [(.int ey)])) t_ → Steps p.tables e below (s₁.setTop (entryFrame m #[(.ref a), (.int (2 : Int32))] 2)) t_ := fun t_ k_ => pre0 t_ (by
      show Steps p.tables e below (s₁.setTop (mkF m 0 #[.val (.ref a), .val (.int (2 : Int32))] [])) t_
      refine XS.iloadN X0.here hx rfl (Jvm.hb hby d_prog_8_method_4_0) rfl ?_
      show Steps p.tables e below (s₁.setTop (mkF m 1 #[.val (.ref a), .val (.int (2 : Int32))] [(.int (2 : Int32))])) _
      refine XS.ifYes X0.here hx rfl (pc0 := 1) (pc' := 8) rfl (Jvm.hb hby d_prog_8_method_4_1) rfl ((if0 _ _).trans (feq (by decide : ¬ ((2 : Int32) = (0 : Int32)))).2) (by decide) (by decide) ?_
      show Steps p.tables e below (s₁.setTop (mkF m 8 #[.val (.ref a), .val (.int (2 : Int32))] [])) _
      refine XS.aloadN X0.here hx rfl (Jvm.hb hby d_prog_8_method_4_8) rfl rfl ?_
      show Steps p.tables e below (s₁.setTop (mkF m 9 #[.val (.ref a), .val (.int (2 : Int32))] [(.ref a)])) _
      refine st5 _ ?_
      show Steps p.tables e below (T5.setTop (mkF m 12 #[.val (.ref a), .val (.int (2 : Int32))] [(.ref ea)])) _
      refine XS.iloadN X5.here hx rfl (Jvm.hb hby d_prog_8_method_4_12) rfl ?_
      show Steps p.tables e below (T5.setTop (mkF m 13 #[.val (.ref a), .val (.int (2 : Int32))] [(.int (2 : Int32)), (.ref ea)])) _
      refine XS.iconst X5.here hx rfl (Jvm.hb hby d_prog_8_method_4_13) ?_
      show Steps p.tables e below (T5.setTop (mkF m 14 #[.val (.ref a), .val (.int (2 : Int32))] [(.int (1 : Int32)), (.int (2 : Int32)), (.ref ea)])) _
      refine XS.isub X5.here hx rfl (Jvm.hb hby d_prog_8_method_4_14) rfl ?_
      show Steps p.tables e below (T5.setTop (mkF m 15 #[.val (.ref a), .val (.int (2 : Int32))] [(.int (1 : Int32)), (.ref ea)])) _
      refine X5.iaload hx (j := (1 : Int32)) (v := (.int ey)) (by rw [e5]; exact Ar6.1) (State.isArrayOf_alike hZ.alike Ar6.2.1) Ar6.2.2 hin6 hat6 (g := (mkF m 15 #[.val (.ref a), .val (.int (2 : Int32))] [(.int (1 : Int32)), (.ref ea)])) rfl rfl (Jvm.hb hby d_prog_8_method_4_15) _ ?_
      show Steps p.tables e below (T5.setTop (mkF m 16 #[.val (.ref a), .val (.int (2 : Int32))] [(.int ey)])) _
      show Steps p.tables e below (T5.setTop (mkF m 16 #[.val (.ref a), .val (.int (2 : Int32))] [(.int ey)])) t_
      exact k_)
    obtain ⟨fs, hr, hrun, hended, hW, hsame⟩ := X5.leave (v := some (.int ey)) (fun h => by rw [Bd.returns] at h; cases h)
    refine ⟨_, _, s7 _ ?_, hrun, hended, _, _, rfl, ?_, ⟨_, rfl⟩, hW, hsame.mono (by decide) (by decide)⟩
    · show Steps p.tables e below (T5.setTop (mkF m 16 #[.val (.ref a), .val (.int (2 : Int32))] [(.int ey)])) _
      exact retI X5 hx Bd.returns (Jvm.hb hby d_prog_8_method_4_16) hr
    · show Q_rmStart Z _ _ _ _ _ _ _ h0 n0 _ T5.heap _
      rw [e5]
      exact ⟨rfl, N0, rfl⟩
theorem d_prog_8_method_5_0 : decode prog_8_method_5_code 0 = .ok (.aload_n 0, 1) := by decide +kernel
theorem d_prog_8_method_5_1 : decode prog_8_method_5_code 1 = .ok (.getfield 16, 3) := by decide +kernel
theorem d_prog_8_method_5_4 : decode prog_8_method_5_code 4 = .ok (.iload_n 1, 1) := by decide +kernel
theorem d_prog_8_method_5_5 : decode prog_8_method_5_code 5 = .ok (.iaload, 1) := by decide +kernel
theorem d_prog_8_method_5_6 : decode prog_8_method_5_code 6 = .ok (.ireturn, 1) := by decide +kernel
theorem ef_rmEndOf (m : MethodId) (x0 : Addr) (x1 : Int32) : entryFrame m #[(.ref x0), (.int x1)] 2 = mkF m 0 #[.val (.ref x0), .val (.int x1)] [] := by first | (simp [entryFrame, mkF, argsToLocals, Value.category]; done) | rfl
def Q_rmEndOf (Z : State) (a : Addr) (ea : Addr) (ke : ClassId) (ex : Int32) (ey : Int32) (ez : Int32) (n : Nat) (h0 : Heap) (n0 : Nat) (v : Option Value) (h : Heap) (L : List Loc) : Prop := (v = some (.int (own_pick n ex ey ez))) ∧ (Fr n0 L) ∧ (h = h0)
set_option maxRecDepth 65536 in
set_option maxHeartbeats 40000000 in
theorem rmEndOf (l : Launch) (Z : State) (a0 : Array Value) (hw : ∀ d ∈ tables_1, d.before a0 Z = true) (ws : List Jvm.Cond) (a : Addr) (ea : Addr) (ke : ClassId) (ex : Int32) (ey : Int32) (ez : Int32) (n : Nat) (h0 : Heap) (n0 : Nat) (Z0 : n0 ≤ h0.size) (I1 : Exa Z h0 a "com/example/bezugswerk/bezugswerk/DecodedParts") (I2 : Fld Z h0 a "com/example/bezugswerk/bezugswerk/DecodedParts" "ends" "[I" (.ref ea)) (I3 : Arv Z h0 ea ke .int (16 : Int32) [(.int ex), (.int ey), (.int ez), (.int (0 : Int32)), (.int (0 : Int32)), (.int (0 : Int32)), (.int (0 : Int32)), (.int (0 : Int32)), (.int (0 : Int32)), (.int (0 : Int32)), (.int (0 : Int32)), (.int (0 : Int32)), (.int (0 : Int32)), (.int (0 : Int32)), (.int (0 : Int32)), (.int (0 : Int32))] (.int (0 : Int32))) (hn : n < 3) :
    MetFree l (⟨"com/example/bezugswerk/bezugswerk/DecodedParts", "end", "(I)I"⟩ : MethodName) (head1 (Jvm.Cond.code (⟨"com/example/bezugswerk/bezugswerk/DecodedParts", "end", "(I)I"⟩ : MethodName) prog_8_method_5_code 2 (some .int) :: ws) ({ frames := 0, cells := 0, slots := 0, locals := 0 } : Room)) (fun ar_ U => ar_ = #[(.ref a), (.int (Int32.ofNat n))] ∧ Z.Warmed39 U.vm ∧ U.heap = h0) (fun _ _ _ _ _ => True) (fun _ U o U' => ∃ v L, o = .returned v ∧ Q_rmEndOf Z a ea ke ex ey ez n h0 n0 v U'.heap L ∧ FrameEnd U o U' L ({ frames := 0, cells := 0, slots := 0, locals := 0 } : Room).cells ({ frames := 0, cells := 0, slots := 0, locals := 0 } : Room).slots) := by
  refine MetFree.of_bodySF (plainFor_of_name pn_com_example_bezugswerk_bezugswerk_DecodedParts) hisR ?_
  intro p e s m args below meth c s₁ Bd hml0 hP hK
  obtain ⟨rfl, hZ, hh⟩ := hP
  have hx := Bd.exec
  have hby := Bd.bytes
  have hml : c.maxLocals = 2 := hml0
  have hown : s.vm.findClass "com/example/bezugswerk/bezugswerk/DecodedParts" = some m.cls := findClass_of_methodNamed Bd.named
  have hnm := (name_of_methodNamed Bd.named Bd.method).1
  have X0 : Stand p l e ({ frames := 0, cells := 0, slots := 0, locals := 0 } : Room) s m #[(.ref a), (.int (Int32.ofNat n))] below meth c s₁ [] 0 0 := Stand.of_body Bd
  have e0 : s₁.heap = h0 := by rw [← hh, Bd.state]; rfl
  have N0 := Fr.nil n0
  have pre0 : ∀ t_, Steps p.tables e below (s₁.setTop (mkF m 0 #[.val (.ref a), .val (.int (Int32.ofNat n))] [])) t_ → Steps p.tables e below (s₁.setTop (entryFrame m #[(.ref a), (.int (Int32.ofNat n))] 2)) t_ := fun t_ k_ => castTop (ef_rmEndOf m a (Int32.ofNat n)) k_
  have lt_I1 : @LT.lt Nat _ a h0.size := I1.lt
  have lt_I2 : @LT.lt Nat _ a h0.size := I2.lt
  have lt_I3 : @LT.lt Nat _ ea h0.size := I3.lt
  obtain rfl | rfl | rfl : n = 0 ∨ n = 1 ∨ n = 2 := by omega
  · have hcase := trivial
    obtain ⟨T1, X1, e1, st1⟩ := getF X0 hx hZ hown (host := "") (Or.inl (hw _ (List.mem_of_getElem? (i := 33) rfl))) Via.refl e0 I2 (g := (mkF m 1 #[.val (.ref a), .val (.int (0 : Int32))] [(.ref a)])) rfl rfl (Jvm.hb hby d_prog_8_method_5_1)
    obtain ⟨cl2, Ar2, -, S2, M2, H2, -⟩ := id I3
    have hin2 : ¬ ((0 : Int32) < 0 ∨ cl2.slots.size ≤ ((0 : Int32)).toNatClampNeg) := inb_of S2 ⟨by decide, by decide⟩
    have hat2 : cl2.slots[((0 : Int32)).toNatClampNeg]? = some (.int ex) := H2.at hin2 (rfl)
    have s3 : ∀ t_, Steps p.tables e below (T1.setTop (mkF m 6 #[.val (.ref a), .val (.int (0 : Int32))] [(.int ex)])) t_ → Steps p.tables e below (s₁.setTop (entryFrame m #[(.ref a), (.int (0 : Int32))] 2)) t_ := fun t_ k_ => pre0 t_ (by
      show Steps p.tables e below (s₁.setTop (mkF m 0 #[.val (.ref a), .val (.int (0 : Int32))] [])) t_
      refine XS.aloadN X0.here hx rfl (Jvm.hb hby d_prog_8_method_5_0) rfl rfl ?_
      show Steps p.tables e below (s₁.setTop (mkF m 1 #[.val (.ref a), .val (.int (0 : Int32))] [(.ref a)])) _
      refine st1 _ ?_
      show Steps p.tables e below (T1.setTop (mkF m 4 #[.val (.ref a), .val (.int (0 : Int32))] [(.ref ea)])) _
      refine XS.iloadN X1.here hx rfl (Jvm.hb hby d_prog_8_method_5_4) rfl ?_
      show Steps p.tables e below (T1.setTop (mkF m 5 #[.val (.ref a), .val (.int (0 : Int32))] [(.int (0 : Int32)), (.ref ea)])) _
      refine X1.iaload hx (j := (0 : Int32)) (v := (.int ex)) (by rw [e1]; exact Ar2.1) (State.isArrayOf_alike hZ.alike Ar2.2.1) Ar2.2.2 hin2 hat2 (g := (mkF m 5 #[.val (.ref a), .val (.int (0 : Int32))] [(.int (0 : Int32)), (.ref ea)])) rfl rfl (Jvm.hb hby d_prog_8_method_5_5) _ ?_
      show Steps p.tables e below (T1.setTop (mkF m 6 #[.val (.ref a), .val (.int (0 : Int32))] [(.int ex)])) _
      show Steps p.tables e below (T1.setTop (mkF m 6 #[.val (.ref a), .val (.int (0 : Int32))] [(.int ex)])) t_
      exact k_)
    obtain ⟨fs, hr, hrun, hended, hW, hsame⟩ := X1.leave (v := some (.int ex)) (fun h => by rw [Bd.returns] at h; cases h)
    refine ⟨_, _, s3 _ ?_, hrun, hended, _, _, rfl, ?_, ⟨_, rfl⟩, hW, hsame.mono (by decide) (by decide)⟩
    · show Steps p.tables e below (T1.setTop (mkF m 6 #[.val (.ref a), .val (.int (0 : Int32))] [(.int ex)])) _
      exact retI X1 hx Bd.returns (Jvm.hb hby d_prog_8_method_5_6) hr
    · show Q_rmEndOf Z _ _ _ _ _ _ _ h0 n0 _ T1.heap _
      rw [e1]
      exact ⟨rfl, N0, rfl⟩
  · have hcase := trivial
    obtain ⟨T4, X4, e4, st4⟩ := getF X0 hx hZ hown (host := "") (Or.inl (hw _ (List.mem_of_getElem? (i := 33) rfl))) Via.refl e0 I2 (g := (mkF m 1 #[.val (.ref a), .val (.int (1 : Int32))] [(.ref a)])) rfl rfl (Jvm.hb hby d_prog_8_method_5_1)
    obtain ⟨cl5, Ar5, -, S5, M5, H5, -⟩ := id I3
    have hin5 : ¬ ((1 : Int32) < 0 ∨ cl5.slots.size ≤ ((1 : Int32)).toNatClampNeg) := inb_of S5 ⟨by decide, by decide⟩
    have hat5 : cl5.slots[((1 : Int32)).toNatClampNeg]? = some (.int ey) := H5.at hin5 (rfl)
    have s6 : ∀ t_, Steps p.tables e below (T4.setTop (mkF m 6 #[.val (.ref a), .val (.int (1 : Int32))] [(.int ey)])) t_ → Steps p.tables e below (s₁.setTop (entryFrame m #[(.ref a), (.int (1 : Int32))] 2)) t_ := fun t_ k_ => pre0 t_ (by
      show Steps p.tables e below (s₁.setTop (mkF m 0 #[.val (.ref a), .val (.int (1 : Int32))] [])) t_
      refine XS.aloadN X0.here hx rfl (Jvm.hb hby d_prog_8_method_5_0) rfl rfl ?_
      show Steps p.tables e below (s₁.setTop (mkF m 1 #[.val (.ref a), .val (.int (1 : Int32))] [(.ref a)])) _
      refine st4 _ ?_
      show Steps p.tables e below (T4.setTop (mkF m 4 #[.val (.ref a), .val (.int (1 : Int32))] [(.ref ea)])) _
      refine XS.iloadN X4.here hx rfl (Jvm.hb hby d_prog_8_method_5_4) rfl ?_
      show Steps p.tables e below (T4.setTop (mkF m 5 #[.val (.ref a), .val (.int (1 : Int32))] [(.int (1 : Int32)), (.ref ea)])) _
      refine X4.iaload hx (j := (1 : Int32)) (v := (.int ey)) (by rw [e4]; exact Ar5.1) (State.isArrayOf_alike hZ.alike Ar5.2.1) Ar5.2.2 hin5 hat5 (g := (mkF m 5 #[.val (.ref a), .val (.int (1 : Int32))] [(.int (1 : Int32)), (.ref ea)])) rfl rfl (Jvm.hb hby d_prog_8_method_5_5) _ ?_
      show Steps p.tables e below (T4.setTop (mkF m 6 #[.val (.ref a), .val (.int (1 : Int32))] [(.int ey)])) _
      show Steps p.tables e below (T4.setTop (mkF m 6 #[.val (.ref a), .val (.int (1 : Int32))] [(.int ey)])) t_
      exact k_)
    obtain ⟨fs, hr, hrun, hended, hW, hsame⟩ := X4.leave (v := some (.int ey)) (fun h => by rw [Bd.returns] at h; cases h)
    refine ⟨_, _, s6 _ ?_, hrun, hended, _, _, rfl, ?_, ⟨_, rfl⟩, hW, hsame.mono (by decide) (by decide)⟩
    · show Steps p.tables e below (T4.setTop (mkF m 6 #[.val (.ref a), .val (.int (1 : Int32))] [(.int ey)])) _
      exact retI X4 hx Bd.returns (Jvm.hb hby d_prog_8_method_5_6) hr
    · show Q_rmEndOf Z _ _ _ _ _ _ _ h0 n0 _ T4.heap _
      rw [e4]
      exact ⟨rfl, N0, rfl⟩
  · have hcase := trivial
    obtain ⟨T7, X7, e7, st7⟩ := getF X0 hx hZ hown (host := "") (Or.inl (hw _ (List.mem_of_getElem? (i := 33) rfl))) Via.refl e0 I2 (g := (mkF m 1 #[.val (.ref a), .val (.int (2 : Int32))] [(.ref a)])) rfl rfl (Jvm.hb hby d_prog_8_method_5_1)
    obtain ⟨cl8, Ar8, -, S8, M8, H8, -⟩ := id I3
    have hin8 : ¬ ((2 : Int32) < 0 ∨ cl8.slots.size ≤ ((2 : Int32)).toNatClampNeg) := inb_of S8 ⟨by decide, by decide⟩
    have hat8 : cl8.slots[((2 : Int32)).toNatClampNeg]? = some (.int ez) := H8.at hin8 (rfl)
    have s9 : ∀ t_, Steps p.tables e below (T7.setTop (mkF m 6 #[.val (.ref a), .val (.int (2 : Int32))] [(.int ez)])) t_ → Steps p.tables e below (s₁.setTop (entryFrame m #[(.ref a), (.int (2 : Int32))] 2)) t_ := fun t_ k_ => pre0 t_ (by
      show Steps p.tables e below (s₁.setTop (mkF m 0 #[.val (.ref a), .val (.int (2 : Int32))] [])) t_
      refine XS.aloadN X0.here hx rfl (Jvm.hb hby d_prog_8_method_5_0) rfl rfl ?_
      show Steps p.tables e below (s₁.setTop (mkF m 1 #[.val (.ref a), .val (.int (2 : Int32))] [(.ref a)])) _
      refine st7 _ ?_
      show Steps p.tables e below (T7.setTop (mkF m 4 #[.val (.ref a), .val (.int (2 : Int32))] [(.ref ea)])) _
      refine XS.iloadN X7.here hx rfl (Jvm.hb hby d_prog_8_method_5_4) rfl ?_
      show Steps p.tables e below (T7.setTop (mkF m 5 #[.val (.ref a), .val (.int (2 : Int32))] [(.int (2 : Int32)), (.ref ea)])) _
      refine X7.iaload hx (j := (2 : Int32)) (v := (.int ez)) (by rw [e7]; exact Ar8.1) (State.isArrayOf_alike hZ.alike Ar8.2.1) Ar8.2.2 hin8 hat8 (g := (mkF m 5 #[.val (.ref a), .val (.int (2 : Int32))] [(.int (2 : Int32)), (.ref ea)])) rfl rfl (Jvm.hb hby d_prog_8_method_5_5) _ ?_
      show Steps p.tables e below (T7.setTop (mkF m 6 #[.val (.ref a), .val (.int (2 : Int32))] [(.int ez)])) _
      show Steps p.tables e below (T7.setTop (mkF m 6 #[.val (.ref a), .val (.int (2 : Int32))] [(.int ez)])) t_
      exact k_)
    obtain ⟨fs, hr, hrun, hended, hW, hsame⟩ := X7.leave (v := some (.int ez)) (fun h => by rw [Bd.returns] at h; cases h)
    refine ⟨_, _, s9 _ ?_, hrun, hended, _, _, rfl, ?_, ⟨_, rfl⟩, hW, hsame.mono (by decide) (by decide)⟩
    · show Steps p.tables e below (T7.setTop (mkF m 6 #[.val (.ref a), .val (.int (2 : Int32))] [(.int ez)])) _
      exact retI X7 hx Bd.returns (Jvm.hb hby d_prog_8_method_5_6) hr
    · show Q_rmEndOf Z _ _ _ _ _ _ _ h0 n0 _ T7.heap _
      rw [e7]
      exact ⟨rfl, N0, rfl⟩
theorem pd___Ljava_lang_StringBuilder_ : parseMethodDescriptor "()Ljava/lang/StringBuilder;" = some ⟨[], some (.object "java/lang/StringBuilder")⟩ := by decide +kernel
theorem pd__Ljava_lang_StringBuilder_I_V : parseMethodDescriptor "(Ljava/lang/StringBuilder;I)V" = some ⟨[(.object "java/lang/StringBuilder"), .int], none⟩ := by decide +kernel
theorem pd__I_I : parseMethodDescriptor "(I)I" = some ⟨[.int], some .int⟩ := by decide +kernel
theorem ef_rmLaw (m : MethodId) (x0 : Int32) (x1 : Int32) (x2 : Int32) (x3 : Int32) (x4 : Int32) : entryFrame m #[(.int x0), (.int x1), (.int x2), (.int x3), (.int x4)] maxLocals = mkF m 0 #[.val (.int x0), .val (.int x1), .val (.int x2), .val (.int x3), .val (.int x4), .unset, .unset, .unset, .unset, .unset, .unset, .unset, .unset, .unset, .unset, .unset, .unset] [] := by first | (simp [entryFrame, mkF, argsToLocals, Value.category, maxLocals]; done) | rfl
def Q_rmLaw (Z : State) (ra : Int32) (rb : Int32) (rc : Int32) (rp : Int32) (rq : Int32) (cst : Int32) (h0 : Heap) (n0 : Nat) (v : Option Value) (h : Heap) (L : List Loc) : Prop := v = some (.int 1) ∧ Fr n0 L
set_option maxRecDepth 65536 in
set_option maxHeartbeats 40000000 in
theorem rmLaw (l : Launch) (Z : State) (a0 : Array Value) (hw : ∀ d ∈ tables_1, d.before a0 Z = true) (ws : List Jvm.Cond) (ra : Int32) (rb : Int32) (rc : Int32) (rp : Int32) (rq : Int32) (cst : Int32) (h0 : Heap) (n0 : Nat) (Z0 : n0 ≤ h0.size) (I1 : Sta Z Z.heap "java/lang/String" "COMPACT_STRINGS" "Z" (.int cst)) (OX : Old Z n0 h0) (hcst : ¬ (cst = (0 : Int32))) :
    MetFree l x (head1 (Jvm.Cond.code x code maxLocals ret :: ws) room_1) (fun ar_ U => ar_ = #[(.int ra), (.int rb), (.int rc), (.int rp), (.int rq)] ∧ Z.Warmed39 U.vm ∧ U.heap = h0) (fun _ _ _ _ _ => True) (fun _ U o U' => ∃ v L, o = .returned v ∧ Q_rmLaw Z ra rb rc rp rq cst h0 n0 v U'.heap L ∧ FrameEnd U o U' L room_1.cells room_1.slots) := by
  refine MetFree.of_bodySF (plainFor_of_name pn_com_example_bezugswerk_bezugswerk_DecodedPartsStartPinLaw) hisR ?_
  intro p e s m args below meth c s₁ Bd hml0 hP hK
  obtain ⟨rfl, hZ, hh⟩ := hP
  have hx := Bd.exec
  have hby := Bd.bytes
  have hml : c.maxLocals = 17 := hml0
  have hown : s.vm.findClass "com/example/bezugswerk/bezugswerk/DecodedPartsStartPinLaw" = some m.cls := findClass_of_methodNamed Bd.named
  have hnm := (name_of_methodNamed Bd.named Bd.method).1
  have X0 : Stand p l e room_1 s m #[(.int ra), (.int rb), (.int rc), (.int rp), (.int rq)] below meth c s₁ [] 0 0 := Stand.of_body Bd
  have e0 : s₁.heap = h0 := by rw [← hh, Bd.state]; rfl
  have N0 := Fr.nil n0
  have pre0 : ∀ t_, Steps p.tables e below (s₁.setTop (mkF m 0 #[.val (.int ra), .val (.int rb), .val (.int rc), .val (.int rp), .val (.int rq), .unset, .unset, .unset, .unset, .unset, .unset, .unset, .unset, .unset, .unset, .unset, .unset] [])) t_ → Steps p.tables e below (s₁.setTop (entryFrame m #[(.int ra), (.int rb), (.int rc), (.int rp), (.int rq)] maxLocals)) t_ := fun t_ k_ => castTop (ef_rmLaw m ra rb rc rp rq) k_
  obtain ⟨m1, hq1, hl1⟩ := own_and3 ra
  obtain ⟨m2, hq2, hl2⟩ := own_and3 rb
  obtain ⟨m3, hq3, hl3⟩ := own_and3 rc
  obtain ⟨m4, hq4, hl4⟩ := own_mod3 rp
  obtain ⟨q5, hq5⟩ : ∃ z : Int32, z = (rq &&& (4 : Int32)) := ⟨_, rfl⟩
  have s6 : ∀ t_, Steps p.tables e below (s₁.setTop (mkF m 27 #[.val (.int ra), .val (.int rb), .val (.int rc), .val (.int rp), .val (.int rq), .val (.int (Int32.ofNat m1)), .val (.int (Int32.ofNat m2)), .val (.int (Int32.ofNat m3)), .val (.int (Int32.ofNat m4)), .unset, .unset, .unset, .unset, .unset, .unset, .unset, .unset] [(.int q5)])) t_ → Steps p.tables e below (s₁.setTop (entryFrame m #[(.int ra), (.int rb), (.int rc), (.int rp), (.int rq)] maxLocals)) t_ := fun t_ k_ => pre0 t_ (by
    show Steps p.tables e below (s₁.setTop (mkF m 0 #[.val (.int ra), .val (.int rb), .val (.int rc), .val (.int rp), .val (.int rq), .unset, .unset, .unset, .unset, .unset, .unset, .unset, .unset, .unset, .unset, .unset, .unset] [])) t_
    refine XS.iloadN X0.here hx rfl (Jvm.hb hby at_0) rfl ?_
    show Steps p.tables e below (s₁.setTop (mkF m 1 #[.val (.int ra), .val (.int rb), .val (.int rc), .val (.int rp), .val (.int rq), .unset, .unset, .unset, .unset, .unset, .unset, .unset, .unset, .unset, .unset, .unset, .unset] [(.int ra)])) _
    refine XS.iconst X0.here hx rfl (Jvm.hb hby at_1) ?_
    show Steps p.tables e below (s₁.setTop (mkF m 2 #[.val (.int ra), .val (.int rb), .val (.int rc), .val (.int rp), .val (.int rq), .unset, .unset, .unset, .unset, .unset, .unset, .unset, .unset, .unset, .unset, .unset, .unset] [(.int (3 : Int32)), (.int ra)])) _
    refine XS.iand X0.here hx rfl (Jvm.hb hby at_2) rfl ?_
    show Steps p.tables e below (s₁.setTop (mkF m 3 #[.val (.int ra), .val (.int rb), .val (.int rc), .val (.int rp), .val (.int rq), .unset, .unset, .unset, .unset, .unset, .unset, .unset, .unset, .unset, .unset, .unset, .unset] [(.int (ra &&& (3 : Int32)))])) _
    refine XS.istore X0.here hx rfl (Jvm.hb hby at_3) rfl (l' := #[.val (.int ra), .val (.int rb), .val (.int rc), .val (.int rp), .val (.int rq), .val (.int (ra &&& (3 : Int32))), .unset, .unset, .unset, .unset, .unset, .unset, .unset, .unset, .unset, .unset, .unset]) rfl ?_
    show Steps p.tables e below (s₁.setTop (mkF m 5 #[.val (.int ra), .val (.int rb), .val (.int rc), .val (.int rp), .val (.int rq), .val (.int (ra &&& (3 : Int32))), .unset, .unset, .unset, .unset, .unset, .unset, .unset, .unset, .unset, .unset, .unset] [])) _
    refine XS.iloadN X0.here hx rfl (Jvm.hb hby at_5) rfl ?_
    show Steps p.tables e below (s₁.setTop (mkF m 6 #[.val (.int ra), .val (.int rb), .val (.int rc), .val (.int rp), .val (.int rq), .val (.int (ra &&& (3 : Int32))), .unset, .unset, .unset, .unset, .unset, .unset, .unset, .unset, .unset, .unset, .unset] [(.int rb)])) _
    refine XS.iconst X0.here hx rfl (Jvm.hb hby at_6) ?_
    show Steps p.tables e below (s₁.setTop (mkF m 7 #[.val (.int ra), .val (.int rb), .val (.int rc), .val (.int rp), .val (.int rq), .val (.int (ra &&& (3 : Int32))), .unset, .unset, .unset, .unset, .unset, .unset, .unset, .unset, .unset, .unset, .unset] [(.int (3 : Int32)), (.int rb)])) _
    refine XS.iand X0.here hx rfl (Jvm.hb hby at_7) rfl ?_
    show Steps p.tables e below (s₁.setTop (mkF m 8 #[.val (.int ra), .val (.int rb), .val (.int rc), .val (.int rp), .val (.int rq), .val (.int (ra &&& (3 : Int32))), .unset, .unset, .unset, .unset, .unset, .unset, .unset, .unset, .unset, .unset, .unset] [(.int (rb &&& (3 : Int32)))])) _
    refine XS.istore X0.here hx rfl (Jvm.hb hby at_8) rfl (l' := #[.val (.int ra), .val (.int rb), .val (.int rc), .val (.int rp), .val (.int rq), .val (.int (ra &&& (3 : Int32))), .val (.int (rb &&& (3 : Int32))), .unset, .unset, .unset, .unset, .unset, .unset, .unset, .unset, .unset, .unset]) rfl ?_
    show Steps p.tables e below (s₁.setTop (mkF m 10 #[.val (.int ra), .val (.int rb), .val (.int rc), .val (.int rp), .val (.int rq), .val (.int (ra &&& (3 : Int32))), .val (.int (rb &&& (3 : Int32))), .unset, .unset, .unset, .unset, .unset, .unset, .unset, .unset, .unset, .unset] [])) _
    refine XS.iloadN X0.here hx rfl (Jvm.hb hby at_10) rfl ?_
    show Steps p.tables e below (s₁.setTop (mkF m 11 #[.val (.int ra), .val (.int rb), .val (.int rc), .val (.int rp), .val (.int rq), .val (.int (ra &&& (3 : Int32))), .val (.int (rb &&& (3 : Int32))), .unset, .unset, .unset, .unset, .unset, .unset, .unset, .unset, .unset, .unset] [(.int rc)])) _
    refine XS.iconst X0.here hx rfl (Jvm.hb hby at_11) ?_
    show Steps p.tables e below (s₁.setTop (mkF m 12 #[.val (.int ra), .val (.int rb), .val (.int rc), .val (.int rp), .val (.int rq), .val (.int (ra &&& (3 : Int32))), .val (.int (rb &&& (3 : Int32))), .unset, .unset, .unset, .unset, .unset, .unset, .unset, .unset, .unset, .unset] [(.int (3 : Int32)), (.int rc)])) _
    refine XS.iand X0.here hx rfl (Jvm.hb hby at_12) rfl ?_
    show Steps p.tables e below (s₁.setTop (mkF m 13 #[.val (.int ra), .val (.int rb), .val (.int rc), .val (.int rp), .val (.int rq), .val (.int (ra &&& (3 : Int32))), .val (.int (rb &&& (3 : Int32))), .unset, .unset, .unset, .unset, .unset, .unset, .unset, .unset, .unset, .unset] [(.int (rc &&& (3 : Int32)))])) _
    refine XS.istore X0.here hx rfl (Jvm.hb hby at_13) rfl (l' := #[.val (.int ra), .val (.int rb), .val (.int rc), .val (.int rp), .val (.int rq), .val (.int (ra &&& (3 : Int32))), .val (.int (rb &&& (3 : Int32))), .val (.int (rc &&& (3 : Int32))), .unset, .unset, .unset, .unset, .unset, .unset, .unset, .unset, .unset]) rfl ?_
    show Steps p.tables e below (s₁.setTop (mkF m 15 #[.val (.int ra), .val (.int rb), .val (.int rc), .val (.int rp), .val (.int rq), .val (.int (ra &&& (3 : Int32))), .val (.int (rb &&& (3 : Int32))), .val (.int (rc &&& (3 : Int32))), .unset, .unset, .unset, .unset, .unset, .unset, .unset, .unset, .unset] [])) _
    refine XS.iloadN X0.here hx rfl (Jvm.hb hby at_15) rfl ?_
    show Steps p.tables e below (s₁.setTop (mkF m 16 #[.val (.int ra), .val (.int rb), .val (.int rc), .val (.int rp), .val (.int rq), .val (.int (ra &&& (3 : Int32))), .val (.int (rb &&& (3 : Int32))), .val (.int (rc &&& (3 : Int32))), .unset, .unset, .unset, .unset, .unset, .unset, .unset, .unset, .unset] [(.int rp)])) _
    refine X0.ldcInt hx hown (mvT hZ (hw _ (List.mem_of_getElem? (i := 0) rfl))) (g := (mkF m 16 #[.val (.int ra), .val (.int rb), .val (.int rc), .val (.int rp), .val (.int rq), .val (.int (ra &&& (3 : Int32))), .val (.int (rb &&& (3 : Int32))), .val (.int (rc &&& (3 : Int32))), .unset, .unset, .unset, .unset, .unset, .unset, .unset, .unset, .unset] [(.int rp)])) rfl (Jvm.hb hby at_16) _ ?_
    show Steps p.tables e below (s₁.setTop (mkF m 18 #[.val (.int ra), .val (.int rb), .val (.int rc), .val (.int rp), .val (.int rq), .val (.int (ra &&& (3 : Int32))), .val (.int (rb &&& (3 : Int32))), .val (.int (rc &&& (3 : Int32))), .unset, .unset, .unset, .unset, .unset, .unset, .unset, .unset, .unset] [(.int (2147483647 : Int32)), (.int rp)])) _
    refine XS.iand X0.here hx rfl (Jvm.hb hby at_18) rfl ?_
    show Steps p.tables e below (s₁.setTop (mkF m 19 #[.val (.int ra), .val (.int rb), .val (.int rc), .val (.int rp), .val (.int rq), .val (.int (ra &&& (3 : Int32))), .val (.int (rb &&& (3 : Int32))), .val (.int (rc &&& (3 : Int32))), .unset, .unset, .unset, .unset, .unset, .unset, .unset, .unset, .unset] [(.int (rp &&& (2147483647 : Int32)))])) _
    refine XS.iconst X0.here hx rfl (Jvm.hb hby at_19) ?_
    show Steps p.tables e below (s₁.setTop (mkF m 20 #[.val (.int ra), .val (.int rb), .val (.int rc), .val (.int rp), .val (.int rq), .val (.int (ra &&& (3 : Int32))), .val (.int (rb &&& (3 : Int32))), .val (.int (rc &&& (3 : Int32))), .unset, .unset, .unset, .unset, .unset, .unset, .unset, .unset, .unset] [(.int (3 : Int32)), (.int (rp &&& (2147483647 : Int32)))])) _
    refine iremM (g := (mkF m 20 #[.val (.int ra), .val (.int rb), .val (.int rc), .val (.int rp), .val (.int rq), .val (.int (ra &&& (3 : Int32))), .val (.int (rb &&& (3 : Int32))), .val (.int (rc &&& (3 : Int32))), .unset, .unset, .unset, .unset, .unset, .unset, .unset, .unset, .unset] [(.int (3 : Int32)), (.int (rp &&& (2147483647 : Int32)))])) X0 hx rfl (Jvm.hb hby at_20) rfl (by decide) ?_
    show Steps p.tables e below (s₁.setTop (mkF m 21 #[.val (.int ra), .val (.int rb), .val (.int rc), .val (.int rp), .val (.int rq), .val (.int (ra &&& (3 : Int32))), .val (.int (rb &&& (3 : Int32))), .val (.int (rc &&& (3 : Int32))), .unset, .unset, .unset, .unset, .unset, .unset, .unset, .unset, .unset] [(.int ((rp &&& (2147483647 : Int32)) % (3 : Int32)))])) _
    refine XS.istore X0.here hx rfl (Jvm.hb hby at_21) rfl (l' := #[.val (.int ra), .val (.int rb), .val (.int rc), .val (.int rp), .val (.int rq), .val (.int (ra &&& (3 : Int32))), .val (.int (rb &&& (3 : Int32))), .val (.int (rc &&& (3 : Int32))), .val (.int ((rp &&& (2147483647 : Int32)) % (3 : Int32))), .unset, .unset, .unset, .unset, .unset, .unset, .unset, .unset]) rfl ?_
    show Steps p.tables e below (s₁.setTop (mkF m 23 #[.val (.int ra), .val (.int rb), .val (.int rc), .val (.int rp), .val (.int rq), .val (.int (ra &&& (3 : Int32))), .val (.int (rb &&& (3 : Int32))), .val (.int (rc &&& (3 : Int32))), .val (.int ((rp &&& (2147483647 : Int32)) % (3 : Int32))), .unset, .unset, .unset, .unset, .unset, .unset, .unset, .unset] [])) _
    refine XS.iload X0.here hx rfl (Jvm.hb hby at_23) rfl ?_
    show Steps p.tables e below (s₁.setTop (mkF m 25 #[.val (.int ra), .val (.int rb), .val (.int rc), .val (.int rp), .val (.int rq), .val (.int (ra &&& (3 : Int32))), .val (.int (rb &&& (3 : Int32))), .val (.int (rc &&& (3 : Int32))), .val (.int ((rp &&& (2147483647 : Int32)) % (3 : Int32))), .unset, .unset, .unset, .unset, .unset, .unset, .unset, .unset] [(.int rq)])) _
    refine XS.iconst X0.here hx rfl (Jvm.hb hby at_25) ?_
    show Steps p.tables e below (s₁.setTop (mkF m 26 #[.val (.int ra), .val (.int rb), .val (.int rc), .val (.int rp), .val (.int rq), .val (.int (ra &&& (3 : Int32))), .val (.int (rb &&& (3 : Int32))), .val (.int (rc &&& (3 : Int32))), .val (.int ((rp &&& (2147483647 : Int32)) % (3 : Int32))), .unset, .unset, .unset, .unset, .unset, .unset, .unset, .unset] [(.int (4 : Int32)), (.int rq)])) _
    refine XS.iand X0.here hx rfl (Jvm.hb hby at_26) rfl ?_
    show Steps p.tables e below (s₁.setTop (mkF m 27 #[.val (.int ra), .val (.int rb), .val (.int rc), .val (.int rp), .val (.int rq), .val (.int (ra &&& (3 : Int32))), .val (.int (rb &&& (3 : Int32))), .val (.int (rc &&& (3 : Int32))), .val (.int ((rp &&& (2147483647 : Int32)) % (3 : Int32))), .unset, .unset, .unset, .unset, .unset, .unset, .unset, .unset] [(.int (rq &&& (4 : Int32)))])) _
    exact castTop (by simp only [hq1, hq2, hq3, hq4, hq5]) k_)
  obtain ⟨q7, hq7⟩ : ∃ z : Int32, z = (if q5 = (0 : Int32) then (0 : Int32) else (1 : Int32)) := ⟨_, rfl⟩
  obtain ⟨T8, X8, e8, s8⟩ := seg X0 (fun T' => T'.heap = h0 ∧ ∀ t_, Steps p.tables e below (T'.setTop (mkF m 35 #[.val (.int ra), .val (.int rb), .val (.int rc), .val (.int rp), .val (.int rq), .val (.int (Int32.ofNat m1)), .val (.int (Int32.ofNat m2)), .val (.int (Int32.ofNat m3)), .val (.int (Int32.ofNat m4)), .unset, .unset, .unset, .unset, .unset, .unset, .unset, .unset] [(.int q7)])) t_ → Steps p.tables e below (s₁.setTop (entryFrame m #[(.int ra), (.int rb), (.int rc), (.int rp), (.int rq)] maxLocals)) t_) (by
    by_cases h9 : q5 = (0 : Int32)
    · have s10 : ∀ t_, Steps p.tables e below (s₁.setTop (mkF m 35 #[.val (.int ra), .val (.int rb), .val (.int rc), .val (.int rp), .val (.int rq), .val (.int (Int32.ofNat m1)), .val (.int (Int32.ofNat m2)), .val (.int (Int32.ofNat m3)), .val (.int (Int32.ofNat m4)), .unset, .unset, .unset, .unset, .unset, .unset, .unset, .unset] [(.int (0 : Int32))])) t_ → Steps p.tables e below (s₁.setTop (entryFrame m #[(.int ra), (.int rb), (.int rc), (.int rp), (.int rq)] maxLocals)) t_ := fun t_ k_ => s6 t_ (by
        show Steps p.tables e below (s₁.setTop (mkF m 27 #[.val (.int ra), .val (.int rb), .val (.int rc), .val (.int rp), .val (.int rq), .val (.int (Int32.ofNat m1)), .val (.int (Int32.ofNat m2)), .val (.int (Int32.ofNat m3)), .val (.int (Int32.ofNat m4)), .unset, .unset, .unset, .unset, .unset, .unset, .unset, .unset] [(.int q5)])) t_
        refine XS.ifYes X0.here hx rfl (pc0 := 27) (pc' := 34) rfl (Jvm.hb hby at_27) rfl ((if0 _ _).trans (teq h9).1) (by decide) (by decide) ?_
        show Steps p.tables e below (s₁.setTop (mkF m 34 #[.val (.int ra), .val (.int rb), .val (.int rc), .val (.int rp), .val (.int rq), .val (.int (Int32.ofNat m1)), .val (.int (Int32.ofNat m2)), .val (.int (Int32.ofNat m3)), .val (.int (Int32.ofNat m4)), .unset, .unset, .unset, .unset, .unset, .unset, .unset, .unset] [])) _
        refine XS.iconst X0.here hx rfl (Jvm.hb hby at_34) ?_
        show Steps p.tables e below (s₁.setTop (mkF m 35 #[.val (.int ra), .val (.int rb), .val (.int rc), .val (.int rp), .val (.int rq), .val (.int (Int32.ofNat m1)), .val (.int (Int32.ofNat m2)), .val (.int (Int32.ofNat m3)), .val (.int (Int32.ofNat m4)), .unset, .unset, .unset, .unset, .unset, .unset, .unset, .unset] [(.int (0 : Int32))])) _
        show Steps p.tables e below (s₁.setTop (mkF m 35 #[.val (.int ra), .val (.int rb), .val (.int rc), .val (.int rp), .val (.int rq), .val (.int (Int32.ofNat m1)), .val (.int (Int32.ofNat m2)), .val (.int (Int32.ofNat m3)), .val (.int (Int32.ofNat m4)), .unset, .unset, .unset, .unset, .unset, .unset, .unset, .unset] [(.int (0 : Int32))])) t_
        exact k_)
      exact ⟨s₁, X0, e0, fun t_ k_ => s10 t_ (castTop (by simp only [hq7, if_pos h9]) k_)⟩
    · have s11 : ∀ t_, Steps p.tables e below (s₁.setTop (mkF m 35 #[.val (.int ra), .val (.int rb), .val (.int rc), .val (.int rp), .val (.int rq), .val (.int (Int32.ofNat m1)), .val (.int (Int32.ofNat m2)), .val (.int (Int32.ofNat m3)), .val (.int (Int32.ofNat m4)), .unset, .unset, .unset, .unset, .unset, .unset, .unset, .unset] [(.int (1 : Int32))])) t_ → Steps p.tables e below (s₁.setTop (entryFrame m #[(.int ra), (.int rb), (.int rc), (.int rp), (.int rq)] maxLocals)) t_ := fun t_ k_ => s6 t_ (by
        show Steps p.tables e below (s₁.setTop (mkF m 27 #[.val (.int ra), .val (.int rb), .val (.int rc), .val (.int rp), .val (.int rq), .val (.int (Int32.ofNat m1)), .val (.int (Int32.ofNat m2)), .val (.int (Int32.ofNat m3)), .val (.int (Int32.ofNat m4)), .unset, .unset, .unset, .unset, .unset, .unset, .unset, .unset] [(.int q5)])) t_
        refine XS.ifNo X0.here hx rfl (Jvm.hb hby at_27) rfl ((if0 _ _).trans (feq h9).1) ?_
        show Steps p.tables e below (s₁.setTop (mkF m 30 #[.val (.int ra), .val (.int rb), .val (.int rc), .val (.int rp), .val (.int rq), .val (.int (Int32.ofNat m1)), .val (.int (Int32.ofNat m2)), .val (.int (Int32.ofNat m3)), .val (.int (Int32.ofNat m4)), .unset, .unset, .unset, .unset, .unset, .unset, .unset, .unset] [])) _
        refine XS.iconst X0.here hx rfl (Jvm.hb hby at_30) ?_
        show Steps p.tables e below (s₁.setTop (mkF m 31 #[.val (.int ra), .val (.int rb), .val (.int rc), .val (.int rp), .val (.int rq), .val (.int (Int32.ofNat m1)), .val (.int (Int32.ofNat m2)), .val (.int (Int32.ofNat m3)), .val (.int (Int32.ofNat m4)), .unset, .unset, .unset, .unset, .unset, .unset, .unset, .unset] [(.int (1 : Int32))])) _
        refine XS.goto X0.here hx rfl (pc0 := 31) (pc' := 35) rfl (Jvm.hb hby at_31) (by decide) (by decide) ?_
        show Steps p.tables e below (s₁.setTop (mkF m 35 #[.val (.int ra), .val (.int rb), .val (.int rc), .val (.int rp), .val (.int rq), .val (.int (Int32.ofNat m1)), .val (.int (Int32.ofNat m2)), .val (.int (Int32.ofNat m3)), .val (.int (Int32.ofNat m4)), .unset, .unset, .unset, .unset, .unset, .unset, .unset, .unset] [(.int (1 : Int32))])) _
        show Steps p.tables e below (s₁.setTop (mkF m 35 #[.val (.int ra), .val (.int rb), .val (.int rc), .val (.int rp), .val (.int rq), .val (.int (Int32.ofNat m1)), .val (.int (Int32.ofNat m2)), .val (.int (Int32.ofNat m3)), .val (.int (Int32.ofNat m4)), .unset, .unset, .unset, .unset, .unset, .unset, .unset, .unset] [(.int (1 : Int32))])) t_
        exact k_)
      exact ⟨s₁, X0, e0, fun t_ k_ => s11 t_ (castTop (by simp only [hq7, if_neg h9]) k_)⟩)
  obtain ⟨T12, h12, X12, e12, E12, A12, D12, -, st12⟩ := newO X8 hx hZ hown (hw _ (List.mem_of_getElem? (i := 1) rfl)) (hw _ (List.mem_of_getElem? (i := 2) rfl)) (hw _ (List.mem_of_getElem? (i := 3) rfl)) e8 (g := (mkF m 43 #[.val (.int ra), .val (.int rb), .val (.int rc), .val (.int rp), .val (.int rq), .val (.int (Int32.ofNat m1)), .val (.int (Int32.ofNat m2)), .val (.int (Int32.ofNat m3)), .val (.int (Int32.ofNat m4)), .val (.int q7), .val (.int (rq &&& (3 : Int32))), .unset, .unset, .unset, .unset, .unset, .unset] [])) rfl (Jvm.hb hby at_43) (by decide) (by decide)
  obtain ⟨b12, g12⟩ : ∃ z, z = h0.size := ⟨_, rfl⟩
  rw [← g12] at A12 D12 st12
  have z13 : h0.size ≤ h12.size := E12.1
  have l12 : b12 < h12.size := A12.lt
  have F14 : Fld Z h12 b12 "com/example/bezugswerk/bezugswerk/DecodedParts" "text" "Ljava/lang/StringBuilder;" .null := D12 (Or.inr (hw _ (List.mem_of_getElem? (i := 31) rfl))) (ty := (.object "java/lang/StringBuilder")) (by decide)
  have F15 : Fld Z h12 b12 "com/example/bezugswerk/bezugswerk/DecodedParts" "ends" "[I" .null := D12 (Or.inl (hw _ (List.mem_of_getElem? (i := 34) rfl))) (ty := (.array .int)) (by decide)
  have F16 : Fld Z h12 b12 "com/example/bezugswerk/bezugswerk/DecodedParts" "size" "I" (.int (0 : Int32)) := D12 (Or.inl (hw _ (List.mem_of_getElem? (i := 50) rfl))) (ty := .int) (by decide)
  obtain ⟨m17, hq17, hl17⟩ := own_and3 rq
  have s18 : ∀ t_, Steps p.tables e below (T12.setTop (mkF m 47 #[.val (.int ra), .val (.int rb), .val (.int rc), .val (.int rp), .val (.int rq), .val (.int (Int32.ofNat m1)), .val (.int (Int32.ofNat m2)), .val (.int (Int32.ofNat m3)), .val (.int (Int32.ofNat m4)), .val (.int q7), .val (.int (Int32.ofNat m17)), .unset, .unset, .unset, .unset, .unset, .unset] [(.ref b12), (.ref b12)])) t_ → Steps p.tables e below (s₁.setTop (entryFrame m #[(.int ra), (.int rb), (.int rc), (.int rp), (.int rq)] maxLocals)) t_ := fun t_ k_ => s8 t_ (by
    show Steps p.tables e below (T8.setTop (mkF m 35 #[.val (.int ra), .val (.int rb), .val (.int rc), .val (.int rp), .val (.int rq), .val (.int (Int32.ofNat m1)), .val (.int (Int32.ofNat m2)), .val (.int (Int32.ofNat m3)), .val (.int (Int32.ofNat m4)), .unset, .unset, .unset, .unset, .unset, .unset, .unset, .unset] [(.int q7)])) t_
    refine XS.istore X8.here hx rfl (Jvm.hb hby at_35) rfl (l' := #[.val (.int ra), .val (.int rb), .val (.int rc), .val (.int rp), .val (.int rq), .val (.int (Int32.ofNat m1)), .val (.int (Int32.ofNat m2)), .val (.int (Int32.ofNat m3)), .val (.int (Int32.ofNat m4)), .val (.int q7), .unset, .unset, .unset, .unset, .unset, .unset, .unset]) rfl ?_
    show Steps p.tables e below (T8.setTop (mkF m 37 #[.val (.int ra), .val (.int rb), .val (.int rc), .val (.int rp), .val (.int rq), .val (.int (Int32.ofNat m1)), .val (.int (Int32.ofNat m2)), .val (.int (Int32.ofNat m3)), .val (.int (Int32.ofNat m4)), .val (.int q7), .unset, .unset, .unset, .unset, .unset, .unset, .unset] [])) _
    refine XS.iload X8.here hx rfl (Jvm.hb hby at_37) rfl ?_
    show Steps p.tables e below (T8.setTop (mkF m 39 #[.val (.int ra), .val (.int rb), .val (.int rc), .val (.int rp), .val (.int rq), .val (.int (Int32.ofNat m1)), .val (.int (Int32.ofNat m2)), .val (.int (Int32.ofNat m3)), .val (.int (Int32.ofNat m4)), .val (.int q7), .unset, .unset, .unset, .unset, .unset, .unset, .unset] [(.int rq)])) _
    refine XS.iconst X8.here hx rfl (Jvm.hb hby at_39) ?_
    show Steps p.tables e below (T8.setTop (mkF m 40 #[.val (.int ra), .val (.int rb), .val (.int rc), .val (.int rp), .val (.int rq), .val (.int (Int32.ofNat m1)), .val (.int (Int32.ofNat m2)), .val (.int (Int32.ofNat m3)), .val (.int (Int32.ofNat m4)), .val (.int q7), .unset, .unset, .unset, .unset, .unset, .unset, .unset] [(.int (3 : Int32)), (.int rq)])) _
    refine XS.iand X8.here hx rfl (Jvm.hb hby at_40) rfl ?_
    show Steps p.tables e below (T8.setTop (mkF m 41 #[.val (.int ra), .val (.int rb), .val (.int rc), .val (.int rp), .val (.int rq), .val (.int (Int32.ofNat m1)), .val (.int (Int32.ofNat m2)), .val (.int (Int32.ofNat m3)), .val (.int (Int32.ofNat m4)), .val (.int q7), .unset, .unset, .unset, .unset, .unset, .unset, .unset] [(.int (rq &&& (3 : Int32)))])) _
    refine XS.istore X8.here hx rfl (Jvm.hb hby at_41) rfl (l' := #[.val (.int ra), .val (.int rb), .val (.int rc), .val (.int rp), .val (.int rq), .val (.int (Int32.ofNat m1)), .val (.int (Int32.ofNat m2)), .val (.int (Int32.ofNat m3)), .val (.int (Int32.ofNat m4)), .val (.int q7), .val (.int (rq &&& (3 : Int32))), .unset, .unset, .unset, .unset, .unset, .unset]) rfl ?_
    show Steps p.tables e below (T8.setTop (mkF m 43 #[.val (.int ra), .val (.int rb), .val (.int rc), .val (.int rp), .val (.int rq), .val (.int (Int32.ofNat m1)), .val (.int (Int32.ofNat m2)), .val (.int (Int32.ofNat m3)), .val (.int (Int32.ofNat m4)), .val (.int q7), .val (.int (rq &&& (3 : Int32))), .unset, .unset, .unset, .unset, .unset, .unset] [])) _
    refine st12 _ ?_
    show Steps p.tables e below (T12.setTop (mkF m 46 #[.val (.int ra), .val (.int rb), .val (.int rc), .val (.int rp), .val (.int rq), .val (.int (Int32.ofNat m1)), .val (.int (Int32.ofNat m2)), .val (.int (Int32.ofNat m3)), .val (.int (Int32.ofNat m4)), .val (.int q7), .val (.int (rq &&& (3 : Int32))), .unset, .unset, .unset, .unset, .unset, .unset] [(.ref b12)])) _
    refine XS.dup X12.here hx rfl (Jvm.hb hby at_46) rfl rfl ?_
    show Steps p.tables e below (T12.setTop (mkF m 47 #[.val (.int ra), .val (.int rb), .val (.int rc), .val (.int rp), .val (.int rq), .val (.int (Int32.ofNat m1)), .val (.int (Int32.ofNat m2)), .val (.int (Int32.ofNat m3)), .val (.int (Int32.ofNat m4)), .val (.int q7), .val (.int (rq &&& (3 : Int32))), .unset, .unset, .unset, .unset, .unset, .unset] [(.ref b12), (.ref b12)])) _
    exact castTop (by simp only [hq17]) k_)
  have O19 : Old Z n0 h12 := (OX.ext E12)
  have Zc20 : n0 ≤ h12.size := by omega
  obtain ⟨_, _, ⟨T21, L21, k21, n21⟩, -, X21, ⟨Lc21, hQ21, l21, y21, z21⟩, st21⟩ := X12.specialBack hx (y := (⟨"com/example/bezugswerk/bezugswerk/DecodedParts", "<init>", "()V"⟩ : MethodName)) rfl hown (mvT hZ (hw _ (List.mem_of_getElem? (i := 4) rfl))) (mvT hZ (hw _ (List.mem_of_getElem? (i := 5) rfl))) (mvT hZ (hw _ (List.mem_of_getElem? (i := 6) rfl))) (by decide) (backOf (W := 1) (rmDPi l Z a0 hw [] b12 cst h12 n0 Zc20 I1 O19 (hcst : ¬ (cst = (0 : Int32))) A12 F14 F15 F16 (by first | assumption | rfl | decide | omega : n0 ≤ b12)) hZ (hw _ (List.mem_of_getElem? (i := 6) rfl)) (hw _ (List.mem_of_getElem? (i := 3) rfl)) (by decide) (by decide)) (g := (mkF m 47 #[.val (.int ra), .val (.int rb), .val (.int rc), .val (.int rp), .val (.int rq), .val (.int (Int32.ofNat m1)), .val (.int (Int32.ofNat m2)), .val (.int (Int32.ofNat m3)), .val (.int (Int32.ofNat m4)), .val (.int q7), .val (.int (Int32.ofNat m17)), .unset, .unset, .unset, .unset, .unset, .unset] [(.ref b12), (.ref b12)])) rfl (by rw [hml]; rfl) (Steps.refl _) (a := b12) (argsL := []) (rest := [(.ref b12)]) (lenOf pd___V rfl) rfl (by show 2 * 0 + _ ≤ _; exact Nat.le_of_eq rfl) (Jvm.hb hby at_47) (fun _ _ => ⟨rfl, e12, (by decide : 1 + 3 ≤ _), (by decide : 3 + 36 ≤ _)⟩)
  dsimp only [Pt.U, Pt.locs, Pt.cells, Pt.slots] at X21 l21 y21 z21 st21 hQ21
  subst l21 y21 z21
  obtain ⟨b_21, va_21, kc_21, ea_21, ke_21, rfl, N21q, K21, Fq21_0, Fq21_1, Fq21_2, Fq21_3, Fq21_4, Fq21_5, Fq21_6, Fq21_7, Fq21_8, Fq21_9, Fq21_10, P21_0, P21_1, P21_2⟩ := hQ21
  have N21 := Fr.app N0 N21q
  obtain ⟨h21, e21⟩ : ∃ z, T21.heap = z := ⟨_, rfl⟩
  rw [e21] at K21 Fq21_0 Fq21_1 Fq21_2 Fq21_3 Fq21_4 Fq21_5 Fq21_6 Fq21_7 Fq21_8 Fq21_9 Fq21_10
  have z22 : h12.size ≤ h21.size := K21.1
  have lt21_0 : @LT.lt Nat _ b12 h21.size := Fq21_0.lt
  have lt21_4 : @LT.lt Nat _ b_21 h21.size := Fq21_4.lt
  have lt21_9 : @LT.lt Nat _ va_21 h21.size := Fq21_9.lt
  have lt21_10 : @LT.lt Nat _ ea_21 h21.size := Fq21_10.lt
  have s23 : ∀ t_, Steps p.tables e below (T21.setTop (mkF m 54 #[.val (.int ra), .val (.int rb), .val (.int rc), .val (.int rp), .val (.int rq), .val (.int (Int32.ofNat m1)), .val (.int (Int32.ofNat m2)), .val (.int (Int32.ofNat m3)), .val (.int (Int32.ofNat m4)), .val (.int q7), .val (.int (Int32.ofNat m17)), .val (.ref b12), .unset, .unset, .unset, .unset, .unset] [(.ref b12)])) t_ → Steps p.tables e below (s₁.setTop (entryFrame m #[(.int ra), (.int rb), (.int rc), (.int rp), (.int rq)] maxLocals)) t_ := fun t_ k_ => s18 t_ (by
    show Steps p.tables e below (T12.setTop (mkF m 47 #[.val (.int ra), .val (.int rb), .val (.int rc), .val (.int rp), .val (.int rq), .val (.int (Int32.ofNat m1)), .val (.int (Int32.ofNat m2)), .val (.int (Int32.ofNat m3)), .val (.int (Int32.ofNat m4)), .val (.int q7), .val (.int (Int32.ofNat m17)), .unset, .unset, .unset, .unset, .unset, .unset] [(.ref b12), (.ref b12)])) t_
    refine st21.trans ?_
    show Steps p.tables e below (T21.setTop (mkF m 50 #[.val (.int ra), .val (.int rb), .val (.int rc), .val (.int rp), .val (.int rq), .val (.int (Int32.ofNat m1)), .val (.int (Int32.ofNat m2)), .val (.int (Int32.ofNat m3)), .val (.int (Int32.ofNat m4)), .val (.int q7), .val (.int (Int32.ofNat m17)), .unset, .unset, .unset, .unset, .unset, .unset] [(.ref b12)])) _
    refine XS.astore X21.here hx rfl (Jvm.hb hby at_50) rfl rfl (l' := #[.val (.int ra), .val (.int rb), .val (.int rc), .val (.int rp), .val (.int rq), .val (.int (Int32.ofNat m1)), .val (.int (Int32.ofNat m2)), .val (.int (Int32.ofNat m3)), .val (.int (Int32.ofNat m4)), .val (.int q7), .val (.int (Int32.ofNat m17)), .val (.ref b12), .unset, .unset, .unset, .unset, .unset]) rfl ?_
    show Steps p.tables e below (T21.setTop (mkF m 52 #[.val (.int ra), .val (.int rb), .val (.int rc), .val (.int rp), .val (.int rq), .val (.int (Int32.ofNat m1)), .val (.int (Int32.ofNat m2)), .val (.int (Int32.ofNat m3)), .val (.int (Int32.ofNat m4)), .val (.int q7), .val (.int (Int32.ofNat m17)), .val (.ref b12), .unset, .unset, .unset, .unset, .unset] [])) _
    refine XS.aload X21.here hx rfl (Jvm.hb hby at_52) rfl rfl ?_
    show Steps p.tables e below (T21.setTop (mkF m 54 #[.val (.int ra), .val (.int rb), .val (.int rc), .val (.int rp), .val (.int rq), .val (.int (Int32.ofNat m1)), .val (.int (Int32.ofNat m2)), .val (.int (Int32.ofNat m3)), .val (.int (Int32.ofNat m4)), .val (.int q7), .val (.int (Int32.ofNat m17)), .val (.ref b12), .unset, .unset, .unset, .unset, .unset] [(.ref b12)])) _
    show Steps p.tables e below (T21.setTop (mkF m 54 #[.val (.int ra), .val (.int rb), .val (.int rc), .val (.int rp), .val (.int rq), .val (.int (Int32.ofNat m1)), .val (.int (Int32.ofNat m2)), .val (.int (Int32.ofNat m3)), .val (.int (Int32.ofNat m4)), .val (.int q7), .val (.int (Int32.ofNat m17)), .val (.ref b12), .unset, .unset, .unset, .unset, .unset] [(.ref b12)])) t_
    exact k_)
  have Zc24 : n0 ≤ h21.size := by omega
  obtain ⟨cq25, kq25, q25a, q25b, q25c⟩ := isOf hZ e21 Fq21_0
  obtain ⟨_, _, ⟨T25, L25, k25, n25⟩, -, X25, ⟨Lc25, hQ25, l25, y25, z25⟩, st25⟩ := X21.virtualBack hx (y := (⟨"com/example/bezugswerk/bezugswerk/DecodedParts", "decoded", "()Ljava/lang/StringBuilder;"⟩ : MethodName)) (z := (⟨"com/example/bezugswerk/bezugswerk/DecodedParts", "decoded", "()Ljava/lang/StringBuilder;"⟩ : MethodName)) hown (mvT hZ (hw _ (List.mem_of_getElem? (i := 35) rfl))) (mvT hZ (hw _ (List.mem_of_getElem? (i := 36) rfl))) (notFace_of_selects (args := #[]) (mvT hZ (hw _ (List.mem_of_getElem? (i := 38) rfl)))) (mvT hZ (hw _ (List.mem_of_getElem? (i := 38) rfl))) (mvT hZ (hw _ (List.mem_of_getElem? (i := 37) rfl))) (by decide) (backOf (W := 0) (rmDec l Z a0 hw [] b12 b_21 h21 n0 Zc24 Fq21_1) hZ (hw _ (List.mem_of_getElem? (i := 39) rfl)) (hw _ (List.mem_of_getElem? (i := 3) rfl)) (by decide) (by decide)) q25a q25c (g := (mkF m 54 #[.val (.int ra), .val (.int rb), .val (.int rc), .val (.int rp), .val (.int rq), .val (.int (Int32.ofNat m1)), .val (.int (Int32.ofNat m2)), .val (.int (Int32.ofNat m3)), .val (.int (Int32.ofNat m4)), .val (.int q7), .val (.int (Int32.ofNat m17)), .val (.ref b12), .unset, .unset, .unset, .unset, .unset] [(.ref b12)])) rfl (by rw [hml]; rfl) (Steps.refl _) (argsL := []) (rest := []) (lenOf pd___Ljava_lang_StringBuilder_ rfl) rfl (by show 2 * 0 + _ ≤ _; exact Nat.le_of_eq rfl) (Jvm.hb hby at_54) (fun _ _ => ⟨rfl, e21, (by decide : 4 + 0 ≤ _), (by decide : 39 + 0 ≤ _)⟩)
  dsimp only [Pt.U, Pt.locs, Pt.cells, Pt.slots] at X25 l25 y25 z25 st25 hQ25
  subst l25 y25 z25
  obtain ⟨rfl, N25q, e25⟩ := hQ25
  have N25 := Fr.app N21 N25q
  have s26 : ∀ t_, Steps p.tables e below (T25.setTop (mkF m 61 #[.val (.int ra), .val (.int rb), .val (.int rc), .val (.int rp), .val (.int rq), .val (.int (Int32.ofNat m1)), .val (.int (Int32.ofNat m2)), .val (.int (Int32.ofNat m3)), .val (.int (Int32.ofNat m4)), .val (.int q7), .val (.int (Int32.ofNat m17)), .val (.ref b12), .val (.ref b_21), .unset, .unset, .unset, .unset] [(.int q7)])) t_ → Steps p.tables e below (s₁.setTop (entryFrame m #[(.int ra), (.int rb), (.int rc), (.int rp), (.int rq)] maxLocals)) t_ := fun t_ k_ => s23 t_ (by
    show Steps p.tables e below (T21.setTop (mkF m 54 #[.val (.int ra), .val (.int rb), .val (.int rc), .val (.int rp), .val (.int rq), .val (.int (Int32.ofNat m1)), .val (.int (Int32.ofNat m2)), .val (.int (Int32.ofNat m3)), .val (.int (Int32.ofNat m4)), .val (.int q7), .val (.int (Int32.ofNat m17)), .val (.ref b12), .unset, .unset, .unset, .unset, .unset] [(.ref b12)])) t_
    refine st25.trans ?_
    show Steps p.tables e below (T25.setTop (mkF m 57 #[.val (.int ra), .val (.int rb), .val (.int rc), .val (.int rp), .val (.int rq), .val (.int (Int32.ofNat m1)), .val (.int (Int32.ofNat m2)), .val (.int (Int32.ofNat m3)), .val (.int (Int32.ofNat m4)), .val (.int q7), .val (.int (Int32.ofNat m17)), .val (.ref b12), .unset, .unset, .unset, .unset, .unset] [(.ref b_21)])) _
    refine XS.astore X25.here hx rfl (Jvm.hb hby at_57) rfl rfl (l' := #[.val (.int ra), .val (.int rb), .val (.int rc), .val (.int rp), .val (.int rq), .val (.int (Int32.ofNat m1)), .val (.int (Int32.ofNat m2)), .val (.int (Int32.ofNat m3)), .val (.int (Int32.ofNat m4)), .val (.int q7), .val (.int (Int32.ofNat m17)), .val (.ref b12), .val (.ref b_21), .unset, .unset, .unset, .unset]) rfl ?_
    show Steps p.tables e below (T25.setTop (mkF m 59 #[.val (.int ra), .val (.int rb), .val (.int rc), .val (.int rp), .val (.int rq), .val (.int (Int32.ofNat m1)), .val (.int (Int32.ofNat m2)), .val (.int (Int32.ofNat m3)), .val (.int (Int32.ofNat m4)), .val (.int q7), .val (.int (Int32.ofNat m17)), .val (.ref b12), .val (.ref b_21), .unset, .unset, .unset, .unset] [])) _
    refine XS.iload X25.here hx rfl (Jvm.hb hby at_59) rfl ?_
    show Steps p.tables e below (T25.setTop (mkF m 61 #[.val (.int ra), .val (.int rb), .val (.int rc), .val (.int rp), .val (.int rq), .val (.int (Int32.ofNat m1)), .val (.int (Int32.ofNat m2)), .val (.int (Int32.ofNat m3)), .val (.int (Int32.ofNat m4)), .val (.int q7), .val (.int (Int32.ofNat m17)), .val (.ref b12), .val (.ref b_21), .unset, .unset, .unset, .unset] [(.int q7)])) _
    show Steps p.tables e below (T25.setTop (mkF m 61 #[.val (.int ra), .val (.int rb), .val (.int rc), .val (.int rp), .val (.int rq), .val (.int (Int32.ofNat m1)), .val (.int (Int32.ofNat m2)), .val (.int (Int32.ofNat m3)), .val (.int (Int32.ofNat m4)), .val (.int q7), .val (.int (Int32.ofNat m17)), .val (.ref b12), .val (.ref b_21), .unset, .unset, .unset, .unset] [(.int q7)])) t_
    exact k_)
  by_cases h27 : q7 = (0 : Int32)
  · have s28 : ∀ t_, Steps p.tables e below (T25.setTop (mkF m 85 #[.val (.int ra), .val (.int rb), .val (.int rc), .val (.int rp), .val (.int rq), .val (.int (Int32.ofNat m1)), .val (.int (Int32.ofNat m2)), .val (.int (Int32.ofNat m3)), .val (.int (Int32.ofNat m4)), .val (.int q7), .val (.int (Int32.ofNat m17)), .val (.ref b12), .val (.ref b_21), .unset, .unset, .unset, .unset] [(.int (Int32.ofNat m1)), (.ref b_21)])) t_ → Steps p.tables e below (s₁.setTop (entryFrame m #[(.int ra), (.int rb), (.int rc), (.int rp), (.int rq)] maxLocals)) t_ := fun t_ k_ => s26 t_ (by
      show Steps p.tables e below (T25.setTop (mkF m 61 #[.val (.int ra), .val (.int rb), .val (.int rc), .val (.int rp), .val (.int rq), .val (.int (Int32.ofNat m1)), .val (.int (Int32.ofNat m2)), .val (.int (Int32.ofNat m3)), .val (.int (Int32.ofNat m4)), .val (.int q7), .val (.int (Int32.ofNat m17)), .val (.ref b12), .val (.ref b_21), .unset, .unset, .unset, .unset] [(.int q7)])) t_
      refine XS.ifYes X25.here hx rfl (pc0 := 61) (pc' := 81) rfl (Jvm.hb hby at_61) rfl ((if0 _ _).trans (teq h27).1) (by decide) (by decide) ?_
      show Steps p.tables e below (T25.setTop (mkF m 81 #[.val (.int ra), .val (.int rb), .val (.int rc), .val (.int rp), .val (.int rq), .val (.int (Int32.ofNat m1)), .val (.int (Int32.ofNat m2)), .val (.int (Int32.ofNat m3)), .val (.int (Int32.ofNat m4)), .val (.int q7), .val (.int (Int32.ofNat m17)), .val (.ref b12), .val (.ref b_21), .unset, .unset, .unset, .unset] [])) _
      refine XS.aload X25.here hx rfl (Jvm.hb hby at_81) rfl rfl ?_
      show Steps p.tables e below (T25.setTop (mkF m 83 #[.val (.int ra), .val (.int rb), .val (.int rc), .val (.int rp), .val (.int rq), .val (.int (Int32.ofNat m1)), .val (.int (Int32.ofNat m2)), .val (.int (Int32.ofNat m3)), .val (.int (Int32.ofNat m4)), .val (.int q7), .val (.int (Int32.ofNat m17)), .val (.ref b12), .val (.ref b_21), .unset, .unset, .unset, .unset] [(.ref b_21)])) _
      refine XS.iload X25.here hx rfl (Jvm.hb hby at_83) rfl ?_
      show Steps p.tables e below (T25.setTop (mkF m 85 #[.val (.int ra), .val (.int rb), .val (.int rc), .val (.int rp), .val (.int rq), .val (.int (Int32.ofNat m1)), .val (.int (Int32.ofNat m2)), .val (.int (Int32.ofNat m3)), .val (.int (Int32.ofNat m4)), .val (.int q7), .val (.int (Int32.ofNat m17)), .val (.ref b12), .val (.ref b_21), .unset, .unset, .unset, .unset] [(.int (Int32.ofNat m1)), (.ref b_21)])) _
      show Steps p.tables e below (T25.setTop (mkF m 85 #[.val (.int ra), .val (.int rb), .val (.int rc), .val (.int rp), .val (.int rq), .val (.int (Int32.ofNat m1)), .val (.int (Int32.ofNat m2)), .val (.int (Int32.ofNat m3)), .val (.int (Int32.ofNat m4)), .val (.int q7), .val (.int (Int32.ofNat m17)), .val (.ref b12), .val (.ref b_21), .unset, .unset, .unset, .unset] [(.int (Int32.ofNat m1)), (.ref b_21)])) t_
      exact k_)
    have O29 : Old Z n0 h21 := (O19.keep K21 (allS (show n0 ≤ b12 by omega) all0))
    have Zc30 : n0 ≤ h21.size := by omega
    obtain ⟨_, _, ⟨T31, L31, k31, n31⟩, -, X31, ⟨Lc31, hQ31, l31, y31, z31⟩, st31⟩ := Jvm.LawKit.callS X25 hx (y := (⟨"com/example/bezugswerk/bezugswerk/DecodedPartsStartPinLaw", "fill", "(Ljava/lang/StringBuilder;I)V"⟩ : MethodName)) hown (mvT hZ (hw _ (List.mem_of_getElem? (i := 40) rfl))) (mvT hZ (hw _ (List.mem_of_getElem? (i := 41) rfl))) (mvT hZ (hw _ (List.mem_of_getElem? (i := 42) rfl))) (mvT hZ (hw _ (List.mem_of_getElem? (i := 43) rfl))) (by decide) (backOf (W := 0) (rmFill l Z a0 hw [] b_21 cst va_21 kc_21 [(.int (0 : Int32)), (.int (0 : Int32)), (.int (0 : Int32)), (.int (0 : Int32)), (.int (0 : Int32)), (.int (0 : Int32)), (.int (0 : Int32)), (.int (0 : Int32)), (.int (0 : Int32)), (.int (0 : Int32)), (.int (0 : Int32)), (.int (0 : Int32)), (.int (0 : Int32)), (.int (0 : Int32)), (.int (0 : Int32)), (.int (0 : Int32))] 0 (0 : Int32) m1 h21 n0 Zc30 I1 O29 (hcst : ¬ (cst = (0 : Int32))) Fq21_4 Fq21_5 Fq21_6 Fq21_7 Fq21_8 Fq21_9 (by first | assumption | rfl | decide | omega : [(.int (0 : Int32)), (.int (0 : Int32)), (.int (0 : Int32)), (.int (0 : Int32)), (.int (0 : Int32)), (.int (0 : Int32)), (.int (0 : Int32)), (.int (0 : Int32)), (.int (0 : Int32)), (.int (0 : Int32)), (.int (0 : Int32)), (.int (0 : Int32)), (.int (0 : Int32)), (.int (0 : Int32)), (.int (0 : Int32)), (.int (0 : Int32))].length = 16) (by first | assumption | rfl | decide | omega : m1 < 4) (by first | assumption | rfl | decide | omega : 0 + 3 < 16) (by first | assumption | rfl | decide | omega : n0 ≤ b_21) (by first | assumption | rfl | decide | omega : n0 ≤ va_21) (by first | assumption | rfl | decide | omega : @Ne Nat b_21 va_21)) hZ (hw _ (List.mem_of_getElem? (i := 43) rfl)) (hw _ (List.mem_of_getElem? (i := 42) rfl)) (by decide) (by decide)) (g := (mkF m 85 #[.val (.int ra), .val (.int rb), .val (.int rc), .val (.int rp), .val (.int rq), .val (.int (Int32.ofNat m1)), .val (.int (Int32.ofNat m2)), .val (.int (Int32.ofNat m3)), .val (.int (Int32.ofNat m4)), .val (.int q7), .val (.int (Int32.ofNat m17)), .val (.ref b12), .val (.ref b_21), .unset, .unset, .unset, .unset] [(.int (Int32.ofNat m1)), (.ref b_21)])) rfl (by rw [hml]; rfl) (argsL := [(.ref b_21), (.int (Int32.ofNat m1))]) (rest := []) (lenOf pd__Ljava_lang_StringBuilder_I_V rfl) rfl (by show 2 * 0 + _ ≤ _; exact Nat.le_of_eq rfl) (Jvm.hb hby at_85) (fun _ _ => ⟨rfl, e25, (by decide : 4 + 0 ≤ _), (by decide : 39 + 0 ≤ _)⟩)
    dsimp only [Pt.U, Pt.locs, Pt.cells, Pt.slots] at X31 l31 y31 z31 st31 hQ31
    subst l31 y31 z31
    obtain ⟨vt_31, rfl, N31q, K31, Fq31_0, Fq31_1, Fq31_2, Fq31_3, Fq31_4, Fq31_5, P31_0⟩ := hQ31
    have N31 := Fr.app N25 N31q
    obtain ⟨h31, e31⟩ : ∃ z, T31.heap = z := ⟨_, rfl⟩
    rw [e31] at K31 Fq31_0 Fq31_1 Fq31_2 Fq31_3 Fq31_4 Fq31_5
    have z32 : h21.size ≤ h31.size := K31.1
    have lt31_0 : @LT.lt Nat _ b_21 h31.size := Fq31_0.lt
    have lt31_5 : @LT.lt Nat _ va_21 h31.size := Fq31_5.lt
    have s33 : ∀ t_, Steps p.tables e below (T31.setTop (mkF m 90 #[.val (.int ra), .val (.int rb), .val (.int rc), .val (.int rp), .val (.int rq), .val (.int (Int32.ofNat m1)), .val (.int (Int32.ofNat m2)), .val (.int (Int32.ofNat m3)), .val (.int (Int32.ofNat m4)), .val (.int q7), .val (.int (Int32.ofNat m17)), .val (.ref b12), .val (.ref b_21), .unset, .unset, .unset, .unset] [(.ref b12)])) t_ → Steps p.tables e below (s₁.setTop (entryFrame m #[(.int ra), (.int rb), (.int rc), (.int rp), (.int rq)] maxLocals)) t_ := fun t_ k_ => s28 t_ (by
      show Steps p.tables e below (T25.setTop (mkF m 85 #[.val (.int ra), .val (.int rb), .val (.int rc), .val (.int rp), .val (.int rq), .val (.int (Int32.ofNat m1)), .val (.int (Int32.ofNat m2)), .val (.int (Int32.ofNat m3)), .val (.int (Int32.ofNat m4)), .val (.int q7), .val (.int (Int32.ofNat m17)), .val (.ref b12), .val (.ref b_21), .unset, .unset, .unset, .unset] [(.int (Int32.ofNat m1)), (.ref b_21)])) t_
      refine st31 _ ?_
      show Steps p.tables e below (T31.setTop (mkF m 88 #[.val (.int ra), .val (.int rb), .val (.int rc), .val (.int rp), .val (.int rq), .val (.int (Int32.ofNat m1)), .val (.int (Int32.ofNat m2)), .val (.int (Int32.ofNat m3)), .val (.int (Int32.ofNat m4)), .val (.int q7), .val (.int (Int32.ofNat m17)), .val (.ref b12), .val (.ref b_21), .unset, .unset, .unset, .unset] [])) _
      refine XS.aload X31.here hx rfl (Jvm.hb hby at_88) rfl rfl ?_
      show Steps p.tables e below (T31.setTop (mkF m 90 #[.val (.int ra), .val (.int rb), .val (.int rc), .val (.int rp), .val (.int rq), .val (.int (Int32.ofNat m1)), .val (.int (Int32.ofNat m2)), .val (.int (Int32.ofNat m3)), .val (.int (Int32.ofNat m4)), .val (.int q7), .val (.int (Int32.ofNat m17)), .val (.ref b12), .val (.ref b_21), .unset, .unset, .unset, .unset] [(.ref b12)])) _
      show Steps p.tables e below (T31.setTop (mkF m 90 #[.val (.int ra), .val (.int rb), .val (.int rc), .val (.int rp), .val (.int rq), .val (.int (Int32.ofNat m1)), .val (.int (Int32.ofNat m2)), .val (.int (Int32.ofNat m3)), .val (.int (Int32.ofNat m4)), .val (.int q7), .val (.int (Int32.ofNat m17)), .val (.ref b12), .val (.ref b_21), .unset, .unset, .unset, .unset] [(.ref b12)])) t_
      exact k_)
    have f34 : Exa Z h31 b12 "com/example/bezugswerk/bezugswerk/DecodedParts" := (Fq21_0.keep K31)
    have f35 : Fld Z h31 b12 "com/example/bezugswerk/bezugswerk/DecodedParts" "text" "Ljava/lang/StringBuilder;" (.ref b_21) := (Fq21_1.keep K31 (ninS (show @Ne Nat b12 b_21 by omega) (ninS (show @Ne Nat b12 va_21 by omega) nin0)))
    have f36 : Fld Z h31 b12 "com/example/bezugswerk/bezugswerk/DecodedParts" "ends" "[I" (.ref ea_21) := (Fq21_2.keep K31 (ninS (show @Ne Nat b12 b_21 by omega) (ninS (show @Ne Nat b12 va_21 by omega) nin0)))
    have f37 : Fld Z h31 b12 "com/example/bezugswerk/bezugswerk/DecodedParts" "size" "I" (.int (0 : Int32)) := (Fq21_3.keep K31 (ninS (show @Ne Nat b12 b_21 by omega) (ninS (show @Ne Nat b12 va_21 by omega) nin0)))
    have f38 : Arv Z h31 ea_21 ke_21 .int (16 : Int32) [(.int (0 : Int32)), (.int (0 : Int32)), (.int (0 : Int32)), (.int (0 : Int32)), (.int (0 : Int32)), (.int (0 : Int32)), (.int (0 : Int32)), (.int (0 : Int32)), (.int (0 : Int32)), (.int (0 : Int32)), (.int (0 : Int32)), (.int (0 : Int32)), (.int (0 : Int32)), (.int (0 : Int32)), (.int (0 : Int32)), (.int (0 : Int32))] (.int (0 : Int32)) := (Fq21_10.keep K31 (ninS (show @Ne Nat ea_21 b_21 by omega) (ninS (show @Ne Nat ea_21 va_21 by omega) nin0)))
    have Zc39 : n0 ≤ h31.size := by omega
    obtain ⟨cq40, kq40, q40a, q40b, q40c⟩ := isOf hZ e31 f34
    obtain ⟨_, _, ⟨T40, L40, k40, n40⟩, -, X40, ⟨Lc40, hQ40, l40, y40, z40⟩, st40⟩ := X31.virtualBack hx (y := (⟨"com/example/bezugswerk/bezugswerk/DecodedParts", "endPart", "()V"⟩ : MethodName)) (z := (⟨"com/example/bezugswerk/bezugswerk/DecodedParts", "endPart", "()V"⟩ : MethodName)) hown (mvT hZ (hw _ (List.mem_of_getElem? (i := 44) rfl))) (mvT hZ (hw _ (List.mem_of_getElem? (i := 45) rfl))) (notFace_of_selects (args := #[]) (mvT hZ (hw _ (List.mem_of_getElem? (i := 47) rfl)))) (mvT hZ (hw _ (List.mem_of_getElem? (i := 47) rfl))) (mvT hZ (hw _ (List.mem_of_getElem? (i := 46) rfl))) (by decide) (backOf (W := 0) (rmEnd l Z a0 hw [] b12 b_21 ea_21 ke_21 [(.int (0 : Int32)), (.int (0 : Int32)), (.int (0 : Int32)), (.int (0 : Int32)), (.int (0 : Int32)), (.int (0 : Int32)), (.int (0 : Int32)), (.int (0 : Int32)), (.int (0 : Int32)), (.int (0 : Int32)), (.int (0 : Int32)), (.int (0 : Int32)), (.int (0 : Int32)), (.int (0 : Int32)), (.int (0 : Int32)), (.int (0 : Int32))] 0 (Int32.ofNat (0 + m1)) h31 n0 Zc39 f34 f35 f36 f37 Fq31_0 Fq31_3 f38 (by first | assumption | rfl | decide | omega : [(.int (0 : Int32)), (.int (0 : Int32)), (.int (0 : Int32)), (.int (0 : Int32)), (.int (0 : Int32)), (.int (0 : Int32)), (.int (0 : Int32)), (.int (0 : Int32)), (.int (0 : Int32)), (.int (0 : Int32)), (.int (0 : Int32)), (.int (0 : Int32)), (.int (0 : Int32)), (.int (0 : Int32)), (.int (0 : Int32)), (.int (0 : Int32))].length = 16) (by first | assumption | rfl | decide | omega : 0 < 16) (by first | assumption | rfl | decide | omega : n0 ≤ b12) (by first | assumption | rfl | decide | omega : n0 ≤ ea_21) (by first | assumption | rfl | decide | omega : @Ne Nat b12 ea_21)) hZ (hw _ (List.mem_of_getElem? (i := 48) rfl)) (hw _ (List.mem_of_getElem? (i := 3) rfl)) (by decide) (by decide)) q40a q40c (g := (mkF m 90 #[.val (.int ra), .val (.int rb), .val (.int rc), .val (.int rp), .val (.int rq), .val (.int (Int32.ofNat m1)), .val (.int (Int32.ofNat m2)), .val (.int (Int32.ofNat m3)), .val (.int (Int32.ofNat m4)), .val (.int q7), .val (.int (Int32.ofNat m17)), .val (.ref b12), .val (.ref b_21), .unset, .unset, .unset, .unset] [(.ref b12)])) rfl (by rw [hml]; rfl) (Steps.refl _) (argsL := []) (rest := []) (lenOf pd___V rfl) rfl (by show 2 * 0 + _ ≤ _; exact Nat.le_of_eq rfl) (Jvm.hb hby at_90) (fun _ _ => ⟨rfl, e31, (by decide : 4 + 0 ≤ _), (by decide : 39 + 0 ≤ _)⟩)
    dsimp only [Pt.U, Pt.locs, Pt.cells, Pt.slots] at X40 l40 y40 z40 st40 hQ40
    subst l40 y40 z40
    obtain ⟨rfl, N40q, K40, Fq40_0, Fq40_1, Fq40_2, Fq40_3, Fq40_4⟩ := hQ40
    have N40 := Fr.app N31 N40q
    obtain ⟨h40, e40⟩ : ∃ z, T40.heap = z := ⟨_, rfl⟩
    rw [e40] at K40 Fq40_0 Fq40_1 Fq40_2 Fq40_3 Fq40_4
    have z41 : h31.size ≤ h40.size := K40.1
    have lt40_0 : @LT.lt Nat _ b12 h40.size := Fq40_0.lt
    have lt40_4 : @LT.lt Nat _ ea_21 h40.size := Fq40_4.lt
    have V42 : Arv Z h40 ea_21 ke_21 .int (16 : Int32) [(.int (Int32.ofNat (0 + m1))), (.int (0 : Int32)), (.int (0 : Int32)), (.int (0 : Int32)), (.int (0 : Int32)), (.int (0 : Int32)), (.int (0 : Int32)), (.int (0 : Int32)), (.int (0 : Int32)), (.int (0 : Int32)), (.int (0 : Int32)), (.int (0 : Int32)), (.int (0 : Int32)), (.int (0 : Int32)), (.int (0 : Int32)), (.int (0 : Int32))] (.int (0 : Int32)) := Fq40_4
    have s43 : ∀ t_, Steps p.tables e below (T40.setTop (mkF m 97 #[.val (.int ra), .val (.int rb), .val (.int rc), .val (.int rp), .val (.int rq), .val (.int (Int32.ofNat m1)), .val (.int (Int32.ofNat m2)), .val (.int (Int32.ofNat m3)), .val (.int (Int32.ofNat m4)), .val (.int q7), .val (.int (Int32.ofNat m17)), .val (.ref b12), .val (.ref b_21), .unset, .unset, .unset, .unset] [(.int (Int32.ofNat m2)), (.ref b_21)])) t_ → Steps p.tables e below (s₁.setTop (entryFrame m #[(.int ra), (.int rb), (.int rc), (.int rp), (.int rq)] maxLocals)) t_ := fun t_ k_ => s33 t_ (by
      show Steps p.tables e below (T31.setTop (mkF m 90 #[.val (.int ra), .val (.int rb), .val (.int rc), .val (.int rp), .val (.int rq), .val (.int (Int32.ofNat m1)), .val (.int (Int32.ofNat m2)), .val (.int (Int32.ofNat m3)), .val (.int (Int32.ofNat m4)), .val (.int q7), .val (.int (Int32.ofNat m17)), .val (.ref b12), .val (.ref b_21), .unset, .unset, .unset, .unset] [(.ref b12)])) t_
      refine st40.trans ?_
      show Steps p.tables e below (T40.setTop (mkF m 93 #[.val (.int ra), .val (.int rb), .val (.int rc), .val (.int rp), .val (.int rq), .val (.int (Int32.ofNat m1)), .val (.int (Int32.ofNat m2)), .val (.int (Int32.ofNat m3)), .val (.int (Int32.ofNat m4)), .val (.int q7), .val (.int (Int32.ofNat m17)), .val (.ref b12), .val (.ref b_21), .unset, .unset, .unset, .unset] [])) _
      refine XS.aload X40.here hx rfl (Jvm.hb hby at_93) rfl rfl ?_
      show Steps p.tables e below (T40.setTop (mkF m 95 #[.val (.int ra), .val (.int rb), .val (.int rc), .val (.int rp), .val (.int rq), .val (.int (Int32.ofNat m1)), .val (.int (Int32.ofNat m2)), .val (.int (Int32.ofNat m3)), .val (.int (Int32.ofNat m4)), .val (.int q7), .val (.int (Int32.ofNat m17)), .val (.ref b12), .val (.ref b_21), .unset, .unset, .unset, .unset] [(.ref b_21)])) _
      refine XS.iload X40.here hx rfl (Jvm.hb hby at_95) rfl ?_
      show Steps p.tables e below (T40.setTop (mkF m 97 #[.val (.int ra), .val (.int rb), .val (.int rc), .val (.int rp), .val (.int rq), .val (.int (Int32.ofNat m1)), .val (.int (Int32.ofNat m2)), .val (.int (Int32.ofNat m3)), .val (.int (Int32.ofNat m4)), .val (.int q7), .val (.int (Int32.ofNat m17)), .val (.ref b12), .val (.ref b_21), .unset, .unset, .unset, .unset] [(.int (Int32.ofNat m2)), (.ref b_21)])) _
      show Steps p.tables e below (T40.setTop (mkF m 97 #[.val (.int ra), .val (.int rb), .val (.int rc), .val (.int rp), .val (.int rq), .val (.int (Int32.ofNat m1)), .val (.int (Int32.ofNat m2)), .val (.int (Int32.ofNat m3)), .val (.int (Int32.ofNat m4)), .val (.int q7), .val (.int (Int32.ofNat m17)), .val (.ref b12), .val (.ref b_21), .unset, .unset, .unset, .unset] [(.int (Int32.ofNat m2)), (.ref b_21)])) t_
      exact k_)
    have O44 : Old Z n0 h40 := ((O29.keep K31 (allS (show n0 ≤ b_21 by omega) (allS (show n0 ≤ va_21 by omega) all0))).keep K40 (allS (show n0 ≤ b12 by omega) (allS (show n0 ≤ ea_21 by omega) all0)))
    have f45 : Exa Z h40 b_21 "java/lang/StringBuilder" := (Fq31_0.keep K40)
    have f46 : Fld Z h40 b_21 "java/lang/AbstractStringBuilder" "value" "[B" (.ref va_21) := (Fq31_1.keep K40 (ninS (show @Ne Nat b_21 b12 by omega) (ninS (show @Ne Nat b_21 ea_21 by omega) nin0)))
    have f47 : Fld Z h40 b_21 "java/lang/AbstractStringBuilder" "coder" "B" (.int (0 : Int32)) := (Fq31_2.keep K40 (ninS (show @Ne Nat b_21 b12 by omega) (ninS (show @Ne Nat b_21 ea_21 by omega) nin0)))
    have f48 : Fld Z h40 b_21 "java/lang/AbstractStringBuilder" "count" "I" (.int (Int32.ofNat (0 + m1))) := (Fq31_3.keep K40 (ninS (show @Ne Nat b_21 b12 by omega) (ninS (show @Ne Nat b_21 ea_21 by omega) nin0)))
    have f49 : Fld Z h40 b_21 "java/lang/AbstractStringBuilder" "maybeLatin1" "Z" (.int (0 : Int32)) := (Fq31_4.keep K40 (ninS (show @Ne Nat b_21 b12 by omega) (ninS (show @Ne Nat b_21 ea_21 by omega) nin0)))
    have f50 : Arv Z h40 va_21 kc_21 .byte (16 : Int32) vt_31 (.int (0 : Int32)) := (Fq31_5.keep K40 (ninS (show @Ne Nat va_21 b12 by omega) (ninS (show @Ne Nat va_21 ea_21 by omega) nin0)))
    have Zc51 : n0 ≤ h40.size := by omega
    obtain ⟨_, _, ⟨T52, L52, k52, n52⟩, -, X52, ⟨Lc52, hQ52, l52, y52, z52⟩, st52⟩ := Jvm.LawKit.callS X40 hx (y := (⟨"com/example/bezugswerk/bezugswerk/DecodedPartsStartPinLaw", "fill", "(Ljava/lang/StringBuilder;I)V"⟩ : MethodName)) hown (mvT hZ (hw _ (List.mem_of_getElem? (i := 40) rfl))) (mvT hZ (hw _ (List.mem_of_getElem? (i := 41) rfl))) (mvT hZ (hw _ (List.mem_of_getElem? (i := 42) rfl))) (mvT hZ (hw _ (List.mem_of_getElem? (i := 43) rfl))) (by decide) (backOf (W := 0) (rmFill l Z a0 hw [] b_21 cst va_21 kc_21 vt_31 (0 + m1) (0 : Int32) m2 h40 n0 Zc51 I1 O44 (hcst : ¬ (cst = (0 : Int32))) f45 f46 f47 f48 f49 f50 (P31_0 : vt_31.length = 16) (by first | assumption | rfl | decide | omega : m2 < 4) (by first | assumption | rfl | decide | omega : (0 + m1) + 3 < 16) (by first | assumption | rfl | decide | omega : n0 ≤ b_21) (by first | assumption | rfl | decide | omega : n0 ≤ va_21) (by first | assumption | rfl | decide | omega : @Ne Nat b_21 va_21)) hZ (hw _ (List.mem_of_getElem? (i := 43) rfl)) (hw _ (List.mem_of_getElem? (i := 42) rfl)) (by decide) (by decide)) (g := (mkF m 97 #[.val (.int ra), .val (.int rb), .val (.int rc), .val (.int rp), .val (.int rq), .val (.int (Int32.ofNat m1)), .val (.int (Int32.ofNat m2)), .val (.int (Int32.ofNat m3)), .val (.int (Int32.ofNat m4)), .val (.int q7), .val (.int (Int32.ofNat m17)), .val (.ref b12), .val (.ref b_21), .unset, .unset, .unset, .unset] [(.int (Int32.ofNat m2)), (.ref b_21)])) rfl (by rw [hml]; rfl) (argsL := [(.ref b_21), (.int (Int32.ofNat m2))]) (rest := []) (lenOf pd__Ljava_lang_StringBuilder_I_V rfl) rfl (by show 2 * 0 + _ ≤ _; exact Nat.le_of_eq rfl) (Jvm.hb hby at_97) (fun _ _ => ⟨rfl, e40, (by decide : 4 + 0 ≤ _), (by decide : 39 + 0 ≤ _)⟩)
    dsimp only [Pt.U, Pt.locs, Pt.cells, Pt.slots] at X52 l52 y52 z52 st52 hQ52
    subst l52 y52 z52
    obtain ⟨vt_52, rfl, N52q, K52, Fq52_0, Fq52_1, Fq52_2, Fq52_3, Fq52_4, Fq52_5, P52_0⟩ := hQ52
    have N52 := Fr.app N40 N52q
    obtain ⟨h52, e52⟩ : ∃ z, T52.heap = z := ⟨_, rfl⟩
    rw [e52] at K52 Fq52_0 Fq52_1 Fq52_2 Fq52_3 Fq52_4 Fq52_5
    have z53 : h40.size ≤ h52.size := K52.1
    have lt52_0 : @LT.lt Nat _ b_21 h52.size := Fq52_0.lt
    have lt52_5 : @LT.lt Nat _ va_21 h52.size := Fq52_5.lt
    have s54 : ∀ t_, Steps p.tables e below (T52.setTop (mkF m 102 #[.val (.int ra), .val (.int rb), .val (.int rc), .val (.int rp), .val (.int rq), .val (.int (Int32.ofNat m1)), .val (.int (Int32.ofNat m2)), .val (.int (Int32.ofNat m3)), .val (.int (Int32.ofNat m4)), .val (.int q7), .val (.int (Int32.ofNat m17)), .val (.ref b12), .val (.ref b_21), .unset, .unset, .unset, .unset] [(.ref b12)])) t_ → Steps p.tables e below (s₁.setTop (entryFrame m #[(.int ra), (.int rb), (.int rc), (.int rp), (.int rq)] maxLocals)) t_ := fun t_ k_ => s43 t_ (by
      show Steps p.tables e below (T40.setTop (mkF m 97 #[.val (.int ra), .val (.int rb), .val (.int rc), .val (.int rp), .val (.int rq), .val (.int (Int32.ofNat m1)), .val (.int (Int32.ofNat m2)), .val (.int (Int32.ofNat m3)), .val (.int (Int32.ofNat m4)), .val (.int q7), .val (.int (Int32.ofNat m17)), .val (.ref b12), .val (.ref b_21), .unset, .unset, .unset, .unset] [(.int (Int32.ofNat m2)), (.ref b_21)])) t_
      refine st52 _ ?_
      show Steps p.tables e below (T52.setTop (mkF m 100 #[.val (.int ra), .val (.int rb), .val (.int rc), .val (.int rp), .val (.int rq), .val (.int (Int32.ofNat m1)), .val (.int (Int32.ofNat m2)), .val (.int (Int32.ofNat m3)), .val (.int (Int32.ofNat m4)), .val (.int q7), .val (.int (Int32.ofNat m17)), .val (.ref b12), .val (.ref b_21), .unset, .unset, .unset, .unset] [])) _
      refine XS.aload X52.here hx rfl (Jvm.hb hby at_100) rfl rfl ?_
      show Steps p.tables e below (T52.setTop (mkF m 102 #[.val (.int ra), .val (.int rb), .val (.int rc), .val (.int rp), .val (.int rq), .val (.int (Int32.ofNat m1)), .val (.int (Int32.ofNat m2)), .val (.int (Int32.ofNat m3)), .val (.int (Int32.ofNat m4)), .val (.int q7), .val (.int (Int32.ofNat m17)), .val (.ref b12), .val (.ref b_21), .unset, .unset, .unset, .unset] [(.ref b12)])) _
      show Steps p.tables e below (T52.setTop (mkF m 102 #[.val (.int ra), .val (.int rb), .val (.int rc), .val (.int rp), .val (.int rq), .val (.int (Int32.ofNat m1)), .val (.int (Int32.ofNat m2)), .val (.int (Int32.ofNat m3)), .val (.int (Int32.ofNat m4)), .val (.int q7), .val (.int (Int32.ofNat m17)), .val (.ref b12), .val (.ref b_21), .unset, .unset, .unset, .unset] [(.ref b12)])) t_
      exact k_)
    have f55 : Exa Z h52 b12 "com/example/bezugswerk/bezugswerk/DecodedParts" := (Fq40_0.keep K52)
    have f56 : Fld Z h52 b12 "com/example/bezugswerk/bezugswerk/DecodedParts" "text" "Ljava/lang/StringBuilder;" (.ref b_21) := (Fq40_1.keep K52 (ninS (show @Ne Nat b12 b_21 by omega) (ninS (show @Ne Nat b12 va_21 by omega) nin0)))
    have f57 : Fld Z h52 b12 "com/example/bezugswerk/bezugswerk/DecodedParts" "ends" "[I" (.ref ea_21) := (Fq40_2.keep K52 (ninS (show @Ne Nat b12 b_21 by omega) (ninS (show @Ne Nat b12 va_21 by omega) nin0)))
    have f58 : Fld Z h52 b12 "com/example/bezugswerk/bezugswerk/DecodedParts" "size" "I" (.int (Int32.ofNat (0 + 1))) := (Fq40_3.keep K52 (ninS (show @Ne Nat b12 b_21 by omega) (ninS (show @Ne Nat b12 va_21 by omega) nin0)))
    have f59 : Arv Z h52 ea_21 ke_21 .int (16 : Int32) [(.int (Int32.ofNat (0 + m1))), (.int (0 : Int32)), (.int (0 : Int32)), (.int (0 : Int32)), (.int (0 : Int32)), (.int (0 : Int32)), (.int (0 : Int32)), (.int (0 : Int32)), (.int (0 : Int32)), (.int (0 : Int32)), (.int (0 : Int32)), (.int (0 : Int32)), (.int (0 : Int32)), (.int (0 : Int32)), (.int (0 : Int32)), (.int (0 : Int32))] (.int (0 : Int32)) := (V42.keep K52 (ninS (show @Ne Nat ea_21 b_21 by omega) (ninS (show @Ne Nat ea_21 va_21 by omega) nin0)))
    have Zc60 : n0 ≤ h52.size := by omega
    obtain ⟨cq61, kq61, q61a, q61b, q61c⟩ := isOf hZ e52 f55
    obtain ⟨_, _, ⟨T61, L61, k61, n61⟩, -, X61, ⟨Lc61, hQ61, l61, y61, z61⟩, st61⟩ := X52.virtualBack hx (y := (⟨"com/example/bezugswerk/bezugswerk/DecodedParts", "endPart", "()V"⟩ : MethodName)) (z := (⟨"com/example/bezugswerk/bezugswerk/DecodedParts", "endPart", "()V"⟩ : MethodName)) hown (mvT hZ (hw _ (List.mem_of_getElem? (i := 44) rfl))) (mvT hZ (hw _ (List.mem_of_getElem? (i := 45) rfl))) (notFace_of_selects (args := #[]) (mvT hZ (hw _ (List.mem_of_getElem? (i := 47) rfl)))) (mvT hZ (hw _ (List.mem_of_getElem? (i := 47) rfl))) (mvT hZ (hw _ (List.mem_of_getElem? (i := 46) rfl))) (by decide) (backOf (W := 0) (rmEnd l Z a0 hw [] b12 b_21 ea_21 ke_21 [(.int (Int32.ofNat (0 + m1))), (.int (0 : Int32)), (.int (0 : Int32)), (.int (0 : Int32)), (.int (0 : Int32)), (.int (0 : Int32)), (.int (0 : Int32)), (.int (0 : Int32)), (.int (0 : Int32)), (.int (0 : Int32)), (.int (0 : Int32)), (.int (0 : Int32)), (.int (0 : Int32)), (.int (0 : Int32)), (.int (0 : Int32)), (.int (0 : Int32))] (0 + 1) (Int32.ofNat ((0 + m1) + m2)) h52 n0 Zc60 f55 f56 f57 f58 Fq52_0 Fq52_3 f59 (by first | assumption | rfl | decide | omega : [(.int (Int32.ofNat (0 + m1))), (.int (0 : Int32)), (.int (0 : Int32)), (.int (0 : Int32)), (.int (0 : Int32)), (.int (0 : Int32)), (.int (0 : Int32)), (.int (0 : Int32)), (.int (0 : Int32)), (.int (0 : Int32)), (.int (0 : Int32)), (.int (0 : Int32)), (.int (0 : Int32)), (.int (0 : Int32)), (.int (0 : Int32)), (.int (0 : Int32))].length = 16) (by first | assumption | rfl | decide | omega : (0 + 1) < 16) (by first | assumption | rfl | decide | omega : n0 ≤ b12) (by first | assumption | rfl | decide | omega : n0 ≤ ea_21) (by first | assumption | rfl | decide | omega : @Ne Nat b12 ea_21)) hZ (hw _ (List.mem_of_getElem? (i := 48) rfl)) (hw _ (List.mem_of_getElem? (i := 3) rfl)) (by decide) (by decide)) q61a q61c (g := (mkF m 102 #[.val (.int ra), .val (.int rb), .val (.int rc), .val (.int rp), .val (.int rq), .val (.int (Int32.ofNat m1)), .val (.int (Int32.ofNat m2)), .val (.int (Int32.ofNat m3)), .val (.int (Int32.ofNat m4)), .val (.int q7), .val (.int (Int32.ofNat m17)), .val (.ref b12), .val (.ref b_21), .unset, .unset, .unset, .unset] [(.ref b12)])) rfl (by rw [hml]; rfl) (Steps.refl _) (argsL := []) (rest := []) (lenOf pd___V rfl) rfl (by show 2 * 0 + _ ≤ _; exact Nat.le_of_eq rfl) (Jvm.hb hby at_102) (fun _ _ => ⟨rfl, e52, (by decide : 4 + 0 ≤ _), (by decide : 39 + 0 ≤ _)⟩)
    dsimp only [Pt.U, Pt.locs, Pt.cells, Pt.slots] at X61 l61 y61 z61 st61 hQ61
    subst l61 y61 z61
    obtain ⟨rfl, N61q, K61, Fq61_0, Fq61_1, Fq61_2, Fq61_3, Fq61_4⟩ := hQ61
    have N61 := Fr.app N52 N61q
    obtain ⟨h61, e61⟩ : ∃ z, T61.heap = z := ⟨_, rfl⟩
    rw [e61] at K61 Fq61_0 Fq61_1 Fq61_2 Fq61_3 Fq61_4
    have z62 : h52.size ≤ h61.size := K61.1
    have lt61_0 : @LT.lt Nat _ b12 h61.size := Fq61_0.lt
    have lt61_4 : @LT.lt Nat _ ea_21 h61.size := Fq61_4.lt
    have V63 : Arv Z h61 ea_21 ke_21 .int (16 : Int32) [(.int (Int32.ofNat (0 + m1))), (.int (Int32.ofNat ((0 + m1) + m2))), (.int (0 : Int32)), (.int (0 : Int32)), (.int (0 : Int32)), (.int (0 : Int32)), (.int (0 : Int32)), (.int (0 : Int32)), (.int (0 : Int32)), (.int (0 : Int32)), (.int (0 : Int32)), (.int (0 : Int32)), (.int (0 : Int32)), (.int (0 : Int32)), (.int (0 : Int32)), (.int (0 : Int32))] (.int (0 : Int32)) := Fq61_4
    have s64 : ∀ t_, Steps p.tables e below (T61.setTop (mkF m 109 #[.val (.int ra), .val (.int rb), .val (.int rc), .val (.int rp), .val (.int rq), .val (.int (Int32.ofNat m1)), .val (.int (Int32.ofNat m2)), .val (.int (Int32.ofNat m3)), .val (.int (Int32.ofNat m4)), .val (.int q7), .val (.int (Int32.ofNat m17)), .val (.ref b12), .val (.ref b_21), .unset, .unset, .unset, .unset] [(.int (Int32.ofNat m3)), (.ref b_21)])) t_ → Steps p.tables e below (s₁.setTop (entryFrame m #[(.int ra), (.int rb), (.int rc), (.int rp), (.int rq)] maxLocals)) t_ := fun t_ k_ => s54 t_ (by
      show Steps p.tables e below (T52.setTop (mkF m 102 #[.val (.int ra), .val (.int rb), .val (.int rc), .val (.int rp), .val (.int rq), .val (.int (Int32.ofNat m1)), .val (.int (Int32.ofNat m2)), .val (.int (Int32.ofNat m3)), .val (.int (Int32.ofNat m4)), .val (.int q7), .val (.int (Int32.ofNat m17)), .val (.ref b12), .val (.ref b_21), .unset, .unset, .unset, .unset] [(.ref b12)])) t_
      refine st61.trans ?_
      show Steps p.tables e below (T61.setTop (mkF m 105 #[.val (.int ra), .val (.int rb), .val (.int rc), .val (.int rp), .val (.int rq), .val (.int (Int32.ofNat m1)), .val (.int (Int32.ofNat m2)), .val (.int (Int32.ofNat m3)), .val (.int (Int32.ofNat m4)), .val (.int q7), .val (.int (Int32.ofNat m17)), .val (.ref b12), .val (.ref b_21), .unset, .unset, .unset, .unset] [])) _
      refine XS.aload X61.here hx rfl (Jvm.hb hby at_105) rfl rfl ?_
      show Steps p.tables e below (T61.setTop (mkF m 107 #[.val (.int ra), .val (.int rb), .val (.int rc), .val (.int rp), .val (.int rq), .val (.int (Int32.ofNat m1)), .val (.int (Int32.ofNat m2)), .val (.int (Int32.ofNat m3)), .val (.int (Int32.ofNat m4)), .val (.int q7), .val (.int (Int32.ofNat m17)), .val (.ref b12), .val (.ref b_21), .unset, .unset, .unset, .unset] [(.ref b_21)])) _
      refine XS.iload X61.here hx rfl (Jvm.hb hby at_107) rfl ?_
      show Steps p.tables e below (T61.setTop (mkF m 109 #[.val (.int ra), .val (.int rb), .val (.int rc), .val (.int rp), .val (.int rq), .val (.int (Int32.ofNat m1)), .val (.int (Int32.ofNat m2)), .val (.int (Int32.ofNat m3)), .val (.int (Int32.ofNat m4)), .val (.int q7), .val (.int (Int32.ofNat m17)), .val (.ref b12), .val (.ref b_21), .unset, .unset, .unset, .unset] [(.int (Int32.ofNat m3)), (.ref b_21)])) _
      show Steps p.tables e below (T61.setTop (mkF m 109 #[.val (.int ra), .val (.int rb), .val (.int rc), .val (.int rp), .val (.int rq), .val (.int (Int32.ofNat m1)), .val (.int (Int32.ofNat m2)), .val (.int (Int32.ofNat m3)), .val (.int (Int32.ofNat m4)), .val (.int q7), .val (.int (Int32.ofNat m17)), .val (.ref b12), .val (.ref b_21), .unset, .unset, .unset, .unset] [(.int (Int32.ofNat m3)), (.ref b_21)])) t_
      exact k_)
    have O65 : Old Z n0 h61 := ((O44.keep K52 (allS (show n0 ≤ b_21 by omega) (allS (show n0 ≤ va_21 by omega) all0))).keep K61 (allS (show n0 ≤ b12 by omega) (allS (show n0 ≤ ea_21 by omega) all0)))
    have f66 : Exa Z h61 b_21 "java/lang/StringBuilder" := (Fq52_0.keep K61)
    have f67 : Fld Z h61 b_21 "java/lang/AbstractStringBuilder" "value" "[B" (.ref va_21) := (Fq52_1.keep K61 (ninS (show @Ne Nat b_21 b12 by omega) (ninS (show @Ne Nat b_21 ea_21 by omega) nin0)))
    have f68 : Fld Z h61 b_21 "java/lang/AbstractStringBuilder" "coder" "B" (.int (0 : Int32)) := (Fq52_2.keep K61 (ninS (show @Ne Nat b_21 b12 by omega) (ninS (show @Ne Nat b_21 ea_21 by omega) nin0)))
    have f69 : Fld Z h61 b_21 "java/lang/AbstractStringBuilder" "count" "I" (.int (Int32.ofNat ((0 + m1) + m2))) := (Fq52_3.keep K61 (ninS (show @Ne Nat b_21 b12 by omega) (ninS (show @Ne Nat b_21 ea_21 by omega) nin0)))
    have f70 : Fld Z h61 b_21 "java/lang/AbstractStringBuilder" "maybeLatin1" "Z" (.int (0 : Int32)) := (Fq52_4.keep K61 (ninS (show @Ne Nat b_21 b12 by omega) (ninS (show @Ne Nat b_21 ea_21 by omega) nin0)))
    have f71 : Arv Z h61 va_21 kc_21 .byte (16 : Int32) vt_52 (.int (0 : Int32)) := (Fq52_5.keep K61 (ninS (show @Ne Nat va_21 b12 by omega) (ninS (show @Ne Nat va_21 ea_21 by omega) nin0)))
    have Zc72 : n0 ≤ h61.size := by omega
    obtain ⟨_, _, ⟨T73, L73, k73, n73⟩, -, X73, ⟨Lc73, hQ73, l73, y73, z73⟩, st73⟩ := Jvm.LawKit.callS X61 hx (y := (⟨"com/example/bezugswerk/bezugswerk/DecodedPartsStartPinLaw", "fill", "(Ljava/lang/StringBuilder;I)V"⟩ : MethodName)) hown (mvT hZ (hw _ (List.mem_of_getElem? (i := 40) rfl))) (mvT hZ (hw _ (List.mem_of_getElem? (i := 41) rfl))) (mvT hZ (hw _ (List.mem_of_getElem? (i := 42) rfl))) (mvT hZ (hw _ (List.mem_of_getElem? (i := 43) rfl))) (by decide) (backOf (W := 0) (rmFill l Z a0 hw [] b_21 cst va_21 kc_21 vt_52 ((0 + m1) + m2) (0 : Int32) m3 h61 n0 Zc72 I1 O65 (hcst : ¬ (cst = (0 : Int32))) f66 f67 f68 f69 f70 f71 (P52_0 : vt_52.length = 16) (by first | assumption | rfl | decide | omega : m3 < 4) (by first | assumption | rfl | decide | omega : ((0 + m1) + m2) + 3 < 16) (by first | assumption | rfl | decide | omega : n0 ≤ b_21) (by first | assumption | rfl | decide | omega : n0 ≤ va_21) (by first | assumption | rfl | decide | omega : @Ne Nat b_21 va_21)) hZ (hw _ (List.mem_of_getElem? (i := 43) rfl)) (hw _ (List.mem_of_getElem? (i := 42) rfl)) (by decide) (by decide)) (g := (mkF m 109 #[.val (.int ra), .val (.int rb), .val (.int rc), .val (.int rp), .val (.int rq), .val (.int (Int32.ofNat m1)), .val (.int (Int32.ofNat m2)), .val (.int (Int32.ofNat m3)), .val (.int (Int32.ofNat m4)), .val (.int q7), .val (.int (Int32.ofNat m17)), .val (.ref b12), .val (.ref b_21), .unset, .unset, .unset, .unset] [(.int (Int32.ofNat m3)), (.ref b_21)])) rfl (by rw [hml]; rfl) (argsL := [(.ref b_21), (.int (Int32.ofNat m3))]) (rest := []) (lenOf pd__Ljava_lang_StringBuilder_I_V rfl) rfl (by show 2 * 0 + _ ≤ _; exact Nat.le_of_eq rfl) (Jvm.hb hby at_109) (fun _ _ => ⟨rfl, e61, (by decide : 4 + 0 ≤ _), (by decide : 39 + 0 ≤ _)⟩)
    dsimp only [Pt.U, Pt.locs, Pt.cells, Pt.slots] at X73 l73 y73 z73 st73 hQ73
    subst l73 y73 z73
    obtain ⟨vt_73, rfl, N73q, K73, Fq73_0, Fq73_1, Fq73_2, Fq73_3, Fq73_4, Fq73_5, P73_0⟩ := hQ73
    have N73 := Fr.app N61 N73q
    obtain ⟨h73, e73⟩ : ∃ z, T73.heap = z := ⟨_, rfl⟩
    rw [e73] at K73 Fq73_0 Fq73_1 Fq73_2 Fq73_3 Fq73_4 Fq73_5
    have z74 : h61.size ≤ h73.size := K73.1
    have lt73_0 : @LT.lt Nat _ b_21 h73.size := Fq73_0.lt
    have lt73_5 : @LT.lt Nat _ va_21 h73.size := Fq73_5.lt
    have s75 : ∀ t_, Steps p.tables e below (T73.setTop (mkF m 114 #[.val (.int ra), .val (.int rb), .val (.int rc), .val (.int rp), .val (.int rq), .val (.int (Int32.ofNat m1)), .val (.int (Int32.ofNat m2)), .val (.int (Int32.ofNat m3)), .val (.int (Int32.ofNat m4)), .val (.int q7), .val (.int (Int32.ofNat m17)), .val (.ref b12), .val (.ref b_21), .unset, .unset, .unset, .unset] [(.ref b12)])) t_ → Steps p.tables e below (s₁.setTop (entryFrame m #[(.int ra), (.int rb), (.int rc), (.int rp), (.int rq)] maxLocals)) t_ := fun t_ k_ => s64 t_ (by
      show Steps p.tables e below (T61.setTop (mkF m 109 #[.val (.int ra), .val (.int rb), .val (.int rc), .val (.int rp), .val (.int rq), .val (.int (Int32.ofNat m1)), .val (.int (Int32.ofNat m2)), .val (.int (Int32.ofNat m3)), .val (.int (Int32.ofNat m4)), .val (.int q7), .val (.int (Int32.ofNat m17)), .val (.ref b12), .val (.ref b_21), .unset, .unset, .unset, .unset] [(.int (Int32.ofNat m3)), (.ref b_21)])) t_
      refine st73 _ ?_
      show Steps p.tables e below (T73.setTop (mkF m 112 #[.val (.int ra), .val (.int rb), .val (.int rc), .val (.int rp), .val (.int rq), .val (.int (Int32.ofNat m1)), .val (.int (Int32.ofNat m2)), .val (.int (Int32.ofNat m3)), .val (.int (Int32.ofNat m4)), .val (.int q7), .val (.int (Int32.ofNat m17)), .val (.ref b12), .val (.ref b_21), .unset, .unset, .unset, .unset] [])) _
      refine XS.aload X73.here hx rfl (Jvm.hb hby at_112) rfl rfl ?_
      show Steps p.tables e below (T73.setTop (mkF m 114 #[.val (.int ra), .val (.int rb), .val (.int rc), .val (.int rp), .val (.int rq), .val (.int (Int32.ofNat m1)), .val (.int (Int32.ofNat m2)), .val (.int (Int32.ofNat m3)), .val (.int (Int32.ofNat m4)), .val (.int q7), .val (.int (Int32.ofNat m17)), .val (.ref b12), .val (.ref b_21), .unset, .unset, .unset, .unset] [(.ref b12)])) _
      show Steps p.tables e below (T73.setTop (mkF m 114 #[.val (.int ra), .val (.int rb), .val (.int rc), .val (.int rp), .val (.int rq), .val (.int (Int32.ofNat m1)), .val (.int (Int32.ofNat m2)), .val (.int (Int32.ofNat m3)), .val (.int (Int32.ofNat m4)), .val (.int q7), .val (.int (Int32.ofNat m17)), .val (.ref b12), .val (.ref b_21), .unset, .unset, .unset, .unset] [(.ref b12)])) t_
      exact k_)
    have f76 : Exa Z h73 b12 "com/example/bezugswerk/bezugswerk/DecodedParts" := (Fq61_0.keep K73)
    have f77 : Fld Z h73 b12 "com/example/bezugswerk/bezugswerk/DecodedParts" "text" "Ljava/lang/StringBuilder;" (.ref b_21) := (Fq61_1.keep K73 (ninS (show @Ne Nat b12 b_21 by omega) (ninS (show @Ne Nat b12 va_21 by omega) nin0)))
    have f78 : Fld Z h73 b12 "com/example/bezugswerk/bezugswerk/DecodedParts" "ends" "[I" (.ref ea_21) := (Fq61_2.keep K73 (ninS (show @Ne Nat b12 b_21 by omega) (ninS (show @Ne Nat b12 va_21 by omega) nin0)))
    have f79 : Fld Z h73 b12 "com/example/bezugswerk/bezugswerk/DecodedParts" "size" "I" (.int (Int32.ofNat ((0 + 1) + 1))) := (Fq61_3.keep K73 (ninS (show @Ne Nat b12 b_21 by omega) (ninS (show @Ne Nat b12 va_21 by omega) nin0)))
    have f80 : Arv Z h73 ea_21 ke_21 .int (16 : Int32) [(.int (Int32.ofNat (0 + m1))), (.int (Int32.ofNat ((0 + m1) + m2))), (.int (0 : Int32)), (.int (0 : Int32)), (.int (0 : Int32)), (.int (0 : Int32)), (.int (0 : Int32)), (.int (0 : Int32)), (.int (0 : Int32)), (.int (0 : Int32)), (.int (0 : Int32)), (.int (0 : Int32)), (.int (0 : Int32)), (.int (0 : Int32)), (.int (0 : Int32)), (.int (0 : Int32))] (.int (0 : Int32)) := (V63.keep K73 (ninS (show @Ne Nat ea_21 b_21 by omega) (ninS (show @Ne Nat ea_21 va_21 by omega) nin0)))
    have Zc81 : n0 ≤ h73.size := by omega
    obtain ⟨cq82, kq82, q82a, q82b, q82c⟩ := isOf hZ e73 f76
    obtain ⟨_, _, ⟨T82, L82, k82, n82⟩, -, X82, ⟨Lc82, hQ82, l82, y82, z82⟩, st82⟩ := X73.virtualBack hx (y := (⟨"com/example/bezugswerk/bezugswerk/DecodedParts", "endPart", "()V"⟩ : MethodName)) (z := (⟨"com/example/bezugswerk/bezugswerk/DecodedParts", "endPart", "()V"⟩ : MethodName)) hown (mvT hZ (hw _ (List.mem_of_getElem? (i := 44) rfl))) (mvT hZ (hw _ (List.mem_of_getElem? (i := 45) rfl))) (notFace_of_selects (args := #[]) (mvT hZ (hw _ (List.mem_of_getElem? (i := 47) rfl)))) (mvT hZ (hw _ (List.mem_of_getElem? (i := 47) rfl))) (mvT hZ (hw _ (List.mem_of_getElem? (i := 46) rfl))) (by decide) (backOf (W := 0) (rmEnd l Z a0 hw [] b12 b_21 ea_21 ke_21 [(.int (Int32.ofNat (0 + m1))), (.int (Int32.ofNat ((0 + m1) + m2))), (.int (0 : Int32)), (.int (0 : Int32)), (.int (0 : Int32)), (.int (0 : Int32)), (.int (0 : Int32)), (.int (0 : Int32)), (.int (0 : Int32)), (.int (0 : Int32)), (.int (0 : Int32)), (.int (0 : Int32)), (.int (0 : Int32)), (.int (0 : Int32)), (.int (0 : Int32)), (.int (0 : Int32))] ((0 + 1) + 1) (Int32.ofNat (((0 + m1) + m2) + m3)) h73 n0 Zc81 f76 f77 f78 f79 Fq73_0 Fq73_3 f80 (by first | assumption | rfl | decide | omega : [(.int (Int32.ofNat (0 + m1))), (.int (Int32.ofNat ((0 + m1) + m2))), (.int (0 : Int32)), (.int (0 : Int32)), (.int (0 : Int32)), (.int (0 : Int32)), (.int (0 : Int32)), (.int (0 : Int32)), (.int (0 : Int32)), (.int (0 : Int32)), (.int (0 : Int32)), (.int (0 : Int32)), (.int (0 : Int32)), (.int (0 : Int32)), (.int (0 : Int32)), (.int (0 : Int32))].length = 16) (by first | assumption | rfl | decide | omega : ((0 + 1) + 1) < 16) (by first | assumption | rfl | decide | omega : n0 ≤ b12) (by first | assumption | rfl | decide | omega : n0 ≤ ea_21) (by first | assumption | rfl | decide | omega : @Ne Nat b12 ea_21)) hZ (hw _ (List.mem_of_getElem? (i := 48) rfl)) (hw _ (List.mem_of_getElem? (i := 3) rfl)) (by decide) (by decide)) q82a q82c (g := (mkF m 114 #[.val (.int ra), .val (.int rb), .val (.int rc), .val (.int rp), .val (.int rq), .val (.int (Int32.ofNat m1)), .val (.int (Int32.ofNat m2)), .val (.int (Int32.ofNat m3)), .val (.int (Int32.ofNat m4)), .val (.int q7), .val (.int (Int32.ofNat m17)), .val (.ref b12), .val (.ref b_21), .unset, .unset, .unset, .unset] [(.ref b12)])) rfl (by rw [hml]; rfl) (Steps.refl _) (argsL := []) (rest := []) (lenOf pd___V rfl) rfl (by show 2 * 0 + _ ≤ _; exact Nat.le_of_eq rfl) (Jvm.hb hby at_114) (fun _ _ => ⟨rfl, e73, (by decide : 4 + 0 ≤ _), (by decide : 39 + 0 ≤ _)⟩)
    dsimp only [Pt.U, Pt.locs, Pt.cells, Pt.slots] at X82 l82 y82 z82 st82 hQ82
    subst l82 y82 z82
    obtain ⟨rfl, N82q, K82, Fq82_0, Fq82_1, Fq82_2, Fq82_3, Fq82_4⟩ := hQ82
    have N82 := Fr.app N73 N82q
    obtain ⟨h82, e82⟩ : ∃ z, T82.heap = z := ⟨_, rfl⟩
    rw [e82] at K82 Fq82_0 Fq82_1 Fq82_2 Fq82_3 Fq82_4
    have z83 : h73.size ≤ h82.size := K82.1
    have lt82_0 : @LT.lt Nat _ b12 h82.size := Fq82_0.lt
    have lt82_4 : @LT.lt Nat _ ea_21 h82.size := Fq82_4.lt
    have V84 : Arv Z h82 ea_21 ke_21 .int (16 : Int32) [(.int (Int32.ofNat (0 + m1))), (.int (Int32.ofNat ((0 + m1) + m2))), (.int (Int32.ofNat (((0 + m1) + m2) + m3))), (.int (0 : Int32)), (.int (0 : Int32)), (.int (0 : Int32)), (.int (0 : Int32)), (.int (0 : Int32)), (.int (0 : Int32)), (.int (0 : Int32)), (.int (0 : Int32)), (.int (0 : Int32)), (.int (0 : Int32)), (.int (0 : Int32)), (.int (0 : Int32)), (.int (0 : Int32))] (.int (0 : Int32)) := Fq82_4
    have s85 : ∀ t_, Steps p.tables e below (T82.setTop (mkF m 119 #[.val (.int ra), .val (.int rb), .val (.int rc), .val (.int rp), .val (.int rq), .val (.int (Int32.ofNat m1)), .val (.int (Int32.ofNat m2)), .val (.int (Int32.ofNat m3)), .val (.int (Int32.ofNat m4)), .val (.int q7), .val (.int (Int32.ofNat m17)), .val (.ref b12), .val (.ref b_21), .unset, .unset, .unset, .unset] [(.int (Int32.ofNat m4))])) t_ → Steps p.tables e below (s₁.setTop (entryFrame m #[(.int ra), (.int rb), (.int rc), (.int rp), (.int rq)] maxLocals)) t_ := fun t_ k_ => s75 t_ (by
      show Steps p.tables e below (T73.setTop (mkF m 114 #[.val (.int ra), .val (.int rb), .val (.int rc), .val (.int rp), .val (.int rq), .val (.int (Int32.ofNat m1)), .val (.int (Int32.ofNat m2)), .val (.int (Int32.ofNat m3)), .val (.int (Int32.ofNat m4)), .val (.int q7), .val (.int (Int32.ofNat m17)), .val (.ref b12), .val (.ref b_21), .unset, .unset, .unset, .unset] [(.ref b12)])) t_
      refine st82.trans ?_
      show Steps p.tables e below (T82.setTop (mkF m 117 #[.val (.int ra), .val (.int rb), .val (.int rc), .val (.int rp), .val (.int rq), .val (.int (Int32.ofNat m1)), .val (.int (Int32.ofNat m2)), .val (.int (Int32.ofNat m3)), .val (.int (Int32.ofNat m4)), .val (.int q7), .val (.int (Int32.ofNat m17)), .val (.ref b12), .val (.ref b_21), .unset, .unset, .unset, .unset] [])) _
      refine XS.iload X82.here hx rfl (Jvm.hb hby at_117) rfl ?_
      show Steps p.tables e below (T82.setTop (mkF m 119 #[.val (.int ra), .val (.int rb), .val (.int rc), .val (.int rp), .val (.int rq), .val (.int (Int32.ofNat m1)), .val (.int (Int32.ofNat m2)), .val (.int (Int32.ofNat m3)), .val (.int (Int32.ofNat m4)), .val (.int q7), .val (.int (Int32.ofNat m17)), .val (.ref b12), .val (.ref b_21), .unset, .unset, .unset, .unset] [(.int (Int32.ofNat m4))])) _
      show Steps p.tables e below (T82.setTop (mkF m 119 #[.val (.int ra), .val (.int rb), .val (.int rc), .val (.int rp), .val (.int rq), .val (.int (Int32.ofNat m1)), .val (.int (Int32.ofNat m2)), .val (.int (Int32.ofNat m3)), .val (.int (Int32.ofNat m4)), .val (.int q7), .val (.int (Int32.ofNat m17)), .val (.ref b12), .val (.ref b_21), .unset, .unset, .unset, .unset] [(.int (Int32.ofNat m4))])) t_
      exact k_)
    obtain ⟨q86, hq86⟩ : ∃ z : Int32, z = (if (Int32.ofNat m4) = (0 : Int32) then (0 : Int32) else (if (Int32.ofNat m4) = (1 : Int32) then (Int32.ofNat m1) else ((Int32.ofNat m1) + (Int32.ofNat m2)))) := ⟨_, rfl⟩
    obtain ⟨q87, hq87⟩ : ∃ z : Int32, z = (if (Int32.ofNat m4) = (0 : Int32) then (Int32.ofNat m1) else (if (Int32.ofNat m4) = (1 : Int32) then (Int32.ofNat m2) else (Int32.ofNat m3))) := ⟨_, rfl⟩
    obtain ⟨T88, X88, e88, s88⟩ := seg X82 (fun T' => T'.heap = h82 ∧ ∀ t_, Steps p.tables e below (T'.setTop (mkF m 160 #[.val (.int ra), .val (.int rb), .val (.int rc), .val (.int rp), .val (.int rq), .val (.int (Int32.ofNat m1)), .val (.int (Int32.ofNat m2)), .val (.int (Int32.ofNat m3)), .val (.int (Int32.ofNat m4)), .val (.int q7), .val (.int (Int32.ofNat m17)), .val (.ref b12), .val (.ref b_21), .val (.int q86), .val (.int q87), .unset, .unset] [])) t_ → Steps p.tables e below (s₁.setTop (entryFrame m #[(.int ra), (.int rb), (.int rc), (.int rp), (.int rq)] maxLocals)) t_) (by
      by_cases h89 : (Int32.ofNat m4) = (0 : Int32)
      · have s90 : ∀ t_, Steps p.tables e below (T82.setTop (mkF m 160 #[.val (.int ra), .val (.int rb), .val (.int rc), .val (.int rp), .val (.int rq), .val (.int (Int32.ofNat m1)), .val (.int (Int32.ofNat m2)), .val (.int (Int32.ofNat m3)), .val (.int (Int32.ofNat m4)), .val (.int q7), .val (.int (Int32.ofNat m17)), .val (.ref b12), .val (.ref b_21), .val (.int (0 : Int32)), .val (.int (Int32.ofNat m1)), .unset, .unset] [])) t_ → Steps p.tables e below (s₁.setTop (entryFrame m #[(.int ra), (.int rb), (.int rc), (.int rp), (.int rq)] maxLocals)) t_ := fun t_ k_ => s85 t_ (by
          show Steps p.tables e below (T82.setTop (mkF m 119 #[.val (.int ra), .val (.int rb), .val (.int rc), .val (.int rp), .val (.int rq), .val (.int (Int32.ofNat m1)), .val (.int (Int32.ofNat m2)), .val (.int (Int32.ofNat m3)), .val (.int (Int32.ofNat m4)), .val (.int q7), .val (.int (Int32.ofNat m17)), .val (.ref b12), .val (.ref b_21), .unset, .unset, .unset, .unset] [(.int (Int32.ofNat m4))])) t_
          refine XS.ifNo X82.here hx rfl (Jvm.hb hby at_119) rfl ((if0 _ _).trans (teq h89).2) ?_
          show Steps p.tables e below (T82.setTop (mkF m 122 #[.val (.int ra), .val (.int rb), .val (.int rc), .val (.int rp), .val (.int rq), .val (.int (Int32.ofNat m1)), .val (.int (Int32.ofNat m2)), .val (.int (Int32.ofNat m3)), .val (.int (Int32.ofNat m4)), .val (.int q7), .val (.int (Int32.ofNat m17)), .val (.ref b12), .val (.ref b_21), .unset, .unset, .unset, .unset] [])) _
          refine XS.iconst X82.here hx rfl (Jvm.hb hby at_122) ?_
          show Steps p.tables e below (T82.setTop (mkF m 123 #[.val (.int ra), .val (.int rb), .val (.int rc), .val (.int rp), .val (.int rq), .val (.int (Int32.ofNat m1)), .val (.int (Int32.ofNat m2)), .val (.int (Int32.ofNat m3)), .val (.int (Int32.ofNat m4)), .val (.int q7), .val (.int (Int32.ofNat m17)), .val (.ref b12), .val (.ref b_21), .unset, .unset, .unset, .unset] [(.int (0 : Int32))])) _
          refine XS.istore X82.here hx rfl (Jvm.hb hby at_123) rfl (l' := #[.val (.int ra), .val (.int rb), .val (.int rc), .val (.int rp), .val (.int rq), .val (.int (Int32.ofNat m1)), .val (.int (Int32.ofNat m2)), .val (.int (Int32.ofNat m3)), .val (.int (Int32.ofNat m4)), .val (.int q7), .val (.int (Int32.ofNat m17)), .val (.ref b12), .val (.ref b_21), .val (.int (0 : Int32)), .unset, .unset, .unset]) rfl ?_
          show Steps p.tables e below (T82.setTop (mkF m 125 #[.val (.int ra), .val (.int rb), .val (.int rc), .val (.int rp), .val (.int rq), .val (.int (Int32.ofNat m1)), .val (.int (Int32.ofNat m2)), .val (.int (Int32.ofNat m3)), .val (.int (Int32.ofNat m4)), .val (.int q7), .val (.int (Int32.ofNat m17)), .val (.ref b12), .val (.ref b_21), .val (.int (0 : Int32)), .unset, .unset, .unset] [])) _
          refine XS.iload X82.here hx rfl (Jvm.hb hby at_125) rfl ?_
          show Steps p.tables e below (T82.setTop (mkF m 127 #[.val (.int ra), .val (.int rb), .val (.int rc), .val (.int rp), .val (.int rq), .val (.int (Int32.ofNat m1)), .val (.int (Int32.ofNat m2)), .val (.int (Int32.ofNat m3)), .val (.int (Int32.ofNat m4)), .val (.int q7), .val (.int (Int32.ofNat m17)), .val (.ref b12), .val (.ref b_21), .val (.int (0 : Int32)), .unset, .unset, .unset] [(.int (Int32.ofNat m1))])) _
          refine XS.istore X82.here hx rfl (Jvm.hb hby at_127) rfl (l' := #[.val (.int ra), .val (.int rb), .val (.int rc), .val (.int rp), .val (.int rq), .val (.int (Int32.ofNat m1)), .val (.int (Int32.ofNat m2)), .val (.int (Int32.ofNat m3)), .val (.int (Int32.ofNat m4)), .val (.int q7), .val (.int (Int32.ofNat m17)), .val (.ref b12), .val (.ref b_21), .val (.int (0 : Int32)), .val (.int (Int32.ofNat m1)), .unset, .unset]) rfl ?_
          show Steps p.tables e below (T82.setTop (mkF m 129 #[.val (.int ra), .val (.int rb), .val (.int rc), .val (.int rp), .val (.int rq), .val (.int (Int32.ofNat m1)), .val (.int (Int32.ofNat m2)), .val (.int (Int32.ofNat m3)), .val (.int (Int32.ofNat m4)), .val (.int q7), .val (.int (Int32.ofNat m17)), .val (.ref b12), .val (.ref b_21), .val (.int (0 : Int32)), .val (.int (Int32.ofNat m1)), .unset, .unset] [])) _
          refine XS.goto X82.here hx rfl (pc0 := 129) (pc' := 160) rfl (Jvm.hb hby at_129) (by decide) (by decide) ?_
          show Steps p.tables e below (T82.setTop (mkF m 160 #[.val (.int ra), .val (.int rb), .val (.int rc), .val (.int rp), .val (.int rq), .val (.int (Int32.ofNat m1)), .val (.int (Int32.ofNat m2)), .val (.int (Int32.ofNat m3)), .val (.int (Int32.ofNat m4)), .val (.int q7), .val (.int (Int32.ofNat m17)), .val (.ref b12), .val (.ref b_21), .val (.int (0 : Int32)), .val (.int (Int32.ofNat m1)), .unset, .unset] [])) _
          show Steps p.tables e below (T82.setTop (mkF m 160 #[.val (.int ra), .val (.int rb), .val (.int rc), .val (.int rp), .val (.int rq), .val (.int (Int32.ofNat m1)), .val (.int (Int32.ofNat m2)), .val (.int (Int32.ofNat m3)), .val (.int (Int32.ofNat m4)), .val (.int q7), .val (.int (Int32.ofNat m17)), .val (.ref b12), .val (.ref b_21), .val (.int (0 : Int32)), .val (.int (Int32.ofNat m1)), .unset, .unset] [])) t_
          exact k_)
        exact ⟨T82, X82, e82, fun t_ k_ => s90 t_ (castTop (by simp only [hq86, hq87, if_pos h89]) k_)⟩
      · have s91 : ∀ t_, Steps p.tables e below (T82.setTop (mkF m 135 #[.val (.int ra), .val (.int rb), .val (.int rc), .val (.int rp), .val (.int rq), .val (.int (Int32.ofNat m1)), .val (.int (Int32.ofNat m2)), .val (.int (Int32.ofNat m3)), .val (.int (Int32.ofNat m4)), .val (.int q7), .val (.int (Int32.ofNat m17)), .val (.ref b12), .val (.ref b_21), .unset, .unset, .unset, .unset] [(.int (1 : Int32)), (.int (Int32.ofNat m4))])) t_ → Steps p.tables e below (s₁.setTop (entryFrame m #[(.int ra), (.int rb), (.int rc), (.int rp), (.int rq)] maxLocals)) t_ := fun t_ k_ => s85 t_ (by
          show Steps p.tables e below (T82.setTop (mkF m 119 #[.val (.int ra), .val (.int rb), .val (.int rc), .val (.int rp), .val (.int rq), .val (.int (Int32.ofNat m1)), .val (.int (Int32.ofNat m2)), .val (.int (Int32.ofNat m3)), .val (.int (Int32.ofNat m4)), .val (.int q7), .val (.int (Int32.ofNat m17)), .val (.ref b12), .val (.ref b_21), .unset, .unset, .unset, .unset] [(.int (Int32.ofNat m4))])) t_
          refine XS.ifYes X82.here hx rfl (pc0 := 119) (pc' := 132) rfl (Jvm.hb hby at_119) rfl ((if0 _ _).trans (feq h89).2) (by decide) (by decide) ?_
          show Steps p.tables e below (T82.setTop (mkF m 132 #[.val (.int ra), .val (.int rb), .val (.int rc), .val (.int rp), .val (.int rq), .val (.int (Int32.ofNat m1)), .val (.int (Int32.ofNat m2)), .val (.int (Int32.ofNat m3)), .val (.int (Int32.ofNat m4)), .val (.int q7), .val (.int (Int32.ofNat m17)), .val (.ref b12), .val (.ref b_21), .unset, .unset, .unset, .unset] [])) _
          refine XS.iload X82.here hx rfl (Jvm.hb hby at_132) rfl ?_
          show Steps p.tables e below (T82.setTop (mkF m 134 #[.val (.int ra), .val (.int rb), .val (.int rc), .val (.int rp), .val (.int rq), .val (.int (Int32.ofNat m1)), .val (.int (Int32.ofNat m2)), .val (.int (Int32.ofNat m3)), .val (.int (Int32.ofNat m4)), .val (.int q7), .val (.int (Int32.ofNat m17)), .val (.ref b12), .val (.ref b_21), .unset, .unset, .unset, .unset] [(.int (Int32.ofNat m4))])) _
          refine XS.iconst X82.here hx rfl (Jvm.hb hby at_134) ?_
          show Steps p.tables e below (T82.setTop (mkF m 135 #[.val (.int ra), .val (.int rb), .val (.int rc), .val (.int rp), .val (.int rq), .val (.int (Int32.ofNat m1)), .val (.int (Int32.ofNat m2)), .val (.int (Int32.ofNat m3)), .val (.int (Int32.ofNat m4)), .val (.int q7), .val (.int (Int32.ofNat m17)), .val (.ref b12), .val (.ref b_21), .unset, .unset, .unset, .unset] [(.int (1 : Int32)), (.int (Int32.ofNat m4))])) _
          show Steps p.tables e below (T82.setTop (mkF m 135 #[.val (.int ra), .val (.int rb), .val (.int rc), .val (.int rp), .val (.int rq), .val (.int (Int32.ofNat m1)), .val (.int (Int32.ofNat m2)), .val (.int (Int32.ofNat m3)), .val (.int (Int32.ofNat m4)), .val (.int q7), .val (.int (Int32.ofNat m17)), .val (.ref b12), .val (.ref b_21), .unset, .unset, .unset, .unset] [(.int (1 : Int32)), (.int (Int32.ofNat m4))])) t_
          exact k_)
        by_cases h92 : (Int32.ofNat m4) = (1 : Int32)
        · have s93 : ∀ t_, Steps p.tables e below (T82.setTop (mkF m 160 #[.val (.int ra), .val (.int rb), .val (.int rc), .val (.int rp), .val (.int rq), .val (.int (Int32.ofNat m1)), .val (.int (Int32.ofNat m2)), .val (.int (Int32.ofNat m3)), .val (.int (Int32.ofNat m4)), .val (.int q7), .val (.int (Int32.ofNat m17)), .val (.ref b12), .val (.ref b_21), .val (.int (Int32.ofNat m1)), .val (.int (Int32.ofNat m2)), .unset, .unset] [])) t_ → Steps p.tables e below (s₁.setTop (entryFrame m #[(.int ra), (.int rb), (.int rc), (.int rp), (.int rq)] maxLocals)) t_ := fun t_ k_ => s91 t_ (by
            show Steps p.tables e below (T82.setTop (mkF m 135 #[.val (.int ra), .val (.int rb), .val (.int rc), .val (.int rp), .val (.int rq), .val (.int (Int32.ofNat m1)), .val (.int (Int32.ofNat m2)), .val (.int (Int32.ofNat m3)), .val (.int (Int32.ofNat m4)), .val (.int q7), .val (.int (Int32.ofNat m17)), .val (.ref b12), .val (.ref b_21), .unset, .unset, .unset, .unset] [(.int (1 : Int32)), (.int (Int32.ofNat m4))])) t_
            refine XS.icmpNo X82.here hx rfl (Jvm.hb hby at_135) rfl (teq h92).2 ?_
            show Steps p.tables e below (T82.setTop (mkF m 138 #[.val (.int ra), .val (.int rb), .val (.int rc), .val (.int rp), .val (.int rq), .val (.int (Int32.ofNat m1)), .val (.int (Int32.ofNat m2)), .val (.int (Int32.ofNat m3)), .val (.int (Int32.ofNat m4)), .val (.int q7), .val (.int (Int32.ofNat m17)), .val (.ref b12), .val (.ref b_21), .unset, .unset, .unset, .unset] [])) _
            refine XS.iload X82.here hx rfl (Jvm.hb hby at_138) rfl ?_
            show Steps p.tables e below (T82.setTop (mkF m 140 #[.val (.int ra), .val (.int rb), .val (.int rc), .val (.int rp), .val (.int rq), .val (.int (Int32.ofNat m1)), .val (.int (Int32.ofNat m2)), .val (.int (Int32.ofNat m3)), .val (.int (Int32.ofNat m4)), .val (.int q7), .val (.int (Int32.ofNat m17)), .val (.ref b12), .val (.ref b_21), .unset, .unset, .unset, .unset] [(.int (Int32.ofNat m1))])) _
            refine XS.istore X82.here hx rfl (Jvm.hb hby at_140) rfl (l' := #[.val (.int ra), .val (.int rb), .val (.int rc), .val (.int rp), .val (.int rq), .val (.int (Int32.ofNat m1)), .val (.int (Int32.ofNat m2)), .val (.int (Int32.ofNat m3)), .val (.int (Int32.ofNat m4)), .val (.int q7), .val (.int (Int32.ofNat m17)), .val (.ref b12), .val (.ref b_21), .val (.int (Int32.ofNat m1)), .unset, .unset, .unset]) rfl ?_
            show Steps p.tables e below (T82.setTop (mkF m 142 #[.val (.int ra), .val (.int rb), .val (.int rc), .val (.int rp), .val (.int rq), .val (.int (Int32.ofNat m1)), .val (.int (Int32.ofNat m2)), .val (.int (Int32.ofNat m3)), .val (.int (Int32.ofNat m4)), .val (.int q7), .val (.int (Int32.ofNat m17)), .val (.ref b12), .val (.ref b_21), .val (.int (Int32.ofNat m1)), .unset, .unset, .unset] [])) _
            refine XS.iload X82.here hx rfl (Jvm.hb hby at_142) rfl ?_
            show Steps p.tables e below (T82.setTop (mkF m 144 #[.val (.int ra), .val (.int rb), .val (.int rc), .val (.int rp), .val (.int rq), .val (.int (Int32.ofNat m1)), .val (.int (Int32.ofNat m2)), .val (.int (Int32.ofNat m3)), .val (.int (Int32.ofNat m4)), .val (.int q7), .val (.int (Int32.ofNat m17)), .val (.ref b12), .val (.ref b_21), .val (.int (Int32.ofNat m1)), .unset, .unset, .unset] [(.int (Int32.ofNat m2))])) _
            refine XS.istore X82.here hx rfl (Jvm.hb hby at_144) rfl (l' := #[.val (.int ra), .val (.int rb), .val (.int rc), .val (.int rp), .val (.int rq), .val (.int (Int32.ofNat m1)), .val (.int (Int32.ofNat m2)), .val (.int (Int32.ofNat m3)), .val (.int (Int32.ofNat m4)), .val (.int q7), .val (.int (Int32.ofNat m17)), .val (.ref b12), .val (.ref b_21), .val (.int (Int32.ofNat m1)), .val (.int (Int32.ofNat m2)), .unset, .unset]) rfl ?_
            show Steps p.tables e below (T82.setTop (mkF m 146 #[.val (.int ra), .val (.int rb), .val (.int rc), .val (.int rp), .val (.int rq), .val (.int (Int32.ofNat m1)), .val (.int (Int32.ofNat m2)), .val (.int (Int32.ofNat m3)), .val (.int (Int32.ofNat m4)), .val (.int q7), .val (.int (Int32.ofNat m17)), .val (.ref b12), .val (.ref b_21), .val (.int (Int32.ofNat m1)), .val (.int (Int32.ofNat m2)), .unset, .unset] [])) _
            refine XS.goto X82.here hx rfl (pc0 := 146) (pc' := 160) rfl (Jvm.hb hby at_146) (by decide) (by decide) ?_
            show Steps p.tables e below (T82.setTop (mkF m 160 #[.val (.int ra), .val (.int rb), .val (.int rc), .val (.int rp), .val (.int rq), .val (.int (Int32.ofNat m1)), .val (.int (Int32.ofNat m2)), .val (.int (Int32.ofNat m3)), .val (.int (Int32.ofNat m4)), .val (.int q7), .val (.int (Int32.ofNat m17)), .val (.ref b12), .val (.ref b_21), .val (.int (Int32.ofNat m1)), .val (.int (Int32.ofNat m2)), .unset, .unset] [])) _
            show Steps p.tables e below (T82.setTop (mkF m 160 #[.val (.int ra), .val (.int rb), .val (.int rc), .val (.int rp), .val (.int rq), .val (.int (Int32.ofNat m1)), .val (.int (Int32.ofNat m2)), .val (.int (Int32.ofNat m3)), .val (.int (Int32.ofNat m4)), .val (.int q7), .val (.int (Int32.ofNat m17)), .val (.ref b12), .val (.ref b_21), .val (.int (Int32.ofNat m1)), .val (.int (Int32.ofNat m2)), .unset, .unset] [])) t_
            exact k_)
          exact ⟨T82, X82, e82, fun t_ k_ => s93 t_ (castTop (by simp only [hq86, hq87, if_neg h89, if_pos h92]) k_)⟩
        · have s94 : ∀ t_, Steps p.tables e below (T82.setTop (mkF m 160 #[.val (.int ra), .val (.int rb), .val (.int rc), .val (.int rp), .val (.int rq), .val (.int (Int32.ofNat m1)), .val (.int (Int32.ofNat m2)), .val (.int (Int32.ofNat m3)), .val (.int (Int32.ofNat m4)), .val (.int q7), .val (.int (Int32.ofNat m17)), .val (.ref b12), .val (.ref b_21), .val (.int ((Int32.ofNat m1) + (Int32.ofNat m2))), .val (.int (Int32.ofNat m3)), .unset, .unset] [])) t_ → Steps p.tables e below (s₁.setTop (entryFrame m #[(.int ra), (.int rb), (.int rc), (.int rp), (.int rq)] maxLocals)) t_ := fun t_ k_ => s91 t_ (by
            show Steps p.tables e below (T82.setTop (mkF m 135 #[.val (.int ra), .val (.int rb), .val (.int rc), .val (.int rp), .val (.int rq), .val (.int (Int32.ofNat m1)), .val (.int (Int32.ofNat m2)), .val (.int (Int32.ofNat m3)), .val (.int (Int32.ofNat m4)), .val (.int q7), .val (.int (Int32.ofNat m17)), .val (.ref b12), .val (.ref b_21), .unset, .unset, .unset, .unset] [(.int (1 : Int32)), (.int (Int32.ofNat m4))])) t_
            refine XS.icmpYes X82.here hx rfl (pc0 := 135) (pc' := 149) rfl (Jvm.hb hby at_135) rfl (feq h92).2 (by decide) (by decide) ?_
            show Steps p.tables e below (T82.setTop (mkF m 149 #[.val (.int ra), .val (.int rb), .val (.int rc), .val (.int rp), .val (.int rq), .val (.int (Int32.ofNat m1)), .val (.int (Int32.ofNat m2)), .val (.int (Int32.ofNat m3)), .val (.int (Int32.ofNat m4)), .val (.int q7), .val (.int (Int32.ofNat m17)), .val (.ref b12), .val (.ref b_21), .unset, .unset, .unset, .unset] [])) _
            refine XS.iload X82.here hx rfl (Jvm.hb hby at_149) rfl ?_
            show Steps p.tables e below (T82.setTop (mkF m 151 #[.val (.int ra), .val (.int rb), .val (.int rc), .val (.int rp), .val (.int rq), .val (.int (Int32.ofNat m1)), .val (.int (Int32.ofNat m2)), .val (.int (Int32.ofNat m3)), .val (.int (Int32.ofNat m4)), .val (.int q7), .val (.int (Int32.ofNat m17)), .val (.ref b12), .val (.ref b_21), .unset, .unset, .unset, .unset] [(.int (Int32.ofNat m1))])) _
            refine XS.iload X82.here hx rfl (Jvm.hb hby at_151) rfl ?_
            show Steps p.tables e below (T82.setTop (mkF m 153 #[.val (.int ra), .val (.int rb), .val (.int rc), .val (.int rp), .val (.int rq), .val (.int (Int32.ofNat m1)), .val (.int (Int32.ofNat m2)), .val (.int (Int32.ofNat m3)), .val (.int (Int32.ofNat m4)), .val (.int q7), .val (.int (Int32.ofNat m17)), .val (.ref b12), .val (.ref b_21), .unset, .unset, .unset, .unset] [(.int (Int32.ofNat m2)), (.int (Int32.ofNat m1))])) _
            refine XS.iadd X82.here hx rfl (Jvm.hb hby at_153) rfl ?_
            show Steps p.tables e below (T82.setTop (mkF m 154 #[.val (.int ra), .val (.int rb), .val (.int rc), .val (.int rp), .val (.int rq), .val (.int (Int32.ofNat m1)), .val (.int (Int32.ofNat m2)), .val (.int (Int32.ofNat m3)), .val (.int (Int32.ofNat m4)), .val (.int q7), .val (.int (Int32.ofNat m17)), .val (.ref b12), .val (.ref b_21), .unset, .unset, .unset, .unset] [(.int ((Int32.ofNat m1) + (Int32.ofNat m2)))])) _
            refine XS.istore X82.here hx rfl (Jvm.hb hby at_154) rfl (l' := #[.val (.int ra), .val (.int rb), .val (.int rc), .val (.int rp), .val (.int rq), .val (.int (Int32.ofNat m1)), .val (.int (Int32.ofNat m2)), .val (.int (Int32.ofNat m3)), .val (.int (Int32.ofNat m4)), .val (.int q7), .val (.int (Int32.ofNat m17)), .val (.ref b12), .val (.ref b_21), .val (.int ((Int32.ofNat m1) + (Int32.ofNat m2))), .unset, .unset, .unset]) rfl ?_
            show Steps p.tables e below (T82.setTop (mkF m 156 #[.val (.int ra), .val (.int rb), .val (.int rc), .val (.int rp), .val (.int rq), .val (.int (Int32.ofNat m1)), .val (.int (Int32.ofNat m2)), .val (.int (Int32.ofNat m3)), .val (.int (Int32.ofNat m4)), .val (.int q7), .val (.int (Int32.ofNat m17)), .val (.ref b12), .val (.ref b_21), .val (.int ((Int32.ofNat m1) + (Int32.ofNat m2))), .unset, .unset, .unset] [])) _
            refine XS.iload X82.here hx rfl (Jvm.hb hby at_156) rfl ?_
            show Steps p.tables e below (T82.setTop (mkF m 158 #[.val (.int ra), .val (.int rb), .val (.int rc), .val (.int rp), .val (.int rq), .val (.int (Int32.ofNat m1)), .val (.int (Int32.ofNat m2)), .val (.int (Int32.ofNat m3)), .val (.int (Int32.ofNat m4)), .val (.int q7), .val (.int (Int32.ofNat m17)), .val (.ref b12), .val (.ref b_21), .val (.int ((Int32.ofNat m1) + (Int32.ofNat m2))), .unset, .unset, .unset] [(.int (Int32.ofNat m3))])) _
            refine XS.istore X82.here hx rfl (Jvm.hb hby at_158) rfl (l' := #[.val (.int ra), .val (.int rb), .val (.int rc), .val (.int rp), .val (.int rq), .val (.int (Int32.ofNat m1)), .val (.int (Int32.ofNat m2)), .val (.int (Int32.ofNat m3)), .val (.int (Int32.ofNat m4)), .val (.int q7), .val (.int (Int32.ofNat m17)), .val (.ref b12), .val (.ref b_21), .val (.int ((Int32.ofNat m1) + (Int32.ofNat m2))), .val (.int (Int32.ofNat m3)), .unset, .unset]) rfl ?_
            show Steps p.tables e below (T82.setTop (mkF m 160 #[.val (.int ra), .val (.int rb), .val (.int rc), .val (.int rp), .val (.int rq), .val (.int (Int32.ofNat m1)), .val (.int (Int32.ofNat m2)), .val (.int (Int32.ofNat m3)), .val (.int (Int32.ofNat m4)), .val (.int q7), .val (.int (Int32.ofNat m17)), .val (.ref b12), .val (.ref b_21), .val (.int ((Int32.ofNat m1) + (Int32.ofNat m2))), .val (.int (Int32.ofNat m3)), .unset, .unset] [])) _
            show Steps p.tables e below (T82.setTop (mkF m 160 #[.val (.int ra), .val (.int rb), .val (.int rc), .val (.int rp), .val (.int rq), .val (.int (Int32.ofNat m1)), .val (.int (Int32.ofNat m2)), .val (.int (Int32.ofNat m3)), .val (.int (Int32.ofNat m4)), .val (.int q7), .val (.int (Int32.ofNat m17)), .val (.ref b12), .val (.ref b_21), .val (.int ((Int32.ofNat m1) + (Int32.ofNat m2))), .val (.int (Int32.ofNat m3)), .unset, .unset] [])) t_
            exact k_)
          exact ⟨T82, X82, e82, fun t_ k_ => s94 t_ (castTop (by simp only [hq86, hq87, if_neg h89, if_neg h92]) k_)⟩)
    have s95 : ∀ t_, Steps p.tables e below (T88.setTop (mkF m 164 #[.val (.int ra), .val (.int rb), .val (.int rc), .val (.int rp), .val (.int rq), .val (.int (Int32.ofNat m1)), .val (.int (Int32.ofNat m2)), .val (.int (Int32.ofNat m3)), .val (.int (Int32.ofNat m4)), .val (.int q7), .val (.int (Int32.ofNat m17)), .val (.ref b12), .val (.ref b_21), .val (.int q86), .val (.int q87), .unset, .unset] [(.int (Int32.ofNat m4)), (.ref b12)])) t_ → Steps p.tables e below (s₁.setTop (entryFrame m #[(.int ra), (.int rb), (.int rc), (.int rp), (.int rq)] maxLocals)) t_ := fun t_ k_ => s88 t_ (by
      show Steps p.tables e below (T88.setTop (mkF m 160 #[.val (.int ra), .val (.int rb), .val (.int rc), .val (.int rp), .val (.int rq), .val (.int (Int32.ofNat m1)), .val (.int (Int32.ofNat m2)), .val (.int (Int32.ofNat m3)), .val (.int (Int32.ofNat m4)), .val (.int q7), .val (.int (Int32.ofNat m17)), .val (.ref b12), .val (.ref b_21), .val (.int q86), .val (.int q87), .unset, .unset] [])) t_
      refine XS.aload X88.here hx rfl (Jvm.hb hby at_160) rfl rfl ?_
      show Steps p.tables e below (T88.setTop (mkF m 162 #[.val (.int ra), .val (.int rb), .val (.int rc), .val (.int rp), .val (.int rq), .val (.int (Int32.ofNat m1)), .val (.int (Int32.ofNat m2)), .val (.int (Int32.ofNat m3)), .val (.int (Int32.ofNat m4)), .val (.int q7), .val (.int (Int32.ofNat m17)), .val (.ref b12), .val (.ref b_21), .val (.int q86), .val (.int q87), .unset, .unset] [(.ref b12)])) _
      refine XS.iload X88.here hx rfl (Jvm.hb hby at_162) rfl ?_
      show Steps p.tables e below (T88.setTop (mkF m 164 #[.val (.int ra), .val (.int rb), .val (.int rc), .val (.int rp), .val (.int rq), .val (.int (Int32.ofNat m1)), .val (.int (Int32.ofNat m2)), .val (.int (Int32.ofNat m3)), .val (.int (Int32.ofNat m4)), .val (.int q7), .val (.int (Int32.ofNat m17)), .val (.ref b12), .val (.ref b_21), .val (.int q86), .val (.int q87), .unset, .unset] [(.int (Int32.ofNat m4)), (.ref b12)])) _
      show Steps p.tables e below (T88.setTop (mkF m 164 #[.val (.int ra), .val (.int rb), .val (.int rc), .val (.int rp), .val (.int rq), .val (.int (Int32.ofNat m1)), .val (.int (Int32.ofNat m2)), .val (.int (Int32.ofNat m3)), .val (.int (Int32.ofNat m4)), .val (.int q7), .val (.int (Int32.ofNat m17)), .val (.ref b12), .val (.ref b_21), .val (.int q86), .val (.int q87), .unset, .unset] [(.int (Int32.ofNat m4)), (.ref b12)])) t_
      exact k_)
    have Zc96 : n0 ≤ h82.size := by omega
    obtain ⟨cq97, kq97, q97a, q97b, q97c⟩ := isOf hZ e88 Fq82_0
    obtain ⟨_, _, ⟨T97, L97, k97, n97⟩, -, X97, ⟨Lc97, hQ97, l97, y97, z97⟩, st97⟩ := X88.virtualBack hx (y := (⟨"com/example/bezugswerk/bezugswerk/DecodedParts", "start", "(I)I"⟩ : MethodName)) (z := (⟨"com/example/bezugswerk/bezugswerk/DecodedParts", "start", "(I)I"⟩ : MethodName)) hown (mvT hZ (hw _ (List.mem_of_getElem? (i := 86) rfl))) (mvT hZ (hw _ (List.mem_of_getElem? (i := 87) rfl))) (notFace_of_selects (args := #[]) (mvT hZ (hw _ (List.mem_of_getElem? (i := 89) rfl)))) (mvT hZ (hw _ (List.mem_of_getElem? (i := 89) rfl))) (mvT hZ (hw _ (List.mem_of_getElem? (i := 88) rfl))) (by decide) (backOf (W := 0) (rmStart l Z a0 hw [] b12 ea_21 ke_21 (Int32.ofNat (0 + m1)) (Int32.ofNat ((0 + m1) + m2)) (Int32.ofNat (((0 + m1) + m2) + m3)) m4 h82 n0 Zc96 Fq82_0 Fq82_2 V84 (by first | assumption | rfl | decide | omega : m4 < 3)) hZ (hw _ (List.mem_of_getElem? (i := 90) rfl)) (hw _ (List.mem_of_getElem? (i := 3) rfl)) (by decide) (by decide)) q97a q97c (g := (mkF m 164 #[.val (.int ra), .val (.int rb), .val (.int rc), .val (.int rp), .val (.int rq), .val (.int (Int32.ofNat m1)), .val (.int (Int32.ofNat m2)), .val (.int (Int32.ofNat m3)), .val (.int (Int32.ofNat m4)), .val (.int q7), .val (.int (Int32.ofNat m17)), .val (.ref b12), .val (.ref b_21), .val (.int q86), .val (.int q87), .unset, .unset] [(.int (Int32.ofNat m4)), (.ref b12)])) rfl (by rw [hml]; rfl) (Steps.refl _) (argsL := [(.int (Int32.ofNat m4))]) (rest := []) (lenOf pd__I_I rfl) rfl (by show 2 * 0 + _ ≤ _; exact Nat.le_of_eq rfl) (Jvm.hb hby at_164) (fun _ _ => ⟨rfl, e88, (by decide : 4 + 0 ≤ _), (by decide : 39 + 0 ≤ _)⟩)
    dsimp only [Pt.U, Pt.locs, Pt.cells, Pt.slots] at X97 l97 y97 z97 st97 hQ97
    subst l97 y97 z97
    obtain ⟨rfl, N97q, e97⟩ := hQ97
    have N97 := Fr.app N82 N97q
    obtain ⟨q98, hq98⟩ : ∃ z : Int32, z = (own_pick m4 (0 : Int32) (Int32.ofNat (0 + m1)) (Int32.ofNat ((0 + m1) + m2))) := ⟨_, rfl⟩
    rw [← hq98] at st97
    have s99 : ∀ t_, Steps p.tables e below (T97.setTop (mkF m 173 #[.val (.int ra), .val (.int rb), .val (.int rc), .val (.int rp), .val (.int rq), .val (.int (Int32.ofNat m1)), .val (.int (Int32.ofNat m2)), .val (.int (Int32.ofNat m3)), .val (.int (Int32.ofNat m4)), .val (.int q7), .val (.int (Int32.ofNat m17)), .val (.ref b12), .val (.ref b_21), .val (.int q86), .val (.int q87), .val (.int q98), .unset] [(.int (Int32.ofNat m4)), (.ref b12)])) t_ → Steps p.tables e below (s₁.setTop (entryFrame m #[(.int ra), (.int rb), (.int rc), (.int rp), (.int rq)] maxLocals)) t_ := fun t_ k_ => s95 t_ (by
      show Steps p.tables e below (T88.setTop (mkF m 164 #[.val (.int ra), .val (.int rb), .val (.int rc), .val (.int rp), .val (.int rq), .val (.int (Int32.ofNat m1)), .val (.int (Int32.ofNat m2)), .val (.int (Int32.ofNat m3)), .val (.int (Int32.ofNat m4)), .val (.int q7), .val (.int (Int32.ofNat m17)), .val (.ref b12), .val (.ref b_21), .val (.int q86), .val (.int q87), .unset, .unset] [(.int (Int32.ofNat m4)), (.ref b12)])) t_
      refine st97.trans ?_
      show Steps p.tables e below (T97.setTop (mkF m 167 #[.val (.int ra), .val (.int rb), .val (.int rc), .val (.int rp), .val (.int rq), .val (.int (Int32.ofNat m1)), .val (.int (Int32.ofNat m2)), .val (.int (Int32.ofNat m3)), .val (.int (Int32.ofNat m4)), .val (.int q7), .val (.int (Int32.ofNat m17)), .val (.ref b12), .val (.ref b_21), .val (.int q86), .val (.int q87), .unset, .unset] [(.int q98)])) _
      refine XS.istore X97.here hx rfl (Jvm.hb hby at_167) rfl (l' := #[.val (.int ra), .val (.int rb), .val (.int rc), .val (.int rp), .val (.int rq), .val (.int (Int32.ofNat m1)), .val (.int (Int32.ofNat m2)), .val (.int (Int32.ofNat m3)), .val (.int (Int32.ofNat m4)), .val (.int q7), .val (.int (Int32.ofNat m17)), .val (.ref b12), .val (.ref b_21), .val (.int q86), .val (.int q87), .val (.int q98), .unset]) rfl ?_
      show Steps p.tables e below (T97.setTop (mkF m 169 #[.val (.int ra), .val (.int rb), .val (.int rc), .val (.int rp), .val (.int rq), .val (.int (Int32.ofNat m1)), .val (.int (Int32.ofNat m2)), .val (.int (Int32.ofNat m3)), .val (.int (Int32.ofNat m4)), .val (.int q7), .val (.int (Int32.ofNat m17)), .val (.ref b12), .val (.ref b_21), .val (.int q86), .val (.int q87), .val (.int q98), .unset] [])) _
      refine XS.aload X97.here hx rfl (Jvm.hb hby at_169) rfl rfl ?_
      show Steps p.tables e below (T97.setTop (mkF m 171 #[.val (.int ra), .val (.int rb), .val (.int rc), .val (.int rp), .val (.int rq), .val (.int (Int32.ofNat m1)), .val (.int (Int32.ofNat m2)), .val (.int (Int32.ofNat m3)), .val (.int (Int32.ofNat m4)), .val (.int q7), .val (.int (Int32.ofNat m17)), .val (.ref b12), .val (.ref b_21), .val (.int q86), .val (.int q87), .val (.int q98), .unset] [(.ref b12)])) _
      refine XS.iload X97.here hx rfl (Jvm.hb hby at_171) rfl ?_
      show Steps p.tables e below (T97.setTop (mkF m 173 #[.val (.int ra), .val (.int rb), .val (.int rc), .val (.int rp), .val (.int rq), .val (.int (Int32.ofNat m1)), .val (.int (Int32.ofNat m2)), .val (.int (Int32.ofNat m3)), .val (.int (Int32.ofNat m4)), .val (.int q7), .val (.int (Int32.ofNat m17)), .val (.ref b12), .val (.ref b_21), .val (.int q86), .val (.int q87), .val (.int q98), .unset] [(.int (Int32.ofNat m4)), (.ref b12)])) _
      show Steps p.tables e below (T97.setTop (mkF m 173 #[.val (.int ra), .val (.int rb), .val (.int rc), .val (.int rp), .val (.int rq), .val (.int (Int32.ofNat m1)), .val (.int (Int32.ofNat m2)), .val (.int (Int32.ofNat m3)), .val (.int (Int32.ofNat m4)), .val (.int q7), .val (.int (Int32.ofNat m17)), .val (.ref b12), .val (.ref b_21), .val (.int q86), .val (.int q87), .val (.int q98), .unset] [(.int (Int32.ofNat m4)), (.ref b12)])) t_
      exact k_)
    have Zc100 : n0 ≤ h82.size := by omega
    obtain ⟨cq101, kq101, q101a, q101b, q101c⟩ := isOf hZ e97 Fq82_0
    obtain ⟨_, _, ⟨T101, L101, k101, n101⟩, -, X101, ⟨Lc101, hQ101, l101, y101, z101⟩, st101⟩ := X97.virtualBack hx (y := (⟨"com/example/bezugswerk/bezugswerk/DecodedParts", "end", "(I)I"⟩ : MethodName)) (z := (⟨"com/example/bezugswerk/bezugswerk/DecodedParts", "end", "(I)I"⟩ : MethodName)) hown (mvT hZ (hw _ (List.mem_of_getElem? (i := 91) rfl))) (mvT hZ (hw _ (List.mem_of_getElem? (i := 92) rfl))) (notFace_of_selects (args := #[]) (mvT hZ (hw _ (List.mem_of_getElem? (i := 94) rfl)))) (mvT hZ (hw _ (List.mem_of_getElem? (i := 94) rfl))) (mvT hZ (hw _ (List.mem_of_getElem? (i := 93) rfl))) (by decide) (backOf (W := 0) (rmEndOf l Z a0 hw [] b12 ea_21 ke_21 (Int32.ofNat (0 + m1)) (Int32.ofNat ((0 + m1) + m2)) (Int32.ofNat (((0 + m1) + m2) + m3)) m4 h82 n0 Zc100 Fq82_0 Fq82_2 V84 (by first | assumption | rfl | decide | omega : m4 < 3)) hZ (hw _ (List.mem_of_getElem? (i := 95) rfl)) (hw _ (List.mem_of_getElem? (i := 3) rfl)) (by decide) (by decide)) q101a q101c (g := (mkF m 173 #[.val (.int ra), .val (.int rb), .val (.int rc), .val (.int rp), .val (.int rq), .val (.int (Int32.ofNat m1)), .val (.int (Int32.ofNat m2)), .val (.int (Int32.ofNat m3)), .val (.int (Int32.ofNat m4)), .val (.int q7), .val (.int (Int32.ofNat m17)), .val (.ref b12), .val (.ref b_21), .val (.int q86), .val (.int q87), .val (.int q98), .unset] [(.int (Int32.ofNat m4)), (.ref b12)])) rfl (by rw [hml]; rfl) (Steps.refl _) (argsL := [(.int (Int32.ofNat m4))]) (rest := []) (lenOf pd__I_I rfl) rfl (by show 2 * 0 + _ ≤ _; exact Nat.le_of_eq rfl) (Jvm.hb hby at_173) (fun _ _ => ⟨rfl, e97, (by decide : 4 + 0 ≤ _), (by decide : 39 + 0 ≤ _)⟩)
    dsimp only [Pt.U, Pt.locs, Pt.cells, Pt.slots] at X101 l101 y101 z101 st101 hQ101
    subst l101 y101 z101
    obtain ⟨rfl, N101q, e101⟩ := hQ101
    have N101 := Fr.app N97 N101q
    obtain ⟨q102, hq102⟩ : ∃ z : Int32, z = (own_pick m4 (Int32.ofNat (0 + m1)) (Int32.ofNat ((0 + m1) + m2)) (Int32.ofNat (((0 + m1) + m2) + m3))) := ⟨_, rfl⟩
    rw [← hq102] at st101
    have s103 : ∀ t_, Steps p.tables e below (T101.setTop (mkF m 182 #[.val (.int ra), .val (.int rb), .val (.int rc), .val (.int rp), .val (.int rq), .val (.int (Int32.ofNat m1)), .val (.int (Int32.ofNat m2)), .val (.int (Int32.ofNat m3)), .val (.int (Int32.ofNat m4)), .val (.int q7), .val (.int (Int32.ofNat m17)), .val (.ref b12), .val (.ref b_21), .val (.int q86), .val (.int q87), .val (.int q98), .val (.int q102)] [(.int q86), (.int q98)])) t_ → Steps p.tables e below (s₁.setTop (entryFrame m #[(.int ra), (.int rb), (.int rc), (.int rp), (.int rq)] maxLocals)) t_ := fun t_ k_ => s99 t_ (by
      show Steps p.tables e below (T97.setTop (mkF m 173 #[.val (.int ra), .val (.int rb), .val (.int rc), .val (.int rp), .val (.int rq), .val (.int (Int32.ofNat m1)), .val (.int (Int32.ofNat m2)), .val (.int (Int32.ofNat m3)), .val (.int (Int32.ofNat m4)), .val (.int q7), .val (.int (Int32.ofNat m17)), .val (.ref b12), .val (.ref b_21), .val (.int q86), .val (.int q87), .val (.int q98), .unset] [(.int (Int32.ofNat m4)), (.ref b12)])) t_
      refine st101.trans ?_
      show Steps p.tables e below (T101.setTop (mkF m 176 #[.val (.int ra), .val (.int rb), .val (.int rc), .val (.int rp), .val (.int rq), .val (.int (Int32.ofNat m1)), .val (.int (Int32.ofNat m2)), .val (.int (Int32.ofNat m3)), .val (.int (Int32.ofNat m4)), .val (.int q7), .val (.int (Int32.ofNat m17)), .val (.ref b12), .val (.ref b_21), .val (.int q86), .val (.int q87), .val (.int q98), .unset] [(.int q102)])) _
      refine XS.istore X101.here hx rfl (Jvm.hb hby at_176) rfl (l' := #[.val (.int ra), .val (.int rb), .val (.int rc), .val (.int rp), .val (.int rq), .val (.int (Int32.ofNat m1)), .val (.int (Int32.ofNat m2)), .val (.int (Int32.ofNat m3)), .val (.int (Int32.ofNat m4)), .val (.int q7), .val (.int (Int32.ofNat m17)), .val (.ref b12), .val (.ref b_21), .val (.int q86), .val (.int q87), .val (.int q98), .val (.int q102)]) rfl ?_
      show Steps p.tables e below (T101.setTop (mkF m 178 #[.val (.int ra), .val (.int rb), .val (.int rc), .val (.int rp), .val (.int rq), .val (.int (Int32.ofNat m1)), .val (.int (Int32.ofNat m2)), .val (.int (Int32.ofNat m3)), .val (.int (Int32.ofNat m4)), .val (.int q7), .val (.int (Int32.ofNat m17)), .val (.ref b12), .val (.ref b_21), .val (.int q86), .val (.int q87), .val (.int q98), .val (.int q102)] [])) _
      refine XS.iload X101.here hx rfl (Jvm.hb hby at_178) rfl ?_
      show Steps p.tables e below (T101.setTop (mkF m 180 #[.val (.int ra), .val (.int rb), .val (.int rc), .val (.int rp), .val (.int rq), .val (.int (Int32.ofNat m1)), .val (.int (Int32.ofNat m2)), .val (.int (Int32.ofNat m3)), .val (.int (Int32.ofNat m4)), .val (.int q7), .val (.int (Int32.ofNat m17)), .val (.ref b12), .val (.ref b_21), .val (.int q86), .val (.int q87), .val (.int q98), .val (.int q102)] [(.int q98)])) _
      refine XS.iload X101.here hx rfl (Jvm.hb hby at_180) rfl ?_
      show Steps p.tables e below (T101.setTop (mkF m 182 #[.val (.int ra), .val (.int rb), .val (.int rc), .val (.int rp), .val (.int rq), .val (.int (Int32.ofNat m1)), .val (.int (Int32.ofNat m2)), .val (.int (Int32.ofNat m3)), .val (.int (Int32.ofNat m4)), .val (.int q7), .val (.int (Int32.ofNat m17)), .val (.ref b12), .val (.ref b_21), .val (.int q86), .val (.int q87), .val (.int q98), .val (.int q102)] [(.int q86), (.int q98)])) _
      show Steps p.tables e below (T101.setTop (mkF m 182 #[.val (.int ra), .val (.int rb), .val (.int rc), .val (.int rp), .val (.int rq), .val (.int (Int32.ofNat m1)), .val (.int (Int32.ofNat m2)), .val (.int (Int32.ofNat m3)), .val (.int (Int32.ofNat m4)), .val (.int q7), .val (.int (Int32.ofNat m17)), .val (.ref b12), .val (.ref b_21), .val (.int q86), .val (.int q87), .val (.int q98), .val (.int q102)] [(.int q86), (.int q98)])) t_
      exact k_)
    obtain ⟨q104, hq104⟩ : ∃ z : Int32, z = (if q98 = q86 then (if (q102 - q98) = q87 then (1 : Int32) else (0 : Int32)) else (0 : Int32)) := ⟨_, rfl⟩
    obtain ⟨T105, X105, e105, s105⟩ := seg X101 (fun T' => T'.heap = h82 ∧ ∀ t_, Steps p.tables e below (T'.setTop (mkF m 200 #[.val (.int ra), .val (.int rb), .val (.int rc), .val (.int rp), .val (.int rq), .val (.int (Int32.ofNat m1)), .val (.int (Int32.ofNat m2)), .val (.int (Int32.ofNat m3)), .val (.int (Int32.ofNat m4)), .val (.int q7), .val (.int (Int32.ofNat m17)), .val (.ref b12), .val (.ref b_21), .val (.int q86), .val (.int q87), .val (.int q98), .val (.int q102)] [(.int q104)])) t_ → Steps p.tables e below (s₁.setTop (entryFrame m #[(.int ra), (.int rb), (.int rc), (.int rp), (.int rq)] maxLocals)) t_) (by
      by_cases h106 : q98 = q86
      · have s107 : ∀ t_, Steps p.tables e below (T101.setTop (mkF m 192 #[.val (.int ra), .val (.int rb), .val (.int rc), .val (.int rp), .val (.int rq), .val (.int (Int32.ofNat m1)), .val (.int (Int32.ofNat m2)), .val (.int (Int32.ofNat m3)), .val (.int (Int32.ofNat m4)), .val (.int q7), .val (.int (Int32.ofNat m17)), .val (.ref b12), .val (.ref b_21), .val (.int q86), .val (.int q87), .val (.int q98), .val (.int q102)] [(.int q87), (.int (q102 - q98))])) t_ → Steps p.tables e below (s₁.setTop (entryFrame m #[(.int ra), (.int rb), (.int rc), (.int rp), (.int rq)] maxLocals)) t_ := fun t_ k_ => s103 t_ (by
          show Steps p.tables e below (T101.setTop (mkF m 182 #[.val (.int ra), .val (.int rb), .val (.int rc), .val (.int rp), .val (.int rq), .val (.int (Int32.ofNat m1)), .val (.int (Int32.ofNat m2)), .val (.int (Int32.ofNat m3)), .val (.int (Int32.ofNat m4)), .val (.int q7), .val (.int (Int32.ofNat m17)), .val (.ref b12), .val (.ref b_21), .val (.int q86), .val (.int q87), .val (.int q98), .val (.int q102)] [(.int q86), (.int q98)])) t_
          refine XS.icmpNo X101.here hx rfl (Jvm.hb hby at_182) rfl (teq h106).2 ?_
          show Steps p.tables e below (T101.setTop (mkF m 185 #[.val (.int ra), .val (.int rb), .val (.int rc), .val (.int rp), .val (.int rq), .val (.int (Int32.ofNat m1)), .val (.int (Int32.ofNat m2)), .val (.int (Int32.ofNat m3)), .val (.int (Int32.ofNat m4)), .val (.int q7), .val (.int (Int32.ofNat m17)), .val (.ref b12), .val (.ref b_21), .val (.int q86), .val (.int q87), .val (.int q98), .val (.int q102)] [])) _
          refine XS.iload X101.here hx rfl (Jvm.hb hby at_185) rfl ?_
          show Steps p.tables e below (T101.setTop (mkF m 187 #[.val (.int ra), .val (.int rb), .val (.int rc), .val (.int rp), .val (.int rq), .val (.int (Int32.ofNat m1)), .val (.int (Int32.ofNat m2)), .val (.int (Int32.ofNat m3)), .val (.int (Int32.ofNat m4)), .val (.int q7), .val (.int (Int32.ofNat m17)), .val (.ref b12), .val (.ref b_21), .val (.int q86), .val (.int q87), .val (.int q98), .val (.int q102)] [(.int q102)])) _
          refine XS.iload X101.here hx rfl (Jvm.hb hby at_187) rfl ?_
          show Steps p.tables e below (T101.setTop (mkF m 189 #[.val (.int ra), .val (.int rb), .val (.int rc), .val (.int rp), .val (.int rq), .val (.int (Int32.ofNat m1)), .val (.int (Int32.ofNat m2)), .val (.int (Int32.ofNat m3)), .val (.int (Int32.ofNat m4)), .val (.int q7), .val (.int (Int32.ofNat m17)), .val (.ref b12), .val (.ref b_21), .val (.int q86), .val (.int q87), .val (.int q98), .val (.int q102)] [(.int q98), (.int q102)])) _
          refine XS.isub X101.here hx rfl (Jvm.hb hby at_189) rfl ?_
          show Steps p.tables e below (T101.setTop (mkF m 190 #[.val (.int ra), .val (.int rb), .val (.int rc), .val (.int rp), .val (.int rq), .val (.int (Int32.ofNat m1)), .val (.int (Int32.ofNat m2)), .val (.int (Int32.ofNat m3)), .val (.int (Int32.ofNat m4)), .val (.int q7), .val (.int (Int32.ofNat m17)), .val (.ref b12), .val (.ref b_21), .val (.int q86), .val (.int q87), .val (.int q98), .val (.int q102)] [(.int (q102 - q98))])) _
          refine XS.iload X101.here hx rfl (Jvm.hb hby at_190) rfl ?_
          show Steps p.tables e below (T101.setTop (mkF m 192 #[.val (.int ra), .val (.int rb), .val (.int rc), .val (.int rp), .val (.int rq), .val (.int (Int32.ofNat m1)), .val (.int (Int32.ofNat m2)), .val (.int (Int32.ofNat m3)), .val (.int (Int32.ofNat m4)), .val (.int q7), .val (.int (Int32.ofNat m17)), .val (.ref b12), .val (.ref b_21), .val (.int q86), .val (.int q87), .val (.int q98), .val (.int q102)] [(.int q87), (.int (q102 - q98))])) _
          show Steps p.tables e below (T101.setTop (mkF m 192 #[.val (.int ra), .val (.int rb), .val (.int rc), .val (.int rp), .val (.int rq), .val (.int (Int32.ofNat m1)), .val (.int (Int32.ofNat m2)), .val (.int (Int32.ofNat m3)), .val (.int (Int32.ofNat m4)), .val (.int q7), .val (.int (Int32.ofNat m17)), .val (.ref b12), .val (.ref b_21), .val (.int q86), .val (.int q87), .val (.int q98), .val (.int q102)] [(.int q87), (.int (q102 - q98))])) t_
          exact k_)
        by_cases h108 : (q102 - q98) = q87
        · have s109 : ∀ t_, Steps p.tables e below (T101.setTop (mkF m 200 #[.val (.int ra), .val (.int rb), .val (.int rc), .val (.int rp), .val (.int rq), .val (.int (Int32.ofNat m1)), .val (.int (Int32.ofNat m2)), .val (.int (Int32.ofNat m3)), .val (.int (Int32.ofNat m4)), .val (.int q7), .val (.int (Int32.ofNat m17)), .val (.ref b12), .val (.ref b_21), .val (.int q86), .val (.int q87), .val (.int q98), .val (.int q102)] [(.int (1 : Int32))])) t_ → Steps p.tables e below (s₁.setTop (entryFrame m #[(.int ra), (.int rb), (.int rc), (.int rp), (.int rq)] maxLocals)) t_ := fun t_ k_ => s107 t_ (by
            show Steps p.tables e below (T101.setTop (mkF m 192 #[.val (.int ra), .val (.int rb), .val (.int rc), .val (.int rp), .val (.int rq), .val (.int (Int32.ofNat m1)), .val (.int (Int32.ofNat m2)), .val (.int (Int32.ofNat m3)), .val (.int (Int32.ofNat m4)), .val (.int q7), .val (.int (Int32.ofNat m17)), .val (.ref b12), .val (.ref b_21), .val (.int q86), .val (.int q87), .val (.int q98), .val (.int q102)] [(.int q87), (.int (q102 - q98))])) t_
            refine XS.icmpNo X101.here hx rfl (Jvm.hb hby at_192) rfl (teq h108).2 ?_
            show Steps p.tables e below (T101.setTop (mkF m 195 #[.val (.int ra), .val (.int rb), .val (.int rc), .val (.int rp), .val (.int rq), .val (.int (Int32.ofNat m1)), .val (.int (Int32.ofNat m2)), .val (.int (Int32.ofNat m3)), .val (.int (Int32.ofNat m4)), .val (.int q7), .val (.int (Int32.ofNat m17)), .val (.ref b12), .val (.ref b_21), .val (.int q86), .val (.int q87), .val (.int q98), .val (.int q102)] [])) _
            refine XS.iconst X101.here hx rfl (Jvm.hb hby at_195) ?_
            show Steps p.tables e below (T101.setTop (mkF m 196 #[.val (.int ra), .val (.int rb), .val (.int rc), .val (.int rp), .val (.int rq), .val (.int (Int32.ofNat m1)), .val (.int (Int32.ofNat m2)), .val (.int (Int32.ofNat m3)), .val (.int (Int32.ofNat m4)), .val (.int q7), .val (.int (Int32.ofNat m17)), .val (.ref b12), .val (.ref b_21), .val (.int q86), .val (.int q87), .val (.int q98), .val (.int q102)] [(.int (1 : Int32))])) _
            refine XS.goto X101.here hx rfl (pc0 := 196) (pc' := 200) rfl (Jvm.hb hby at_196) (by decide) (by decide) ?_
            show Steps p.tables e below (T101.setTop (mkF m 200 #[.val (.int ra), .val (.int rb), .val (.int rc), .val (.int rp), .val (.int rq), .val (.int (Int32.ofNat m1)), .val (.int (Int32.ofNat m2)), .val (.int (Int32.ofNat m3)), .val (.int (Int32.ofNat m4)), .val (.int q7), .val (.int (Int32.ofNat m17)), .val (.ref b12), .val (.ref b_21), .val (.int q86), .val (.int q87), .val (.int q98), .val (.int q102)] [(.int (1 : Int32))])) _
            show Steps p.tables e below (T101.setTop (mkF m 200 #[.val (.int ra), .val (.int rb), .val (.int rc), .val (.int rp), .val (.int rq), .val (.int (Int32.ofNat m1)), .val (.int (Int32.ofNat m2)), .val (.int (Int32.ofNat m3)), .val (.int (Int32.ofNat m4)), .val (.int q7), .val (.int (Int32.ofNat m17)), .val (.ref b12), .val (.ref b_21), .val (.int q86), .val (.int q87), .val (.int q98), .val (.int q102)] [(.int (1 : Int32))])) t_
            exact k_)
          exact ⟨T101, X101, e101, fun t_ k_ => s109 t_ (castTop (by simp only [hq104, if_pos h106, if_pos h108]) k_)⟩
        · have s110 : ∀ t_, Steps p.tables e below (T101.setTop (mkF m 200 #[.val (.int ra), .val (.int rb), .val (.int rc), .val (.int rp), .val (.int rq), .val (.int (Int32.ofNat m1)), .val (.int (Int32.ofNat m2)), .val (.int (Int32.ofNat m3)), .val (.int (Int32.ofNat m4)), .val (.int q7), .val (.int (Int32.ofNat m17)), .val (.ref b12), .val (.ref b_21), .val (.int q86), .val (.int q87), .val (.int q98), .val (.int q102)] [(.int (0 : Int32))])) t_ → Steps p.tables e below (s₁.setTop (entryFrame m #[(.int ra), (.int rb), (.int rc), (.int rp), (.int rq)] maxLocals)) t_ := fun t_ k_ => s107 t_ (by
            show Steps p.tables e below (T101.setTop (mkF m 192 #[.val (.int ra), .val (.int rb), .val (.int rc), .val (.int rp), .val (.int rq), .val (.int (Int32.ofNat m1)), .val (.int (Int32.ofNat m2)), .val (.int (Int32.ofNat m3)), .val (.int (Int32.ofNat m4)), .val (.int q7), .val (.int (Int32.ofNat m17)), .val (.ref b12), .val (.ref b_21), .val (.int q86), .val (.int q87), .val (.int q98), .val (.int q102)] [(.int q87), (.int (q102 - q98))])) t_
            refine XS.icmpYes X101.here hx rfl (pc0 := 192) (pc' := 199) rfl (Jvm.hb hby at_192) rfl (feq h108).2 (by decide) (by decide) ?_
            show Steps p.tables e below (T101.setTop (mkF m 199 #[.val (.int ra), .val (.int rb), .val (.int rc), .val (.int rp), .val (.int rq), .val (.int (Int32.ofNat m1)), .val (.int (Int32.ofNat m2)), .val (.int (Int32.ofNat m3)), .val (.int (Int32.ofNat m4)), .val (.int q7), .val (.int (Int32.ofNat m17)), .val (.ref b12), .val (.ref b_21), .val (.int q86), .val (.int q87), .val (.int q98), .val (.int q102)] [])) _
            refine XS.iconst X101.here hx rfl (Jvm.hb hby at_199) ?_
            show Steps p.tables e below (T101.setTop (mkF m 200 #[.val (.int ra), .val (.int rb), .val (.int rc), .val (.int rp), .val (.int rq), .val (.int (Int32.ofNat m1)), .val (.int (Int32.ofNat m2)), .val (.int (Int32.ofNat m3)), .val (.int (Int32.ofNat m4)), .val (.int q7), .val (.int (Int32.ofNat m17)), .val (.ref b12), .val (.ref b_21), .val (.int q86), .val (.int q87), .val (.int q98), .val (.int q102)] [(.int (0 : Int32))])) _
            show Steps p.tables e below (T101.setTop (mkF m 200 #[.val (.int ra), .val (.int rb), .val (.int rc), .val (.int rp), .val (.int rq), .val (.int (Int32.ofNat m1)), .val (.int (Int32.ofNat m2)), .val (.int (Int32.ofNat m3)), .val (.int (Int32.ofNat m4)), .val (.int q7), .val (.int (Int32.ofNat m17)), .val (.ref b12), .val (.ref b_21), .val (.int q86), .val (.int q87), .val (.int q98), .val (.int q102)] [(.int (0 : Int32))])) t_
            exact k_)
          exact ⟨T101, X101, e101, fun t_ k_ => s110 t_ (castTop (by simp only [hq104, if_pos h106, if_neg h108]) k_)⟩
      · have s111 : ∀ t_, Steps p.tables e below (T101.setTop (mkF m 200 #[.val (.int ra), .val (.int rb), .val (.int rc), .val (.int rp), .val (.int rq), .val (.int (Int32.ofNat m1)), .val (.int (Int32.ofNat m2)), .val (.int (Int32.ofNat m3)), .val (.int (Int32.ofNat m4)), .val (.int q7), .val (.int (Int32.ofNat m17)), .val (.ref b12), .val (.ref b_21), .val (.int q86), .val (.int q87), .val (.int q98), .val (.int q102)] [(.int (0 : Int32))])) t_ → Steps p.tables e below (s₁.setTop (entryFrame m #[(.int ra), (.int rb), (.int rc), (.int rp), (.int rq)] maxLocals)) t_ := fun t_ k_ => s103 t_ (by
          show Steps p.tables e below (T101.setTop (mkF m 182 #[.val (.int ra), .val (.int rb), .val (.int rc), .val (.int rp), .val (.int rq), .val (.int (Int32.ofNat m1)), .val (.int (Int32.ofNat m2)), .val (.int (Int32.ofNat m3)), .val (.int (Int32.ofNat m4)), .val (.int q7), .val (.int (Int32.ofNat m17)), .val (.ref b12), .val (.ref b_21), .val (.int q86), .val (.int q87), .val (.int q98), .val (.int q102)] [(.int q86), (.int q98)])) t_
          refine XS.icmpYes X101.here hx rfl (pc0 := 182) (pc' := 199) rfl (Jvm.hb hby at_182) rfl (feq h106).2 (by decide) (by decide) ?_
          show Steps p.tables e below (T101.setTop (mkF m 199 #[.val (.int ra), .val (.int rb), .val (.int rc), .val (.int rp), .val (.int rq), .val (.int (Int32.ofNat m1)), .val (.int (Int32.ofNat m2)), .val (.int (Int32.ofNat m3)), .val (.int (Int32.ofNat m4)), .val (.int q7), .val (.int (Int32.ofNat m17)), .val (.ref b12), .val (.ref b_21), .val (.int q86), .val (.int q87), .val (.int q98), .val (.int q102)] [])) _
          refine XS.iconst X101.here hx rfl (Jvm.hb hby at_199) ?_
          show Steps p.tables e below (T101.setTop (mkF m 200 #[.val (.int ra), .val (.int rb), .val (.int rc), .val (.int rp), .val (.int rq), .val (.int (Int32.ofNat m1)), .val (.int (Int32.ofNat m2)), .val (.int (Int32.ofNat m3)), .val (.int (Int32.ofNat m4)), .val (.int q7), .val (.int (Int32.ofNat m17)), .val (.ref b12), .val (.ref b_21), .val (.int q86), .val (.int q87), .val (.int q98), .val (.int q102)] [(.int (0 : Int32))])) _
          show Steps p.tables e below (T101.setTop (mkF m 200 #[.val (.int ra), .val (.int rb), .val (.int rc), .val (.int rp), .val (.int rq), .val (.int (Int32.ofNat m1)), .val (.int (Int32.ofNat m2)), .val (.int (Int32.ofNat m3)), .val (.int (Int32.ofNat m4)), .val (.int q7), .val (.int (Int32.ofNat m17)), .val (.ref b12), .val (.ref b_21), .val (.int q86), .val (.int q87), .val (.int q98), .val (.int q102)] [(.int (0 : Int32))])) t_
          exact k_)
        exact ⟨T101, X101, e101, fun t_ k_ => s111 t_ (castTop (by simp only [hq104, if_neg h106]) k_)⟩)
    obtain ⟨fs, hr, hrun, hended, hW, hsame⟩ := X105.leave (v := some (.int (nar .boolean q104))) (fun h => by rw [Bd.returns] at h; cases h)
    have hone : q104 = 1 := by
      rw [hq104, hq102, hq98, hq87, hq86]
      exact own_fin m1 m2 m3 m4 hl1 hl2 hl3 hl4
    refine ⟨_, _, s105 _ ?_, hrun, hended, _, _, rfl, ?_, ⟨_, rfl⟩, hW, hsame.mono (by decide) (by decide)⟩
    · show Steps p.tables e below (T105.setTop (mkF m 200 #[.val (.int ra), .val (.int rb), .val (.int rc), .val (.int rp), .val (.int rq), .val (.int (Int32.ofNat m1)), .val (.int (Int32.ofNat m2)), .val (.int (Int32.ofNat m3)), .val (.int (Int32.ofNat m4)), .val (.int q7), .val (.int (Int32.ofNat m17)), .val (.ref b12), .val (.ref b_21), .val (.int q86), .val (.int q87), .val (.int q98), .val (.int q102)] [(.int q104)])) _
      exact retN X105 hx (t := .boolean) Bd.returns (by simp) (Jvm.hb hby at_200) hr
    · show Q_rmLaw Z _ _ _ _ _ _ h0 n0 _ T105.heap _
      rw [e105]
      exact ⟨by rw [hone]; rfl, N101⟩
  · have s112 : ∀ t_, Steps p.tables e below (T25.setTop (mkF m 68 #[.val (.int ra), .val (.int rb), .val (.int rc), .val (.int rp), .val (.int rq), .val (.int (Int32.ofNat m1)), .val (.int (Int32.ofNat m2)), .val (.int (Int32.ofNat m3)), .val (.int (Int32.ofNat m4)), .val (.int q7), .val (.int (Int32.ofNat m17)), .val (.ref b12), .val (.ref b_21), .unset, .unset, .unset, .unset] [(.int (Int32.ofNat m17)), (.ref b_21)])) t_ → Steps p.tables e below (s₁.setTop (entryFrame m #[(.int ra), (.int rb), (.int rc), (.int rp), (.int rq)] maxLocals)) t_ := fun t_ k_ => s26 t_ (by
      show Steps p.tables e below (T25.setTop (mkF m 61 #[.val (.int ra), .val (.int rb), .val (.int rc), .val (.int rp), .val (.int rq), .val (.int (Int32.ofNat m1)), .val (.int (Int32.ofNat m2)), .val (.int (Int32.ofNat m3)), .val (.int (Int32.ofNat m4)), .val (.int q7), .val (.int (Int32.ofNat m17)), .val (.ref b12), .val (.ref b_21), .unset, .unset, .unset, .unset] [(.int q7)])) t_
      refine XS.ifNo X25.here hx rfl (Jvm.hb hby at_61) rfl ((if0 _ _).trans (feq h27).1) ?_
      show Steps p.tables e below (T25.setTop (mkF m 64 #[.val (.int ra), .val (.int rb), .val (.int rc), .val (.int rp), .val (.int rq), .val (.int (Int32.ofNat m1)), .val (.int (Int32.ofNat m2)), .val (.int (Int32.ofNat m3)), .val (.int (Int32.ofNat m4)), .val (.int q7), .val (.int (Int32.ofNat m17)), .val (.ref b12), .val (.ref b_21), .unset, .unset, .unset, .unset] [])) _
      refine XS.aload X25.here hx rfl (Jvm.hb hby at_64) rfl rfl ?_
      show Steps p.tables e below (T25.setTop (mkF m 66 #[.val (.int ra), .val (.int rb), .val (.int rc), .val (.int rp), .val (.int rq), .val (.int (Int32.ofNat m1)), .val (.int (Int32.ofNat m2)), .val (.int (Int32.ofNat m3)), .val (.int (Int32.ofNat m4)), .val (.int q7), .val (.int (Int32.ofNat m17)), .val (.ref b12), .val (.ref b_21), .unset, .unset, .unset, .unset] [(.ref b_21)])) _
      refine XS.iload X25.here hx rfl (Jvm.hb hby at_66) rfl ?_
      show Steps p.tables e below (T25.setTop (mkF m 68 #[.val (.int ra), .val (.int rb), .val (.int rc), .val (.int rp), .val (.int rq), .val (.int (Int32.ofNat m1)), .val (.int (Int32.ofNat m2)), .val (.int (Int32.ofNat m3)), .val (.int (Int32.ofNat m4)), .val (.int q7), .val (.int (Int32.ofNat m17)), .val (.ref b12), .val (.ref b_21), .unset, .unset, .unset, .unset] [(.int (Int32.ofNat m17)), (.ref b_21)])) _
      show Steps p.tables e below (T25.setTop (mkF m 68 #[.val (.int ra), .val (.int rb), .val (.int rc), .val (.int rp), .val (.int rq), .val (.int (Int32.ofNat m1)), .val (.int (Int32.ofNat m2)), .val (.int (Int32.ofNat m3)), .val (.int (Int32.ofNat m4)), .val (.int q7), .val (.int (Int32.ofNat m17)), .val (.ref b12), .val (.ref b_21), .unset, .unset, .unset, .unset] [(.int (Int32.ofNat m17)), (.ref b_21)])) t_
      exact k_)
    have O113 : Old Z n0 h21 := (O19.keep K21 (allS (show n0 ≤ b12 by omega) all0))
    have Zc114 : n0 ≤ h21.size := by omega
    obtain ⟨_, _, ⟨T115, L115, k115, n115⟩, -, X115, ⟨Lc115, hQ115, l115, y115, z115⟩, st115⟩ := Jvm.LawKit.callS X25 hx (y := (⟨"com/example/bezugswerk/bezugswerk/DecodedPartsStartPinLaw", "fill", "(Ljava/lang/StringBuilder;I)V"⟩ : MethodName)) hown (mvT hZ (hw _ (List.mem_of_getElem? (i := 40) rfl))) (mvT hZ (hw _ (List.mem_of_getElem? (i := 41) rfl))) (mvT hZ (hw _ (List.mem_of_getElem? (i := 42) rfl))) (mvT hZ (hw _ (List.mem_of_getElem? (i := 43) rfl))) (by decide) (backOf (W := 0) (rmFill l Z a0 hw [] b_21 cst va_21 kc_21 [(.int (0 : Int32)), (.int (0 : Int32)), (.int (0 : Int32)), (.int (0 : Int32)), (.int (0 : Int32)), (.int (0 : Int32)), (.int (0 : Int32)), (.int (0 : Int32)), (.int (0 : Int32)), (.int (0 : Int32)), (.int (0 : Int32)), (.int (0 : Int32)), (.int (0 : Int32)), (.int (0 : Int32)), (.int (0 : Int32)), (.int (0 : Int32))] 0 (0 : Int32) m17 h21 n0 Zc114 I1 O113 (hcst : ¬ (cst = (0 : Int32))) Fq21_4 Fq21_5 Fq21_6 Fq21_7 Fq21_8 Fq21_9 (by first | assumption | rfl | decide | omega : [(.int (0 : Int32)), (.int (0 : Int32)), (.int (0 : Int32)), (.int (0 : Int32)), (.int (0 : Int32)), (.int (0 : Int32)), (.int (0 : Int32)), (.int (0 : Int32)), (.int (0 : Int32)), (.int (0 : Int32)), (.int (0 : Int32)), (.int (0 : Int32)), (.int (0 : Int32)), (.int (0 : Int32)), (.int (0 : Int32)), (.int (0 : Int32))].length = 16) (by first | assumption | rfl | decide | omega : m17 < 4) (by first | assumption | rfl | decide | omega : 0 + 3 < 16) (by first | assumption | rfl | decide | omega : n0 ≤ b_21) (by first | assumption | rfl | decide | omega : n0 ≤ va_21) (by first | assumption | rfl | decide | omega : @Ne Nat b_21 va_21)) hZ (hw _ (List.mem_of_getElem? (i := 43) rfl)) (hw _ (List.mem_of_getElem? (i := 42) rfl)) (by decide) (by decide)) (g := (mkF m 68 #[.val (.int ra), .val (.int rb), .val (.int rc), .val (.int rp), .val (.int rq), .val (.int (Int32.ofNat m1)), .val (.int (Int32.ofNat m2)), .val (.int (Int32.ofNat m3)), .val (.int (Int32.ofNat m4)), .val (.int q7), .val (.int (Int32.ofNat m17)), .val (.ref b12), .val (.ref b_21), .unset, .unset, .unset, .unset] [(.int (Int32.ofNat m17)), (.ref b_21)])) rfl (by rw [hml]; rfl) (argsL := [(.ref b_21), (.int (Int32.ofNat m17))]) (rest := []) (lenOf pd__Ljava_lang_StringBuilder_I_V rfl) rfl (by show 2 * 0 + _ ≤ _; exact Nat.le_of_eq rfl) (Jvm.hb hby at_68) (fun _ _ => ⟨rfl, e25, (by decide : 4 + 0 ≤ _), (by decide : 39 + 0 ≤ _)⟩)
    dsimp only [Pt.U, Pt.locs, Pt.cells, Pt.slots] at X115 l115 y115 z115 st115 hQ115
    subst l115 y115 z115
    obtain ⟨vt_115, rfl, N115q, K115, Fq115_0, Fq115_1, Fq115_2, Fq115_3, Fq115_4, Fq115_5, P115_0⟩ := hQ115
    have N115 := Fr.app N25 N115q
    obtain ⟨h115, e115⟩ : ∃ z, T115.heap = z := ⟨_, rfl⟩
    rw [e115] at K115 Fq115_0 Fq115_1 Fq115_2 Fq115_3 Fq115_4 Fq115_5
    have z116 : h21.size ≤ h115.size := K115.1
    have lt115_0 : @LT.lt Nat _ b_21 h115.size := Fq115_0.lt
    have lt115_5 : @LT.lt Nat _ va_21 h115.size := Fq115_5.lt
    have s117 : ∀ t_, Steps p.tables e below (T115.setTop (mkF m 73 #[.val (.int ra), .val (.int rb), .val (.int rc), .val (.int rp), .val (.int rq), .val (.int (Int32.ofNat m1)), .val (.int (Int32.ofNat m2)), .val (.int (Int32.ofNat m3)), .val (.int (Int32.ofNat m4)), .val (.int q7), .val (.int (Int32.ofNat m17)), .val (.ref b12), .val (.ref b_21), .unset, .unset, .unset, .unset] [(.ref b12)])) t_ → Steps p.tables e below (s₁.setTop (entryFrame m #[(.int ra), (.int rb), (.int rc), (.int rp), (.int rq)] maxLocals)) t_ := fun t_ k_ => s112 t_ (by
      show Steps p.tables e below (T25.setTop (mkF m 68 #[.val (.int ra), .val (.int rb), .val (.int rc), .val (.int rp), .val (.int rq), .val (.int (Int32.ofNat m1)), .val (.int (Int32.ofNat m2)), .val (.int (Int32.ofNat m3)), .val (.int (Int32.ofNat m4)), .val (.int q7), .val (.int (Int32.ofNat m17)), .val (.ref b12), .val (.ref b_21), .unset, .unset, .unset, .unset] [(.int (Int32.ofNat m17)), (.ref b_21)])) t_
      refine st115 _ ?_
      show Steps p.tables e below (T115.setTop (mkF m 71 #[.val (.int ra), .val (.int rb), .val (.int rc), .val (.int rp), .val (.int rq), .val (.int (Int32.ofNat m1)), .val (.int (Int32.ofNat m2)), .val (.int (Int32.ofNat m3)), .val (.int (Int32.ofNat m4)), .val (.int q7), .val (.int (Int32.ofNat m17)), .val (.ref b12), .val (.ref b_21), .unset, .unset, .unset, .unset] [])) _
      refine XS.aload X115.here hx rfl (Jvm.hb hby at_71) rfl rfl ?_
      show Steps p.tables e below (T115.setTop (mkF m 73 #[.val (.int ra), .val (.int rb), .val (.int rc), .val (.int rp), .val (.int rq), .val (.int (Int32.ofNat m1)), .val (.int (Int32.ofNat m2)), .val (.int (Int32.ofNat m3)), .val (.int (Int32.ofNat m4)), .val (.int q7), .val (.int (Int32.ofNat m17)), .val (.ref b12), .val (.ref b_21), .unset, .unset, .unset, .unset] [(.ref b12)])) _
      show Steps p.tables e below (T115.setTop (mkF m 73 #[.val (.int ra), .val (.int rb), .val (.int rc), .val (.int rp), .val (.int rq), .val (.int (Int32.ofNat m1)), .val (.int (Int32.ofNat m2)), .val (.int (Int32.ofNat m3)), .val (.int (Int32.ofNat m4)), .val (.int q7), .val (.int (Int32.ofNat m17)), .val (.ref b12), .val (.ref b_21), .unset, .unset, .unset, .unset] [(.ref b12)])) t_
      exact k_)
    have f118 : Exa Z h115 b12 "com/example/bezugswerk/bezugswerk/DecodedParts" := (Fq21_0.keep K115)
    have f119 : Fld Z h115 b12 "com/example/bezugswerk/bezugswerk/DecodedParts" "text" "Ljava/lang/StringBuilder;" (.ref b_21) := (Fq21_1.keep K115 (ninS (show @Ne Nat b12 b_21 by omega) (ninS (show @Ne Nat b12 va_21 by omega) nin0)))
    have f120 : Fld Z h115 b12 "com/example/bezugswerk/bezugswerk/DecodedParts" "ends" "[I" (.ref ea_21) := (Fq21_2.keep K115 (ninS (show @Ne Nat b12 b_21 by omega) (ninS (show @Ne Nat b12 va_21 by omega) nin0)))
    have f121 : Fld Z h115 b12 "com/example/bezugswerk/bezugswerk/DecodedParts" "size" "I" (.int (0 : Int32)) := (Fq21_3.keep K115 (ninS (show @Ne Nat b12 b_21 by omega) (ninS (show @Ne Nat b12 va_21 by omega) nin0)))
    have f122 : Arv Z h115 ea_21 ke_21 .int (16 : Int32) [(.int (0 : Int32)), (.int (0 : Int32)), (.int (0 : Int32)), (.int (0 : Int32)), (.int (0 : Int32)), (.int (0 : Int32)), (.int (0 : Int32)), (.int (0 : Int32)), (.int (0 : Int32)), (.int (0 : Int32)), (.int (0 : Int32)), (.int (0 : Int32)), (.int (0 : Int32)), (.int (0 : Int32)), (.int (0 : Int32)), (.int (0 : Int32))] (.int (0 : Int32)) := (Fq21_10.keep K115 (ninS (show @Ne Nat ea_21 b_21 by omega) (ninS (show @Ne Nat ea_21 va_21 by omega) nin0)))
    have Zc123 : n0 ≤ h115.size := by omega
    obtain ⟨cq124, kq124, q124a, q124b, q124c⟩ := isOf hZ e115 f118
    obtain ⟨_, _, ⟨T124, L124, k124, n124⟩, -, X124, ⟨Lc124, hQ124, l124, y124, z124⟩, st124⟩ := X115.virtualBack hx (y := (⟨"com/example/bezugswerk/bezugswerk/DecodedParts", "endPart", "()V"⟩ : MethodName)) (z := (⟨"com/example/bezugswerk/bezugswerk/DecodedParts", "endPart", "()V"⟩ : MethodName)) hown (mvT hZ (hw _ (List.mem_of_getElem? (i := 44) rfl))) (mvT hZ (hw _ (List.mem_of_getElem? (i := 45) rfl))) (notFace_of_selects (args := #[]) (mvT hZ (hw _ (List.mem_of_getElem? (i := 47) rfl)))) (mvT hZ (hw _ (List.mem_of_getElem? (i := 47) rfl))) (mvT hZ (hw _ (List.mem_of_getElem? (i := 46) rfl))) (by decide) (backOf (W := 0) (rmEnd l Z a0 hw [] b12 b_21 ea_21 ke_21 [(.int (0 : Int32)), (.int (0 : Int32)), (.int (0 : Int32)), (.int (0 : Int32)), (.int (0 : Int32)), (.int (0 : Int32)), (.int (0 : Int32)), (.int (0 : Int32)), (.int (0 : Int32)), (.int (0 : Int32)), (.int (0 : Int32)), (.int (0 : Int32)), (.int (0 : Int32)), (.int (0 : Int32)), (.int (0 : Int32)), (.int (0 : Int32))] 0 (Int32.ofNat (0 + m17)) h115 n0 Zc123 f118 f119 f120 f121 Fq115_0 Fq115_3 f122 (by first | assumption | rfl | decide | omega : [(.int (0 : Int32)), (.int (0 : Int32)), (.int (0 : Int32)), (.int (0 : Int32)), (.int (0 : Int32)), (.int (0 : Int32)), (.int (0 : Int32)), (.int (0 : Int32)), (.int (0 : Int32)), (.int (0 : Int32)), (.int (0 : Int32)), (.int (0 : Int32)), (.int (0 : Int32)), (.int (0 : Int32)), (.int (0 : Int32)), (.int (0 : Int32))].length = 16) (by first | assumption | rfl | decide | omega : 0 < 16) (by first | assumption | rfl | decide | omega : n0 ≤ b12) (by first | assumption | rfl | decide | omega : n0 ≤ ea_21) (by first | assumption | rfl | decide | omega : @Ne Nat b12 ea_21)) hZ (hw _ (List.mem_of_getElem? (i := 48) rfl)) (hw _ (List.mem_of_getElem? (i := 3) rfl)) (by decide) (by decide)) q124a q124c (g := (mkF m 73 #[.val (.int ra), .val (.int rb), .val (.int rc), .val (.int rp), .val (.int rq), .val (.int (Int32.ofNat m1)), .val (.int (Int32.ofNat m2)), .val (.int (Int32.ofNat m3)), .val (.int (Int32.ofNat m4)), .val (.int q7), .val (.int (Int32.ofNat m17)), .val (.ref b12), .val (.ref b_21), .unset, .unset, .unset, .unset] [(.ref b12)])) rfl (by rw [hml]; rfl) (Steps.refl _) (argsL := []) (rest := []) (lenOf pd___V rfl) rfl (by show 2 * 0 + _ ≤ _; exact Nat.le_of_eq rfl) (Jvm.hb hby at_73) (fun _ _ => ⟨rfl, e115, (by decide : 4 + 0 ≤ _), (by decide : 39 + 0 ≤ _)⟩)
    dsimp only [Pt.U, Pt.locs, Pt.cells, Pt.slots] at X124 l124 y124 z124 st124 hQ124
    subst l124 y124 z124
    obtain ⟨rfl, N124q, K124, Fq124_0, Fq124_1, Fq124_2, Fq124_3, Fq124_4⟩ := hQ124
    have N124 := Fr.app N115 N124q
    obtain ⟨h124, e124⟩ : ∃ z, T124.heap = z := ⟨_, rfl⟩
    rw [e124] at K124 Fq124_0 Fq124_1 Fq124_2 Fq124_3 Fq124_4
    have z125 : h115.size ≤ h124.size := K124.1
    have lt124_0 : @LT.lt Nat _ b12 h124.size := Fq124_0.lt
    have lt124_4 : @LT.lt Nat _ ea_21 h124.size := Fq124_4.lt
    have V126 : Arv Z h124 ea_21 ke_21 .int (16 : Int32) [(.int (Int32.ofNat (0 + m17))), (.int (0 : Int32)), (.int (0 : Int32)), (.int (0 : Int32)), (.int (0 : Int32)), (.int (0 : Int32)), (.int (0 : Int32)), (.int (0 : Int32)), (.int (0 : Int32)), (.int (0 : Int32)), (.int (0 : Int32)), (.int (0 : Int32)), (.int (0 : Int32)), (.int (0 : Int32)), (.int (0 : Int32)), (.int (0 : Int32))] (.int (0 : Int32)) := Fq124_4
    have s127 : ∀ t_, Steps p.tables e below (T124.setTop (mkF m 78 #[.val (.int ra), .val (.int rb), .val (.int rc), .val (.int rp), .val (.int rq), .val (.int (Int32.ofNat m1)), .val (.int (Int32.ofNat m2)), .val (.int (Int32.ofNat m3)), .val (.int (Int32.ofNat m4)), .val (.int q7), .val (.int (Int32.ofNat m17)), .val (.ref b12), .val (.ref b_21), .unset, .unset, .unset, .unset] [(.ref b12)])) t_ → Steps p.tables e below (s₁.setTop (entryFrame m #[(.int ra), (.int rb), (.int rc), (.int rp), (.int rq)] maxLocals)) t_ := fun t_ k_ => s117 t_ (by
      show Steps p.tables e below (T115.setTop (mkF m 73 #[.val (.int ra), .val (.int rb), .val (.int rc), .val (.int rp), .val (.int rq), .val (.int (Int32.ofNat m1)), .val (.int (Int32.ofNat m2)), .val (.int (Int32.ofNat m3)), .val (.int (Int32.ofNat m4)), .val (.int q7), .val (.int (Int32.ofNat m17)), .val (.ref b12), .val (.ref b_21), .unset, .unset, .unset, .unset] [(.ref b12)])) t_
      refine st124.trans ?_
      show Steps p.tables e below (T124.setTop (mkF m 76 #[.val (.int ra), .val (.int rb), .val (.int rc), .val (.int rp), .val (.int rq), .val (.int (Int32.ofNat m1)), .val (.int (Int32.ofNat m2)), .val (.int (Int32.ofNat m3)), .val (.int (Int32.ofNat m4)), .val (.int q7), .val (.int (Int32.ofNat m17)), .val (.ref b12), .val (.ref b_21), .unset, .unset, .unset, .unset] [])) _
      refine XS.aload X124.here hx rfl (Jvm.hb hby at_76) rfl rfl ?_
      show Steps p.tables e below (T124.setTop (mkF m 78 #[.val (.int ra), .val (.int rb), .val (.int rc), .val (.int rp), .val (.int rq), .val (.int (Int32.ofNat m1)), .val (.int (Int32.ofNat m2)), .val (.int (Int32.ofNat m3)), .val (.int (Int32.ofNat m4)), .val (.int q7), .val (.int (Int32.ofNat m17)), .val (.ref b12), .val (.ref b_21), .unset, .unset, .unset, .unset] [(.ref b12)])) _
      show Steps p.tables e below (T124.setTop (mkF m 78 #[.val (.int ra), .val (.int rb), .val (.int rc), .val (.int rp), .val (.int rq), .val (.int (Int32.ofNat m1)), .val (.int (Int32.ofNat m2)), .val (.int (Int32.ofNat m3)), .val (.int (Int32.ofNat m4)), .val (.int q7), .val (.int (Int32.ofNat m17)), .val (.ref b12), .val (.ref b_21), .unset, .unset, .unset, .unset] [(.ref b12)])) t_
      exact k_)
    have f128 : Exa Z h124 b_21 "java/lang/StringBuilder" := (Fq115_0.keep K124)
    have f129 : Fld Z h124 b_21 "java/lang/AbstractStringBuilder" "value" "[B" (.ref va_21) := (Fq115_1.keep K124 (ninS (show @Ne Nat b_21 b12 by omega) (ninS (show @Ne Nat b_21 ea_21 by omega) nin0)))
    have f130 : Fld Z h124 b_21 "java/lang/AbstractStringBuilder" "coder" "B" (.int (0 : Int32)) := (Fq115_2.keep K124 (ninS (show @Ne Nat b_21 b12 by omega) (ninS (show @Ne Nat b_21 ea_21 by omega) nin0)))
    have f131 : Fld Z h124 b_21 "java/lang/AbstractStringBuilder" "count" "I" (.int (Int32.ofNat (0 + m17))) := (Fq115_3.keep K124 (ninS (show @Ne Nat b_21 b12 by omega) (ninS (show @Ne Nat b_21 ea_21 by omega) nin0)))
    have f132 : Fld Z h124 b_21 "java/lang/AbstractStringBuilder" "maybeLatin1" "Z" (.int (0 : Int32)) := (Fq115_4.keep K124 (ninS (show @Ne Nat b_21 b12 by omega) (ninS (show @Ne Nat b_21 ea_21 by omega) nin0)))
    have f133 : Arv Z h124 va_21 kc_21 .byte (16 : Int32) vt_115 (.int (0 : Int32)) := (Fq115_5.keep K124 (ninS (show @Ne Nat va_21 b12 by omega) (ninS (show @Ne Nat va_21 ea_21 by omega) nin0)))
    have Zc134 : n0 ≤ h124.size := by omega
    obtain ⟨cq135, kq135, q135a, q135b, q135c⟩ := isOf hZ e124 Fq124_0
    obtain ⟨_, _, ⟨T135, L135, k135, n135⟩, -, X135, ⟨Lc135, hQ135, l135, y135, z135⟩, st135⟩ := X124.virtualBack hx (y := (⟨"com/example/bezugswerk/bezugswerk/DecodedParts", "clear", "()V"⟩ : MethodName)) (z := (⟨"com/example/bezugswerk/bezugswerk/DecodedParts", "clear", "()V"⟩ : MethodName)) hown (mvT hZ (hw _ (List.mem_of_getElem? (i := 96) rfl))) (mvT hZ (hw _ (List.mem_of_getElem? (i := 97) rfl))) (notFace_of_selects (args := #[]) (mvT hZ (hw _ (List.mem_of_getElem? (i := 99) rfl)))) (mvT hZ (hw _ (List.mem_of_getElem? (i := 99) rfl))) (mvT hZ (hw _ (List.mem_of_getElem? (i := 98) rfl))) (by decide) (backOf (W := 0) (rmClear l Z a0 hw [] b12 va_21 kc_21 vt_115 (0 + m17) (0 : Int32) b_21 (Int32.ofNat (0 + 1)) ea_21 h124 n0 Zc134 Fq124_0 Fq124_1 Fq124_2 Fq124_3 f128 f129 f130 f131 f132 f133 (by first | assumption | rfl | decide | omega : (0 + m17) < 16) (by first | assumption | rfl | decide | omega : n0 ≤ b_21) (by first | assumption | rfl | decide | omega : n0 ≤ b12) (by first | assumption | rfl | decide | omega : @Ne Nat b12 b_21)) hZ (hw _ (List.mem_of_getElem? (i := 100) rfl)) (hw _ (List.mem_of_getElem? (i := 3) rfl)) (by decide) (by decide)) q135a q135c (g := (mkF m 78 #[.val (.int ra), .val (.int rb), .val (.int rc), .val (.int rp), .val (.int rq), .val (.int (Int32.ofNat m1)), .val (.int (Int32.ofNat m2)), .val (.int (Int32.ofNat m3)), .val (.int (Int32.ofNat m4)), .val (.int q7), .val (.int (Int32.ofNat m17)), .val (.ref b12), .val (.ref b_21), .unset, .unset, .unset, .unset] [(.ref b12)])) rfl (by rw [hml]; rfl) (Steps.refl _) (argsL := []) (rest := []) (lenOf pd___V rfl) rfl (by show 2 * 0 + _ ≤ _; exact Nat.le_of_eq rfl) (Jvm.hb hby at_78) (fun _ _ => ⟨rfl, e124, (by decide : 4 + 0 ≤ _), (by decide : 39 + 0 ≤ _)⟩)
    dsimp only [Pt.U, Pt.locs, Pt.cells, Pt.slots] at X135 l135 y135 z135 st135 hQ135
    subst l135 y135 z135
    obtain ⟨mm_135, rfl, N135q, K135, Fq135_0, Fq135_1, Fq135_2, Fq135_3, Fq135_4, Fq135_5, Fq135_6, Fq135_7, Fq135_8⟩ := hQ135
    have N135 := Fr.app N124 N135q
    obtain ⟨h135, e135⟩ : ∃ z, T135.heap = z := ⟨_, rfl⟩
    rw [e135] at K135 Fq135_0 Fq135_1 Fq135_2 Fq135_3 Fq135_4 Fq135_5 Fq135_6 Fq135_7 Fq135_8
    have z136 : h124.size ≤ h135.size := K135.1
    have lt135_0 : @LT.lt Nat _ b12 h135.size := Fq135_0.lt
    have lt135_4 : @LT.lt Nat _ b_21 h135.size := Fq135_4.lt
    have s137 : ∀ t_, Steps p.tables e below (T135.setTop (mkF m 85 #[.val (.int ra), .val (.int rb), .val (.int rc), .val (.int rp), .val (.int rq), .val (.int (Int32.ofNat m1)), .val (.int (Int32.ofNat m2)), .val (.int (Int32.ofNat m3)), .val (.int (Int32.ofNat m4)), .val (.int q7), .val (.int (Int32.ofNat m17)), .val (.ref b12), .val (.ref b_21), .unset, .unset, .unset, .unset] [(.int (Int32.ofNat m1)), (.ref b_21)])) t_ → Steps p.tables e below (s₁.setTop (entryFrame m #[(.int ra), (.int rb), (.int rc), (.int rp), (.int rq)] maxLocals)) t_ := fun t_ k_ => s127 t_ (by
      show Steps p.tables e below (T124.setTop (mkF m 78 #[.val (.int ra), .val (.int rb), .val (.int rc), .val (.int rp), .val (.int rq), .val (.int (Int32.ofNat m1)), .val (.int (Int32.ofNat m2)), .val (.int (Int32.ofNat m3)), .val (.int (Int32.ofNat m4)), .val (.int q7), .val (.int (Int32.ofNat m17)), .val (.ref b12), .val (.ref b_21), .unset, .unset, .unset, .unset] [(.ref b12)])) t_
      refine st135.trans ?_
      show Steps p.tables e below (T135.setTop (mkF m 81 #[.val (.int ra), .val (.int rb), .val (.int rc), .val (.int rp), .val (.int rq), .val (.int (Int32.ofNat m1)), .val (.int (Int32.ofNat m2)), .val (.int (Int32.ofNat m3)), .val (.int (Int32.ofNat m4)), .val (.int q7), .val (.int (Int32.ofNat m17)), .val (.ref b12), .val (.ref b_21), .unset, .unset, .unset, .unset] [])) _
      refine XS.aload X135.here hx rfl (Jvm.hb hby at_81) rfl rfl ?_
      show Steps p.tables e below (T135.setTop (mkF m 83 #[.val (.int ra), .val (.int rb), .val (.int rc), .val (.int rp), .val (.int rq), .val (.int (Int32.ofNat m1)), .val (.int (Int32.ofNat m2)), .val (.int (Int32.ofNat m3)), .val (.int (Int32.ofNat m4)), .val (.int q7), .val (.int (Int32.ofNat m17)), .val (.ref b12), .val (.ref b_21), .unset, .unset, .unset, .unset] [(.ref b_21)])) _
      refine XS.iload X135.here hx rfl (Jvm.hb hby at_83) rfl ?_
      show Steps p.tables e below (T135.setTop (mkF m 85 #[.val (.int ra), .val (.int rb), .val (.int rc), .val (.int rp), .val (.int rq), .val (.int (Int32.ofNat m1)), .val (.int (Int32.ofNat m2)), .val (.int (Int32.ofNat m3)), .val (.int (Int32.ofNat m4)), .val (.int q7), .val (.int (Int32.ofNat m17)), .val (.ref b12), .val (.ref b_21), .unset, .unset, .unset, .unset] [(.int (Int32.ofNat m1)), (.ref b_21)])) _
      show Steps p.tables e below (T135.setTop (mkF m 85 #[.val (.int ra), .val (.int rb), .val (.int rc), .val (.int rp), .val (.int rq), .val (.int (Int32.ofNat m1)), .val (.int (Int32.ofNat m2)), .val (.int (Int32.ofNat m3)), .val (.int (Int32.ofNat m4)), .val (.int q7), .val (.int (Int32.ofNat m17)), .val (.ref b12), .val (.ref b_21), .unset, .unset, .unset, .unset] [(.int (Int32.ofNat m1)), (.ref b_21)])) t_
      exact k_)
    have O138 : Old Z n0 h135 := (((O113.keep K115 (allS (show n0 ≤ b_21 by omega) (allS (show n0 ≤ va_21 by omega) all0))).keep K124 (allS (show n0 ≤ b12 by omega) (allS (show n0 ≤ ea_21 by omega) all0))).keep K135 (allS (show n0 ≤ b12 by omega) (allS (show n0 ≤ b_21 by omega) all0)))
    have f139 : Arv Z h135 va_21 kc_21 .byte (16 : Int32) vt_115 (.int (0 : Int32)) := (f133.keep K135 (ninS (show @Ne Nat va_21 b12 by omega) (ninS (show @Ne Nat va_21 b_21 by omega) nin0)))
    have Zc140 : n0 ≤ h135.size := by omega
    obtain ⟨_, _, ⟨T141, L141, k141, n141⟩, -, X141, ⟨Lc141, hQ141, l141, y141, z141⟩, st141⟩ := Jvm.LawKit.callS X135 hx (y := (⟨"com/example/bezugswerk/bezugswerk/DecodedPartsStartPinLaw", "fill", "(Ljava/lang/StringBuilder;I)V"⟩ : MethodName)) hown (mvT hZ (hw _ (List.mem_of_getElem? (i := 40) rfl))) (mvT hZ (hw _ (List.mem_of_getElem? (i := 41) rfl))) (mvT hZ (hw _ (List.mem_of_getElem? (i := 42) rfl))) (mvT hZ (hw _ (List.mem_of_getElem? (i := 43) rfl))) (by decide) (backOf (W := 0) (rmFill l Z a0 hw [] b_21 cst va_21 kc_21 vt_115 0 mm_135 m1 h135 n0 Zc140 I1 O138 (hcst : ¬ (cst = (0 : Int32))) Fq135_4 Fq135_5 Fq135_6 Fq135_7 Fq135_8 f139 (P115_0 : vt_115.length = 16) (by first | assumption | rfl | decide | omega : m1 < 4) (by first | assumption | rfl | decide | omega : 0 + 3 < 16) (by first | assumption | rfl | decide | omega : n0 ≤ b_21) (by first | assumption | rfl | decide | omega : n0 ≤ va_21) (by first | assumption | rfl | decide | omega : @Ne Nat b_21 va_21)) hZ (hw _ (List.mem_of_getElem? (i := 43) rfl)) (hw _ (List.mem_of_getElem? (i := 42) rfl)) (by decide) (by decide)) (g := (mkF m 85 #[.val (.int ra), .val (.int rb), .val (.int rc), .val (.int rp), .val (.int rq), .val (.int (Int32.ofNat m1)), .val (.int (Int32.ofNat m2)), .val (.int (Int32.ofNat m3)), .val (.int (Int32.ofNat m4)), .val (.int q7), .val (.int (Int32.ofNat m17)), .val (.ref b12), .val (.ref b_21), .unset, .unset, .unset, .unset] [(.int (Int32.ofNat m1)), (.ref b_21)])) rfl (by rw [hml]; rfl) (argsL := [(.ref b_21), (.int (Int32.ofNat m1))]) (rest := []) (lenOf pd__Ljava_lang_StringBuilder_I_V rfl) rfl (by show 2 * 0 + _ ≤ _; exact Nat.le_of_eq rfl) (Jvm.hb hby at_85) (fun _ _ => ⟨rfl, e135, (by decide : 4 + 0 ≤ _), (by decide : 39 + 0 ≤ _)⟩)
    dsimp only [Pt.U, Pt.locs, Pt.cells, Pt.slots] at X141 l141 y141 z141 st141 hQ141
    subst l141 y141 z141
    obtain ⟨vt_141, rfl, N141q, K141, Fq141_0, Fq141_1, Fq141_2, Fq141_3, Fq141_4, Fq141_5, P141_0⟩ := hQ141
    have N141 := Fr.app N135 N141q
    obtain ⟨h141, e141⟩ : ∃ z, T141.heap = z := ⟨_, rfl⟩
    rw [e141] at K141 Fq141_0 Fq141_1 Fq141_2 Fq141_3 Fq141_4 Fq141_5
    have z142 : h135.size ≤ h141.size := K141.1
    have lt141_0 : @LT.lt Nat _ b_21 h141.size := Fq141_0.lt
    have lt141_5 : @LT.lt Nat _ va_21 h141.size := Fq141_5.lt
    have s143 : ∀ t_, Steps p.tables e below (T141.setTop (mkF m 90 #[.val (.int ra), .val (.int rb), .val (.int rc), .val (.int rp), .val (.int rq), .val (.int (Int32.ofNat m1)), .val (.int (Int32.ofNat m2)), .val (.int (Int32.ofNat m3)), .val (.int (Int32.ofNat m4)), .val (.int q7), .val (.int (Int32.ofNat m17)), .val (.ref b12), .val (.ref b_21), .unset, .unset, .unset, .unset] [(.ref b12)])) t_ → Steps p.tables e below (s₁.setTop (entryFrame m #[(.int ra), (.int rb), (.int rc), (.int rp), (.int rq)] maxLocals)) t_ := fun t_ k_ => s137 t_ (by
      show Steps p.tables e below (T135.setTop (mkF m 85 #[.val (.int ra), .val (.int rb), .val (.int rc), .val (.int rp), .val (.int rq), .val (.int (Int32.ofNat m1)), .val (.int (Int32.ofNat m2)), .val (.int (Int32.ofNat m3)), .val (.int (Int32.ofNat m4)), .val (.int q7), .val (.int (Int32.ofNat m17)), .val (.ref b12), .val (.ref b_21), .unset, .unset, .unset, .unset] [(.int (Int32.ofNat m1)), (.ref b_21)])) t_
      refine st141 _ ?_
      show Steps p.tables e below (T141.setTop (mkF m 88 #[.val (.int ra), .val (.int rb), .val (.int rc), .val (.int rp), .val (.int rq), .val (.int (Int32.ofNat m1)), .val (.int (Int32.ofNat m2)), .val (.int (Int32.ofNat m3)), .val (.int (Int32.ofNat m4)), .val (.int q7), .val (.int (Int32.ofNat m17)), .val (.ref b12), .val (.ref b_21), .unset, .unset, .unset, .unset] [])) _
      refine XS.aload X141.here hx rfl (Jvm.hb hby at_88) rfl rfl ?_
      show Steps p.tables e below (T141.setTop (mkF m 90 #[.val (.int ra), .val (.int rb), .val (.int rc), .val (.int rp), .val (.int rq), .val (.int (Int32.ofNat m1)), .val (.int (Int32.ofNat m2)), .val (.int (Int32.ofNat m3)), .val (.int (Int32.ofNat m4)), .val (.int q7), .val (.int (Int32.ofNat m17)), .val (.ref b12), .val (.ref b_21), .unset, .unset, .unset, .unset] [(.ref b12)])) _
      show Steps p.tables e below (T141.setTop (mkF m 90 #[.val (.int ra), .val (.int rb), .val (.int rc), .val (.int rp), .val (.int rq), .val (.int (Int32.ofNat m1)), .val (.int (Int32.ofNat m2)), .val (.int (Int32.ofNat m3)), .val (.int (Int32.ofNat m4)), .val (.int q7), .val (.int (Int32.ofNat m17)), .val (.ref b12), .val (.ref b_21), .unset, .unset, .unset, .unset] [(.ref b12)])) t_
      exact k_)
    have f144 : Exa Z h141 b12 "com/example/bezugswerk/bezugswerk/DecodedParts" := (Fq135_0.keep K141)
    have f145 : Fld Z h141 b12 "com/example/bezugswerk/bezugswerk/DecodedParts" "text" "Ljava/lang/StringBuilder;" (.ref b_21) := (Fq135_1.keep K141 (ninS (show @Ne Nat b12 b_21 by omega) (ninS (show @Ne Nat b12 va_21 by omega) nin0)))
    have f146 : Fld Z h141 b12 "com/example/bezugswerk/bezugswerk/DecodedParts" "ends" "[I" (.ref ea_21) := (Fq135_2.keep K141 (ninS (show @Ne Nat b12 b_21 by omega) (ninS (show @Ne Nat b12 va_21 by omega) nin0)))
    have f147 : Fld Z h141 b12 "com/example/bezugswerk/bezugswerk/DecodedParts" "size" "I" (.int (0 : Int32)) := (Fq135_3.keep K141 (ninS (show @Ne Nat b12 b_21 by omega) (ninS (show @Ne Nat b12 va_21 by omega) nin0)))
    have f148 : Arv Z h141 ea_21 ke_21 .int (16 : Int32) [(.int (Int32.ofNat (0 + m17))), (.int (0 : Int32)), (.int (0 : Int32)), (.int (0 : Int32)), (.int (0 : Int32)), (.int (0 : Int32)), (.int (0 : Int32)), (.int (0 : Int32)), (.int (0 : Int32)), (.int (0 : Int32)), (.int (0 : Int32)), (.int (0 : Int32)), (.int (0 : Int32)), (.int (0 : Int32)), (.int (0 : Int32)), (.int (0 : Int32))] (.int (0 : Int32)) := ((V126.keep K135 (ninS (show @Ne Nat ea_21 b12 by omega) (ninS (show @Ne Nat ea_21 b_21 by omega) nin0))).keep K141 (ninS (show @Ne Nat ea_21 b_21 by omega) (ninS (show @Ne Nat ea_21 va_21 by omega) nin0)))
    have Zc149 : n0 ≤ h141.size := by omega
    obtain ⟨cq150, kq150, q150a, q150b, q150c⟩ := isOf hZ e141 f144
    obtain ⟨_, _, ⟨T150, L150, k150, n150⟩, -, X150, ⟨Lc150, hQ150, l150, y150, z150⟩, st150⟩ := X141.virtualBack hx (y := (⟨"com/example/bezugswerk/bezugswerk/DecodedParts", "endPart", "()V"⟩ : MethodName)) (z := (⟨"com/example/bezugswerk/bezugswerk/DecodedParts", "endPart", "()V"⟩ : MethodName)) hown (mvT hZ (hw _ (List.mem_of_getElem? (i := 44) rfl))) (mvT hZ (hw _ (List.mem_of_getElem? (i := 45) rfl))) (notFace_of_selects (args := #[]) (mvT hZ (hw _ (List.mem_of_getElem? (i := 47) rfl)))) (mvT hZ (hw _ (List.mem_of_getElem? (i := 47) rfl))) (mvT hZ (hw _ (List.mem_of_getElem? (i := 46) rfl))) (by decide) (backOf (W := 0) (rmEnd l Z a0 hw [] b12 b_21 ea_21 ke_21 [(.int (Int32.ofNat (0 + m17))), (.int (0 : Int32)), (.int (0 : Int32)), (.int (0 : Int32)), (.int (0 : Int32)), (.int (0 : Int32)), (.int (0 : Int32)), (.int (0 : Int32)), (.int (0 : Int32)), (.int (0 : Int32)), (.int (0 : Int32)), (.int (0 : Int32)), (.int (0 : Int32)), (.int (0 : Int32)), (.int (0 : Int32)), (.int (0 : Int32))] 0 (Int32.ofNat (0 + m1)) h141 n0 Zc149 f144 f145 f146 f147 Fq141_0 Fq141_3 f148 (by first | assumption | rfl | decide | omega : [(.int (Int32.ofNat (0 + m17))), (.int (0 : Int32)), (.int (0 : Int32)), (.int (0 : Int32)), (.int (0 : Int32)), (.int (0 : Int32)), (.int (0 : Int32)), (.int (0 : Int32)), (.int (0 : Int32)), (.int (0 : Int32)), (.int (0 : Int32)), (.int (0 : Int32)), (.int (0 : Int32)), (.int (0 : Int32)), (.int (0 : Int32)), (.int (0 : Int32))].length = 16) (by first | assumption | rfl | decide | omega : 0 < 16) (by first | assumption | rfl | decide | omega : n0 ≤ b12) (by first | assumption | rfl | decide | omega : n0 ≤ ea_21) (by first | assumption | rfl | decide | omega : @Ne Nat b12 ea_21)) hZ (hw _ (List.mem_of_getElem? (i := 48) rfl)) (hw _ (List.mem_of_getElem? (i := 3) rfl)) (by decide) (by decide)) q150a q150c (g := (mkF m 90 #[.val (.int ra), .val (.int rb), .val (.int rc), .val (.int rp), .val (.int rq), .val (.int (Int32.ofNat m1)), .val (.int (Int32.ofNat m2)), .val (.int (Int32.ofNat m3)), .val (.int (Int32.ofNat m4)), .val (.int q7), .val (.int (Int32.ofNat m17)), .val (.ref b12), .val (.ref b_21), .unset, .unset, .unset, .unset] [(.ref b12)])) rfl (by rw [hml]; rfl) (Steps.refl _) (argsL := []) (rest := []) (lenOf pd___V rfl) rfl (by show 2 * 0 + _ ≤ _; exact Nat.le_of_eq rfl) (Jvm.hb hby at_90) (fun _ _ => ⟨rfl, e141, (by decide : 4 + 0 ≤ _), (by decide : 39 + 0 ≤ _)⟩)
    dsimp only [Pt.U, Pt.locs, Pt.cells, Pt.slots] at X150 l150 y150 z150 st150 hQ150
    subst l150 y150 z150
    obtain ⟨rfl, N150q, K150, Fq150_0, Fq150_1, Fq150_2, Fq150_3, Fq150_4⟩ := hQ150
    have N150 := Fr.app N141 N150q
    obtain ⟨h150, e150⟩ : ∃ z, T150.heap = z := ⟨_, rfl⟩
    rw [e150] at K150 Fq150_0 Fq150_1 Fq150_2 Fq150_3 Fq150_4
    have z151 : h141.size ≤ h150.size := K150.1
    have lt150_0 : @LT.lt Nat _ b12 h150.size := Fq150_0.lt
    have lt150_4 : @LT.lt Nat _ ea_21 h150.size := Fq150_4.lt
    have V152 : Arv Z h150 ea_21 ke_21 .int (16 : Int32) [(.int (Int32.ofNat (0 + m1))), (.int (0 : Int32)), (.int (0 : Int32)), (.int (0 : Int32)), (.int (0 : Int32)), (.int (0 : Int32)), (.int (0 : Int32)), (.int (0 : Int32)), (.int (0 : Int32)), (.int (0 : Int32)), (.int (0 : Int32)), (.int (0 : Int32)), (.int (0 : Int32)), (.int (0 : Int32)), (.int (0 : Int32)), (.int (0 : Int32))] (.int (0 : Int32)) := Fq150_4
    have s153 : ∀ t_, Steps p.tables e below (T150.setTop (mkF m 97 #[.val (.int ra), .val (.int rb), .val (.int rc), .val (.int rp), .val (.int rq), .val (.int (Int32.ofNat m1)), .val (.int (Int32.ofNat m2)), .val (.int (Int32.ofNat m3)), .val (.int (Int32.ofNat m4)), .val (.int q7), .val (.int (Int32.ofNat m17)), .val (.ref b12), .val (.ref b_21), .unset, .unset, .unset, .unset] [(.int (Int32.ofNat m2)), (.ref b_21)])) t_ → Steps p.tables e below (s₁.setTop (entryFrame m #[(.int ra), (.int rb), (.int rc), (.int rp), (.int rq)] maxLocals)) t_ := fun t_ k_ => s143 t_ (by
      show Steps p.tables e below (T141.setTop (mkF m 90 #[.val (.int ra), .val (.int rb), .val (.int rc), .val (.int rp), .val (.int rq), .val (.int (Int32.ofNat m1)), .val (.int (Int32.ofNat m2)), .val (.int (Int32.ofNat m3)), .val (.int (Int32.ofNat m4)), .val (.int q7), .val (.int (Int32.ofNat m17)), .val (.ref b12), .val (.ref b_21), .unset, .unset, .unset, .unset] [(.ref b12)])) t_
      refine st150.trans ?_
      show Steps p.tables e below (T150.setTop (mkF m 93 #[.val (.int ra), .val (.int rb), .val (.int rc), .val (.int rp), .val (.int rq), .val (.int (Int32.ofNat m1)), .val (.int (Int32.ofNat m2)), .val (.int (Int32.ofNat m3)), .val (.int (Int32.ofNat m4)), .val (.int q7), .val (.int (Int32.ofNat m17)), .val (.ref b12), .val (.ref b_21), .unset, .unset, .unset, .unset] [])) _
      refine XS.aload X150.here hx rfl (Jvm.hb hby at_93) rfl rfl ?_
      show Steps p.tables e below (T150.setTop (mkF m 95 #[.val (.int ra), .val (.int rb), .val (.int rc), .val (.int rp), .val (.int rq), .val (.int (Int32.ofNat m1)), .val (.int (Int32.ofNat m2)), .val (.int (Int32.ofNat m3)), .val (.int (Int32.ofNat m4)), .val (.int q7), .val (.int (Int32.ofNat m17)), .val (.ref b12), .val (.ref b_21), .unset, .unset, .unset, .unset] [(.ref b_21)])) _
      refine XS.iload X150.here hx rfl (Jvm.hb hby at_95) rfl ?_
      show Steps p.tables e below (T150.setTop (mkF m 97 #[.val (.int ra), .val (.int rb), .val (.int rc), .val (.int rp), .val (.int rq), .val (.int (Int32.ofNat m1)), .val (.int (Int32.ofNat m2)), .val (.int (Int32.ofNat m3)), .val (.int (Int32.ofNat m4)), .val (.int q7), .val (.int (Int32.ofNat m17)), .val (.ref b12), .val (.ref b_21), .unset, .unset, .unset, .unset] [(.int (Int32.ofNat m2)), (.ref b_21)])) _
      show Steps p.tables e below (T150.setTop (mkF m 97 #[.val (.int ra), .val (.int rb), .val (.int rc), .val (.int rp), .val (.int rq), .val (.int (Int32.ofNat m1)), .val (.int (Int32.ofNat m2)), .val (.int (Int32.ofNat m3)), .val (.int (Int32.ofNat m4)), .val (.int q7), .val (.int (Int32.ofNat m17)), .val (.ref b12), .val (.ref b_21), .unset, .unset, .unset, .unset] [(.int (Int32.ofNat m2)), (.ref b_21)])) t_
      exact k_)
    have O154 : Old Z n0 h150 := ((O138.keep K141 (allS (show n0 ≤ b_21 by omega) (allS (show n0 ≤ va_21 by omega) all0))).keep K150 (allS (show n0 ≤ b12 by omega) (allS (show n0 ≤ ea_21 by omega) all0)))
    have f155 : Exa Z h150 b_21 "java/lang/StringBuilder" := (Fq141_0.keep K150)
    have f156 : Fld Z h150 b_21 "java/lang/AbstractStringBuilder" "value" "[B" (.ref va_21) := (Fq141_1.keep K150 (ninS (show @Ne Nat b_21 b12 by omega) (ninS (show @Ne Nat b_21 ea_21 by omega) nin0)))
    have f157 : Fld Z h150 b_21 "java/lang/AbstractStringBuilder" "coder" "B" (.int (0 : Int32)) := (Fq141_2.keep K150 (ninS (show @Ne Nat b_21 b12 by omega) (ninS (show @Ne Nat b_21 ea_21 by omega) nin0)))
    have f158 : Fld Z h150 b_21 "java/lang/AbstractStringBuilder" "count" "I" (.int (Int32.ofNat (0 + m1))) := (Fq141_3.keep K150 (ninS (show @Ne Nat b_21 b12 by omega) (ninS (show @Ne Nat b_21 ea_21 by omega) nin0)))
    have f159 : Fld Z h150 b_21 "java/lang/AbstractStringBuilder" "maybeLatin1" "Z" (.int mm_135) := (Fq141_4.keep K150 (ninS (show @Ne Nat b_21 b12 by omega) (ninS (show @Ne Nat b_21 ea_21 by omega) nin0)))
    have f160 : Arv Z h150 va_21 kc_21 .byte (16 : Int32) vt_141 (.int (0 : Int32)) := (Fq141_5.keep K150 (ninS (show @Ne Nat va_21 b12 by omega) (ninS (show @Ne Nat va_21 ea_21 by omega) nin0)))
    have Zc161 : n0 ≤ h150.size := by omega
    obtain ⟨_, _, ⟨T162, L162, k162, n162⟩, -, X162, ⟨Lc162, hQ162, l162, y162, z162⟩, st162⟩ := Jvm.LawKit.callS X150 hx (y := (⟨"com/example/bezugswerk/bezugswerk/DecodedPartsStartPinLaw", "fill", "(Ljava/lang/StringBuilder;I)V"⟩ : MethodName)) hown (mvT hZ (hw _ (List.mem_of_getElem? (i := 40) rfl))) (mvT hZ (hw _ (List.mem_of_getElem? (i := 41) rfl))) (mvT hZ (hw _ (List.mem_of_getElem? (i := 42) rfl))) (mvT hZ (hw _ (List.mem_of_getElem? (i := 43) rfl))) (by decide) (backOf (W := 0) (rmFill l Z a0 hw [] b_21 cst va_21 kc_21 vt_141 (0 + m1) mm_135 m2 h150 n0 Zc161 I1 O154 (hcst : ¬ (cst = (0 : Int32))) f155 f156 f157 f158 f159 f160 (P141_0 : vt_141.length = 16) (by first | assumption | rfl | decide | omega : m2 < 4) (by first | assumption | rfl | decide | omega : (0 + m1) + 3 < 16) (by first | assumption | rfl | decide | omega : n0 ≤ b_21) (by first | assumption | rfl | decide | omega : n0 ≤ va_21) (by first | assumption | rfl | decide | omega : @Ne Nat b_21 va_21)) hZ (hw _ (List.mem_of_getElem? (i := 43) rfl)) (hw _ (List.mem_of_getElem? (i := 42) rfl)) (by decide) (by decide)) (g := (mkF m 97 #[.val (.int ra), .val (.int rb), .val (.int rc), .val (.int rp), .val (.int rq), .val (.int (Int32.ofNat m1)), .val (.int (Int32.ofNat m2)), .val (.int (Int32.ofNat m3)), .val (.int (Int32.ofNat m4)), .val (.int q7), .val (.int (Int32.ofNat m17)), .val (.ref b12), .val (.ref b_21), .unset, .unset, .unset, .unset] [(.int (Int32.ofNat m2)), (.ref b_21)])) rfl (by rw [hml]; rfl) (argsL := [(.ref b_21), (.int (Int32.ofNat m2))]) (rest := []) (lenOf pd__Ljava_lang_StringBuilder_I_V rfl) rfl (by show 2 * 0 + _ ≤ _; exact Nat.le_of_eq rfl) (Jvm.hb hby at_97) (fun _ _ => ⟨rfl, e150, (by decide : 4 + 0 ≤ _), (by decide : 39 + 0 ≤ _)⟩)
    dsimp only [Pt.U, Pt.locs, Pt.cells, Pt.slots] at X162 l162 y162 z162 st162 hQ162
    subst l162 y162 z162
    obtain ⟨vt_162, rfl, N162q, K162, Fq162_0, Fq162_1, Fq162_2, Fq162_3, Fq162_4, Fq162_5, P162_0⟩ := hQ162
    have N162 := Fr.app N150 N162q
    obtain ⟨h162, e162⟩ : ∃ z, T162.heap = z := ⟨_, rfl⟩
    rw [e162] at K162 Fq162_0 Fq162_1 Fq162_2 Fq162_3 Fq162_4 Fq162_5
    have z163 : h150.size ≤ h162.size := K162.1
    have lt162_0 : @LT.lt Nat _ b_21 h162.size := Fq162_0.lt
    have lt162_5 : @LT.lt Nat _ va_21 h162.size := Fq162_5.lt
    have s164 : ∀ t_, Steps p.tables e below (T162.setTop (mkF m 102 #[.val (.int ra), .val (.int rb), .val (.int rc), .val (.int rp), .val (.int rq), .val (.int (Int32.ofNat m1)), .val (.int (Int32.ofNat m2)), .val (.int (Int32.ofNat m3)), .val (.int (Int32.ofNat m4)), .val (.int q7), .val (.int (Int32.ofNat m17)), .val (.ref b12), .val (.ref b_21), .unset, .unset, .unset, .unset] [(.ref b12)])) t_ → Steps p.tables e below (s₁.setTop (entryFrame m #[(.int ra), (.int rb), (.int rc), (.int rp), (.int rq)] maxLocals)) t_ := fun t_ k_ => s153 t_ (by
      show Steps p.tables e below (T150.setTop (mkF m 97 #[.val (.int ra), .val (.int rb), .val (.int rc), .val (.int rp), .val (.int rq), .val (.int (Int32.ofNat m1)), .val (.int (Int32.ofNat m2)), .val (.int (Int32.ofNat m3)), .val (.int (Int32.ofNat m4)), .val (.int q7), .val (.int (Int32.ofNat m17)), .val (.ref b12), .val (.ref b_21), .unset, .unset, .unset, .unset] [(.int (Int32.ofNat m2)), (.ref b_21)])) t_
      refine st162 _ ?_
      show Steps p.tables e below (T162.setTop (mkF m 100 #[.val (.int ra), .val (.int rb), .val (.int rc), .val (.int rp), .val (.int rq), .val (.int (Int32.ofNat m1)), .val (.int (Int32.ofNat m2)), .val (.int (Int32.ofNat m3)), .val (.int (Int32.ofNat m4)), .val (.int q7), .val (.int (Int32.ofNat m17)), .val (.ref b12), .val (.ref b_21), .unset, .unset, .unset, .unset] [])) _
      refine XS.aload X162.here hx rfl (Jvm.hb hby at_100) rfl rfl ?_
      show Steps p.tables e below (T162.setTop (mkF m 102 #[.val (.int ra), .val (.int rb), .val (.int rc), .val (.int rp), .val (.int rq), .val (.int (Int32.ofNat m1)), .val (.int (Int32.ofNat m2)), .val (.int (Int32.ofNat m3)), .val (.int (Int32.ofNat m4)), .val (.int q7), .val (.int (Int32.ofNat m17)), .val (.ref b12), .val (.ref b_21), .unset, .unset, .unset, .unset] [(.ref b12)])) _
      show Steps p.tables e below (T162.setTop (mkF m 102 #[.val (.int ra), .val (.int rb), .val (.int rc), .val (.int rp), .val (.int rq), .val (.int (Int32.ofNat m1)), .val (.int (Int32.ofNat m2)), .val (.int (Int32.ofNat m3)), .val (.int (Int32.ofNat m4)), .val (.int q7), .val (.int (Int32.ofNat m17)), .val (.ref b12), .val (.ref b_21), .unset, .unset, .unset, .unset] [(.ref b12)])) t_
      exact k_)
    have f165 : Exa Z h162 b12 "com/example/bezugswerk/bezugswerk/DecodedParts" := (Fq150_0.keep K162)
    have f166 : Fld Z h162 b12 "com/example/bezugswerk/bezugswerk/DecodedParts" "text" "Ljava/lang/StringBuilder;" (.ref b_21) := (Fq150_1.keep K162 (ninS (show @Ne Nat b12 b_21 by omega) (ninS (show @Ne Nat b12 va_21 by omega) nin0)))
    have f167 : Fld Z h162 b12 "com/example/bezugswerk/bezugswerk/DecodedParts" "ends" "[I" (.ref ea_21) := (Fq150_2.keep K162 (ninS (show @Ne Nat b12 b_21 by omega) (ninS (show @Ne Nat b12 va_21 by omega) nin0)))
    have f168 : Fld Z h162 b12 "com/example/bezugswerk/bezugswerk/DecodedParts" "size" "I" (.int (Int32.ofNat (0 + 1))) := (Fq150_3.keep K162 (ninS (show @Ne Nat b12 b_21 by omega) (ninS (show @Ne Nat b12 va_21 by omega) nin0)))
    have f169 : Arv Z h162 ea_21 ke_21 .int (16 : Int32) [(.int (Int32.ofNat (0 + m1))), (.int (0 : Int32)), (.int (0 : Int32)), (.int (0 : Int32)), (.int (0 : Int32)), (.int (0 : Int32)), (.int (0 : Int32)), (.int (0 : Int32)), (.int (0 : Int32)), (.int (0 : Int32)), (.int (0 : Int32)), (.int (0 : Int32)), (.int (0 : Int32)), (.int (0 : Int32)), (.int (0 : Int32)), (.int (0 : Int32))] (.int (0 : Int32)) := (V152.keep K162 (ninS (show @Ne Nat ea_21 b_21 by omega) (ninS (show @Ne Nat ea_21 va_21 by omega) nin0)))
    have Zc170 : n0 ≤ h162.size := by omega
    obtain ⟨cq171, kq171, q171a, q171b, q171c⟩ := isOf hZ e162 f165
    obtain ⟨_, _, ⟨T171, L171, k171, n171⟩, -, X171, ⟨Lc171, hQ171, l171, y171, z171⟩, st171⟩ := X162.virtualBack hx (y := (⟨"com/example/bezugswerk/bezugswerk/DecodedParts", "endPart", "()V"⟩ : MethodName)) (z := (⟨"com/example/bezugswerk/bezugswerk/DecodedParts", "endPart", "()V"⟩ : MethodName)) hown (mvT hZ (hw _ (List.mem_of_getElem? (i := 44) rfl))) (mvT hZ (hw _ (List.mem_of_getElem? (i := 45) rfl))) (notFace_of_selects (args := #[]) (mvT hZ (hw _ (List.mem_of_getElem? (i := 47) rfl)))) (mvT hZ (hw _ (List.mem_of_getElem? (i := 47) rfl))) (mvT hZ (hw _ (List.mem_of_getElem? (i := 46) rfl))) (by decide) (backOf (W := 0) (rmEnd l Z a0 hw [] b12 b_21 ea_21 ke_21 [(.int (Int32.ofNat (0 + m1))), (.int (0 : Int32)), (.int (0 : Int32)), (.int (0 : Int32)), (.int (0 : Int32)), (.int (0 : Int32)), (.int (0 : Int32)), (.int (0 : Int32)), (.int (0 : Int32)), (.int (0 : Int32)), (.int (0 : Int32)), (.int (0 : Int32)), (.int (0 : Int32)), (.int (0 : Int32)), (.int (0 : Int32)), (.int (0 : Int32))] (0 + 1) (Int32.ofNat ((0 + m1) + m2)) h162 n0 Zc170 f165 f166 f167 f168 Fq162_0 Fq162_3 f169 (by first | assumption | rfl | decide | omega : [(.int (Int32.ofNat (0 + m1))), (.int (0 : Int32)), (.int (0 : Int32)), (.int (0 : Int32)), (.int (0 : Int32)), (.int (0 : Int32)), (.int (0 : Int32)), (.int (0 : Int32)), (.int (0 : Int32)), (.int (0 : Int32)), (.int (0 : Int32)), (.int (0 : Int32)), (.int (0 : Int32)), (.int (0 : Int32)), (.int (0 : Int32)), (.int (0 : Int32))].length = 16) (by first | assumption | rfl | decide | omega : (0 + 1) < 16) (by first | assumption | rfl | decide | omega : n0 ≤ b12) (by first | assumption | rfl | decide | omega : n0 ≤ ea_21) (by first | assumption | rfl | decide | omega : @Ne Nat b12 ea_21)) hZ (hw _ (List.mem_of_getElem? (i := 48) rfl)) (hw _ (List.mem_of_getElem? (i := 3) rfl)) (by decide) (by decide)) q171a q171c (g := (mkF m 102 #[.val (.int ra), .val (.int rb), .val (.int rc), .val (.int rp), .val (.int rq), .val (.int (Int32.ofNat m1)), .val (.int (Int32.ofNat m2)), .val (.int (Int32.ofNat m3)), .val (.int (Int32.ofNat m4)), .val (.int q7), .val (.int (Int32.ofNat m17)), .val (.ref b12), .val (.ref b_21), .unset, .unset, .unset, .unset] [(.ref b12)])) rfl (by rw [hml]; rfl) (Steps.refl _) (argsL := []) (rest := []) (lenOf pd___V rfl) rfl (by show 2 * 0 + _ ≤ _; exact Nat.le_of_eq rfl) (Jvm.hb hby at_102) (fun _ _ => ⟨rfl, e162, (by decide : 4 + 0 ≤ _), (by decide : 39 + 0 ≤ _)⟩)
    dsimp only [Pt.U, Pt.locs, Pt.cells, Pt.slots] at X171 l171 y171 z171 st171 hQ171
    subst l171 y171 z171
    obtain ⟨rfl, N171q, K171, Fq171_0, Fq171_1, Fq171_2, Fq171_3, Fq171_4⟩ := hQ171
    have N171 := Fr.app N162 N171q
    obtain ⟨h171, e171⟩ : ∃ z, T171.heap = z := ⟨_, rfl⟩
    rw [e171] at K171 Fq171_0 Fq171_1 Fq171_2 Fq171_3 Fq171_4
    have z172 : h162.size ≤ h171.size := K171.1
    have lt171_0 : @LT.lt Nat _ b12 h171.size := Fq171_0.lt
    have lt171_4 : @LT.lt Nat _ ea_21 h171.size := Fq171_4.lt
    have V173 : Arv Z h171 ea_21 ke_21 .int (16 : Int32) [(.int (Int32.ofNat (0 + m1))), (.int (Int32.ofNat ((0 + m1) + m2))), (.int (0 : Int32)), (.int (0 : Int32)), (.int (0 : Int32)), (.int (0 : Int32)), (.int (0 : Int32)), (.int (0 : Int32)), (.int (0 : Int32)), (.int (0 : Int32)), (.int (0 : Int32)), (.int (0 : Int32)), (.int (0 : Int32)), (.int (0 : Int32)), (.int (0 : Int32)), (.int (0 : Int32))] (.int (0 : Int32)) := Fq171_4
    have s174 : ∀ t_, Steps p.tables e below (T171.setTop (mkF m 109 #[.val (.int ra), .val (.int rb), .val (.int rc), .val (.int rp), .val (.int rq), .val (.int (Int32.ofNat m1)), .val (.int (Int32.ofNat m2)), .val (.int (Int32.ofNat m3)), .val (.int (Int32.ofNat m4)), .val (.int q7), .val (.int (Int32.ofNat m17)), .val (.ref b12), .val (.ref b_21), .unset, .unset, .unset, .unset] [(.int (Int32.ofNat m3)), (.ref b_21)])) t_ → Steps p.tables e below (s₁.setTop (entryFrame m #[(.int ra), (.int rb), (.int rc), (.int rp), (.int rq)] maxLocals)) t_ := fun t_ k_ => s164 t_ (by
      show Steps p.tables e below (T162.setTop (mkF m 102 #[.val (.int ra), .val (.int rb), .val (.int rc), .val (.int rp), .val (.int rq), .val (.int (Int32.ofNat m1)), .val (.int (Int32.ofNat m2)), .val (.int (Int32.ofNat m3)), .val (.int (Int32.ofNat m4)), .val (.int q7), .val (.int (Int32.ofNat m17)), .val (.ref b12), .val (.ref b_21), .unset, .unset, .unset, .unset] [(.ref b12)])) t_
      refine st171.trans ?_
      show Steps p.tables e below (T171.setTop (mkF m 105 #[.val (.int ra), .val (.int rb), .val (.int rc), .val (.int rp), .val (.int rq), .val (.int (Int32.ofNat m1)), .val (.int (Int32.ofNat m2)), .val (.int (Int32.ofNat m3)), .val (.int (Int32.ofNat m4)), .val (.int q7), .val (.int (Int32.ofNat m17)), .val (.ref b12), .val (.ref b_21), .unset, .unset, .unset, .unset] [])) _
      refine XS.aload X171.here hx rfl (Jvm.hb hby at_105) rfl rfl ?_
      show Steps p.tables e below (T171.setTop (mkF m 107 #[.val (.int ra), .val (.int rb), .val (.int rc), .val (.int rp), .val (.int rq), .val (.int (Int32.ofNat m1)), .val (.int (Int32.ofNat m2)), .val (.int (Int32.ofNat m3)), .val (.int (Int32.ofNat m4)), .val (.int q7), .val (.int (Int32.ofNat m17)), .val (.ref b12), .val (.ref b_21), .unset, .unset, .unset, .unset] [(.ref b_21)])) _
      refine XS.iload X171.here hx rfl (Jvm.hb hby at_107) rfl ?_
      show Steps p.tables e below (T171.setTop (mkF m 109 #[.val (.int ra), .val (.int rb), .val (.int rc), .val (.int rp), .val (.int rq), .val (.int (Int32.ofNat m1)), .val (.int (Int32.ofNat m2)), .val (.int (Int32.ofNat m3)), .val (.int (Int32.ofNat m4)), .val (.int q7), .val (.int (Int32.ofNat m17)), .val (.ref b12), .val (.ref b_21), .unset, .unset, .unset, .unset] [(.int (Int32.ofNat m3)), (.ref b_21)])) _
      show Steps p.tables e below (T171.setTop (mkF m 109 #[.val (.int ra), .val (.int rb), .val (.int rc), .val (.int rp), .val (.int rq), .val (.int (Int32.ofNat m1)), .val (.int (Int32.ofNat m2)), .val (.int (Int32.ofNat m3)), .val (.int (Int32.ofNat m4)), .val (.int q7), .val (.int (Int32.ofNat m17)), .val (.ref b12), .val (.ref b_21), .unset, .unset, .unset, .unset] [(.int (Int32.ofNat m3)), (.ref b_21)])) t_
      exact k_)
    have O175 : Old Z n0 h171 := ((O154.keep K162 (allS (show n0 ≤ b_21 by omega) (allS (show n0 ≤ va_21 by omega) all0))).keep K171 (allS (show n0 ≤ b12 by omega) (allS (show n0 ≤ ea_21 by omega) all0)))
    have f176 : Exa Z h171 b_21 "java/lang/StringBuilder" := (Fq162_0.keep K171)
    have f177 : Fld Z h171 b_21 "java/lang/AbstractStringBuilder" "value" "[B" (.ref va_21) := (Fq162_1.keep K171 (ninS (show @Ne Nat b_21 b12 by omega) (ninS (show @Ne Nat b_21 ea_21 by omega) nin0)))
    have f178 : Fld Z h171 b_21 "java/lang/AbstractStringBuilder" "coder" "B" (.int (0 : Int32)) := (Fq162_2.keep K171 (ninS (show @Ne Nat b_21 b12 by omega) (ninS (show @Ne Nat b_21 ea_21 by omega) nin0)))
    have f179 : Fld Z h171 b_21 "java/lang/AbstractStringBuilder" "count" "I" (.int (Int32.ofNat ((0 + m1) + m2))) := (Fq162_3.keep K171 (ninS (show @Ne Nat b_21 b12 by omega) (ninS (show @Ne Nat b_21 ea_21 by omega) nin0)))
    have f180 : Fld Z h171 b_21 "java/lang/AbstractStringBuilder" "maybeLatin1" "Z" (.int mm_135) := (Fq162_4.keep K171 (ninS (show @Ne Nat b_21 b12 by omega) (ninS (show @Ne Nat b_21 ea_21 by omega) nin0)))
    have f181 : Arv Z h171 va_21 kc_21 .byte (16 : Int32) vt_162 (.int (0 : Int32)) := (Fq162_5.keep K171 (ninS (show @Ne Nat va_21 b12 by omega) (ninS (show @Ne Nat va_21 ea_21 by omega) nin0)))
    have Zc182 : n0 ≤ h171.size := by omega
    obtain ⟨_, _, ⟨T183, L183, k183, n183⟩, -, X183, ⟨Lc183, hQ183, l183, y183, z183⟩, st183⟩ := Jvm.LawKit.callS X171 hx (y := (⟨"com/example/bezugswerk/bezugswerk/DecodedPartsStartPinLaw", "fill", "(Ljava/lang/StringBuilder;I)V"⟩ : MethodName)) hown (mvT hZ (hw _ (List.mem_of_getElem? (i := 40) rfl))) (mvT hZ (hw _ (List.mem_of_getElem? (i := 41) rfl))) (mvT hZ (hw _ (List.mem_of_getElem? (i := 42) rfl))) (mvT hZ (hw _ (List.mem_of_getElem? (i := 43) rfl))) (by decide) (backOf (W := 0) (rmFill l Z a0 hw [] b_21 cst va_21 kc_21 vt_162 ((0 + m1) + m2) mm_135 m3 h171 n0 Zc182 I1 O175 (hcst : ¬ (cst = (0 : Int32))) f176 f177 f178 f179 f180 f181 (P162_0 : vt_162.length = 16) (by first | assumption | rfl | decide | omega : m3 < 4) (by first | assumption | rfl | decide | omega : ((0 + m1) + m2) + 3 < 16) (by first | assumption | rfl | decide | omega : n0 ≤ b_21) (by first | assumption | rfl | decide | omega : n0 ≤ va_21) (by first | assumption | rfl | decide | omega : @Ne Nat b_21 va_21)) hZ (hw _ (List.mem_of_getElem? (i := 43) rfl)) (hw _ (List.mem_of_getElem? (i := 42) rfl)) (by decide) (by decide)) (g := (mkF m 109 #[.val (.int ra), .val (.int rb), .val (.int rc), .val (.int rp), .val (.int rq), .val (.int (Int32.ofNat m1)), .val (.int (Int32.ofNat m2)), .val (.int (Int32.ofNat m3)), .val (.int (Int32.ofNat m4)), .val (.int q7), .val (.int (Int32.ofNat m17)), .val (.ref b12), .val (.ref b_21), .unset, .unset, .unset, .unset] [(.int (Int32.ofNat m3)), (.ref b_21)])) rfl (by rw [hml]; rfl) (argsL := [(.ref b_21), (.int (Int32.ofNat m3))]) (rest := []) (lenOf pd__Ljava_lang_StringBuilder_I_V rfl) rfl (by show 2 * 0 + _ ≤ _; exact Nat.le_of_eq rfl) (Jvm.hb hby at_109) (fun _ _ => ⟨rfl, e171, (by decide : 4 + 0 ≤ _), (by decide : 39 + 0 ≤ _)⟩)
    dsimp only [Pt.U, Pt.locs, Pt.cells, Pt.slots] at X183 l183 y183 z183 st183 hQ183
    subst l183 y183 z183
    obtain ⟨vt_183, rfl, N183q, K183, Fq183_0, Fq183_1, Fq183_2, Fq183_3, Fq183_4, Fq183_5, P183_0⟩ := hQ183
    have N183 := Fr.app N171 N183q
    obtain ⟨h183, e183⟩ : ∃ z, T183.heap = z := ⟨_, rfl⟩
    rw [e183] at K183 Fq183_0 Fq183_1 Fq183_2 Fq183_3 Fq183_4 Fq183_5
    have z184 : h171.size ≤ h183.size := K183.1
    have lt183_0 : @LT.lt Nat _ b_21 h183.size := Fq183_0.lt
    have lt183_5 : @LT.lt Nat _ va_21 h183.size := Fq183_5.lt
    have s185 : ∀ t_, Steps p.tables e below (T183.setTop (mkF m 114 #[.val (.int ra), .val (.int rb), .val (.int rc), .val (.int rp), .val (.int rq), .val (.int (Int32.ofNat m1)), .val (.int (Int32.ofNat m2)), .val (.int (Int32.ofNat m3)), .val (.int (Int32.ofNat m4)), .val (.int q7), .val (.int (Int32.ofNat m17)), .val (.ref b12), .val (.ref b_21), .unset, .unset, .unset, .unset] [(.ref b12)])) t_ → Steps p.tables e below (s₁.setTop (entryFrame m #[(.int ra), (.int rb), (.int rc), (.int rp), (.int rq)] maxLocals)) t_ := fun t_ k_ => s174 t_ (by
      show Steps p.tables e below (T171.setTop (mkF m 109 #[.val (.int ra), .val (.int rb), .val (.int rc), .val (.int rp), .val (.int rq), .val (.int (Int32.ofNat m1)), .val (.int (Int32.ofNat m2)), .val (.int (Int32.ofNat m3)), .val (.int (Int32.ofNat m4)), .val (.int q7), .val (.int (Int32.ofNat m17)), .val (.ref b12), .val (.ref b_21), .unset, .unset, .unset, .unset] [(.int (Int32.ofNat m3)), (.ref b_21)])) t_
      refine st183 _ ?_
      show Steps p.tables e below (T183.setTop (mkF m 112 #[.val (.int ra), .val (.int rb), .val (.int rc), .val (.int rp), .val (.int rq), .val (.int (Int32.ofNat m1)), .val (.int (Int32.ofNat m2)), .val (.int (Int32.ofNat m3)), .val (.int (Int32.ofNat m4)), .val (.int q7), .val (.int (Int32.ofNat m17)), .val (.ref b12), .val (.ref b_21), .unset, .unset, .unset, .unset] [])) _
      refine XS.aload X183.here hx rfl (Jvm.hb hby at_112) rfl rfl ?_
      show Steps p.tables e below (T183.setTop (mkF m 114 #[.val (.int ra), .val (.int rb), .val (.int rc), .val (.int rp), .val (.int rq), .val (.int (Int32.ofNat m1)), .val (.int (Int32.ofNat m2)), .val (.int (Int32.ofNat m3)), .val (.int (Int32.ofNat m4)), .val (.int q7), .val (.int (Int32.ofNat m17)), .val (.ref b12), .val (.ref b_21), .unset, .unset, .unset, .unset] [(.ref b12)])) _
      show Steps p.tables e below (T183.setTop (mkF m 114 #[.val (.int ra), .val (.int rb), .val (.int rc), .val (.int rp), .val (.int rq), .val (.int (Int32.ofNat m1)), .val (.int (Int32.ofNat m2)), .val (.int (Int32.ofNat m3)), .val (.int (Int32.ofNat m4)), .val (.int q7), .val (.int (Int32.ofNat m17)), .val (.ref b12), .val (.ref b_21), .unset, .unset, .unset, .unset] [(.ref b12)])) t_
      exact k_)
    have f186 : Exa Z h183 b12 "com/example/bezugswerk/bezugswerk/DecodedParts" := (Fq171_0.keep K183)
    have f187 : Fld Z h183 b12 "com/example/bezugswerk/bezugswerk/DecodedParts" "text" "Ljava/lang/StringBuilder;" (.ref b_21) := (Fq171_1.keep K183 (ninS (show @Ne Nat b12 b_21 by omega) (ninS (show @Ne Nat b12 va_21 by omega) nin0)))
    have f188 : Fld Z h183 b12 "com/example/bezugswerk/bezugswerk/DecodedParts" "ends" "[I" (.ref ea_21) := (Fq171_2.keep K183 (ninS (show @Ne Nat b12 b_21 by omega) (ninS (show @Ne Nat b12 va_21 by omega) nin0)))
    have f189 : Fld Z h183 b12 "com/example/bezugswerk/bezugswerk/DecodedParts" "size" "I" (.int (Int32.ofNat ((0 + 1) + 1))) := (Fq171_3.keep K183 (ninS (show @Ne Nat b12 b_21 by omega) (ninS (show @Ne Nat b12 va_21 by omega) nin0)))
    have f190 : Arv Z h183 ea_21 ke_21 .int (16 : Int32) [(.int (Int32.ofNat (0 + m1))), (.int (Int32.ofNat ((0 + m1) + m2))), (.int (0 : Int32)), (.int (0 : Int32)), (.int (0 : Int32)), (.int (0 : Int32)), (.int (0 : Int32)), (.int (0 : Int32)), (.int (0 : Int32)), (.int (0 : Int32)), (.int (0 : Int32)), (.int (0 : Int32)), (.int (0 : Int32)), (.int (0 : Int32)), (.int (0 : Int32)), (.int (0 : Int32))] (.int (0 : Int32)) := (V173.keep K183 (ninS (show @Ne Nat ea_21 b_21 by omega) (ninS (show @Ne Nat ea_21 va_21 by omega) nin0)))
    have Zc191 : n0 ≤ h183.size := by omega
    obtain ⟨cq192, kq192, q192a, q192b, q192c⟩ := isOf hZ e183 f186
    obtain ⟨_, _, ⟨T192, L192, k192, n192⟩, -, X192, ⟨Lc192, hQ192, l192, y192, z192⟩, st192⟩ := X183.virtualBack hx (y := (⟨"com/example/bezugswerk/bezugswerk/DecodedParts", "endPart", "()V"⟩ : MethodName)) (z := (⟨"com/example/bezugswerk/bezugswerk/DecodedParts", "endPart", "()V"⟩ : MethodName)) hown (mvT hZ (hw _ (List.mem_of_getElem? (i := 44) rfl))) (mvT hZ (hw _ (List.mem_of_getElem? (i := 45) rfl))) (notFace_of_selects (args := #[]) (mvT hZ (hw _ (List.mem_of_getElem? (i := 47) rfl)))) (mvT hZ (hw _ (List.mem_of_getElem? (i := 47) rfl))) (mvT hZ (hw _ (List.mem_of_getElem? (i := 46) rfl))) (by decide) (backOf (W := 0) (rmEnd l Z a0 hw [] b12 b_21 ea_21 ke_21 [(.int (Int32.ofNat (0 + m1))), (.int (Int32.ofNat ((0 + m1) + m2))), (.int (0 : Int32)), (.int (0 : Int32)), (.int (0 : Int32)), (.int (0 : Int32)), (.int (0 : Int32)), (.int (0 : Int32)), (.int (0 : Int32)), (.int (0 : Int32)), (.int (0 : Int32)), (.int (0 : Int32)), (.int (0 : Int32)), (.int (0 : Int32)), (.int (0 : Int32)), (.int (0 : Int32))] ((0 + 1) + 1) (Int32.ofNat (((0 + m1) + m2) + m3)) h183 n0 Zc191 f186 f187 f188 f189 Fq183_0 Fq183_3 f190 (by first | assumption | rfl | decide | omega : [(.int (Int32.ofNat (0 + m1))), (.int (Int32.ofNat ((0 + m1) + m2))), (.int (0 : Int32)), (.int (0 : Int32)), (.int (0 : Int32)), (.int (0 : Int32)), (.int (0 : Int32)), (.int (0 : Int32)), (.int (0 : Int32)), (.int (0 : Int32)), (.int (0 : Int32)), (.int (0 : Int32)), (.int (0 : Int32)), (.int (0 : Int32)), (.int (0 : Int32)), (.int (0 : Int32))].length = 16) (by first | assumption | rfl | decide | omega : ((0 + 1) + 1) < 16) (by first | assumption | rfl | decide | omega : n0 ≤ b12) (by first | assumption | rfl | decide | omega : n0 ≤ ea_21) (by first | assumption | rfl | decide | omega : @Ne Nat b12 ea_21)) hZ (hw _ (List.mem_of_getElem? (i := 48) rfl)) (hw _ (List.mem_of_getElem? (i := 3) rfl)) (by decide) (by decide)) q192a q192c (g := (mkF m 114 #[.val (.int ra), .val (.int rb), .val (.int rc), .val (.int rp), .val (.int rq), .val (.int (Int32.ofNat m1)), .val (.int (Int32.ofNat m2)), .val (.int (Int32.ofNat m3)), .val (.int (Int32.ofNat m4)), .val (.int q7), .val (.int (Int32.ofNat m17)), .val (.ref b12), .val (.ref b_21), .unset, .unset, .unset, .unset] [(.ref b12)])) rfl (by rw [hml]; rfl) (Steps.refl _) (argsL := []) (rest := []) (lenOf pd___V rfl) rfl (by show 2 * 0 + _ ≤ _; exact Nat.le_of_eq rfl) (Jvm.hb hby at_114) (fun _ _ => ⟨rfl, e183, (by decide : 4 + 0 ≤ _), (by decide : 39 + 0 ≤ _)⟩)
    dsimp only [Pt.U, Pt.locs, Pt.cells, Pt.slots] at X192 l192 y192 z192 st192 hQ192
    subst l192 y192 z192
    obtain ⟨rfl, N192q, K192, Fq192_0, Fq192_1, Fq192_2, Fq192_3, Fq192_4⟩ := hQ192
    have N192 := Fr.app N183 N192q
    obtain ⟨h192, e192⟩ : ∃ z, T192.heap = z := ⟨_, rfl⟩
    rw [e192] at K192 Fq192_0 Fq192_1 Fq192_2 Fq192_3 Fq192_4
    have z193 : h183.size ≤ h192.size := K192.1
    have lt192_0 : @LT.lt Nat _ b12 h192.size := Fq192_0.lt
    have lt192_4 : @LT.lt Nat _ ea_21 h192.size := Fq192_4.lt
    have V194 : Arv Z h192 ea_21 ke_21 .int (16 : Int32) [(.int (Int32.ofNat (0 + m1))), (.int (Int32.ofNat ((0 + m1) + m2))), (.int (Int32.ofNat (((0 + m1) + m2) + m3))), (.int (0 : Int32)), (.int (0 : Int32)), (.int (0 : Int32)), (.int (0 : Int32)), (.int (0 : Int32)), (.int (0 : Int32)), (.int (0 : Int32)), (.int (0 : Int32)), (.int (0 : Int32)), (.int (0 : Int32)), (.int (0 : Int32)), (.int (0 : Int32)), (.int (0 : Int32))] (.int (0 : Int32)) := Fq192_4
    have s195 : ∀ t_, Steps p.tables e below (T192.setTop (mkF m 119 #[.val (.int ra), .val (.int rb), .val (.int rc), .val (.int rp), .val (.int rq), .val (.int (Int32.ofNat m1)), .val (.int (Int32.ofNat m2)), .val (.int (Int32.ofNat m3)), .val (.int (Int32.ofNat m4)), .val (.int q7), .val (.int (Int32.ofNat m17)), .val (.ref b12), .val (.ref b_21), .unset, .unset, .unset, .unset] [(.int (Int32.ofNat m4))])) t_ → Steps p.tables e below (s₁.setTop (entryFrame m #[(.int ra), (.int rb), (.int rc), (.int rp), (.int rq)] maxLocals)) t_ := fun t_ k_ => s185 t_ (by
      show Steps p.tables e below (T183.setTop (mkF m 114 #[.val (.int ra), .val (.int rb), .val (.int rc), .val (.int rp), .val (.int rq), .val (.int (Int32.ofNat m1)), .val (.int (Int32.ofNat m2)), .val (.int (Int32.ofNat m3)), .val (.int (Int32.ofNat m4)), .val (.int q7), .val (.int (Int32.ofNat m17)), .val (.ref b12), .val (.ref b_21), .unset, .unset, .unset, .unset] [(.ref b12)])) t_
      refine st192.trans ?_
      show Steps p.tables e below (T192.setTop (mkF m 117 #[.val (.int ra), .val (.int rb), .val (.int rc), .val (.int rp), .val (.int rq), .val (.int (Int32.ofNat m1)), .val (.int (Int32.ofNat m2)), .val (.int (Int32.ofNat m3)), .val (.int (Int32.ofNat m4)), .val (.int q7), .val (.int (Int32.ofNat m17)), .val (.ref b12), .val (.ref b_21), .unset, .unset, .unset, .unset] [])) _
      refine XS.iload X192.here hx rfl (Jvm.hb hby at_117) rfl ?_
      show Steps p.tables e below (T192.setTop (mkF m 119 #[.val (.int ra), .val (.int rb), .val (.int rc), .val (.int rp), .val (.int rq), .val (.int (Int32.ofNat m1)), .val (.int (Int32.ofNat m2)), .val (.int (Int32.ofNat m3)), .val (.int (Int32.ofNat m4)), .val (.int q7), .val (.int (Int32.ofNat m17)), .val (.ref b12), .val (.ref b_21), .unset, .unset, .unset, .unset] [(.int (Int32.ofNat m4))])) _
      show Steps p.tables e below (T192.setTop (mkF m 119 #[.val (.int ra), .val (.int rb), .val (.int rc), .val (.int rp), .val (.int rq), .val (.int (Int32.ofNat m1)), .val (.int (Int32.ofNat m2)), .val (.int (Int32.ofNat m3)), .val (.int (Int32.ofNat m4)), .val (.int q7), .val (.int (Int32.ofNat m17)), .val (.ref b12), .val (.ref b_21), .unset, .unset, .unset, .unset] [(.int (Int32.ofNat m4))])) t_
      exact k_)
    obtain ⟨q196, hq196⟩ : ∃ z : Int32, z = (if (Int32.ofNat m4) = (0 : Int32) then (0 : Int32) else (if (Int32.ofNat m4) = (1 : Int32) then (Int32.ofNat m1) else ((Int32.ofNat m1) + (Int32.ofNat m2)))) := ⟨_, rfl⟩
    obtain ⟨q197, hq197⟩ : ∃ z : Int32, z = (if (Int32.ofNat m4) = (0 : Int32) then (Int32.ofNat m1) else (if (Int32.ofNat m4) = (1 : Int32) then (Int32.ofNat m2) else (Int32.ofNat m3))) := ⟨_, rfl⟩
    obtain ⟨T198, X198, e198, s198⟩ := seg X192 (fun T' => T'.heap = h192 ∧ ∀ t_, Steps p.tables e below (T'.setTop (mkF m 160 #[.val (.int ra), .val (.int rb), .val (.int rc), .val (.int rp), .val (.int rq), .val (.int (Int32.ofNat m1)), .val (.int (Int32.ofNat m2)), .val (.int (Int32.ofNat m3)), .val (.int (Int32.ofNat m4)), .val (.int q7), .val (.int (Int32.ofNat m17)), .val (.ref b12), .val (.ref b_21), .val (.int q196), .val (.int q197), .unset, .unset] [])) t_ → Steps p.tables e below (s₁.setTop (entryFrame m #[(.int ra), (.int rb), (.int rc), (.int rp), (.int rq)] maxLocals)) t_) (by
      by_cases h199 : (Int32.ofNat m4) = (0 : Int32)
      · have s200 : ∀ t_, Steps p.tables e below (T192.setTop (mkF m 160 #[.val (.int ra), .val (.int rb), .val (.int rc), .val (.int rp), .val (.int rq), .val (.int (Int32.ofNat m1)), .val (.int (Int32.ofNat m2)), .val (.int (Int32.ofNat m3)), .val (.int (Int32.ofNat m4)), .val (.int q7), .val (.int (Int32.ofNat m17)), .val (.ref b12), .val (.ref b_21), .val (.int (0 : Int32)), .val (.int (Int32.ofNat m1)), .unset, .unset] [])) t_ → Steps p.tables e below (s₁.setTop (entryFrame m #[(.int ra), (.int rb), (.int rc), (.int rp), (.int rq)] maxLocals)) t_ := fun t_ k_ => s195 t_ (by
          show Steps p.tables e below (T192.setTop (mkF m 119 #[.val (.int ra), .val (.int rb), .val (.int rc), .val (.int rp), .val (.int rq), .val (.int (Int32.ofNat m1)), .val (.int (Int32.ofNat m2)), .val (.int (Int32.ofNat m3)), .val (.int (Int32.ofNat m4)), .val (.int q7), .val (.int (Int32.ofNat m17)), .val (.ref b12), .val (.ref b_21), .unset, .unset, .unset, .unset] [(.int (Int32.ofNat m4))])) t_
          refine XS.ifNo X192.here hx rfl (Jvm.hb hby at_119) rfl ((if0 _ _).trans (teq h199).2) ?_
          show Steps p.tables e below (T192.setTop (mkF m 122 #[.val (.int ra), .val (.int rb), .val (.int rc), .val (.int rp), .val (.int rq), .val (.int (Int32.ofNat m1)), .val (.int (Int32.ofNat m2)), .val (.int (Int32.ofNat m3)), .val (.int (Int32.ofNat m4)), .val (.int q7), .val (.int (Int32.ofNat m17)), .val (.ref b12), .val (.ref b_21), .unset, .unset, .unset, .unset] [])) _
          refine XS.iconst X192.here hx rfl (Jvm.hb hby at_122) ?_
          show Steps p.tables e below (T192.setTop (mkF m 123 #[.val (.int ra), .val (.int rb), .val (.int rc), .val (.int rp), .val (.int rq), .val (.int (Int32.ofNat m1)), .val (.int (Int32.ofNat m2)), .val (.int (Int32.ofNat m3)), .val (.int (Int32.ofNat m4)), .val (.int q7), .val (.int (Int32.ofNat m17)), .val (.ref b12), .val (.ref b_21), .unset, .unset, .unset, .unset] [(.int (0 : Int32))])) _
          refine XS.istore X192.here hx rfl (Jvm.hb hby at_123) rfl (l' := #[.val (.int ra), .val (.int rb), .val (.int rc), .val (.int rp), .val (.int rq), .val (.int (Int32.ofNat m1)), .val (.int (Int32.ofNat m2)), .val (.int (Int32.ofNat m3)), .val (.int (Int32.ofNat m4)), .val (.int q7), .val (.int (Int32.ofNat m17)), .val (.ref b12), .val (.ref b_21), .val (.int (0 : Int32)), .unset, .unset, .unset]) rfl ?_
          show Steps p.tables e below (T192.setTop (mkF m 125 #[.val (.int ra), .val (.int rb), .val (.int rc), .val (.int rp), .val (.int rq), .val (.int (Int32.ofNat m1)), .val (.int (Int32.ofNat m2)), .val (.int (Int32.ofNat m3)), .val (.int (Int32.ofNat m4)), .val (.int q7), .val (.int (Int32.ofNat m17)), .val (.ref b12), .val (.ref b_21), .val (.int (0 : Int32)), .unset, .unset, .unset] [])) _
          refine XS.iload X192.here hx rfl (Jvm.hb hby at_125) rfl ?_
          show Steps p.tables e below (T192.setTop (mkF m 127 #[.val (.int ra), .val (.int rb), .val (.int rc), .val (.int rp), .val (.int rq), .val (.int (Int32.ofNat m1)), .val (.int (Int32.ofNat m2)), .val (.int (Int32.ofNat m3)), .val (.int (Int32.ofNat m4)), .val (.int q7), .val (.int (Int32.ofNat m17)), .val (.ref b12), .val (.ref b_21), .val (.int (0 : Int32)), .unset, .unset, .unset] [(.int (Int32.ofNat m1))])) _
          refine XS.istore X192.here hx rfl (Jvm.hb hby at_127) rfl (l' := #[.val (.int ra), .val (.int rb), .val (.int rc), .val (.int rp), .val (.int rq), .val (.int (Int32.ofNat m1)), .val (.int (Int32.ofNat m2)), .val (.int (Int32.ofNat m3)), .val (.int (Int32.ofNat m4)), .val (.int q7), .val (.int (Int32.ofNat m17)), .val (.ref b12), .val (.ref b_21), .val (.int (0 : Int32)), .val (.int (Int32.ofNat m1)), .unset, .unset]) rfl ?_
          show Steps p.tables e below (T192.setTop (mkF m 129 #[.val (.int ra), .val (.int rb), .val (.int rc), .val (.int rp), .val (.int rq), .val (.int (Int32.ofNat m1)), .val (.int (Int32.ofNat m2)), .val (.int (Int32.ofNat m3)), .val (.int (Int32.ofNat m4)), .val (.int q7), .val (.int (Int32.ofNat m17)), .val (.ref b12), .val (.ref b_21), .val (.int (0 : Int32)), .val (.int (Int32.ofNat m1)), .unset, .unset] [])) _
          refine XS.goto X192.here hx rfl (pc0 := 129) (pc' := 160) rfl (Jvm.hb hby at_129) (by decide) (by decide) ?_
          show Steps p.tables e below (T192.setTop (mkF m 160 #[.val (.int ra), .val (.int rb), .val (.int rc), .val (.int rp), .val (.int rq), .val (.int (Int32.ofNat m1)), .val (.int (Int32.ofNat m2)), .val (.int (Int32.ofNat m3)), .val (.int (Int32.ofNat m4)), .val (.int q7), .val (.int (Int32.ofNat m17)), .val (.ref b12), .val (.ref b_21), .val (.int (0 : Int32)), .val (.int (Int32.ofNat m1)), .unset, .unset] [])) _
          show Steps p.tables e below (T192.setTop (mkF m 160 #[.val (.int ra), .val (.int rb), .val (.int rc), .val (.int rp), .val (.int rq), .val (.int (Int32.ofNat m1)), .val (.int (Int32.ofNat m2)), .val (.int (Int32.ofNat m3)), .val (.int (Int32.ofNat m4)), .val (.int q7), .val (.int (Int32.ofNat m17)), .val (.ref b12), .val (.ref b_21), .val (.int (0 : Int32)), .val (.int (Int32.ofNat m1)), .unset, .unset] [])) t_
          exact k_)
        exact ⟨T192, X192, e192, fun t_ k_ => s200 t_ (castTop (by simp only [hq196, hq197, if_pos h199]) k_)⟩
      · have s201 : ∀ t_, Steps p.tables e below (T192.setTop (mkF m 135 #[.val (.int ra), .val (.int rb), .val (.int rc), .val (.int rp), .val (.int rq), .val (.int (Int32.ofNat m1)), .val (.int (Int32.ofNat m2)), .val (.int (Int32.ofNat m3)), .val (.int (Int32.ofNat m4)), .val (.int q7), .val (.int (Int32.ofNat m17)), .val (.ref b12), .val (.ref b_21), .unset, .unset, .unset, .unset] [(.int (1 : Int32)), (.int (Int32.ofNat m4))])) t_ → Steps p.tables e below (s₁.setTop (entryFrame m #[(.int ra), (.int rb), (.int rc), (.int rp), (.int rq)] maxLocals)) t_ := fun t_ k_ => s195 t_ (by
          show Steps p.tables e below (T192.setTop (mkF m 119 #[.val (.int ra), .val (.int rb), .val (.int rc), .val (.int rp), .val (.int rq), .val (.int (Int32.ofNat m1)), .val (.int (Int32.ofNat m2)), .val (.int (Int32.ofNat m3)), .val (.int (Int32.ofNat m4)), .val (.int q7), .val (.int (Int32.ofNat m17)), .val (.ref b12), .val (.ref b_21), .unset, .unset, .unset, .unset] [(.int (Int32.ofNat m4))])) t_
          refine XS.ifYes X192.here hx rfl (pc0 := 119) (pc' := 132) rfl (Jvm.hb hby at_119) rfl ((if0 _ _).trans (feq h199).2) (by decide) (by decide) ?_
          show Steps p.tables e below (T192.setTop (mkF m 132 #[.val (.int ra), .val (.int rb), .val (.int rc), .val (.int rp), .val (.int rq), .val (.int (Int32.ofNat m1)), .val (.int (Int32.ofNat m2)), .val (.int (Int32.ofNat m3)), .val (.int (Int32.ofNat m4)), .val (.int q7), .val (.int (Int32.ofNat m17)), .val (.ref b12), .val (.ref b_21), .unset, .unset, .unset, .unset] [])) _
          refine XS.iload X192.here hx rfl (Jvm.hb hby at_132) rfl ?_
          show Steps p.tables e below (T192.setTop (mkF m 134 #[.val (.int ra), .val (.int rb), .val (.int rc), .val (.int rp), .val (.int rq), .val (.int (Int32.ofNat m1)), .val (.int (Int32.ofNat m2)), .val (.int (Int32.ofNat m3)), .val (.int (Int32.ofNat m4)), .val (.int q7), .val (.int (Int32.ofNat m17)), .val (.ref b12), .val (.ref b_21), .unset, .unset, .unset, .unset] [(.int (Int32.ofNat m4))])) _
          refine XS.iconst X192.here hx rfl (Jvm.hb hby at_134) ?_
          show Steps p.tables e below (T192.setTop (mkF m 135 #[.val (.int ra), .val (.int rb), .val (.int rc), .val (.int rp), .val (.int rq), .val (.int (Int32.ofNat m1)), .val (.int (Int32.ofNat m2)), .val (.int (Int32.ofNat m3)), .val (.int (Int32.ofNat m4)), .val (.int q7), .val (.int (Int32.ofNat m17)), .val (.ref b12), .val (.ref b_21), .unset, .unset, .unset, .unset] [(.int (1 : Int32)), (.int (Int32.ofNat m4))])) _
          show Steps p.tables e below (T192.setTop (mkF m 135 #[.val (.int ra), .val (.int rb), .val (.int rc), .val (.int rp), .val (.int rq), .val (.int (Int32.ofNat m1)), .val (.int (Int32.ofNat m2)), .val (.int (Int32.ofNat m3)), .val (.int (Int32.ofNat m4)), .val (.int q7), .val (.int (Int32.ofNat m17)), .val (.ref b12), .val (.ref b_21), .unset, .unset, .unset, .unset] [(.int (1 : Int32)), (.int (Int32.ofNat m4))])) t_
          exact k_)
        by_cases h202 : (Int32.ofNat m4) = (1 : Int32)
        · have s203 : ∀ t_, Steps p.tables e below (T192.setTop (mkF m 160 #[.val (.int ra), .val (.int rb), .val (.int rc), .val (.int rp), .val (.int rq), .val (.int (Int32.ofNat m1)), .val (.int (Int32.ofNat m2)), .val (.int (Int32.ofNat m3)), .val (.int (Int32.ofNat m4)), .val (.int q7), .val (.int (Int32.ofNat m17)), .val (.ref b12), .val (.ref b_21), .val (.int (Int32.ofNat m1)), .val (.int (Int32.ofNat m2)), .unset, .unset] [])) t_ → Steps p.tables e below (s₁.setTop (entryFrame m #[(.int ra), (.int rb), (.int rc), (.int rp), (.int rq)] maxLocals)) t_ := fun t_ k_ => s201 t_ (by
            show Steps p.tables e below (T192.setTop (mkF m 135 #[.val (.int ra), .val (.int rb), .val (.int rc), .val (.int rp), .val (.int rq), .val (.int (Int32.ofNat m1)), .val (.int (Int32.ofNat m2)), .val (.int (Int32.ofNat m3)), .val (.int (Int32.ofNat m4)), .val (.int q7), .val (.int (Int32.ofNat m17)), .val (.ref b12), .val (.ref b_21), .unset, .unset, .unset, .unset] [(.int (1 : Int32)), (.int (Int32.ofNat m4))])) t_
            refine XS.icmpNo X192.here hx rfl (Jvm.hb hby at_135) rfl (teq h202).2 ?_
            show Steps p.tables e below (T192.setTop (mkF m 138 #[.val (.int ra), .val (.int rb), .val (.int rc), .val (.int rp), .val (.int rq), .val (.int (Int32.ofNat m1)), .val (.int (Int32.ofNat m2)), .val (.int (Int32.ofNat m3)), .val (.int (Int32.ofNat m4)), .val (.int q7), .val (.int (Int32.ofNat m17)), .val (.ref b12), .val (.ref b_21), .unset, .unset, .unset, .unset] [])) _
            refine XS.iload X192.here hx rfl (Jvm.hb hby at_138) rfl ?_
            show Steps p.tables e below (T192.setTop (mkF m 140 #[.val (.int ra), .val (.int rb), .val (.int rc), .val (.int rp), .val (.int rq), .val (.int (Int32.ofNat m1)), .val (.int (Int32.ofNat m2)), .val (.int (Int32.ofNat m3)), .val (.int (Int32.ofNat m4)), .val (.int q7), .val (.int (Int32.ofNat m17)), .val (.ref b12), .val (.ref b_21), .unset, .unset, .unset, .unset] [(.int (Int32.ofNat m1))])) _
            refine XS.istore X192.here hx rfl (Jvm.hb hby at_140) rfl (l' := #[.val (.int ra), .val (.int rb), .val (.int rc), .val (.int rp), .val (.int rq), .val (.int (Int32.ofNat m1)), .val (.int (Int32.ofNat m2)), .val (.int (Int32.ofNat m3)), .val (.int (Int32.ofNat m4)), .val (.int q7), .val (.int (Int32.ofNat m17)), .val (.ref b12), .val (.ref b_21), .val (.int (Int32.ofNat m1)), .unset, .unset, .unset]) rfl ?_
            show Steps p.tables e below (T192.setTop (mkF m 142 #[.val (.int ra), .val (.int rb), .val (.int rc), .val (.int rp), .val (.int rq), .val (.int (Int32.ofNat m1)), .val (.int (Int32.ofNat m2)), .val (.int (Int32.ofNat m3)), .val (.int (Int32.ofNat m4)), .val (.int q7), .val (.int (Int32.ofNat m17)), .val (.ref b12), .val (.ref b_21), .val (.int (Int32.ofNat m1)), .unset, .unset, .unset] [])) _
            refine XS.iload X192.here hx rfl (Jvm.hb hby at_142) rfl ?_
            show Steps p.tables e below (T192.setTop (mkF m 144 #[.val (.int ra), .val (.int rb), .val (.int rc), .val (.int rp), .val (.int rq), .val (.int (Int32.ofNat m1)), .val (.int (Int32.ofNat m2)), .val (.int (Int32.ofNat m3)), .val (.int (Int32.ofNat m4)), .val (.int q7), .val (.int (Int32.ofNat m17)), .val (.ref b12), .val (.ref b_21), .val (.int (Int32.ofNat m1)), .unset, .unset, .unset] [(.int (Int32.ofNat m2))])) _
            refine XS.istore X192.here hx rfl (Jvm.hb hby at_144) rfl (l' := #[.val (.int ra), .val (.int rb), .val (.int rc), .val (.int rp), .val (.int rq), .val (.int (Int32.ofNat m1)), .val (.int (Int32.ofNat m2)), .val (.int (Int32.ofNat m3)), .val (.int (Int32.ofNat m4)), .val (.int q7), .val (.int (Int32.ofNat m17)), .val (.ref b12), .val (.ref b_21), .val (.int (Int32.ofNat m1)), .val (.int (Int32.ofNat m2)), .unset, .unset]) rfl ?_
            show Steps p.tables e below (T192.setTop (mkF m 146 #[.val (.int ra), .val (.int rb), .val (.int rc), .val (.int rp), .val (.int rq), .val (.int (Int32.ofNat m1)), .val (.int (Int32.ofNat m2)), .val (.int (Int32.ofNat m3)), .val (.int (Int32.ofNat m4)), .val (.int q7), .val (.int (Int32.ofNat m17)), .val (.ref b12), .val (.ref b_21), .val (.int (Int32.ofNat m1)), .val (.int (Int32.ofNat m2)), .unset, .unset] [])) _
            refine XS.goto X192.here hx rfl (pc0 := 146) (pc' := 160) rfl (Jvm.hb hby at_146) (by decide) (by decide) ?_
            show Steps p.tables e below (T192.setTop (mkF m 160 #[.val (.int ra), .val (.int rb), .val (.int rc), .val (.int rp), .val (.int rq), .val (.int (Int32.ofNat m1)), .val (.int (Int32.ofNat m2)), .val (.int (Int32.ofNat m3)), .val (.int (Int32.ofNat m4)), .val (.int q7), .val (.int (Int32.ofNat m17)), .val (.ref b12), .val (.ref b_21), .val (.int (Int32.ofNat m1)), .val (.int (Int32.ofNat m2)), .unset, .unset] [])) _
            show Steps p.tables e below (T192.setTop (mkF m 160 #[.val (.int ra), .val (.int rb), .val (.int rc), .val (.int rp), .val (.int rq), .val (.int (Int32.ofNat m1)), .val (.int (Int32.ofNat m2)), .val (.int (Int32.ofNat m3)), .val (.int (Int32.ofNat m4)), .val (.int q7), .val (.int (Int32.ofNat m17)), .val (.ref b12), .val (.ref b_21), .val (.int (Int32.ofNat m1)), .val (.int (Int32.ofNat m2)), .unset, .unset] [])) t_
            exact k_)
          exact ⟨T192, X192, e192, fun t_ k_ => s203 t_ (castTop (by simp only [hq196, hq197, if_neg h199, if_pos h202]) k_)⟩
        · have s204 : ∀ t_, Steps p.tables e below (T192.setTop (mkF m 160 #[.val (.int ra), .val (.int rb), .val (.int rc), .val (.int rp), .val (.int rq), .val (.int (Int32.ofNat m1)), .val (.int (Int32.ofNat m2)), .val (.int (Int32.ofNat m3)), .val (.int (Int32.ofNat m4)), .val (.int q7), .val (.int (Int32.ofNat m17)), .val (.ref b12), .val (.ref b_21), .val (.int ((Int32.ofNat m1) + (Int32.ofNat m2))), .val (.int (Int32.ofNat m3)), .unset, .unset] [])) t_ → Steps p.tables e below (s₁.setTop (entryFrame m #[(.int ra), (.int rb), (.int rc), (.int rp), (.int rq)] maxLocals)) t_ := fun t_ k_ => s201 t_ (by
            show Steps p.tables e below (T192.setTop (mkF m 135 #[.val (.int ra), .val (.int rb), .val (.int rc), .val (.int rp), .val (.int rq), .val (.int (Int32.ofNat m1)), .val (.int (Int32.ofNat m2)), .val (.int (Int32.ofNat m3)), .val (.int (Int32.ofNat m4)), .val (.int q7), .val (.int (Int32.ofNat m17)), .val (.ref b12), .val (.ref b_21), .unset, .unset, .unset, .unset] [(.int (1 : Int32)), (.int (Int32.ofNat m4))])) t_
            refine XS.icmpYes X192.here hx rfl (pc0 := 135) (pc' := 149) rfl (Jvm.hb hby at_135) rfl (feq h202).2 (by decide) (by decide) ?_
            show Steps p.tables e below (T192.setTop (mkF m 149 #[.val (.int ra), .val (.int rb), .val (.int rc), .val (.int rp), .val (.int rq), .val (.int (Int32.ofNat m1)), .val (.int (Int32.ofNat m2)), .val (.int (Int32.ofNat m3)), .val (.int (Int32.ofNat m4)), .val (.int q7), .val (.int (Int32.ofNat m17)), .val (.ref b12), .val (.ref b_21), .unset, .unset, .unset, .unset] [])) _
            refine XS.iload X192.here hx rfl (Jvm.hb hby at_149) rfl ?_
            show Steps p.tables e below (T192.setTop (mkF m 151 #[.val (.int ra), .val (.int rb), .val (.int rc), .val (.int rp), .val (.int rq), .val (.int (Int32.ofNat m1)), .val (.int (Int32.ofNat m2)), .val (.int (Int32.ofNat m3)), .val (.int (Int32.ofNat m4)), .val (.int q7), .val (.int (Int32.ofNat m17)), .val (.ref b12), .val (.ref b_21), .unset, .unset, .unset, .unset] [(.int (Int32.ofNat m1))])) _
            refine XS.iload X192.here hx rfl (Jvm.hb hby at_151) rfl ?_
            show Steps p.tables e below (T192.setTop (mkF m 153 #[.val (.int ra), .val (.int rb), .val (.int rc), .val (.int rp), .val (.int rq), .val (.int (Int32.ofNat m1)), .val (.int (Int32.ofNat m2)), .val (.int (Int32.ofNat m3)), .val (.int (Int32.ofNat m4)), .val (.int q7), .val (.int (Int32.ofNat m17)), .val (.ref b12), .val (.ref b_21), .unset, .unset, .unset, .unset] [(.int (Int32.ofNat m2)), (.int (Int32.ofNat m1))])) _
            refine XS.iadd X192.here hx rfl (Jvm.hb hby at_153) rfl ?_
            show Steps p.tables e below (T192.setTop (mkF m 154 #[.val (.int ra), .val (.int rb), .val (.int rc), .val (.int rp), .val (.int rq), .val (.int (Int32.ofNat m1)), .val (.int (Int32.ofNat m2)), .val (.int (Int32.ofNat m3)), .val (.int (Int32.ofNat m4)), .val (.int q7), .val (.int (Int32.ofNat m17)), .val (.ref b12), .val (.ref b_21), .unset, .unset, .unset, .unset] [(.int ((Int32.ofNat m1) + (Int32.ofNat m2)))])) _
            refine XS.istore X192.here hx rfl (Jvm.hb hby at_154) rfl (l' := #[.val (.int ra), .val (.int rb), .val (.int rc), .val (.int rp), .val (.int rq), .val (.int (Int32.ofNat m1)), .val (.int (Int32.ofNat m2)), .val (.int (Int32.ofNat m3)), .val (.int (Int32.ofNat m4)), .val (.int q7), .val (.int (Int32.ofNat m17)), .val (.ref b12), .val (.ref b_21), .val (.int ((Int32.ofNat m1) + (Int32.ofNat m2))), .unset, .unset, .unset]) rfl ?_
            show Steps p.tables e below (T192.setTop (mkF m 156 #[.val (.int ra), .val (.int rb), .val (.int rc), .val (.int rp), .val (.int rq), .val (.int (Int32.ofNat m1)), .val (.int (Int32.ofNat m2)), .val (.int (Int32.ofNat m3)), .val (.int (Int32.ofNat m4)), .val (.int q7), .val (.int (Int32.ofNat m17)), .val (.ref b12), .val (.ref b_21), .val (.int ((Int32.ofNat m1) + (Int32.ofNat m2))), .unset, .unset, .unset] [])) _
            refine XS.iload X192.here hx rfl (Jvm.hb hby at_156) rfl ?_
            show Steps p.tables e below (T192.setTop (mkF m 158 #[.val (.int ra), .val (.int rb), .val (.int rc), .val (.int rp), .val (.int rq), .val (.int (Int32.ofNat m1)), .val (.int (Int32.ofNat m2)), .val (.int (Int32.ofNat m3)), .val (.int (Int32.ofNat m4)), .val (.int q7), .val (.int (Int32.ofNat m17)), .val (.ref b12), .val (.ref b_21), .val (.int ((Int32.ofNat m1) + (Int32.ofNat m2))), .unset, .unset, .unset] [(.int (Int32.ofNat m3))])) _
            refine XS.istore X192.here hx rfl (Jvm.hb hby at_158) rfl (l' := #[.val (.int ra), .val (.int rb), .val (.int rc), .val (.int rp), .val (.int rq), .val (.int (Int32.ofNat m1)), .val (.int (Int32.ofNat m2)), .val (.int (Int32.ofNat m3)), .val (.int (Int32.ofNat m4)), .val (.int q7), .val (.int (Int32.ofNat m17)), .val (.ref b12), .val (.ref b_21), .val (.int ((Int32.ofNat m1) + (Int32.ofNat m2))), .val (.int (Int32.ofNat m3)), .unset, .unset]) rfl ?_
            show Steps p.tables e below (T192.setTop (mkF m 160 #[.val (.int ra), .val (.int rb), .val (.int rc), .val (.int rp), .val (.int rq), .val (.int (Int32.ofNat m1)), .val (.int (Int32.ofNat m2)), .val (.int (Int32.ofNat m3)), .val (.int (Int32.ofNat m4)), .val (.int q7), .val (.int (Int32.ofNat m17)), .val (.ref b12), .val (.ref b_21), .val (.int ((Int32.ofNat m1) + (Int32.ofNat m2))), .val (.int (Int32.ofNat m3)), .unset, .unset] [])) _
            show Steps p.tables e below (T192.setTop (mkF m 160 #[.val (.int ra), .val (.int rb), .val (.int rc), .val (.int rp), .val (.int rq), .val (.int (Int32.ofNat m1)), .val (.int (Int32.ofNat m2)), .val (.int (Int32.ofNat m3)), .val (.int (Int32.ofNat m4)), .val (.int q7), .val (.int (Int32.ofNat m17)), .val (.ref b12), .val (.ref b_21), .val (.int ((Int32.ofNat m1) + (Int32.ofNat m2))), .val (.int (Int32.ofNat m3)), .unset, .unset] [])) t_
            exact k_)
          exact ⟨T192, X192, e192, fun t_ k_ => s204 t_ (castTop (by simp only [hq196, hq197, if_neg h199, if_neg h202]) k_)⟩)
    have s205 : ∀ t_, Steps p.tables e below (T198.setTop (mkF m 164 #[.val (.int ra), .val (.int rb), .val (.int rc), .val (.int rp), .val (.int rq), .val (.int (Int32.ofNat m1)), .val (.int (Int32.ofNat m2)), .val (.int (Int32.ofNat m3)), .val (.int (Int32.ofNat m4)), .val (.int q7), .val (.int (Int32.ofNat m17)), .val (.ref b12), .val (.ref b_21), .val (.int q196), .val (.int q197), .unset, .unset] [(.int (Int32.ofNat m4)), (.ref b12)])) t_ → Steps p.tables e below (s₁.setTop (entryFrame m #[(.int ra), (.int rb), (.int rc), (.int rp), (.int rq)] maxLocals)) t_ := fun t_ k_ => s198 t_ (by
      show Steps p.tables e below (T198.setTop (mkF m 160 #[.val (.int ra), .val (.int rb), .val (.int rc), .val (.int rp), .val (.int rq), .val (.int (Int32.ofNat m1)), .val (.int (Int32.ofNat m2)), .val (.int (Int32.ofNat m3)), .val (.int (Int32.ofNat m4)), .val (.int q7), .val (.int (Int32.ofNat m17)), .val (.ref b12), .val (.ref b_21), .val (.int q196), .val (.int q197), .unset, .unset] [])) t_
      refine XS.aload X198.here hx rfl (Jvm.hb hby at_160) rfl rfl ?_
      show Steps p.tables e below (T198.setTop (mkF m 162 #[.val (.int ra), .val (.int rb), .val (.int rc), .val (.int rp), .val (.int rq), .val (.int (Int32.ofNat m1)), .val (.int (Int32.ofNat m2)), .val (.int (Int32.ofNat m3)), .val (.int (Int32.ofNat m4)), .val (.int q7), .val (.int (Int32.ofNat m17)), .val (.ref b12), .val (.ref b_21), .val (.int q196), .val (.int q197), .unset, .unset] [(.ref b12)])) _
      refine XS.iload X198.here hx rfl (Jvm.hb hby at_162) rfl ?_
      show Steps p.tables e below (T198.setTop (mkF m 164 #[.val (.int ra), .val (.int rb), .val (.int rc), .val (.int rp), .val (.int rq), .val (.int (Int32.ofNat m1)), .val (.int (Int32.ofNat m2)), .val (.int (Int32.ofNat m3)), .val (.int (Int32.ofNat m4)), .val (.int q7), .val (.int (Int32.ofNat m17)), .val (.ref b12), .val (.ref b_21), .val (.int q196), .val (.int q197), .unset, .unset] [(.int (Int32.ofNat m4)), (.ref b12)])) _
      show Steps p.tables e below (T198.setTop (mkF m 164 #[.val (.int ra), .val (.int rb), .val (.int rc), .val (.int rp), .val (.int rq), .val (.int (Int32.ofNat m1)), .val (.int (Int32.ofNat m2)), .val (.int (Int32.ofNat m3)), .val (.int (Int32.ofNat m4)), .val (.int q7), .val (.int (Int32.ofNat m17)), .val (.ref b12), .val (.ref b_21), .val (.int q196), .val (.int q197), .unset, .unset] [(.int (Int32.ofNat m4)), (.ref b12)])) t_
      exact k_)
    have Zc206 : n0 ≤ h192.size := by omega
    obtain ⟨cq207, kq207, q207a, q207b, q207c⟩ := isOf hZ e198 Fq192_0
    obtain ⟨_, _, ⟨T207, L207, k207, n207⟩, -, X207, ⟨Lc207, hQ207, l207, y207, z207⟩, st207⟩ := X198.virtualBack hx (y := (⟨"com/example/bezugswerk/bezugswerk/DecodedParts", "start", "(I)I"⟩ : MethodName)) (z := (⟨"com/example/bezugswerk/bezugswerk/DecodedParts", "start", "(I)I"⟩ : MethodName)) hown (mvT hZ (hw _ (List.mem_of_getElem? (i := 86) rfl))) (mvT hZ (hw _ (List.mem_of_getElem? (i := 87) rfl))) (notFace_of_selects (args := #[]) (mvT hZ (hw _ (List.mem_of_getElem? (i := 89) rfl)))) (mvT hZ (hw _ (List.mem_of_getElem? (i := 89) rfl))) (mvT hZ (hw _ (List.mem_of_getElem? (i := 88) rfl))) (by decide) (backOf (W := 0) (rmStart l Z a0 hw [] b12 ea_21 ke_21 (Int32.ofNat (0 + m1)) (Int32.ofNat ((0 + m1) + m2)) (Int32.ofNat (((0 + m1) + m2) + m3)) m4 h192 n0 Zc206 Fq192_0 Fq192_2 V194 (by first | assumption | rfl | decide | omega : m4 < 3)) hZ (hw _ (List.mem_of_getElem? (i := 90) rfl)) (hw _ (List.mem_of_getElem? (i := 3) rfl)) (by decide) (by decide)) q207a q207c (g := (mkF m 164 #[.val (.int ra), .val (.int rb), .val (.int rc), .val (.int rp), .val (.int rq), .val (.int (Int32.ofNat m1)), .val (.int (Int32.ofNat m2)), .val (.int (Int32.ofNat m3)), .val (.int (Int32.ofNat m4)), .val (.int q7), .val (.int (Int32.ofNat m17)), .val (.ref b12), .val (.ref b_21), .val (.int q196), .val (.int q197), .unset, .unset] [(.int (Int32.ofNat m4)), (.ref b12)])) rfl (by rw [hml]; rfl) (Steps.refl _) (argsL := [(.int (Int32.ofNat m4))]) (rest := []) (lenOf pd__I_I rfl) rfl (by show 2 * 0 + _ ≤ _; exact Nat.le_of_eq rfl) (Jvm.hb hby at_164) (fun _ _ => ⟨rfl, e198, (by decide : 4 + 0 ≤ _), (by decide : 39 + 0 ≤ _)⟩)
    dsimp only [Pt.U, Pt.locs, Pt.cells, Pt.slots] at X207 l207 y207 z207 st207 hQ207
    subst l207 y207 z207
    obtain ⟨rfl, N207q, e207⟩ := hQ207
    have N207 := Fr.app N192 N207q
    obtain ⟨q208, hq208⟩ : ∃ z : Int32, z = (own_pick m4 (0 : Int32) (Int32.ofNat (0 + m1)) (Int32.ofNat ((0 + m1) + m2))) := ⟨_, rfl⟩
    rw [← hq208] at st207
    have s209 : ∀ t_, Steps p.tables e below (T207.setTop (mkF m 173 #[.val (.int ra), .val (.int rb), .val (.int rc), .val (.int rp), .val (.int rq), .val (.int (Int32.ofNat m1)), .val (.int (Int32.ofNat m2)), .val (.int (Int32.ofNat m3)), .val (.int (Int32.ofNat m4)), .val (.int q7), .val (.int (Int32.ofNat m17)), .val (.ref b12), .val (.ref b_21), .val (.int q196), .val (.int q197), .val (.int q208), .unset] [(.int (Int32.ofNat m4)), (.ref b12)])) t_ → Steps p.tables e below (s₁.setTop (entryFrame m #[(.int ra), (.int rb), (.int rc), (.int rp), (.int rq)] maxLocals)) t_ := fun t_ k_ => s205 t_ (by
      show Steps p.tables e below (T198.setTop (mkF m 164 #[.val (.int ra), .val (.int rb), .val (.int rc), .val (.int rp), .val (.int rq), .val (.int (Int32.ofNat m1)), .val (.int (Int32.ofNat m2)), .val (.int (Int32.ofNat m3)), .val (.int (Int32.ofNat m4)), .val (.int q7), .val (.int (Int32.ofNat m17)), .val (.ref b12), .val (.ref b_21), .val (.int q196), .val (.int q197), .unset, .unset] [(.int (Int32.ofNat m4)), (.ref b12)])) t_
      refine st207.trans ?_
      show Steps p.tables e below (T207.setTop (mkF m 167 #[.val (.int ra), .val (.int rb), .val (.int rc), .val (.int rp), .val (.int rq), .val (.int (Int32.ofNat m1)), .val (.int (Int32.ofNat m2)), .val (.int (Int32.ofNat m3)), .val (.int (Int32.ofNat m4)), .val (.int q7), .val (.int (Int32.ofNat m17)), .val (.ref b12), .val (.ref b_21), .val (.int q196), .val (.int q197), .unset, .unset] [(.int q208)])) _
      refine XS.istore X207.here hx rfl (Jvm.hb hby at_167) rfl (l' := #[.val (.int ra), .val (.int rb), .val (.int rc), .val (.int rp), .val (.int rq), .val (.int (Int32.ofNat m1)), .val (.int (Int32.ofNat m2)), .val (.int (Int32.ofNat m3)), .val (.int (Int32.ofNat m4)), .val (.int q7), .val (.int (Int32.ofNat m17)), .val (.ref b12), .val (.ref b_21), .val (.int q196), .val (.int q197), .val (.int q208), .unset]) rfl ?_
      show Steps p.tables e below (T207.setTop (mkF m 169 #[.val (.int ra), .val (.int rb), .val (.int rc), .val (.int rp), .val (.int rq), .val (.int (Int32.ofNat m1)), .val (.int (Int32.ofNat m2)), .val (.int (Int32.ofNat m3)), .val (.int (Int32.ofNat m4)), .val (.int q7), .val (.int (Int32.ofNat m17)), .val (.ref b12), .val (.ref b_21), .val (.int q196), .val (.int q197), .val (.int q208), .unset] [])) _
      refine XS.aload X207.here hx rfl (Jvm.hb hby at_169) rfl rfl ?_
      show Steps p.tables e below (T207.setTop (mkF m 171 #[.val (.int ra), .val (.int rb), .val (.int rc), .val (.int rp), .val (.int rq), .val (.int (Int32.ofNat m1)), .val (.int (Int32.ofNat m2)), .val (.int (Int32.ofNat m3)), .val (.int (Int32.ofNat m4)), .val (.int q7), .val (.int (Int32.ofNat m17)), .val (.ref b12), .val (.ref b_21), .val (.int q196), .val (.int q197), .val (.int q208), .unset] [(.ref b12)])) _
      refine XS.iload X207.here hx rfl (Jvm.hb hby at_171) rfl ?_
      show Steps p.tables e below (T207.setTop (mkF m 173 #[.val (.int ra), .val (.int rb), .val (.int rc), .val (.int rp), .val (.int rq), .val (.int (Int32.ofNat m1)), .val (.int (Int32.ofNat m2)), .val (.int (Int32.ofNat m3)), .val (.int (Int32.ofNat m4)), .val (.int q7), .val (.int (Int32.ofNat m17)), .val (.ref b12), .val (.ref b_21), .val (.int q196), .val (.int q197), .val (.int q208), .unset] [(.int (Int32.ofNat m4)), (.ref b12)])) _
      show Steps p.tables e below (T207.setTop (mkF m 173 #[.val (.int ra), .val (.int rb), .val (.int rc), .val (.int rp), .val (.int rq), .val (.int (Int32.ofNat m1)), .val (.int (Int32.ofNat m2)), .val (.int (Int32.ofNat m3)), .val (.int (Int32.ofNat m4)), .val (.int q7), .val (.int (Int32.ofNat m17)), .val (.ref b12), .val (.ref b_21), .val (.int q196), .val (.int q197), .val (.int q208), .unset] [(.int (Int32.ofNat m4)), (.ref b12)])) t_
      exact k_)
    have Zc210 : n0 ≤ h192.size := by omega
    obtain ⟨cq211, kq211, q211a, q211b, q211c⟩ := isOf hZ e207 Fq192_0
    obtain ⟨_, _, ⟨T211, L211, k211, n211⟩, -, X211, ⟨Lc211, hQ211, l211, y211, z211⟩, st211⟩ := X207.virtualBack hx (y := (⟨"com/example/bezugswerk/bezugswerk/DecodedParts", "end", "(I)I"⟩ : MethodName)) (z := (⟨"com/example/bezugswerk/bezugswerk/DecodedParts", "end", "(I)I"⟩ : MethodName)) hown (mvT hZ (hw _ (List.mem_of_getElem? (i := 91) rfl))) (mvT hZ (hw _ (List.mem_of_getElem? (i := 92) rfl))) (notFace_of_selects (args := #[]) (mvT hZ (hw _ (List.mem_of_getElem? (i := 94) rfl)))) (mvT hZ (hw _ (List.mem_of_getElem? (i := 94) rfl))) (mvT hZ (hw _ (List.mem_of_getElem? (i := 93) rfl))) (by decide) (backOf (W := 0) (rmEndOf l Z a0 hw [] b12 ea_21 ke_21 (Int32.ofNat (0 + m1)) (Int32.ofNat ((0 + m1) + m2)) (Int32.ofNat (((0 + m1) + m2) + m3)) m4 h192 n0 Zc210 Fq192_0 Fq192_2 V194 (by first | assumption | rfl | decide | omega : m4 < 3)) hZ (hw _ (List.mem_of_getElem? (i := 95) rfl)) (hw _ (List.mem_of_getElem? (i := 3) rfl)) (by decide) (by decide)) q211a q211c (g := (mkF m 173 #[.val (.int ra), .val (.int rb), .val (.int rc), .val (.int rp), .val (.int rq), .val (.int (Int32.ofNat m1)), .val (.int (Int32.ofNat m2)), .val (.int (Int32.ofNat m3)), .val (.int (Int32.ofNat m4)), .val (.int q7), .val (.int (Int32.ofNat m17)), .val (.ref b12), .val (.ref b_21), .val (.int q196), .val (.int q197), .val (.int q208), .unset] [(.int (Int32.ofNat m4)), (.ref b12)])) rfl (by rw [hml]; rfl) (Steps.refl _) (argsL := [(.int (Int32.ofNat m4))]) (rest := []) (lenOf pd__I_I rfl) rfl (by show 2 * 0 + _ ≤ _; exact Nat.le_of_eq rfl) (Jvm.hb hby at_173) (fun _ _ => ⟨rfl, e207, (by decide : 4 + 0 ≤ _), (by decide : 39 + 0 ≤ _)⟩)
    dsimp only [Pt.U, Pt.locs, Pt.cells, Pt.slots] at X211 l211 y211 z211 st211 hQ211
    subst l211 y211 z211
    obtain ⟨rfl, N211q, e211⟩ := hQ211
    have N211 := Fr.app N207 N211q
    obtain ⟨q212, hq212⟩ : ∃ z : Int32, z = (own_pick m4 (Int32.ofNat (0 + m1)) (Int32.ofNat ((0 + m1) + m2)) (Int32.ofNat (((0 + m1) + m2) + m3))) := ⟨_, rfl⟩
    rw [← hq212] at st211
    have s213 : ∀ t_, Steps p.tables e below (T211.setTop (mkF m 182 #[.val (.int ra), .val (.int rb), .val (.int rc), .val (.int rp), .val (.int rq), .val (.int (Int32.ofNat m1)), .val (.int (Int32.ofNat m2)), .val (.int (Int32.ofNat m3)), .val (.int (Int32.ofNat m4)), .val (.int q7), .val (.int (Int32.ofNat m17)), .val (.ref b12), .val (.ref b_21), .val (.int q196), .val (.int q197), .val (.int q208), .val (.int q212)] [(.int q196), (.int q208)])) t_ → Steps p.tables e below (s₁.setTop (entryFrame m #[(.int ra), (.int rb), (.int rc), (.int rp), (.int rq)] maxLocals)) t_ := fun t_ k_ => s209 t_ (by
      show Steps p.tables e below (T207.setTop (mkF m 173 #[.val (.int ra), .val (.int rb), .val (.int rc), .val (.int rp), .val (.int rq), .val (.int (Int32.ofNat m1)), .val (.int (Int32.ofNat m2)), .val (.int (Int32.ofNat m3)), .val (.int (Int32.ofNat m4)), .val (.int q7), .val (.int (Int32.ofNat m17)), .val (.ref b12), .val (.ref b_21), .val (.int q196), .val (.int q197), .val (.int q208), .unset] [(.int (Int32.ofNat m4)), (.ref b12)])) t_
      refine st211.trans ?_
      show Steps p.tables e below (T211.setTop (mkF m 176 #[.val (.int ra), .val (.int rb), .val (.int rc), .val (.int rp), .val (.int rq), .val (.int (Int32.ofNat m1)), .val (.int (Int32.ofNat m2)), .val (.int (Int32.ofNat m3)), .val (.int (Int32.ofNat m4)), .val (.int q7), .val (.int (Int32.ofNat m17)), .val (.ref b12), .val (.ref b_21), .val (.int q196), .val (.int q197), .val (.int q208), .unset] [(.int q212)])) _
      refine XS.istore X211.here hx rfl (Jvm.hb hby at_176) rfl (l' := #[.val (.int ra), .val (.int rb), .val (.int rc), .val (.int rp), .val (.int rq), .val (.int (Int32.ofNat m1)), .val (.int (Int32.ofNat m2)), .val (.int (Int32.ofNat m3)), .val (.int (Int32.ofNat m4)), .val (.int q7), .val (.int (Int32.ofNat m17)), .val (.ref b12), .val (.ref b_21), .val (.int q196), .val (.int q197), .val (.int q208), .val (.int q212)]) rfl ?_
      show Steps p.tables e below (T211.setTop (mkF m 178 #[.val (.int ra), .val (.int rb), .val (.int rc), .val (.int rp), .val (.int rq), .val (.int (Int32.ofNat m1)), .val (.int (Int32.ofNat m2)), .val (.int (Int32.ofNat m3)), .val (.int (Int32.ofNat m4)), .val (.int q7), .val (.int (Int32.ofNat m17)), .val (.ref b12), .val (.ref b_21), .val (.int q196), .val (.int q197), .val (.int q208), .val (.int q212)] [])) _
      refine XS.iload X211.here hx rfl (Jvm.hb hby at_178) rfl ?_
      show Steps p.tables e below (T211.setTop (mkF m 180 #[.val (.int ra), .val (.int rb), .val (.int rc), .val (.int rp), .val (.int rq), .val (.int (Int32.ofNat m1)), .val (.int (Int32.ofNat m2)), .val (.int (Int32.ofNat m3)), .val (.int (Int32.ofNat m4)), .val (.int q7), .val (.int (Int32.ofNat m17)), .val (.ref b12), .val (.ref b_21), .val (.int q196), .val (.int q197), .val (.int q208), .val (.int q212)] [(.int q208)])) _
      refine XS.iload X211.here hx rfl (Jvm.hb hby at_180) rfl ?_
      show Steps p.tables e below (T211.setTop (mkF m 182 #[.val (.int ra), .val (.int rb), .val (.int rc), .val (.int rp), .val (.int rq), .val (.int (Int32.ofNat m1)), .val (.int (Int32.ofNat m2)), .val (.int (Int32.ofNat m3)), .val (.int (Int32.ofNat m4)), .val (.int q7), .val (.int (Int32.ofNat m17)), .val (.ref b12), .val (.ref b_21), .val (.int q196), .val (.int q197), .val (.int q208), .val (.int q212)] [(.int q196), (.int q208)])) _
      show Steps p.tables e below (T211.setTop (mkF m 182 #[.val (.int ra), .val (.int rb), .val (.int rc), .val (.int rp), .val (.int rq), .val (.int (Int32.ofNat m1)), .val (.int (Int32.ofNat m2)), .val (.int (Int32.ofNat m3)), .val (.int (Int32.ofNat m4)), .val (.int q7), .val (.int (Int32.ofNat m17)), .val (.ref b12), .val (.ref b_21), .val (.int q196), .val (.int q197), .val (.int q208), .val (.int q212)] [(.int q196), (.int q208)])) t_
      exact k_)
    obtain ⟨q214, hq214⟩ : ∃ z : Int32, z = (if q208 = q196 then (if (q212 - q208) = q197 then (1 : Int32) else (0 : Int32)) else (0 : Int32)) := ⟨_, rfl⟩
    obtain ⟨T215, X215, e215, s215⟩ := seg X211 (fun T' => T'.heap = h192 ∧ ∀ t_, Steps p.tables e below (T'.setTop (mkF m 200 #[.val (.int ra), .val (.int rb), .val (.int rc), .val (.int rp), .val (.int rq), .val (.int (Int32.ofNat m1)), .val (.int (Int32.ofNat m2)), .val (.int (Int32.ofNat m3)), .val (.int (Int32.ofNat m4)), .val (.int q7), .val (.int (Int32.ofNat m17)), .val (.ref b12), .val (.ref b_21), .val (.int q196), .val (.int q197), .val (.int q208), .val (.int q212)] [(.int q214)])) t_ → Steps p.tables e below (s₁.setTop (entryFrame m #[(.int ra), (.int rb), (.int rc), (.int rp), (.int rq)] maxLocals)) t_) (by
      by_cases h216 : q208 = q196
      · have s217 : ∀ t_, Steps p.tables e below (T211.setTop (mkF m 192 #[.val (.int ra), .val (.int rb), .val (.int rc), .val (.int rp), .val (.int rq), .val (.int (Int32.ofNat m1)), .val (.int (Int32.ofNat m2)), .val (.int (Int32.ofNat m3)), .val (.int (Int32.ofNat m4)), .val (.int q7), .val (.int (Int32.ofNat m17)), .val (.ref b12), .val (.ref b_21), .val (.int q196), .val (.int q197), .val (.int q208), .val (.int q212)] [(.int q197), (.int (q212 - q208))])) t_ → Steps p.tables e below (s₁.setTop (entryFrame m #[(.int ra), (.int rb), (.int rc), (.int rp), (.int rq)] maxLocals)) t_ := fun t_ k_ => s213 t_ (by
          show Steps p.tables e below (T211.setTop (mkF m 182 #[.val (.int ra), .val (.int rb), .val (.int rc), .val (.int rp), .val (.int rq), .val (.int (Int32.ofNat m1)), .val (.int (Int32.ofNat m2)), .val (.int (Int32.ofNat m3)), .val (.int (Int32.ofNat m4)), .val (.int q7), .val (.int (Int32.ofNat m17)), .val (.ref b12), .val (.ref b_21), .val (.int q196), .val (.int q197), .val (.int q208), .val (.int q212)] [(.int q196), (.int q208)])) t_
          refine XS.icmpNo X211.here hx rfl (Jvm.hb hby at_182) rfl (teq h216).2 ?_
          show Steps p.tables e below (T211.setTop (mkF m 185 #[.val (.int ra), .val (.int rb), .val (.int rc), .val (.int rp), .val (.int rq), .val (.int (Int32.ofNat m1)), .val (.int (Int32.ofNat m2)), .val (.int (Int32.ofNat m3)), .val (.int (Int32.ofNat m4)), .val (.int q7), .val (.int (Int32.ofNat m17)), .val (.ref b12), .val (.ref b_21), .val (.int q196), .val (.int q197), .val (.int q208), .val (.int q212)] [])) _
          refine XS.iload X211.here hx rfl (Jvm.hb hby at_185) rfl ?_
          show Steps p.tables e below (T211.setTop (mkF m 187 #[.val (.int ra), .val (.int rb), .val (.int rc), .val (.int rp), .val (.int rq), .val (.int (Int32.ofNat m1)), .val (.int (Int32.ofNat m2)), .val (.int (Int32.ofNat m3)), .val (.int (Int32.ofNat m4)), .val (.int q7), .val (.int (Int32.ofNat m17)), .val (.ref b12), .val (.ref b_21), .val (.int q196), .val (.int q197), .val (.int q208), .val (.int q212)] [(.int q212)])) _
          refine XS.iload X211.here hx rfl (Jvm.hb hby at_187) rfl ?_
          show Steps p.tables e below (T211.setTop (mkF m 189 #[.val (.int ra), .val (.int rb), .val (.int rc), .val (.int rp), .val (.int rq), .val (.int (Int32.ofNat m1)), .val (.int (Int32.ofNat m2)), .val (.int (Int32.ofNat m3)), .val (.int (Int32.ofNat m4)), .val (.int q7), .val (.int (Int32.ofNat m17)), .val (.ref b12), .val (.ref b_21), .val (.int q196), .val (.int q197), .val (.int q208), .val (.int q212)] [(.int q208), (.int q212)])) _
          refine XS.isub X211.here hx rfl (Jvm.hb hby at_189) rfl ?_
          show Steps p.tables e below (T211.setTop (mkF m 190 #[.val (.int ra), .val (.int rb), .val (.int rc), .val (.int rp), .val (.int rq), .val (.int (Int32.ofNat m1)), .val (.int (Int32.ofNat m2)), .val (.int (Int32.ofNat m3)), .val (.int (Int32.ofNat m4)), .val (.int q7), .val (.int (Int32.ofNat m17)), .val (.ref b12), .val (.ref b_21), .val (.int q196), .val (.int q197), .val (.int q208), .val (.int q212)] [(.int (q212 - q208))])) _
          refine XS.iload X211.here hx rfl (Jvm.hb hby at_190) rfl ?_
          show Steps p.tables e below (T211.setTop (mkF m 192 #[.val (.int ra), .val (.int rb), .val (.int rc), .val (.int rp), .val (.int rq), .val (.int (Int32.ofNat m1)), .val (.int (Int32.ofNat m2)), .val (.int (Int32.ofNat m3)), .val (.int (Int32.ofNat m4)), .val (.int q7), .val (.int (Int32.ofNat m17)), .val (.ref b12), .val (.ref b_21), .val (.int q196), .val (.int q197), .val (.int q208), .val (.int q212)] [(.int q197), (.int (q212 - q208))])) _
          show Steps p.tables e below (T211.setTop (mkF m 192 #[.val (.int ra), .val (.int rb), .val (.int rc), .val (.int rp), .val (.int rq), .val (.int (Int32.ofNat m1)), .val (.int (Int32.ofNat m2)), .val (.int (Int32.ofNat m3)), .val (.int (Int32.ofNat m4)), .val (.int q7), .val (.int (Int32.ofNat m17)), .val (.ref b12), .val (.ref b_21), .val (.int q196), .val (.int q197), .val (.int q208), .val (.int q212)] [(.int q197), (.int (q212 - q208))])) t_
          exact k_)
        by_cases h218 : (q212 - q208) = q197
        · have s219 : ∀ t_, Steps p.tables e below (T211.setTop (mkF m 200 #[.val (.int ra), .val (.int rb), .val (.int rc), .val (.int rp), .val (.int rq), .val (.int (Int32.ofNat m1)), .val (.int (Int32.ofNat m2)), .val (.int (Int32.ofNat m3)), .val (.int (Int32.ofNat m4)), .val (.int q7), .val (.int (Int32.ofNat m17)), .val (.ref b12), .val (.ref b_21), .val (.int q196), .val (.int q197), .val (.int q208), .val (.int q212)] [(.int (1 : Int32))])) t_ → Steps p.tables e below (s₁.setTop (entryFrame m #[(.int ra), (.int rb), (.int rc), (.int rp), (.int rq)] maxLocals)) t_ := fun t_ k_ => s217 t_ (by
            show Steps p.tables e below (T211.setTop (mkF m 192 #[.val (.int ra), .val (.int rb), .val (.int rc), .val (.int rp), .val (.int rq), .val (.int (Int32.ofNat m1)), .val (.int (Int32.ofNat m2)), .val (.int (Int32.ofNat m3)), .val (.int (Int32.ofNat m4)), .val (.int q7), .val (.int (Int32.ofNat m17)), .val (.ref b12), .val (.ref b_21), .val (.int q196), .val (.int q197), .val (.int q208), .val (.int q212)] [(.int q197), (.int (q212 - q208))])) t_
            refine XS.icmpNo X211.here hx rfl (Jvm.hb hby at_192) rfl (teq h218).2 ?_
            show Steps p.tables e below (T211.setTop (mkF m 195 #[.val (.int ra), .val (.int rb), .val (.int rc), .val (.int rp), .val (.int rq), .val (.int (Int32.ofNat m1)), .val (.int (Int32.ofNat m2)), .val (.int (Int32.ofNat m3)), .val (.int (Int32.ofNat m4)), .val (.int q7), .val (.int (Int32.ofNat m17)), .val (.ref b12), .val (.ref b_21), .val (.int q196), .val (.int q197), .val (.int q208), .val (.int q212)] [])) _
            refine XS.iconst X211.here hx rfl (Jvm.hb hby at_195) ?_
            show Steps p.tables e below (T211.setTop (mkF m 196 #[.val (.int ra), .val (.int rb), .val (.int rc), .val (.int rp), .val (.int rq), .val (.int (Int32.ofNat m1)), .val (.int (Int32.ofNat m2)), .val (.int (Int32.ofNat m3)), .val (.int (Int32.ofNat m4)), .val (.int q7), .val (.int (Int32.ofNat m17)), .val (.ref b12), .val (.ref b_21), .val (.int q196), .val (.int q197), .val (.int q208), .val (.int q212)] [(.int (1 : Int32))])) _
            refine XS.goto X211.here hx rfl (pc0 := 196) (pc' := 200) rfl (Jvm.hb hby at_196) (by decide) (by decide) ?_
            show Steps p.tables e below (T211.setTop (mkF m 200 #[.val (.int ra), .val (.int rb), .val (.int rc), .val (.int rp), .val (.int rq), .val (.int (Int32.ofNat m1)), .val (.int (Int32.ofNat m2)), .val (.int (Int32.ofNat m3)), .val (.int (Int32.ofNat m4)), .val (.int q7), .val (.int (Int32.ofNat m17)), .val (.ref b12), .val (.ref b_21), .val (.int q196), .val (.int q197), .val (.int q208), .val (.int q212)] [(.int (1 : Int32))])) _
            show Steps p.tables e below (T211.setTop (mkF m 200 #[.val (.int ra), .val (.int rb), .val (.int rc), .val (.int rp), .val (.int rq), .val (.int (Int32.ofNat m1)), .val (.int (Int32.ofNat m2)), .val (.int (Int32.ofNat m3)), .val (.int (Int32.ofNat m4)), .val (.int q7), .val (.int (Int32.ofNat m17)), .val (.ref b12), .val (.ref b_21), .val (.int q196), .val (.int q197), .val (.int q208), .val (.int q212)] [(.int (1 : Int32))])) t_
            exact k_)
          exact ⟨T211, X211, e211, fun t_ k_ => s219 t_ (castTop (by simp only [hq214, if_pos h216, if_pos h218]) k_)⟩
        · have s220 : ∀ t_, Steps p.tables e below (T211.setTop (mkF m 200 #[.val (.int ra), .val (.int rb), .val (.int rc), .val (.int rp), .val (.int rq), .val (.int (Int32.ofNat m1)), .val (.int (Int32.ofNat m2)), .val (.int (Int32.ofNat m3)), .val (.int (Int32.ofNat m4)), .val (.int q7), .val (.int (Int32.ofNat m17)), .val (.ref b12), .val (.ref b_21), .val (.int q196), .val (.int q197), .val (.int q208), .val (.int q212)] [(.int (0 : Int32))])) t_ → Steps p.tables e below (s₁.setTop (entryFrame m #[(.int ra), (.int rb), (.int rc), (.int rp), (.int rq)] maxLocals)) t_ := fun t_ k_ => s217 t_ (by
            show Steps p.tables e below (T211.setTop (mkF m 192 #[.val (.int ra), .val (.int rb), .val (.int rc), .val (.int rp), .val (.int rq), .val (.int (Int32.ofNat m1)), .val (.int (Int32.ofNat m2)), .val (.int (Int32.ofNat m3)), .val (.int (Int32.ofNat m4)), .val (.int q7), .val (.int (Int32.ofNat m17)), .val (.ref b12), .val (.ref b_21), .val (.int q196), .val (.int q197), .val (.int q208), .val (.int q212)] [(.int q197), (.int (q212 - q208))])) t_
            refine XS.icmpYes X211.here hx rfl (pc0 := 192) (pc' := 199) rfl (Jvm.hb hby at_192) rfl (feq h218).2 (by decide) (by decide) ?_
            show Steps p.tables e below (T211.setTop (mkF m 199 #[.val (.int ra), .val (.int rb), .val (.int rc), .val (.int rp), .val (.int rq), .val (.int (Int32.ofNat m1)), .val (.int (Int32.ofNat m2)), .val (.int (Int32.ofNat m3)), .val (.int (Int32.ofNat m4)), .val (.int q7), .val (.int (Int32.ofNat m17)), .val (.ref b12), .val (.ref b_21), .val (.int q196), .val (.int q197), .val (.int q208), .val (.int q212)] [])) _
            refine XS.iconst X211.here hx rfl (Jvm.hb hby at_199) ?_
            show Steps p.tables e below (T211.setTop (mkF m 200 #[.val (.int ra), .val (.int rb), .val (.int rc), .val (.int rp), .val (.int rq), .val (.int (Int32.ofNat m1)), .val (.int (Int32.ofNat m2)), .val (.int (Int32.ofNat m3)), .val (.int (Int32.ofNat m4)), .val (.int q7), .val (.int (Int32.ofNat m17)), .val (.ref b12), .val (.ref b_21), .val (.int q196), .val (.int q197), .val (.int q208), .val (.int q212)] [(.int (0 : Int32))])) _
            show Steps p.tables e below (T211.setTop (mkF m 200 #[.val (.int ra), .val (.int rb), .val (.int rc), .val (.int rp), .val (.int rq), .val (.int (Int32.ofNat m1)), .val (.int (Int32.ofNat m2)), .val (.int (Int32.ofNat m3)), .val (.int (Int32.ofNat m4)), .val (.int q7), .val (.int (Int32.ofNat m17)), .val (.ref b12), .val (.ref b_21), .val (.int q196), .val (.int q197), .val (.int q208), .val (.int q212)] [(.int (0 : Int32))])) t_
            exact k_)
          exact ⟨T211, X211, e211, fun t_ k_ => s220 t_ (castTop (by simp only [hq214, if_pos h216, if_neg h218]) k_)⟩
      · have s221 : ∀ t_, Steps p.tables e below (T211.setTop (mkF m 200 #[.val (.int ra), .val (.int rb), .val (.int rc), .val (.int rp), .val (.int rq), .val (.int (Int32.ofNat m1)), .val (.int (Int32.ofNat m2)), .val (.int (Int32.ofNat m3)), .val (.int (Int32.ofNat m4)), .val (.int q7), .val (.int (Int32.ofNat m17)), .val (.ref b12), .val (.ref b_21), .val (.int q196), .val (.int q197), .val (.int q208), .val (.int q212)] [(.int (0 : Int32))])) t_ → Steps p.tables e below (s₁.setTop (entryFrame m #[(.int ra), (.int rb), (.int rc), (.int rp), (.int rq)] maxLocals)) t_ := fun t_ k_ => s213 t_ (by
          show Steps p.tables e below (T211.setTop (mkF m 182 #[.val (.int ra), .val (.int rb), .val (.int rc), .val (.int rp), .val (.int rq), .val (.int (Int32.ofNat m1)), .val (.int (Int32.ofNat m2)), .val (.int (Int32.ofNat m3)), .val (.int (Int32.ofNat m4)), .val (.int q7), .val (.int (Int32.ofNat m17)), .val (.ref b12), .val (.ref b_21), .val (.int q196), .val (.int q197), .val (.int q208), .val (.int q212)] [(.int q196), (.int q208)])) t_
          refine XS.icmpYes X211.here hx rfl (pc0 := 182) (pc' := 199) rfl (Jvm.hb hby at_182) rfl (feq h216).2 (by decide) (by decide) ?_
          show Steps p.tables e below (T211.setTop (mkF m 199 #[.val (.int ra), .val (.int rb), .val (.int rc), .val (.int rp), .val (.int rq), .val (.int (Int32.ofNat m1)), .val (.int (Int32.ofNat m2)), .val (.int (Int32.ofNat m3)), .val (.int (Int32.ofNat m4)), .val (.int q7), .val (.int (Int32.ofNat m17)), .val (.ref b12), .val (.ref b_21), .val (.int q196), .val (.int q197), .val (.int q208), .val (.int q212)] [])) _
          refine XS.iconst X211.here hx rfl (Jvm.hb hby at_199) ?_
          show Steps p.tables e below (T211.setTop (mkF m 200 #[.val (.int ra), .val (.int rb), .val (.int rc), .val (.int rp), .val (.int rq), .val (.int (Int32.ofNat m1)), .val (.int (Int32.ofNat m2)), .val (.int (Int32.ofNat m3)), .val (.int (Int32.ofNat m4)), .val (.int q7), .val (.int (Int32.ofNat m17)), .val (.ref b12), .val (.ref b_21), .val (.int q196), .val (.int q197), .val (.int q208), .val (.int q212)] [(.int (0 : Int32))])) _
          show Steps p.tables e below (T211.setTop (mkF m 200 #[.val (.int ra), .val (.int rb), .val (.int rc), .val (.int rp), .val (.int rq), .val (.int (Int32.ofNat m1)), .val (.int (Int32.ofNat m2)), .val (.int (Int32.ofNat m3)), .val (.int (Int32.ofNat m4)), .val (.int q7), .val (.int (Int32.ofNat m17)), .val (.ref b12), .val (.ref b_21), .val (.int q196), .val (.int q197), .val (.int q208), .val (.int q212)] [(.int (0 : Int32))])) t_
          exact k_)
        exact ⟨T211, X211, e211, fun t_ k_ => s221 t_ (castTop (by simp only [hq214, if_neg h216]) k_)⟩)
    obtain ⟨fs, hr, hrun, hended, hW, hsame⟩ := X215.leave (v := some (.int (nar .boolean q214))) (fun h => by rw [Bd.returns] at h; cases h)
    have hone : q214 = 1 := by
      rw [hq214, hq212, hq208, hq197, hq196]
      exact own_fin m1 m2 m3 m4 hl1 hl2 hl3 hl4
    refine ⟨_, _, s215 _ ?_, hrun, hended, _, _, rfl, ?_, ⟨_, rfl⟩, hW, hsame.mono (by decide) (by decide)⟩
    · show Steps p.tables e below (T215.setTop (mkF m 200 #[.val (.int ra), .val (.int rb), .val (.int rc), .val (.int rp), .val (.int rq), .val (.int (Int32.ofNat m1)), .val (.int (Int32.ofNat m2)), .val (.int (Int32.ofNat m3)), .val (.int (Int32.ofNat m4)), .val (.int q7), .val (.int (Int32.ofNat m17)), .val (.ref b12), .val (.ref b_21), .val (.int q196), .val (.int q197), .val (.int q208), .val (.int q212)] [(.int q214)])) _
      exact retN X215 hx (t := .boolean) Bd.returns (by simp) (Jvm.hb hby at_200) hr
    · show Q_rmLaw Z _ _ _ _ _ _ h0 n0 _ T215.heap _
      rw [e215]
      exact ⟨by rw [hone]; rfl, N211⟩
set_option maxRecDepth 65536 in
set_option maxHeartbeats 40000000 in
theorem comes_1 {Post : Tables → Env → Array Value → State → Outcome → State → Prop} (hpost : ∀ tb e args s v u, (limb_1_1.after args s (.returned v) u = true ∧ limb_1_2.after args s (.returned v) u = true ∧ True) → FrameEnd s (.returned v) u (Jvm.fieldLocs frame_1_writes args s ++ Jvm.arrayLocs frame_1_arrays args s ++ Jvm.staticLocs frame_1_statics s) 16 192 → Post tb e args s (.returned v) u) :
    ArmFor flags0 classFile x code maxLocals ret World_1 tables_1 room_1 Calls_1 rest_1 Pre_1 Post := by
  intro l hfl _ _ p e ha hc hk s m args below hf hA hF happ hP
  obtain ⟨hcalls, hrest, hpre⟩ := hP
  obtain ⟨-, -, -, hnamed, -, -, -, hat⟩ := (Spec.applies_iff hf).mp happ
  obtain ⟨hg, hn⟩ := and_e (Cond.before_iff.mp (show (Jvm.Cond.and given_1 narrow_1).before args s = true from hpre))
  obtain ⟨ga, gr⟩ := and_e hg
  obtain ⟨g0, gr0⟩ := and_e gr
  obtain ⟨g1, gr1⟩ := and_e gr0
  obtain ⟨g2, gr2⟩ := and_e gr1
  obtain ⟨g3, gr3⟩ := and_e gr2
  obtain ⟨w0, w1, w2, w3, w4, rfl⟩ : ∃ w0 w1 w2 w3 w4 : Value, args = #[w0, w1, w2, w3, w4] := by
    have hs : args.size = 5 := by simpa [Cond.value, given_1] using ga
    obtain ⟨L⟩ := args
    match L, hs with
    | [w0, w1, w2, w3, w4], _ => exact ⟨w0, w1, w2, w3, w4, rfl⟩
  have hw := fun d (hd : d ∈ tables_1) => atoms_spec (ws := Jvm.Cond.code x code maxLocals ret :: tables_1) hat d (List.mem_cons_of_mem _ hd)
  have hfit : Fit s := fun {y c} hc i hi => by
    obtain ⟨ha, rfl⟩ := Array.getElem?_eq_some_iff.mp hc
    have q := List.all_eq_true.mp ((Array.all_eq_true_iff_forall_mem.mp hF) _ (Array.getElem_mem ha)) i (List.mem_range.mpr hi)
    simpa [Array.getElem?_eq_getElem hi] using q
  obtain ⟨hsets, hown0⟩ := atoms_of _ (rest_1_c_eq ▸ (show rest_1_c.before _ s = true from hrest))
  have hr0 := Cond.before_iff.mp hown0
  obtain ⟨i0, ei0⟩ := is_v g0
  obtain rfl : w0 = (.int i0) := Option.some.inj ei0
  obtain ⟨i1, ei1⟩ := is_v g1
  obtain rfl : w1 = (.int i1) := Option.some.inj ei1
  obtain ⟨i2, ei2⟩ := is_v g2
  obtain rfl : w2 = (.int i2) := Option.some.inj ei2
  obtain ⟨i3, ei3⟩ := is_v g3
  obtain rfl : w3 = (.int i3) := Option.some.inj ei3
  obtain ⟨i4, ei4⟩ := is_v gr3
  obtain rfl : w4 = (.int i4) := Option.some.inj ei4
  obtain ⟨cst, ecs⟩ := is_v (Cond.before_iff.mp (hsets _ (List.mem_of_getElem? (i := 1) rfl)))
  have hcst : ¬ (cst = (0 : Int32)) := fun q => by
    have h1 := not_v (Cond.before_iff.mp (hsets _ (List.mem_of_getElem? (i := 2) rfl)))
    rw [Cond.eq_ints ecs (Term.int_eval 0)] at h1
    simp [q] at h1
  obtain ⟨n, o, h1, h2, h3, _, L, rfl, ⟨rfl, N⟩, hq⟩ := rmLaw l s _ hw tables_1 i0 i1 i2 i3 i4 cst s.heap s.heap.size (Nat.le_refl _) (Sta.start ecs (Or.inl (hsets _ (List.mem_of_getElem? (i := 0) rfl)))) (Old.start s) hcst p e ha hc hk s m _ below hf ((Spec.applies_iff_loose hf).mp happ).1 ⟨rfl, State.Warmed39.refl s, rfl⟩ trivial
  refine ⟨n, _, h1, h2, h3, hpost _ _ _ _ _ _ ⟨Cond.after_iff.mpr rfl, Cond.after_iff.mpr (eq_i res_at (Term.int_eval (1)) rfl), trivial⟩ ⟨hq.1, hq.2.1, (hq.2.2.sift fun y hy => Or.inr (N y hy)).mono (by decide) (by decide)⟩⟩
theorem main_1_1 : Claimed_1_1 := comes_1 fun _ _ _ _ _ _ h hF => ⟨h.1, hF⟩
theorem main_1_2 : Claimed_1_2 := comes_1 fun _ _ _ _ _ _ h hF => ⟨h.2.1, hF⟩
end Jvm.Pilot.@@N@@
namespace Jvm.Pilot.@@N@@
open Jvm Jvm.ClassFile Sem Op Lib Jvm.Free Jvm.Stand Jvm.Pilot.@@N@@.Jvm.D
/-! MADE BY PROGRAM (witnessworld.py) out of the Statement's table words and the real class files: 20 classes; the members and pool entries that the words name. The judged class is class 1, her method 2. -/
namespace start1
open Jvm.ClassFile
def u (s : String) : CpInfo := .utf8 (stringToUtf16 s)
/-- a pool by its gaps: so many unusable entries, then the entry; so many at the end -/
def gap : Nat → List CpInfo → List CpInfo
  | 0, r => r
  | n + 1, r => .unusable :: gap n r
def poolList (es : List (Nat × CpInfo)) (last : Nat) : List CpInfo := es.foldr (fun e r => gap e.1 (e.2 :: r)) (gap last [])
def pool (es : List (Nat × CpInfo)) (last : Nat) : Array CpInfo := ⟨poolList es last⟩
def fileOf (pool : Array CpInfo) (this : Nat) (attrs : Array Attribute := #[]) (ms : Array MethodInfo := #[]) (fl : Nat := 33) (sup : Nat := 0) (ifs : Array Nat := #[]) (fds : Array FieldInfo := #[]) : ClassFile where
  minorVersion := 0
  majorVersion := 65
  constantPool := pool
  accessFlags := fl
  thisClass := this
  superClass := sup
  interfaces := ifs
  fields := fds
  methods := ms
  attributes := attrs
def plain (name : String) (sup : Option ClassId) : Class where
  name := name
  kind := .ordinary
  loader := none
  accessFlags := 33
  super := sup
  interfaces := #[]
  cf := none
  fields := #[]
  methods := #[]
  instanceTypes := #[]
  staticTypes := #[]
  resolved := #[]
  callSites := []
  init := .initialized
  statics := none
  mirror := none

def pool0 : Array CpInfo := pool [(5, u "<init>"), (0, u "()V"), (1, .class_ 10), (1, u "java/lang/Object")] 113

def k0c0 : Code := { maxStack := 0, maxLocals := 1, code := object_method_1_code, exceptionTable := #[], attributes := #[] }
def k0m0 : Method := { name := "<init>", desc := "()V", sig := { parameters := [], returnType := none }, accessFlags := 1, code := some k0c0 }
/-- java/lang/Object -/
def k0 : Class := { plain "java/lang/Object" none with
  accessFlags := 33
  interfaces := #[]
  cf := some (fileOf pool0 8 #[] #[{ accessFlags := 1, nameIndex := 5, descriptorIndex := 6, attributes := #[] }] 33 0 #[] #[])
  fields := #[]
  methods := #[k0m0]
  instanceTypes := #[]
  staticTypes := #[]
  resolved := Array.replicate 124 none
  statics := none }

def pool1 : Array CpInfo := pool [(2, .class_ 4), (0, .nameAndType 5 6), (0, u "java/lang/Object"), (0, u "<init>"), (0, u "()V"), (0, .methodref 8 9), (0, .class_ 10), (0, .nameAndType 11 12), (0, u "java/lang/StringBuilder"), (0, u "append"), (0, u "(C)Ljava/lang/StringBuilder;"), (0, .integer 2147483647), (0, .class_ 15), (0, u "com/example/bezugswerk/bezugswerk/DecodedParts"), (0, .methodref 14 3), (0, .methodref 14 18), (0, .nameAndType 19 20), (0, u "decoded"), (0, u "()Ljava/lang/StringBuilder;"), (0, .methodref 22 23), (0, .class_ 24), (0, .nameAndType 25 26), (0, u "com/example/bezugswerk/bezugswerk/DecodedPartsStartPinLaw"), (0, u "fill"), (0, u "(Ljava/lang/StringBuilder;I)V"), (0, .methodref 14 28), (0, .nameAndType 29 6), (0, u "endPart"), (0, .methodref 14 31), (0, .nameAndType 32 6), (0, u "clear"), (0, .methodref 14 34), (0, .nameAndType 35 36), (0, u "start"), (0, u "(I)I"), (0, .methodref 14 38), (0, .nameAndType 39 36), (0, u "end"), (3, u "law"), (0, u "(IIIII)Z")] 2

def k1m0 : Method := { name := "<init>", desc := "()V", sig := { parameters := [], returnType := none }, accessFlags := 2, code := none }
def k1c1 : Code := { maxStack := 2, maxLocals := 2, code := method_2_code, exceptionTable := #[], attributes := #[] }
def k1m1 : Method := { name := "fill", desc := "(Ljava/lang/StringBuilder;I)V", sig := { parameters := [(.object "java/lang/StringBuilder"), .int], returnType := none }, accessFlags := 10, code := some k1c1 }
def k1c2 : Code := { maxStack := 2, maxLocals := 17, code := code, exceptionTable := #[], attributes := #[] }
def k1m2 : Method := { name := "law", desc := "(IIIII)Z", sig := { parameters := [.int, .int, .int, .int, .int], returnType := some .boolean }, accessFlags := 9, code := some k1c2 }
/-- com/example/bezugswerk/bezugswerk/DecodedPartsStartPinLaw -/
def k1 : Class := { plain "com/example/bezugswerk/bezugswerk/DecodedPartsStartPinLaw" (some 0) with
  accessFlags := 49
  interfaces := #[]
  cf := some (fileOf pool1 22 #[] #[{ accessFlags := 2, nameIndex := 5, descriptorIndex := 6, attributes := #[] }, { accessFlags := 10, nameIndex := 25, descriptorIndex := 26, attributes := #[] }, { accessFlags := 9, nameIndex := 43, descriptorIndex := 44, attributes := #[] }] 49 2 #[] #[])
  fields := #[]
  methods := #[k1m0, k1m1, k1m2]
  instanceTypes := #[]
  staticTypes := #[]
  resolved := Array.replicate 47 none
  statics := none }

def pool2 : Array CpInfo := pool [(1, .methodref 2 3), (0, .class_ 4), (0, .nameAndType 5 6), (0, u "java/lang/Object"), (0, u "<init>"), (0, u "()V"), (0, .class_ 8), (0, u "java/lang/StringBuilder"), (0, .methodref 7 3), (0, .fieldref 11 12), (0, .class_ 13), (0, .nameAndType 14 15), (0, u "com/example/bezugswerk/bezugswerk/DecodedParts"), (0, u "text"), (0, u "Ljava/lang/StringBuilder;"), (0, .fieldref 11 17), (0, .nameAndType 18 19), (0, u "ends"), (0, u "[I"), (0, .fieldref 11 21), (0, .nameAndType 22 23), (0, u "size"), (0, u "I"), (4, u "(I)V"), (2, u "start"), (0, u "(I)I"), (2, u "end"), (10, .methodref 7 47), (0, .nameAndType 48 28), (0, u "setLength"), (12, .methodref 7 62), (0, .nameAndType 63 64), (0, u "length"), (0, u "()I"), (8, u "clear"), (0, u "decoded"), (0, u "()Ljava/lang/StringBuilder;"), (0, u "endPart")] 2

def k2c0 : Code := { maxStack := 3, maxLocals := 1, code := prog_8_method_1_code, exceptionTable := #[], attributes := #[] }
def k2m0 : Method := { name := "<init>", desc := "()V", sig := { parameters := [], returnType := none }, accessFlags := 0, code := some k2c0 }
def k2c1 : Code := { maxStack := 3, maxLocals := 2, code := prog_8_method_4_code, exceptionTable := #[], attributes := #[] }
def k2m1 : Method := { name := "start", desc := "(I)I", sig := { parameters := [.int], returnType := some .int }, accessFlags := 0, code := some k2c1 }
def k2c2 : Code := { maxStack := 2, maxLocals := 2, code := prog_8_method_5_code, exceptionTable := #[], attributes := #[] }
def k2m2 : Method := { name := "end", desc := "(I)I", sig := { parameters := [.int], returnType := some .int }, accessFlags := 0, code := some k2c2 }
def k2c3 : Code := { maxStack := 2, maxLocals := 1, code := prog_8_method_7_code, exceptionTable := #[], attributes := #[] }
def k2m3 : Method := { name := "clear", desc := "()V", sig := { parameters := [], returnType := none }, accessFlags := 0, code := some k2c3 }
def k2c4 : Code := { maxStack := 1, maxLocals := 1, code := prog_8_method_8_code, exceptionTable := #[], attributes := #[] }
def k2m4 : Method := { name := "decoded", desc := "()Ljava/lang/StringBuilder;", sig := { parameters := [], returnType := some (.object "java/lang/StringBuilder") }, accessFlags := 0, code := some k2c4 }
def k2c5 : Code := { maxStack := 7, maxLocals := 1, code := prog_8_method_9_code, exceptionTable := #[], attributes := #[] }
def k2m5 : Method := { name := "endPart", desc := "()V", sig := { parameters := [], returnType := none }, accessFlags := 0, code := some k2c5 }
/-- com/example/bezugswerk/bezugswerk/DecodedParts -/
def k2 : Class := { plain "com/example/bezugswerk/bezugswerk/DecodedParts" (some 0) with
  accessFlags := 48
  interfaces := #[]
  cf := some (fileOf pool2 11 #[] #[{ accessFlags := 0, nameIndex := 5, descriptorIndex := 6, attributes := #[] }, { accessFlags := 0, nameIndex := 31, descriptorIndex := 32, attributes := #[] }, { accessFlags := 0, nameIndex := 35, descriptorIndex := 32, attributes := #[] }, { accessFlags := 0, nameIndex := 73, descriptorIndex := 6, attributes := #[] }, { accessFlags := 0, nameIndex := 74, descriptorIndex := 75, attributes := #[] }, { accessFlags := 0, nameIndex := 76, descriptorIndex := 6, attributes := #[] }] 48 2 #[] #[{ accessFlags := 18, nameIndex := 14, descriptorIndex := 15, attributes := #[] }, { accessFlags := 2, nameIndex := 18, descriptorIndex := 19, attributes := #[] }, { accessFlags := 2, nameIndex := 22, descriptorIndex := 23, attributes := #[] }])
  fields := #[{ name := "text", type := (.object "java/lang/StringBuilder"), accessFlags := 18, slot := 0, constantValue := 0 }, { name := "ends", type := (.array .int), accessFlags := 2, slot := 1, constantValue := 0 }, { name := "size", type := .int, accessFlags := 2, slot := 2, constantValue := 0 }]
  methods := #[k2m0, k2m1, k2m2, k2m3, k2m4, k2m5]
  instanceTypes := #[(.object "java/lang/StringBuilder"), (.array .int), .int]
  staticTypes := #[]
  resolved := Array.replicate 79 none
  statics := none }

def pool3 : Array CpInfo := pool [(1, .class_ 2), (0, u "java/lang/Appendable"), (0, .class_ 4), (0, u "java/lang/Object")] 9

/-- java/lang/Appendable -/
def k3 : Class := { plain "java/lang/Appendable" (some 0) with
  accessFlags := 1537
  interfaces := #[]
  cf := some (fileOf pool3 1 #[] #[] 1537 3 #[] #[])
  fields := #[]
  methods := #[]
  instanceTypes := #[]
  staticTypes := #[]
  resolved := Array.replicate 14 none
  statics := none }

def pool4 : Array CpInfo := pool [(2, .class_ 4), (1, u "java/lang/CharSequence"), (42, .class_ 48), (0, u "java/lang/CharSequence$1CodePointIterator"), (10, .class_ 60), (0, u "java/lang/CharSequence$1CharIterator"), (5, .class_ 67), (0, u "java/lang/Object")] 63

/-- java/lang/CharSequence -/
def k4 : Class := { plain "java/lang/CharSequence" (some 0) with
  accessFlags := 1537
  interfaces := #[]
  cf := some (fileOf pool4 2 #[.nestMembers #[47, 59]] #[] 1537 66 #[] #[])
  fields := #[]
  methods := #[]
  instanceTypes := #[]
  staticTypes := #[]
  resolved := Array.replicate 131 none
  statics := none }

def pool5 : Array CpInfo := pool [(1, .class_ 2), (0, u "java/lang/String"), (0, .methodref 4 5), (0, .class_ 6), (0, .nameAndType 7 8), (0, u "java/lang/Object"), (0, u "<init>"), (0, u "()V"), (1, .class_ 12), (1, u "java/lang/AbstractStringBuilder"), (0, u "EMPTYVALUE"), (0, u "[B"), (0, .fieldref 10 16), (0, .nameAndType 17 14), (0, u "value"), (0, .fieldref 1 19), (0, .nameAndType 20 21), (0, u "COMPACT_STRINGS"), (0, u "Z"), (0, .fieldref 10 23), (0, .nameAndType 24 25), (0, u "coder"), (0, u "B"), (8, u "length"), (0, u "()I"), (9, u "append"), (2, .class_ 49), (0, u "java/lang/CharSequence"), (23, .fieldref 10 74), (0, .nameAndType 75 21), (0, u "maybeLatin1"), (3, .fieldref 10 80), (0, .nameAndType 81 82), (0, u "count"), (0, u "I"), (0, .methodref 10 84), (0, .nameAndType 85 86), (0, u "isLatin1"), (0, u "()Z"), (1, .class_ 90), (1, u "java/lang/StringLatin1"), (9, .methodref 10 101), (0, .nameAndType 102 103), (0, u "ensureCapacityInternal"), (0, u "(I)V"), (87, .methodref 88 192), (0, .nameAndType 193 194), (0, u "canEncode"), (0, u "(C)Z"), (97, u "(C)Ljava/lang/AbstractStringBuilder;"), (151, .class_ 445), (0, u "java/lang/Appendable"), (30, u "setLength")] 132

def k5m0 : Method := { name := "<init>", desc := "()V", sig := { parameters := [], returnType := none }, accessFlags := 0, code := none }
def k5c1 : Code := { maxStack := 2, maxLocals := 2, code := jdk_68_method_2_code, exceptionTable := #[], attributes := #[] }
def k5m1 : Method := { name := "<init>", desc := "(I)V", sig := { parameters := [.int], returnType := none }, accessFlags := 0, code := some k5c1 }
def k5c2 : Code := { maxStack := 1, maxLocals := 1, code := jdk_68_method_6_code, exceptionTable := #[], attributes := #[] }
def k5m2 : Method := { name := "length", desc := "()I", sig := { parameters := [], returnType := some .int }, accessFlags := 1, code := some k5c2 }
def k5c3 : Code := { maxStack := 4, maxLocals := 3, code := jdk_68_method_9_code, exceptionTable := #[], attributes := #[] }
def k5m3 : Method := { name := "ensureCapacityInternal", desc := "(I)V", sig := { parameters := [.int], returnType := none }, accessFlags := 2, code := some k5c3 }
def k5c4 : Code := { maxStack := 3, maxLocals := 2, code := jdk_68_method_13_code, exceptionTable := #[], attributes := #[] }
def k5m4 : Method := { name := "setLength", desc := "(I)V", sig := { parameters := [.int], returnType := none }, accessFlags := 1, code := some k5c4 }
def k5c5 : Code := { maxStack := 5, maxLocals := 2, code := jdk_68_method_31_code, exceptionTable := #[], attributes := #[] }
def k5m5 : Method := { name := "append", desc := "(C)Ljava/lang/AbstractStringBuilder;", sig := { parameters := [.char], returnType := some (.object "java/lang/AbstractStringBuilder") }, accessFlags := 1, code := some k5c5 }
def k5c6 : Code := { maxStack := 1, maxLocals := 1, code := jdk_68_method_68_code, exceptionTable := #[], attributes := #[] }
def k5m6 : Method := { name := "isLatin1", desc := "()Z", sig := { parameters := [], returnType := some .boolean }, accessFlags := 16, code := some k5c6 }
/-- java/lang/AbstractStringBuilder -/
def k5 : Class := { plain "java/lang/AbstractStringBuilder" (some 0) with
  accessFlags := 1056
  interfaces := #[3, 4]
  cf := some (fileOf pool5 10 #[] #[{ accessFlags := 0, nameIndex := 7, descriptorIndex := 8, attributes := #[] }, { accessFlags := 0, nameIndex := 7, descriptorIndex := 103, attributes := #[] }, { accessFlags := 1, nameIndex := 34, descriptorIndex := 35, attributes := #[] }, { accessFlags := 2, nameIndex := 102, descriptorIndex := 103, attributes := #[] }, { accessFlags := 1, nameIndex := 476, descriptorIndex := 103, attributes := #[] }, { accessFlags := 1, nameIndex := 45, descriptorIndex := 292, attributes := #[] }, { accessFlags := 16, nameIndex := 85, descriptorIndex := 86, attributes := #[] }] 1056 4 #[444, 48] #[{ accessFlags := 0, nameIndex := 17, descriptorIndex := 14, attributes := #[] }, { accessFlags := 0, nameIndex := 24, descriptorIndex := 25, attributes := #[] }, { accessFlags := 0, nameIndex := 75, descriptorIndex := 21, attributes := #[] }, { accessFlags := 0, nameIndex := 81, descriptorIndex := 82, attributes := #[] }, { accessFlags := 26, nameIndex := 13, descriptorIndex := 14, attributes := #[] }])
  fields := #[{ name := "value", type := (.array .byte), accessFlags := 0, slot := 0, constantValue := 0 }, { name := "coder", type := .byte, accessFlags := 0, slot := 1, constantValue := 0 }, { name := "maybeLatin1", type := .boolean, accessFlags := 0, slot := 2, constantValue := 0 }, { name := "count", type := .int, accessFlags := 0, slot := 3, constantValue := 0 }, { name := "EMPTYVALUE", type := (.array .byte), accessFlags := 26, slot := 0, constantValue := 0 }]
  methods := #[k5m0, k5m1, k5m2, k5m3, k5m4, k5m5, k5m6]
  instanceTypes := #[(.array .byte), .byte, .boolean, .int]
  staticTypes := #[(.array .byte)]
  resolved := Array.replicate 609 none
  statics := none }

def pool6 : Array CpInfo := pool [(1, .class_ 2), (0, u "java/io/Serializable"), (0, .class_ 4), (0, u "java/lang/Object")] 2

/-- java/io/Serializable -/
def k6 : Class := { plain "java/io/Serializable" (some 0) with
  accessFlags := 1537
  interfaces := #[]
  cf := some (fileOf pool6 1 #[] #[] 1537 3 #[] #[])
  fields := #[]
  methods := #[]
  instanceTypes := #[]
  staticTypes := #[]
  resolved := Array.replicate 7 none
  statics := none }

def pool7 : Array CpInfo := pool [(1, .class_ 2), (0, u "java/lang/Comparable"), (0, .class_ 4), (0, u "java/lang/Object")] 7

/-- java/lang/Comparable -/
def k7 : Class := { plain "java/lang/Comparable" (some 0) with
  accessFlags := 1537
  interfaces := #[]
  cf := some (fileOf pool7 1 #[] #[] 1537 3 #[] #[])
  fields := #[]
  methods := #[]
  instanceTypes := #[]
  staticTypes := #[]
  resolved := Array.replicate 12 none
  statics := none }

def pool8 : Array CpInfo := pool [(1, .methodref 2 3), (0, .class_ 4), (0, .nameAndType 5 6), (0, u "java/lang/AbstractStringBuilder"), (0, u "<init>"), (0, u "(I)V"), (17, .class_ 26), (1, u "java/lang/StringBuilder"), (0, u "append"), (22, .methodref 2 51), (0, .nameAndType 27 52), (0, u "(C)Ljava/lang/AbstractStringBuilder;"), (92, u "()V"), (10, u "()I"), (129, u "(C)Ljava/lang/StringBuilder;"), (46, .methodref 2 334), (0, .nameAndType 335 6), (0, u "setLength"), (7, .methodref 2 344), (0, .nameAndType 345 156), (0, u "length"), (3, .class_ 350), (0, u "java/lang/Appendable"), (0, .class_ 352), (0, u "java/io/Serializable"), (0, .class_ 354), (0, u "java/lang/Comparable"), (0, .class_ 356), (0, u "java/lang/CharSequence"), (0, u "serialVersionUID"), (0, u "J")] 63

def k8c0 : Code := { maxStack := 2, maxLocals := 1, code := jdk_67_method_1_code, exceptionTable := #[], attributes := #[] }
def k8m0 : Method := { name := "<init>", desc := "()V", sig := { parameters := [], returnType := none }, accessFlags := 1, code := some k8c0 }
def k8c1 : Code := { maxStack := 2, maxLocals := 2, code := jdk_67_method_14_code, exceptionTable := #[], attributes := #[] }
def k8m1 : Method := { name := "append", desc := "(C)Ljava/lang/StringBuilder;", sig := { parameters := [.char], returnType := some (.object "java/lang/StringBuilder") }, accessFlags := 1, code := some k8c1 }
def k8c2 : Code := { maxStack := 2, maxLocals := 2, code := jdk_67_method_89_code, exceptionTable := #[], attributes := #[] }
def k8m2 : Method := { name := "setLength", desc := "(I)V", sig := { parameters := [.int], returnType := none }, accessFlags := 4161, code := some k8c2 }
def k8c3 : Code := { maxStack := 1, maxLocals := 1, code := jdk_67_method_93_code, exceptionTable := #[], attributes := #[] }
def k8m3 : Method := { name := "length", desc := "()I", sig := { parameters := [], returnType := some .int }, accessFlags := 4161, code := some k8c3 }
/-- java/lang/StringBuilder -/
def k8 : Class := { plain "java/lang/StringBuilder" (some 5) with
  accessFlags := 49
  interfaces := #[3, 6, 7, 4]
  cf := some (fileOf pool8 24 #[] #[{ accessFlags := 1, nameIndex := 5, descriptorIndex := 145, attributes := #[] }, { accessFlags := 1, nameIndex := 27, descriptorIndex := 286, attributes := #[] }, { accessFlags := 4161, nameIndex := 335, descriptorIndex := 6, attributes := #[] }, { accessFlags := 4161, nameIndex := 345, descriptorIndex := 156, attributes := #[] }] 49 2 #[349, 351, 353, 355] #[{ accessFlags := 24, nameIndex := 357, descriptorIndex := 358, attributes := #[] }])
  fields := #[{ name := "serialVersionUID", type := .long, accessFlags := 24, slot := 0, constantValue := 0 }]
  methods := #[k8m0, k8m1, k8m2, k8m3]
  instanceTypes := #[(.array .byte), .byte, .boolean, .int]
  staticTypes := #[.long]
  resolved := Array.replicate 422 none
  statics := none }

def pool9 : Array CpInfo := pool [(1, .class_ 2), (0, u "java/lang/constant/Constable"), (0, .class_ 4), (0, u "java/lang/Object")] 6

/-- java/lang/constant/Constable -/
def k9 : Class := { plain "java/lang/constant/Constable" (some 0) with
  accessFlags := 1537
  interfaces := #[]
  cf := some (fileOf pool9 1 #[] #[] 1537 3 #[] #[])
  fields := #[]
  methods := #[]
  instanceTypes := #[]
  staticTypes := #[]
  resolved := Array.replicate 11 none
  statics := none }

def pool10 : Array CpInfo := pool [(1, .class_ 2), (0, u "java/lang/constant/ConstantDesc"), (0, .class_ 4), (0, u "java/lang/Object")] 32

/-- java/lang/constant/ConstantDesc -/
def k10 : Class := { plain "java/lang/constant/ConstantDesc" (some 0) with
  accessFlags := 1537
  interfaces := #[]
  cf := some (fileOf pool10 1 #[] #[] 1537 3 #[] #[])
  fields := #[]
  methods := #[]
  instanceTypes := #[]
  staticTypes := #[]
  resolved := Array.replicate 37 none
  statics := none }

def pool11 : Array CpInfo := pool [(2, .class_ 4), (1, u "java/lang/Object"), (0, u "<init>"), (0, u "()V"), (3, .class_ 12), (1, u "java/lang/String"), (0, u "value"), (0, u "[B"), (2, u "coder"), (0, u "B"), (2, u "hash"), (0, u "I"), (2, u "hashIsZero"), (0, u "Z"), (13, u "COMPACT_STRINGS"), (534, .class_ 576), (0, u "java/lang/CharSequence"), (22, u "CASE_INSENSITIVE_ORDER"), (0, u "Ljava/util/Comparator;"), (500, u "serialPersistentFields"), (0, u "[Ljava/io/ObjectStreamField;"), (0, .class_ 1104), (0, u "java/lang/String$CaseInsensitiveComparator"), (1, .class_ 1107), (0, u "java/io/Serializable"), (0, .class_ 1109), (0, u "java/lang/Comparable"), (0, .class_ 1111), (0, u "java/lang/constant/Constable"), (0, .class_ 1113), (0, u "java/lang/constant/ConstantDesc"), (2, u "serialVersionUID"), (0, u "J"), (3, u "REPL"), (0, u "C"), (2, u "LATIN1"), (1, u "UTF16")] 323

def k11m0 : Method := { name := "<init>", desc := "()V", sig := { parameters := [], returnType := none }, accessFlags := 1, code := none }
/-- java/lang/String -/
def k11 : Class := { plain "java/lang/String" (some 0) with
  accessFlags := 49
  interfaces := #[6, 7, 4, 9, 10]
  cf := some (fileOf pool11 10 #[.nestMembers #[1103]] #[{ accessFlags := 1, nameIndex := 5, descriptorIndex := 6, attributes := #[] }] 49 2 #[1106, 1108, 575, 1110, 1112] #[{ accessFlags := 18, nameIndex := 13, descriptorIndex := 14, attributes := #[] }, { accessFlags := 18, nameIndex := 17, descriptorIndex := 18, attributes := #[] }, { accessFlags := 2, nameIndex := 21, descriptorIndex := 22, attributes := #[] }, { accessFlags := 2, nameIndex := 25, descriptorIndex := 26, attributes := #[] }, { accessFlags := 26, nameIndex := 1116, descriptorIndex := 1117, attributes := #[] }, { accessFlags := 24, nameIndex := 40, descriptorIndex := 26, attributes := #[] }, { accessFlags := 26, nameIndex := 1101, descriptorIndex := 1102, attributes := #[] }, { accessFlags := 26, nameIndex := 1121, descriptorIndex := 1122, attributes := #[] }, { accessFlags := 25, nameIndex := 599, descriptorIndex := 600, attributes := #[] }, { accessFlags := 24, nameIndex := 1125, descriptorIndex := 18, attributes := #[] }, { accessFlags := 24, nameIndex := 1127, descriptorIndex := 18, attributes := #[] }])
  fields := #[{ name := "value", type := (.array .byte), accessFlags := 18, slot := 0, constantValue := 0 }, { name := "coder", type := .byte, accessFlags := 18, slot := 1, constantValue := 0 }, { name := "hash", type := .int, accessFlags := 2, slot := 2, constantValue := 0 }, { name := "hashIsZero", type := .boolean, accessFlags := 2, slot := 3, constantValue := 0 }, { name := "serialVersionUID", type := .long, accessFlags := 26, slot := 0, constantValue := 0 }, { name := "COMPACT_STRINGS", type := .boolean, accessFlags := 24, slot := 1, constantValue := 0 }, { name := "serialPersistentFields", type := (.array (.object "java/io/ObjectStreamField")), accessFlags := 26, slot := 2, constantValue := 0 }, { name := "REPL", type := .char, accessFlags := 26, slot := 3, constantValue := 0 }, { name := "CASE_INSENSITIVE_ORDER", type := (.object "java/util/Comparator"), accessFlags := 25, slot := 4, constantValue := 0 }, { name := "LATIN1", type := .byte, accessFlags := 24, slot := 5, constantValue := 0 }, { name := "UTF16", type := .byte, accessFlags := 24, slot := 6, constantValue := 0 }]
  methods := #[k11m0]
  instanceTypes := #[(.array .byte), .byte, .int, .boolean]
  staticTypes := #[.long, .boolean, (.array (.object "java/io/ObjectStreamField")), .char, (.object "java/util/Comparator"), .byte, .byte]
  resolved := Array.replicate 1451 none
  statics := some 0 }

def pool12 : Array CpInfo := pool [(4, .class_ 6), (1, u "java/lang/Object"), (0, u "<init>"), (0, u "()V"), (5, .class_ 16), (1, u "java/lang/StringLatin1"), (73, u "canEncode"), (14, u "(C)Z"), (15, u "$assertionsDisabled"), (0, u "Z"), (98, .class_ 223), (1, u "java/lang/StringLatin1$LinesSpliterator"), (166, .class_ 391), (0, u "java/lang/StringLatin1$CharsSpliterator")] 3

def k12m0 : Method := { name := "<init>", desc := "()V", sig := { parameters := [], returnType := none }, accessFlags := 0, code := none }
def k12c1 : Code := { maxStack := 2, maxLocals := 1, code := jdk_43_method_3_code, exceptionTable := #[], attributes := #[] }
def k12m1 : Method := { name := "canEncode", desc := "(C)Z", sig := { parameters := [.char], returnType := some .boolean }, accessFlags := 9, code := some k12c1 }
/-- java/lang/StringLatin1 -/
def k12 : Class := { plain "java/lang/StringLatin1" (some 0) with
  accessFlags := 48
  interfaces := #[]
  cf := some (fileOf pool12 14 #[.nestMembers #[390, 221]] #[{ accessFlags := 0, nameIndex := 7, descriptorIndex := 8, attributes := #[] }, { accessFlags := 9, nameIndex := 90, descriptorIndex := 105, attributes := #[] }] 48 4 #[] #[{ accessFlags := 4120, nameIndex := 121, descriptorIndex := 122, attributes := #[] }])
  fields := #[{ name := "$assertionsDisabled", type := .boolean, accessFlags := 4120, slot := 0, constantValue := 0 }]
  methods := #[k12m0, k12m1]
  instanceTypes := #[]
  staticTypes := #[.boolean]
  resolved := Array.replicate 395 none
  statics := none }

def pool13 : Array CpInfo := pool [(2, .class_ 4), (1, u "java/lang/Object"), (0, u "<init>"), (0, u "()V"), (17, .class_ 26), (1, u "jdk/internal/util/Preconditions"), (28, .class_ 56), (0, u "jdk/internal/util/Preconditions$4"), (57, .class_ 115), (0, u "jdk/internal/util/Preconditions$1"), (7, u "SIOOBE_FORMATTER"), (0, u "Ljava/util/function/BiFunction;"), (0, .class_ 126), (0, u "jdk/internal/util/Preconditions$2"), (3, u "AIOOBE_FORMATTER"), (0, .class_ 132), (0, u "jdk/internal/util/Preconditions$3"), (3, u "IOOBE_FORMATTER")] 57

def k13m0 : Method := { name := "<init>", desc := "()V", sig := { parameters := [], returnType := none }, accessFlags := 1, code := none }
/-- jdk/internal/util/Preconditions -/
def k13 : Class := { plain "jdk/internal/util/Preconditions" (some 0) with
  accessFlags := 33
  interfaces := #[]
  cf := some (fileOf pool13 24 #[.nestMembers #[55, 131, 125, 114]] #[{ accessFlags := 1, nameIndex := 5, descriptorIndex := 6, attributes := #[] }] 33 2 #[] #[{ accessFlags := 25, nameIndex := 123, descriptorIndex := 124, attributes := #[] }, { accessFlags := 25, nameIndex := 130, descriptorIndex := 124, attributes := #[] }, { accessFlags := 25, nameIndex := 136, descriptorIndex := 124, attributes := #[] }])
  fields := #[{ name := "SIOOBE_FORMATTER", type := (.object "java/util/function/BiFunction"), accessFlags := 25, slot := 0, constantValue := 0 }, { name := "AIOOBE_FORMATTER", type := (.object "java/util/function/BiFunction"), accessFlags := 25, slot := 1, constantValue := 0 }, { name := "IOOBE_FORMATTER", type := (.object "java/util/function/BiFunction"), accessFlags := 25, slot := 2, constantValue := 0 }]
  methods := #[k13m0]
  instanceTypes := #[]
  staticTypes := #[(.object "java/util/function/BiFunction"), (.object "java/util/function/BiFunction"), (.object "java/util/function/BiFunction")]
  resolved := Array.replicate 194 none
  statics := some 1 }

def pool14 : Array CpInfo := pool [(9, u "<init>"), (6, .class_ 18), (1, u "java/lang/Object"), (0, u "()V"), (1, .class_ 23), (1, u "jdk/internal/util/ArraysSupport"), (0, u "LOG2_ARRAY_LONG_INDEX_SCALE"), (0, u "I"), (2, u "U"), (0, u "Ljdk/internal/misc/Unsafe;"), (8, u "BIG_ENDIAN"), (0, u "Z"), (8, u "LOG2_BYTE_BIT_SIZE"), (4, u "LOG2_ARRAY_INT_INDEX_SCALE"), (54, u "JLA"), (0, u "Ljdk/internal/access/JavaLangAccess;"), (11, u "LOG2_ARRAY_BOOLEAN_INDEX_SCALE"), (9, u "LOG2_ARRAY_BYTE_INDEX_SCALE"), (5, u "LOG2_ARRAY_CHAR_INDEX_SCALE"), (5, u "LOG2_ARRAY_SHORT_INDEX_SCALE"), (18, u "LOG2_ARRAY_FLOAT_INDEX_SCALE"), (24, u "LOG2_ARRAY_DOUBLE_INDEX_SCALE"), (89, u "T_BOOLEAN"), (2, u "T_CHAR"), (1, u "T_FLOAT"), (1, u "T_DOUBLE"), (1, u "T_BYTE"), (1, u "T_SHORT"), (1, u "T_INT"), (1, u "T_LONG"), (1, u "SOFT_MAX_ARRAY_LENGTH")] 83

def k14m0 : Method := { name := "<init>", desc := "()V", sig := { parameters := [], returnType := none }, accessFlags := 2, code := none }
/-- jdk/internal/util/ArraysSupport -/
def k14 : Class := { plain "jdk/internal/util/ArraysSupport" (some 0) with
  accessFlags := 33
  interfaces := #[]
  cf := some (fileOf pool14 21 #[] #[{ accessFlags := 2, nameIndex := 9, descriptorIndex := 19, attributes := #[] }] 33 16 #[] #[{ accessFlags := 24, nameIndex := 28, descriptorIndex := 29, attributes := #[] }, { accessFlags := 26, nameIndex := 38, descriptorIndex := 39, attributes := #[] }, { accessFlags := 25, nameIndex := 121, descriptorIndex := 25, attributes := #[] }, { accessFlags := 25, nameIndex := 131, descriptorIndex := 25, attributes := #[] }, { accessFlags := 25, nameIndex := 137, descriptorIndex := 25, attributes := #[] }, { accessFlags := 25, nameIndex := 143, descriptorIndex := 25, attributes := #[] }, { accessFlags := 25, nameIndex := 53, descriptorIndex := 25, attributes := #[] }, { accessFlags := 25, nameIndex := 24, descriptorIndex := 25, attributes := #[] }, { accessFlags := 25, nameIndex := 162, descriptorIndex := 25, attributes := #[] }, { accessFlags := 25, nameIndex := 187, descriptorIndex := 25, attributes := #[] }, { accessFlags := 26, nameIndex := 48, descriptorIndex := 25, attributes := #[] }, { accessFlags := 25, nameIndex := 277, descriptorIndex := 25, attributes := #[] }, { accessFlags := 25, nameIndex := 280, descriptorIndex := 25, attributes := #[] }, { accessFlags := 25, nameIndex := 282, descriptorIndex := 25, attributes := #[] }, { accessFlags := 25, nameIndex := 284, descriptorIndex := 25, attributes := #[] }, { accessFlags := 25, nameIndex := 286, descriptorIndex := 25, attributes := #[] }, { accessFlags := 25, nameIndex := 288, descriptorIndex := 25, attributes := #[] }, { accessFlags := 25, nameIndex := 290, descriptorIndex := 25, attributes := #[] }, { accessFlags := 25, nameIndex := 292, descriptorIndex := 25, attributes := #[] }, { accessFlags := 26, nameIndex := 108, descriptorIndex := 109, attributes := #[] }, { accessFlags := 25, nameIndex := 294, descriptorIndex := 25, attributes := #[] }])
  fields := #[{ name := "U", type := (.object "jdk/internal/misc/Unsafe"), accessFlags := 24, slot := 0, constantValue := 0 }, { name := "BIG_ENDIAN", type := .boolean, accessFlags := 26, slot := 1, constantValue := 0 }, { name := "LOG2_ARRAY_BOOLEAN_INDEX_SCALE", type := .int, accessFlags := 25, slot := 2, constantValue := 0 }, { name := "LOG2_ARRAY_BYTE_INDEX_SCALE", type := .int, accessFlags := 25, slot := 3, constantValue := 0 }, { name := "LOG2_ARRAY_CHAR_INDEX_SCALE", type := .int, accessFlags := 25, slot := 4, constantValue := 0 }, { name := "LOG2_ARRAY_SHORT_INDEX_SCALE", type := .int, accessFlags := 25, slot := 5, constantValue := 0 }, { name := "LOG2_ARRAY_INT_INDEX_SCALE", type := .int, accessFlags := 25, slot := 6, constantValue := 0 }, { name := "LOG2_ARRAY_LONG_INDEX_SCALE", type := .int, accessFlags := 25, slot := 7, constantValue := 0 }, { name := "LOG2_ARRAY_FLOAT_INDEX_SCALE", type := .int, accessFlags := 25, slot := 8, constantValue := 0 }, { name := "LOG2_ARRAY_DOUBLE_INDEX_SCALE", type := .int, accessFlags := 25, slot := 9, constantValue := 0 }, { name := "LOG2_BYTE_BIT_SIZE", type := .int, accessFlags := 26, slot := 10, constantValue := 0 }, { name := "T_BOOLEAN", type := .int, accessFlags := 25, slot := 11, constantValue := 0 }, { name := "T_CHAR", type := .int, accessFlags := 25, slot := 12, constantValue := 0 }, { name := "T_FLOAT", type := .int, accessFlags := 25, slot := 13, constantValue := 0 }, { name := "T_DOUBLE", type := .int, accessFlags := 25, slot := 14, constantValue := 0 }, { name := "T_BYTE", type := .int, accessFlags := 25, slot := 15, constantValue := 0 }, { name := "T_SHORT", type := .int, accessFlags := 25, slot := 16, constantValue := 0 }, { name := "T_INT", type := .int, accessFlags := 25, slot := 17, constantValue := 0 }, { name := "T_LONG", type := .int, accessFlags := 25, slot := 18, constantValue := 0 }, { name := "JLA", type := (.object "jdk/internal/access/JavaLangAccess"), accessFlags := 26, slot := 19, constantValue := 0 }, { name := "SOFT_MAX_ARRAY_LENGTH", type := .int, accessFlags := 25, slot := 20, constantValue := 0 }]
  methods := #[k14m0]
  instanceTypes := #[]
  staticTypes := #[(.object "jdk/internal/misc/Unsafe"), .boolean, .int, .int, .int, .int, .int, .int, .int, .int, .int, .int, .int, .int, .int, .int, .int, .int, .int, (.object "jdk/internal/access/JavaLangAccess"), .int]
  resolved := Array.replicate 378 none
  statics := none }

def pool15 : Array CpInfo := pool [(1, u "java/lang/Cloneable"), (0, .class_ 1), (0, u "java/lang/Object"), (0, .class_ 3)] 3

/-- java/lang/Cloneable -/
def k15 : Class := { plain "java/lang/Cloneable" (some 0) with
  accessFlags := 1537
  interfaces := #[]
  cf := some (fileOf pool15 2 #[] #[] 1537 4 #[] #[])
  fields := #[]
  methods := #[]
  instanceTypes := #[]
  staticTypes := #[]
  resolved := Array.replicate 8 none
  statics := none }

/-- the primitive byte -/
def k16 : Class := { plain "byte" none with kind := .primitive 'B', accessFlags := 0x411 }
/-- [B -/
def k17 : Class := { plain "[B" (some 0) with kind := .array 16 .byte, interfaces := #[15, 6], accessFlags := 1041 }

/-- the primitive int -/
def k18 : Class := { plain "int" none with kind := .primitive 'I', accessFlags := 0x411 }
/-- [I -/
def k19 : Class := { plain "[I" (some 0) with kind := .array 18 .int, interfaces := #[15, 6], accessFlags := 1041 }

def heap : Heap := #[{ cls := 11, slots := #[.long 0, .int 1, .null, .int 0, .null, .int 0, .int 0], vm := .statics 11 },
  { cls := 13, slots := #[.null, .null, .null], vm := .statics 13 }]
def classes : Array Class := #[k0, k1, k2, k3, k4, k5, k6, k7, k8, k9, k10, k11, k12, k13, k14, k15, k16, k17, k18, k19]
def interned : List (Array UInt16 × Addr) := []
def slotsUsed : Nat := 10
def theMethod : MethodId := ⟨1, 2⟩
def args0 : Array Value := #[.int 5, .int 5, .int 5, .int 5, .int 5]
def aboutOver (below : List Frame) : State where
  vm := { classes := classes, interned := interned.toArray }
  heap := heap
  slotsUsed := slotsUsed
  threads := #[{ frames := .invoking theMethod args0 :: below }]
def below0 : List Frame := [.native { method := ⟨0, 0⟩, args := #[] }]
def about1 : State := aboutOver below0
def p0 : Program := .bare "" "" ""
def e0 : Env := launch0.env 0 0 0
theorem w_frames : about1.frames = Frame.invoking theMethod args0 :: below0 := rfl
set_option maxRecDepth 65536 in
theorem w_args : argsFit about1.vm theMethod args0 = true := by decide +kernel
set_option maxRecDepth 65536 in
theorem w_heap : heapFits about1 = true := by decide +kernel
set_option maxRecDepth 65536 in
theorem w_runnable : about1.curStatus? = some .runnable := by decide +kernel
set_option maxRecDepth 65536 in
theorem w_alone : about1.alone = true := by decide +kernel
set_option maxRecDepth 65536 in
theorem w_named : about1.methodNamed? x = some theMethod := by decide +kernel
set_option maxRecDepth 65536 in
theorem w_hears : about1.hears theMethod below0 = true := by decide +kernel
set_option maxRecDepth 65536 in
theorem w_ripe : about1.ripe theMethod args0 below0 = true := by decide +kernel
theorem w_running : about1.status = .running := rfl
set_option maxRecDepth 65536 in
theorem w_room : about1.hasRoom e0.platform room_1 = true :=
  launch0.hasRoom_least _ room_1 (by decide +kernel) (by decide +kernel) (by decide +kernel) (by decide +kernel) (by decide +kernel) (by decide +kernel)
theorem allAtoms_all (ts : List Jvm.Cond) (a : Array Jvm.Value) (st : Jvm.State) : (allAtoms ts).before a st = ts.all (fun c => c.before a st) := by
  induction ts with
  | nil => rfl
  | cons c t ih =>
    show (Jvm.Cond.and c (allAtoms t)).before a st = _
    rw [Jvm.Cond.before_and, ih, List.all_cons]
def words1 : List Jvm.Cond := Jvm.Cond.code x code maxLocals ret :: tables_1
/-- a 'code' word, met by the world's own term for the bytes: nothing is compared byte by byte -/
theorem code_word {y : MethodName} {bytes : ByteArray} {mx : Nat} {rt : Option FieldType} {a : Array Value} {s : State} {m : MethodId} {meth : Method} {c : Code} (h1 : s.methodNamed? y = some m) (h2 : s.vm.method? m = some meth) (h3 : meth.code = some c) (h4 : c.code = bytes)
    (h5 : (c.maxLocals == mx && c.exceptionTable.isEmpty && decide (c.maxStack ≤ mostOperands) && decide (meth.sig.returnType = rt) && !meth.locks && decide (parseMethodDescriptor y.desc = some meth.sig)) = true) : (Jvm.Cond.code y bytes mx rt).before a s = true := by
  simp only [Bool.and_eq_true, beq_iff_eq, Bool.not_eq_true', decide_eq_true_eq] at h5
  obtain ⟨⟨⟨⟨⟨g1, g2⟩, g3⟩, g4⟩, g5⟩, g6⟩ := h5
  simp [Cond.before, Cond.holds, Cond.value, h1, h2, h3, h4, g1, g2, g3, g4, g5, g6]
def isCode : Jvm.Cond → Bool
  | .code _ _ _ _ => true
  | _ => false
theorem all_split {L : List Jvm.Cond} {P : Jvm.Cond → Bool} (h1 : L.all (fun c => isCode c || P c) = true) (h2 : ∀ c ∈ L.filter isCode, P c = true) : L.all P = true := by
  refine List.all_eq_true.mpr fun c hc => ?_
  have h := List.all_eq_true.mp h1 c hc
  rcases Bool.eq_false_or_eq_true (isCode c) with hi | hi
  · exact h2 c (List.mem_filter.mpr ⟨hc, hi⟩)
  · simpa [hi] using h
set_option maxRecDepth 65536 in
theorem w_c0 : (Jvm.Cond.code x code maxLocals ret).before args0 about1 = true := code_word (m := ⟨1, 2⟩) (meth := k1m2) (c := k1c2) (by decide +kernel) rfl rfl rfl (by decide +kernel)
set_option maxRecDepth 65536 in
theorem w_c1 : (Jvm.Cond.code ({ cls := "com/example/bezugswerk/bezugswerk/DecodedParts", name := "<init>", desc := "()V" } : Jvm.MethodName) prog_8_method_1_code (1 : Nat) (Option.none : Option Jvm.ClassFile.FieldType)).before args0 about1 = true := code_word (m := ⟨2, 0⟩) (meth := k2m0) (c := k2c0) (by decide +kernel) rfl rfl rfl (by decide +kernel)
set_option maxRecDepth 65536 in
theorem w_c2 : (Jvm.Cond.code ({ cls := "java/lang/Object", name := "<init>", desc := "()V" } : Jvm.MethodName) object_method_1_code (1 : Nat) (Option.none : Option Jvm.ClassFile.FieldType)).before args0 about1 = true := code_word (m := ⟨0, 0⟩) (meth := k0m0) (c := k0c0) (by decide +kernel) rfl rfl rfl (by decide +kernel)
set_option maxRecDepth 65536 in
theorem w_c3 : (Jvm.Cond.code ({ cls := "java/lang/StringBuilder", name := "<init>", desc := "()V" } : Jvm.MethodName) jdk_67_method_1_code (1 : Nat) (Option.none : Option Jvm.ClassFile.FieldType)).before args0 about1 = true := code_word (m := ⟨8, 0⟩) (meth := k8m0) (c := k8c0) (by decide +kernel) rfl rfl rfl (by decide +kernel)
set_option maxRecDepth 65536 in
theorem w_c4 : (Jvm.Cond.code ({ cls := "java/lang/AbstractStringBuilder", name := "<init>", desc := "(I)V" } : Jvm.MethodName) jdk_68_method_2_code (2 : Nat) (Option.none : Option Jvm.ClassFile.FieldType)).before args0 about1 = true := code_word (m := ⟨5, 1⟩) (meth := k5m1) (c := k5c1) (by decide +kernel) rfl rfl rfl (by decide +kernel)
set_option maxRecDepth 65536 in
theorem w_c5 : (Jvm.Cond.code ({ cls := "com/example/bezugswerk/bezugswerk/DecodedParts", name := "decoded", desc := "()Ljava/lang/StringBuilder;" } : Jvm.MethodName) prog_8_method_8_code (1 : Nat) (Option.some (Jvm.ClassFile.FieldType.object "java/lang/StringBuilder"))).before args0 about1 = true := code_word (m := ⟨2, 4⟩) (meth := k2m4) (c := k2c4) (by decide +kernel) rfl rfl rfl (by decide +kernel)
set_option maxRecDepth 65536 in
theorem w_c6 : (Jvm.Cond.code ({ cls := "com/example/bezugswerk/bezugswerk/DecodedPartsStartPinLaw", name := "fill", desc := "(Ljava/lang/StringBuilder;I)V" } : Jvm.MethodName) method_2_code (2 : Nat) (Option.none : Option Jvm.ClassFile.FieldType)).before args0 about1 = true := code_word (m := ⟨1, 1⟩) (meth := k1m1) (c := k1c1) (by decide +kernel) rfl rfl rfl (by decide +kernel)
set_option maxRecDepth 65536 in
theorem w_c7 : (Jvm.Cond.code ({ cls := "com/example/bezugswerk/bezugswerk/DecodedParts", name := "endPart", desc := "()V" } : Jvm.MethodName) prog_8_method_9_code (1 : Nat) (Option.none : Option Jvm.ClassFile.FieldType)).before args0 about1 = true := code_word (m := ⟨2, 5⟩) (meth := k2m5) (c := k2c5) (by decide +kernel) rfl rfl rfl (by decide +kernel)
set_option maxRecDepth 65536 in
theorem w_c8 : (Jvm.Cond.code ({ cls := "java/lang/StringBuilder", name := "length", desc := "()I" } : Jvm.MethodName) jdk_67_method_93_code (1 : Nat) (Option.some Jvm.ClassFile.FieldType.int)).before args0 about1 = true := code_word (m := ⟨8, 3⟩) (meth := k8m3) (c := k8c3) (by decide +kernel) rfl rfl rfl (by decide +kernel)
set_option maxRecDepth 65536 in
theorem w_c9 : (Jvm.Cond.code ({ cls := "java/lang/AbstractStringBuilder", name := "length", desc := "()I" } : Jvm.MethodName) jdk_68_method_6_code (1 : Nat) (Option.some Jvm.ClassFile.FieldType.int)).before args0 about1 = true := code_word (m := ⟨5, 2⟩) (meth := k5m2) (c := k5c2) (by decide +kernel) rfl rfl rfl (by decide +kernel)
set_option maxRecDepth 65536 in
theorem w_c10 : (Jvm.Cond.code ({ cls := "java/lang/StringBuilder", name := "append", desc := "(C)Ljava/lang/StringBuilder;" } : Jvm.MethodName) jdk_67_method_14_code (2 : Nat) (Option.some (Jvm.ClassFile.FieldType.object "java/lang/StringBuilder"))).before args0 about1 = true := code_word (m := ⟨8, 1⟩) (meth := k8m1) (c := k8c1) (by decide +kernel) rfl rfl rfl (by decide +kernel)
set_option maxRecDepth 65536 in
theorem w_c11 : (Jvm.Cond.code ({ cls := "java/lang/AbstractStringBuilder", name := "append", desc := "(C)Ljava/lang/AbstractStringBuilder;" } : Jvm.MethodName) jdk_68_method_31_code (2 : Nat) (Option.some (Jvm.ClassFile.FieldType.object "java/lang/AbstractStringBuilder"))).before args0 about1 = true := code_word (m := ⟨5, 5⟩) (meth := k5m5) (c := k5c5) (by decide +kernel) rfl rfl rfl (by decide +kernel)
set_option maxRecDepth 65536 in
theorem w_c12 : (Jvm.Cond.code ({ cls := "java/lang/AbstractStringBuilder", name := "ensureCapacityInternal", desc := "(I)V" } : Jvm.MethodName) jdk_68_method_9_code (3 : Nat) (Option.none : Option Jvm.ClassFile.FieldType)).before args0 about1 = true := code_word (m := ⟨5, 3⟩) (meth := k5m3) (c := k5c3) (by decide +kernel) rfl rfl rfl (by decide +kernel)
set_option maxRecDepth 65536 in
theorem w_c13 : (Jvm.Cond.code ({ cls := "java/lang/AbstractStringBuilder", name := "isLatin1", desc := "()Z" } : Jvm.MethodName) jdk_68_method_68_code (1 : Nat) (Option.some Jvm.ClassFile.FieldType.boolean)).before args0 about1 = true := code_word (m := ⟨5, 6⟩) (meth := k5m6) (c := k5c6) (by decide +kernel) rfl rfl rfl (by decide +kernel)
set_option maxRecDepth 65536 in
theorem w_c14 : (Jvm.Cond.code ({ cls := "java/lang/StringLatin1", name := "canEncode", desc := "(C)Z" } : Jvm.MethodName) jdk_43_method_3_code (1 : Nat) (Option.some Jvm.ClassFile.FieldType.boolean)).before args0 about1 = true := code_word (m := ⟨12, 1⟩) (meth := k12m1) (c := k12c1) (by decide +kernel) rfl rfl rfl (by decide +kernel)
set_option maxRecDepth 65536 in
theorem w_c15 : (Jvm.Cond.code ({ cls := "com/example/bezugswerk/bezugswerk/DecodedParts", name := "start", desc := "(I)I" } : Jvm.MethodName) prog_8_method_4_code (2 : Nat) (Option.some Jvm.ClassFile.FieldType.int)).before args0 about1 = true := code_word (m := ⟨2, 1⟩) (meth := k2m1) (c := k2c1) (by decide +kernel) rfl rfl rfl (by decide +kernel)
set_option maxRecDepth 65536 in
theorem w_c16 : (Jvm.Cond.code ({ cls := "com/example/bezugswerk/bezugswerk/DecodedParts", name := "end", desc := "(I)I" } : Jvm.MethodName) prog_8_method_5_code (2 : Nat) (Option.some Jvm.ClassFile.FieldType.int)).before args0 about1 = true := code_word (m := ⟨2, 2⟩) (meth := k2m2) (c := k2c2) (by decide +kernel) rfl rfl rfl (by decide +kernel)
set_option maxRecDepth 65536 in
theorem w_c17 : (Jvm.Cond.code ({ cls := "com/example/bezugswerk/bezugswerk/DecodedParts", name := "clear", desc := "()V" } : Jvm.MethodName) prog_8_method_7_code (1 : Nat) (Option.none : Option Jvm.ClassFile.FieldType)).before args0 about1 = true := code_word (m := ⟨2, 3⟩) (meth := k2m3) (c := k2c3) (by decide +kernel) rfl rfl rfl (by decide +kernel)
set_option maxRecDepth 65536 in
theorem w_c18 : (Jvm.Cond.code ({ cls := "java/lang/StringBuilder", name := "setLength", desc := "(I)V" } : Jvm.MethodName) jdk_67_method_89_code (2 : Nat) (Option.none : Option Jvm.ClassFile.FieldType)).before args0 about1 = true := code_word (m := ⟨8, 2⟩) (meth := k8m2) (c := k8c2) (by decide +kernel) rfl rfl rfl (by decide +kernel)
set_option maxRecDepth 65536 in
theorem w_c19 : (Jvm.Cond.code ({ cls := "java/lang/AbstractStringBuilder", name := "setLength", desc := "(I)V" } : Jvm.MethodName) jdk_68_method_13_code (2 : Nat) (Option.none : Option Jvm.ClassFile.FieldType)).before args0 about1 = true := code_word (m := ⟨5, 4⟩) (meth := k5m4) (c := k5c4) (by decide +kernel) rfl rfl rfl (by decide +kernel)
def codes1 : List Jvm.Cond := [Jvm.Cond.code x code maxLocals ret, Jvm.Cond.code ({ cls := "com/example/bezugswerk/bezugswerk/DecodedParts", name := "<init>", desc := "()V" } : Jvm.MethodName) prog_8_method_1_code (1 : Nat) (Option.none : Option Jvm.ClassFile.FieldType), Jvm.Cond.code ({ cls := "java/lang/Object", name := "<init>", desc := "()V" } : Jvm.MethodName) object_method_1_code (1 : Nat) (Option.none : Option Jvm.ClassFile.FieldType), Jvm.Cond.code ({ cls := "java/lang/StringBuilder", name := "<init>", desc := "()V" } : Jvm.MethodName) jdk_67_method_1_code (1 : Nat) (Option.none : Option Jvm.ClassFile.FieldType), Jvm.Cond.code ({ cls := "java/lang/AbstractStringBuilder", name := "<init>", desc := "(I)V" } : Jvm.MethodName) jdk_68_method_2_code (2 : Nat) (Option.none : Option Jvm.ClassFile.FieldType), Jvm.Cond.code ({ cls := "com/example/bezugswerk/bezugswerk/DecodedParts", name := "decoded", desc := "()Ljava/lang/StringBuilder;" } : Jvm.MethodName) prog_8_method_8_code (1 : Nat) (Option.some (Jvm.ClassFile.FieldType.object "java/lang/StringBuilder")), Jvm.Cond.code ({ cls := "com/example/bezugswerk/bezugswerk/DecodedPartsStartPinLaw", name := "fill", desc := "(Ljava/lang/StringBuilder;I)V" } : Jvm.MethodName) method_2_code (2 : Nat) (Option.none : Option Jvm.ClassFile.FieldType), Jvm.Cond.code ({ cls := "com/example/bezugswerk/bezugswerk/DecodedParts", name := "endPart", desc := "()V" } : Jvm.MethodName) prog_8_method_9_code (1 : Nat) (Option.none : Option Jvm.ClassFile.FieldType), Jvm.Cond.code ({ cls := "java/lang/StringBuilder", name := "length", desc := "()I" } : Jvm.MethodName) jdk_67_method_93_code (1 : Nat) (Option.some Jvm.ClassFile.FieldType.int), Jvm.Cond.code ({ cls := "java/lang/AbstractStringBuilder", name := "length", desc := "()I" } : Jvm.MethodName) jdk_68_method_6_code (1 : Nat) (Option.some Jvm.ClassFile.FieldType.int), Jvm.Cond.code ({ cls := "java/lang/StringBuilder", name := "append", desc := "(C)Ljava/lang/StringBuilder;" } : Jvm.MethodName) jdk_67_method_14_code (2 : Nat) (Option.some (Jvm.ClassFile.FieldType.object "java/lang/StringBuilder")), Jvm.Cond.code ({ cls := "java/lang/AbstractStringBuilder", name := "append", desc := "(C)Ljava/lang/AbstractStringBuilder;" } : Jvm.MethodName) jdk_68_method_31_code (2 : Nat) (Option.some (Jvm.ClassFile.FieldType.object "java/lang/AbstractStringBuilder")), Jvm.Cond.code ({ cls := "java/lang/AbstractStringBuilder", name := "ensureCapacityInternal", desc := "(I)V" } : Jvm.MethodName) jdk_68_method_9_code (3 : Nat) (Option.none : Option Jvm.ClassFile.FieldType), Jvm.Cond.code ({ cls := "java/lang/AbstractStringBuilder", name := "isLatin1", desc := "()Z" } : Jvm.MethodName) jdk_68_method_68_code (1 : Nat) (Option.some Jvm.ClassFile.FieldType.boolean), Jvm.Cond.code ({ cls := "java/lang/StringLatin1", name := "canEncode", desc := "(C)Z" } : Jvm.MethodName) jdk_43_method_3_code (1 : Nat) (Option.some Jvm.ClassFile.FieldType.boolean), Jvm.Cond.code ({ cls := "com/example/bezugswerk/bezugswerk/DecodedParts", name := "start", desc := "(I)I" } : Jvm.MethodName) prog_8_method_4_code (2 : Nat) (Option.some Jvm.ClassFile.FieldType.int), Jvm.Cond.code ({ cls := "com/example/bezugswerk/bezugswerk/DecodedParts", name := "end", desc := "(I)I" } : Jvm.MethodName) prog_8_method_5_code (2 : Nat) (Option.some Jvm.ClassFile.FieldType.int), Jvm.Cond.code ({ cls := "com/example/bezugswerk/bezugswerk/DecodedParts", name := "clear", desc := "()V" } : Jvm.MethodName) prog_8_method_7_code (1 : Nat) (Option.none : Option Jvm.ClassFile.FieldType), Jvm.Cond.code ({ cls := "java/lang/StringBuilder", name := "setLength", desc := "(I)V" } : Jvm.MethodName) jdk_67_method_89_code (2 : Nat) (Option.none : Option Jvm.ClassFile.FieldType), Jvm.Cond.code ({ cls := "java/lang/AbstractStringBuilder", name := "setLength", desc := "(I)V" } : Jvm.MethodName) jdk_68_method_13_code (2 : Nat) (Option.none : Option Jvm.ClassFile.FieldType)]
set_option maxRecDepth 65536 in
theorem codes_eq : words1.filter isCode = codes1 := rfl
theorem w_codes : ∀ c ∈ words1.filter isCode, c.before args0 about1 = true := by
  rw [codes_eq]
  intro c hc
  simp only [codes1, List.mem_cons, List.not_mem_nil, or_false] at hc
  rcases hc with rfl | rfl | rfl | rfl | rfl | rfl | rfl | rfl | rfl | rfl | rfl | rfl | rfl | rfl | rfl | rfl | rfl | rfl | rfl | rfl
  · exact w_c0
  · exact w_c1
  · exact w_c2
  · exact w_c3
  · exact w_c4
  · exact w_c5
  · exact w_c6
  · exact w_c7
  · exact w_c8
  · exact w_c9
  · exact w_c10
  · exact w_c11
  · exact w_c12
  · exact w_c13
  · exact w_c14
  · exact w_c15
  · exact w_c16
  · exact w_c17
  · exact w_c18
  · exact w_c19
set_option maxRecDepth 65536 in
theorem w_t1 : (words1.take 24).all (fun c => isCode c || c.before args0 about1) = true := by decide +kernel
set_option maxRecDepth 65536 in
theorem w_t2 : ((words1.drop 24).take 24).all (fun c => isCode c || c.before args0 about1) = true := by decide +kernel
set_option maxRecDepth 65536 in
theorem w_t3 : (((words1.drop 24).drop 24).take 24).all (fun c => isCode c || c.before args0 about1) = true := by decide +kernel
set_option maxRecDepth 65536 in
theorem w_t4 : ((((words1.drop 24).drop 24).drop 24).take 24).all (fun c => isCode c || c.before args0 about1) = true := by decide +kernel
set_option maxRecDepth 65536 in
theorem w_t5 : ((((words1.drop 24).drop 24).drop 24).drop 24).all (fun c => isCode c || c.before args0 about1) = true := by decide +kernel
theorem w_tables : (allAtoms (Jvm.Cond.code x code maxLocals ret :: tables_1)).before args0 about1 = true := by
  rw [allAtoms_all]
  show words1.all (fun c => c.before args0 about1) = true
  refine all_split ?_ w_codes
  rw [← List.take_append_drop 24 words1, List.all_append, w_t1, ← List.take_append_drop 24 (words1.drop 24), List.all_append, w_t2, ← List.take_append_drop 24 ((words1.drop 24).drop 24), List.all_append, w_t3, ← List.take_append_drop 24 (((words1.drop 24).drop 24).drop 24), List.all_append, w_t4, w_t5]
  rfl
set_option maxRecDepth 65536 in
theorem w_rest : rest_1_c.before args0 about1 = true := by decide +kernel
set_option maxRecDepth 65536 in
theorem w_case : (Jvm.Cond.and given_1 narrow_1).before args0 about1 = true := by decide +kernel
theorem w_applies : (headSpec (Jvm.Cond.code x code maxLocals ret :: tables_1) room_1).applies x e0.platform about1 = true :=
  (Spec.applies_iff w_frames).mpr ⟨w_running, w_runnable, w_alone, w_named, w_hears, w_ripe, w_room, w_tables⟩
theorem atStart : AtStart classFile x code maxLocals ret World_1 tables_1 room_1 Calls_1 rest_1 Pre_1 launch0 p0 e0 about1 theMethod args0 below0 :=
  ⟨lists_1, trivial, launch0.admits_env _ _ _, launch0.least_env, fairChoices_fair.cas, fairChoices_fair.clock, w_frames, w_args, w_heap, w_applies, trivial, w_rest, w_case⟩
end start1
theorem witness_1 : WitnessClaimed_1 := ⟨start1.p0, start1.e0, start1.about1, start1.theMethod, start1.args0, start1.below0, start1.atStart⟩
end Jvm.Pilot.@@N@@
