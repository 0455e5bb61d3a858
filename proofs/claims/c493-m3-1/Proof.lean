import JvmDerived
import JvmDerived.Pilot.@@N@@Statement
import JvmDerived.Pilot.@@N@@Code
set_option linter.unusedVariables false
set_option linter.unusedSimpArgs false
namespace Jvm.RoadKit
open Sem ClassFile Op Lib Jvm.Stand Jvm.Free Jvm.LawKit
section New
variable {p : Program} {l : Launch} {e : Env} {R : Room} {s : State} {m : MethodId} {args : Array Value} {below : List Frame} {meth : Method} {c : Code} {T : State} {locs : List Loc} {cells slots : Nat}
theorem retI (X : Stand p l e R s m args below meth c T locs cells slots) (hx : p.tables.exec = Jvm.exec) {pc : Nat} {Ls : Array Slot} {z : Int32} {rest : List Value} (hret : meth.sig.returnType = some .int) (hd : decode c.code pc = .ok (.ireturn, 1)) {fs : List Frame}
    (hl : ∀ (f : JFrame) (acts : List Action), f.method = m → f.locked = none → f.entered = [] → (doReturn e (T.setTop f) acts (some (.int z))).1 = T.setFrames fs) : Steps p.tables e below (T.setTop (mkF m pc Ls (.int z :: rest))) (T.setFrames fs) := by
  have hm' : T.vm.method? m = some meth := X.method'
  have hn : narrow .int (.int z) = .int z := rfl
  show Steps p.tables e below (T.setTop { method := m, pc := pc, locals := Ls, stack := _ :: rest, locked := none }) _
  jvm_step X.here [X.here.top, hx, hd, hm', hret, hn]
  first | (intro acts; rw [hl _ acts rfl rfl rfl]) | rw [hl _ _ rfl rfl rfl]
  exact Steps.refl _
theorem seg (X : Stand p l e R s m args below meth c T locs cells slots) (P : State → Prop) (h : ∃ T', Stand p l e R s m args below meth c T' locs cells slots ∧ P T') : ∃ T', Stand p l e R s m args below meth c T' locs cells slots ∧ P T' := h
/-- int to char -/
def i2c (x : Int32) : Int32 := x.toUInt32.toUInt16.toUInt32.toInt32
/-- int to byte -/
def own_lo (x : Int32) : Int32 := x.toInt8.toInt32
/-- the unsigned shift of an int -/
def ushr (x y : Int32) : Int32 := (x.toUInt32 >>> (y &&& 31).toUInt32).toInt32
/-- the unsigned shift of a long -/
def ushrJ (x : Int64) (y : Int32) : Int64 := (x.toUInt64 >>> (y &&& 0x3f).toInt64.toUInt64).toInt64
end New
end Jvm.RoadKit
namespace Jvm.Pilot.@@N@@
open Jvm Jvm.ClassFile Sem Op Lib Jvm.Free Jvm.Stand Jvm.LawKit Jvm.RoadKit Bundle Jvm.Pilot.@@N@@.Jvm.D
theorem own_neN {a b : Addr} (h : @Ne Nat a b) : ¬ (a = b) := h
theorem own_narb {q : Prop} [Decidable q] : nar .boolean (if q then (1 : Int32) else (0 : Int32)) = (if q then (1 : Int32) else (0 : Int32)) := by split <;> rfl
theorem own_declares {Z : State} {a0 : Array Value} {y : MethodName} {bytes : ByteArray} {mx : Nat} {r : Option FieldType} (w1 : (Jvm.Cond.instanceMethod y).before a0 Z = true) (w2 : (Jvm.Cond.code y bytes mx r).before a0 Z = true) : (Jvm.Cond.declares y).before a0 Z = true := by
  obtain ⟨mk, meth, h1, h2, h3, -⟩ := Cond.instanceMethod_spec w1
  obtain ⟨meth', c, q1, -, -, -, -, -, -, q2⟩ := Cond.code_spec h1 w2
  cases h2.symm.trans q1
  simp [Cond.before, Cond.holds, Cond.value, h1, h2, h3, q2]
/-- the class of a method that an object selects is no interface -/
theorem own_nf {Z : State} {a0 : Array Value} {y z : MethodName} {C : String} (hz : z.cls = y.cls) (w : (Jvm.Cond.selects C z z).before a0 Z = true) : ∀ r, Z.methodNamed? y = some r → ∃ k, Z.vm.classes[r.cls]? = some k ∧ k.isInterface = false := fun r hr => by
  obtain ⟨c, r2, m2, -, -, q3, -, kP, hkP, hkPi⟩ := Cond.selects_spec w
  have h1 := findClass_of_methodNamed q3
  have h2 := findClass_of_methodNamed hr
  rw [hz, h2] at h1
  rw [Option.some.inj h1]
  exact ⟨kP, hkP, hkPi⟩
/-- a method that its class declares itself is the one that the look-up finds -/
theorem own_same {Z : State} {a0 : Array Value} {y : MethodName} (w1 : (Jvm.Cond.instanceMethod y).before a0 Z = true) (w2 : ∀ r, Z.methodNamed? y = some r → ∃ k, Z.vm.classes[r.cls]? = some k ∧ k.isInterface = false) (hy : y.cls ≠ "java/lang/invoke/MethodHandle" ∧ y.cls ≠ "java/lang/invoke/VarHandle") : (Jvm.Cond.sameMethod y.cls y.cls y.name y.desc).before a0 Z = true := by
  obtain ⟨mk, meth, h1, -⟩ := Cond.instanceMethod_spec w1
  have hc := findClass_of_methodNamed h1
  obtain ⟨k, hk, hi⟩ := w2 mk h1
  have hf := State.methodFound?_of_named h1 hy
  have hk' : Z.vm.classes[mk.cls]? = some k := hk
  simp [Cond.before, Cond.holds, Cond.value, hc, hf, h1, hk', hi]
def own_g (p s q r : Int64) : Int32 := (if (lcmpW p q) = (0 : Int32) then (if (lcmpW s r) < (0 : Int32) then (1 : Int32) else (0 : Int32)) else (if (lcmpW p q) < (0 : Int32) then (1 : Int32) else (0 : Int32)))
theorem own_lx (p s q r : Int64) : (if (lcmpW p q) < (0 : Int32) then (1 : Int32) else (if (lcmpW p q) = (0 : Int32) then (if (lcmpW s r) < (0 : Int32) then (1 : Int32) else (0 : Int32)) else (0 : Int32))) = own_g p s q r := by
  unfold own_g
  generalize lcmpW p q = z
  by_cases h1 : z = 0
  · subst h1; rfl
  · rw [if_neg h1, if_neg h1]
theorem own_asym (p s q r : Int64) (h : own_g p s q r ≠ 0) : own_g q r p s = 0 := by
  unfold own_g at *
  have a1 := lw_lt p q; have a2 := lw_eq p q; have a3 := lw_lt s r
  have b1 := lw_lt q p; have b2 := lw_eq q p; have b3 := lw_lt r s
  simp only [Int64.lt_iff_toInt_lt, ← Int64.toInt_inj] at a1 a2 a3 b1 b2 b3
  generalize lcmpW p q = z1 at *; generalize lcmpW s r = z2 at *; generalize lcmpW q p = z3 at *; generalize lcmpW r s = z4 at *
  repeat' split at h
  all_goals repeat' split
  all_goals first | rfl | (exact absurd rfl h) | (simp_all; omega) | (simp_all; done)
theorem own_irr (p s : Int64) : own_g p s p s = 0 := by
  unfold own_g
  have a2 := (lw_eq p p).2 rfl; have a3 : ¬ lcmpW s s < 0 := fun z => by have := (lw_lt s s).1 z; rw [Int64.lt_iff_toInt_lt] at this; omega
  rw [if_pos a2, if_neg a3]
theorem own_g01 (p s q r : Int64) : nar .boolean (own_g p s q r) = own_g p s q r := by
  unfold own_g; repeat' split
  all_goals rfl
theorem own_tail (x y z : Int32) (a b : Int32) (h1 : x = a) (h2 : y = b) (h3 : x ≠ 0 → y = 0) (h4 : z = 0) :
  (if x = a then (if y = b then (if x = (0 : Int32) then (if z = (0 : Int32) then (1 : Int32) else (0 : Int32)) else (if y = (0 : Int32) then (if z = (0 : Int32) then (1 : Int32) else (0 : Int32)) else (0 : Int32))) else (0 : Int32)) else (0 : Int32)) = 1 := by
  subst h1 h2 h4
  by_cases h : x = 0
  · simp [h]
  · simp [h, h3 h]
theorem pn_java_lang_Record : plainName "java/lang/Record" = true := by first | (simp [plainName, overriddenIn]; done) | decide +kernel
theorem d_jdk_30_method_1_0 : decode jdk_30_method_1_code 0 = .ok (.aload_n 0, 1) := by decide +kernel
theorem d_jdk_30_method_1_1 : decode jdk_30_method_1_code 1 = .ok (.invokespecial 1, 3) := by decide +kernel
theorem d_jdk_30_method_1_4 : decode jdk_30_method_1_code 4 = .ok (.return_, 1) := by decide +kernel
theorem ef_rmRec (m : MethodId) (x0 : Addr) : entryFrame m #[(.ref x0)] 1 = mkF m 0 #[.val (.ref x0)] [] := by first | (simp [entryFrame, mkF, argsToLocals, Value.category]; done) | rfl
def Q_rmRec (Z : State) (a : Addr) (h0 : Heap) (n0 : Nat) (v : Option Value) (h : Heap) (L : List Loc) : Prop := (v = none) ∧ (Fr n0 L) ∧ (h = h0)
set_option maxRecDepth 65536 in
set_option maxHeartbeats 40000000 in
theorem rmRec (l : Launch) (Z : State) (a0 : Array Value) (hw : ∀ d ∈ tables_1, d.before a0 Z = true) (ws : List Jvm.Cond) (a : Addr) (h0 : Heap) (n0 : Nat) (Z0 : n0 ≤ h0.size)  :
    MetFree l (⟨"java/lang/Record", "<init>", "()V"⟩ : MethodName) (head1 (Jvm.Cond.code (⟨"java/lang/Record", "<init>", "()V"⟩ : MethodName) jdk_30_method_1_code 1 none :: ws) ({ frames := 1, cells := 0, slots := 0, locals := 12 } : Room)) (fun ar_ U => ar_ = #[(.ref a)] ∧ Z.Warmed39 U.vm ∧ U.heap = h0) (fun _ _ _ _ _ => True) (fun _ U o U' => ∃ v L, o = .returned v ∧ Q_rmRec Z a h0 n0 v U'.heap L ∧ FrameEnd U o U' L ({ frames := 1, cells := 0, slots := 0, locals := 12 } : Room).cells ({ frames := 1, cells := 0, slots := 0, locals := 12 } : Room).slots) := by
  refine MetFree.of_bodySF (plainFor_of_name pn_java_lang_Record) hisR ?_
  intro p e s m args below meth c s₁ Bd hml0 hP hK
  obtain ⟨rfl, hZ, hh⟩ := hP
  have hx := Bd.exec
  have hby := Bd.bytes
  have hml : c.maxLocals = 1 := hml0
  have hown : s.vm.findClass "java/lang/Record" = some m.cls := findClass_of_methodNamed Bd.named
  have hnm := (name_of_methodNamed Bd.named Bd.method).1
  have X0 : Stand p l e ({ frames := 1, cells := 0, slots := 0, locals := 12 } : Room) s m #[(.ref a)] below meth c s₁ [] 0 0 := Stand.of_body Bd
  have e0 : s₁.heap = h0 := by rw [← hh, Bd.state]; rfl
  have N0 := Fr.nil n0
  have pre0 : ∀ t_, Steps p.tables e below (s₁.setTop (mkF m 0 #[.val (.ref a)] [])) t_ → Steps p.tables e below (s₁.setTop (entryFrame m #[(.ref a)] 1)) t_ := fun t_ k_ => castTop (ef_rmRec m a) k_
  obtain ⟨T1, X1, e1, st1⟩ := initO X0 hx hZ hown (hw _ (List.mem_of_getElem? (i := 14) rfl)) (hw _ (List.mem_of_getElem? (i := 15) rfl)) (hw _ (List.mem_of_getElem? (i := 16) rfl)) e0 (g := (mkF m 1 #[.val (.ref a)] [(.ref a)])) rfl (by rw [hml]; rfl) rfl (Jvm.hb hby d_jdk_30_method_1_1) (by decide) (W := 0) (by show 2 * 0 + _ ≤ _; exact Nat.le_of_eq rfl) (by decide)
  have s2 : ∀ t_, Steps p.tables e below (T1.setTop (mkF m 4 #[.val (.ref a)] [])) t_ → Steps p.tables e below (s₁.setTop (entryFrame m #[(.ref a)] 1)) t_ := fun t_ k_ => pre0 t_ (by
    show Steps p.tables e below (s₁.setTop (mkF m 0 #[.val (.ref a)] [])) t_
    refine XS.aloadN X0.here hx rfl (Jvm.hb hby d_jdk_30_method_1_0) rfl rfl ?_
    show Steps p.tables e below (s₁.setTop (mkF m 1 #[.val (.ref a)] [(.ref a)])) _
    refine st1 _ ?_
    show Steps p.tables e below (T1.setTop (mkF m 4 #[.val (.ref a)] [])) _
    show Steps p.tables e below (T1.setTop (mkF m 4 #[.val (.ref a)] [])) t_
    exact k_)
  obtain ⟨fs, hr, hrun, hended, hW, hsame⟩ := X1.leave (v := none) (fun _ => rfl)
  refine ⟨_, _, s2 _ ?_, hrun, hended, _, _, rfl, ?_, ⟨_, rfl⟩, hW, hsame.mono (by decide) (by decide)⟩
  · show Steps p.tables e below (T1.setTop (mkF m 4 #[.val (.ref a)] [])) _
    exact X1.returnOut hx Bd.returns (Jvm.hb hby d_jdk_30_method_1_4) hr
  · show Q_rmRec Z _ h0 n0 _ T1.heap _
    rw [e1]
    exact ⟨rfl, N0, rfl⟩
theorem pn_com_example_cloudlet_siting_cloudletsiting_planning_FixedCountCloudlets_Measure : plainName "com/example/cloudlet_siting/cloudletsiting/planning/FixedCountCloudlets$Measure" = true := by first | (simp [plainName, overriddenIn]; done) | decide +kernel
theorem d_prog_36_method_1_0 : decode prog_36_method_1_code 0 = .ok (.aload_n 0, 1) := by decide +kernel
theorem pd___V : parseMethodDescriptor "()V" = some ⟨[], none⟩ := by decide +kernel
theorem d_prog_36_method_1_1 : decode prog_36_method_1_code 1 = .ok (.invokespecial 1, 3) := by decide +kernel
theorem d_prog_36_method_1_4 : decode prog_36_method_1_code 4 = .ok (.aload_n 0, 1) := by decide +kernel
theorem d_prog_36_method_1_5 : decode prog_36_method_1_code 5 = .ok (.lload_n 1, 1) := by decide +kernel
theorem d_prog_36_method_1_6 : decode prog_36_method_1_code 6 = .ok (.putfield 7, 3) := by decide +kernel
theorem d_prog_36_method_1_9 : decode prog_36_method_1_code 9 = .ok (.aload_n 0, 1) := by decide +kernel
theorem d_prog_36_method_1_10 : decode prog_36_method_1_code 10 = .ok (.lload_n 3, 1) := by decide +kernel
theorem d_prog_36_method_1_11 : decode prog_36_method_1_code 11 = .ok (.putfield 13, 3) := by decide +kernel
theorem d_prog_36_method_1_14 : decode prog_36_method_1_code 14 = .ok (.return_, 1) := by decide +kernel
theorem ef_rmInit (m : MethodId) (x0 : Addr) (x1 : Int64) (x2 : Int64) : entryFrame m #[(.ref x0), (.long x1), (.long x2)] 5 = mkF m 0 #[.val (.ref x0), .val (.long x1), .second, .val (.long x2), .second] [] := by first | (simp [entryFrame, mkF, argsToLocals, Value.category]; done) | rfl
def Q_rmInit (Z : State) (a : Addr) (tt : Int64) (ll : Int64) (h0 : Heap) (n0 : Nat) (v : Option Value) (h : Heap) (L : List Loc) : Prop := (v = none) ∧ (Fr n0 L) ∧ (Keep h0 h [a]) ∧ (Exa Z h a "com/example/cloudlet_siting/cloudletsiting/planning/FixedCountCloudlets$Measure") ∧ (Fld Z h a "com/example/cloudlet_siting/cloudletsiting/planning/FixedCountCloudlets$Measure" "total" "J" (.long tt)) ∧ (Fld Z h a "com/example/cloudlet_siting/cloudletsiting/planning/FixedCountCloudlets$Measure" "largest" "J" (.long ll))
set_option maxRecDepth 65536 in
set_option maxHeartbeats 40000000 in
theorem rmInit (l : Launch) (Z : State) (a0 : Array Value) (hw : ∀ d ∈ tables_1, d.before a0 Z = true) (ws : List Jvm.Cond) (a : Addr) (tt : Int64) (ll : Int64) (h0 : Heap) (n0 : Nat) (Z0 : n0 ≤ h0.size) (I1 : Exa Z h0 a "com/example/cloudlet_siting/cloudletsiting/planning/FixedCountCloudlets$Measure") (I2 : Fld Z h0 a "com/example/cloudlet_siting/cloudletsiting/planning/FixedCountCloudlets$Measure" "total" "J" (.long (0 : Int64))) (I3 : Fld Z h0 a "com/example/cloudlet_siting/cloudletsiting/planning/FixedCountCloudlets$Measure" "largest" "J" (.long (0 : Int64))) (ga : n0 ≤ a) :
    MetFree l (⟨"com/example/cloudlet_siting/cloudletsiting/planning/FixedCountCloudlets$Measure", "<init>", "(JJ)V"⟩ : MethodName) (head1 (Jvm.Cond.code (⟨"com/example/cloudlet_siting/cloudletsiting/planning/FixedCountCloudlets$Measure", "<init>", "(JJ)V"⟩ : MethodName) prog_36_method_1_code 5 none :: ws) ({ frames := 2, cells := 0, slots := 0, locals := 24 } : Room)) (fun ar_ U => ar_ = #[(.ref a), (.long tt), (.long ll)] ∧ Z.Warmed39 U.vm ∧ U.heap = h0) (fun _ _ _ _ _ => True) (fun _ U o U' => ∃ v L, o = .returned v ∧ Q_rmInit Z a tt ll h0 n0 v U'.heap L ∧ FrameEnd U o U' L ({ frames := 2, cells := 0, slots := 0, locals := 24 } : Room).cells ({ frames := 2, cells := 0, slots := 0, locals := 24 } : Room).slots) := by
  refine MetFree.of_bodySF (plainFor_of_name pn_com_example_cloudlet_siting_cloudletsiting_planning_FixedCountCloudlets_Measure) hisR ?_
  intro p e s m args below meth c s₁ Bd hml0 hP hK
  obtain ⟨rfl, hZ, hh⟩ := hP
  have hx := Bd.exec
  have hby := Bd.bytes
  have hml : c.maxLocals = 5 := hml0
  have hown : s.vm.findClass "com/example/cloudlet_siting/cloudletsiting/planning/FixedCountCloudlets$Measure" = some m.cls := findClass_of_methodNamed Bd.named
  have hnm := (name_of_methodNamed Bd.named Bd.method).1
  have X0 : Stand p l e ({ frames := 2, cells := 0, slots := 0, locals := 24 } : Room) s m #[(.ref a), (.long tt), (.long ll)] below meth c s₁ [] 0 0 := Stand.of_body Bd
  have e0 : s₁.heap = h0 := by rw [← hh, Bd.state]; rfl
  have N0 := Fr.nil n0
  have pre0 : ∀ t_, Steps p.tables e below (s₁.setTop (mkF m 0 #[.val (.ref a), .val (.long tt), .second, .val (.long ll), .second] [])) t_ → Steps p.tables e below (s₁.setTop (entryFrame m #[(.ref a), (.long tt), (.long ll)] 5)) t_ := fun t_ k_ => castTop (ef_rmInit m a tt ll) k_
  have lt_I1 : @LT.lt Nat _ a h0.size := I1.lt
  have lt_I2 : @LT.lt Nat _ a h0.size := I2.lt
  have lt_I3 : @LT.lt Nat _ a h0.size := I3.lt
  have Zc1 : n0 ≤ h0.size := by omega
  obtain ⟨_, _, ⟨T2, L2, k2, n2⟩, -, X2, ⟨Lc2, hQ2, l2, y2, z2⟩, st2⟩ := X0.specialBack hx (y := (⟨"java/lang/Record", "<init>", "()V"⟩ : MethodName)) rfl hown (mvT hZ (hw _ (List.mem_of_getElem? (i := 9) rfl))) (mvT hZ (hw _ (List.mem_of_getElem? (i := 10) rfl))) (mvT hZ (hw _ (List.mem_of_getElem? (i := 13) rfl))) (by decide) (backOf (W := 0) (rmRec l Z a0 hw [] a h0 n0 Zc1) hZ (hw _ (List.mem_of_getElem? (i := 13) rfl)) (hw _ (List.mem_of_getElem? (i := 12) rfl)) (by decide) (by decide)) (g := (mkF m 1 #[.val (.ref a), .val (.long tt), .second, .val (.long ll), .second] [(.ref a)])) rfl (by rw [hml]; rfl) (Steps.refl _) (a := a) (argsL := []) (rest := []) (lenOf pd___V rfl) rfl (by show 2 * 0 + _ ≤ _; exact Nat.le_of_eq rfl) (Jvm.hb hby d_prog_36_method_1_1) (fun _ _ => ⟨rfl, e0, (by decide : 0 + 0 ≤ _), (by decide : 0 + 0 ≤ _)⟩)
  dsimp only [Pt.U, Pt.locs, Pt.cells, Pt.slots] at X2 l2 y2 z2 st2 hQ2
  subst l2 y2 z2
  obtain ⟨rfl, N2q, e2⟩ := hQ2
  have N2 := Fr.app N0 N2q
  obtain ⟨T3, h3, X3, e3, W3, st3⟩ := putF X2 hx hZ hown (host := "") (Or.inl (hw _ (List.mem_of_getElem? (i := 17) rfl))) Via.refl e2 I2 I1 (Or.inr ⟨(hw _ (List.mem_of_getElem? (i := 18) rfl)), rfl, hnm⟩) (hw _ (List.mem_of_getElem? (i := 4) rfl)) (ty := .long) (by decide) rfl rfl (g := (mkF m 6 #[.val (.ref a), .val (.long tt), .second, .val (.long ll), .second] [(.long tt), (.ref a)])) rfl rfl (Jvm.hb hby d_prog_36_method_1_6)
  have z4 : h0.size ≤ h3.size := Nat.le_of_eq W3.size.symm
  have F3 : Fld Z h3 a "com/example/cloudlet_siting/cloudletsiting/planning/FixedCountCloudlets$Measure" "total" "J" (.long tt) := I2.same W3
  have N3 := Fr.snoc X3 N2 (show n0 ≤ a by omega)
  have f5 : Exa Z h3 a "com/example/cloudlet_siting/cloudletsiting/planning/FixedCountCloudlets$Measure" := (I1.wr W3)
  have f6 : Fld Z h3 a "com/example/cloudlet_siting/cloudletsiting/planning/FixedCountCloudlets$Measure" "largest" "J" (.long (0 : Int64)) := (I3.other W3 (Or.inr (slot_ne (Or.inr (hw _ (List.mem_of_getElem? (i := 20) rfl))) (Or.inr (hw _ (List.mem_of_getElem? (i := 18) rfl))) (by decide) (t := .long) (t' := .long) (by decide) (by decide))))
  obtain ⟨T7, h7, X7, e7, W7, st7⟩ := putF X3 hx hZ hown (host := "") (Or.inl (hw _ (List.mem_of_getElem? (i := 19) rfl))) Via.refl e3 f6 f5 (Or.inr ⟨(hw _ (List.mem_of_getElem? (i := 20) rfl)), rfl, hnm⟩) (hw _ (List.mem_of_getElem? (i := 4) rfl)) (ty := .long) (by decide) rfl rfl (g := (mkF m 11 #[.val (.ref a), .val (.long tt), .second, .val (.long ll), .second] [(.long ll), (.ref a)])) rfl rfl (Jvm.hb hby d_prog_36_method_1_11)
  have z8 : h3.size ≤ h7.size := Nat.le_of_eq W7.size.symm
  have F7 : Fld Z h7 a "com/example/cloudlet_siting/cloudletsiting/planning/FixedCountCloudlets$Measure" "largest" "J" (.long ll) := f6.same W7
  have N7 := Fr.snoc X7 N3 (show n0 ≤ a by omega)
  have s9 : ∀ t_, Steps p.tables e below (T7.setTop (mkF m 14 #[.val (.ref a), .val (.long tt), .second, .val (.long ll), .second] [])) t_ → Steps p.tables e below (s₁.setTop (entryFrame m #[(.ref a), (.long tt), (.long ll)] 5)) t_ := fun t_ k_ => pre0 t_ (by
    show Steps p.tables e below (s₁.setTop (mkF m 0 #[.val (.ref a), .val (.long tt), .second, .val (.long ll), .second] [])) t_
    refine XS.aloadN X0.here hx rfl (Jvm.hb hby d_prog_36_method_1_0) rfl rfl ?_
    show Steps p.tables e below (s₁.setTop (mkF m 1 #[.val (.ref a), .val (.long tt), .second, .val (.long ll), .second] [(.ref a)])) _
    refine st2.trans ?_
    show Steps p.tables e below (T2.setTop (mkF m 4 #[.val (.ref a), .val (.long tt), .second, .val (.long ll), .second] [])) _
    refine XS.aloadN X2.here hx rfl (Jvm.hb hby d_prog_36_method_1_4) rfl rfl ?_
    show Steps p.tables e below (T2.setTop (mkF m 5 #[.val (.ref a), .val (.long tt), .second, .val (.long ll), .second] [(.ref a)])) _
    refine XS.lloadN X2.here hx rfl (Jvm.hb hby d_prog_36_method_1_5) rfl ?_
    show Steps p.tables e below (T2.setTop (mkF m 6 #[.val (.ref a), .val (.long tt), .second, .val (.long ll), .second] [(.long tt), (.ref a)])) _
    refine st3 _ ?_
    show Steps p.tables e below (T3.setTop (mkF m 9 #[.val (.ref a), .val (.long tt), .second, .val (.long ll), .second] [])) _
    refine XS.aloadN X3.here hx rfl (Jvm.hb hby d_prog_36_method_1_9) rfl rfl ?_
    show Steps p.tables e below (T3.setTop (mkF m 10 #[.val (.ref a), .val (.long tt), .second, .val (.long ll), .second] [(.ref a)])) _
    refine XS.lloadN X3.here hx rfl (Jvm.hb hby d_prog_36_method_1_10) rfl ?_
    show Steps p.tables e below (T3.setTop (mkF m 11 #[.val (.ref a), .val (.long tt), .second, .val (.long ll), .second] [(.long ll), (.ref a)])) _
    refine st7 _ ?_
    show Steps p.tables e below (T7.setTop (mkF m 14 #[.val (.ref a), .val (.long tt), .second, .val (.long ll), .second] [])) _
    show Steps p.tables e below (T7.setTop (mkF m 14 #[.val (.ref a), .val (.long tt), .second, .val (.long ll), .second] [])) t_
    exact k_)
  obtain ⟨fs, hr, hrun, hended, hW, hsame⟩ := X7.leave (v := none) (fun _ => rfl)
  have f10 : Exa Z h7 a "com/example/cloudlet_siting/cloudletsiting/planning/FixedCountCloudlets$Measure" := (f5.wr W7)
  have f11 : Fld Z h7 a "com/example/cloudlet_siting/cloudletsiting/planning/FixedCountCloudlets$Measure" "total" "J" (.long tt) := (F3.other W7 (Or.inr (slot_ne (Or.inr (hw _ (List.mem_of_getElem? (i := 18) rfl))) (Or.inr (hw _ (List.mem_of_getElem? (i := 20) rfl))) (by decide) (t := .long) (t' := .long) (by decide) (by decide))))
  refine ⟨_, _, s9 _ ?_, hrun, hended, _, _, rfl, ?_, ⟨_, rfl⟩, hW, hsame.mono (by decide) (by decide)⟩
  · show Steps p.tables e below (T7.setTop (mkF m 14 #[.val (.ref a), .val (.long tt), .second, .val (.long ll), .second] [])) _
    exact X7.returnOut hx Bd.returns (Jvm.hb hby d_prog_36_method_1_14) hr
  · show Q_rmInit Z _ _ _ h0 n0 _ T7.heap _
    rw [e7]
    exact ⟨rfl, N7, (((Keep.refl h0 [a]).wr W3 (Or.inl (by simp))).wr W7 (Or.inl (by simp))), f10, f11, F7⟩
theorem d_prog_36_method_4_0 : decode prog_36_method_4_code 0 = .ok (.aload_n 2, 1) := by decide +kernel
theorem d_prog_36_method_4_1 : decode prog_36_method_4_code 1 = .ok (.getstatic 45, 3) := by decide +kernel
theorem d_prog_36_method_4_4 : decode prog_36_method_4_code 4 = .ok (.if_acmp .ne 48, 3) := by decide +kernel
theorem d_prog_36_method_4_7 : decode prog_36_method_4_code 7 = .ok (.aload_n 0, 1) := by decide +kernel
theorem d_prog_36_method_4_8 : decode prog_36_method_4_code 8 = .ok (.getfield 7, 3) := by decide +kernel
theorem d_prog_36_method_4_11 : decode prog_36_method_4_code 11 = .ok (.aload_n 1, 1) := by decide +kernel
theorem d_prog_36_method_4_12 : decode prog_36_method_4_code 12 = .ok (.getfield 7, 3) := by decide +kernel
theorem d_prog_36_method_4_15 : decode prog_36_method_4_code 15 = .ok (.lcmp, 1) := by decide +kernel
theorem d_prog_36_method_4_16 : decode prog_36_method_4_code 16 = .ok (.ifCond .lt 27, 3) := by decide +kernel
theorem d_prog_36_method_4_43 : decode prog_36_method_4_code 43 = .ok (.iconst 1, 1) := by decide +kernel
theorem d_prog_36_method_4_44 : decode prog_36_method_4_code 44 = .ok (.goto 4, 3) := by decide +kernel
theorem d_prog_36_method_4_48 : decode prog_36_method_4_code 48 = .ok (.istore_n 3, 1) := by decide +kernel
theorem d_prog_36_method_4_49 : decode prog_36_method_4_code 49 = .ok (.goto 45, 3) := by decide +kernel
theorem d_prog_36_method_4_19 : decode prog_36_method_4_code 19 = .ok (.aload_n 0, 1) := by decide +kernel
theorem d_prog_36_method_4_20 : decode prog_36_method_4_code 20 = .ok (.getfield 7, 3) := by decide +kernel
theorem d_prog_36_method_4_23 : decode prog_36_method_4_code 23 = .ok (.aload_n 1, 1) := by decide +kernel
theorem d_prog_36_method_4_24 : decode prog_36_method_4_code 24 = .ok (.getfield 7, 3) := by decide +kernel
theorem d_prog_36_method_4_27 : decode prog_36_method_4_code 27 = .ok (.lcmp, 1) := by decide +kernel
theorem d_prog_36_method_4_28 : decode prog_36_method_4_code 28 = .ok (.ifCond .ne 19, 3) := by decide +kernel
theorem d_prog_36_method_4_31 : decode prog_36_method_4_code 31 = .ok (.aload_n 0, 1) := by decide +kernel
theorem d_prog_36_method_4_32 : decode prog_36_method_4_code 32 = .ok (.getfield 13, 3) := by decide +kernel
theorem d_prog_36_method_4_35 : decode prog_36_method_4_code 35 = .ok (.aload_n 1, 1) := by decide +kernel
theorem d_prog_36_method_4_36 : decode prog_36_method_4_code 36 = .ok (.getfield 13, 3) := by decide +kernel
theorem d_prog_36_method_4_39 : decode prog_36_method_4_code 39 = .ok (.lcmp, 1) := by decide +kernel
theorem d_prog_36_method_4_40 : decode prog_36_method_4_code 40 = .ok (.ifCond .ge 7, 3) := by decide +kernel
theorem d_prog_36_method_4_47 : decode prog_36_method_4_code 47 = .ok (.iconst 0, 1) := by decide +kernel
theorem d_prog_36_method_4_52 : decode prog_36_method_4_code 52 = .ok (.aload_n 0, 1) := by decide +kernel
theorem d_prog_36_method_4_53 : decode prog_36_method_4_code 53 = .ok (.getfield 13, 3) := by decide +kernel
theorem d_prog_36_method_4_56 : decode prog_36_method_4_code 56 = .ok (.aload_n 1, 1) := by decide +kernel
theorem d_prog_36_method_4_57 : decode prog_36_method_4_code 57 = .ok (.getfield 13, 3) := by decide +kernel
theorem d_prog_36_method_4_60 : decode prog_36_method_4_code 60 = .ok (.lcmp, 1) := by decide +kernel
theorem d_prog_36_method_4_61 : decode prog_36_method_4_code 61 = .ok (.ifCond .lt 27, 3) := by decide +kernel
theorem d_prog_36_method_4_88 : decode prog_36_method_4_code 88 = .ok (.iconst 1, 1) := by decide +kernel
theorem d_prog_36_method_4_89 : decode prog_36_method_4_code 89 = .ok (.goto 4, 3) := by decide +kernel
theorem d_prog_36_method_4_93 : decode prog_36_method_4_code 93 = .ok (.istore_n 3, 1) := by decide +kernel
theorem d_prog_36_method_4_64 : decode prog_36_method_4_code 64 = .ok (.aload_n 0, 1) := by decide +kernel
theorem d_prog_36_method_4_65 : decode prog_36_method_4_code 65 = .ok (.getfield 13, 3) := by decide +kernel
theorem d_prog_36_method_4_68 : decode prog_36_method_4_code 68 = .ok (.aload_n 1, 1) := by decide +kernel
theorem d_prog_36_method_4_69 : decode prog_36_method_4_code 69 = .ok (.getfield 13, 3) := by decide +kernel
theorem d_prog_36_method_4_72 : decode prog_36_method_4_code 72 = .ok (.lcmp, 1) := by decide +kernel
theorem d_prog_36_method_4_73 : decode prog_36_method_4_code 73 = .ok (.ifCond .ne 19, 3) := by decide +kernel
theorem d_prog_36_method_4_76 : decode prog_36_method_4_code 76 = .ok (.aload_n 0, 1) := by decide +kernel
theorem d_prog_36_method_4_77 : decode prog_36_method_4_code 77 = .ok (.getfield 7, 3) := by decide +kernel
theorem d_prog_36_method_4_80 : decode prog_36_method_4_code 80 = .ok (.aload_n 1, 1) := by decide +kernel
theorem d_prog_36_method_4_81 : decode prog_36_method_4_code 81 = .ok (.getfield 7, 3) := by decide +kernel
theorem d_prog_36_method_4_84 : decode prog_36_method_4_code 84 = .ok (.lcmp, 1) := by decide +kernel
theorem d_prog_36_method_4_85 : decode prog_36_method_4_code 85 = .ok (.ifCond .ge 7, 3) := by decide +kernel
theorem d_prog_36_method_4_92 : decode prog_36_method_4_code 92 = .ok (.iconst 0, 1) := by decide +kernel
theorem d_prog_36_method_4_94 : decode prog_36_method_4_code 94 = .ok (.iload_n 3, 1) := by decide +kernel
theorem d_prog_36_method_4_95 : decode prog_36_method_4_code 95 = .ok (.ireturn, 1) := by decide +kernel
theorem ef_rmBet (m : MethodId) (x0 : Addr) (x1 : Addr) (x2 : Addr) : entryFrame m #[(.ref x0), (.ref x1), (.ref x2)] 4 = mkF m 0 #[.val (.ref x0), .val (.ref x1), .val (.ref x2), .unset] [] := by first | (simp [entryFrame, mkF, argsToLocals, Value.category]; done) | rfl
def Q_rmBet (Z : State) (a : Addr) (b : Addr) (ob : Addr) (mean : Addr) (ta : Int64) (la : Int64) (tb : Int64) (lb : Int64) (h0 : Heap) (n0 : Nat) (v : Option Value) (h : Heap) (L : List Loc) : Prop := (v = some (.int (nar .boolean (if ob = mean then (if (lcmpW ta tb) < (0 : Int32) then (1 : Int32) else (if (lcmpW ta tb) = (0 : Int32) then (if (lcmpW la lb) < (0 : Int32) then (1 : Int32) else (0 : Int32)) else (0 : Int32))) else (if (lcmpW la lb) < (0 : Int32) then (1 : Int32) else (if (lcmpW la lb) = (0 : Int32) then (if (lcmpW ta tb) < (0 : Int32) then (1 : Int32) else (0 : Int32)) else (0 : Int32))))))) ∧ (Fr n0 L) ∧ (h = h0)
set_option maxRecDepth 65536 in
set_option maxHeartbeats 40000000 in
theorem rmBet (l : Launch) (Z : State) (a0 : Array Value) (hw : ∀ d ∈ tables_1, d.before a0 Z = true) (ws : List Jvm.Cond) (a : Addr) (b : Addr) (ob : Addr) (mean : Addr) (ta : Int64) (la : Int64) (tb : Int64) (lb : Int64) (h0 : Heap) (n0 : Nat) (Z0 : n0 ≤ h0.size) (I1 : Sta Z Z.heap "com/example/cloudlet_siting/cloudletsiting/model/Objective" "MEAN" "Lcom/example/cloudlet_siting/cloudletsiting/model/Objective;" (.ref mean)) (OX : Old Z n0 h0) (I2 : Fld Z h0 a "com/example/cloudlet_siting/cloudletsiting/planning/FixedCountCloudlets$Measure" "total" "J" (.long ta)) (I3 : Fld Z h0 a "com/example/cloudlet_siting/cloudletsiting/planning/FixedCountCloudlets$Measure" "largest" "J" (.long la)) (I4 : Fld Z h0 b "com/example/cloudlet_siting/cloudletsiting/planning/FixedCountCloudlets$Measure" "total" "J" (.long tb)) (I5 : Fld Z h0 b "com/example/cloudlet_siting/cloudletsiting/planning/FixedCountCloudlets$Measure" "largest" "J" (.long lb)) :
    MetFree l (⟨"com/example/cloudlet_siting/cloudletsiting/planning/FixedCountCloudlets$Measure", "isBetterThan", "(Lcom/example/cloudlet_siting/cloudletsiting/planning/FixedCountCloudlets$Measure;Lcom/example/cloudlet_siting/cloudletsiting/model/Objective;)Z"⟩ : MethodName) (head1 (Jvm.Cond.code (⟨"com/example/cloudlet_siting/cloudletsiting/planning/FixedCountCloudlets$Measure", "isBetterThan", "(Lcom/example/cloudlet_siting/cloudletsiting/planning/FixedCountCloudlets$Measure;Lcom/example/cloudlet_siting/cloudletsiting/model/Objective;)Z"⟩ : MethodName) prog_36_method_4_code 4 (some .boolean) :: ws) ({ frames := 0, cells := 0, slots := 0, locals := 0 } : Room)) (fun ar_ U => ar_ = #[(.ref a), (.ref b), (.ref ob)] ∧ Z.Warmed39 U.vm ∧ U.heap = h0) (fun _ _ _ _ _ => True) (fun _ U o U' => ∃ v L, o = .returned v ∧ Q_rmBet Z a b ob mean ta la tb lb h0 n0 v U'.heap L ∧ FrameEnd U o U' L ({ frames := 0, cells := 0, slots := 0, locals := 0 } : Room).cells ({ frames := 0, cells := 0, slots := 0, locals := 0 } : Room).slots) := by
  refine MetFree.of_bodySF (plainFor_of_name pn_com_example_cloudlet_siting_cloudletsiting_planning_FixedCountCloudlets_Measure) hisR ?_
  intro p e s m args below meth c s₁ Bd hml0 hP hK
  obtain ⟨rfl, hZ, hh⟩ := hP
  have hx := Bd.exec
  have hby := Bd.bytes
  have hml : c.maxLocals = 4 := hml0
  have hown : s.vm.findClass "com/example/cloudlet_siting/cloudletsiting/planning/FixedCountCloudlets$Measure" = some m.cls := findClass_of_methodNamed Bd.named
  have hnm := (name_of_methodNamed Bd.named Bd.method).1
  have X0 : Stand p l e ({ frames := 0, cells := 0, slots := 0, locals := 0 } : Room) s m #[(.ref a), (.ref b), (.ref ob)] below meth c s₁ [] 0 0 := Stand.of_body Bd
  have e0 : s₁.heap = h0 := by rw [← hh, Bd.state]; rfl
  have N0 := Fr.nil n0
  have pre0 : ∀ t_, Steps p.tables e below (s₁.setTop (mkF m 0 #[.val (.ref a), .val (.ref b), .val (.ref ob), .unset] [])) t_ → Steps p.tables e below (s₁.setTop (entryFrame m #[(.ref a), (.ref b), (.ref ob)] 4)) t_ := fun t_ k_ => castTop (ef_rmBet m a b ob) k_
  have lt_I2 : @LT.lt Nat _ a h0.size := I2.lt
  have lt_I3 : @LT.lt Nat _ a h0.size := I3.lt
  have lt_I4 : @LT.lt Nat _ b h0.size := I4.lt
  have lt_I5 : @LT.lt Nat _ b h0.size := I5.lt
  obtain ⟨T1, X1, e1, st1⟩ := getS2 X0 hx hZ hown (host := "") (Or.inl (hw _ (List.mem_of_getElem? (i := 26) rfl))) Via.refl e0 (I1.ext OX.2) (g := (mkF m 1 #[.val (.ref a), .val (.ref b), .val (.ref ob), .unset] [(.ref ob)])) rfl (Jvm.hb hby d_prog_36_method_4_1)
  have s2 : ∀ t_, Steps p.tables e below (T1.setTop (mkF m 4 #[.val (.ref a), .val (.ref b), .val (.ref ob), .unset] [(.ref mean), (.ref ob)])) t_ → Steps p.tables e below (s₁.setTop (entryFrame m #[(.ref a), (.ref b), (.ref ob)] 4)) t_ := fun t_ k_ => pre0 t_ (by
    show Steps p.tables e below (s₁.setTop (mkF m 0 #[.val (.ref a), .val (.ref b), .val (.ref ob), .unset] [])) t_
    refine XS.aloadN X0.here hx rfl (Jvm.hb hby d_prog_36_method_4_0) rfl rfl ?_
    show Steps p.tables e below (s₁.setTop (mkF m 1 #[.val (.ref a), .val (.ref b), .val (.ref ob), .unset] [(.ref ob)])) _
    refine st1 _ ?_
    show Steps p.tables e below (T1.setTop (mkF m 4 #[.val (.ref a), .val (.ref b), .val (.ref ob), .unset] [(.ref mean), (.ref ob)])) _
    show Steps p.tables e below (T1.setTop (mkF m 4 #[.val (.ref a), .val (.ref b), .val (.ref ob), .unset] [(.ref mean), (.ref ob)])) t_
    exact k_)
  obtain ⟨T3, X3, e3, s3⟩ := seg X1 (fun T' => T'.heap = h0 ∧ ∀ t_, Steps p.tables e below (T'.setTop (mkF m 94 #[.val (.ref a), .val (.ref b), .val (.ref ob), .val (.int (if ob = mean then (if (lcmpW ta tb) < (0 : Int32) then (1 : Int32) else (if (lcmpW ta tb) = (0 : Int32) then (if (lcmpW la lb) < (0 : Int32) then (1 : Int32) else (0 : Int32)) else (0 : Int32))) else (if (lcmpW la lb) < (0 : Int32) then (1 : Int32) else (if (lcmpW la lb) = (0 : Int32) then (if (lcmpW ta tb) < (0 : Int32) then (1 : Int32) else (0 : Int32)) else (0 : Int32)))))] [])) t_ → Steps p.tables e below (s₁.setTop (entryFrame m #[(.ref a), (.ref b), (.ref ob)] 4)) t_) (by
    by_cases h4 : ob = mean
    · obtain ⟨T5, X5, e5, st5⟩ := getF X1 hx hZ hown (host := "") (Or.inl (hw _ (List.mem_of_getElem? (i := 17) rfl))) Via.refl e1 I2 (g := (mkF m 8 #[.val (.ref a), .val (.ref b), .val (.ref ob), .unset] [(.ref a)])) rfl rfl (Jvm.hb hby d_prog_36_method_4_8)
      obtain ⟨T6, X6, e6, st6⟩ := getF X5 hx hZ hown (host := "") (Or.inl (hw _ (List.mem_of_getElem? (i := 17) rfl))) Via.refl e5 I4 (g := (mkF m 12 #[.val (.ref a), .val (.ref b), .val (.ref ob), .unset] [(.ref b), (.long ta)])) rfl rfl (Jvm.hb hby d_prog_36_method_4_12)
      have s7 : ∀ t_, Steps p.tables e below (T6.setTop (mkF m 16 #[.val (.ref a), .val (.ref b), .val (.ref ob), .unset] [(.int (lcmpW ta tb))])) t_ → Steps p.tables e below (s₁.setTop (entryFrame m #[(.ref a), (.ref b), (.ref ob)] 4)) t_ := fun t_ k_ => s2 t_ (by
        show Steps p.tables e below (T1.setTop (mkF m 4 #[.val (.ref a), .val (.ref b), .val (.ref ob), .unset] [(.ref mean), (.ref ob)])) t_
        refine Jvm.RoadKit.acmp (g := (mkF m 4 #[.val (.ref a), .val (.ref b), .val (.ref ob), .unset] [(.ref mean), (.ref ob)])) X1 hx rfl rfl rfl (pc0 := 4) (pc' := 7) (same := true) rfl (Jvm.hb hby d_prog_36_method_4_4) rfl (decide_eq_true (congrArg Value.ref h4)) (by decide) (by decide) ?_
        show Steps p.tables e below (T1.setTop (mkF m 7 #[.val (.ref a), .val (.ref b), .val (.ref ob), .unset] [])) _
        refine XS.aloadN X1.here hx rfl (Jvm.hb hby d_prog_36_method_4_7) rfl rfl ?_
        show Steps p.tables e below (T1.setTop (mkF m 8 #[.val (.ref a), .val (.ref b), .val (.ref ob), .unset] [(.ref a)])) _
        refine st5 _ ?_
        show Steps p.tables e below (T5.setTop (mkF m 11 #[.val (.ref a), .val (.ref b), .val (.ref ob), .unset] [(.long ta)])) _
        refine XS.aloadN X5.here hx rfl (Jvm.hb hby d_prog_36_method_4_11) rfl rfl ?_
        show Steps p.tables e below (T5.setTop (mkF m 12 #[.val (.ref a), .val (.ref b), .val (.ref ob), .unset] [(.ref b), (.long ta)])) _
        refine st6 _ ?_
        show Steps p.tables e below (T6.setTop (mkF m 15 #[.val (.ref a), .val (.ref b), .val (.ref ob), .unset] [(.long tb), (.long ta)])) _
        refine XS.lcmp X6.here hx rfl (Jvm.hb hby d_prog_36_method_4_15) rfl ?_
        show Steps p.tables e below (T6.setTop (mkF m 16 #[.val (.ref a), .val (.ref b), .val (.ref ob), .unset] [(.int (lcmpW ta tb))])) _
        show Steps p.tables e below (T6.setTop (mkF m 16 #[.val (.ref a), .val (.ref b), .val (.ref ob), .unset] [(.int (lcmpW ta tb))])) t_
        exact k_)
      by_cases h8 : (lcmpW ta tb) < (0 : Int32)
      · have s9 : ∀ t_, Steps p.tables e below (T6.setTop (mkF m 94 #[.val (.ref a), .val (.ref b), .val (.ref ob), .val (.int (1 : Int32))] [])) t_ → Steps p.tables e below (s₁.setTop (entryFrame m #[(.ref a), (.ref b), (.ref ob)] 4)) t_ := fun t_ k_ => s7 t_ (by
          show Steps p.tables e below (T6.setTop (mkF m 16 #[.val (.ref a), .val (.ref b), .val (.ref ob), .unset] [(.int (lcmpW ta tb))])) t_
          refine XS.ifYes X6.here hx rfl (pc0 := 16) (pc' := 43) rfl (Jvm.hb hby d_prog_36_method_4_16) rfl ((if0 _ _).trans (tlt h8).1) (by decide) (by decide) ?_
          show Steps p.tables e below (T6.setTop (mkF m 43 #[.val (.ref a), .val (.ref b), .val (.ref ob), .unset] [])) _
          refine XS.iconst X6.here hx rfl (Jvm.hb hby d_prog_36_method_4_43) ?_
          show Steps p.tables e below (T6.setTop (mkF m 44 #[.val (.ref a), .val (.ref b), .val (.ref ob), .unset] [(.int (1 : Int32))])) _
          refine XS.goto X6.here hx rfl (pc0 := 44) (pc' := 48) rfl (Jvm.hb hby d_prog_36_method_4_44) (by decide) (by decide) ?_
          show Steps p.tables e below (T6.setTop (mkF m 48 #[.val (.ref a), .val (.ref b), .val (.ref ob), .unset] [(.int (1 : Int32))])) _
          refine XS.istoreN X6.here hx rfl (Jvm.hb hby d_prog_36_method_4_48) rfl (l' := #[.val (.ref a), .val (.ref b), .val (.ref ob), .val (.int (1 : Int32))]) rfl ?_
          show Steps p.tables e below (T6.setTop (mkF m 49 #[.val (.ref a), .val (.ref b), .val (.ref ob), .val (.int (1 : Int32))] [])) _
          refine XS.goto X6.here hx rfl (pc0 := 49) (pc' := 94) rfl (Jvm.hb hby d_prog_36_method_4_49) (by decide) (by decide) ?_
          show Steps p.tables e below (T6.setTop (mkF m 94 #[.val (.ref a), .val (.ref b), .val (.ref ob), .val (.int (1 : Int32))] [])) _
          show Steps p.tables e below (T6.setTop (mkF m 94 #[.val (.ref a), .val (.ref b), .val (.ref ob), .val (.int (1 : Int32))] [])) t_
          exact k_)
        exact ⟨T6, X6, e6, fun t_ k_ => s9 t_ (castTop (by simp only [if_pos h4, if_pos h8]) k_)⟩
      · obtain ⟨T10, X10, e10, st10⟩ := getF X6 hx hZ hown (host := "") (Or.inl (hw _ (List.mem_of_getElem? (i := 17) rfl))) Via.refl e6 I2 (g := (mkF m 20 #[.val (.ref a), .val (.ref b), .val (.ref ob), .unset] [(.ref a)])) rfl rfl (Jvm.hb hby d_prog_36_method_4_20)
        obtain ⟨T11, X11, e11, st11⟩ := getF X10 hx hZ hown (host := "") (Or.inl (hw _ (List.mem_of_getElem? (i := 17) rfl))) Via.refl e10 I4 (g := (mkF m 24 #[.val (.ref a), .val (.ref b), .val (.ref ob), .unset] [(.ref b), (.long ta)])) rfl rfl (Jvm.hb hby d_prog_36_method_4_24)
        have s12 : ∀ t_, Steps p.tables e below (T11.setTop (mkF m 28 #[.val (.ref a), .val (.ref b), .val (.ref ob), .unset] [(.int (lcmpW ta tb))])) t_ → Steps p.tables e below (s₁.setTop (entryFrame m #[(.ref a), (.ref b), (.ref ob)] 4)) t_ := fun t_ k_ => s7 t_ (by
          show Steps p.tables e below (T6.setTop (mkF m 16 #[.val (.ref a), .val (.ref b), .val (.ref ob), .unset] [(.int (lcmpW ta tb))])) t_
          refine XS.ifNo X6.here hx rfl (Jvm.hb hby d_prog_36_method_4_16) rfl ((if0 _ _).trans (flt h8).1) ?_
          show Steps p.tables e below (T6.setTop (mkF m 19 #[.val (.ref a), .val (.ref b), .val (.ref ob), .unset] [])) _
          refine XS.aloadN X6.here hx rfl (Jvm.hb hby d_prog_36_method_4_19) rfl rfl ?_
          show Steps p.tables e below (T6.setTop (mkF m 20 #[.val (.ref a), .val (.ref b), .val (.ref ob), .unset] [(.ref a)])) _
          refine st10 _ ?_
          show Steps p.tables e below (T10.setTop (mkF m 23 #[.val (.ref a), .val (.ref b), .val (.ref ob), .unset] [(.long ta)])) _
          refine XS.aloadN X10.here hx rfl (Jvm.hb hby d_prog_36_method_4_23) rfl rfl ?_
          show Steps p.tables e below (T10.setTop (mkF m 24 #[.val (.ref a), .val (.ref b), .val (.ref ob), .unset] [(.ref b), (.long ta)])) _
          refine st11 _ ?_
          show Steps p.tables e below (T11.setTop (mkF m 27 #[.val (.ref a), .val (.ref b), .val (.ref ob), .unset] [(.long tb), (.long ta)])) _
          refine XS.lcmp X11.here hx rfl (Jvm.hb hby d_prog_36_method_4_27) rfl ?_
          show Steps p.tables e below (T11.setTop (mkF m 28 #[.val (.ref a), .val (.ref b), .val (.ref ob), .unset] [(.int (lcmpW ta tb))])) _
          show Steps p.tables e below (T11.setTop (mkF m 28 #[.val (.ref a), .val (.ref b), .val (.ref ob), .unset] [(.int (lcmpW ta tb))])) t_
          exact k_)
        by_cases h13 : (lcmpW ta tb) = (0 : Int32)
        · obtain ⟨T14, X14, e14, st14⟩ := getF X11 hx hZ hown (host := "") (Or.inl (hw _ (List.mem_of_getElem? (i := 19) rfl))) Via.refl e11 I3 (g := (mkF m 32 #[.val (.ref a), .val (.ref b), .val (.ref ob), .unset] [(.ref a)])) rfl rfl (Jvm.hb hby d_prog_36_method_4_32)
          obtain ⟨T15, X15, e15, st15⟩ := getF X14 hx hZ hown (host := "") (Or.inl (hw _ (List.mem_of_getElem? (i := 19) rfl))) Via.refl e14 I5 (g := (mkF m 36 #[.val (.ref a), .val (.ref b), .val (.ref ob), .unset] [(.ref b), (.long la)])) rfl rfl (Jvm.hb hby d_prog_36_method_4_36)
          have s16 : ∀ t_, Steps p.tables e below (T15.setTop (mkF m 40 #[.val (.ref a), .val (.ref b), .val (.ref ob), .unset] [(.int (lcmpW la lb))])) t_ → Steps p.tables e below (s₁.setTop (entryFrame m #[(.ref a), (.ref b), (.ref ob)] 4)) t_ := fun t_ k_ => s12 t_ (by
            show Steps p.tables e below (T11.setTop (mkF m 28 #[.val (.ref a), .val (.ref b), .val (.ref ob), .unset] [(.int (lcmpW ta tb))])) t_
            refine XS.ifNo X11.here hx rfl (Jvm.hb hby d_prog_36_method_4_28) rfl ((if0 _ _).trans (teq h13).2) ?_
            show Steps p.tables e below (T11.setTop (mkF m 31 #[.val (.ref a), .val (.ref b), .val (.ref ob), .unset] [])) _
            refine XS.aloadN X11.here hx rfl (Jvm.hb hby d_prog_36_method_4_31) rfl rfl ?_
            show Steps p.tables e below (T11.setTop (mkF m 32 #[.val (.ref a), .val (.ref b), .val (.ref ob), .unset] [(.ref a)])) _
            refine st14 _ ?_
            show Steps p.tables e below (T14.setTop (mkF m 35 #[.val (.ref a), .val (.ref b), .val (.ref ob), .unset] [(.long la)])) _
            refine XS.aloadN X14.here hx rfl (Jvm.hb hby d_prog_36_method_4_35) rfl rfl ?_
            show Steps p.tables e below (T14.setTop (mkF m 36 #[.val (.ref a), .val (.ref b), .val (.ref ob), .unset] [(.ref b), (.long la)])) _
            refine st15 _ ?_
            show Steps p.tables e below (T15.setTop (mkF m 39 #[.val (.ref a), .val (.ref b), .val (.ref ob), .unset] [(.long lb), (.long la)])) _
            refine XS.lcmp X15.here hx rfl (Jvm.hb hby d_prog_36_method_4_39) rfl ?_
            show Steps p.tables e below (T15.setTop (mkF m 40 #[.val (.ref a), .val (.ref b), .val (.ref ob), .unset] [(.int (lcmpW la lb))])) _
            show Steps p.tables e below (T15.setTop (mkF m 40 #[.val (.ref a), .val (.ref b), .val (.ref ob), .unset] [(.int (lcmpW la lb))])) t_
            exact k_)
          by_cases h17 : (lcmpW la lb) < (0 : Int32)
          · have s18 : ∀ t_, Steps p.tables e below (T15.setTop (mkF m 94 #[.val (.ref a), .val (.ref b), .val (.ref ob), .val (.int (1 : Int32))] [])) t_ → Steps p.tables e below (s₁.setTop (entryFrame m #[(.ref a), (.ref b), (.ref ob)] 4)) t_ := fun t_ k_ => s16 t_ (by
              show Steps p.tables e below (T15.setTop (mkF m 40 #[.val (.ref a), .val (.ref b), .val (.ref ob), .unset] [(.int (lcmpW la lb))])) t_
              refine XS.ifNo X15.here hx rfl (Jvm.hb hby d_prog_36_method_4_40) rfl ((if0 _ _).trans (tlt h17).2.1) ?_
              show Steps p.tables e below (T15.setTop (mkF m 43 #[.val (.ref a), .val (.ref b), .val (.ref ob), .unset] [])) _
              refine XS.iconst X15.here hx rfl (Jvm.hb hby d_prog_36_method_4_43) ?_
              show Steps p.tables e below (T15.setTop (mkF m 44 #[.val (.ref a), .val (.ref b), .val (.ref ob), .unset] [(.int (1 : Int32))])) _
              refine XS.goto X15.here hx rfl (pc0 := 44) (pc' := 48) rfl (Jvm.hb hby d_prog_36_method_4_44) (by decide) (by decide) ?_
              show Steps p.tables e below (T15.setTop (mkF m 48 #[.val (.ref a), .val (.ref b), .val (.ref ob), .unset] [(.int (1 : Int32))])) _
              refine XS.istoreN X15.here hx rfl (Jvm.hb hby d_prog_36_method_4_48) rfl (l' := #[.val (.ref a), .val (.ref b), .val (.ref ob), .val (.int (1 : Int32))]) rfl ?_
              show Steps p.tables e below (T15.setTop (mkF m 49 #[.val (.ref a), .val (.ref b), .val (.ref ob), .val (.int (1 : Int32))] [])) _
              refine XS.goto X15.here hx rfl (pc0 := 49) (pc' := 94) rfl (Jvm.hb hby d_prog_36_method_4_49) (by decide) (by decide) ?_
              show Steps p.tables e below (T15.setTop (mkF m 94 #[.val (.ref a), .val (.ref b), .val (.ref ob), .val (.int (1 : Int32))] [])) _
              show Steps p.tables e below (T15.setTop (mkF m 94 #[.val (.ref a), .val (.ref b), .val (.ref ob), .val (.int (1 : Int32))] [])) t_
              exact k_)
            exact ⟨T15, X15, e15, fun t_ k_ => s18 t_ (castTop (by simp only [if_pos h4, if_neg h8, if_pos h13, if_pos h17]) k_)⟩
          · have s19 : ∀ t_, Steps p.tables e below (T15.setTop (mkF m 94 #[.val (.ref a), .val (.ref b), .val (.ref ob), .val (.int (0 : Int32))] [])) t_ → Steps p.tables e below (s₁.setTop (entryFrame m #[(.ref a), (.ref b), (.ref ob)] 4)) t_ := fun t_ k_ => s16 t_ (by
              show Steps p.tables e below (T15.setTop (mkF m 40 #[.val (.ref a), .val (.ref b), .val (.ref ob), .unset] [(.int (lcmpW la lb))])) t_
              refine XS.ifYes X15.here hx rfl (pc0 := 40) (pc' := 47) rfl (Jvm.hb hby d_prog_36_method_4_40) rfl ((if0 _ _).trans (flt h17).2.1) (by decide) (by decide) ?_
              show Steps p.tables e below (T15.setTop (mkF m 47 #[.val (.ref a), .val (.ref b), .val (.ref ob), .unset] [])) _
              refine XS.iconst X15.here hx rfl (Jvm.hb hby d_prog_36_method_4_47) ?_
              show Steps p.tables e below (T15.setTop (mkF m 48 #[.val (.ref a), .val (.ref b), .val (.ref ob), .unset] [(.int (0 : Int32))])) _
              refine XS.istoreN X15.here hx rfl (Jvm.hb hby d_prog_36_method_4_48) rfl (l' := #[.val (.ref a), .val (.ref b), .val (.ref ob), .val (.int (0 : Int32))]) rfl ?_
              show Steps p.tables e below (T15.setTop (mkF m 49 #[.val (.ref a), .val (.ref b), .val (.ref ob), .val (.int (0 : Int32))] [])) _
              refine XS.goto X15.here hx rfl (pc0 := 49) (pc' := 94) rfl (Jvm.hb hby d_prog_36_method_4_49) (by decide) (by decide) ?_
              show Steps p.tables e below (T15.setTop (mkF m 94 #[.val (.ref a), .val (.ref b), .val (.ref ob), .val (.int (0 : Int32))] [])) _
              show Steps p.tables e below (T15.setTop (mkF m 94 #[.val (.ref a), .val (.ref b), .val (.ref ob), .val (.int (0 : Int32))] [])) t_
              exact k_)
            exact ⟨T15, X15, e15, fun t_ k_ => s19 t_ (castTop (by simp only [if_pos h4, if_neg h8, if_pos h13, if_neg h17]) k_)⟩
        · have s20 : ∀ t_, Steps p.tables e below (T11.setTop (mkF m 94 #[.val (.ref a), .val (.ref b), .val (.ref ob), .val (.int (0 : Int32))] [])) t_ → Steps p.tables e below (s₁.setTop (entryFrame m #[(.ref a), (.ref b), (.ref ob)] 4)) t_ := fun t_ k_ => s12 t_ (by
            show Steps p.tables e below (T11.setTop (mkF m 28 #[.val (.ref a), .val (.ref b), .val (.ref ob), .unset] [(.int (lcmpW ta tb))])) t_
            refine XS.ifYes X11.here hx rfl (pc0 := 28) (pc' := 47) rfl (Jvm.hb hby d_prog_36_method_4_28) rfl ((if0 _ _).trans (feq h13).2) (by decide) (by decide) ?_
            show Steps p.tables e below (T11.setTop (mkF m 47 #[.val (.ref a), .val (.ref b), .val (.ref ob), .unset] [])) _
            refine XS.iconst X11.here hx rfl (Jvm.hb hby d_prog_36_method_4_47) ?_
            show Steps p.tables e below (T11.setTop (mkF m 48 #[.val (.ref a), .val (.ref b), .val (.ref ob), .unset] [(.int (0 : Int32))])) _
            refine XS.istoreN X11.here hx rfl (Jvm.hb hby d_prog_36_method_4_48) rfl (l' := #[.val (.ref a), .val (.ref b), .val (.ref ob), .val (.int (0 : Int32))]) rfl ?_
            show Steps p.tables e below (T11.setTop (mkF m 49 #[.val (.ref a), .val (.ref b), .val (.ref ob), .val (.int (0 : Int32))] [])) _
            refine XS.goto X11.here hx rfl (pc0 := 49) (pc' := 94) rfl (Jvm.hb hby d_prog_36_method_4_49) (by decide) (by decide) ?_
            show Steps p.tables e below (T11.setTop (mkF m 94 #[.val (.ref a), .val (.ref b), .val (.ref ob), .val (.int (0 : Int32))] [])) _
            show Steps p.tables e below (T11.setTop (mkF m 94 #[.val (.ref a), .val (.ref b), .val (.ref ob), .val (.int (0 : Int32))] [])) t_
            exact k_)
          exact ⟨T11, X11, e11, fun t_ k_ => s20 t_ (castTop (by simp only [if_pos h4, if_neg h8, if_neg h13]) k_)⟩
    · obtain ⟨T21, X21, e21, st21⟩ := getF X1 hx hZ hown (host := "") (Or.inl (hw _ (List.mem_of_getElem? (i := 19) rfl))) Via.refl e1 I3 (g := (mkF m 53 #[.val (.ref a), .val (.ref b), .val (.ref ob), .unset] [(.ref a)])) rfl rfl (Jvm.hb hby d_prog_36_method_4_53)
      obtain ⟨T22, X22, e22, st22⟩ := getF X21 hx hZ hown (host := "") (Or.inl (hw _ (List.mem_of_getElem? (i := 19) rfl))) Via.refl e21 I5 (g := (mkF m 57 #[.val (.ref a), .val (.ref b), .val (.ref ob), .unset] [(.ref b), (.long la)])) rfl rfl (Jvm.hb hby d_prog_36_method_4_57)
      have s23 : ∀ t_, Steps p.tables e below (T22.setTop (mkF m 61 #[.val (.ref a), .val (.ref b), .val (.ref ob), .unset] [(.int (lcmpW la lb))])) t_ → Steps p.tables e below (s₁.setTop (entryFrame m #[(.ref a), (.ref b), (.ref ob)] 4)) t_ := fun t_ k_ => s2 t_ (by
        show Steps p.tables e below (T1.setTop (mkF m 4 #[.val (.ref a), .val (.ref b), .val (.ref ob), .unset] [(.ref mean), (.ref ob)])) t_
        refine Jvm.RoadKit.acmp (g := (mkF m 4 #[.val (.ref a), .val (.ref b), .val (.ref ob), .unset] [(.ref mean), (.ref ob)])) X1 hx rfl rfl rfl (pc0 := 4) (pc' := 52) (same := false) rfl (Jvm.hb hby d_prog_36_method_4_4) rfl (decide_eq_false fun q => h4 (Value.ref.inj q)) (by decide) (by decide) ?_
        show Steps p.tables e below (T1.setTop (mkF m 52 #[.val (.ref a), .val (.ref b), .val (.ref ob), .unset] [])) _
        refine XS.aloadN X1.here hx rfl (Jvm.hb hby d_prog_36_method_4_52) rfl rfl ?_
        show Steps p.tables e below (T1.setTop (mkF m 53 #[.val (.ref a), .val (.ref b), .val (.ref ob), .unset] [(.ref a)])) _
        refine st21 _ ?_
        show Steps p.tables e below (T21.setTop (mkF m 56 #[.val (.ref a), .val (.ref b), .val (.ref ob), .unset] [(.long la)])) _
        refine XS.aloadN X21.here hx rfl (Jvm.hb hby d_prog_36_method_4_56) rfl rfl ?_
        show Steps p.tables e below (T21.setTop (mkF m 57 #[.val (.ref a), .val (.ref b), .val (.ref ob), .unset] [(.ref b), (.long la)])) _
        refine st22 _ ?_
        show Steps p.tables e below (T22.setTop (mkF m 60 #[.val (.ref a), .val (.ref b), .val (.ref ob), .unset] [(.long lb), (.long la)])) _
        refine XS.lcmp X22.here hx rfl (Jvm.hb hby d_prog_36_method_4_60) rfl ?_
        show Steps p.tables e below (T22.setTop (mkF m 61 #[.val (.ref a), .val (.ref b), .val (.ref ob), .unset] [(.int (lcmpW la lb))])) _
        show Steps p.tables e below (T22.setTop (mkF m 61 #[.val (.ref a), .val (.ref b), .val (.ref ob), .unset] [(.int (lcmpW la lb))])) t_
        exact k_)
      by_cases h24 : (lcmpW la lb) < (0 : Int32)
      · have s25 : ∀ t_, Steps p.tables e below (T22.setTop (mkF m 94 #[.val (.ref a), .val (.ref b), .val (.ref ob), .val (.int (1 : Int32))] [])) t_ → Steps p.tables e below (s₁.setTop (entryFrame m #[(.ref a), (.ref b), (.ref ob)] 4)) t_ := fun t_ k_ => s23 t_ (by
          show Steps p.tables e below (T22.setTop (mkF m 61 #[.val (.ref a), .val (.ref b), .val (.ref ob), .unset] [(.int (lcmpW la lb))])) t_
          refine XS.ifYes X22.here hx rfl (pc0 := 61) (pc' := 88) rfl (Jvm.hb hby d_prog_36_method_4_61) rfl ((if0 _ _).trans (tlt h24).1) (by decide) (by decide) ?_
          show Steps p.tables e below (T22.setTop (mkF m 88 #[.val (.ref a), .val (.ref b), .val (.ref ob), .unset] [])) _
          refine XS.iconst X22.here hx rfl (Jvm.hb hby d_prog_36_method_4_88) ?_
          show Steps p.tables e below (T22.setTop (mkF m 89 #[.val (.ref a), .val (.ref b), .val (.ref ob), .unset] [(.int (1 : Int32))])) _
          refine XS.goto X22.here hx rfl (pc0 := 89) (pc' := 93) rfl (Jvm.hb hby d_prog_36_method_4_89) (by decide) (by decide) ?_
          show Steps p.tables e below (T22.setTop (mkF m 93 #[.val (.ref a), .val (.ref b), .val (.ref ob), .unset] [(.int (1 : Int32))])) _
          refine XS.istoreN X22.here hx rfl (Jvm.hb hby d_prog_36_method_4_93) rfl (l' := #[.val (.ref a), .val (.ref b), .val (.ref ob), .val (.int (1 : Int32))]) rfl ?_
          show Steps p.tables e below (T22.setTop (mkF m 94 #[.val (.ref a), .val (.ref b), .val (.ref ob), .val (.int (1 : Int32))] [])) _
          show Steps p.tables e below (T22.setTop (mkF m 94 #[.val (.ref a), .val (.ref b), .val (.ref ob), .val (.int (1 : Int32))] [])) t_
          exact k_)
        exact ⟨T22, X22, e22, fun t_ k_ => s25 t_ (castTop (by simp only [if_neg h4, if_pos h24]) k_)⟩
      · obtain ⟨T26, X26, e26, st26⟩ := getF X22 hx hZ hown (host := "") (Or.inl (hw _ (List.mem_of_getElem? (i := 19) rfl))) Via.refl e22 I3 (g := (mkF m 65 #[.val (.ref a), .val (.ref b), .val (.ref ob), .unset] [(.ref a)])) rfl rfl (Jvm.hb hby d_prog_36_method_4_65)
        obtain ⟨T27, X27, e27, st27⟩ := getF X26 hx hZ hown (host := "") (Or.inl (hw _ (List.mem_of_getElem? (i := 19) rfl))) Via.refl e26 I5 (g := (mkF m 69 #[.val (.ref a), .val (.ref b), .val (.ref ob), .unset] [(.ref b), (.long la)])) rfl rfl (Jvm.hb hby d_prog_36_method_4_69)
        have s28 : ∀ t_, Steps p.tables e below (T27.setTop (mkF m 73 #[.val (.ref a), .val (.ref b), .val (.ref ob), .unset] [(.int (lcmpW la lb))])) t_ → Steps p.tables e below (s₁.setTop (entryFrame m #[(.ref a), (.ref b), (.ref ob)] 4)) t_ := fun t_ k_ => s23 t_ (by
          show Steps p.tables e below (T22.setTop (mkF m 61 #[.val (.ref a), .val (.ref b), .val (.ref ob), .unset] [(.int (lcmpW la lb))])) t_
          refine XS.ifNo X22.here hx rfl (Jvm.hb hby d_prog_36_method_4_61) rfl ((if0 _ _).trans (flt h24).1) ?_
          show Steps p.tables e below (T22.setTop (mkF m 64 #[.val (.ref a), .val (.ref b), .val (.ref ob), .unset] [])) _
          refine XS.aloadN X22.here hx rfl (Jvm.hb hby d_prog_36_method_4_64) rfl rfl ?_
          show Steps p.tables e below (T22.setTop (mkF m 65 #[.val (.ref a), .val (.ref b), .val (.ref ob), .unset] [(.ref a)])) _
          refine st26 _ ?_
          show Steps p.tables e below (T26.setTop (mkF m 68 #[.val (.ref a), .val (.ref b), .val (.ref ob), .unset] [(.long la)])) _
          refine XS.aloadN X26.here hx rfl (Jvm.hb hby d_prog_36_method_4_68) rfl rfl ?_
          show Steps p.tables e below (T26.setTop (mkF m 69 #[.val (.ref a), .val (.ref b), .val (.ref ob), .unset] [(.ref b), (.long la)])) _
          refine st27 _ ?_
          show Steps p.tables e below (T27.setTop (mkF m 72 #[.val (.ref a), .val (.ref b), .val (.ref ob), .unset] [(.long lb), (.long la)])) _
          refine XS.lcmp X27.here hx rfl (Jvm.hb hby d_prog_36_method_4_72) rfl ?_
          show Steps p.tables e below (T27.setTop (mkF m 73 #[.val (.ref a), .val (.ref b), .val (.ref ob), .unset] [(.int (lcmpW la lb))])) _
          show Steps p.tables e below (T27.setTop (mkF m 73 #[.val (.ref a), .val (.ref b), .val (.ref ob), .unset] [(.int (lcmpW la lb))])) t_
          exact k_)
        by_cases h29 : (lcmpW la lb) = (0 : Int32)
        · obtain ⟨T30, X30, e30, st30⟩ := getF X27 hx hZ hown (host := "") (Or.inl (hw _ (List.mem_of_getElem? (i := 17) rfl))) Via.refl e27 I2 (g := (mkF m 77 #[.val (.ref a), .val (.ref b), .val (.ref ob), .unset] [(.ref a)])) rfl rfl (Jvm.hb hby d_prog_36_method_4_77)
          obtain ⟨T31, X31, e31, st31⟩ := getF X30 hx hZ hown (host := "") (Or.inl (hw _ (List.mem_of_getElem? (i := 17) rfl))) Via.refl e30 I4 (g := (mkF m 81 #[.val (.ref a), .val (.ref b), .val (.ref ob), .unset] [(.ref b), (.long ta)])) rfl rfl (Jvm.hb hby d_prog_36_method_4_81)
          have s32 : ∀ t_, Steps p.tables e below (T31.setTop (mkF m 85 #[.val (.ref a), .val (.ref b), .val (.ref ob), .unset] [(.int (lcmpW ta tb))])) t_ → Steps p.tables e below (s₁.setTop (entryFrame m #[(.ref a), (.ref b), (.ref ob)] 4)) t_ := fun t_ k_ => s28 t_ (by
            show Steps p.tables e below (T27.setTop (mkF m 73 #[.val (.ref a), .val (.ref b), .val (.ref ob), .unset] [(.int (lcmpW la lb))])) t_
            refine XS.ifNo X27.here hx rfl (Jvm.hb hby d_prog_36_method_4_73) rfl ((if0 _ _).trans (teq h29).2) ?_
            show Steps p.tables e below (T27.setTop (mkF m 76 #[.val (.ref a), .val (.ref b), .val (.ref ob), .unset] [])) _
            refine XS.aloadN X27.here hx rfl (Jvm.hb hby d_prog_36_method_4_76) rfl rfl ?_
            show Steps p.tables e below (T27.setTop (mkF m 77 #[.val (.ref a), .val (.ref b), .val (.ref ob), .unset] [(.ref a)])) _
            refine st30 _ ?_
            show Steps p.tables e below (T30.setTop (mkF m 80 #[.val (.ref a), .val (.ref b), .val (.ref ob), .unset] [(.long ta)])) _
            refine XS.aloadN X30.here hx rfl (Jvm.hb hby d_prog_36_method_4_80) rfl rfl ?_
            show Steps p.tables e below (T30.setTop (mkF m 81 #[.val (.ref a), .val (.ref b), .val (.ref ob), .unset] [(.ref b), (.long ta)])) _
            refine st31 _ ?_
            show Steps p.tables e below (T31.setTop (mkF m 84 #[.val (.ref a), .val (.ref b), .val (.ref ob), .unset] [(.long tb), (.long ta)])) _
            refine XS.lcmp X31.here hx rfl (Jvm.hb hby d_prog_36_method_4_84) rfl ?_
            show Steps p.tables e below (T31.setTop (mkF m 85 #[.val (.ref a), .val (.ref b), .val (.ref ob), .unset] [(.int (lcmpW ta tb))])) _
            show Steps p.tables e below (T31.setTop (mkF m 85 #[.val (.ref a), .val (.ref b), .val (.ref ob), .unset] [(.int (lcmpW ta tb))])) t_
            exact k_)
          by_cases h33 : (lcmpW ta tb) < (0 : Int32)
          · have s34 : ∀ t_, Steps p.tables e below (T31.setTop (mkF m 94 #[.val (.ref a), .val (.ref b), .val (.ref ob), .val (.int (1 : Int32))] [])) t_ → Steps p.tables e below (s₁.setTop (entryFrame m #[(.ref a), (.ref b), (.ref ob)] 4)) t_ := fun t_ k_ => s32 t_ (by
              show Steps p.tables e below (T31.setTop (mkF m 85 #[.val (.ref a), .val (.ref b), .val (.ref ob), .unset] [(.int (lcmpW ta tb))])) t_
              refine XS.ifNo X31.here hx rfl (Jvm.hb hby d_prog_36_method_4_85) rfl ((if0 _ _).trans (tlt h33).2.1) ?_
              show Steps p.tables e below (T31.setTop (mkF m 88 #[.val (.ref a), .val (.ref b), .val (.ref ob), .unset] [])) _
              refine XS.iconst X31.here hx rfl (Jvm.hb hby d_prog_36_method_4_88) ?_
              show Steps p.tables e below (T31.setTop (mkF m 89 #[.val (.ref a), .val (.ref b), .val (.ref ob), .unset] [(.int (1 : Int32))])) _
              refine XS.goto X31.here hx rfl (pc0 := 89) (pc' := 93) rfl (Jvm.hb hby d_prog_36_method_4_89) (by decide) (by decide) ?_
              show Steps p.tables e below (T31.setTop (mkF m 93 #[.val (.ref a), .val (.ref b), .val (.ref ob), .unset] [(.int (1 : Int32))])) _
              refine XS.istoreN X31.here hx rfl (Jvm.hb hby d_prog_36_method_4_93) rfl (l' := #[.val (.ref a), .val (.ref b), .val (.ref ob), .val (.int (1 : Int32))]) rfl ?_
              show Steps p.tables e below (T31.setTop (mkF m 94 #[.val (.ref a), .val (.ref b), .val (.ref ob), .val (.int (1 : Int32))] [])) _
              show Steps p.tables e below (T31.setTop (mkF m 94 #[.val (.ref a), .val (.ref b), .val (.ref ob), .val (.int (1 : Int32))] [])) t_
              exact k_)
            exact ⟨T31, X31, e31, fun t_ k_ => s34 t_ (castTop (by simp only [if_neg h4, if_neg h24, if_pos h29, if_pos h33]) k_)⟩
          · have s35 : ∀ t_, Steps p.tables e below (T31.setTop (mkF m 94 #[.val (.ref a), .val (.ref b), .val (.ref ob), .val (.int (0 : Int32))] [])) t_ → Steps p.tables e below (s₁.setTop (entryFrame m #[(.ref a), (.ref b), (.ref ob)] 4)) t_ := fun t_ k_ => s32 t_ (by
              show Steps p.tables e below (T31.setTop (mkF m 85 #[.val (.ref a), .val (.ref b), .val (.ref ob), .unset] [(.int (lcmpW ta tb))])) t_
              refine XS.ifYes X31.here hx rfl (pc0 := 85) (pc' := 92) rfl (Jvm.hb hby d_prog_36_method_4_85) rfl ((if0 _ _).trans (flt h33).2.1) (by decide) (by decide) ?_
              show Steps p.tables e below (T31.setTop (mkF m 92 #[.val (.ref a), .val (.ref b), .val (.ref ob), .unset] [])) _
              refine XS.iconst X31.here hx rfl (Jvm.hb hby d_prog_36_method_4_92) ?_
              show Steps p.tables e below (T31.setTop (mkF m 93 #[.val (.ref a), .val (.ref b), .val (.ref ob), .unset] [(.int (0 : Int32))])) _
              refine XS.istoreN X31.here hx rfl (Jvm.hb hby d_prog_36_method_4_93) rfl (l' := #[.val (.ref a), .val (.ref b), .val (.ref ob), .val (.int (0 : Int32))]) rfl ?_
              show Steps p.tables e below (T31.setTop (mkF m 94 #[.val (.ref a), .val (.ref b), .val (.ref ob), .val (.int (0 : Int32))] [])) _
              show Steps p.tables e below (T31.setTop (mkF m 94 #[.val (.ref a), .val (.ref b), .val (.ref ob), .val (.int (0 : Int32))] [])) t_
              exact k_)
            exact ⟨T31, X31, e31, fun t_ k_ => s35 t_ (castTop (by simp only [if_neg h4, if_neg h24, if_pos h29, if_neg h33]) k_)⟩
        · have s36 : ∀ t_, Steps p.tables e below (T27.setTop (mkF m 94 #[.val (.ref a), .val (.ref b), .val (.ref ob), .val (.int (0 : Int32))] [])) t_ → Steps p.tables e below (s₁.setTop (entryFrame m #[(.ref a), (.ref b), (.ref ob)] 4)) t_ := fun t_ k_ => s28 t_ (by
            show Steps p.tables e below (T27.setTop (mkF m 73 #[.val (.ref a), .val (.ref b), .val (.ref ob), .unset] [(.int (lcmpW la lb))])) t_
            refine XS.ifYes X27.here hx rfl (pc0 := 73) (pc' := 92) rfl (Jvm.hb hby d_prog_36_method_4_73) rfl ((if0 _ _).trans (feq h29).2) (by decide) (by decide) ?_
            show Steps p.tables e below (T27.setTop (mkF m 92 #[.val (.ref a), .val (.ref b), .val (.ref ob), .unset] [])) _
            refine XS.iconst X27.here hx rfl (Jvm.hb hby d_prog_36_method_4_92) ?_
            show Steps p.tables e below (T27.setTop (mkF m 93 #[.val (.ref a), .val (.ref b), .val (.ref ob), .unset] [(.int (0 : Int32))])) _
            refine XS.istoreN X27.here hx rfl (Jvm.hb hby d_prog_36_method_4_93) rfl (l' := #[.val (.ref a), .val (.ref b), .val (.ref ob), .val (.int (0 : Int32))]) rfl ?_
            show Steps p.tables e below (T27.setTop (mkF m 94 #[.val (.ref a), .val (.ref b), .val (.ref ob), .val (.int (0 : Int32))] [])) _
            show Steps p.tables e below (T27.setTop (mkF m 94 #[.val (.ref a), .val (.ref b), .val (.ref ob), .val (.int (0 : Int32))] [])) t_
            exact k_)
          exact ⟨T27, X27, e27, fun t_ k_ => s36 t_ (castTop (by simp only [if_neg h4, if_neg h24, if_neg h29]) k_)⟩)
  have s37 : ∀ t_, Steps p.tables e below (T3.setTop (mkF m 95 #[.val (.ref a), .val (.ref b), .val (.ref ob), .val (.int (if ob = mean then (if (lcmpW ta tb) < (0 : Int32) then (1 : Int32) else (if (lcmpW ta tb) = (0 : Int32) then (if (lcmpW la lb) < (0 : Int32) then (1 : Int32) else (0 : Int32)) else (0 : Int32))) else (if (lcmpW la lb) < (0 : Int32) then (1 : Int32) else (if (lcmpW la lb) = (0 : Int32) then (if (lcmpW ta tb) < (0 : Int32) then (1 : Int32) else (0 : Int32)) else (0 : Int32)))))] [(.int (if ob = mean then (if (lcmpW ta tb) < (0 : Int32) then (1 : Int32) else (if (lcmpW ta tb) = (0 : Int32) then (if (lcmpW la lb) < (0 : Int32) then (1 : Int32) else (0 : Int32)) else (0 : Int32))) else (if (lcmpW la lb) < (0 : Int32) then (1 : Int32) else (if (lcmpW la lb) = (0 : Int32) then (if (lcmpW ta tb) < (0 : Int32) then (1 : Int32) else (0 : Int32)) else (0 : Int32)))))])) t_ → Steps p.tables e below (s₁.setTop (entryFrame m #[(.ref a), (.ref b), (.ref ob)] 4)) t_ := fun t_ k_ => s3 t_ (by
    show Steps p.tables e below (T3.setTop (mkF m 94 #[.val (.ref a), .val (.ref b), .val (.ref ob), .val (.int (if ob = mean then (if (lcmpW ta tb) < (0 : Int32) then (1 : Int32) else (if (lcmpW ta tb) = (0 : Int32) then (if (lcmpW la lb) < (0 : Int32) then (1 : Int32) else (0 : Int32)) else (0 : Int32))) else (if (lcmpW la lb) < (0 : Int32) then (1 : Int32) else (if (lcmpW la lb) = (0 : Int32) then (if (lcmpW ta tb) < (0 : Int32) then (1 : Int32) else (0 : Int32)) else (0 : Int32)))))] [])) t_
    refine XS.iloadN X3.here hx rfl (Jvm.hb hby d_prog_36_method_4_94) rfl ?_
    show Steps p.tables e below (T3.setTop (mkF m 95 #[.val (.ref a), .val (.ref b), .val (.ref ob), .val (.int (if ob = mean then (if (lcmpW ta tb) < (0 : Int32) then (1 : Int32) else (if (lcmpW ta tb) = (0 : Int32) then (if (lcmpW la lb) < (0 : Int32) then (1 : Int32) else (0 : Int32)) else (0 : Int32))) else (if (lcmpW la lb) < (0 : Int32) then (1 : Int32) else (if (lcmpW la lb) = (0 : Int32) then (if (lcmpW ta tb) < (0 : Int32) then (1 : Int32) else (0 : Int32)) else (0 : Int32)))))] [(.int (if ob = mean then (if (lcmpW ta tb) < (0 : Int32) then (1 : Int32) else (if (lcmpW ta tb) = (0 : Int32) then (if (lcmpW la lb) < (0 : Int32) then (1 : Int32) else (0 : Int32)) else (0 : Int32))) else (if (lcmpW la lb) < (0 : Int32) then (1 : Int32) else (if (lcmpW la lb) = (0 : Int32) then (if (lcmpW ta tb) < (0 : Int32) then (1 : Int32) else (0 : Int32)) else (0 : Int32)))))])) _
    show Steps p.tables e below (T3.setTop (mkF m 95 #[.val (.ref a), .val (.ref b), .val (.ref ob), .val (.int (if ob = mean then (if (lcmpW ta tb) < (0 : Int32) then (1 : Int32) else (if (lcmpW ta tb) = (0 : Int32) then (if (lcmpW la lb) < (0 : Int32) then (1 : Int32) else (0 : Int32)) else (0 : Int32))) else (if (lcmpW la lb) < (0 : Int32) then (1 : Int32) else (if (lcmpW la lb) = (0 : Int32) then (if (lcmpW ta tb) < (0 : Int32) then (1 : Int32) else (0 : Int32)) else (0 : Int32)))))] [(.int (if ob = mean then (if (lcmpW ta tb) < (0 : Int32) then (1 : Int32) else (if (lcmpW ta tb) = (0 : Int32) then (if (lcmpW la lb) < (0 : Int32) then (1 : Int32) else (0 : Int32)) else (0 : Int32))) else (if (lcmpW la lb) < (0 : Int32) then (1 : Int32) else (if (lcmpW la lb) = (0 : Int32) then (if (lcmpW ta tb) < (0 : Int32) then (1 : Int32) else (0 : Int32)) else (0 : Int32)))))])) t_
    exact k_)
  obtain ⟨fs, hr, hrun, hended, hW, hsame⟩ := X3.leave (v := some (.int (nar .boolean (if ob = mean then (if (lcmpW ta tb) < (0 : Int32) then (1 : Int32) else (if (lcmpW ta tb) = (0 : Int32) then (if (lcmpW la lb) < (0 : Int32) then (1 : Int32) else (0 : Int32)) else (0 : Int32))) else (if (lcmpW la lb) < (0 : Int32) then (1 : Int32) else (if (lcmpW la lb) = (0 : Int32) then (if (lcmpW ta tb) < (0 : Int32) then (1 : Int32) else (0 : Int32)) else (0 : Int32))))))) (fun h => by rw [Bd.returns] at h; cases h)
  refine ⟨_, _, s37 _ ?_, hrun, hended, _, _, rfl, ?_, ⟨_, rfl⟩, hW, hsame.mono (by decide) (by decide)⟩
  · show Steps p.tables e below (T3.setTop (mkF m 95 #[.val (.ref a), .val (.ref b), .val (.ref ob), .val (.int (if ob = mean then (if (lcmpW ta tb) < (0 : Int32) then (1 : Int32) else (if (lcmpW ta tb) = (0 : Int32) then (if (lcmpW la lb) < (0 : Int32) then (1 : Int32) else (0 : Int32)) else (0 : Int32))) else (if (lcmpW la lb) < (0 : Int32) then (1 : Int32) else (if (lcmpW la lb) = (0 : Int32) then (if (lcmpW ta tb) < (0 : Int32) then (1 : Int32) else (0 : Int32)) else (0 : Int32)))))] [(.int (if ob = mean then (if (lcmpW ta tb) < (0 : Int32) then (1 : Int32) else (if (lcmpW ta tb) = (0 : Int32) then (if (lcmpW la lb) < (0 : Int32) then (1 : Int32) else (0 : Int32)) else (0 : Int32))) else (if (lcmpW la lb) < (0 : Int32) then (1 : Int32) else (if (lcmpW la lb) = (0 : Int32) then (if (lcmpW ta tb) < (0 : Int32) then (1 : Int32) else (0 : Int32)) else (0 : Int32)))))])) _
    exact retN X3 hx (t := .boolean) Bd.returns (by simp) (Jvm.hb hby d_prog_36_method_4_95) hr
  · show Q_rmBet Z _ _ _ _ _ _ _ _ h0 n0 _ T3.heap _
    rw [e3]
    exact ⟨rfl, N0, rfl⟩
theorem pn_com_example_cloudlet_siting_cloudletsiting_planning_MeasureIsBetterThanPinLaw : plainName "com/example/cloudlet_siting/cloudletsiting/planning/MeasureIsBetterThanPinLaw" = true := by first | (simp [plainName, overriddenIn]; done) | decide +kernel
theorem d_method_3_0 : decode method_3_code 0 = .ok (.lload_n 0, 1) := by decide +kernel
theorem d_method_3_1 : decode method_3_code 1 = .ok (.lload 4, 2) := by decide +kernel
theorem d_method_3_3 : decode method_3_code 3 = .ok (.lcmp, 1) := by decide +kernel
theorem d_method_3_4 : decode method_3_code 4 = .ok (.ifCond .eq 16, 3) := by decide +kernel
theorem d_method_3_20 : decode method_3_code 20 = .ok (.lload_n 2, 1) := by decide +kernel
theorem d_method_3_21 : decode method_3_code 21 = .ok (.lload 6, 2) := by decide +kernel
theorem d_method_3_23 : decode method_3_code 23 = .ok (.lcmp, 1) := by decide +kernel
theorem d_method_3_24 : decode method_3_code 24 = .ok (.ifCond .ge 7, 3) := by decide +kernel
theorem d_method_3_27 : decode method_3_code 27 = .ok (.iconst 1, 1) := by decide +kernel
theorem d_method_3_28 : decode method_3_code 28 = .ok (.goto 4, 3) := by decide +kernel
theorem d_method_3_31 : decode method_3_code 31 = .ok (.iconst 0, 1) := by decide +kernel
theorem d_method_3_32 : decode method_3_code 32 = .ok (.ireturn, 1) := by decide +kernel
theorem d_method_3_7 : decode method_3_code 7 = .ok (.lload_n 0, 1) := by decide +kernel
theorem d_method_3_8 : decode method_3_code 8 = .ok (.lload 4, 2) := by decide +kernel
theorem d_method_3_10 : decode method_3_code 10 = .ok (.lcmp, 1) := by decide +kernel
theorem d_method_3_11 : decode method_3_code 11 = .ok (.ifCond .ge 7, 3) := by decide +kernel
theorem d_method_3_14 : decode method_3_code 14 = .ok (.iconst 1, 1) := by decide +kernel
theorem d_method_3_15 : decode method_3_code 15 = .ok (.goto 4, 3) := by decide +kernel
theorem d_method_3_18 : decode method_3_code 18 = .ok (.iconst 0, 1) := by decide +kernel
theorem d_method_3_19 : decode method_3_code 19 = .ok (.ireturn, 1) := by decide +kernel
theorem ef_rmSm (m : MethodId) (x0 : Int64) (x1 : Int64) (x2 : Int64) (x3 : Int64) : entryFrame m #[(.long x0), (.long x1), (.long x2), (.long x3)] 8 = mkF m 0 #[.val (.long x0), .second, .val (.long x1), .second, .val (.long x2), .second, .val (.long x3), .second] [] := by first | (simp [entryFrame, mkF, argsToLocals, Value.category]; done) | rfl
def Q_rmSm (Z : State) (pa : Int64) (sa : Int64) (pb : Int64) (sb : Int64) (h0 : Heap) (n0 : Nat) (v : Option Value) (h : Heap) (L : List Loc) : Prop := (v = some (.int (if (lcmpW pa pb) = (0 : Int32) then (if (lcmpW sa sb) < (0 : Int32) then (1 : Int32) else (0 : Int32)) else (if (lcmpW pa pb) < (0 : Int32) then (1 : Int32) else (0 : Int32))))) ∧ (Fr n0 L) ∧ (h = h0)
set_option maxRecDepth 65536 in
set_option maxHeartbeats 40000000 in
theorem rmSm (l : Launch) (Z : State) (a0 : Array Value) (hw : ∀ d ∈ tables_1, d.before a0 Z = true) (ws : List Jvm.Cond) (pa : Int64) (sa : Int64) (pb : Int64) (sb : Int64) (h0 : Heap) (n0 : Nat) (Z0 : n0 ≤ h0.size)  :
    MetFree l (⟨"com/example/cloudlet_siting/cloudletsiting/planning/MeasureIsBetterThanPinLaw", "smallerFirstByPrimary", "(JJJJ)Z"⟩ : MethodName) (head1 (Jvm.Cond.code (⟨"com/example/cloudlet_siting/cloudletsiting/planning/MeasureIsBetterThanPinLaw", "smallerFirstByPrimary", "(JJJJ)Z"⟩ : MethodName) method_3_code 8 (some .boolean) :: ws) ({ frames := 0, cells := 0, slots := 0, locals := 0 } : Room)) (fun ar_ U => ar_ = #[(.long pa), (.long sa), (.long pb), (.long sb)] ∧ Z.Warmed39 U.vm ∧ U.heap = h0) (fun _ _ _ _ _ => True) (fun _ U o U' => ∃ v L, o = .returned v ∧ Q_rmSm Z pa sa pb sb h0 n0 v U'.heap L ∧ FrameEnd U o U' L ({ frames := 0, cells := 0, slots := 0, locals := 0 } : Room).cells ({ frames := 0, cells := 0, slots := 0, locals := 0 } : Room).slots) := by
  refine MetFree.of_bodySF (plainFor_of_name pn_com_example_cloudlet_siting_cloudletsiting_planning_MeasureIsBetterThanPinLaw) hisR ?_
  intro p e s m args below meth c s₁ Bd hml0 hP hK
  obtain ⟨rfl, hZ, hh⟩ := hP
  have hx := Bd.exec
  have hby := Bd.bytes
  have hml : c.maxLocals = 8 := hml0
  have hown : s.vm.findClass "com/example/cloudlet_siting/cloudletsiting/planning/MeasureIsBetterThanPinLaw" = some m.cls := findClass_of_methodNamed Bd.named
  have hnm := (name_of_methodNamed Bd.named Bd.method).1
  have X0 : Stand p l e ({ frames := 0, cells := 0, slots := 0, locals := 0 } : Room) s m #[(.long pa), (.long sa), (.long pb), (.long sb)] below meth c s₁ [] 0 0 := Stand.of_body Bd
  have e0 : s₁.heap = h0 := by rw [← hh, Bd.state]; rfl
  have N0 := Fr.nil n0
  have pre0 : ∀ t_, Steps p.tables e below (s₁.setTop (mkF m 0 #[.val (.long pa), .second, .val (.long sa), .second, .val (.long pb), .second, .val (.long sb), .second] [])) t_ → Steps p.tables e below (s₁.setTop (entryFrame m #[(.long pa), (.long sa), (.long pb), (.long sb)] 8)) t_ := fun t_ k_ => castTop (ef_rmSm m pa sa pb sb) k_
  have s1 : ∀ t_, Steps p.tables e below (s₁.setTop (mkF m 4 #[.val (.long pa), .second, .val (.long sa), .second, .val (.long pb), .second, .val (.long sb), .second] [(.int (lcmpW pa pb))])) t_ → Steps p.tables e below (s₁.setTop (entryFrame m #[(.long pa), (.long sa), (.long pb), (.long sb)] 8)) t_ := fun t_ k_ => pre0 t_ (by
    show Steps p.tables e below (s₁.setTop (mkF m 0 #[.val (.long pa), .second, .val (.long sa), .second, .val (.long pb), .second, .val (.long sb), .second] [])) t_
    refine XS.lloadN X0.here hx rfl (Jvm.hb hby d_method_3_0) rfl ?_
    show Steps p.tables e below (s₁.setTop (mkF m 1 #[.val (.long pa), .second, .val (.long sa), .second, .val (.long pb), .second, .val (.long sb), .second] [(.long pa)])) _
    refine XS.lload X0.here hx rfl (Jvm.hb hby d_method_3_1) rfl ?_
    show Steps p.tables e below (s₁.setTop (mkF m 3 #[.val (.long pa), .second, .val (.long sa), .second, .val (.long pb), .second, .val (.long sb), .second] [(.long pb), (.long pa)])) _
    refine XS.lcmp X0.here hx rfl (Jvm.hb hby d_method_3_3) rfl ?_
    show Steps p.tables e below (s₁.setTop (mkF m 4 #[.val (.long pa), .second, .val (.long sa), .second, .val (.long pb), .second, .val (.long sb), .second] [(.int (lcmpW pa pb))])) _
    show Steps p.tables e below (s₁.setTop (mkF m 4 #[.val (.long pa), .second, .val (.long sa), .second, .val (.long pb), .second, .val (.long sb), .second] [(.int (lcmpW pa pb))])) t_
    exact k_)
  by_cases h2 : (lcmpW pa pb) = (0 : Int32)
  · have s3 : ∀ t_, Steps p.tables e below (s₁.setTop (mkF m 24 #[.val (.long pa), .second, .val (.long sa), .second, .val (.long pb), .second, .val (.long sb), .second] [(.int (lcmpW sa sb))])) t_ → Steps p.tables e below (s₁.setTop (entryFrame m #[(.long pa), (.long sa), (.long pb), (.long sb)] 8)) t_ := fun t_ k_ => s1 t_ (by
      show Steps p.tables e below (s₁.setTop (mkF m 4 #[.val (.long pa), .second, .val (.long sa), .second, .val (.long pb), .second, .val (.long sb), .second] [(.int (lcmpW pa pb))])) t_
      refine XS.ifYes X0.here hx rfl (pc0 := 4) (pc' := 20) rfl (Jvm.hb hby d_method_3_4) rfl ((if0 _ _).trans (teq h2).1) (by decide) (by decide) ?_
      show Steps p.tables e below (s₁.setTop (mkF m 20 #[.val (.long pa), .second, .val (.long sa), .second, .val (.long pb), .second, .val (.long sb), .second] [])) _
      refine XS.lloadN X0.here hx rfl (Jvm.hb hby d_method_3_20) rfl ?_
      show Steps p.tables e below (s₁.setTop (mkF m 21 #[.val (.long pa), .second, .val (.long sa), .second, .val (.long pb), .second, .val (.long sb), .second] [(.long sa)])) _
      refine XS.lload X0.here hx rfl (Jvm.hb hby d_method_3_21) rfl ?_
      show Steps p.tables e below (s₁.setTop (mkF m 23 #[.val (.long pa), .second, .val (.long sa), .second, .val (.long pb), .second, .val (.long sb), .second] [(.long sb), (.long sa)])) _
      refine XS.lcmp X0.here hx rfl (Jvm.hb hby d_method_3_23) rfl ?_
      show Steps p.tables e below (s₁.setTop (mkF m 24 #[.val (.long pa), .second, .val (.long sa), .second, .val (.long pb), .second, .val (.long sb), .second] [(.int (lcmpW sa sb))])) _
      show Steps p.tables e below (s₁.setTop (mkF m 24 #[.val (.long pa), .second, .val (.long sa), .second, .val (.long pb), .second, .val (.long sb), .second] [(.int (lcmpW sa sb))])) t_
      exact k_)
    obtain ⟨T4, X4, e4, s4⟩ := seg X0 (fun T' => T'.heap = h0 ∧ ∀ t_, Steps p.tables e below (T'.setTop (mkF m 32 #[.val (.long pa), .second, .val (.long sa), .second, .val (.long pb), .second, .val (.long sb), .second] [(.int (if (lcmpW sa sb) < (0 : Int32) then (1 : Int32) else (0 : Int32)))])) t_ → Steps p.tables e below (s₁.setTop (entryFrame m #[(.long pa), (.long sa), (.long pb), (.long sb)] 8)) t_) (by
      by_cases h5 : (lcmpW sa sb) < (0 : Int32)
      · have s6 : ∀ t_, Steps p.tables e below (s₁.setTop (mkF m 32 #[.val (.long pa), .second, .val (.long sa), .second, .val (.long pb), .second, .val (.long sb), .second] [(.int (1 : Int32))])) t_ → Steps p.tables e below (s₁.setTop (entryFrame m #[(.long pa), (.long sa), (.long pb), (.long sb)] 8)) t_ := fun t_ k_ => s3 t_ (by
          show Steps p.tables e below (s₁.setTop (mkF m 24 #[.val (.long pa), .second, .val (.long sa), .second, .val (.long pb), .second, .val (.long sb), .second] [(.int (lcmpW sa sb))])) t_
          refine XS.ifNo X0.here hx rfl (Jvm.hb hby d_method_3_24) rfl ((if0 _ _).trans (tlt h5).2.1) ?_
          show Steps p.tables e below (s₁.setTop (mkF m 27 #[.val (.long pa), .second, .val (.long sa), .second, .val (.long pb), .second, .val (.long sb), .second] [])) _
          refine XS.iconst X0.here hx rfl (Jvm.hb hby d_method_3_27) ?_
          show Steps p.tables e below (s₁.setTop (mkF m 28 #[.val (.long pa), .second, .val (.long sa), .second, .val (.long pb), .second, .val (.long sb), .second] [(.int (1 : Int32))])) _
          refine XS.goto X0.here hx rfl (pc0 := 28) (pc' := 32) rfl (Jvm.hb hby d_method_3_28) (by decide) (by decide) ?_
          show Steps p.tables e below (s₁.setTop (mkF m 32 #[.val (.long pa), .second, .val (.long sa), .second, .val (.long pb), .second, .val (.long sb), .second] [(.int (1 : Int32))])) _
          show Steps p.tables e below (s₁.setTop (mkF m 32 #[.val (.long pa), .second, .val (.long sa), .second, .val (.long pb), .second, .val (.long sb), .second] [(.int (1 : Int32))])) t_
          exact k_)
        exact ⟨s₁, X0, e0, fun t_ k_ => s6 t_ (castTop (by simp only [if_pos h5]) k_)⟩
      · have s7 : ∀ t_, Steps p.tables e below (s₁.setTop (mkF m 32 #[.val (.long pa), .second, .val (.long sa), .second, .val (.long pb), .second, .val (.long sb), .second] [(.int (0 : Int32))])) t_ → Steps p.tables e below (s₁.setTop (entryFrame m #[(.long pa), (.long sa), (.long pb), (.long sb)] 8)) t_ := fun t_ k_ => s3 t_ (by
          show Steps p.tables e below (s₁.setTop (mkF m 24 #[.val (.long pa), .second, .val (.long sa), .second, .val (.long pb), .second, .val (.long sb), .second] [(.int (lcmpW sa sb))])) t_
          refine XS.ifYes X0.here hx rfl (pc0 := 24) (pc' := 31) rfl (Jvm.hb hby d_method_3_24) rfl ((if0 _ _).trans (flt h5).2.1) (by decide) (by decide) ?_
          show Steps p.tables e below (s₁.setTop (mkF m 31 #[.val (.long pa), .second, .val (.long sa), .second, .val (.long pb), .second, .val (.long sb), .second] [])) _
          refine XS.iconst X0.here hx rfl (Jvm.hb hby d_method_3_31) ?_
          show Steps p.tables e below (s₁.setTop (mkF m 32 #[.val (.long pa), .second, .val (.long sa), .second, .val (.long pb), .second, .val (.long sb), .second] [(.int (0 : Int32))])) _
          show Steps p.tables e below (s₁.setTop (mkF m 32 #[.val (.long pa), .second, .val (.long sa), .second, .val (.long pb), .second, .val (.long sb), .second] [(.int (0 : Int32))])) t_
          exact k_)
        exact ⟨s₁, X0, e0, fun t_ k_ => s7 t_ (castTop (by simp only [if_neg h5]) k_)⟩)
    obtain ⟨fs, hr, hrun, hended, hW, hsame⟩ := X4.leave (v := some (.int (nar .boolean (if (lcmpW sa sb) < (0 : Int32) then (1 : Int32) else (0 : Int32))))) (fun h => by rw [Bd.returns] at h; cases h)
    refine ⟨_, _, s4 _ ?_, hrun, hended, _, _, rfl, ?_, ⟨_, rfl⟩, hW, hsame.mono (by decide) (by decide)⟩
    · show Steps p.tables e below (T4.setTop (mkF m 32 #[.val (.long pa), .second, .val (.long sa), .second, .val (.long pb), .second, .val (.long sb), .second] [(.int (if (lcmpW sa sb) < (0 : Int32) then (1 : Int32) else (0 : Int32)))])) _
      exact retN X4 hx (t := .boolean) Bd.returns (by simp) (Jvm.hb hby d_method_3_32) hr
    · show Q_rmSm Z _ _ _ _ h0 n0 _ T4.heap _
      rw [e4]
      exact ⟨(by first | rfl | (simp only [if_pos h2]; done) | (simp only [if_pos h2]; rfl) | (simp only [if_pos h2, own_narb]; done)), N0, rfl⟩
  · have s8 : ∀ t_, Steps p.tables e below (s₁.setTop (mkF m 11 #[.val (.long pa), .second, .val (.long sa), .second, .val (.long pb), .second, .val (.long sb), .second] [(.int (lcmpW pa pb))])) t_ → Steps p.tables e below (s₁.setTop (entryFrame m #[(.long pa), (.long sa), (.long pb), (.long sb)] 8)) t_ := fun t_ k_ => s1 t_ (by
      show Steps p.tables e below (s₁.setTop (mkF m 4 #[.val (.long pa), .second, .val (.long sa), .second, .val (.long pb), .second, .val (.long sb), .second] [(.int (lcmpW pa pb))])) t_
      refine XS.ifNo X0.here hx rfl (Jvm.hb hby d_method_3_4) rfl ((if0 _ _).trans (feq h2).1) ?_
      show Steps p.tables e below (s₁.setTop (mkF m 7 #[.val (.long pa), .second, .val (.long sa), .second, .val (.long pb), .second, .val (.long sb), .second] [])) _
      refine XS.lloadN X0.here hx rfl (Jvm.hb hby d_method_3_7) rfl ?_
      show Steps p.tables e below (s₁.setTop (mkF m 8 #[.val (.long pa), .second, .val (.long sa), .second, .val (.long pb), .second, .val (.long sb), .second] [(.long pa)])) _
      refine XS.lload X0.here hx rfl (Jvm.hb hby d_method_3_8) rfl ?_
      show Steps p.tables e below (s₁.setTop (mkF m 10 #[.val (.long pa), .second, .val (.long sa), .second, .val (.long pb), .second, .val (.long sb), .second] [(.long pb), (.long pa)])) _
      refine XS.lcmp X0.here hx rfl (Jvm.hb hby d_method_3_10) rfl ?_
      show Steps p.tables e below (s₁.setTop (mkF m 11 #[.val (.long pa), .second, .val (.long sa), .second, .val (.long pb), .second, .val (.long sb), .second] [(.int (lcmpW pa pb))])) _
      show Steps p.tables e below (s₁.setTop (mkF m 11 #[.val (.long pa), .second, .val (.long sa), .second, .val (.long pb), .second, .val (.long sb), .second] [(.int (lcmpW pa pb))])) t_
      exact k_)
    obtain ⟨T9, X9, e9, s9⟩ := seg X0 (fun T' => T'.heap = h0 ∧ ∀ t_, Steps p.tables e below (T'.setTop (mkF m 19 #[.val (.long pa), .second, .val (.long sa), .second, .val (.long pb), .second, .val (.long sb), .second] [(.int (if (lcmpW pa pb) < (0 : Int32) then (1 : Int32) else (0 : Int32)))])) t_ → Steps p.tables e below (s₁.setTop (entryFrame m #[(.long pa), (.long sa), (.long pb), (.long sb)] 8)) t_) (by
      by_cases h10 : (lcmpW pa pb) < (0 : Int32)
      · have s11 : ∀ t_, Steps p.tables e below (s₁.setTop (mkF m 19 #[.val (.long pa), .second, .val (.long sa), .second, .val (.long pb), .second, .val (.long sb), .second] [(.int (1 : Int32))])) t_ → Steps p.tables e below (s₁.setTop (entryFrame m #[(.long pa), (.long sa), (.long pb), (.long sb)] 8)) t_ := fun t_ k_ => s8 t_ (by
          show Steps p.tables e below (s₁.setTop (mkF m 11 #[.val (.long pa), .second, .val (.long sa), .second, .val (.long pb), .second, .val (.long sb), .second] [(.int (lcmpW pa pb))])) t_
          refine XS.ifNo X0.here hx rfl (Jvm.hb hby d_method_3_11) rfl ((if0 _ _).trans (tlt h10).2.1) ?_
          show Steps p.tables e below (s₁.setTop (mkF m 14 #[.val (.long pa), .second, .val (.long sa), .second, .val (.long pb), .second, .val (.long sb), .second] [])) _
          refine XS.iconst X0.here hx rfl (Jvm.hb hby d_method_3_14) ?_
          show Steps p.tables e below (s₁.setTop (mkF m 15 #[.val (.long pa), .second, .val (.long sa), .second, .val (.long pb), .second, .val (.long sb), .second] [(.int (1 : Int32))])) _
          refine XS.goto X0.here hx rfl (pc0 := 15) (pc' := 19) rfl (Jvm.hb hby d_method_3_15) (by decide) (by decide) ?_
          show Steps p.tables e below (s₁.setTop (mkF m 19 #[.val (.long pa), .second, .val (.long sa), .second, .val (.long pb), .second, .val (.long sb), .second] [(.int (1 : Int32))])) _
          show Steps p.tables e below (s₁.setTop (mkF m 19 #[.val (.long pa), .second, .val (.long sa), .second, .val (.long pb), .second, .val (.long sb), .second] [(.int (1 : Int32))])) t_
          exact k_)
        exact ⟨s₁, X0, e0, fun t_ k_ => s11 t_ (castTop (by simp only [if_pos h10]) k_)⟩
      · have s12 : ∀ t_, Steps p.tables e below (s₁.setTop (mkF m 19 #[.val (.long pa), .second, .val (.long sa), .second, .val (.long pb), .second, .val (.long sb), .second] [(.int (0 : Int32))])) t_ → Steps p.tables e below (s₁.setTop (entryFrame m #[(.long pa), (.long sa), (.long pb), (.long sb)] 8)) t_ := fun t_ k_ => s8 t_ (by
          show Steps p.tables e below (s₁.setTop (mkF m 11 #[.val (.long pa), .second, .val (.long sa), .second, .val (.long pb), .second, .val (.long sb), .second] [(.int (lcmpW pa pb))])) t_
          refine XS.ifYes X0.here hx rfl (pc0 := 11) (pc' := 18) rfl (Jvm.hb hby d_method_3_11) rfl ((if0 _ _).trans (flt h10).2.1) (by decide) (by decide) ?_
          show Steps p.tables e below (s₁.setTop (mkF m 18 #[.val (.long pa), .second, .val (.long sa), .second, .val (.long pb), .second, .val (.long sb), .second] [])) _
          refine XS.iconst X0.here hx rfl (Jvm.hb hby d_method_3_18) ?_
          show Steps p.tables e below (s₁.setTop (mkF m 19 #[.val (.long pa), .second, .val (.long sa), .second, .val (.long pb), .second, .val (.long sb), .second] [(.int (0 : Int32))])) _
          show Steps p.tables e below (s₁.setTop (mkF m 19 #[.val (.long pa), .second, .val (.long sa), .second, .val (.long pb), .second, .val (.long sb), .second] [(.int (0 : Int32))])) t_
          exact k_)
        exact ⟨s₁, X0, e0, fun t_ k_ => s12 t_ (castTop (by simp only [if_neg h10]) k_)⟩)
    obtain ⟨fs, hr, hrun, hended, hW, hsame⟩ := X9.leave (v := some (.int (nar .boolean (if (lcmpW pa pb) < (0 : Int32) then (1 : Int32) else (0 : Int32))))) (fun h => by rw [Bd.returns] at h; cases h)
    refine ⟨_, _, s9 _ ?_, hrun, hended, _, _, rfl, ?_, ⟨_, rfl⟩, hW, hsame.mono (by decide) (by decide)⟩
    · show Steps p.tables e below (T9.setTop (mkF m 19 #[.val (.long pa), .second, .val (.long sa), .second, .val (.long pb), .second, .val (.long sb), .second] [(.int (if (lcmpW pa pb) < (0 : Int32) then (1 : Int32) else (0 : Int32)))])) _
      exact retN X9 hx (t := .boolean) Bd.returns (by simp) (Jvm.hb hby d_method_3_19) hr
    · show Q_rmSm Z _ _ _ _ h0 n0 _ T9.heap _
      rw [e9]
      exact ⟨(by first | rfl | (simp only [if_neg h2]; done) | (simp only [if_neg h2]; rfl) | (simp only [if_neg h2, own_narb]; done)), N0, rfl⟩
theorem pd__JJ_V : parseMethodDescriptor "(JJ)V" = some ⟨[.long, .long], none⟩ := by decide +kernel
theorem pd__Lcom_example_cloudlet_siting_cloudletsiting_planning_FixedCountCloudlets_Measure_Lcom_example_cloudlet_siting_cloudletsiting_model_Objective__Z : parseMethodDescriptor "(Lcom/example/cloudlet_siting/cloudletsiting/planning/FixedCountCloudlets$Measure;Lcom/example/cloudlet_siting/cloudletsiting/model/Objective;)Z" = some ⟨[(.object "com/example/cloudlet_siting/cloudletsiting/planning/FixedCountCloudlets$Measure"), (.object "com/example/cloudlet_siting/cloudletsiting/model/Objective")], some .boolean⟩ := by decide +kernel
theorem pd__JJJJ_Z : parseMethodDescriptor "(JJJJ)Z" = some ⟨[.long, .long, .long, .long], some .boolean⟩ := by decide +kernel
theorem ef_rmLaw (m : MethodId) (x0 : Int64) (x1 : Int64) (x2 : Int64) (x3 : Int64) (x4 : Int32) : entryFrame m #[(.long x0), (.long x1), (.long x2), (.long x3), (.int x4)] maxLocals = mkF m 0 #[.val (.long x0), .second, .val (.long x1), .second, .val (.long x2), .second, .val (.long x3), .second, .val (.int x4), .unset, .unset, .unset, .unset, .unset, .unset, .unset, .unset, .unset, .unset, .unset, .unset, .unset, .unset, .unset, .unset, .unset, .unset, .unset, .unset, .unset] [] := by first | (simp [entryFrame, mkF, argsToLocals, Value.category, maxLocals]; done) | rfl
def Q_rmLaw (Z : State) (ta : Int64) (la : Int64) (tb : Int64) (lb : Int64) (sel : Int32) (mean : Addr) (max : Addr) (h0 : Heap) (n0 : Nat) (v : Option Value) (h : Heap) (L : List Loc) : Prop := v = some (.int 1) ∧ Fr n0 L
set_option maxRecDepth 65536 in
set_option maxHeartbeats 40000000 in
theorem rmLaw (l : Launch) (Z : State) (a0 : Array Value) (hw : ∀ d ∈ tables_1, d.before a0 Z = true) (ws : List Jvm.Cond) (ta : Int64) (la : Int64) (tb : Int64) (lb : Int64) (sel : Int32) (mean : Addr) (max : Addr) (h0 : Heap) (n0 : Nat) (Z0 : n0 ≤ h0.size) (I1 : Sta Z Z.heap "com/example/cloudlet_siting/cloudletsiting/model/Objective" "MEAN" "Lcom/example/cloudlet_siting/cloudletsiting/model/Objective;" (.ref mean)) (I2 : Sta Z Z.heap "com/example/cloudlet_siting/cloudletsiting/model/Objective" "MAX" "Lcom/example/cloudlet_siting/cloudletsiting/model/Objective;" (.ref max)) (OX : Old Z n0 h0) (hne : @Ne Nat max mean) :
    MetFree l x (head1 (Jvm.Cond.code x code maxLocals ret :: ws) room_1) (fun ar_ U => ar_ = #[(.long ta), (.long la), (.long tb), (.long lb), (.int sel)] ∧ Z.Warmed39 U.vm ∧ U.heap = h0) (fun _ _ _ _ _ => True) (fun _ U o U' => ∃ v L, o = .returned v ∧ Q_rmLaw Z ta la tb lb sel mean max h0 n0 v U'.heap L ∧ FrameEnd U o U' L room_1.cells room_1.slots) := by
  refine MetFree.of_bodySF (plainFor_of_name pn_com_example_cloudlet_siting_cloudletsiting_planning_MeasureIsBetterThanPinLaw) hisR ?_
  intro p e s m args below meth c s₁ Bd hml0 hP hK
  obtain ⟨rfl, hZ, hh⟩ := hP
  have hx := Bd.exec
  have hby := Bd.bytes
  have hml : c.maxLocals = 30 := hml0
  have hown : s.vm.findClass "com/example/cloudlet_siting/cloudletsiting/planning/MeasureIsBetterThanPinLaw" = some m.cls := findClass_of_methodNamed Bd.named
  have hnm := (name_of_methodNamed Bd.named Bd.method).1
  have X0 : Stand p l e room_1 s m #[(.long ta), (.long la), (.long tb), (.long lb), (.int sel)] below meth c s₁ [] 0 0 := Stand.of_body Bd
  have e0 : s₁.heap = h0 := by rw [← hh, Bd.state]; rfl
  have N0 := Fr.nil n0
  have pre0 : ∀ t_, Steps p.tables e below (s₁.setTop (mkF m 0 #[.val (.long ta), .second, .val (.long la), .second, .val (.long tb), .second, .val (.long lb), .second, .val (.int sel), .unset, .unset, .unset, .unset, .unset, .unset, .unset, .unset, .unset, .unset, .unset, .unset, .unset, .unset, .unset, .unset, .unset, .unset, .unset, .unset, .unset] [])) t_ → Steps p.tables e below (s₁.setTop (entryFrame m #[(.long ta), (.long la), (.long tb), (.long lb), (.int sel)] maxLocals)) t_ := fun t_ k_ => castTop (ef_rmLaw m ta la tb lb sel) k_
  obtain ⟨q1, hq1⟩ : ∃ z : Int32, z = (sel &&& (1 : Int32)) := ⟨_, rfl⟩
  have s2 : ∀ t_, Steps p.tables e below (s₁.setTop (mkF m 4 #[.val (.long ta), .second, .val (.long la), .second, .val (.long tb), .second, .val (.long lb), .second, .val (.int sel), .unset, .unset, .unset, .unset, .unset, .unset, .unset, .unset, .unset, .unset, .unset, .unset, .unset, .unset, .unset, .unset, .unset, .unset, .unset, .unset, .unset] [(.int q1)])) t_ → Steps p.tables e below (s₁.setTop (entryFrame m #[(.long ta), (.long la), (.long tb), (.long lb), (.int sel)] maxLocals)) t_ := fun t_ k_ => pre0 t_ (by
    show Steps p.tables e below (s₁.setTop (mkF m 0 #[.val (.long ta), .second, .val (.long la), .second, .val (.long tb), .second, .val (.long lb), .second, .val (.int sel), .unset, .unset, .unset, .unset, .unset, .unset, .unset, .unset, .unset, .unset, .unset, .unset, .unset, .unset, .unset, .unset, .unset, .unset, .unset, .unset, .unset] [])) t_
    refine XS.iload X0.here hx rfl (Jvm.hb hby at_0) rfl ?_
    show Steps p.tables e below (s₁.setTop (mkF m 2 #[.val (.long ta), .second, .val (.long la), .second, .val (.long tb), .second, .val (.long lb), .second, .val (.int sel), .unset, .unset, .unset, .unset, .unset, .unset, .unset, .unset, .unset, .unset, .unset, .unset, .unset, .unset, .unset, .unset, .unset, .unset, .unset, .unset, .unset] [(.int sel)])) _
    refine XS.iconst X0.here hx rfl (Jvm.hb hby at_2) ?_
    show Steps p.tables e below (s₁.setTop (mkF m 3 #[.val (.long ta), .second, .val (.long la), .second, .val (.long tb), .second, .val (.long lb), .second, .val (.int sel), .unset, .unset, .unset, .unset, .unset, .unset, .unset, .unset, .unset, .unset, .unset, .unset, .unset, .unset, .unset, .unset, .unset, .unset, .unset, .unset, .unset] [(.int (1 : Int32)), (.int sel)])) _
    refine XS.iand X0.here hx rfl (Jvm.hb hby at_3) rfl ?_
    show Steps p.tables e below (s₁.setTop (mkF m 4 #[.val (.long ta), .second, .val (.long la), .second, .val (.long tb), .second, .val (.long lb), .second, .val (.int sel), .unset, .unset, .unset, .unset, .unset, .unset, .unset, .unset, .unset, .unset, .unset, .unset, .unset, .unset, .unset, .unset, .unset, .unset, .unset, .unset, .unset] [(.int (sel &&& (1 : Int32)))])) _
    exact castTop (by simp only [hq1]) k_)
  obtain ⟨q3, hq3⟩ : ∃ z : Int32, z = (if q1 = (0 : Int32) then (0 : Int32) else (1 : Int32)) := ⟨_, rfl⟩
  obtain ⟨T4, X4, e4, s4⟩ := seg X0 (fun T' => T'.heap = h0 ∧ ∀ t_, Steps p.tables e below (T'.setTop (mkF m 12 #[.val (.long ta), .second, .val (.long la), .second, .val (.long tb), .second, .val (.long lb), .second, .val (.int sel), .unset, .unset, .unset, .unset, .unset, .unset, .unset, .unset, .unset, .unset, .unset, .unset, .unset, .unset, .unset, .unset, .unset, .unset, .unset, .unset, .unset] [(.int q3)])) t_ → Steps p.tables e below (s₁.setTop (entryFrame m #[(.long ta), (.long la), (.long tb), (.long lb), (.int sel)] maxLocals)) t_) (by
    by_cases h5 : q1 = (0 : Int32)
    · have s6 : ∀ t_, Steps p.tables e below (s₁.setTop (mkF m 12 #[.val (.long ta), .second, .val (.long la), .second, .val (.long tb), .second, .val (.long lb), .second, .val (.int sel), .unset, .unset, .unset, .unset, .unset, .unset, .unset, .unset, .unset, .unset, .unset, .unset, .unset, .unset, .unset, .unset, .unset, .unset, .unset, .unset, .unset] [(.int (0 : Int32))])) t_ → Steps p.tables e below (s₁.setTop (entryFrame m #[(.long ta), (.long la), (.long tb), (.long lb), (.int sel)] maxLocals)) t_ := fun t_ k_ => s2 t_ (by
        show Steps p.tables e below (s₁.setTop (mkF m 4 #[.val (.long ta), .second, .val (.long la), .second, .val (.long tb), .second, .val (.long lb), .second, .val (.int sel), .unset, .unset, .unset, .unset, .unset, .unset, .unset, .unset, .unset, .unset, .unset, .unset, .unset, .unset, .unset, .unset, .unset, .unset, .unset, .unset, .unset] [(.int q1)])) t_
        refine XS.ifYes X0.here hx rfl (pc0 := 4) (pc' := 11) rfl (Jvm.hb hby at_4) rfl ((if0 _ _).trans (teq h5).1) (by decide) (by decide) ?_
        show Steps p.tables e below (s₁.setTop (mkF m 11 #[.val (.long ta), .second, .val (.long la), .second, .val (.long tb), .second, .val (.long lb), .second, .val (.int sel), .unset, .unset, .unset, .unset, .unset, .unset, .unset, .unset, .unset, .unset, .unset, .unset, .unset, .unset, .unset, .unset, .unset, .unset, .unset, .unset, .unset] [])) _
        refine XS.iconst X0.here hx rfl (Jvm.hb hby at_11) ?_
        show Steps p.tables e below (s₁.setTop (mkF m 12 #[.val (.long ta), .second, .val (.long la), .second, .val (.long tb), .second, .val (.long lb), .second, .val (.int sel), .unset, .unset, .unset, .unset, .unset, .unset, .unset, .unset, .unset, .unset, .unset, .unset, .unset, .unset, .unset, .unset, .unset, .unset, .unset, .unset, .unset] [(.int (0 : Int32))])) _
        show Steps p.tables e below (s₁.setTop (mkF m 12 #[.val (.long ta), .second, .val (.long la), .second, .val (.long tb), .second, .val (.long lb), .second, .val (.int sel), .unset, .unset, .unset, .unset, .unset, .unset, .unset, .unset, .unset, .unset, .unset, .unset, .unset, .unset, .unset, .unset, .unset, .unset, .unset, .unset, .unset] [(.int (0 : Int32))])) t_
        exact k_)
      exact ⟨s₁, X0, e0, fun t_ k_ => s6 t_ (castTop (by simp only [hq3, if_pos h5]) k_)⟩
    · have s7 : ∀ t_, Steps p.tables e below (s₁.setTop (mkF m 12 #[.val (.long ta), .second, .val (.long la), .second, .val (.long tb), .second, .val (.long lb), .second, .val (.int sel), .unset, .unset, .unset, .unset, .unset, .unset, .unset, .unset, .unset, .unset, .unset, .unset, .unset, .unset, .unset, .unset, .unset, .unset, .unset, .unset, .unset] [(.int (1 : Int32))])) t_ → Steps p.tables e below (s₁.setTop (entryFrame m #[(.long ta), (.long la), (.long tb), (.long lb), (.int sel)] maxLocals)) t_ := fun t_ k_ => s2 t_ (by
        show Steps p.tables e below (s₁.setTop (mkF m 4 #[.val (.long ta), .second, .val (.long la), .second, .val (.long tb), .second, .val (.long lb), .second, .val (.int sel), .unset, .unset, .unset, .unset, .unset, .unset, .unset, .unset, .unset, .unset, .unset, .unset, .unset, .unset, .unset, .unset, .unset, .unset, .unset, .unset, .unset] [(.int q1)])) t_
        refine XS.ifNo X0.here hx rfl (Jvm.hb hby at_4) rfl ((if0 _ _).trans (feq h5).1) ?_
        show Steps p.tables e below (s₁.setTop (mkF m 7 #[.val (.long ta), .second, .val (.long la), .second, .val (.long tb), .second, .val (.long lb), .second, .val (.int sel), .unset, .unset, .unset, .unset, .unset, .unset, .unset, .unset, .unset, .unset, .unset, .unset, .unset, .unset, .unset, .unset, .unset, .unset, .unset, .unset, .unset] [])) _
        refine XS.iconst X0.here hx rfl (Jvm.hb hby at_7) ?_
        show Steps p.tables e below (s₁.setTop (mkF m 8 #[.val (.long ta), .second, .val (.long la), .second, .val (.long tb), .second, .val (.long lb), .second, .val (.int sel), .unset, .unset, .unset, .unset, .unset, .unset, .unset, .unset, .unset, .unset, .unset, .unset, .unset, .unset, .unset, .unset, .unset, .unset, .unset, .unset, .unset] [(.int (1 : Int32))])) _
        refine XS.goto X0.here hx rfl (pc0 := 8) (pc' := 12) rfl (Jvm.hb hby at_8) (by decide) (by decide) ?_
        show Steps p.tables e below (s₁.setTop (mkF m 12 #[.val (.long ta), .second, .val (.long la), .second, .val (.long tb), .second, .val (.long lb), .second, .val (.int sel), .unset, .unset, .unset, .unset, .unset, .unset, .unset, .unset, .unset, .unset, .unset, .unset, .unset, .unset, .unset, .unset, .unset, .unset, .unset, .unset, .unset] [(.int (1 : Int32))])) _
        show Steps p.tables e below (s₁.setTop (mkF m 12 #[.val (.long ta), .second, .val (.long la), .second, .val (.long tb), .second, .val (.long lb), .second, .val (.int sel), .unset, .unset, .unset, .unset, .unset, .unset, .unset, .unset, .unset, .unset, .unset, .unset, .unset, .unset, .unset, .unset, .unset, .unset, .unset, .unset, .unset] [(.int (1 : Int32))])) t_
        exact k_)
      exact ⟨s₁, X0, e0, fun t_ k_ => s7 t_ (castTop (by simp only [hq3, if_neg h5]) k_)⟩)
  obtain ⟨q8, hq8⟩ : ∃ z : Int32, z = (sel &&& (2 : Int32)) := ⟨_, rfl⟩
  have s9 : ∀ t_, Steps p.tables e below (T4.setTop (mkF m 18 #[.val (.long ta), .second, .val (.long la), .second, .val (.long tb), .second, .val (.long lb), .second, .val (.int sel), .val (.int q3), .unset, .unset, .unset, .unset, .unset, .unset, .unset, .unset, .unset, .unset, .unset, .unset, .unset, .unset, .unset, .unset, .unset, .unset, .unset, .unset] [(.int q8)])) t_ → Steps p.tables e below (s₁.setTop (entryFrame m #[(.long ta), (.long la), (.long tb), (.long lb), (.int sel)] maxLocals)) t_ := fun t_ k_ => s4 t_ (by
    show Steps p.tables e below (T4.setTop (mkF m 12 #[.val (.long ta), .second, .val (.long la), .second, .val (.long tb), .second, .val (.long lb), .second, .val (.int sel), .unset, .unset, .unset, .unset, .unset, .unset, .unset, .unset, .unset, .unset, .unset, .unset, .unset, .unset, .unset, .unset, .unset, .unset, .unset, .unset, .unset] [(.int q3)])) t_
    refine XS.istore X4.here hx rfl (Jvm.hb hby at_12) rfl (l' := #[.val (.long ta), .second, .val (.long la), .second, .val (.long tb), .second, .val (.long lb), .second, .val (.int sel), .val (.int q3), .unset, .unset, .unset, .unset, .unset, .unset, .unset, .unset, .unset, .unset, .unset, .unset, .unset, .unset, .unset, .unset, .unset, .unset, .unset, .unset]) rfl ?_
    show Steps p.tables e below (T4.setTop (mkF m 14 #[.val (.long ta), .second, .val (.long la), .second, .val (.long tb), .second, .val (.long lb), .second, .val (.int sel), .val (.int q3), .unset, .unset, .unset, .unset, .unset, .unset, .unset, .unset, .unset, .unset, .unset, .unset, .unset, .unset, .unset, .unset, .unset, .unset, .unset, .unset] [])) _
    refine XS.iload X4.here hx rfl (Jvm.hb hby at_14) rfl ?_
    show Steps p.tables e below (T4.setTop (mkF m 16 #[.val (.long ta), .second, .val (.long la), .second, .val (.long tb), .second, .val (.long lb), .second, .val (.int sel), .val (.int q3), .unset, .unset, .unset, .unset, .unset, .unset, .unset, .unset, .unset, .unset, .unset, .unset, .unset, .unset, .unset, .unset, .unset, .unset, .unset, .unset] [(.int sel)])) _
    refine XS.iconst X4.here hx rfl (Jvm.hb hby at_16) ?_
    show Steps p.tables e below (T4.setTop (mkF m 17 #[.val (.long ta), .second, .val (.long la), .second, .val (.long tb), .second, .val (.long lb), .second, .val (.int sel), .val (.int q3), .unset, .unset, .unset, .unset, .unset, .unset, .unset, .unset, .unset, .unset, .unset, .unset, .unset, .unset, .unset, .unset, .unset, .unset, .unset, .unset] [(.int (2 : Int32)), (.int sel)])) _
    refine XS.iand X4.here hx rfl (Jvm.hb hby at_17) rfl ?_
    show Steps p.tables e below (T4.setTop (mkF m 18 #[.val (.long ta), .second, .val (.long la), .second, .val (.long tb), .second, .val (.long lb), .second, .val (.int sel), .val (.int q3), .unset, .unset, .unset, .unset, .unset, .unset, .unset, .unset, .unset, .unset, .unset, .unset, .unset, .unset, .unset, .unset, .unset, .unset, .unset, .unset] [(.int (sel &&& (2 : Int32)))])) _
    exact castTop (by simp only [hq8]) k_)
  obtain ⟨q10, hq10⟩ : ∃ z : Int64, z = (if q8 = (0 : Int32) then tb else ta) := ⟨_, rfl⟩
  obtain ⟨T11, X11, e11, s11⟩ := seg X4 (fun T' => T'.heap = h0 ∧ ∀ t_, Steps p.tables e below (T'.setTop (mkF m 27 #[.val (.long ta), .second, .val (.long la), .second, .val (.long tb), .second, .val (.long lb), .second, .val (.int sel), .val (.int q3), .unset, .unset, .unset, .unset, .unset, .unset, .unset, .unset, .unset, .unset, .unset, .unset, .unset, .unset, .unset, .unset, .unset, .unset, .unset, .unset] [(.long q10)])) t_ → Steps p.tables e below (s₁.setTop (entryFrame m #[(.long ta), (.long la), (.long tb), (.long lb), (.int sel)] maxLocals)) t_) (by
    by_cases h12 : q8 = (0 : Int32)
    · have s13 : ∀ t_, Steps p.tables e below (T4.setTop (mkF m 27 #[.val (.long ta), .second, .val (.long la), .second, .val (.long tb), .second, .val (.long lb), .second, .val (.int sel), .val (.int q3), .unset, .unset, .unset, .unset, .unset, .unset, .unset, .unset, .unset, .unset, .unset, .unset, .unset, .unset, .unset, .unset, .unset, .unset, .unset, .unset] [(.long tb)])) t_ → Steps p.tables e below (s₁.setTop (entryFrame m #[(.long ta), (.long la), (.long tb), (.long lb), (.int sel)] maxLocals)) t_ := fun t_ k_ => s9 t_ (by
        show Steps p.tables e below (T4.setTop (mkF m 18 #[.val (.long ta), .second, .val (.long la), .second, .val (.long tb), .second, .val (.long lb), .second, .val (.int sel), .val (.int q3), .unset, .unset, .unset, .unset, .unset, .unset, .unset, .unset, .unset, .unset, .unset, .unset, .unset, .unset, .unset, .unset, .unset, .unset, .unset, .unset] [(.int q8)])) t_
        refine XS.ifYes X4.here hx rfl (pc0 := 18) (pc' := 25) rfl (Jvm.hb hby at_18) rfl ((if0 _ _).trans (teq h12).1) (by decide) (by decide) ?_
        show Steps p.tables e below (T4.setTop (mkF m 25 #[.val (.long ta), .second, .val (.long la), .second, .val (.long tb), .second, .val (.long lb), .second, .val (.int sel), .val (.int q3), .unset, .unset, .unset, .unset, .unset, .unset, .unset, .unset, .unset, .unset, .unset, .unset, .unset, .unset, .unset, .unset, .unset, .unset, .unset, .unset] [])) _
        refine XS.lload X4.here hx rfl (Jvm.hb hby at_25) rfl ?_
        show Steps p.tables e below (T4.setTop (mkF m 27 #[.val (.long ta), .second, .val (.long la), .second, .val (.long tb), .second, .val (.long lb), .second, .val (.int sel), .val (.int q3), .unset, .unset, .unset, .unset, .unset, .unset, .unset, .unset, .unset, .unset, .unset, .unset, .unset, .unset, .unset, .unset, .unset, .unset, .unset, .unset] [(.long tb)])) _
        show Steps p.tables e below (T4.setTop (mkF m 27 #[.val (.long ta), .second, .val (.long la), .second, .val (.long tb), .second, .val (.long lb), .second, .val (.int sel), .val (.int q3), .unset, .unset, .unset, .unset, .unset, .unset, .unset, .unset, .unset, .unset, .unset, .unset, .unset, .unset, .unset, .unset, .unset, .unset, .unset, .unset] [(.long tb)])) t_
        exact k_)
      exact ⟨T4, X4, e4, fun t_ k_ => s13 t_ (castTop (by simp only [hq10, if_pos h12]) k_)⟩
    · have s14 : ∀ t_, Steps p.tables e below (T4.setTop (mkF m 27 #[.val (.long ta), .second, .val (.long la), .second, .val (.long tb), .second, .val (.long lb), .second, .val (.int sel), .val (.int q3), .unset, .unset, .unset, .unset, .unset, .unset, .unset, .unset, .unset, .unset, .unset, .unset, .unset, .unset, .unset, .unset, .unset, .unset, .unset, .unset] [(.long ta)])) t_ → Steps p.tables e below (s₁.setTop (entryFrame m #[(.long ta), (.long la), (.long tb), (.long lb), (.int sel)] maxLocals)) t_ := fun t_ k_ => s9 t_ (by
        show Steps p.tables e below (T4.setTop (mkF m 18 #[.val (.long ta), .second, .val (.long la), .second, .val (.long tb), .second, .val (.long lb), .second, .val (.int sel), .val (.int q3), .unset, .unset, .unset, .unset, .unset, .unset, .unset, .unset, .unset, .unset, .unset, .unset, .unset, .unset, .unset, .unset, .unset, .unset, .unset, .unset] [(.int q8)])) t_
        refine XS.ifNo X4.here hx rfl (Jvm.hb hby at_18) rfl ((if0 _ _).trans (feq h12).1) ?_
        show Steps p.tables e below (T4.setTop (mkF m 21 #[.val (.long ta), .second, .val (.long la), .second, .val (.long tb), .second, .val (.long lb), .second, .val (.int sel), .val (.int q3), .unset, .unset, .unset, .unset, .unset, .unset, .unset, .unset, .unset, .unset, .unset, .unset, .unset, .unset, .unset, .unset, .unset, .unset, .unset, .unset] [])) _
        refine XS.lloadN X4.here hx rfl (Jvm.hb hby at_21) rfl ?_
        show Steps p.tables e below (T4.setTop (mkF m 22 #[.val (.long ta), .second, .val (.long la), .second, .val (.long tb), .second, .val (.long lb), .second, .val (.int sel), .val (.int q3), .unset, .unset, .unset, .unset, .unset, .unset, .unset, .unset, .unset, .unset, .unset, .unset, .unset, .unset, .unset, .unset, .unset, .unset, .unset, .unset] [(.long ta)])) _
        refine XS.goto X4.here hx rfl (pc0 := 22) (pc' := 27) rfl (Jvm.hb hby at_22) (by decide) (by decide) ?_
        show Steps p.tables e below (T4.setTop (mkF m 27 #[.val (.long ta), .second, .val (.long la), .second, .val (.long tb), .second, .val (.long lb), .second, .val (.int sel), .val (.int q3), .unset, .unset, .unset, .unset, .unset, .unset, .unset, .unset, .unset, .unset, .unset, .unset, .unset, .unset, .unset, .unset, .unset, .unset, .unset, .unset] [(.long ta)])) _
        show Steps p.tables e below (T4.setTop (mkF m 27 #[.val (.long ta), .second, .val (.long la), .second, .val (.long tb), .second, .val (.long lb), .second, .val (.int sel), .val (.int q3), .unset, .unset, .unset, .unset, .unset, .unset, .unset, .unset, .unset, .unset, .unset, .unset, .unset, .unset, .unset, .unset, .unset, .unset, .unset, .unset] [(.long ta)])) t_
        exact k_)
      exact ⟨T4, X4, e4, fun t_ k_ => s14 t_ (castTop (by simp only [hq10, if_neg h12]) k_)⟩)
  obtain ⟨q15, hq15⟩ : ∃ z : Int32, z = (sel &&& (4 : Int32)) := ⟨_, rfl⟩
  have s16 : ∀ t_, Steps p.tables e below (T11.setTop (mkF m 33 #[.val (.long ta), .second, .val (.long la), .second, .val (.long tb), .second, .val (.long lb), .second, .val (.int sel), .val (.int q3), .val (.long q10), .second, .unset, .unset, .unset, .unset, .unset, .unset, .unset, .unset, .unset, .unset, .unset, .unset, .unset, .unset, .unset, .unset, .unset, .unset] [(.int q15)])) t_ → Steps p.tables e below (s₁.setTop (entryFrame m #[(.long ta), (.long la), (.long tb), (.long lb), (.int sel)] maxLocals)) t_ := fun t_ k_ => s11 t_ (by
    show Steps p.tables e below (T11.setTop (mkF m 27 #[.val (.long ta), .second, .val (.long la), .second, .val (.long tb), .second, .val (.long lb), .second, .val (.int sel), .val (.int q3), .unset, .unset, .unset, .unset, .unset, .unset, .unset, .unset, .unset, .unset, .unset, .unset, .unset, .unset, .unset, .unset, .unset, .unset, .unset, .unset] [(.long q10)])) t_
    refine XS.lstore X11.here hx rfl (Jvm.hb hby at_27) rfl (l' := #[.val (.long ta), .second, .val (.long la), .second, .val (.long tb), .second, .val (.long lb), .second, .val (.int sel), .val (.int q3), .val (.long q10), .second, .unset, .unset, .unset, .unset, .unset, .unset, .unset, .unset, .unset, .unset, .unset, .unset, .unset, .unset, .unset, .unset, .unset, .unset]) rfl ?_
    show Steps p.tables e below (T11.setTop (mkF m 29 #[.val (.long ta), .second, .val (.long la), .second, .val (.long tb), .second, .val (.long lb), .second, .val (.int sel), .val (.int q3), .val (.long q10), .second, .unset, .unset, .unset, .unset, .unset, .unset, .unset, .unset, .unset, .unset, .unset, .unset, .unset, .unset, .unset, .unset, .unset, .unset] [])) _
    refine XS.iload X11.here hx rfl (Jvm.hb hby at_29) rfl ?_
    show Steps p.tables e below (T11.setTop (mkF m 31 #[.val (.long ta), .second, .val (.long la), .second, .val (.long tb), .second, .val (.long lb), .second, .val (.int sel), .val (.int q3), .val (.long q10), .second, .unset, .unset, .unset, .unset, .unset, .unset, .unset, .unset, .unset, .unset, .unset, .unset, .unset, .unset, .unset, .unset, .unset, .unset] [(.int sel)])) _
    refine XS.iconst X11.here hx rfl (Jvm.hb hby at_31) ?_
    show Steps p.tables e below (T11.setTop (mkF m 32 #[.val (.long ta), .second, .val (.long la), .second, .val (.long tb), .second, .val (.long lb), .second, .val (.int sel), .val (.int q3), .val (.long q10), .second, .unset, .unset, .unset, .unset, .unset, .unset, .unset, .unset, .unset, .unset, .unset, .unset, .unset, .unset, .unset, .unset, .unset, .unset] [(.int (4 : Int32)), (.int sel)])) _
    refine XS.iand X11.here hx rfl (Jvm.hb hby at_32) rfl ?_
    show Steps p.tables e below (T11.setTop (mkF m 33 #[.val (.long ta), .second, .val (.long la), .second, .val (.long tb), .second, .val (.long lb), .second, .val (.int sel), .val (.int q3), .val (.long q10), .second, .unset, .unset, .unset, .unset, .unset, .unset, .unset, .unset, .unset, .unset, .unset, .unset, .unset, .unset, .unset, .unset, .unset, .unset] [(.int (sel &&& (4 : Int32)))])) _
    exact castTop (by simp only [hq15]) k_)
  obtain ⟨q17, hq17⟩ : ∃ z : Int64, z = (if q15 = (0 : Int32) then lb else la) := ⟨_, rfl⟩
  obtain ⟨T18, X18, e18, s18⟩ := seg X11 (fun T' => T'.heap = h0 ∧ ∀ t_, Steps p.tables e below (T'.setTop (mkF m 42 #[.val (.long ta), .second, .val (.long la), .second, .val (.long tb), .second, .val (.long lb), .second, .val (.int sel), .val (.int q3), .val (.long q10), .second, .unset, .unset, .unset, .unset, .unset, .unset, .unset, .unset, .unset, .unset, .unset, .unset, .unset, .unset, .unset, .unset, .unset, .unset] [(.long q17)])) t_ → Steps p.tables e below (s₁.setTop (entryFrame m #[(.long ta), (.long la), (.long tb), (.long lb), (.int sel)] maxLocals)) t_) (by
    by_cases h19 : q15 = (0 : Int32)
    · have s20 : ∀ t_, Steps p.tables e below (T11.setTop (mkF m 42 #[.val (.long ta), .second, .val (.long la), .second, .val (.long tb), .second, .val (.long lb), .second, .val (.int sel), .val (.int q3), .val (.long q10), .second, .unset, .unset, .unset, .unset, .unset, .unset, .unset, .unset, .unset, .unset, .unset, .unset, .unset, .unset, .unset, .unset, .unset, .unset] [(.long lb)])) t_ → Steps p.tables e below (s₁.setTop (entryFrame m #[(.long ta), (.long la), (.long tb), (.long lb), (.int sel)] maxLocals)) t_ := fun t_ k_ => s16 t_ (by
        show Steps p.tables e below (T11.setTop (mkF m 33 #[.val (.long ta), .second, .val (.long la), .second, .val (.long tb), .second, .val (.long lb), .second, .val (.int sel), .val (.int q3), .val (.long q10), .second, .unset, .unset, .unset, .unset, .unset, .unset, .unset, .unset, .unset, .unset, .unset, .unset, .unset, .unset, .unset, .unset, .unset, .unset] [(.int q15)])) t_
        refine XS.ifYes X11.here hx rfl (pc0 := 33) (pc' := 40) rfl (Jvm.hb hby at_33) rfl ((if0 _ _).trans (teq h19).1) (by decide) (by decide) ?_
        show Steps p.tables e below (T11.setTop (mkF m 40 #[.val (.long ta), .second, .val (.long la), .second, .val (.long tb), .second, .val (.long lb), .second, .val (.int sel), .val (.int q3), .val (.long q10), .second, .unset, .unset, .unset, .unset, .unset, .unset, .unset, .unset, .unset, .unset, .unset, .unset, .unset, .unset, .unset, .unset, .unset, .unset] [])) _
        refine XS.lload X11.here hx rfl (Jvm.hb hby at_40) rfl ?_
        show Steps p.tables e below (T11.setTop (mkF m 42 #[.val (.long ta), .second, .val (.long la), .second, .val (.long tb), .second, .val (.long lb), .second, .val (.int sel), .val (.int q3), .val (.long q10), .second, .unset, .unset, .unset, .unset, .unset, .unset, .unset, .unset, .unset, .unset, .unset, .unset, .unset, .unset, .unset, .unset, .unset, .unset] [(.long lb)])) _
        show Steps p.tables e below (T11.setTop (mkF m 42 #[.val (.long ta), .second, .val (.long la), .second, .val (.long tb), .second, .val (.long lb), .second, .val (.int sel), .val (.int q3), .val (.long q10), .second, .unset, .unset, .unset, .unset, .unset, .unset, .unset, .unset, .unset, .unset, .unset, .unset, .unset, .unset, .unset, .unset, .unset, .unset] [(.long lb)])) t_
        exact k_)
      exact ⟨T11, X11, e11, fun t_ k_ => s20 t_ (castTop (by simp only [hq17, if_pos h19]) k_)⟩
    · have s21 : ∀ t_, Steps p.tables e below (T11.setTop (mkF m 42 #[.val (.long ta), .second, .val (.long la), .second, .val (.long tb), .second, .val (.long lb), .second, .val (.int sel), .val (.int q3), .val (.long q10), .second, .unset, .unset, .unset, .unset, .unset, .unset, .unset, .unset, .unset, .unset, .unset, .unset, .unset, .unset, .unset, .unset, .unset, .unset] [(.long la)])) t_ → Steps p.tables e below (s₁.setTop (entryFrame m #[(.long ta), (.long la), (.long tb), (.long lb), (.int sel)] maxLocals)) t_ := fun t_ k_ => s16 t_ (by
        show Steps p.tables e below (T11.setTop (mkF m 33 #[.val (.long ta), .second, .val (.long la), .second, .val (.long tb), .second, .val (.long lb), .second, .val (.int sel), .val (.int q3), .val (.long q10), .second, .unset, .unset, .unset, .unset, .unset, .unset, .unset, .unset, .unset, .unset, .unset, .unset, .unset, .unset, .unset, .unset, .unset, .unset] [(.int q15)])) t_
        refine XS.ifNo X11.here hx rfl (Jvm.hb hby at_33) rfl ((if0 _ _).trans (feq h19).1) ?_
        show Steps p.tables e below (T11.setTop (mkF m 36 #[.val (.long ta), .second, .val (.long la), .second, .val (.long tb), .second, .val (.long lb), .second, .val (.int sel), .val (.int q3), .val (.long q10), .second, .unset, .unset, .unset, .unset, .unset, .unset, .unset, .unset, .unset, .unset, .unset, .unset, .unset, .unset, .unset, .unset, .unset, .unset] [])) _
        refine XS.lloadN X11.here hx rfl (Jvm.hb hby at_36) rfl ?_
        show Steps p.tables e below (T11.setTop (mkF m 37 #[.val (.long ta), .second, .val (.long la), .second, .val (.long tb), .second, .val (.long lb), .second, .val (.int sel), .val (.int q3), .val (.long q10), .second, .unset, .unset, .unset, .unset, .unset, .unset, .unset, .unset, .unset, .unset, .unset, .unset, .unset, .unset, .unset, .unset, .unset, .unset] [(.long la)])) _
        refine XS.goto X11.here hx rfl (pc0 := 37) (pc' := 42) rfl (Jvm.hb hby at_37) (by decide) (by decide) ?_
        show Steps p.tables e below (T11.setTop (mkF m 42 #[.val (.long ta), .second, .val (.long la), .second, .val (.long tb), .second, .val (.long lb), .second, .val (.int sel), .val (.int q3), .val (.long q10), .second, .unset, .unset, .unset, .unset, .unset, .unset, .unset, .unset, .unset, .unset, .unset, .unset, .unset, .unset, .unset, .unset, .unset, .unset] [(.long la)])) _
        show Steps p.tables e below (T11.setTop (mkF m 42 #[.val (.long ta), .second, .val (.long la), .second, .val (.long tb), .second, .val (.long lb), .second, .val (.int sel), .val (.int q3), .val (.long q10), .second, .unset, .unset, .unset, .unset, .unset, .unset, .unset, .unset, .unset, .unset, .unset, .unset, .unset, .unset, .unset, .unset, .unset, .unset] [(.long la)])) t_
        exact k_)
      exact ⟨T11, X11, e11, fun t_ k_ => s21 t_ (castTop (by simp only [hq17, if_neg h19]) k_)⟩)
  have s22 : ∀ t_, Steps p.tables e below (T18.setTop (mkF m 46 #[.val (.long ta), .second, .val (.long la), .second, .val (.long tb), .second, .val (.long lb), .second, .val (.int sel), .val (.int q3), .val (.long q10), .second, .val (.long q17), .second, .unset, .unset, .unset, .unset, .unset, .unset, .unset, .unset, .unset, .unset, .unset, .unset, .unset, .unset, .unset, .unset] [(.int q3)])) t_ → Steps p.tables e below (s₁.setTop (entryFrame m #[(.long ta), (.long la), (.long tb), (.long lb), (.int sel)] maxLocals)) t_ := fun t_ k_ => s18 t_ (by
    show Steps p.tables e below (T18.setTop (mkF m 42 #[.val (.long ta), .second, .val (.long la), .second, .val (.long tb), .second, .val (.long lb), .second, .val (.int sel), .val (.int q3), .val (.long q10), .second, .unset, .unset, .unset, .unset, .unset, .unset, .unset, .unset, .unset, .unset, .unset, .unset, .unset, .unset, .unset, .unset, .unset, .unset] [(.long q17)])) t_
    refine XS.lstore X18.here hx rfl (Jvm.hb hby at_42) rfl (l' := #[.val (.long ta), .second, .val (.long la), .second, .val (.long tb), .second, .val (.long lb), .second, .val (.int sel), .val (.int q3), .val (.long q10), .second, .val (.long q17), .second, .unset, .unset, .unset, .unset, .unset, .unset, .unset, .unset, .unset, .unset, .unset, .unset, .unset, .unset, .unset, .unset]) rfl ?_
    show Steps p.tables e below (T18.setTop (mkF m 44 #[.val (.long ta), .second, .val (.long la), .second, .val (.long tb), .second, .val (.long lb), .second, .val (.int sel), .val (.int q3), .val (.long q10), .second, .val (.long q17), .second, .unset, .unset, .unset, .unset, .unset, .unset, .unset, .unset, .unset, .unset, .unset, .unset, .unset, .unset, .unset, .unset] [])) _
    refine XS.iload X18.here hx rfl (Jvm.hb hby at_44) rfl ?_
    show Steps p.tables e below (T18.setTop (mkF m 46 #[.val (.long ta), .second, .val (.long la), .second, .val (.long tb), .second, .val (.long lb), .second, .val (.int sel), .val (.int q3), .val (.long q10), .second, .val (.long q17), .second, .unset, .unset, .unset, .unset, .unset, .unset, .unset, .unset, .unset, .unset, .unset, .unset, .unset, .unset, .unset, .unset] [(.int q3)])) _
    show Steps p.tables e below (T18.setTop (mkF m 46 #[.val (.long ta), .second, .val (.long la), .second, .val (.long tb), .second, .val (.long lb), .second, .val (.int sel), .val (.int q3), .val (.long q10), .second, .val (.long q17), .second, .unset, .unset, .unset, .unset, .unset, .unset, .unset, .unset, .unset, .unset, .unset, .unset, .unset, .unset, .unset, .unset] [(.int q3)])) t_
    exact k_)
  obtain ⟨T23, X23, e23, s23⟩ := seg X18 (fun T' => T'.heap = h0 ∧ ∀ t_, Steps p.tables e below (T'.setTop (mkF m 58 #[.val (.long ta), .second, .val (.long la), .second, .val (.long tb), .second, .val (.long lb), .second, .val (.int sel), .val (.int q3), .val (.long q10), .second, .val (.long q17), .second, .unset, .unset, .unset, .unset, .unset, .unset, .unset, .unset, .unset, .unset, .unset, .unset, .unset, .unset, .unset, .unset] [(.ref (if q3 = (0 : Int32) then max else mean))])) t_ → Steps p.tables e below (s₁.setTop (entryFrame m #[(.long ta), (.long la), (.long tb), (.long lb), (.int sel)] maxLocals)) t_) (by
    by_cases h24 : q3 = (0 : Int32)
    · obtain ⟨T25, X25, e25, st25⟩ := getS2 X18 hx hZ hown (host := "") (Or.inl (hw _ (List.mem_of_getElem? (i := 31) rfl))) Via.refl e18 (I2.ext OX.2) (g := (mkF m 55 #[.val (.long ta), .second, .val (.long la), .second, .val (.long tb), .second, .val (.long lb), .second, .val (.int sel), .val (.int q3), .val (.long q10), .second, .val (.long q17), .second, .unset, .unset, .unset, .unset, .unset, .unset, .unset, .unset, .unset, .unset, .unset, .unset, .unset, .unset, .unset, .unset] [])) rfl (Jvm.hb hby at_55)
      have s26 : ∀ t_, Steps p.tables e below (T25.setTop (mkF m 58 #[.val (.long ta), .second, .val (.long la), .second, .val (.long tb), .second, .val (.long lb), .second, .val (.int sel), .val (.int q3), .val (.long q10), .second, .val (.long q17), .second, .unset, .unset, .unset, .unset, .unset, .unset, .unset, .unset, .unset, .unset, .unset, .unset, .unset, .unset, .unset, .unset] [(.ref max)])) t_ → Steps p.tables e below (s₁.setTop (entryFrame m #[(.long ta), (.long la), (.long tb), (.long lb), (.int sel)] maxLocals)) t_ := fun t_ k_ => s22 t_ (by
        show Steps p.tables e below (T18.setTop (mkF m 46 #[.val (.long ta), .second, .val (.long la), .second, .val (.long tb), .second, .val (.long lb), .second, .val (.int sel), .val (.int q3), .val (.long q10), .second, .val (.long q17), .second, .unset, .unset, .unset, .unset, .unset, .unset, .unset, .unset, .unset, .unset, .unset, .unset, .unset, .unset, .unset, .unset] [(.int q3)])) t_
        refine XS.ifYes X18.here hx rfl (pc0 := 46) (pc' := 55) rfl (Jvm.hb hby at_46) rfl ((if0 _ _).trans (teq h24).1) (by decide) (by decide) ?_
        show Steps p.tables e below (T18.setTop (mkF m 55 #[.val (.long ta), .second, .val (.long la), .second, .val (.long tb), .second, .val (.long lb), .second, .val (.int sel), .val (.int q3), .val (.long q10), .second, .val (.long q17), .second, .unset, .unset, .unset, .unset, .unset, .unset, .unset, .unset, .unset, .unset, .unset, .unset, .unset, .unset, .unset, .unset] [])) _
        refine st25 _ ?_
        show Steps p.tables e below (T25.setTop (mkF m 58 #[.val (.long ta), .second, .val (.long la), .second, .val (.long tb), .second, .val (.long lb), .second, .val (.int sel), .val (.int q3), .val (.long q10), .second, .val (.long q17), .second, .unset, .unset, .unset, .unset, .unset, .unset, .unset, .unset, .unset, .unset, .unset, .unset, .unset, .unset, .unset, .unset] [(.ref max)])) _
        show Steps p.tables e below (T25.setTop (mkF m 58 #[.val (.long ta), .second, .val (.long la), .second, .val (.long tb), .second, .val (.long lb), .second, .val (.int sel), .val (.int q3), .val (.long q10), .second, .val (.long q17), .second, .unset, .unset, .unset, .unset, .unset, .unset, .unset, .unset, .unset, .unset, .unset, .unset, .unset, .unset, .unset, .unset] [(.ref max)])) t_
        exact k_)
      exact ⟨T25, X25, e25, fun t_ k_ => s26 t_ (castTop (by simp only [if_pos h24]) k_)⟩
    · obtain ⟨T27, X27, e27, st27⟩ := getS2 X18 hx hZ hown (host := "") (Or.inl (hw _ (List.mem_of_getElem? (i := 0) rfl))) Via.refl e18 (I1.ext OX.2) (g := (mkF m 49 #[.val (.long ta), .second, .val (.long la), .second, .val (.long tb), .second, .val (.long lb), .second, .val (.int sel), .val (.int q3), .val (.long q10), .second, .val (.long q17), .second, .unset, .unset, .unset, .unset, .unset, .unset, .unset, .unset, .unset, .unset, .unset, .unset, .unset, .unset, .unset, .unset] [])) rfl (Jvm.hb hby at_49)
      have s28 : ∀ t_, Steps p.tables e below (T27.setTop (mkF m 58 #[.val (.long ta), .second, .val (.long la), .second, .val (.long tb), .second, .val (.long lb), .second, .val (.int sel), .val (.int q3), .val (.long q10), .second, .val (.long q17), .second, .unset, .unset, .unset, .unset, .unset, .unset, .unset, .unset, .unset, .unset, .unset, .unset, .unset, .unset, .unset, .unset] [(.ref mean)])) t_ → Steps p.tables e below (s₁.setTop (entryFrame m #[(.long ta), (.long la), (.long tb), (.long lb), (.int sel)] maxLocals)) t_ := fun t_ k_ => s22 t_ (by
        show Steps p.tables e below (T18.setTop (mkF m 46 #[.val (.long ta), .second, .val (.long la), .second, .val (.long tb), .second, .val (.long lb), .second, .val (.int sel), .val (.int q3), .val (.long q10), .second, .val (.long q17), .second, .unset, .unset, .unset, .unset, .unset, .unset, .unset, .unset, .unset, .unset, .unset, .unset, .unset, .unset, .unset, .unset] [(.int q3)])) t_
        refine XS.ifNo X18.here hx rfl (Jvm.hb hby at_46) rfl ((if0 _ _).trans (feq h24).1) ?_
        show Steps p.tables e below (T18.setTop (mkF m 49 #[.val (.long ta), .second, .val (.long la), .second, .val (.long tb), .second, .val (.long lb), .second, .val (.int sel), .val (.int q3), .val (.long q10), .second, .val (.long q17), .second, .unset, .unset, .unset, .unset, .unset, .unset, .unset, .unset, .unset, .unset, .unset, .unset, .unset, .unset, .unset, .unset] [])) _
        refine st27 _ ?_
        show Steps p.tables e below (T27.setTop (mkF m 52 #[.val (.long ta), .second, .val (.long la), .second, .val (.long tb), .second, .val (.long lb), .second, .val (.int sel), .val (.int q3), .val (.long q10), .second, .val (.long q17), .second, .unset, .unset, .unset, .unset, .unset, .unset, .unset, .unset, .unset, .unset, .unset, .unset, .unset, .unset, .unset, .unset] [(.ref mean)])) _
        refine XS.goto X27.here hx rfl (pc0 := 52) (pc' := 58) rfl (Jvm.hb hby at_52) (by decide) (by decide) ?_
        show Steps p.tables e below (T27.setTop (mkF m 58 #[.val (.long ta), .second, .val (.long la), .second, .val (.long tb), .second, .val (.long lb), .second, .val (.int sel), .val (.int q3), .val (.long q10), .second, .val (.long q17), .second, .unset, .unset, .unset, .unset, .unset, .unset, .unset, .unset, .unset, .unset, .unset, .unset, .unset, .unset, .unset, .unset] [(.ref mean)])) _
        show Steps p.tables e below (T27.setTop (mkF m 58 #[.val (.long ta), .second, .val (.long la), .second, .val (.long tb), .second, .val (.long lb), .second, .val (.int sel), .val (.int q3), .val (.long q10), .second, .val (.long q17), .second, .unset, .unset, .unset, .unset, .unset, .unset, .unset, .unset, .unset, .unset, .unset, .unset, .unset, .unset, .unset, .unset] [(.ref mean)])) t_
        exact k_)
      exact ⟨T27, X27, e27, fun t_ k_ => s28 t_ (castTop (by simp only [if_neg h24]) k_)⟩)
  obtain ⟨T29, h29, X29, e29, E29, A29, D29, -, st29⟩ := newO X23 hx hZ hown (hw _ (List.mem_of_getElem? (i := 3) rfl)) (hw _ (List.mem_of_getElem? (i := 4) rfl)) (hw _ (List.mem_of_getElem? (i := 5) rfl)) e23 (g := (mkF m 60 #[.val (.long ta), .second, .val (.long la), .second, .val (.long tb), .second, .val (.long lb), .second, .val (.int sel), .val (.int q3), .val (.long q10), .second, .val (.long q17), .second, .val (.ref (if q3 = (0 : Int32) then max else mean)), .unset, .unset, .unset, .unset, .unset, .unset, .unset, .unset, .unset, .unset, .unset, .unset, .unset, .unset, .unset] [])) rfl (Jvm.hb hby at_60) (by decide) (by decide)
  obtain ⟨b29, g29⟩ : ∃ z, z = h0.size := ⟨_, rfl⟩
  rw [← g29] at A29 D29 st29
  have z30 : h0.size ≤ h29.size := E29.1
  have l29 : b29 < h29.size := A29.lt
  have F31 : Fld Z h29 b29 "com/example/cloudlet_siting/cloudletsiting/planning/FixedCountCloudlets$Measure" "total" "J" (.long (0 : Int64)) := D29 (Or.inr (hw _ (List.mem_of_getElem? (i := 18) rfl))) (ty := .long) (by decide)
  have F32 : Fld Z h29 b29 "com/example/cloudlet_siting/cloudletsiting/planning/FixedCountCloudlets$Measure" "largest" "J" (.long (0 : Int64)) := D29 (Or.inr (hw _ (List.mem_of_getElem? (i := 20) rfl))) (ty := .long) (by decide)
  have s33 : ∀ t_, Steps p.tables e below (T29.setTop (mkF m 66 #[.val (.long ta), .second, .val (.long la), .second, .val (.long tb), .second, .val (.long lb), .second, .val (.int sel), .val (.int q3), .val (.long q10), .second, .val (.long q17), .second, .val (.ref (if q3 = (0 : Int32) then max else mean)), .unset, .unset, .unset, .unset, .unset, .unset, .unset, .unset, .unset, .unset, .unset, .unset, .unset, .unset, .unset] [(.long la), (.long ta), (.ref b29), (.ref b29)])) t_ → Steps p.tables e below (s₁.setTop (entryFrame m #[(.long ta), (.long la), (.long tb), (.long lb), (.int sel)] maxLocals)) t_ := fun t_ k_ => s23 t_ (by
    show Steps p.tables e below (T23.setTop (mkF m 58 #[.val (.long ta), .second, .val (.long la), .second, .val (.long tb), .second, .val (.long lb), .second, .val (.int sel), .val (.int q3), .val (.long q10), .second, .val (.long q17), .second, .unset, .unset, .unset, .unset, .unset, .unset, .unset, .unset, .unset, .unset, .unset, .unset, .unset, .unset, .unset, .unset] [(.ref (if q3 = (0 : Int32) then max else mean))])) t_
    refine XS.astore X23.here hx rfl (Jvm.hb hby at_58) rfl rfl (l' := #[.val (.long ta), .second, .val (.long la), .second, .val (.long tb), .second, .val (.long lb), .second, .val (.int sel), .val (.int q3), .val (.long q10), .second, .val (.long q17), .second, .val (.ref (if q3 = (0 : Int32) then max else mean)), .unset, .unset, .unset, .unset, .unset, .unset, .unset, .unset, .unset, .unset, .unset, .unset, .unset, .unset, .unset]) rfl ?_
    show Steps p.tables e below (T23.setTop (mkF m 60 #[.val (.long ta), .second, .val (.long la), .second, .val (.long tb), .second, .val (.long lb), .second, .val (.int sel), .val (.int q3), .val (.long q10), .second, .val (.long q17), .second, .val (.ref (if q3 = (0 : Int32) then max else mean)), .unset, .unset, .unset, .unset, .unset, .unset, .unset, .unset, .unset, .unset, .unset, .unset, .unset, .unset, .unset] [])) _
    refine st29 _ ?_
    show Steps p.tables e below (T29.setTop (mkF m 63 #[.val (.long ta), .second, .val (.long la), .second, .val (.long tb), .second, .val (.long lb), .second, .val (.int sel), .val (.int q3), .val (.long q10), .second, .val (.long q17), .second, .val (.ref (if q3 = (0 : Int32) then max else mean)), .unset, .unset, .unset, .unset, .unset, .unset, .unset, .unset, .unset, .unset, .unset, .unset, .unset, .unset, .unset] [(.ref b29)])) _
    refine XS.dup X29.here hx rfl (Jvm.hb hby at_63) rfl rfl ?_
    show Steps p.tables e below (T29.setTop (mkF m 64 #[.val (.long ta), .second, .val (.long la), .second, .val (.long tb), .second, .val (.long lb), .second, .val (.int sel), .val (.int q3), .val (.long q10), .second, .val (.long q17), .second, .val (.ref (if q3 = (0 : Int32) then max else mean)), .unset, .unset, .unset, .unset, .unset, .unset, .unset, .unset, .unset, .unset, .unset, .unset, .unset, .unset, .unset] [(.ref b29), (.ref b29)])) _
    refine XS.lloadN X29.here hx rfl (Jvm.hb hby at_64) rfl ?_
    show Steps p.tables e below (T29.setTop (mkF m 65 #[.val (.long ta), .second, .val (.long la), .second, .val (.long tb), .second, .val (.long lb), .second, .val (.int sel), .val (.int q3), .val (.long q10), .second, .val (.long q17), .second, .val (.ref (if q3 = (0 : Int32) then max else mean)), .unset, .unset, .unset, .unset, .unset, .unset, .unset, .unset, .unset, .unset, .unset, .unset, .unset, .unset, .unset] [(.long ta), (.ref b29), (.ref b29)])) _
    refine XS.lloadN X29.here hx rfl (Jvm.hb hby at_65) rfl ?_
    show Steps p.tables e below (T29.setTop (mkF m 66 #[.val (.long ta), .second, .val (.long la), .second, .val (.long tb), .second, .val (.long lb), .second, .val (.int sel), .val (.int q3), .val (.long q10), .second, .val (.long q17), .second, .val (.ref (if q3 = (0 : Int32) then max else mean)), .unset, .unset, .unset, .unset, .unset, .unset, .unset, .unset, .unset, .unset, .unset, .unset, .unset, .unset, .unset] [(.long la), (.long ta), (.ref b29), (.ref b29)])) _
    show Steps p.tables e below (T29.setTop (mkF m 66 #[.val (.long ta), .second, .val (.long la), .second, .val (.long tb), .second, .val (.long lb), .second, .val (.int sel), .val (.int q3), .val (.long q10), .second, .val (.long q17), .second, .val (.ref (if q3 = (0 : Int32) then max else mean)), .unset, .unset, .unset, .unset, .unset, .unset, .unset, .unset, .unset, .unset, .unset, .unset, .unset, .unset, .unset] [(.long la), (.long ta), (.ref b29), (.ref b29)])) t_
    exact k_)
  have Zc34 : n0 ≤ h29.size := by omega
  obtain ⟨_, _, ⟨T35, L35, k35, n35⟩, -, X35, ⟨Lc35, hQ35, l35, y35, z35⟩, st35⟩ := X29.specialBack hx (y := (⟨"com/example/cloudlet_siting/cloudletsiting/planning/FixedCountCloudlets$Measure", "<init>", "(JJ)V"⟩ : MethodName)) rfl hown (mvT hZ (hw _ (List.mem_of_getElem? (i := 6) rfl))) (mvT hZ (hw _ (List.mem_of_getElem? (i := 7) rfl))) (mvT hZ (hw _ (List.mem_of_getElem? (i := 8) rfl))) (by decide) (backOf (W := 1) (rmInit l Z a0 hw [] b29 ta la h29 n0 Zc34 A29 F31 F32 (by first | assumption | rfl | decide | omega : n0 ≤ b29)) hZ (hw _ (List.mem_of_getElem? (i := 8) rfl)) (hw _ (List.mem_of_getElem? (i := 5) rfl)) (by decide) (by decide)) (g := (mkF m 66 #[.val (.long ta), .second, .val (.long la), .second, .val (.long tb), .second, .val (.long lb), .second, .val (.int sel), .val (.int q3), .val (.long q10), .second, .val (.long q17), .second, .val (.ref (if q3 = (0 : Int32) then max else mean)), .unset, .unset, .unset, .unset, .unset, .unset, .unset, .unset, .unset, .unset, .unset, .unset, .unset, .unset, .unset] [(.long la), (.long ta), (.ref b29), (.ref b29)])) rfl (by rw [hml]; rfl) (Steps.refl _) (a := b29) (argsL := [(.long ta), (.long la)]) (rest := [(.ref b29)]) (lenOf pd__JJ_V rfl) rfl (by show 2 * 0 + _ ≤ _; exact Nat.le_of_eq rfl) (Jvm.hb hby at_66) (fun _ _ => ⟨rfl, e29, (by decide : 1 + 0 ≤ _), (by decide : 2 + 0 ≤ _)⟩)
  dsimp only [Pt.U, Pt.locs, Pt.cells, Pt.slots] at X35 l35 y35 z35 st35 hQ35
  subst l35 y35 z35
  obtain ⟨rfl, N35q, K35, Fq35_0, Fq35_1, Fq35_2⟩ := hQ35
  have N35 := Fr.app N0 N35q
  obtain ⟨h35, e35⟩ : ∃ z, T35.heap = z := ⟨_, rfl⟩
  rw [e35] at K35 Fq35_0 Fq35_1 Fq35_2
  have z36 : h29.size ≤ h35.size := K35.1
  have lt35_0 : @LT.lt Nat _ b29 h35.size := Fq35_0.lt
  obtain ⟨T37, h37, X37, e37, E37, A37, D37, -, st37⟩ := newO X35 hx hZ hown (hw _ (List.mem_of_getElem? (i := 3) rfl)) (hw _ (List.mem_of_getElem? (i := 4) rfl)) (hw _ (List.mem_of_getElem? (i := 5) rfl)) e35 (g := (mkF m 71 #[.val (.long ta), .second, .val (.long la), .second, .val (.long tb), .second, .val (.long lb), .second, .val (.int sel), .val (.int q3), .val (.long q10), .second, .val (.long q17), .second, .val (.ref (if q3 = (0 : Int32) then max else mean)), .val (.ref b29), .unset, .unset, .unset, .unset, .unset, .unset, .unset, .unset, .unset, .unset, .unset, .unset, .unset, .unset] [])) rfl (Jvm.hb hby at_71) (by decide) (by decide)
  obtain ⟨b37, g37⟩ : ∃ z, z = h35.size := ⟨_, rfl⟩
  rw [← g37] at A37 D37 st37
  have z38 : h35.size ≤ h37.size := E37.1
  have l37 : b37 < h37.size := A37.lt
  have F39 : Fld Z h37 b37 "com/example/cloudlet_siting/cloudletsiting/planning/FixedCountCloudlets$Measure" "total" "J" (.long (0 : Int64)) := D37 (Or.inr (hw _ (List.mem_of_getElem? (i := 18) rfl))) (ty := .long) (by decide)
  have F40 : Fld Z h37 b37 "com/example/cloudlet_siting/cloudletsiting/planning/FixedCountCloudlets$Measure" "largest" "J" (.long (0 : Int64)) := D37 (Or.inr (hw _ (List.mem_of_getElem? (i := 20) rfl))) (ty := .long) (by decide)
  have s41 : ∀ t_, Steps p.tables e below (T37.setTop (mkF m 79 #[.val (.long ta), .second, .val (.long la), .second, .val (.long tb), .second, .val (.long lb), .second, .val (.int sel), .val (.int q3), .val (.long q10), .second, .val (.long q17), .second, .val (.ref (if q3 = (0 : Int32) then max else mean)), .val (.ref b29), .unset, .unset, .unset, .unset, .unset, .unset, .unset, .unset, .unset, .unset, .unset, .unset, .unset, .unset] [(.long q17), (.long q10), (.ref b37), (.ref b37)])) t_ → Steps p.tables e below (s₁.setTop (entryFrame m #[(.long ta), (.long la), (.long tb), (.long lb), (.int sel)] maxLocals)) t_ := fun t_ k_ => s33 t_ (by
    show Steps p.tables e below (T29.setTop (mkF m 66 #[.val (.long ta), .second, .val (.long la), .second, .val (.long tb), .second, .val (.long lb), .second, .val (.int sel), .val (.int q3), .val (.long q10), .second, .val (.long q17), .second, .val (.ref (if q3 = (0 : Int32) then max else mean)), .unset, .unset, .unset, .unset, .unset, .unset, .unset, .unset, .unset, .unset, .unset, .unset, .unset, .unset, .unset] [(.long la), (.long ta), (.ref b29), (.ref b29)])) t_
    refine st35.trans ?_
    show Steps p.tables e below (T35.setTop (mkF m 69 #[.val (.long ta), .second, .val (.long la), .second, .val (.long tb), .second, .val (.long lb), .second, .val (.int sel), .val (.int q3), .val (.long q10), .second, .val (.long q17), .second, .val (.ref (if q3 = (0 : Int32) then max else mean)), .unset, .unset, .unset, .unset, .unset, .unset, .unset, .unset, .unset, .unset, .unset, .unset, .unset, .unset, .unset] [(.ref b29)])) _
    refine XS.astore X35.here hx rfl (Jvm.hb hby at_69) rfl rfl (l' := #[.val (.long ta), .second, .val (.long la), .second, .val (.long tb), .second, .val (.long lb), .second, .val (.int sel), .val (.int q3), .val (.long q10), .second, .val (.long q17), .second, .val (.ref (if q3 = (0 : Int32) then max else mean)), .val (.ref b29), .unset, .unset, .unset, .unset, .unset, .unset, .unset, .unset, .unset, .unset, .unset, .unset, .unset, .unset]) rfl ?_
    show Steps p.tables e below (T35.setTop (mkF m 71 #[.val (.long ta), .second, .val (.long la), .second, .val (.long tb), .second, .val (.long lb), .second, .val (.int sel), .val (.int q3), .val (.long q10), .second, .val (.long q17), .second, .val (.ref (if q3 = (0 : Int32) then max else mean)), .val (.ref b29), .unset, .unset, .unset, .unset, .unset, .unset, .unset, .unset, .unset, .unset, .unset, .unset, .unset, .unset] [])) _
    refine st37 _ ?_
    show Steps p.tables e below (T37.setTop (mkF m 74 #[.val (.long ta), .second, .val (.long la), .second, .val (.long tb), .second, .val (.long lb), .second, .val (.int sel), .val (.int q3), .val (.long q10), .second, .val (.long q17), .second, .val (.ref (if q3 = (0 : Int32) then max else mean)), .val (.ref b29), .unset, .unset, .unset, .unset, .unset, .unset, .unset, .unset, .unset, .unset, .unset, .unset, .unset, .unset] [(.ref b37)])) _
    refine XS.dup X37.here hx rfl (Jvm.hb hby at_74) rfl rfl ?_
    show Steps p.tables e below (T37.setTop (mkF m 75 #[.val (.long ta), .second, .val (.long la), .second, .val (.long tb), .second, .val (.long lb), .second, .val (.int sel), .val (.int q3), .val (.long q10), .second, .val (.long q17), .second, .val (.ref (if q3 = (0 : Int32) then max else mean)), .val (.ref b29), .unset, .unset, .unset, .unset, .unset, .unset, .unset, .unset, .unset, .unset, .unset, .unset, .unset, .unset] [(.ref b37), (.ref b37)])) _
    refine XS.lload X37.here hx rfl (Jvm.hb hby at_75) rfl ?_
    show Steps p.tables e below (T37.setTop (mkF m 77 #[.val (.long ta), .second, .val (.long la), .second, .val (.long tb), .second, .val (.long lb), .second, .val (.int sel), .val (.int q3), .val (.long q10), .second, .val (.long q17), .second, .val (.ref (if q3 = (0 : Int32) then max else mean)), .val (.ref b29), .unset, .unset, .unset, .unset, .unset, .unset, .unset, .unset, .unset, .unset, .unset, .unset, .unset, .unset] [(.long q10), (.ref b37), (.ref b37)])) _
    refine XS.lload X37.here hx rfl (Jvm.hb hby at_77) rfl ?_
    show Steps p.tables e below (T37.setTop (mkF m 79 #[.val (.long ta), .second, .val (.long la), .second, .val (.long tb), .second, .val (.long lb), .second, .val (.int sel), .val (.int q3), .val (.long q10), .second, .val (.long q17), .second, .val (.ref (if q3 = (0 : Int32) then max else mean)), .val (.ref b29), .unset, .unset, .unset, .unset, .unset, .unset, .unset, .unset, .unset, .unset, .unset, .unset, .unset, .unset] [(.long q17), (.long q10), (.ref b37), (.ref b37)])) _
    show Steps p.tables e below (T37.setTop (mkF m 79 #[.val (.long ta), .second, .val (.long la), .second, .val (.long tb), .second, .val (.long lb), .second, .val (.int sel), .val (.int q3), .val (.long q10), .second, .val (.long q17), .second, .val (.ref (if q3 = (0 : Int32) then max else mean)), .val (.ref b29), .unset, .unset, .unset, .unset, .unset, .unset, .unset, .unset, .unset, .unset, .unset, .unset, .unset, .unset] [(.long q17), (.long q10), (.ref b37), (.ref b37)])) t_
    exact k_)
  have Zc42 : n0 ≤ h37.size := by omega
  obtain ⟨_, _, ⟨T43, L43, k43, n43⟩, -, X43, ⟨Lc43, hQ43, l43, y43, z43⟩, st43⟩ := X37.specialBack hx (y := (⟨"com/example/cloudlet_siting/cloudletsiting/planning/FixedCountCloudlets$Measure", "<init>", "(JJ)V"⟩ : MethodName)) rfl hown (mvT hZ (hw _ (List.mem_of_getElem? (i := 6) rfl))) (mvT hZ (hw _ (List.mem_of_getElem? (i := 7) rfl))) (mvT hZ (hw _ (List.mem_of_getElem? (i := 8) rfl))) (by decide) (backOf (W := 1) (rmInit l Z a0 hw [] b37 q10 q17 h37 n0 Zc42 A37 F39 F40 (by first | assumption | rfl | decide | omega : n0 ≤ b37)) hZ (hw _ (List.mem_of_getElem? (i := 8) rfl)) (hw _ (List.mem_of_getElem? (i := 5) rfl)) (by decide) (by decide)) (g := (mkF m 79 #[.val (.long ta), .second, .val (.long la), .second, .val (.long tb), .second, .val (.long lb), .second, .val (.int sel), .val (.int q3), .val (.long q10), .second, .val (.long q17), .second, .val (.ref (if q3 = (0 : Int32) then max else mean)), .val (.ref b29), .unset, .unset, .unset, .unset, .unset, .unset, .unset, .unset, .unset, .unset, .unset, .unset, .unset, .unset] [(.long q17), (.long q10), (.ref b37), (.ref b37)])) rfl (by rw [hml]; rfl) (Steps.refl _) (a := b37) (argsL := [(.long q10), (.long q17)]) (rest := [(.ref b37)]) (lenOf pd__JJ_V rfl) rfl (by show 2 * 0 + _ ≤ _; exact Nat.le_of_eq rfl) (Jvm.hb hby at_79) (fun _ _ => ⟨rfl, e37, (by decide : 2 + 0 ≤ _), (by decide : 4 + 0 ≤ _)⟩)
  dsimp only [Pt.U, Pt.locs, Pt.cells, Pt.slots] at X43 l43 y43 z43 st43 hQ43
  subst l43 y43 z43
  obtain ⟨rfl, N43q, K43, Fq43_0, Fq43_1, Fq43_2⟩ := hQ43
  have N43 := Fr.app N35 N43q
  obtain ⟨h43, e43⟩ : ∃ z, T43.heap = z := ⟨_, rfl⟩
  rw [e43] at K43 Fq43_0 Fq43_1 Fq43_2
  have z44 : h37.size ≤ h43.size := K43.1
  have lt43_0 : @LT.lt Nat _ b37 h43.size := Fq43_0.lt
  have s45 : ∀ t_, Steps p.tables e below (T43.setTop (mkF m 90 #[.val (.long ta), .second, .val (.long la), .second, .val (.long tb), .second, .val (.long lb), .second, .val (.int sel), .val (.int q3), .val (.long q10), .second, .val (.long q17), .second, .val (.ref (if q3 = (0 : Int32) then max else mean)), .val (.ref b29), .val (.ref b37), .unset, .unset, .unset, .unset, .unset, .unset, .unset, .unset, .unset, .unset, .unset, .unset, .unset] [(.ref (if q3 = (0 : Int32) then max else mean)), (.ref b37), (.ref b29)])) t_ → Steps p.tables e below (s₁.setTop (entryFrame m #[(.long ta), (.long la), (.long tb), (.long lb), (.int sel)] maxLocals)) t_ := fun t_ k_ => s41 t_ (by
    show Steps p.tables e below (T37.setTop (mkF m 79 #[.val (.long ta), .second, .val (.long la), .second, .val (.long tb), .second, .val (.long lb), .second, .val (.int sel), .val (.int q3), .val (.long q10), .second, .val (.long q17), .second, .val (.ref (if q3 = (0 : Int32) then max else mean)), .val (.ref b29), .unset, .unset, .unset, .unset, .unset, .unset, .unset, .unset, .unset, .unset, .unset, .unset, .unset, .unset] [(.long q17), (.long q10), (.ref b37), (.ref b37)])) t_
    refine st43.trans ?_
    show Steps p.tables e below (T43.setTop (mkF m 82 #[.val (.long ta), .second, .val (.long la), .second, .val (.long tb), .second, .val (.long lb), .second, .val (.int sel), .val (.int q3), .val (.long q10), .second, .val (.long q17), .second, .val (.ref (if q3 = (0 : Int32) then max else mean)), .val (.ref b29), .unset, .unset, .unset, .unset, .unset, .unset, .unset, .unset, .unset, .unset, .unset, .unset, .unset, .unset] [(.ref b37)])) _
    refine XS.astore X43.here hx rfl (Jvm.hb hby at_82) rfl rfl (l' := #[.val (.long ta), .second, .val (.long la), .second, .val (.long tb), .second, .val (.long lb), .second, .val (.int sel), .val (.int q3), .val (.long q10), .second, .val (.long q17), .second, .val (.ref (if q3 = (0 : Int32) then max else mean)), .val (.ref b29), .val (.ref b37), .unset, .unset, .unset, .unset, .unset, .unset, .unset, .unset, .unset, .unset, .unset, .unset, .unset]) rfl ?_
    show Steps p.tables e below (T43.setTop (mkF m 84 #[.val (.long ta), .second, .val (.long la), .second, .val (.long tb), .second, .val (.long lb), .second, .val (.int sel), .val (.int q3), .val (.long q10), .second, .val (.long q17), .second, .val (.ref (if q3 = (0 : Int32) then max else mean)), .val (.ref b29), .val (.ref b37), .unset, .unset, .unset, .unset, .unset, .unset, .unset, .unset, .unset, .unset, .unset, .unset, .unset] [])) _
    refine XS.aload X43.here hx rfl (Jvm.hb hby at_84) rfl rfl ?_
    show Steps p.tables e below (T43.setTop (mkF m 86 #[.val (.long ta), .second, .val (.long la), .second, .val (.long tb), .second, .val (.long lb), .second, .val (.int sel), .val (.int q3), .val (.long q10), .second, .val (.long q17), .second, .val (.ref (if q3 = (0 : Int32) then max else mean)), .val (.ref b29), .val (.ref b37), .unset, .unset, .unset, .unset, .unset, .unset, .unset, .unset, .unset, .unset, .unset, .unset, .unset] [(.ref b29)])) _
    refine XS.aload X43.here hx rfl (Jvm.hb hby at_86) rfl rfl ?_
    show Steps p.tables e below (T43.setTop (mkF m 88 #[.val (.long ta), .second, .val (.long la), .second, .val (.long tb), .second, .val (.long lb), .second, .val (.int sel), .val (.int q3), .val (.long q10), .second, .val (.long q17), .second, .val (.ref (if q3 = (0 : Int32) then max else mean)), .val (.ref b29), .val (.ref b37), .unset, .unset, .unset, .unset, .unset, .unset, .unset, .unset, .unset, .unset, .unset, .unset, .unset] [(.ref b37), (.ref b29)])) _
    refine XS.aload X43.here hx rfl (Jvm.hb hby at_88) rfl rfl ?_
    show Steps p.tables e below (T43.setTop (mkF m 90 #[.val (.long ta), .second, .val (.long la), .second, .val (.long tb), .second, .val (.long lb), .second, .val (.int sel), .val (.int q3), .val (.long q10), .second, .val (.long q17), .second, .val (.ref (if q3 = (0 : Int32) then max else mean)), .val (.ref b29), .val (.ref b37), .unset, .unset, .unset, .unset, .unset, .unset, .unset, .unset, .unset, .unset, .unset, .unset, .unset] [(.ref (if q3 = (0 : Int32) then max else mean)), (.ref b37), (.ref b29)])) _
    show Steps p.tables e below (T43.setTop (mkF m 90 #[.val (.long ta), .second, .val (.long la), .second, .val (.long tb), .second, .val (.long lb), .second, .val (.int sel), .val (.int q3), .val (.long q10), .second, .val (.long q17), .second, .val (.ref (if q3 = (0 : Int32) then max else mean)), .val (.ref b29), .val (.ref b37), .unset, .unset, .unset, .unset, .unset, .unset, .unset, .unset, .unset, .unset, .unset, .unset, .unset] [(.ref (if q3 = (0 : Int32) then max else mean)), (.ref b37), (.ref b29)])) t_
    exact k_)
  have O46 : Old Z n0 h43 := ((((OX.ext E29).keep K35 (allS (show n0 ≤ b29 by omega) all0)).ext E37).keep K43 (allS (show n0 ≤ b37 by omega) all0))
  have f47 : Fld Z h43 b29 "com/example/cloudlet_siting/cloudletsiting/planning/FixedCountCloudlets$Measure" "total" "J" (.long ta) := ((Fq35_1.ext E37).keep K43 (ninS (show @Ne Nat b29 b37 by omega) nin0))
  have f48 : Fld Z h43 b29 "com/example/cloudlet_siting/cloudletsiting/planning/FixedCountCloudlets$Measure" "largest" "J" (.long la) := ((Fq35_2.ext E37).keep K43 (ninS (show @Ne Nat b29 b37 by omega) nin0))
  have Zc49 : n0 ≤ h43.size := by omega
  have f51 : Exa Z h43 b29 "com/example/cloudlet_siting/cloudletsiting/planning/FixedCountCloudlets$Measure" := ((Fq35_0.ext E37).keep K43)
  obtain ⟨cq50, kq50, q50a, q50b, q50c⟩ := isOf hZ e43 f51
  obtain ⟨_, _, ⟨T50, L50, k50, n50⟩, -, X50, ⟨Lc50, hQ50, l50, y50, z50⟩, st50⟩ := X43.virtualBack hx (y := (⟨"com/example/cloudlet_siting/cloudletsiting/planning/FixedCountCloudlets$Measure", "isBetterThan", "(Lcom/example/cloudlet_siting/cloudletsiting/planning/FixedCountCloudlets$Measure;Lcom/example/cloudlet_siting/cloudletsiting/model/Objective;)Z"⟩ : MethodName)) (z := (⟨"com/example/cloudlet_siting/cloudletsiting/planning/FixedCountCloudlets$Measure", "isBetterThan", "(Lcom/example/cloudlet_siting/cloudletsiting/planning/FixedCountCloudlets$Measure;Lcom/example/cloudlet_siting/cloudletsiting/model/Objective;)Z"⟩ : MethodName)) hown (mvT hZ (hw _ (List.mem_of_getElem? (i := 21) rfl))) (mvT hZ (hw _ (List.mem_of_getElem? (i := 22) rfl))) (notFace_of_selects (args := #[]) (mvT hZ (hw _ (List.mem_of_getElem? (i := 24) rfl)))) (mvT hZ (hw _ (List.mem_of_getElem? (i := 24) rfl))) (mvT hZ (hw _ (List.mem_of_getElem? (i := 23) rfl))) (by decide) (backOf (W := 0) (rmBet l Z a0 hw [] b29 b37 (if q3 = (0 : Int32) then max else mean) mean ta la q10 q17 h43 n0 Zc49 I1 O46 f47 f48 Fq43_1 Fq43_2) hZ (hw _ (List.mem_of_getElem? (i := 25) rfl)) (hw _ (List.mem_of_getElem? (i := 5) rfl)) (by decide) (by decide)) q50a q50c (g := (mkF m 90 #[.val (.long ta), .second, .val (.long la), .second, .val (.long tb), .second, .val (.long lb), .second, .val (.int sel), .val (.int q3), .val (.long q10), .second, .val (.long q17), .second, .val (.ref (if q3 = (0 : Int32) then max else mean)), .val (.ref b29), .val (.ref b37), .unset, .unset, .unset, .unset, .unset, .unset, .unset, .unset, .unset, .unset, .unset, .unset, .unset] [(.ref (if q3 = (0 : Int32) then max else mean)), (.ref b37), (.ref b29)])) rfl (by rw [hml]; rfl) (Steps.refl _) (argsL := [(.ref b37), (.ref (if q3 = (0 : Int32) then max else mean))]) (rest := []) (lenOf pd__Lcom_example_cloudlet_siting_cloudletsiting_planning_FixedCountCloudlets_Measure_Lcom_example_cloudlet_siting_cloudletsiting_model_Objective__Z rfl) rfl (by show 2 * 0 + _ ≤ _; exact Nat.le_of_eq rfl) (Jvm.hb hby at_90) (fun _ _ => ⟨rfl, e43, (by decide : 2 + 0 ≤ _), (by decide : 4 + 0 ≤ _)⟩)
  dsimp only [Pt.U, Pt.locs, Pt.cells, Pt.slots] at X50 l50 y50 z50 st50 hQ50
  subst l50 y50 z50
  obtain ⟨rfl, N50q, e50⟩ := hQ50
  have N50 := Fr.app N43 N50q
  obtain ⟨q52, hq52⟩ : ∃ z : Int32, z = (nar .boolean (if (if q3 = (0 : Int32) then max else mean) = mean then (if (lcmpW ta q10) < (0 : Int32) then (1 : Int32) else (if (lcmpW ta q10) = (0 : Int32) then (if (lcmpW la q17) < (0 : Int32) then (1 : Int32) else (0 : Int32)) else (0 : Int32))) else (if (lcmpW la q17) < (0 : Int32) then (1 : Int32) else (if (lcmpW la q17) = (0 : Int32) then (if (lcmpW ta q10) < (0 : Int32) then (1 : Int32) else (0 : Int32)) else (0 : Int32))))) := ⟨_, rfl⟩
  rw [← hq52] at st50
  have s53 : ∀ t_, Steps p.tables e below (T50.setTop (mkF m 101 #[.val (.long ta), .second, .val (.long la), .second, .val (.long tb), .second, .val (.long lb), .second, .val (.int sel), .val (.int q3), .val (.long q10), .second, .val (.long q17), .second, .val (.ref (if q3 = (0 : Int32) then max else mean)), .val (.ref b29), .val (.ref b37), .val (.int q52), .unset, .unset, .unset, .unset, .unset, .unset, .unset, .unset, .unset, .unset, .unset, .unset] [(.ref (if q3 = (0 : Int32) then max else mean)), (.ref b29), (.ref b37)])) t_ → Steps p.tables e below (s₁.setTop (entryFrame m #[(.long ta), (.long la), (.long tb), (.long lb), (.int sel)] maxLocals)) t_ := fun t_ k_ => s45 t_ (by
    show Steps p.tables e below (T43.setTop (mkF m 90 #[.val (.long ta), .second, .val (.long la), .second, .val (.long tb), .second, .val (.long lb), .second, .val (.int sel), .val (.int q3), .val (.long q10), .second, .val (.long q17), .second, .val (.ref (if q3 = (0 : Int32) then max else mean)), .val (.ref b29), .val (.ref b37), .unset, .unset, .unset, .unset, .unset, .unset, .unset, .unset, .unset, .unset, .unset, .unset, .unset] [(.ref (if q3 = (0 : Int32) then max else mean)), (.ref b37), (.ref b29)])) t_
    refine st50.trans ?_
    show Steps p.tables e below (T50.setTop (mkF m 93 #[.val (.long ta), .second, .val (.long la), .second, .val (.long tb), .second, .val (.long lb), .second, .val (.int sel), .val (.int q3), .val (.long q10), .second, .val (.long q17), .second, .val (.ref (if q3 = (0 : Int32) then max else mean)), .val (.ref b29), .val (.ref b37), .unset, .unset, .unset, .unset, .unset, .unset, .unset, .unset, .unset, .unset, .unset, .unset, .unset] [(.int q52)])) _
    refine XS.istore X50.here hx rfl (Jvm.hb hby at_93) rfl (l' := #[.val (.long ta), .second, .val (.long la), .second, .val (.long tb), .second, .val (.long lb), .second, .val (.int sel), .val (.int q3), .val (.long q10), .second, .val (.long q17), .second, .val (.ref (if q3 = (0 : Int32) then max else mean)), .val (.ref b29), .val (.ref b37), .val (.int q52), .unset, .unset, .unset, .unset, .unset, .unset, .unset, .unset, .unset, .unset, .unset, .unset]) rfl ?_
    show Steps p.tables e below (T50.setTop (mkF m 95 #[.val (.long ta), .second, .val (.long la), .second, .val (.long tb), .second, .val (.long lb), .second, .val (.int sel), .val (.int q3), .val (.long q10), .second, .val (.long q17), .second, .val (.ref (if q3 = (0 : Int32) then max else mean)), .val (.ref b29), .val (.ref b37), .val (.int q52), .unset, .unset, .unset, .unset, .unset, .unset, .unset, .unset, .unset, .unset, .unset, .unset] [])) _
    refine XS.aload X50.here hx rfl (Jvm.hb hby at_95) rfl rfl ?_
    show Steps p.tables e below (T50.setTop (mkF m 97 #[.val (.long ta), .second, .val (.long la), .second, .val (.long tb), .second, .val (.long lb), .second, .val (.int sel), .val (.int q3), .val (.long q10), .second, .val (.long q17), .second, .val (.ref (if q3 = (0 : Int32) then max else mean)), .val (.ref b29), .val (.ref b37), .val (.int q52), .unset, .unset, .unset, .unset, .unset, .unset, .unset, .unset, .unset, .unset, .unset, .unset] [(.ref b37)])) _
    refine XS.aload X50.here hx rfl (Jvm.hb hby at_97) rfl rfl ?_
    show Steps p.tables e below (T50.setTop (mkF m 99 #[.val (.long ta), .second, .val (.long la), .second, .val (.long tb), .second, .val (.long lb), .second, .val (.int sel), .val (.int q3), .val (.long q10), .second, .val (.long q17), .second, .val (.ref (if q3 = (0 : Int32) then max else mean)), .val (.ref b29), .val (.ref b37), .val (.int q52), .unset, .unset, .unset, .unset, .unset, .unset, .unset, .unset, .unset, .unset, .unset, .unset] [(.ref b29), (.ref b37)])) _
    refine XS.aload X50.here hx rfl (Jvm.hb hby at_99) rfl rfl ?_
    show Steps p.tables e below (T50.setTop (mkF m 101 #[.val (.long ta), .second, .val (.long la), .second, .val (.long tb), .second, .val (.long lb), .second, .val (.int sel), .val (.int q3), .val (.long q10), .second, .val (.long q17), .second, .val (.ref (if q3 = (0 : Int32) then max else mean)), .val (.ref b29), .val (.ref b37), .val (.int q52), .unset, .unset, .unset, .unset, .unset, .unset, .unset, .unset, .unset, .unset, .unset, .unset] [(.ref (if q3 = (0 : Int32) then max else mean)), (.ref b29), (.ref b37)])) _
    show Steps p.tables e below (T50.setTop (mkF m 101 #[.val (.long ta), .second, .val (.long la), .second, .val (.long tb), .second, .val (.long lb), .second, .val (.int sel), .val (.int q3), .val (.long q10), .second, .val (.long q17), .second, .val (.ref (if q3 = (0 : Int32) then max else mean)), .val (.ref b29), .val (.ref b37), .val (.int q52), .unset, .unset, .unset, .unset, .unset, .unset, .unset, .unset, .unset, .unset, .unset, .unset] [(.ref (if q3 = (0 : Int32) then max else mean)), (.ref b29), (.ref b37)])) t_
    exact k_)
  have Zc54 : n0 ≤ h43.size := by omega
  obtain ⟨cq55, kq55, q55a, q55b, q55c⟩ := isOf hZ e50 Fq43_0
  obtain ⟨_, _, ⟨T55, L55, k55, n55⟩, -, X55, ⟨Lc55, hQ55, l55, y55, z55⟩, st55⟩ := X50.virtualBack hx (y := (⟨"com/example/cloudlet_siting/cloudletsiting/planning/FixedCountCloudlets$Measure", "isBetterThan", "(Lcom/example/cloudlet_siting/cloudletsiting/planning/FixedCountCloudlets$Measure;Lcom/example/cloudlet_siting/cloudletsiting/model/Objective;)Z"⟩ : MethodName)) (z := (⟨"com/example/cloudlet_siting/cloudletsiting/planning/FixedCountCloudlets$Measure", "isBetterThan", "(Lcom/example/cloudlet_siting/cloudletsiting/planning/FixedCountCloudlets$Measure;Lcom/example/cloudlet_siting/cloudletsiting/model/Objective;)Z"⟩ : MethodName)) hown (mvT hZ (hw _ (List.mem_of_getElem? (i := 21) rfl))) (mvT hZ (hw _ (List.mem_of_getElem? (i := 22) rfl))) (notFace_of_selects (args := #[]) (mvT hZ (hw _ (List.mem_of_getElem? (i := 24) rfl)))) (mvT hZ (hw _ (List.mem_of_getElem? (i := 24) rfl))) (mvT hZ (hw _ (List.mem_of_getElem? (i := 23) rfl))) (by decide) (backOf (W := 0) (rmBet l Z a0 hw [] b37 b29 (if q3 = (0 : Int32) then max else mean) mean q10 q17 ta la h43 n0 Zc54 I1 O46 Fq43_1 Fq43_2 f47 f48) hZ (hw _ (List.mem_of_getElem? (i := 25) rfl)) (hw _ (List.mem_of_getElem? (i := 5) rfl)) (by decide) (by decide)) q55a q55c (g := (mkF m 101 #[.val (.long ta), .second, .val (.long la), .second, .val (.long tb), .second, .val (.long lb), .second, .val (.int sel), .val (.int q3), .val (.long q10), .second, .val (.long q17), .second, .val (.ref (if q3 = (0 : Int32) then max else mean)), .val (.ref b29), .val (.ref b37), .val (.int q52), .unset, .unset, .unset, .unset, .unset, .unset, .unset, .unset, .unset, .unset, .unset, .unset] [(.ref (if q3 = (0 : Int32) then max else mean)), (.ref b29), (.ref b37)])) rfl (by rw [hml]; rfl) (Steps.refl _) (argsL := [(.ref b29), (.ref (if q3 = (0 : Int32) then max else mean))]) (rest := []) (lenOf pd__Lcom_example_cloudlet_siting_cloudletsiting_planning_FixedCountCloudlets_Measure_Lcom_example_cloudlet_siting_cloudletsiting_model_Objective__Z rfl) rfl (by show 2 * 0 + _ ≤ _; exact Nat.le_of_eq rfl) (Jvm.hb hby at_101) (fun _ _ => ⟨rfl, e50, (by decide : 2 + 0 ≤ _), (by decide : 4 + 0 ≤ _)⟩)
  dsimp only [Pt.U, Pt.locs, Pt.cells, Pt.slots] at X55 l55 y55 z55 st55 hQ55
  subst l55 y55 z55
  obtain ⟨rfl, N55q, e55⟩ := hQ55
  have N55 := Fr.app N50 N55q
  obtain ⟨q56, hq56⟩ : ∃ z : Int32, z = (nar .boolean (if (if q3 = (0 : Int32) then max else mean) = mean then (if (lcmpW q10 ta) < (0 : Int32) then (1 : Int32) else (if (lcmpW q10 ta) = (0 : Int32) then (if (lcmpW q17 la) < (0 : Int32) then (1 : Int32) else (0 : Int32)) else (0 : Int32))) else (if (lcmpW q17 la) < (0 : Int32) then (1 : Int32) else (if (lcmpW q17 la) = (0 : Int32) then (if (lcmpW q10 ta) < (0 : Int32) then (1 : Int32) else (0 : Int32)) else (0 : Int32))))) := ⟨_, rfl⟩
  rw [← hq56] at st55
  have s57 : ∀ t_, Steps p.tables e below (T55.setTop (mkF m 112 #[.val (.long ta), .second, .val (.long la), .second, .val (.long tb), .second, .val (.long lb), .second, .val (.int sel), .val (.int q3), .val (.long q10), .second, .val (.long q17), .second, .val (.ref (if q3 = (0 : Int32) then max else mean)), .val (.ref b29), .val (.ref b37), .val (.int q52), .val (.int q56), .unset, .unset, .unset, .unset, .unset, .unset, .unset, .unset, .unset, .unset, .unset] [(.ref (if q3 = (0 : Int32) then max else mean)), (.ref b29), (.ref b29)])) t_ → Steps p.tables e below (s₁.setTop (entryFrame m #[(.long ta), (.long la), (.long tb), (.long lb), (.int sel)] maxLocals)) t_ := fun t_ k_ => s53 t_ (by
    show Steps p.tables e below (T50.setTop (mkF m 101 #[.val (.long ta), .second, .val (.long la), .second, .val (.long tb), .second, .val (.long lb), .second, .val (.int sel), .val (.int q3), .val (.long q10), .second, .val (.long q17), .second, .val (.ref (if q3 = (0 : Int32) then max else mean)), .val (.ref b29), .val (.ref b37), .val (.int q52), .unset, .unset, .unset, .unset, .unset, .unset, .unset, .unset, .unset, .unset, .unset, .unset] [(.ref (if q3 = (0 : Int32) then max else mean)), (.ref b29), (.ref b37)])) t_
    refine st55.trans ?_
    show Steps p.tables e below (T55.setTop (mkF m 104 #[.val (.long ta), .second, .val (.long la), .second, .val (.long tb), .second, .val (.long lb), .second, .val (.int sel), .val (.int q3), .val (.long q10), .second, .val (.long q17), .second, .val (.ref (if q3 = (0 : Int32) then max else mean)), .val (.ref b29), .val (.ref b37), .val (.int q52), .unset, .unset, .unset, .unset, .unset, .unset, .unset, .unset, .unset, .unset, .unset, .unset] [(.int q56)])) _
    refine XS.istore X55.here hx rfl (Jvm.hb hby at_104) rfl (l' := #[.val (.long ta), .second, .val (.long la), .second, .val (.long tb), .second, .val (.long lb), .second, .val (.int sel), .val (.int q3), .val (.long q10), .second, .val (.long q17), .second, .val (.ref (if q3 = (0 : Int32) then max else mean)), .val (.ref b29), .val (.ref b37), .val (.int q52), .val (.int q56), .unset, .unset, .unset, .unset, .unset, .unset, .unset, .unset, .unset, .unset, .unset]) rfl ?_
    show Steps p.tables e below (T55.setTop (mkF m 106 #[.val (.long ta), .second, .val (.long la), .second, .val (.long tb), .second, .val (.long lb), .second, .val (.int sel), .val (.int q3), .val (.long q10), .second, .val (.long q17), .second, .val (.ref (if q3 = (0 : Int32) then max else mean)), .val (.ref b29), .val (.ref b37), .val (.int q52), .val (.int q56), .unset, .unset, .unset, .unset, .unset, .unset, .unset, .unset, .unset, .unset, .unset] [])) _
    refine XS.aload X55.here hx rfl (Jvm.hb hby at_106) rfl rfl ?_
    show Steps p.tables e below (T55.setTop (mkF m 108 #[.val (.long ta), .second, .val (.long la), .second, .val (.long tb), .second, .val (.long lb), .second, .val (.int sel), .val (.int q3), .val (.long q10), .second, .val (.long q17), .second, .val (.ref (if q3 = (0 : Int32) then max else mean)), .val (.ref b29), .val (.ref b37), .val (.int q52), .val (.int q56), .unset, .unset, .unset, .unset, .unset, .unset, .unset, .unset, .unset, .unset, .unset] [(.ref b29)])) _
    refine XS.aload X55.here hx rfl (Jvm.hb hby at_108) rfl rfl ?_
    show Steps p.tables e below (T55.setTop (mkF m 110 #[.val (.long ta), .second, .val (.long la), .second, .val (.long tb), .second, .val (.long lb), .second, .val (.int sel), .val (.int q3), .val (.long q10), .second, .val (.long q17), .second, .val (.ref (if q3 = (0 : Int32) then max else mean)), .val (.ref b29), .val (.ref b37), .val (.int q52), .val (.int q56), .unset, .unset, .unset, .unset, .unset, .unset, .unset, .unset, .unset, .unset, .unset] [(.ref b29), (.ref b29)])) _
    refine XS.aload X55.here hx rfl (Jvm.hb hby at_110) rfl rfl ?_
    show Steps p.tables e below (T55.setTop (mkF m 112 #[.val (.long ta), .second, .val (.long la), .second, .val (.long tb), .second, .val (.long lb), .second, .val (.int sel), .val (.int q3), .val (.long q10), .second, .val (.long q17), .second, .val (.ref (if q3 = (0 : Int32) then max else mean)), .val (.ref b29), .val (.ref b37), .val (.int q52), .val (.int q56), .unset, .unset, .unset, .unset, .unset, .unset, .unset, .unset, .unset, .unset, .unset] [(.ref (if q3 = (0 : Int32) then max else mean)), (.ref b29), (.ref b29)])) _
    show Steps p.tables e below (T55.setTop (mkF m 112 #[.val (.long ta), .second, .val (.long la), .second, .val (.long tb), .second, .val (.long lb), .second, .val (.int sel), .val (.int q3), .val (.long q10), .second, .val (.long q17), .second, .val (.ref (if q3 = (0 : Int32) then max else mean)), .val (.ref b29), .val (.ref b37), .val (.int q52), .val (.int q56), .unset, .unset, .unset, .unset, .unset, .unset, .unset, .unset, .unset, .unset, .unset] [(.ref (if q3 = (0 : Int32) then max else mean)), (.ref b29), (.ref b29)])) t_
    exact k_)
  have Zc58 : n0 ≤ h43.size := by omega
  obtain ⟨cq59, kq59, q59a, q59b, q59c⟩ := isOf hZ e55 f51
  obtain ⟨_, _, ⟨T59, L59, k59, n59⟩, -, X59, ⟨Lc59, hQ59, l59, y59, z59⟩, st59⟩ := X55.virtualBack hx (y := (⟨"com/example/cloudlet_siting/cloudletsiting/planning/FixedCountCloudlets$Measure", "isBetterThan", "(Lcom/example/cloudlet_siting/cloudletsiting/planning/FixedCountCloudlets$Measure;Lcom/example/cloudlet_siting/cloudletsiting/model/Objective;)Z"⟩ : MethodName)) (z := (⟨"com/example/cloudlet_siting/cloudletsiting/planning/FixedCountCloudlets$Measure", "isBetterThan", "(Lcom/example/cloudlet_siting/cloudletsiting/planning/FixedCountCloudlets$Measure;Lcom/example/cloudlet_siting/cloudletsiting/model/Objective;)Z"⟩ : MethodName)) hown (mvT hZ (hw _ (List.mem_of_getElem? (i := 21) rfl))) (mvT hZ (hw _ (List.mem_of_getElem? (i := 22) rfl))) (notFace_of_selects (args := #[]) (mvT hZ (hw _ (List.mem_of_getElem? (i := 24) rfl)))) (mvT hZ (hw _ (List.mem_of_getElem? (i := 24) rfl))) (mvT hZ (hw _ (List.mem_of_getElem? (i := 23) rfl))) (by decide) (backOf (W := 0) (rmBet l Z a0 hw [] b29 b29 (if q3 = (0 : Int32) then max else mean) mean ta la ta la h43 n0 Zc58 I1 O46 f47 f48 f47 f48) hZ (hw _ (List.mem_of_getElem? (i := 25) rfl)) (hw _ (List.mem_of_getElem? (i := 5) rfl)) (by decide) (by decide)) q59a q59c (g := (mkF m 112 #[.val (.long ta), .second, .val (.long la), .second, .val (.long tb), .second, .val (.long lb), .second, .val (.int sel), .val (.int q3), .val (.long q10), .second, .val (.long q17), .second, .val (.ref (if q3 = (0 : Int32) then max else mean)), .val (.ref b29), .val (.ref b37), .val (.int q52), .val (.int q56), .unset, .unset, .unset, .unset, .unset, .unset, .unset, .unset, .unset, .unset, .unset] [(.ref (if q3 = (0 : Int32) then max else mean)), (.ref b29), (.ref b29)])) rfl (by rw [hml]; rfl) (Steps.refl _) (argsL := [(.ref b29), (.ref (if q3 = (0 : Int32) then max else mean))]) (rest := []) (lenOf pd__Lcom_example_cloudlet_siting_cloudletsiting_planning_FixedCountCloudlets_Measure_Lcom_example_cloudlet_siting_cloudletsiting_model_Objective__Z rfl) rfl (by show 2 * 0 + _ ≤ _; exact Nat.le_of_eq rfl) (Jvm.hb hby at_112) (fun _ _ => ⟨rfl, e55, (by decide : 2 + 0 ≤ _), (by decide : 4 + 0 ≤ _)⟩)
  dsimp only [Pt.U, Pt.locs, Pt.cells, Pt.slots] at X59 l59 y59 z59 st59 hQ59
  subst l59 y59 z59
  obtain ⟨rfl, N59q, e59⟩ := hQ59
  have N59 := Fr.app N55 N59q
  obtain ⟨q60, hq60⟩ : ∃ z : Int32, z = (nar .boolean (if (if q3 = (0 : Int32) then max else mean) = mean then (if (lcmpW ta ta) < (0 : Int32) then (1 : Int32) else (if (lcmpW ta ta) = (0 : Int32) then (if (lcmpW la la) < (0 : Int32) then (1 : Int32) else (0 : Int32)) else (0 : Int32))) else (if (lcmpW la la) < (0 : Int32) then (1 : Int32) else (if (lcmpW la la) = (0 : Int32) then (if (lcmpW ta ta) < (0 : Int32) then (1 : Int32) else (0 : Int32)) else (0 : Int32))))) := ⟨_, rfl⟩
  rw [← hq60] at st59
  have s61 : ∀ t_, Steps p.tables e below (T59.setTop (mkF m 119 #[.val (.long ta), .second, .val (.long la), .second, .val (.long tb), .second, .val (.long lb), .second, .val (.int sel), .val (.int q3), .val (.long q10), .second, .val (.long q17), .second, .val (.ref (if q3 = (0 : Int32) then max else mean)), .val (.ref b29), .val (.ref b37), .val (.int q52), .val (.int q56), .val (.int q60), .unset, .unset, .unset, .unset, .unset, .unset, .unset, .unset, .unset, .unset] [(.int q3)])) t_ → Steps p.tables e below (s₁.setTop (entryFrame m #[(.long ta), (.long la), (.long tb), (.long lb), (.int sel)] maxLocals)) t_ := fun t_ k_ => s57 t_ (by
    show Steps p.tables e below (T55.setTop (mkF m 112 #[.val (.long ta), .second, .val (.long la), .second, .val (.long tb), .second, .val (.long lb), .second, .val (.int sel), .val (.int q3), .val (.long q10), .second, .val (.long q17), .second, .val (.ref (if q3 = (0 : Int32) then max else mean)), .val (.ref b29), .val (.ref b37), .val (.int q52), .val (.int q56), .unset, .unset, .unset, .unset, .unset, .unset, .unset, .unset, .unset, .unset, .unset] [(.ref (if q3 = (0 : Int32) then max else mean)), (.ref b29), (.ref b29)])) t_
    refine st59.trans ?_
    show Steps p.tables e below (T59.setTop (mkF m 115 #[.val (.long ta), .second, .val (.long la), .second, .val (.long tb), .second, .val (.long lb), .second, .val (.int sel), .val (.int q3), .val (.long q10), .second, .val (.long q17), .second, .val (.ref (if q3 = (0 : Int32) then max else mean)), .val (.ref b29), .val (.ref b37), .val (.int q52), .val (.int q56), .unset, .unset, .unset, .unset, .unset, .unset, .unset, .unset, .unset, .unset, .unset] [(.int q60)])) _
    refine XS.istore X59.here hx rfl (Jvm.hb hby at_115) rfl (l' := #[.val (.long ta), .second, .val (.long la), .second, .val (.long tb), .second, .val (.long lb), .second, .val (.int sel), .val (.int q3), .val (.long q10), .second, .val (.long q17), .second, .val (.ref (if q3 = (0 : Int32) then max else mean)), .val (.ref b29), .val (.ref b37), .val (.int q52), .val (.int q56), .val (.int q60), .unset, .unset, .unset, .unset, .unset, .unset, .unset, .unset, .unset, .unset]) rfl ?_
    show Steps p.tables e below (T59.setTop (mkF m 117 #[.val (.long ta), .second, .val (.long la), .second, .val (.long tb), .second, .val (.long lb), .second, .val (.int sel), .val (.int q3), .val (.long q10), .second, .val (.long q17), .second, .val (.ref (if q3 = (0 : Int32) then max else mean)), .val (.ref b29), .val (.ref b37), .val (.int q52), .val (.int q56), .val (.int q60), .unset, .unset, .unset, .unset, .unset, .unset, .unset, .unset, .unset, .unset] [])) _
    refine XS.iload X59.here hx rfl (Jvm.hb hby at_117) rfl ?_
    show Steps p.tables e below (T59.setTop (mkF m 119 #[.val (.long ta), .second, .val (.long la), .second, .val (.long tb), .second, .val (.long lb), .second, .val (.int sel), .val (.int q3), .val (.long q10), .second, .val (.long q17), .second, .val (.ref (if q3 = (0 : Int32) then max else mean)), .val (.ref b29), .val (.ref b37), .val (.int q52), .val (.int q56), .val (.int q60), .unset, .unset, .unset, .unset, .unset, .unset, .unset, .unset, .unset, .unset] [(.int q3)])) _
    show Steps p.tables e below (T59.setTop (mkF m 119 #[.val (.long ta), .second, .val (.long la), .second, .val (.long tb), .second, .val (.long lb), .second, .val (.int sel), .val (.int q3), .val (.long q10), .second, .val (.long q17), .second, .val (.ref (if q3 = (0 : Int32) then max else mean)), .val (.ref b29), .val (.ref b37), .val (.int q52), .val (.int q56), .val (.int q60), .unset, .unset, .unset, .unset, .unset, .unset, .unset, .unset, .unset, .unset] [(.int q3)])) t_
    exact k_)
  obtain ⟨q62, hq62⟩ : ∃ z : Int64, z = (if q3 = (0 : Int32) then la else ta) := ⟨_, rfl⟩
  obtain ⟨T63, X63, e63, s63⟩ := seg X59 (fun T' => T'.heap = h43 ∧ ∀ t_, Steps p.tables e below (T'.setTop (mkF m 127 #[.val (.long ta), .second, .val (.long la), .second, .val (.long tb), .second, .val (.long lb), .second, .val (.int sel), .val (.int q3), .val (.long q10), .second, .val (.long q17), .second, .val (.ref (if q3 = (0 : Int32) then max else mean)), .val (.ref b29), .val (.ref b37), .val (.int q52), .val (.int q56), .val (.int q60), .unset, .unset, .unset, .unset, .unset, .unset, .unset, .unset, .unset, .unset] [(.long q62)])) t_ → Steps p.tables e below (s₁.setTop (entryFrame m #[(.long ta), (.long la), (.long tb), (.long lb), (.int sel)] maxLocals)) t_) (by
    by_cases h64 : q3 = (0 : Int32)
    · have s65 : ∀ t_, Steps p.tables e below (T59.setTop (mkF m 127 #[.val (.long ta), .second, .val (.long la), .second, .val (.long tb), .second, .val (.long lb), .second, .val (.int sel), .val (.int q3), .val (.long q10), .second, .val (.long q17), .second, .val (.ref (if q3 = (0 : Int32) then max else mean)), .val (.ref b29), .val (.ref b37), .val (.int q52), .val (.int q56), .val (.int q60), .unset, .unset, .unset, .unset, .unset, .unset, .unset, .unset, .unset, .unset] [(.long la)])) t_ → Steps p.tables e below (s₁.setTop (entryFrame m #[(.long ta), (.long la), (.long tb), (.long lb), (.int sel)] maxLocals)) t_ := fun t_ k_ => s61 t_ (by
        show Steps p.tables e below (T59.setTop (mkF m 119 #[.val (.long ta), .second, .val (.long la), .second, .val (.long tb), .second, .val (.long lb), .second, .val (.int sel), .val (.int q3), .val (.long q10), .second, .val (.long q17), .second, .val (.ref (if q3 = (0 : Int32) then max else mean)), .val (.ref b29), .val (.ref b37), .val (.int q52), .val (.int q56), .val (.int q60), .unset, .unset, .unset, .unset, .unset, .unset, .unset, .unset, .unset, .unset] [(.int q3)])) t_
        refine XS.ifYes X59.here hx rfl (pc0 := 119) (pc' := 126) rfl (Jvm.hb hby at_119) rfl ((if0 _ _).trans (teq h64).1) (by decide) (by decide) ?_
        show Steps p.tables e below (T59.setTop (mkF m 126 #[.val (.long ta), .second, .val (.long la), .second, .val (.long tb), .second, .val (.long lb), .second, .val (.int sel), .val (.int q3), .val (.long q10), .second, .val (.long q17), .second, .val (.ref (if q3 = (0 : Int32) then max else mean)), .val (.ref b29), .val (.ref b37), .val (.int q52), .val (.int q56), .val (.int q60), .unset, .unset, .unset, .unset, .unset, .unset, .unset, .unset, .unset, .unset] [])) _
        refine XS.lloadN X59.here hx rfl (Jvm.hb hby at_126) rfl ?_
        show Steps p.tables e below (T59.setTop (mkF m 127 #[.val (.long ta), .second, .val (.long la), .second, .val (.long tb), .second, .val (.long lb), .second, .val (.int sel), .val (.int q3), .val (.long q10), .second, .val (.long q17), .second, .val (.ref (if q3 = (0 : Int32) then max else mean)), .val (.ref b29), .val (.ref b37), .val (.int q52), .val (.int q56), .val (.int q60), .unset, .unset, .unset, .unset, .unset, .unset, .unset, .unset, .unset, .unset] [(.long la)])) _
        show Steps p.tables e below (T59.setTop (mkF m 127 #[.val (.long ta), .second, .val (.long la), .second, .val (.long tb), .second, .val (.long lb), .second, .val (.int sel), .val (.int q3), .val (.long q10), .second, .val (.long q17), .second, .val (.ref (if q3 = (0 : Int32) then max else mean)), .val (.ref b29), .val (.ref b37), .val (.int q52), .val (.int q56), .val (.int q60), .unset, .unset, .unset, .unset, .unset, .unset, .unset, .unset, .unset, .unset] [(.long la)])) t_
        exact k_)
      exact ⟨T59, X59, e59, fun t_ k_ => s65 t_ (castTop (by simp only [hq62, if_pos h64]) k_)⟩
    · have s66 : ∀ t_, Steps p.tables e below (T59.setTop (mkF m 127 #[.val (.long ta), .second, .val (.long la), .second, .val (.long tb), .second, .val (.long lb), .second, .val (.int sel), .val (.int q3), .val (.long q10), .second, .val (.long q17), .second, .val (.ref (if q3 = (0 : Int32) then max else mean)), .val (.ref b29), .val (.ref b37), .val (.int q52), .val (.int q56), .val (.int q60), .unset, .unset, .unset, .unset, .unset, .unset, .unset, .unset, .unset, .unset] [(.long ta)])) t_ → Steps p.tables e below (s₁.setTop (entryFrame m #[(.long ta), (.long la), (.long tb), (.long lb), (.int sel)] maxLocals)) t_ := fun t_ k_ => s61 t_ (by
        show Steps p.tables e below (T59.setTop (mkF m 119 #[.val (.long ta), .second, .val (.long la), .second, .val (.long tb), .second, .val (.long lb), .second, .val (.int sel), .val (.int q3), .val (.long q10), .second, .val (.long q17), .second, .val (.ref (if q3 = (0 : Int32) then max else mean)), .val (.ref b29), .val (.ref b37), .val (.int q52), .val (.int q56), .val (.int q60), .unset, .unset, .unset, .unset, .unset, .unset, .unset, .unset, .unset, .unset] [(.int q3)])) t_
        refine XS.ifNo X59.here hx rfl (Jvm.hb hby at_119) rfl ((if0 _ _).trans (feq h64).1) ?_
        show Steps p.tables e below (T59.setTop (mkF m 122 #[.val (.long ta), .second, .val (.long la), .second, .val (.long tb), .second, .val (.long lb), .second, .val (.int sel), .val (.int q3), .val (.long q10), .second, .val (.long q17), .second, .val (.ref (if q3 = (0 : Int32) then max else mean)), .val (.ref b29), .val (.ref b37), .val (.int q52), .val (.int q56), .val (.int q60), .unset, .unset, .unset, .unset, .unset, .unset, .unset, .unset, .unset, .unset] [])) _
        refine XS.lloadN X59.here hx rfl (Jvm.hb hby at_122) rfl ?_
        show Steps p.tables e below (T59.setTop (mkF m 123 #[.val (.long ta), .second, .val (.long la), .second, .val (.long tb), .second, .val (.long lb), .second, .val (.int sel), .val (.int q3), .val (.long q10), .second, .val (.long q17), .second, .val (.ref (if q3 = (0 : Int32) then max else mean)), .val (.ref b29), .val (.ref b37), .val (.int q52), .val (.int q56), .val (.int q60), .unset, .unset, .unset, .unset, .unset, .unset, .unset, .unset, .unset, .unset] [(.long ta)])) _
        refine XS.goto X59.here hx rfl (pc0 := 123) (pc' := 127) rfl (Jvm.hb hby at_123) (by decide) (by decide) ?_
        show Steps p.tables e below (T59.setTop (mkF m 127 #[.val (.long ta), .second, .val (.long la), .second, .val (.long tb), .second, .val (.long lb), .second, .val (.int sel), .val (.int q3), .val (.long q10), .second, .val (.long q17), .second, .val (.ref (if q3 = (0 : Int32) then max else mean)), .val (.ref b29), .val (.ref b37), .val (.int q52), .val (.int q56), .val (.int q60), .unset, .unset, .unset, .unset, .unset, .unset, .unset, .unset, .unset, .unset] [(.long ta)])) _
        show Steps p.tables e below (T59.setTop (mkF m 127 #[.val (.long ta), .second, .val (.long la), .second, .val (.long tb), .second, .val (.long lb), .second, .val (.int sel), .val (.int q3), .val (.long q10), .second, .val (.long q17), .second, .val (.ref (if q3 = (0 : Int32) then max else mean)), .val (.ref b29), .val (.ref b37), .val (.int q52), .val (.int q56), .val (.int q60), .unset, .unset, .unset, .unset, .unset, .unset, .unset, .unset, .unset, .unset] [(.long ta)])) t_
        exact k_)
      exact ⟨T59, X59, e59, fun t_ k_ => s66 t_ (castTop (by simp only [hq62, if_neg h64]) k_)⟩)
  have s67 : ∀ t_, Steps p.tables e below (T63.setTop (mkF m 131 #[.val (.long ta), .second, .val (.long la), .second, .val (.long tb), .second, .val (.long lb), .second, .val (.int sel), .val (.int q3), .val (.long q10), .second, .val (.long q17), .second, .val (.ref (if q3 = (0 : Int32) then max else mean)), .val (.ref b29), .val (.ref b37), .val (.int q52), .val (.int q56), .val (.int q60), .val (.long q62), .second, .unset, .unset, .unset, .unset, .unset, .unset, .unset, .unset] [(.int q3)])) t_ → Steps p.tables e below (s₁.setTop (entryFrame m #[(.long ta), (.long la), (.long tb), (.long lb), (.int sel)] maxLocals)) t_ := fun t_ k_ => s63 t_ (by
    show Steps p.tables e below (T63.setTop (mkF m 127 #[.val (.long ta), .second, .val (.long la), .second, .val (.long tb), .second, .val (.long lb), .second, .val (.int sel), .val (.int q3), .val (.long q10), .second, .val (.long q17), .second, .val (.ref (if q3 = (0 : Int32) then max else mean)), .val (.ref b29), .val (.ref b37), .val (.int q52), .val (.int q56), .val (.int q60), .unset, .unset, .unset, .unset, .unset, .unset, .unset, .unset, .unset, .unset] [(.long q62)])) t_
    refine XS.lstore X63.here hx rfl (Jvm.hb hby at_127) rfl (l' := #[.val (.long ta), .second, .val (.long la), .second, .val (.long tb), .second, .val (.long lb), .second, .val (.int sel), .val (.int q3), .val (.long q10), .second, .val (.long q17), .second, .val (.ref (if q3 = (0 : Int32) then max else mean)), .val (.ref b29), .val (.ref b37), .val (.int q52), .val (.int q56), .val (.int q60), .val (.long q62), .second, .unset, .unset, .unset, .unset, .unset, .unset, .unset, .unset]) rfl ?_
    show Steps p.tables e below (T63.setTop (mkF m 129 #[.val (.long ta), .second, .val (.long la), .second, .val (.long tb), .second, .val (.long lb), .second, .val (.int sel), .val (.int q3), .val (.long q10), .second, .val (.long q17), .second, .val (.ref (if q3 = (0 : Int32) then max else mean)), .val (.ref b29), .val (.ref b37), .val (.int q52), .val (.int q56), .val (.int q60), .val (.long q62), .second, .unset, .unset, .unset, .unset, .unset, .unset, .unset, .unset] [])) _
    refine XS.iload X63.here hx rfl (Jvm.hb hby at_129) rfl ?_
    show Steps p.tables e below (T63.setTop (mkF m 131 #[.val (.long ta), .second, .val (.long la), .second, .val (.long tb), .second, .val (.long lb), .second, .val (.int sel), .val (.int q3), .val (.long q10), .second, .val (.long q17), .second, .val (.ref (if q3 = (0 : Int32) then max else mean)), .val (.ref b29), .val (.ref b37), .val (.int q52), .val (.int q56), .val (.int q60), .val (.long q62), .second, .unset, .unset, .unset, .unset, .unset, .unset, .unset, .unset] [(.int q3)])) _
    show Steps p.tables e below (T63.setTop (mkF m 131 #[.val (.long ta), .second, .val (.long la), .second, .val (.long tb), .second, .val (.long lb), .second, .val (.int sel), .val (.int q3), .val (.long q10), .second, .val (.long q17), .second, .val (.ref (if q3 = (0 : Int32) then max else mean)), .val (.ref b29), .val (.ref b37), .val (.int q52), .val (.int q56), .val (.int q60), .val (.long q62), .second, .unset, .unset, .unset, .unset, .unset, .unset, .unset, .unset] [(.int q3)])) t_
    exact k_)
  obtain ⟨q68, hq68⟩ : ∃ z : Int64, z = (if q3 = (0 : Int32) then ta else la) := ⟨_, rfl⟩
  obtain ⟨T69, X69, e69, s69⟩ := seg X63 (fun T' => T'.heap = h43 ∧ ∀ t_, Steps p.tables e below (T'.setTop (mkF m 139 #[.val (.long ta), .second, .val (.long la), .second, .val (.long tb), .second, .val (.long lb), .second, .val (.int sel), .val (.int q3), .val (.long q10), .second, .val (.long q17), .second, .val (.ref (if q3 = (0 : Int32) then max else mean)), .val (.ref b29), .val (.ref b37), .val (.int q52), .val (.int q56), .val (.int q60), .val (.long q62), .second, .unset, .unset, .unset, .unset, .unset, .unset, .unset, .unset] [(.long q68)])) t_ → Steps p.tables e below (s₁.setTop (entryFrame m #[(.long ta), (.long la), (.long tb), (.long lb), (.int sel)] maxLocals)) t_) (by
    by_cases h70 : q3 = (0 : Int32)
    · have s71 : ∀ t_, Steps p.tables e below (T63.setTop (mkF m 139 #[.val (.long ta), .second, .val (.long la), .second, .val (.long tb), .second, .val (.long lb), .second, .val (.int sel), .val (.int q3), .val (.long q10), .second, .val (.long q17), .second, .val (.ref (if q3 = (0 : Int32) then max else mean)), .val (.ref b29), .val (.ref b37), .val (.int q52), .val (.int q56), .val (.int q60), .val (.long q62), .second, .unset, .unset, .unset, .unset, .unset, .unset, .unset, .unset] [(.long ta)])) t_ → Steps p.tables e below (s₁.setTop (entryFrame m #[(.long ta), (.long la), (.long tb), (.long lb), (.int sel)] maxLocals)) t_ := fun t_ k_ => s67 t_ (by
        show Steps p.tables e below (T63.setTop (mkF m 131 #[.val (.long ta), .second, .val (.long la), .second, .val (.long tb), .second, .val (.long lb), .second, .val (.int sel), .val (.int q3), .val (.long q10), .second, .val (.long q17), .second, .val (.ref (if q3 = (0 : Int32) then max else mean)), .val (.ref b29), .val (.ref b37), .val (.int q52), .val (.int q56), .val (.int q60), .val (.long q62), .second, .unset, .unset, .unset, .unset, .unset, .unset, .unset, .unset] [(.int q3)])) t_
        refine XS.ifYes X63.here hx rfl (pc0 := 131) (pc' := 138) rfl (Jvm.hb hby at_131) rfl ((if0 _ _).trans (teq h70).1) (by decide) (by decide) ?_
        show Steps p.tables e below (T63.setTop (mkF m 138 #[.val (.long ta), .second, .val (.long la), .second, .val (.long tb), .second, .val (.long lb), .second, .val (.int sel), .val (.int q3), .val (.long q10), .second, .val (.long q17), .second, .val (.ref (if q3 = (0 : Int32) then max else mean)), .val (.ref b29), .val (.ref b37), .val (.int q52), .val (.int q56), .val (.int q60), .val (.long q62), .second, .unset, .unset, .unset, .unset, .unset, .unset, .unset, .unset] [])) _
        refine XS.lloadN X63.here hx rfl (Jvm.hb hby at_138) rfl ?_
        show Steps p.tables e below (T63.setTop (mkF m 139 #[.val (.long ta), .second, .val (.long la), .second, .val (.long tb), .second, .val (.long lb), .second, .val (.int sel), .val (.int q3), .val (.long q10), .second, .val (.long q17), .second, .val (.ref (if q3 = (0 : Int32) then max else mean)), .val (.ref b29), .val (.ref b37), .val (.int q52), .val (.int q56), .val (.int q60), .val (.long q62), .second, .unset, .unset, .unset, .unset, .unset, .unset, .unset, .unset] [(.long ta)])) _
        show Steps p.tables e below (T63.setTop (mkF m 139 #[.val (.long ta), .second, .val (.long la), .second, .val (.long tb), .second, .val (.long lb), .second, .val (.int sel), .val (.int q3), .val (.long q10), .second, .val (.long q17), .second, .val (.ref (if q3 = (0 : Int32) then max else mean)), .val (.ref b29), .val (.ref b37), .val (.int q52), .val (.int q56), .val (.int q60), .val (.long q62), .second, .unset, .unset, .unset, .unset, .unset, .unset, .unset, .unset] [(.long ta)])) t_
        exact k_)
      exact ⟨T63, X63, e63, fun t_ k_ => s71 t_ (castTop (by simp only [hq68, if_pos h70]) k_)⟩
    · have s72 : ∀ t_, Steps p.tables e below (T63.setTop (mkF m 139 #[.val (.long ta), .second, .val (.long la), .second, .val (.long tb), .second, .val (.long lb), .second, .val (.int sel), .val (.int q3), .val (.long q10), .second, .val (.long q17), .second, .val (.ref (if q3 = (0 : Int32) then max else mean)), .val (.ref b29), .val (.ref b37), .val (.int q52), .val (.int q56), .val (.int q60), .val (.long q62), .second, .unset, .unset, .unset, .unset, .unset, .unset, .unset, .unset] [(.long la)])) t_ → Steps p.tables e below (s₁.setTop (entryFrame m #[(.long ta), (.long la), (.long tb), (.long lb), (.int sel)] maxLocals)) t_ := fun t_ k_ => s67 t_ (by
        show Steps p.tables e below (T63.setTop (mkF m 131 #[.val (.long ta), .second, .val (.long la), .second, .val (.long tb), .second, .val (.long lb), .second, .val (.int sel), .val (.int q3), .val (.long q10), .second, .val (.long q17), .second, .val (.ref (if q3 = (0 : Int32) then max else mean)), .val (.ref b29), .val (.ref b37), .val (.int q52), .val (.int q56), .val (.int q60), .val (.long q62), .second, .unset, .unset, .unset, .unset, .unset, .unset, .unset, .unset] [(.int q3)])) t_
        refine XS.ifNo X63.here hx rfl (Jvm.hb hby at_131) rfl ((if0 _ _).trans (feq h70).1) ?_
        show Steps p.tables e below (T63.setTop (mkF m 134 #[.val (.long ta), .second, .val (.long la), .second, .val (.long tb), .second, .val (.long lb), .second, .val (.int sel), .val (.int q3), .val (.long q10), .second, .val (.long q17), .second, .val (.ref (if q3 = (0 : Int32) then max else mean)), .val (.ref b29), .val (.ref b37), .val (.int q52), .val (.int q56), .val (.int q60), .val (.long q62), .second, .unset, .unset, .unset, .unset, .unset, .unset, .unset, .unset] [])) _
        refine XS.lloadN X63.here hx rfl (Jvm.hb hby at_134) rfl ?_
        show Steps p.tables e below (T63.setTop (mkF m 135 #[.val (.long ta), .second, .val (.long la), .second, .val (.long tb), .second, .val (.long lb), .second, .val (.int sel), .val (.int q3), .val (.long q10), .second, .val (.long q17), .second, .val (.ref (if q3 = (0 : Int32) then max else mean)), .val (.ref b29), .val (.ref b37), .val (.int q52), .val (.int q56), .val (.int q60), .val (.long q62), .second, .unset, .unset, .unset, .unset, .unset, .unset, .unset, .unset] [(.long la)])) _
        refine XS.goto X63.here hx rfl (pc0 := 135) (pc' := 139) rfl (Jvm.hb hby at_135) (by decide) (by decide) ?_
        show Steps p.tables e below (T63.setTop (mkF m 139 #[.val (.long ta), .second, .val (.long la), .second, .val (.long tb), .second, .val (.long lb), .second, .val (.int sel), .val (.int q3), .val (.long q10), .second, .val (.long q17), .second, .val (.ref (if q3 = (0 : Int32) then max else mean)), .val (.ref b29), .val (.ref b37), .val (.int q52), .val (.int q56), .val (.int q60), .val (.long q62), .second, .unset, .unset, .unset, .unset, .unset, .unset, .unset, .unset] [(.long la)])) _
        show Steps p.tables e below (T63.setTop (mkF m 139 #[.val (.long ta), .second, .val (.long la), .second, .val (.long tb), .second, .val (.long lb), .second, .val (.int sel), .val (.int q3), .val (.long q10), .second, .val (.long q17), .second, .val (.ref (if q3 = (0 : Int32) then max else mean)), .val (.ref b29), .val (.ref b37), .val (.int q52), .val (.int q56), .val (.int q60), .val (.long q62), .second, .unset, .unset, .unset, .unset, .unset, .unset, .unset, .unset] [(.long la)])) t_
        exact k_)
      exact ⟨T63, X63, e63, fun t_ k_ => s72 t_ (castTop (by simp only [hq68, if_neg h70]) k_)⟩)
  have s73 : ∀ t_, Steps p.tables e below (T69.setTop (mkF m 143 #[.val (.long ta), .second, .val (.long la), .second, .val (.long tb), .second, .val (.long lb), .second, .val (.int sel), .val (.int q3), .val (.long q10), .second, .val (.long q17), .second, .val (.ref (if q3 = (0 : Int32) then max else mean)), .val (.ref b29), .val (.ref b37), .val (.int q52), .val (.int q56), .val (.int q60), .val (.long q62), .second, .val (.long q68), .second, .unset, .unset, .unset, .unset, .unset, .unset] [(.int q3)])) t_ → Steps p.tables e below (s₁.setTop (entryFrame m #[(.long ta), (.long la), (.long tb), (.long lb), (.int sel)] maxLocals)) t_ := fun t_ k_ => s69 t_ (by
    show Steps p.tables e below (T69.setTop (mkF m 139 #[.val (.long ta), .second, .val (.long la), .second, .val (.long tb), .second, .val (.long lb), .second, .val (.int sel), .val (.int q3), .val (.long q10), .second, .val (.long q17), .second, .val (.ref (if q3 = (0 : Int32) then max else mean)), .val (.ref b29), .val (.ref b37), .val (.int q52), .val (.int q56), .val (.int q60), .val (.long q62), .second, .unset, .unset, .unset, .unset, .unset, .unset, .unset, .unset] [(.long q68)])) t_
    refine XS.lstore X69.here hx rfl (Jvm.hb hby at_139) rfl (l' := #[.val (.long ta), .second, .val (.long la), .second, .val (.long tb), .second, .val (.long lb), .second, .val (.int sel), .val (.int q3), .val (.long q10), .second, .val (.long q17), .second, .val (.ref (if q3 = (0 : Int32) then max else mean)), .val (.ref b29), .val (.ref b37), .val (.int q52), .val (.int q56), .val (.int q60), .val (.long q62), .second, .val (.long q68), .second, .unset, .unset, .unset, .unset, .unset, .unset]) rfl ?_
    show Steps p.tables e below (T69.setTop (mkF m 141 #[.val (.long ta), .second, .val (.long la), .second, .val (.long tb), .second, .val (.long lb), .second, .val (.int sel), .val (.int q3), .val (.long q10), .second, .val (.long q17), .second, .val (.ref (if q3 = (0 : Int32) then max else mean)), .val (.ref b29), .val (.ref b37), .val (.int q52), .val (.int q56), .val (.int q60), .val (.long q62), .second, .val (.long q68), .second, .unset, .unset, .unset, .unset, .unset, .unset] [])) _
    refine XS.iload X69.here hx rfl (Jvm.hb hby at_141) rfl ?_
    show Steps p.tables e below (T69.setTop (mkF m 143 #[.val (.long ta), .second, .val (.long la), .second, .val (.long tb), .second, .val (.long lb), .second, .val (.int sel), .val (.int q3), .val (.long q10), .second, .val (.long q17), .second, .val (.ref (if q3 = (0 : Int32) then max else mean)), .val (.ref b29), .val (.ref b37), .val (.int q52), .val (.int q56), .val (.int q60), .val (.long q62), .second, .val (.long q68), .second, .unset, .unset, .unset, .unset, .unset, .unset] [(.int q3)])) _
    show Steps p.tables e below (T69.setTop (mkF m 143 #[.val (.long ta), .second, .val (.long la), .second, .val (.long tb), .second, .val (.long lb), .second, .val (.int sel), .val (.int q3), .val (.long q10), .second, .val (.long q17), .second, .val (.ref (if q3 = (0 : Int32) then max else mean)), .val (.ref b29), .val (.ref b37), .val (.int q52), .val (.int q56), .val (.int q60), .val (.long q62), .second, .val (.long q68), .second, .unset, .unset, .unset, .unset, .unset, .unset] [(.int q3)])) t_
    exact k_)
  obtain ⟨q74, hq74⟩ : ∃ z : Int64, z = (if q3 = (0 : Int32) then q17 else q10) := ⟨_, rfl⟩
  obtain ⟨T75, X75, e75, s75⟩ := seg X69 (fun T' => T'.heap = h43 ∧ ∀ t_, Steps p.tables e below (T'.setTop (mkF m 153 #[.val (.long ta), .second, .val (.long la), .second, .val (.long tb), .second, .val (.long lb), .second, .val (.int sel), .val (.int q3), .val (.long q10), .second, .val (.long q17), .second, .val (.ref (if q3 = (0 : Int32) then max else mean)), .val (.ref b29), .val (.ref b37), .val (.int q52), .val (.int q56), .val (.int q60), .val (.long q62), .second, .val (.long q68), .second, .unset, .unset, .unset, .unset, .unset, .unset] [(.long q74)])) t_ → Steps p.tables e below (s₁.setTop (entryFrame m #[(.long ta), (.long la), (.long tb), (.long lb), (.int sel)] maxLocals)) t_) (by
    by_cases h76 : q3 = (0 : Int32)
    · have s77 : ∀ t_, Steps p.tables e below (T69.setTop (mkF m 153 #[.val (.long ta), .second, .val (.long la), .second, .val (.long tb), .second, .val (.long lb), .second, .val (.int sel), .val (.int q3), .val (.long q10), .second, .val (.long q17), .second, .val (.ref (if q3 = (0 : Int32) then max else mean)), .val (.ref b29), .val (.ref b37), .val (.int q52), .val (.int q56), .val (.int q60), .val (.long q62), .second, .val (.long q68), .second, .unset, .unset, .unset, .unset, .unset, .unset] [(.long q17)])) t_ → Steps p.tables e below (s₁.setTop (entryFrame m #[(.long ta), (.long la), (.long tb), (.long lb), (.int sel)] maxLocals)) t_ := fun t_ k_ => s73 t_ (by
        show Steps p.tables e below (T69.setTop (mkF m 143 #[.val (.long ta), .second, .val (.long la), .second, .val (.long tb), .second, .val (.long lb), .second, .val (.int sel), .val (.int q3), .val (.long q10), .second, .val (.long q17), .second, .val (.ref (if q3 = (0 : Int32) then max else mean)), .val (.ref b29), .val (.ref b37), .val (.int q52), .val (.int q56), .val (.int q60), .val (.long q62), .second, .val (.long q68), .second, .unset, .unset, .unset, .unset, .unset, .unset] [(.int q3)])) t_
        refine XS.ifYes X69.here hx rfl (pc0 := 143) (pc' := 151) rfl (Jvm.hb hby at_143) rfl ((if0 _ _).trans (teq h76).1) (by decide) (by decide) ?_
        show Steps p.tables e below (T69.setTop (mkF m 151 #[.val (.long ta), .second, .val (.long la), .second, .val (.long tb), .second, .val (.long lb), .second, .val (.int sel), .val (.int q3), .val (.long q10), .second, .val (.long q17), .second, .val (.ref (if q3 = (0 : Int32) then max else mean)), .val (.ref b29), .val (.ref b37), .val (.int q52), .val (.int q56), .val (.int q60), .val (.long q62), .second, .val (.long q68), .second, .unset, .unset, .unset, .unset, .unset, .unset] [])) _
        refine XS.lload X69.here hx rfl (Jvm.hb hby at_151) rfl ?_
        show Steps p.tables e below (T69.setTop (mkF m 153 #[.val (.long ta), .second, .val (.long la), .second, .val (.long tb), .second, .val (.long lb), .second, .val (.int sel), .val (.int q3), .val (.long q10), .second, .val (.long q17), .second, .val (.ref (if q3 = (0 : Int32) then max else mean)), .val (.ref b29), .val (.ref b37), .val (.int q52), .val (.int q56), .val (.int q60), .val (.long q62), .second, .val (.long q68), .second, .unset, .unset, .unset, .unset, .unset, .unset] [(.long q17)])) _
        show Steps p.tables e below (T69.setTop (mkF m 153 #[.val (.long ta), .second, .val (.long la), .second, .val (.long tb), .second, .val (.long lb), .second, .val (.int sel), .val (.int q3), .val (.long q10), .second, .val (.long q17), .second, .val (.ref (if q3 = (0 : Int32) then max else mean)), .val (.ref b29), .val (.ref b37), .val (.int q52), .val (.int q56), .val (.int q60), .val (.long q62), .second, .val (.long q68), .second, .unset, .unset, .unset, .unset, .unset, .unset] [(.long q17)])) t_
        exact k_)
      exact ⟨T69, X69, e69, fun t_ k_ => s77 t_ (castTop (by simp only [hq74, if_pos h76]) k_)⟩
    · have s78 : ∀ t_, Steps p.tables e below (T69.setTop (mkF m 153 #[.val (.long ta), .second, .val (.long la), .second, .val (.long tb), .second, .val (.long lb), .second, .val (.int sel), .val (.int q3), .val (.long q10), .second, .val (.long q17), .second, .val (.ref (if q3 = (0 : Int32) then max else mean)), .val (.ref b29), .val (.ref b37), .val (.int q52), .val (.int q56), .val (.int q60), .val (.long q62), .second, .val (.long q68), .second, .unset, .unset, .unset, .unset, .unset, .unset] [(.long q10)])) t_ → Steps p.tables e below (s₁.setTop (entryFrame m #[(.long ta), (.long la), (.long tb), (.long lb), (.int sel)] maxLocals)) t_ := fun t_ k_ => s73 t_ (by
        show Steps p.tables e below (T69.setTop (mkF m 143 #[.val (.long ta), .second, .val (.long la), .second, .val (.long tb), .second, .val (.long lb), .second, .val (.int sel), .val (.int q3), .val (.long q10), .second, .val (.long q17), .second, .val (.ref (if q3 = (0 : Int32) then max else mean)), .val (.ref b29), .val (.ref b37), .val (.int q52), .val (.int q56), .val (.int q60), .val (.long q62), .second, .val (.long q68), .second, .unset, .unset, .unset, .unset, .unset, .unset] [(.int q3)])) t_
        refine XS.ifNo X69.here hx rfl (Jvm.hb hby at_143) rfl ((if0 _ _).trans (feq h76).1) ?_
        show Steps p.tables e below (T69.setTop (mkF m 146 #[.val (.long ta), .second, .val (.long la), .second, .val (.long tb), .second, .val (.long lb), .second, .val (.int sel), .val (.int q3), .val (.long q10), .second, .val (.long q17), .second, .val (.ref (if q3 = (0 : Int32) then max else mean)), .val (.ref b29), .val (.ref b37), .val (.int q52), .val (.int q56), .val (.int q60), .val (.long q62), .second, .val (.long q68), .second, .unset, .unset, .unset, .unset, .unset, .unset] [])) _
        refine XS.lload X69.here hx rfl (Jvm.hb hby at_146) rfl ?_
        show Steps p.tables e below (T69.setTop (mkF m 148 #[.val (.long ta), .second, .val (.long la), .second, .val (.long tb), .second, .val (.long lb), .second, .val (.int sel), .val (.int q3), .val (.long q10), .second, .val (.long q17), .second, .val (.ref (if q3 = (0 : Int32) then max else mean)), .val (.ref b29), .val (.ref b37), .val (.int q52), .val (.int q56), .val (.int q60), .val (.long q62), .second, .val (.long q68), .second, .unset, .unset, .unset, .unset, .unset, .unset] [(.long q10)])) _
        refine XS.goto X69.here hx rfl (pc0 := 148) (pc' := 153) rfl (Jvm.hb hby at_148) (by decide) (by decide) ?_
        show Steps p.tables e below (T69.setTop (mkF m 153 #[.val (.long ta), .second, .val (.long la), .second, .val (.long tb), .second, .val (.long lb), .second, .val (.int sel), .val (.int q3), .val (.long q10), .second, .val (.long q17), .second, .val (.ref (if q3 = (0 : Int32) then max else mean)), .val (.ref b29), .val (.ref b37), .val (.int q52), .val (.int q56), .val (.int q60), .val (.long q62), .second, .val (.long q68), .second, .unset, .unset, .unset, .unset, .unset, .unset] [(.long q10)])) _
        show Steps p.tables e below (T69.setTop (mkF m 153 #[.val (.long ta), .second, .val (.long la), .second, .val (.long tb), .second, .val (.long lb), .second, .val (.int sel), .val (.int q3), .val (.long q10), .second, .val (.long q17), .second, .val (.ref (if q3 = (0 : Int32) then max else mean)), .val (.ref b29), .val (.ref b37), .val (.int q52), .val (.int q56), .val (.int q60), .val (.long q62), .second, .val (.long q68), .second, .unset, .unset, .unset, .unset, .unset, .unset] [(.long q10)])) t_
        exact k_)
      exact ⟨T69, X69, e69, fun t_ k_ => s78 t_ (castTop (by simp only [hq74, if_neg h76]) k_)⟩)
  have s79 : ∀ t_, Steps p.tables e below (T75.setTop (mkF m 157 #[.val (.long ta), .second, .val (.long la), .second, .val (.long tb), .second, .val (.long lb), .second, .val (.int sel), .val (.int q3), .val (.long q10), .second, .val (.long q17), .second, .val (.ref (if q3 = (0 : Int32) then max else mean)), .val (.ref b29), .val (.ref b37), .val (.int q52), .val (.int q56), .val (.int q60), .val (.long q62), .second, .val (.long q68), .second, .val (.long q74), .second, .unset, .unset, .unset, .unset] [(.int q3)])) t_ → Steps p.tables e below (s₁.setTop (entryFrame m #[(.long ta), (.long la), (.long tb), (.long lb), (.int sel)] maxLocals)) t_ := fun t_ k_ => s75 t_ (by
    show Steps p.tables e below (T75.setTop (mkF m 153 #[.val (.long ta), .second, .val (.long la), .second, .val (.long tb), .second, .val (.long lb), .second, .val (.int sel), .val (.int q3), .val (.long q10), .second, .val (.long q17), .second, .val (.ref (if q3 = (0 : Int32) then max else mean)), .val (.ref b29), .val (.ref b37), .val (.int q52), .val (.int q56), .val (.int q60), .val (.long q62), .second, .val (.long q68), .second, .unset, .unset, .unset, .unset, .unset, .unset] [(.long q74)])) t_
    refine XS.lstore X75.here hx rfl (Jvm.hb hby at_153) rfl (l' := #[.val (.long ta), .second, .val (.long la), .second, .val (.long tb), .second, .val (.long lb), .second, .val (.int sel), .val (.int q3), .val (.long q10), .second, .val (.long q17), .second, .val (.ref (if q3 = (0 : Int32) then max else mean)), .val (.ref b29), .val (.ref b37), .val (.int q52), .val (.int q56), .val (.int q60), .val (.long q62), .second, .val (.long q68), .second, .val (.long q74), .second, .unset, .unset, .unset, .unset]) rfl ?_
    show Steps p.tables e below (T75.setTop (mkF m 155 #[.val (.long ta), .second, .val (.long la), .second, .val (.long tb), .second, .val (.long lb), .second, .val (.int sel), .val (.int q3), .val (.long q10), .second, .val (.long q17), .second, .val (.ref (if q3 = (0 : Int32) then max else mean)), .val (.ref b29), .val (.ref b37), .val (.int q52), .val (.int q56), .val (.int q60), .val (.long q62), .second, .val (.long q68), .second, .val (.long q74), .second, .unset, .unset, .unset, .unset] [])) _
    refine XS.iload X75.here hx rfl (Jvm.hb hby at_155) rfl ?_
    show Steps p.tables e below (T75.setTop (mkF m 157 #[.val (.long ta), .second, .val (.long la), .second, .val (.long tb), .second, .val (.long lb), .second, .val (.int sel), .val (.int q3), .val (.long q10), .second, .val (.long q17), .second, .val (.ref (if q3 = (0 : Int32) then max else mean)), .val (.ref b29), .val (.ref b37), .val (.int q52), .val (.int q56), .val (.int q60), .val (.long q62), .second, .val (.long q68), .second, .val (.long q74), .second, .unset, .unset, .unset, .unset] [(.int q3)])) _
    show Steps p.tables e below (T75.setTop (mkF m 157 #[.val (.long ta), .second, .val (.long la), .second, .val (.long tb), .second, .val (.long lb), .second, .val (.int sel), .val (.int q3), .val (.long q10), .second, .val (.long q17), .second, .val (.ref (if q3 = (0 : Int32) then max else mean)), .val (.ref b29), .val (.ref b37), .val (.int q52), .val (.int q56), .val (.int q60), .val (.long q62), .second, .val (.long q68), .second, .val (.long q74), .second, .unset, .unset, .unset, .unset] [(.int q3)])) t_
    exact k_)
  obtain ⟨q80, hq80⟩ : ∃ z : Int64, z = (if q3 = (0 : Int32) then q10 else q17) := ⟨_, rfl⟩
  obtain ⟨T81, X81, e81, s81⟩ := seg X75 (fun T' => T'.heap = h43 ∧ ∀ t_, Steps p.tables e below (T'.setTop (mkF m 167 #[.val (.long ta), .second, .val (.long la), .second, .val (.long tb), .second, .val (.long lb), .second, .val (.int sel), .val (.int q3), .val (.long q10), .second, .val (.long q17), .second, .val (.ref (if q3 = (0 : Int32) then max else mean)), .val (.ref b29), .val (.ref b37), .val (.int q52), .val (.int q56), .val (.int q60), .val (.long q62), .second, .val (.long q68), .second, .val (.long q74), .second, .unset, .unset, .unset, .unset] [(.long q80)])) t_ → Steps p.tables e below (s₁.setTop (entryFrame m #[(.long ta), (.long la), (.long tb), (.long lb), (.int sel)] maxLocals)) t_) (by
    by_cases h82 : q3 = (0 : Int32)
    · have s83 : ∀ t_, Steps p.tables e below (T75.setTop (mkF m 167 #[.val (.long ta), .second, .val (.long la), .second, .val (.long tb), .second, .val (.long lb), .second, .val (.int sel), .val (.int q3), .val (.long q10), .second, .val (.long q17), .second, .val (.ref (if q3 = (0 : Int32) then max else mean)), .val (.ref b29), .val (.ref b37), .val (.int q52), .val (.int q56), .val (.int q60), .val (.long q62), .second, .val (.long q68), .second, .val (.long q74), .second, .unset, .unset, .unset, .unset] [(.long q10)])) t_ → Steps p.tables e below (s₁.setTop (entryFrame m #[(.long ta), (.long la), (.long tb), (.long lb), (.int sel)] maxLocals)) t_ := fun t_ k_ => s79 t_ (by
        show Steps p.tables e below (T75.setTop (mkF m 157 #[.val (.long ta), .second, .val (.long la), .second, .val (.long tb), .second, .val (.long lb), .second, .val (.int sel), .val (.int q3), .val (.long q10), .second, .val (.long q17), .second, .val (.ref (if q3 = (0 : Int32) then max else mean)), .val (.ref b29), .val (.ref b37), .val (.int q52), .val (.int q56), .val (.int q60), .val (.long q62), .second, .val (.long q68), .second, .val (.long q74), .second, .unset, .unset, .unset, .unset] [(.int q3)])) t_
        refine XS.ifYes X75.here hx rfl (pc0 := 157) (pc' := 165) rfl (Jvm.hb hby at_157) rfl ((if0 _ _).trans (teq h82).1) (by decide) (by decide) ?_
        show Steps p.tables e below (T75.setTop (mkF m 165 #[.val (.long ta), .second, .val (.long la), .second, .val (.long tb), .second, .val (.long lb), .second, .val (.int sel), .val (.int q3), .val (.long q10), .second, .val (.long q17), .second, .val (.ref (if q3 = (0 : Int32) then max else mean)), .val (.ref b29), .val (.ref b37), .val (.int q52), .val (.int q56), .val (.int q60), .val (.long q62), .second, .val (.long q68), .second, .val (.long q74), .second, .unset, .unset, .unset, .unset] [])) _
        refine XS.lload X75.here hx rfl (Jvm.hb hby at_165) rfl ?_
        show Steps p.tables e below (T75.setTop (mkF m 167 #[.val (.long ta), .second, .val (.long la), .second, .val (.long tb), .second, .val (.long lb), .second, .val (.int sel), .val (.int q3), .val (.long q10), .second, .val (.long q17), .second, .val (.ref (if q3 = (0 : Int32) then max else mean)), .val (.ref b29), .val (.ref b37), .val (.int q52), .val (.int q56), .val (.int q60), .val (.long q62), .second, .val (.long q68), .second, .val (.long q74), .second, .unset, .unset, .unset, .unset] [(.long q10)])) _
        show Steps p.tables e below (T75.setTop (mkF m 167 #[.val (.long ta), .second, .val (.long la), .second, .val (.long tb), .second, .val (.long lb), .second, .val (.int sel), .val (.int q3), .val (.long q10), .second, .val (.long q17), .second, .val (.ref (if q3 = (0 : Int32) then max else mean)), .val (.ref b29), .val (.ref b37), .val (.int q52), .val (.int q56), .val (.int q60), .val (.long q62), .second, .val (.long q68), .second, .val (.long q74), .second, .unset, .unset, .unset, .unset] [(.long q10)])) t_
        exact k_)
      exact ⟨T75, X75, e75, fun t_ k_ => s83 t_ (castTop (by simp only [hq80, if_pos h82]) k_)⟩
    · have s84 : ∀ t_, Steps p.tables e below (T75.setTop (mkF m 167 #[.val (.long ta), .second, .val (.long la), .second, .val (.long tb), .second, .val (.long lb), .second, .val (.int sel), .val (.int q3), .val (.long q10), .second, .val (.long q17), .second, .val (.ref (if q3 = (0 : Int32) then max else mean)), .val (.ref b29), .val (.ref b37), .val (.int q52), .val (.int q56), .val (.int q60), .val (.long q62), .second, .val (.long q68), .second, .val (.long q74), .second, .unset, .unset, .unset, .unset] [(.long q17)])) t_ → Steps p.tables e below (s₁.setTop (entryFrame m #[(.long ta), (.long la), (.long tb), (.long lb), (.int sel)] maxLocals)) t_ := fun t_ k_ => s79 t_ (by
        show Steps p.tables e below (T75.setTop (mkF m 157 #[.val (.long ta), .second, .val (.long la), .second, .val (.long tb), .second, .val (.long lb), .second, .val (.int sel), .val (.int q3), .val (.long q10), .second, .val (.long q17), .second, .val (.ref (if q3 = (0 : Int32) then max else mean)), .val (.ref b29), .val (.ref b37), .val (.int q52), .val (.int q56), .val (.int q60), .val (.long q62), .second, .val (.long q68), .second, .val (.long q74), .second, .unset, .unset, .unset, .unset] [(.int q3)])) t_
        refine XS.ifNo X75.here hx rfl (Jvm.hb hby at_157) rfl ((if0 _ _).trans (feq h82).1) ?_
        show Steps p.tables e below (T75.setTop (mkF m 160 #[.val (.long ta), .second, .val (.long la), .second, .val (.long tb), .second, .val (.long lb), .second, .val (.int sel), .val (.int q3), .val (.long q10), .second, .val (.long q17), .second, .val (.ref (if q3 = (0 : Int32) then max else mean)), .val (.ref b29), .val (.ref b37), .val (.int q52), .val (.int q56), .val (.int q60), .val (.long q62), .second, .val (.long q68), .second, .val (.long q74), .second, .unset, .unset, .unset, .unset] [])) _
        refine XS.lload X75.here hx rfl (Jvm.hb hby at_160) rfl ?_
        show Steps p.tables e below (T75.setTop (mkF m 162 #[.val (.long ta), .second, .val (.long la), .second, .val (.long tb), .second, .val (.long lb), .second, .val (.int sel), .val (.int q3), .val (.long q10), .second, .val (.long q17), .second, .val (.ref (if q3 = (0 : Int32) then max else mean)), .val (.ref b29), .val (.ref b37), .val (.int q52), .val (.int q56), .val (.int q60), .val (.long q62), .second, .val (.long q68), .second, .val (.long q74), .second, .unset, .unset, .unset, .unset] [(.long q17)])) _
        refine XS.goto X75.here hx rfl (pc0 := 162) (pc' := 167) rfl (Jvm.hb hby at_162) (by decide) (by decide) ?_
        show Steps p.tables e below (T75.setTop (mkF m 167 #[.val (.long ta), .second, .val (.long la), .second, .val (.long tb), .second, .val (.long lb), .second, .val (.int sel), .val (.int q3), .val (.long q10), .second, .val (.long q17), .second, .val (.ref (if q3 = (0 : Int32) then max else mean)), .val (.ref b29), .val (.ref b37), .val (.int q52), .val (.int q56), .val (.int q60), .val (.long q62), .second, .val (.long q68), .second, .val (.long q74), .second, .unset, .unset, .unset, .unset] [(.long q17)])) _
        show Steps p.tables e below (T75.setTop (mkF m 167 #[.val (.long ta), .second, .val (.long la), .second, .val (.long tb), .second, .val (.long lb), .second, .val (.int sel), .val (.int q3), .val (.long q10), .second, .val (.long q17), .second, .val (.ref (if q3 = (0 : Int32) then max else mean)), .val (.ref b29), .val (.ref b37), .val (.int q52), .val (.int q56), .val (.int q60), .val (.long q62), .second, .val (.long q68), .second, .val (.long q74), .second, .unset, .unset, .unset, .unset] [(.long q17)])) t_
        exact k_)
      exact ⟨T75, X75, e75, fun t_ k_ => s84 t_ (castTop (by simp only [hq80, if_neg h82]) k_)⟩)
  have s85 : ∀ t_, Steps p.tables e below (T81.setTop (mkF m 177 #[.val (.long ta), .second, .val (.long la), .second, .val (.long tb), .second, .val (.long lb), .second, .val (.int sel), .val (.int q3), .val (.long q10), .second, .val (.long q17), .second, .val (.ref (if q3 = (0 : Int32) then max else mean)), .val (.ref b29), .val (.ref b37), .val (.int q52), .val (.int q56), .val (.int q60), .val (.long q62), .second, .val (.long q68), .second, .val (.long q74), .second, .val (.long q80), .second, .unset, .unset] [(.long q80), (.long q74), (.long q68), (.long q62)])) t_ → Steps p.tables e below (s₁.setTop (entryFrame m #[(.long ta), (.long la), (.long tb), (.long lb), (.int sel)] maxLocals)) t_ := fun t_ k_ => s81 t_ (by
    show Steps p.tables e below (T81.setTop (mkF m 167 #[.val (.long ta), .second, .val (.long la), .second, .val (.long tb), .second, .val (.long lb), .second, .val (.int sel), .val (.int q3), .val (.long q10), .second, .val (.long q17), .second, .val (.ref (if q3 = (0 : Int32) then max else mean)), .val (.ref b29), .val (.ref b37), .val (.int q52), .val (.int q56), .val (.int q60), .val (.long q62), .second, .val (.long q68), .second, .val (.long q74), .second, .unset, .unset, .unset, .unset] [(.long q80)])) t_
    refine XS.lstore X81.here hx rfl (Jvm.hb hby at_167) rfl (l' := #[.val (.long ta), .second, .val (.long la), .second, .val (.long tb), .second, .val (.long lb), .second, .val (.int sel), .val (.int q3), .val (.long q10), .second, .val (.long q17), .second, .val (.ref (if q3 = (0 : Int32) then max else mean)), .val (.ref b29), .val (.ref b37), .val (.int q52), .val (.int q56), .val (.int q60), .val (.long q62), .second, .val (.long q68), .second, .val (.long q74), .second, .val (.long q80), .second, .unset, .unset]) rfl ?_
    show Steps p.tables e below (T81.setTop (mkF m 169 #[.val (.long ta), .second, .val (.long la), .second, .val (.long tb), .second, .val (.long lb), .second, .val (.int sel), .val (.int q3), .val (.long q10), .second, .val (.long q17), .second, .val (.ref (if q3 = (0 : Int32) then max else mean)), .val (.ref b29), .val (.ref b37), .val (.int q52), .val (.int q56), .val (.int q60), .val (.long q62), .second, .val (.long q68), .second, .val (.long q74), .second, .val (.long q80), .second, .unset, .unset] [])) _
    refine XS.lload X81.here hx rfl (Jvm.hb hby at_169) rfl ?_
    show Steps p.tables e below (T81.setTop (mkF m 171 #[.val (.long ta), .second, .val (.long la), .second, .val (.long tb), .second, .val (.long lb), .second, .val (.int sel), .val (.int q3), .val (.long q10), .second, .val (.long q17), .second, .val (.ref (if q3 = (0 : Int32) then max else mean)), .val (.ref b29), .val (.ref b37), .val (.int q52), .val (.int q56), .val (.int q60), .val (.long q62), .second, .val (.long q68), .second, .val (.long q74), .second, .val (.long q80), .second, .unset, .unset] [(.long q62)])) _
    refine XS.lload X81.here hx rfl (Jvm.hb hby at_171) rfl ?_
    show Steps p.tables e below (T81.setTop (mkF m 173 #[.val (.long ta), .second, .val (.long la), .second, .val (.long tb), .second, .val (.long lb), .second, .val (.int sel), .val (.int q3), .val (.long q10), .second, .val (.long q17), .second, .val (.ref (if q3 = (0 : Int32) then max else mean)), .val (.ref b29), .val (.ref b37), .val (.int q52), .val (.int q56), .val (.int q60), .val (.long q62), .second, .val (.long q68), .second, .val (.long q74), .second, .val (.long q80), .second, .unset, .unset] [(.long q68), (.long q62)])) _
    refine XS.lload X81.here hx rfl (Jvm.hb hby at_173) rfl ?_
    show Steps p.tables e below (T81.setTop (mkF m 175 #[.val (.long ta), .second, .val (.long la), .second, .val (.long tb), .second, .val (.long lb), .second, .val (.int sel), .val (.int q3), .val (.long q10), .second, .val (.long q17), .second, .val (.ref (if q3 = (0 : Int32) then max else mean)), .val (.ref b29), .val (.ref b37), .val (.int q52), .val (.int q56), .val (.int q60), .val (.long q62), .second, .val (.long q68), .second, .val (.long q74), .second, .val (.long q80), .second, .unset, .unset] [(.long q74), (.long q68), (.long q62)])) _
    refine XS.lload X81.here hx rfl (Jvm.hb hby at_175) rfl ?_
    show Steps p.tables e below (T81.setTop (mkF m 177 #[.val (.long ta), .second, .val (.long la), .second, .val (.long tb), .second, .val (.long lb), .second, .val (.int sel), .val (.int q3), .val (.long q10), .second, .val (.long q17), .second, .val (.ref (if q3 = (0 : Int32) then max else mean)), .val (.ref b29), .val (.ref b37), .val (.int q52), .val (.int q56), .val (.int q60), .val (.long q62), .second, .val (.long q68), .second, .val (.long q74), .second, .val (.long q80), .second, .unset, .unset] [(.long q80), (.long q74), (.long q68), (.long q62)])) _
    show Steps p.tables e below (T81.setTop (mkF m 177 #[.val (.long ta), .second, .val (.long la), .second, .val (.long tb), .second, .val (.long lb), .second, .val (.int sel), .val (.int q3), .val (.long q10), .second, .val (.long q17), .second, .val (.ref (if q3 = (0 : Int32) then max else mean)), .val (.ref b29), .val (.ref b37), .val (.int q52), .val (.int q56), .val (.int q60), .val (.long q62), .second, .val (.long q68), .second, .val (.long q74), .second, .val (.long q80), .second, .unset, .unset] [(.long q80), (.long q74), (.long q68), (.long q62)])) t_
    exact k_)
  have Zc86 : n0 ≤ h43.size := by omega
  obtain ⟨_, _, ⟨T87, L87, k87, n87⟩, -, X87, ⟨Lc87, hQ87, l87, y87, z87⟩, st87⟩ := Jvm.LawKit.callS X81 hx (y := (⟨"com/example/cloudlet_siting/cloudletsiting/planning/MeasureIsBetterThanPinLaw", "smallerFirstByPrimary", "(JJJJ)Z"⟩ : MethodName)) hown (mvT hZ (hw _ (List.mem_of_getElem? (i := 27) rfl))) (mvT hZ (hw _ (List.mem_of_getElem? (i := 28) rfl))) (mvT hZ (hw _ (List.mem_of_getElem? (i := 29) rfl))) (mvT hZ (hw _ (List.mem_of_getElem? (i := 30) rfl))) (by decide) (backOf (W := 0) (rmSm l Z a0 hw [] q62 q68 q74 q80 h43 n0 Zc86) hZ (hw _ (List.mem_of_getElem? (i := 30) rfl)) (hw _ (List.mem_of_getElem? (i := 29) rfl)) (by decide) (by decide)) (g := (mkF m 177 #[.val (.long ta), .second, .val (.long la), .second, .val (.long tb), .second, .val (.long lb), .second, .val (.int sel), .val (.int q3), .val (.long q10), .second, .val (.long q17), .second, .val (.ref (if q3 = (0 : Int32) then max else mean)), .val (.ref b29), .val (.ref b37), .val (.int q52), .val (.int q56), .val (.int q60), .val (.long q62), .second, .val (.long q68), .second, .val (.long q74), .second, .val (.long q80), .second, .unset, .unset] [(.long q80), (.long q74), (.long q68), (.long q62)])) rfl (by rw [hml]; rfl) (argsL := [(.long q62), (.long q68), (.long q74), (.long q80)]) (rest := []) (lenOf pd__JJJJ_Z rfl) rfl (by show 2 * 0 + _ ≤ _; exact Nat.le_of_eq rfl) (Jvm.hb hby at_177) (fun _ _ => ⟨rfl, e81, (by decide : 2 + 0 ≤ _), (by decide : 4 + 0 ≤ _)⟩)
  dsimp only [Pt.U, Pt.locs, Pt.cells, Pt.slots] at X87 l87 y87 z87 st87 hQ87
  subst l87 y87 z87
  obtain ⟨rfl, N87q, e87⟩ := hQ87
  have N87 := Fr.app N59 N87q
  obtain ⟨q88, hq88⟩ : ∃ z : Int32, z = (if (lcmpW q62 q74) = (0 : Int32) then (if (lcmpW q68 q80) < (0 : Int32) then (1 : Int32) else (0 : Int32)) else (if (lcmpW q62 q74) < (0 : Int32) then (1 : Int32) else (0 : Int32))) := ⟨_, rfl⟩
  rw [← hq88] at st87
  have s89 : ∀ t_, Steps p.tables e below (T87.setTop (mkF m 190 #[.val (.long ta), .second, .val (.long la), .second, .val (.long tb), .second, .val (.long lb), .second, .val (.int sel), .val (.int q3), .val (.long q10), .second, .val (.long q17), .second, .val (.ref (if q3 = (0 : Int32) then max else mean)), .val (.ref b29), .val (.ref b37), .val (.int q52), .val (.int q56), .val (.int q60), .val (.long q62), .second, .val (.long q68), .second, .val (.long q74), .second, .val (.long q80), .second, .val (.int q88), .unset] [(.long q68), (.long q62), (.long q80), (.long q74)])) t_ → Steps p.tables e below (s₁.setTop (entryFrame m #[(.long ta), (.long la), (.long tb), (.long lb), (.int sel)] maxLocals)) t_ := fun t_ k_ => s85 t_ (by
    show Steps p.tables e below (T81.setTop (mkF m 177 #[.val (.long ta), .second, .val (.long la), .second, .val (.long tb), .second, .val (.long lb), .second, .val (.int sel), .val (.int q3), .val (.long q10), .second, .val (.long q17), .second, .val (.ref (if q3 = (0 : Int32) then max else mean)), .val (.ref b29), .val (.ref b37), .val (.int q52), .val (.int q56), .val (.int q60), .val (.long q62), .second, .val (.long q68), .second, .val (.long q74), .second, .val (.long q80), .second, .unset, .unset] [(.long q80), (.long q74), (.long q68), (.long q62)])) t_
    refine st87 _ ?_
    show Steps p.tables e below (T87.setTop (mkF m 180 #[.val (.long ta), .second, .val (.long la), .second, .val (.long tb), .second, .val (.long lb), .second, .val (.int sel), .val (.int q3), .val (.long q10), .second, .val (.long q17), .second, .val (.ref (if q3 = (0 : Int32) then max else mean)), .val (.ref b29), .val (.ref b37), .val (.int q52), .val (.int q56), .val (.int q60), .val (.long q62), .second, .val (.long q68), .second, .val (.long q74), .second, .val (.long q80), .second, .unset, .unset] [(.int q88)])) _
    refine XS.istore X87.here hx rfl (Jvm.hb hby at_180) rfl (l' := #[.val (.long ta), .second, .val (.long la), .second, .val (.long tb), .second, .val (.long lb), .second, .val (.int sel), .val (.int q3), .val (.long q10), .second, .val (.long q17), .second, .val (.ref (if q3 = (0 : Int32) then max else mean)), .val (.ref b29), .val (.ref b37), .val (.int q52), .val (.int q56), .val (.int q60), .val (.long q62), .second, .val (.long q68), .second, .val (.long q74), .second, .val (.long q80), .second, .val (.int q88), .unset]) rfl ?_
    show Steps p.tables e below (T87.setTop (mkF m 182 #[.val (.long ta), .second, .val (.long la), .second, .val (.long tb), .second, .val (.long lb), .second, .val (.int sel), .val (.int q3), .val (.long q10), .second, .val (.long q17), .second, .val (.ref (if q3 = (0 : Int32) then max else mean)), .val (.ref b29), .val (.ref b37), .val (.int q52), .val (.int q56), .val (.int q60), .val (.long q62), .second, .val (.long q68), .second, .val (.long q74), .second, .val (.long q80), .second, .val (.int q88), .unset] [])) _
    refine XS.lload X87.here hx rfl (Jvm.hb hby at_182) rfl ?_
    show Steps p.tables e below (T87.setTop (mkF m 184 #[.val (.long ta), .second, .val (.long la), .second, .val (.long tb), .second, .val (.long lb), .second, .val (.int sel), .val (.int q3), .val (.long q10), .second, .val (.long q17), .second, .val (.ref (if q3 = (0 : Int32) then max else mean)), .val (.ref b29), .val (.ref b37), .val (.int q52), .val (.int q56), .val (.int q60), .val (.long q62), .second, .val (.long q68), .second, .val (.long q74), .second, .val (.long q80), .second, .val (.int q88), .unset] [(.long q74)])) _
    refine XS.lload X87.here hx rfl (Jvm.hb hby at_184) rfl ?_
    show Steps p.tables e below (T87.setTop (mkF m 186 #[.val (.long ta), .second, .val (.long la), .second, .val (.long tb), .second, .val (.long lb), .second, .val (.int sel), .val (.int q3), .val (.long q10), .second, .val (.long q17), .second, .val (.ref (if q3 = (0 : Int32) then max else mean)), .val (.ref b29), .val (.ref b37), .val (.int q52), .val (.int q56), .val (.int q60), .val (.long q62), .second, .val (.long q68), .second, .val (.long q74), .second, .val (.long q80), .second, .val (.int q88), .unset] [(.long q80), (.long q74)])) _
    refine XS.lload X87.here hx rfl (Jvm.hb hby at_186) rfl ?_
    show Steps p.tables e below (T87.setTop (mkF m 188 #[.val (.long ta), .second, .val (.long la), .second, .val (.long tb), .second, .val (.long lb), .second, .val (.int sel), .val (.int q3), .val (.long q10), .second, .val (.long q17), .second, .val (.ref (if q3 = (0 : Int32) then max else mean)), .val (.ref b29), .val (.ref b37), .val (.int q52), .val (.int q56), .val (.int q60), .val (.long q62), .second, .val (.long q68), .second, .val (.long q74), .second, .val (.long q80), .second, .val (.int q88), .unset] [(.long q62), (.long q80), (.long q74)])) _
    refine XS.lload X87.here hx rfl (Jvm.hb hby at_188) rfl ?_
    show Steps p.tables e below (T87.setTop (mkF m 190 #[.val (.long ta), .second, .val (.long la), .second, .val (.long tb), .second, .val (.long lb), .second, .val (.int sel), .val (.int q3), .val (.long q10), .second, .val (.long q17), .second, .val (.ref (if q3 = (0 : Int32) then max else mean)), .val (.ref b29), .val (.ref b37), .val (.int q52), .val (.int q56), .val (.int q60), .val (.long q62), .second, .val (.long q68), .second, .val (.long q74), .second, .val (.long q80), .second, .val (.int q88), .unset] [(.long q68), (.long q62), (.long q80), (.long q74)])) _
    show Steps p.tables e below (T87.setTop (mkF m 190 #[.val (.long ta), .second, .val (.long la), .second, .val (.long tb), .second, .val (.long lb), .second, .val (.int sel), .val (.int q3), .val (.long q10), .second, .val (.long q17), .second, .val (.ref (if q3 = (0 : Int32) then max else mean)), .val (.ref b29), .val (.ref b37), .val (.int q52), .val (.int q56), .val (.int q60), .val (.long q62), .second, .val (.long q68), .second, .val (.long q74), .second, .val (.long q80), .second, .val (.int q88), .unset] [(.long q68), (.long q62), (.long q80), (.long q74)])) t_
    exact k_)
  have Zc90 : n0 ≤ h43.size := by omega
  obtain ⟨_, _, ⟨T91, L91, k91, n91⟩, -, X91, ⟨Lc91, hQ91, l91, y91, z91⟩, st91⟩ := Jvm.LawKit.callS X87 hx (y := (⟨"com/example/cloudlet_siting/cloudletsiting/planning/MeasureIsBetterThanPinLaw", "smallerFirstByPrimary", "(JJJJ)Z"⟩ : MethodName)) hown (mvT hZ (hw _ (List.mem_of_getElem? (i := 27) rfl))) (mvT hZ (hw _ (List.mem_of_getElem? (i := 28) rfl))) (mvT hZ (hw _ (List.mem_of_getElem? (i := 29) rfl))) (mvT hZ (hw _ (List.mem_of_getElem? (i := 30) rfl))) (by decide) (backOf (W := 0) (rmSm l Z a0 hw [] q74 q80 q62 q68 h43 n0 Zc90) hZ (hw _ (List.mem_of_getElem? (i := 30) rfl)) (hw _ (List.mem_of_getElem? (i := 29) rfl)) (by decide) (by decide)) (g := (mkF m 190 #[.val (.long ta), .second, .val (.long la), .second, .val (.long tb), .second, .val (.long lb), .second, .val (.int sel), .val (.int q3), .val (.long q10), .second, .val (.long q17), .second, .val (.ref (if q3 = (0 : Int32) then max else mean)), .val (.ref b29), .val (.ref b37), .val (.int q52), .val (.int q56), .val (.int q60), .val (.long q62), .second, .val (.long q68), .second, .val (.long q74), .second, .val (.long q80), .second, .val (.int q88), .unset] [(.long q68), (.long q62), (.long q80), (.long q74)])) rfl (by rw [hml]; rfl) (argsL := [(.long q74), (.long q80), (.long q62), (.long q68)]) (rest := []) (lenOf pd__JJJJ_Z rfl) rfl (by show 2 * 0 + _ ≤ _; exact Nat.le_of_eq rfl) (Jvm.hb hby at_190) (fun _ _ => ⟨rfl, e87, (by decide : 2 + 0 ≤ _), (by decide : 4 + 0 ≤ _)⟩)
  dsimp only [Pt.U, Pt.locs, Pt.cells, Pt.slots] at X91 l91 y91 z91 st91 hQ91
  subst l91 y91 z91
  obtain ⟨rfl, N91q, e91⟩ := hQ91
  have N91 := Fr.app N87 N91q
  obtain ⟨q92, hq92⟩ : ∃ z : Int32, z = (if (lcmpW q74 q62) = (0 : Int32) then (if (lcmpW q80 q68) < (0 : Int32) then (1 : Int32) else (0 : Int32)) else (if (lcmpW q74 q62) < (0 : Int32) then (1 : Int32) else (0 : Int32))) := ⟨_, rfl⟩
  rw [← hq92] at st91
  have s93 : ∀ t_, Steps p.tables e below (T91.setTop (mkF m 199 #[.val (.long ta), .second, .val (.long la), .second, .val (.long tb), .second, .val (.long lb), .second, .val (.int sel), .val (.int q3), .val (.long q10), .second, .val (.long q17), .second, .val (.ref (if q3 = (0 : Int32) then max else mean)), .val (.ref b29), .val (.ref b37), .val (.int q52), .val (.int q56), .val (.int q60), .val (.long q62), .second, .val (.long q68), .second, .val (.long q74), .second, .val (.long q80), .second, .val (.int q88), .val (.int q92)] [(.int q88), (.int q52)])) t_ → Steps p.tables e below (s₁.setTop (entryFrame m #[(.long ta), (.long la), (.long tb), (.long lb), (.int sel)] maxLocals)) t_ := fun t_ k_ => s89 t_ (by
    show Steps p.tables e below (T87.setTop (mkF m 190 #[.val (.long ta), .second, .val (.long la), .second, .val (.long tb), .second, .val (.long lb), .second, .val (.int sel), .val (.int q3), .val (.long q10), .second, .val (.long q17), .second, .val (.ref (if q3 = (0 : Int32) then max else mean)), .val (.ref b29), .val (.ref b37), .val (.int q52), .val (.int q56), .val (.int q60), .val (.long q62), .second, .val (.long q68), .second, .val (.long q74), .second, .val (.long q80), .second, .val (.int q88), .unset] [(.long q68), (.long q62), (.long q80), (.long q74)])) t_
    refine st91 _ ?_
    show Steps p.tables e below (T91.setTop (mkF m 193 #[.val (.long ta), .second, .val (.long la), .second, .val (.long tb), .second, .val (.long lb), .second, .val (.int sel), .val (.int q3), .val (.long q10), .second, .val (.long q17), .second, .val (.ref (if q3 = (0 : Int32) then max else mean)), .val (.ref b29), .val (.ref b37), .val (.int q52), .val (.int q56), .val (.int q60), .val (.long q62), .second, .val (.long q68), .second, .val (.long q74), .second, .val (.long q80), .second, .val (.int q88), .unset] [(.int q92)])) _
    refine XS.istore X91.here hx rfl (Jvm.hb hby at_193) rfl (l' := #[.val (.long ta), .second, .val (.long la), .second, .val (.long tb), .second, .val (.long lb), .second, .val (.int sel), .val (.int q3), .val (.long q10), .second, .val (.long q17), .second, .val (.ref (if q3 = (0 : Int32) then max else mean)), .val (.ref b29), .val (.ref b37), .val (.int q52), .val (.int q56), .val (.int q60), .val (.long q62), .second, .val (.long q68), .second, .val (.long q74), .second, .val (.long q80), .second, .val (.int q88), .val (.int q92)]) rfl ?_
    show Steps p.tables e below (T91.setTop (mkF m 195 #[.val (.long ta), .second, .val (.long la), .second, .val (.long tb), .second, .val (.long lb), .second, .val (.int sel), .val (.int q3), .val (.long q10), .second, .val (.long q17), .second, .val (.ref (if q3 = (0 : Int32) then max else mean)), .val (.ref b29), .val (.ref b37), .val (.int q52), .val (.int q56), .val (.int q60), .val (.long q62), .second, .val (.long q68), .second, .val (.long q74), .second, .val (.long q80), .second, .val (.int q88), .val (.int q92)] [])) _
    refine XS.iload X91.here hx rfl (Jvm.hb hby at_195) rfl ?_
    show Steps p.tables e below (T91.setTop (mkF m 197 #[.val (.long ta), .second, .val (.long la), .second, .val (.long tb), .second, .val (.long lb), .second, .val (.int sel), .val (.int q3), .val (.long q10), .second, .val (.long q17), .second, .val (.ref (if q3 = (0 : Int32) then max else mean)), .val (.ref b29), .val (.ref b37), .val (.int q52), .val (.int q56), .val (.int q60), .val (.long q62), .second, .val (.long q68), .second, .val (.long q74), .second, .val (.long q80), .second, .val (.int q88), .val (.int q92)] [(.int q52)])) _
    refine XS.iload X91.here hx rfl (Jvm.hb hby at_197) rfl ?_
    show Steps p.tables e below (T91.setTop (mkF m 199 #[.val (.long ta), .second, .val (.long la), .second, .val (.long tb), .second, .val (.long lb), .second, .val (.int sel), .val (.int q3), .val (.long q10), .second, .val (.long q17), .second, .val (.ref (if q3 = (0 : Int32) then max else mean)), .val (.ref b29), .val (.ref b37), .val (.int q52), .val (.int q56), .val (.int q60), .val (.long q62), .second, .val (.long q68), .second, .val (.long q74), .second, .val (.long q80), .second, .val (.int q88), .val (.int q92)] [(.int q88), (.int q52)])) _
    show Steps p.tables e below (T91.setTop (mkF m 199 #[.val (.long ta), .second, .val (.long la), .second, .val (.long tb), .second, .val (.long lb), .second, .val (.int sel), .val (.int q3), .val (.long q10), .second, .val (.long q17), .second, .val (.ref (if q3 = (0 : Int32) then max else mean)), .val (.ref b29), .val (.ref b37), .val (.int q52), .val (.int q56), .val (.int q60), .val (.long q62), .second, .val (.long q68), .second, .val (.long q74), .second, .val (.long q80), .second, .val (.int q88), .val (.int q92)] [(.int q88), (.int q52)])) t_
    exact k_)
  obtain ⟨q94, hq94⟩ : ∃ z : Int32, z = (if q52 = q88 then (if q56 = q92 then (if q52 = (0 : Int32) then (if q60 = (0 : Int32) then (1 : Int32) else (0 : Int32)) else (if q56 = (0 : Int32) then (if q60 = (0 : Int32) then (1 : Int32) else (0 : Int32)) else (0 : Int32))) else (0 : Int32)) else (0 : Int32)) := ⟨_, rfl⟩
  obtain ⟨T95, X95, e95, s95⟩ := seg X91 (fun T' => T'.heap = h43 ∧ ∀ t_, Steps p.tables e below (T'.setTop (mkF m 229 #[.val (.long ta), .second, .val (.long la), .second, .val (.long tb), .second, .val (.long lb), .second, .val (.int sel), .val (.int q3), .val (.long q10), .second, .val (.long q17), .second, .val (.ref (if q3 = (0 : Int32) then max else mean)), .val (.ref b29), .val (.ref b37), .val (.int q52), .val (.int q56), .val (.int q60), .val (.long q62), .second, .val (.long q68), .second, .val (.long q74), .second, .val (.long q80), .second, .val (.int q88), .val (.int q92)] [(.int q94)])) t_ → Steps p.tables e below (s₁.setTop (entryFrame m #[(.long ta), (.long la), (.long tb), (.long lb), (.int sel)] maxLocals)) t_) (by
    by_cases h96 : q52 = q88
    · have s97 : ∀ t_, Steps p.tables e below (T91.setTop (mkF m 206 #[.val (.long ta), .second, .val (.long la), .second, .val (.long tb), .second, .val (.long lb), .second, .val (.int sel), .val (.int q3), .val (.long q10), .second, .val (.long q17), .second, .val (.ref (if q3 = (0 : Int32) then max else mean)), .val (.ref b29), .val (.ref b37), .val (.int q52), .val (.int q56), .val (.int q60), .val (.long q62), .second, .val (.long q68), .second, .val (.long q74), .second, .val (.long q80), .second, .val (.int q88), .val (.int q92)] [(.int q92), (.int q56)])) t_ → Steps p.tables e below (s₁.setTop (entryFrame m #[(.long ta), (.long la), (.long tb), (.long lb), (.int sel)] maxLocals)) t_ := fun t_ k_ => s93 t_ (by
        show Steps p.tables e below (T91.setTop (mkF m 199 #[.val (.long ta), .second, .val (.long la), .second, .val (.long tb), .second, .val (.long lb), .second, .val (.int sel), .val (.int q3), .val (.long q10), .second, .val (.long q17), .second, .val (.ref (if q3 = (0 : Int32) then max else mean)), .val (.ref b29), .val (.ref b37), .val (.int q52), .val (.int q56), .val (.int q60), .val (.long q62), .second, .val (.long q68), .second, .val (.long q74), .second, .val (.long q80), .second, .val (.int q88), .val (.int q92)] [(.int q88), (.int q52)])) t_
        refine XS.icmpNo X91.here hx rfl (Jvm.hb hby at_199) rfl (teq h96).2 ?_
        show Steps p.tables e below (T91.setTop (mkF m 202 #[.val (.long ta), .second, .val (.long la), .second, .val (.long tb), .second, .val (.long lb), .second, .val (.int sel), .val (.int q3), .val (.long q10), .second, .val (.long q17), .second, .val (.ref (if q3 = (0 : Int32) then max else mean)), .val (.ref b29), .val (.ref b37), .val (.int q52), .val (.int q56), .val (.int q60), .val (.long q62), .second, .val (.long q68), .second, .val (.long q74), .second, .val (.long q80), .second, .val (.int q88), .val (.int q92)] [])) _
        refine XS.iload X91.here hx rfl (Jvm.hb hby at_202) rfl ?_
        show Steps p.tables e below (T91.setTop (mkF m 204 #[.val (.long ta), .second, .val (.long la), .second, .val (.long tb), .second, .val (.long lb), .second, .val (.int sel), .val (.int q3), .val (.long q10), .second, .val (.long q17), .second, .val (.ref (if q3 = (0 : Int32) then max else mean)), .val (.ref b29), .val (.ref b37), .val (.int q52), .val (.int q56), .val (.int q60), .val (.long q62), .second, .val (.long q68), .second, .val (.long q74), .second, .val (.long q80), .second, .val (.int q88), .val (.int q92)] [(.int q56)])) _
        refine XS.iload X91.here hx rfl (Jvm.hb hby at_204) rfl ?_
        show Steps p.tables e below (T91.setTop (mkF m 206 #[.val (.long ta), .second, .val (.long la), .second, .val (.long tb), .second, .val (.long lb), .second, .val (.int sel), .val (.int q3), .val (.long q10), .second, .val (.long q17), .second, .val (.ref (if q3 = (0 : Int32) then max else mean)), .val (.ref b29), .val (.ref b37), .val (.int q52), .val (.int q56), .val (.int q60), .val (.long q62), .second, .val (.long q68), .second, .val (.long q74), .second, .val (.long q80), .second, .val (.int q88), .val (.int q92)] [(.int q92), (.int q56)])) _
        show Steps p.tables e below (T91.setTop (mkF m 206 #[.val (.long ta), .second, .val (.long la), .second, .val (.long tb), .second, .val (.long lb), .second, .val (.int sel), .val (.int q3), .val (.long q10), .second, .val (.long q17), .second, .val (.ref (if q3 = (0 : Int32) then max else mean)), .val (.ref b29), .val (.ref b37), .val (.int q52), .val (.int q56), .val (.int q60), .val (.long q62), .second, .val (.long q68), .second, .val (.long q74), .second, .val (.long q80), .second, .val (.int q88), .val (.int q92)] [(.int q92), (.int q56)])) t_
        exact k_)
      by_cases h98 : q56 = q92
      · have s99 : ∀ t_, Steps p.tables e below (T91.setTop (mkF m 211 #[.val (.long ta), .second, .val (.long la), .second, .val (.long tb), .second, .val (.long lb), .second, .val (.int sel), .val (.int q3), .val (.long q10), .second, .val (.long q17), .second, .val (.ref (if q3 = (0 : Int32) then max else mean)), .val (.ref b29), .val (.ref b37), .val (.int q52), .val (.int q56), .val (.int q60), .val (.long q62), .second, .val (.long q68), .second, .val (.long q74), .second, .val (.long q80), .second, .val (.int q88), .val (.int q92)] [(.int q52)])) t_ → Steps p.tables e below (s₁.setTop (entryFrame m #[(.long ta), (.long la), (.long tb), (.long lb), (.int sel)] maxLocals)) t_ := fun t_ k_ => s97 t_ (by
          show Steps p.tables e below (T91.setTop (mkF m 206 #[.val (.long ta), .second, .val (.long la), .second, .val (.long tb), .second, .val (.long lb), .second, .val (.int sel), .val (.int q3), .val (.long q10), .second, .val (.long q17), .second, .val (.ref (if q3 = (0 : Int32) then max else mean)), .val (.ref b29), .val (.ref b37), .val (.int q52), .val (.int q56), .val (.int q60), .val (.long q62), .second, .val (.long q68), .second, .val (.long q74), .second, .val (.long q80), .second, .val (.int q88), .val (.int q92)] [(.int q92), (.int q56)])) t_
          refine XS.icmpNo X91.here hx rfl (Jvm.hb hby at_206) rfl (teq h98).2 ?_
          show Steps p.tables e below (T91.setTop (mkF m 209 #[.val (.long ta), .second, .val (.long la), .second, .val (.long tb), .second, .val (.long lb), .second, .val (.int sel), .val (.int q3), .val (.long q10), .second, .val (.long q17), .second, .val (.ref (if q3 = (0 : Int32) then max else mean)), .val (.ref b29), .val (.ref b37), .val (.int q52), .val (.int q56), .val (.int q60), .val (.long q62), .second, .val (.long q68), .second, .val (.long q74), .second, .val (.long q80), .second, .val (.int q88), .val (.int q92)] [])) _
          refine XS.iload X91.here hx rfl (Jvm.hb hby at_209) rfl ?_
          show Steps p.tables e below (T91.setTop (mkF m 211 #[.val (.long ta), .second, .val (.long la), .second, .val (.long tb), .second, .val (.long lb), .second, .val (.int sel), .val (.int q3), .val (.long q10), .second, .val (.long q17), .second, .val (.ref (if q3 = (0 : Int32) then max else mean)), .val (.ref b29), .val (.ref b37), .val (.int q52), .val (.int q56), .val (.int q60), .val (.long q62), .second, .val (.long q68), .second, .val (.long q74), .second, .val (.long q80), .second, .val (.int q88), .val (.int q92)] [(.int q52)])) _
          show Steps p.tables e below (T91.setTop (mkF m 211 #[.val (.long ta), .second, .val (.long la), .second, .val (.long tb), .second, .val (.long lb), .second, .val (.int sel), .val (.int q3), .val (.long q10), .second, .val (.long q17), .second, .val (.ref (if q3 = (0 : Int32) then max else mean)), .val (.ref b29), .val (.ref b37), .val (.int q52), .val (.int q56), .val (.int q60), .val (.long q62), .second, .val (.long q68), .second, .val (.long q74), .second, .val (.long q80), .second, .val (.int q88), .val (.int q92)] [(.int q52)])) t_
          exact k_)
        by_cases h100 : q52 = (0 : Int32)
        · have s101 : ∀ t_, Steps p.tables e below (T91.setTop (mkF m 221 #[.val (.long ta), .second, .val (.long la), .second, .val (.long tb), .second, .val (.long lb), .second, .val (.int sel), .val (.int q3), .val (.long q10), .second, .val (.long q17), .second, .val (.ref (if q3 = (0 : Int32) then max else mean)), .val (.ref b29), .val (.ref b37), .val (.int q52), .val (.int q56), .val (.int q60), .val (.long q62), .second, .val (.long q68), .second, .val (.long q74), .second, .val (.long q80), .second, .val (.int q88), .val (.int q92)] [(.int q60)])) t_ → Steps p.tables e below (s₁.setTop (entryFrame m #[(.long ta), (.long la), (.long tb), (.long lb), (.int sel)] maxLocals)) t_ := fun t_ k_ => s99 t_ (by
            show Steps p.tables e below (T91.setTop (mkF m 211 #[.val (.long ta), .second, .val (.long la), .second, .val (.long tb), .second, .val (.long lb), .second, .val (.int sel), .val (.int q3), .val (.long q10), .second, .val (.long q17), .second, .val (.ref (if q3 = (0 : Int32) then max else mean)), .val (.ref b29), .val (.ref b37), .val (.int q52), .val (.int q56), .val (.int q60), .val (.long q62), .second, .val (.long q68), .second, .val (.long q74), .second, .val (.long q80), .second, .val (.int q88), .val (.int q92)] [(.int q52)])) t_
            refine XS.ifYes X91.here hx rfl (pc0 := 211) (pc' := 219) rfl (Jvm.hb hby at_211) rfl ((if0 _ _).trans (teq h100).1) (by decide) (by decide) ?_
            show Steps p.tables e below (T91.setTop (mkF m 219 #[.val (.long ta), .second, .val (.long la), .second, .val (.long tb), .second, .val (.long lb), .second, .val (.int sel), .val (.int q3), .val (.long q10), .second, .val (.long q17), .second, .val (.ref (if q3 = (0 : Int32) then max else mean)), .val (.ref b29), .val (.ref b37), .val (.int q52), .val (.int q56), .val (.int q60), .val (.long q62), .second, .val (.long q68), .second, .val (.long q74), .second, .val (.long q80), .second, .val (.int q88), .val (.int q92)] [])) _
            refine XS.iload X91.here hx rfl (Jvm.hb hby at_219) rfl ?_
            show Steps p.tables e below (T91.setTop (mkF m 221 #[.val (.long ta), .second, .val (.long la), .second, .val (.long tb), .second, .val (.long lb), .second, .val (.int sel), .val (.int q3), .val (.long q10), .second, .val (.long q17), .second, .val (.ref (if q3 = (0 : Int32) then max else mean)), .val (.ref b29), .val (.ref b37), .val (.int q52), .val (.int q56), .val (.int q60), .val (.long q62), .second, .val (.long q68), .second, .val (.long q74), .second, .val (.long q80), .second, .val (.int q88), .val (.int q92)] [(.int q60)])) _
            show Steps p.tables e below (T91.setTop (mkF m 221 #[.val (.long ta), .second, .val (.long la), .second, .val (.long tb), .second, .val (.long lb), .second, .val (.int sel), .val (.int q3), .val (.long q10), .second, .val (.long q17), .second, .val (.ref (if q3 = (0 : Int32) then max else mean)), .val (.ref b29), .val (.ref b37), .val (.int q52), .val (.int q56), .val (.int q60), .val (.long q62), .second, .val (.long q68), .second, .val (.long q74), .second, .val (.long q80), .second, .val (.int q88), .val (.int q92)] [(.int q60)])) t_
            exact k_)
          by_cases h102 : q60 = (0 : Int32)
          · have s103 : ∀ t_, Steps p.tables e below (T91.setTop (mkF m 229 #[.val (.long ta), .second, .val (.long la), .second, .val (.long tb), .second, .val (.long lb), .second, .val (.int sel), .val (.int q3), .val (.long q10), .second, .val (.long q17), .second, .val (.ref (if q3 = (0 : Int32) then max else mean)), .val (.ref b29), .val (.ref b37), .val (.int q52), .val (.int q56), .val (.int q60), .val (.long q62), .second, .val (.long q68), .second, .val (.long q74), .second, .val (.long q80), .second, .val (.int q88), .val (.int q92)] [(.int (1 : Int32))])) t_ → Steps p.tables e below (s₁.setTop (entryFrame m #[(.long ta), (.long la), (.long tb), (.long lb), (.int sel)] maxLocals)) t_ := fun t_ k_ => s101 t_ (by
              show Steps p.tables e below (T91.setTop (mkF m 221 #[.val (.long ta), .second, .val (.long la), .second, .val (.long tb), .second, .val (.long lb), .second, .val (.int sel), .val (.int q3), .val (.long q10), .second, .val (.long q17), .second, .val (.ref (if q3 = (0 : Int32) then max else mean)), .val (.ref b29), .val (.ref b37), .val (.int q52), .val (.int q56), .val (.int q60), .val (.long q62), .second, .val (.long q68), .second, .val (.long q74), .second, .val (.long q80), .second, .val (.int q88), .val (.int q92)] [(.int q60)])) t_
              refine XS.ifNo X91.here hx rfl (Jvm.hb hby at_221) rfl ((if0 _ _).trans (teq h102).2) ?_
              show Steps p.tables e below (T91.setTop (mkF m 224 #[.val (.long ta), .second, .val (.long la), .second, .val (.long tb), .second, .val (.long lb), .second, .val (.int sel), .val (.int q3), .val (.long q10), .second, .val (.long q17), .second, .val (.ref (if q3 = (0 : Int32) then max else mean)), .val (.ref b29), .val (.ref b37), .val (.int q52), .val (.int q56), .val (.int q60), .val (.long q62), .second, .val (.long q68), .second, .val (.long q74), .second, .val (.long q80), .second, .val (.int q88), .val (.int q92)] [])) _
              refine XS.iconst X91.here hx rfl (Jvm.hb hby at_224) ?_
              show Steps p.tables e below (T91.setTop (mkF m 225 #[.val (.long ta), .second, .val (.long la), .second, .val (.long tb), .second, .val (.long lb), .second, .val (.int sel), .val (.int q3), .val (.long q10), .second, .val (.long q17), .second, .val (.ref (if q3 = (0 : Int32) then max else mean)), .val (.ref b29), .val (.ref b37), .val (.int q52), .val (.int q56), .val (.int q60), .val (.long q62), .second, .val (.long q68), .second, .val (.long q74), .second, .val (.long q80), .second, .val (.int q88), .val (.int q92)] [(.int (1 : Int32))])) _
              refine XS.goto X91.here hx rfl (pc0 := 225) (pc' := 229) rfl (Jvm.hb hby at_225) (by decide) (by decide) ?_
              show Steps p.tables e below (T91.setTop (mkF m 229 #[.val (.long ta), .second, .val (.long la), .second, .val (.long tb), .second, .val (.long lb), .second, .val (.int sel), .val (.int q3), .val (.long q10), .second, .val (.long q17), .second, .val (.ref (if q3 = (0 : Int32) then max else mean)), .val (.ref b29), .val (.ref b37), .val (.int q52), .val (.int q56), .val (.int q60), .val (.long q62), .second, .val (.long q68), .second, .val (.long q74), .second, .val (.long q80), .second, .val (.int q88), .val (.int q92)] [(.int (1 : Int32))])) _
              show Steps p.tables e below (T91.setTop (mkF m 229 #[.val (.long ta), .second, .val (.long la), .second, .val (.long tb), .second, .val (.long lb), .second, .val (.int sel), .val (.int q3), .val (.long q10), .second, .val (.long q17), .second, .val (.ref (if q3 = (0 : Int32) then max else mean)), .val (.ref b29), .val (.ref b37), .val (.int q52), .val (.int q56), .val (.int q60), .val (.long q62), .second, .val (.long q68), .second, .val (.long q74), .second, .val (.long q80), .second, .val (.int q88), .val (.int q92)] [(.int (1 : Int32))])) t_
              exact k_)
            exact ⟨T91, X91, e91, fun t_ k_ => s103 t_ (castTop (by simp only [hq94, if_pos h96, if_pos h98, if_pos h100, if_pos h102]) k_)⟩
          · have s104 : ∀ t_, Steps p.tables e below (T91.setTop (mkF m 229 #[.val (.long ta), .second, .val (.long la), .second, .val (.long tb), .second, .val (.long lb), .second, .val (.int sel), .val (.int q3), .val (.long q10), .second, .val (.long q17), .second, .val (.ref (if q3 = (0 : Int32) then max else mean)), .val (.ref b29), .val (.ref b37), .val (.int q52), .val (.int q56), .val (.int q60), .val (.long q62), .second, .val (.long q68), .second, .val (.long q74), .second, .val (.long q80), .second, .val (.int q88), .val (.int q92)] [(.int (0 : Int32))])) t_ → Steps p.tables e below (s₁.setTop (entryFrame m #[(.long ta), (.long la), (.long tb), (.long lb), (.int sel)] maxLocals)) t_ := fun t_ k_ => s101 t_ (by
              show Steps p.tables e below (T91.setTop (mkF m 221 #[.val (.long ta), .second, .val (.long la), .second, .val (.long tb), .second, .val (.long lb), .second, .val (.int sel), .val (.int q3), .val (.long q10), .second, .val (.long q17), .second, .val (.ref (if q3 = (0 : Int32) then max else mean)), .val (.ref b29), .val (.ref b37), .val (.int q52), .val (.int q56), .val (.int q60), .val (.long q62), .second, .val (.long q68), .second, .val (.long q74), .second, .val (.long q80), .second, .val (.int q88), .val (.int q92)] [(.int q60)])) t_
              refine XS.ifYes X91.here hx rfl (pc0 := 221) (pc' := 228) rfl (Jvm.hb hby at_221) rfl ((if0 _ _).trans (feq h102).2) (by decide) (by decide) ?_
              show Steps p.tables e below (T91.setTop (mkF m 228 #[.val (.long ta), .second, .val (.long la), .second, .val (.long tb), .second, .val (.long lb), .second, .val (.int sel), .val (.int q3), .val (.long q10), .second, .val (.long q17), .second, .val (.ref (if q3 = (0 : Int32) then max else mean)), .val (.ref b29), .val (.ref b37), .val (.int q52), .val (.int q56), .val (.int q60), .val (.long q62), .second, .val (.long q68), .second, .val (.long q74), .second, .val (.long q80), .second, .val (.int q88), .val (.int q92)] [])) _
              refine XS.iconst X91.here hx rfl (Jvm.hb hby at_228) ?_
              show Steps p.tables e below (T91.setTop (mkF m 229 #[.val (.long ta), .second, .val (.long la), .second, .val (.long tb), .second, .val (.long lb), .second, .val (.int sel), .val (.int q3), .val (.long q10), .second, .val (.long q17), .second, .val (.ref (if q3 = (0 : Int32) then max else mean)), .val (.ref b29), .val (.ref b37), .val (.int q52), .val (.int q56), .val (.int q60), .val (.long q62), .second, .val (.long q68), .second, .val (.long q74), .second, .val (.long q80), .second, .val (.int q88), .val (.int q92)] [(.int (0 : Int32))])) _
              show Steps p.tables e below (T91.setTop (mkF m 229 #[.val (.long ta), .second, .val (.long la), .second, .val (.long tb), .second, .val (.long lb), .second, .val (.int sel), .val (.int q3), .val (.long q10), .second, .val (.long q17), .second, .val (.ref (if q3 = (0 : Int32) then max else mean)), .val (.ref b29), .val (.ref b37), .val (.int q52), .val (.int q56), .val (.int q60), .val (.long q62), .second, .val (.long q68), .second, .val (.long q74), .second, .val (.long q80), .second, .val (.int q88), .val (.int q92)] [(.int (0 : Int32))])) t_
              exact k_)
            exact ⟨T91, X91, e91, fun t_ k_ => s104 t_ (castTop (by simp only [hq94, if_pos h96, if_pos h98, if_pos h100, if_neg h102]) k_)⟩
        · have s105 : ∀ t_, Steps p.tables e below (T91.setTop (mkF m 216 #[.val (.long ta), .second, .val (.long la), .second, .val (.long tb), .second, .val (.long lb), .second, .val (.int sel), .val (.int q3), .val (.long q10), .second, .val (.long q17), .second, .val (.ref (if q3 = (0 : Int32) then max else mean)), .val (.ref b29), .val (.ref b37), .val (.int q52), .val (.int q56), .val (.int q60), .val (.long q62), .second, .val (.long q68), .second, .val (.long q74), .second, .val (.long q80), .second, .val (.int q88), .val (.int q92)] [(.int q56)])) t_ → Steps p.tables e below (s₁.setTop (entryFrame m #[(.long ta), (.long la), (.long tb), (.long lb), (.int sel)] maxLocals)) t_ := fun t_ k_ => s99 t_ (by
            show Steps p.tables e below (T91.setTop (mkF m 211 #[.val (.long ta), .second, .val (.long la), .second, .val (.long tb), .second, .val (.long lb), .second, .val (.int sel), .val (.int q3), .val (.long q10), .second, .val (.long q17), .second, .val (.ref (if q3 = (0 : Int32) then max else mean)), .val (.ref b29), .val (.ref b37), .val (.int q52), .val (.int q56), .val (.int q60), .val (.long q62), .second, .val (.long q68), .second, .val (.long q74), .second, .val (.long q80), .second, .val (.int q88), .val (.int q92)] [(.int q52)])) t_
            refine XS.ifNo X91.here hx rfl (Jvm.hb hby at_211) rfl ((if0 _ _).trans (feq h100).1) ?_
            show Steps p.tables e below (T91.setTop (mkF m 214 #[.val (.long ta), .second, .val (.long la), .second, .val (.long tb), .second, .val (.long lb), .second, .val (.int sel), .val (.int q3), .val (.long q10), .second, .val (.long q17), .second, .val (.ref (if q3 = (0 : Int32) then max else mean)), .val (.ref b29), .val (.ref b37), .val (.int q52), .val (.int q56), .val (.int q60), .val (.long q62), .second, .val (.long q68), .second, .val (.long q74), .second, .val (.long q80), .second, .val (.int q88), .val (.int q92)] [])) _
            refine XS.iload X91.here hx rfl (Jvm.hb hby at_214) rfl ?_
            show Steps p.tables e below (T91.setTop (mkF m 216 #[.val (.long ta), .second, .val (.long la), .second, .val (.long tb), .second, .val (.long lb), .second, .val (.int sel), .val (.int q3), .val (.long q10), .second, .val (.long q17), .second, .val (.ref (if q3 = (0 : Int32) then max else mean)), .val (.ref b29), .val (.ref b37), .val (.int q52), .val (.int q56), .val (.int q60), .val (.long q62), .second, .val (.long q68), .second, .val (.long q74), .second, .val (.long q80), .second, .val (.int q88), .val (.int q92)] [(.int q56)])) _
            show Steps p.tables e below (T91.setTop (mkF m 216 #[.val (.long ta), .second, .val (.long la), .second, .val (.long tb), .second, .val (.long lb), .second, .val (.int sel), .val (.int q3), .val (.long q10), .second, .val (.long q17), .second, .val (.ref (if q3 = (0 : Int32) then max else mean)), .val (.ref b29), .val (.ref b37), .val (.int q52), .val (.int q56), .val (.int q60), .val (.long q62), .second, .val (.long q68), .second, .val (.long q74), .second, .val (.long q80), .second, .val (.int q88), .val (.int q92)] [(.int q56)])) t_
            exact k_)
          by_cases h106 : q56 = (0 : Int32)
          · have s107 : ∀ t_, Steps p.tables e below (T91.setTop (mkF m 221 #[.val (.long ta), .second, .val (.long la), .second, .val (.long tb), .second, .val (.long lb), .second, .val (.int sel), .val (.int q3), .val (.long q10), .second, .val (.long q17), .second, .val (.ref (if q3 = (0 : Int32) then max else mean)), .val (.ref b29), .val (.ref b37), .val (.int q52), .val (.int q56), .val (.int q60), .val (.long q62), .second, .val (.long q68), .second, .val (.long q74), .second, .val (.long q80), .second, .val (.int q88), .val (.int q92)] [(.int q60)])) t_ → Steps p.tables e below (s₁.setTop (entryFrame m #[(.long ta), (.long la), (.long tb), (.long lb), (.int sel)] maxLocals)) t_ := fun t_ k_ => s105 t_ (by
              show Steps p.tables e below (T91.setTop (mkF m 216 #[.val (.long ta), .second, .val (.long la), .second, .val (.long tb), .second, .val (.long lb), .second, .val (.int sel), .val (.int q3), .val (.long q10), .second, .val (.long q17), .second, .val (.ref (if q3 = (0 : Int32) then max else mean)), .val (.ref b29), .val (.ref b37), .val (.int q52), .val (.int q56), .val (.int q60), .val (.long q62), .second, .val (.long q68), .second, .val (.long q74), .second, .val (.long q80), .second, .val (.int q88), .val (.int q92)] [(.int q56)])) t_
              refine XS.ifNo X91.here hx rfl (Jvm.hb hby at_216) rfl ((if0 _ _).trans (teq h106).2) ?_
              show Steps p.tables e below (T91.setTop (mkF m 219 #[.val (.long ta), .second, .val (.long la), .second, .val (.long tb), .second, .val (.long lb), .second, .val (.int sel), .val (.int q3), .val (.long q10), .second, .val (.long q17), .second, .val (.ref (if q3 = (0 : Int32) then max else mean)), .val (.ref b29), .val (.ref b37), .val (.int q52), .val (.int q56), .val (.int q60), .val (.long q62), .second, .val (.long q68), .second, .val (.long q74), .second, .val (.long q80), .second, .val (.int q88), .val (.int q92)] [])) _
              refine XS.iload X91.here hx rfl (Jvm.hb hby at_219) rfl ?_
              show Steps p.tables e below (T91.setTop (mkF m 221 #[.val (.long ta), .second, .val (.long la), .second, .val (.long tb), .second, .val (.long lb), .second, .val (.int sel), .val (.int q3), .val (.long q10), .second, .val (.long q17), .second, .val (.ref (if q3 = (0 : Int32) then max else mean)), .val (.ref b29), .val (.ref b37), .val (.int q52), .val (.int q56), .val (.int q60), .val (.long q62), .second, .val (.long q68), .second, .val (.long q74), .second, .val (.long q80), .second, .val (.int q88), .val (.int q92)] [(.int q60)])) _
              show Steps p.tables e below (T91.setTop (mkF m 221 #[.val (.long ta), .second, .val (.long la), .second, .val (.long tb), .second, .val (.long lb), .second, .val (.int sel), .val (.int q3), .val (.long q10), .second, .val (.long q17), .second, .val (.ref (if q3 = (0 : Int32) then max else mean)), .val (.ref b29), .val (.ref b37), .val (.int q52), .val (.int q56), .val (.int q60), .val (.long q62), .second, .val (.long q68), .second, .val (.long q74), .second, .val (.long q80), .second, .val (.int q88), .val (.int q92)] [(.int q60)])) t_
              exact k_)
            by_cases h108 : q60 = (0 : Int32)
            · have s109 : ∀ t_, Steps p.tables e below (T91.setTop (mkF m 229 #[.val (.long ta), .second, .val (.long la), .second, .val (.long tb), .second, .val (.long lb), .second, .val (.int sel), .val (.int q3), .val (.long q10), .second, .val (.long q17), .second, .val (.ref (if q3 = (0 : Int32) then max else mean)), .val (.ref b29), .val (.ref b37), .val (.int q52), .val (.int q56), .val (.int q60), .val (.long q62), .second, .val (.long q68), .second, .val (.long q74), .second, .val (.long q80), .second, .val (.int q88), .val (.int q92)] [(.int (1 : Int32))])) t_ → Steps p.tables e below (s₁.setTop (entryFrame m #[(.long ta), (.long la), (.long tb), (.long lb), (.int sel)] maxLocals)) t_ := fun t_ k_ => s107 t_ (by
                show Steps p.tables e below (T91.setTop (mkF m 221 #[.val (.long ta), .second, .val (.long la), .second, .val (.long tb), .second, .val (.long lb), .second, .val (.int sel), .val (.int q3), .val (.long q10), .second, .val (.long q17), .second, .val (.ref (if q3 = (0 : Int32) then max else mean)), .val (.ref b29), .val (.ref b37), .val (.int q52), .val (.int q56), .val (.int q60), .val (.long q62), .second, .val (.long q68), .second, .val (.long q74), .second, .val (.long q80), .second, .val (.int q88), .val (.int q92)] [(.int q60)])) t_
                refine XS.ifNo X91.here hx rfl (Jvm.hb hby at_221) rfl ((if0 _ _).trans (teq h108).2) ?_
                show Steps p.tables e below (T91.setTop (mkF m 224 #[.val (.long ta), .second, .val (.long la), .second, .val (.long tb), .second, .val (.long lb), .second, .val (.int sel), .val (.int q3), .val (.long q10), .second, .val (.long q17), .second, .val (.ref (if q3 = (0 : Int32) then max else mean)), .val (.ref b29), .val (.ref b37), .val (.int q52), .val (.int q56), .val (.int q60), .val (.long q62), .second, .val (.long q68), .second, .val (.long q74), .second, .val (.long q80), .second, .val (.int q88), .val (.int q92)] [])) _
                refine XS.iconst X91.here hx rfl (Jvm.hb hby at_224) ?_
                show Steps p.tables e below (T91.setTop (mkF m 225 #[.val (.long ta), .second, .val (.long la), .second, .val (.long tb), .second, .val (.long lb), .second, .val (.int sel), .val (.int q3), .val (.long q10), .second, .val (.long q17), .second, .val (.ref (if q3 = (0 : Int32) then max else mean)), .val (.ref b29), .val (.ref b37), .val (.int q52), .val (.int q56), .val (.int q60), .val (.long q62), .second, .val (.long q68), .second, .val (.long q74), .second, .val (.long q80), .second, .val (.int q88), .val (.int q92)] [(.int (1 : Int32))])) _
                refine XS.goto X91.here hx rfl (pc0 := 225) (pc' := 229) rfl (Jvm.hb hby at_225) (by decide) (by decide) ?_
                show Steps p.tables e below (T91.setTop (mkF m 229 #[.val (.long ta), .second, .val (.long la), .second, .val (.long tb), .second, .val (.long lb), .second, .val (.int sel), .val (.int q3), .val (.long q10), .second, .val (.long q17), .second, .val (.ref (if q3 = (0 : Int32) then max else mean)), .val (.ref b29), .val (.ref b37), .val (.int q52), .val (.int q56), .val (.int q60), .val (.long q62), .second, .val (.long q68), .second, .val (.long q74), .second, .val (.long q80), .second, .val (.int q88), .val (.int q92)] [(.int (1 : Int32))])) _
                show Steps p.tables e below (T91.setTop (mkF m 229 #[.val (.long ta), .second, .val (.long la), .second, .val (.long tb), .second, .val (.long lb), .second, .val (.int sel), .val (.int q3), .val (.long q10), .second, .val (.long q17), .second, .val (.ref (if q3 = (0 : Int32) then max else mean)), .val (.ref b29), .val (.ref b37), .val (.int q52), .val (.int q56), .val (.int q60), .val (.long q62), .second, .val (.long q68), .second, .val (.long q74), .second, .val (.long q80), .second, .val (.int q88), .val (.int q92)] [(.int (1 : Int32))])) t_
                exact k_)
              exact ⟨T91, X91, e91, fun t_ k_ => s109 t_ (castTop (by simp only [hq94, if_pos h96, if_pos h98, if_neg h100, if_pos h106, if_pos h108]) k_)⟩
            · have s110 : ∀ t_, Steps p.tables e below (T91.setTop (mkF m 229 #[.val (.long ta), .second, .val (.long la), .second, .val (.long tb), .second, .val (.long lb), .second, .val (.int sel), .val (.int q3), .val (.long q10), .second, .val (.long q17), .second, .val (.ref (if q3 = (0 : Int32) then max else mean)), .val (.ref b29), .val (.ref b37), .val (.int q52), .val (.int q56), .val (.int q60), .val (.long q62), .second, .val (.long q68), .second, .val (.long q74), .second, .val (.long q80), .second, .val (.int q88), .val (.int q92)] [(.int (0 : Int32))])) t_ → Steps p.tables e below (s₁.setTop (entryFrame m #[(.long ta), (.long la), (.long tb), (.long lb), (.int sel)] maxLocals)) t_ := fun t_ k_ => s107 t_ (by
                show Steps p.tables e below (T91.setTop (mkF m 221 #[.val (.long ta), .second, .val (.long la), .second, .val (.long tb), .second, .val (.long lb), .second, .val (.int sel), .val (.int q3), .val (.long q10), .second, .val (.long q17), .second, .val (.ref (if q3 = (0 : Int32) then max else mean)), .val (.ref b29), .val (.ref b37), .val (.int q52), .val (.int q56), .val (.int q60), .val (.long q62), .second, .val (.long q68), .second, .val (.long q74), .second, .val (.long q80), .second, .val (.int q88), .val (.int q92)] [(.int q60)])) t_
                refine XS.ifYes X91.here hx rfl (pc0 := 221) (pc' := 228) rfl (Jvm.hb hby at_221) rfl ((if0 _ _).trans (feq h108).2) (by decide) (by decide) ?_
                show Steps p.tables e below (T91.setTop (mkF m 228 #[.val (.long ta), .second, .val (.long la), .second, .val (.long tb), .second, .val (.long lb), .second, .val (.int sel), .val (.int q3), .val (.long q10), .second, .val (.long q17), .second, .val (.ref (if q3 = (0 : Int32) then max else mean)), .val (.ref b29), .val (.ref b37), .val (.int q52), .val (.int q56), .val (.int q60), .val (.long q62), .second, .val (.long q68), .second, .val (.long q74), .second, .val (.long q80), .second, .val (.int q88), .val (.int q92)] [])) _
                refine XS.iconst X91.here hx rfl (Jvm.hb hby at_228) ?_
                show Steps p.tables e below (T91.setTop (mkF m 229 #[.val (.long ta), .second, .val (.long la), .second, .val (.long tb), .second, .val (.long lb), .second, .val (.int sel), .val (.int q3), .val (.long q10), .second, .val (.long q17), .second, .val (.ref (if q3 = (0 : Int32) then max else mean)), .val (.ref b29), .val (.ref b37), .val (.int q52), .val (.int q56), .val (.int q60), .val (.long q62), .second, .val (.long q68), .second, .val (.long q74), .second, .val (.long q80), .second, .val (.int q88), .val (.int q92)] [(.int (0 : Int32))])) _
                show Steps p.tables e below (T91.setTop (mkF m 229 #[.val (.long ta), .second, .val (.long la), .second, .val (.long tb), .second, .val (.long lb), .second, .val (.int sel), .val (.int q3), .val (.long q10), .second, .val (.long q17), .second, .val (.ref (if q3 = (0 : Int32) then max else mean)), .val (.ref b29), .val (.ref b37), .val (.int q52), .val (.int q56), .val (.int q60), .val (.long q62), .second, .val (.long q68), .second, .val (.long q74), .second, .val (.long q80), .second, .val (.int q88), .val (.int q92)] [(.int (0 : Int32))])) t_
                exact k_)
              exact ⟨T91, X91, e91, fun t_ k_ => s110 t_ (castTop (by simp only [hq94, if_pos h96, if_pos h98, if_neg h100, if_pos h106, if_neg h108]) k_)⟩
          · have s111 : ∀ t_, Steps p.tables e below (T91.setTop (mkF m 229 #[.val (.long ta), .second, .val (.long la), .second, .val (.long tb), .second, .val (.long lb), .second, .val (.int sel), .val (.int q3), .val (.long q10), .second, .val (.long q17), .second, .val (.ref (if q3 = (0 : Int32) then max else mean)), .val (.ref b29), .val (.ref b37), .val (.int q52), .val (.int q56), .val (.int q60), .val (.long q62), .second, .val (.long q68), .second, .val (.long q74), .second, .val (.long q80), .second, .val (.int q88), .val (.int q92)] [(.int (0 : Int32))])) t_ → Steps p.tables e below (s₁.setTop (entryFrame m #[(.long ta), (.long la), (.long tb), (.long lb), (.int sel)] maxLocals)) t_ := fun t_ k_ => s105 t_ (by
              show Steps p.tables e below (T91.setTop (mkF m 216 #[.val (.long ta), .second, .val (.long la), .second, .val (.long tb), .second, .val (.long lb), .second, .val (.int sel), .val (.int q3), .val (.long q10), .second, .val (.long q17), .second, .val (.ref (if q3 = (0 : Int32) then max else mean)), .val (.ref b29), .val (.ref b37), .val (.int q52), .val (.int q56), .val (.int q60), .val (.long q62), .second, .val (.long q68), .second, .val (.long q74), .second, .val (.long q80), .second, .val (.int q88), .val (.int q92)] [(.int q56)])) t_
              refine XS.ifYes X91.here hx rfl (pc0 := 216) (pc' := 228) rfl (Jvm.hb hby at_216) rfl ((if0 _ _).trans (feq h106).2) (by decide) (by decide) ?_
              show Steps p.tables e below (T91.setTop (mkF m 228 #[.val (.long ta), .second, .val (.long la), .second, .val (.long tb), .second, .val (.long lb), .second, .val (.int sel), .val (.int q3), .val (.long q10), .second, .val (.long q17), .second, .val (.ref (if q3 = (0 : Int32) then max else mean)), .val (.ref b29), .val (.ref b37), .val (.int q52), .val (.int q56), .val (.int q60), .val (.long q62), .second, .val (.long q68), .second, .val (.long q74), .second, .val (.long q80), .second, .val (.int q88), .val (.int q92)] [])) _
              refine XS.iconst X91.here hx rfl (Jvm.hb hby at_228) ?_
              show Steps p.tables e below (T91.setTop (mkF m 229 #[.val (.long ta), .second, .val (.long la), .second, .val (.long tb), .second, .val (.long lb), .second, .val (.int sel), .val (.int q3), .val (.long q10), .second, .val (.long q17), .second, .val (.ref (if q3 = (0 : Int32) then max else mean)), .val (.ref b29), .val (.ref b37), .val (.int q52), .val (.int q56), .val (.int q60), .val (.long q62), .second, .val (.long q68), .second, .val (.long q74), .second, .val (.long q80), .second, .val (.int q88), .val (.int q92)] [(.int (0 : Int32))])) _
              show Steps p.tables e below (T91.setTop (mkF m 229 #[.val (.long ta), .second, .val (.long la), .second, .val (.long tb), .second, .val (.long lb), .second, .val (.int sel), .val (.int q3), .val (.long q10), .second, .val (.long q17), .second, .val (.ref (if q3 = (0 : Int32) then max else mean)), .val (.ref b29), .val (.ref b37), .val (.int q52), .val (.int q56), .val (.int q60), .val (.long q62), .second, .val (.long q68), .second, .val (.long q74), .second, .val (.long q80), .second, .val (.int q88), .val (.int q92)] [(.int (0 : Int32))])) t_
              exact k_)
            exact ⟨T91, X91, e91, fun t_ k_ => s111 t_ (castTop (by simp only [hq94, if_pos h96, if_pos h98, if_neg h100, if_neg h106]) k_)⟩
      · have s112 : ∀ t_, Steps p.tables e below (T91.setTop (mkF m 229 #[.val (.long ta), .second, .val (.long la), .second, .val (.long tb), .second, .val (.long lb), .second, .val (.int sel), .val (.int q3), .val (.long q10), .second, .val (.long q17), .second, .val (.ref (if q3 = (0 : Int32) then max else mean)), .val (.ref b29), .val (.ref b37), .val (.int q52), .val (.int q56), .val (.int q60), .val (.long q62), .second, .val (.long q68), .second, .val (.long q74), .second, .val (.long q80), .second, .val (.int q88), .val (.int q92)] [(.int (0 : Int32))])) t_ → Steps p.tables e below (s₁.setTop (entryFrame m #[(.long ta), (.long la), (.long tb), (.long lb), (.int sel)] maxLocals)) t_ := fun t_ k_ => s97 t_ (by
          show Steps p.tables e below (T91.setTop (mkF m 206 #[.val (.long ta), .second, .val (.long la), .second, .val (.long tb), .second, .val (.long lb), .second, .val (.int sel), .val (.int q3), .val (.long q10), .second, .val (.long q17), .second, .val (.ref (if q3 = (0 : Int32) then max else mean)), .val (.ref b29), .val (.ref b37), .val (.int q52), .val (.int q56), .val (.int q60), .val (.long q62), .second, .val (.long q68), .second, .val (.long q74), .second, .val (.long q80), .second, .val (.int q88), .val (.int q92)] [(.int q92), (.int q56)])) t_
          refine XS.icmpYes X91.here hx rfl (pc0 := 206) (pc' := 228) rfl (Jvm.hb hby at_206) rfl (feq h98).2 (by decide) (by decide) ?_
          show Steps p.tables e below (T91.setTop (mkF m 228 #[.val (.long ta), .second, .val (.long la), .second, .val (.long tb), .second, .val (.long lb), .second, .val (.int sel), .val (.int q3), .val (.long q10), .second, .val (.long q17), .second, .val (.ref (if q3 = (0 : Int32) then max else mean)), .val (.ref b29), .val (.ref b37), .val (.int q52), .val (.int q56), .val (.int q60), .val (.long q62), .second, .val (.long q68), .second, .val (.long q74), .second, .val (.long q80), .second, .val (.int q88), .val (.int q92)] [])) _
          refine XS.iconst X91.here hx rfl (Jvm.hb hby at_228) ?_
          show Steps p.tables e below (T91.setTop (mkF m 229 #[.val (.long ta), .second, .val (.long la), .second, .val (.long tb), .second, .val (.long lb), .second, .val (.int sel), .val (.int q3), .val (.long q10), .second, .val (.long q17), .second, .val (.ref (if q3 = (0 : Int32) then max else mean)), .val (.ref b29), .val (.ref b37), .val (.int q52), .val (.int q56), .val (.int q60), .val (.long q62), .second, .val (.long q68), .second, .val (.long q74), .second, .val (.long q80), .second, .val (.int q88), .val (.int q92)] [(.int (0 : Int32))])) _
          show Steps p.tables e below (T91.setTop (mkF m 229 #[.val (.long ta), .second, .val (.long la), .second, .val (.long tb), .second, .val (.long lb), .second, .val (.int sel), .val (.int q3), .val (.long q10), .second, .val (.long q17), .second, .val (.ref (if q3 = (0 : Int32) then max else mean)), .val (.ref b29), .val (.ref b37), .val (.int q52), .val (.int q56), .val (.int q60), .val (.long q62), .second, .val (.long q68), .second, .val (.long q74), .second, .val (.long q80), .second, .val (.int q88), .val (.int q92)] [(.int (0 : Int32))])) t_
          exact k_)
        exact ⟨T91, X91, e91, fun t_ k_ => s112 t_ (castTop (by simp only [hq94, if_pos h96, if_neg h98]) k_)⟩
    · have s113 : ∀ t_, Steps p.tables e below (T91.setTop (mkF m 229 #[.val (.long ta), .second, .val (.long la), .second, .val (.long tb), .second, .val (.long lb), .second, .val (.int sel), .val (.int q3), .val (.long q10), .second, .val (.long q17), .second, .val (.ref (if q3 = (0 : Int32) then max else mean)), .val (.ref b29), .val (.ref b37), .val (.int q52), .val (.int q56), .val (.int q60), .val (.long q62), .second, .val (.long q68), .second, .val (.long q74), .second, .val (.long q80), .second, .val (.int q88), .val (.int q92)] [(.int (0 : Int32))])) t_ → Steps p.tables e below (s₁.setTop (entryFrame m #[(.long ta), (.long la), (.long tb), (.long lb), (.int sel)] maxLocals)) t_ := fun t_ k_ => s93 t_ (by
        show Steps p.tables e below (T91.setTop (mkF m 199 #[.val (.long ta), .second, .val (.long la), .second, .val (.long tb), .second, .val (.long lb), .second, .val (.int sel), .val (.int q3), .val (.long q10), .second, .val (.long q17), .second, .val (.ref (if q3 = (0 : Int32) then max else mean)), .val (.ref b29), .val (.ref b37), .val (.int q52), .val (.int q56), .val (.int q60), .val (.long q62), .second, .val (.long q68), .second, .val (.long q74), .second, .val (.long q80), .second, .val (.int q88), .val (.int q92)] [(.int q88), (.int q52)])) t_
        refine XS.icmpYes X91.here hx rfl (pc0 := 199) (pc' := 228) rfl (Jvm.hb hby at_199) rfl (feq h96).2 (by decide) (by decide) ?_
        show Steps p.tables e below (T91.setTop (mkF m 228 #[.val (.long ta), .second, .val (.long la), .second, .val (.long tb), .second, .val (.long lb), .second, .val (.int sel), .val (.int q3), .val (.long q10), .second, .val (.long q17), .second, .val (.ref (if q3 = (0 : Int32) then max else mean)), .val (.ref b29), .val (.ref b37), .val (.int q52), .val (.int q56), .val (.int q60), .val (.long q62), .second, .val (.long q68), .second, .val (.long q74), .second, .val (.long q80), .second, .val (.int q88), .val (.int q92)] [])) _
        refine XS.iconst X91.here hx rfl (Jvm.hb hby at_228) ?_
        show Steps p.tables e below (T91.setTop (mkF m 229 #[.val (.long ta), .second, .val (.long la), .second, .val (.long tb), .second, .val (.long lb), .second, .val (.int sel), .val (.int q3), .val (.long q10), .second, .val (.long q17), .second, .val (.ref (if q3 = (0 : Int32) then max else mean)), .val (.ref b29), .val (.ref b37), .val (.int q52), .val (.int q56), .val (.int q60), .val (.long q62), .second, .val (.long q68), .second, .val (.long q74), .second, .val (.long q80), .second, .val (.int q88), .val (.int q92)] [(.int (0 : Int32))])) _
        show Steps p.tables e below (T91.setTop (mkF m 229 #[.val (.long ta), .second, .val (.long la), .second, .val (.long tb), .second, .val (.long lb), .second, .val (.int sel), .val (.int q3), .val (.long q10), .second, .val (.long q17), .second, .val (.ref (if q3 = (0 : Int32) then max else mean)), .val (.ref b29), .val (.ref b37), .val (.int q52), .val (.int q56), .val (.int q60), .val (.long q62), .second, .val (.long q68), .second, .val (.long q74), .second, .val (.long q80), .second, .val (.int q88), .val (.int q92)] [(.int (0 : Int32))])) t_
        exact k_)
      exact ⟨T91, X91, e91, fun t_ k_ => s113 t_ (castTop (by simp only [hq94, if_neg h96]) k_)⟩)
  obtain ⟨fs, hr, hrun, hended, hW, hsame⟩ := X95.leave (v := some (.int (nar .boolean q94))) (fun h => by rw [Bd.returns] at h; cases h)
  have hone : q94 = 1 := by
    have key : q52 = own_g q62 q68 q74 q80 ∧ q56 = own_g q74 q80 q62 q68 ∧ q60 = 0 := by
      by_cases h : q3 = 0
      · rw [hq52, hq56, hq60, hq62, hq68, hq74, hq80]
        simp only [if_pos h, if_neg hne, own_lx, own_g01, own_irr, and_self, true_and]; rfl
      · rw [hq52, hq56, hq60, hq62, hq68, hq74, hq80]
        simp only [if_neg h, if_true, own_lx, own_g01, own_irr, and_self, true_and]; rfl
    rw [hq94]
    exact own_tail q52 q56 q60 q88 q92 (key.1.trans hq88.symm) (key.2.1.trans hq92.symm) (fun z => by rw [key.2.1]; rw [key.1] at z; exact own_asym _ _ _ _ z) key.2.2
  refine ⟨_, _, s95 _ ?_, hrun, hended, _, _, rfl, ?_, ⟨_, rfl⟩, hW, hsame.mono (by decide) (by decide)⟩
  · show Steps p.tables e below (T95.setTop (mkF m 229 #[.val (.long ta), .second, .val (.long la), .second, .val (.long tb), .second, .val (.long lb), .second, .val (.int sel), .val (.int q3), .val (.long q10), .second, .val (.long q17), .second, .val (.ref (if q3 = (0 : Int32) then max else mean)), .val (.ref b29), .val (.ref b37), .val (.int q52), .val (.int q56), .val (.int q60), .val (.long q62), .second, .val (.long q68), .second, .val (.long q74), .second, .val (.long q80), .second, .val (.int q88), .val (.int q92)] [(.int q94)])) _
    exact retN X95 hx (t := .boolean) Bd.returns (by simp) (Jvm.hb hby at_229) hr
  · show Q_rmLaw Z _ _ _ _ _ _ _ h0 n0 _ T95.heap _
    rw [e95]
    exact ⟨by rw [hone]; rfl, N91⟩
set_option maxRecDepth 65536 in
set_option maxHeartbeats 40000000 in
theorem comes_1 {Post : Tables → Env → Array Value → State → Outcome → State → Prop} (hpost : ∀ tb e args s v u, (limb_1_1.after args s (.returned v) u = true ∧ limb_1_2.after args s (.returned v) u = true ∧ True) → FrameEnd s (.returned v) u (Jvm.fieldLocs frame_1_writes args s ++ Jvm.arrayLocs frame_1_arrays args s ++ Jvm.staticLocs frame_1_statics s) 16 128 → Post tb e args s (.returned v) u) :
    ArmFor flags0 classFile x code maxLocals ret World_1 tables_1 room_1 Calls_1 rest_1 Pre_1 Post := by
  intro l hfl _ _ p e ha hc hk s m args below hf hA hF happ hP
  obtain ⟨hcalls, hrest, hpre⟩ := hP
  obtain ⟨-, -, -, hnamed, -, -, -, hat⟩ := (Spec.applies_iff hf).mp happ
  obtain ⟨hg, hn⟩ := and_e (Cond.before_iff.mp (show (Jvm.Cond.and given_1 narrow_1).before args s = true from hpre))
  obtain ⟨ga, gr⟩ := and_e hg
  obtain ⟨g0, gr0⟩ := and_e gr
  obtain ⟨g1, gr1⟩ := and_e gr0
  obtain ⟨g2, gr2⟩ := and_e gr1
  obtain ⟨g3, gr3⟩ := and_e gr2
  obtain ⟨w0, w1, w2, w3, w4, rfl⟩ : ∃ w0 w1 w2 w3 w4 : Value, args = #[w0, w1, w2, w3, w4] := by
    have hs : args.size = 5 := by simpa [Cond.value, given_1] using ga
    obtain ⟨L⟩ := args
    match L, hs with
    | [w0, w1, w2, w3, w4], _ => exact ⟨w0, w1, w2, w3, w4, rfl⟩
  have hw := fun d (hd : d ∈ tables_1) => atoms_spec (ws := Jvm.Cond.code x code maxLocals ret :: tables_1) hat d (List.mem_cons_of_mem _ hd)
  have hfit : Fit s := fun {y c} hc i hi => by
    obtain ⟨ha, rfl⟩ := Array.getElem?_eq_some_iff.mp hc
    have q := List.all_eq_true.mp ((Array.all_eq_true_iff_forall_mem.mp hF) _ (Array.getElem_mem ha)) i (List.mem_range.mpr hi)
    simpa [Array.getElem?_eq_getElem hi] using q
  obtain ⟨i0, ei0⟩ := isL_v g0
  obtain rfl : w0 = (.long i0) := Option.some.inj ei0
  obtain ⟨i1, ei1⟩ := isL_v g1
  obtain rfl : w1 = (.long i1) := Option.some.inj ei1
  obtain ⟨i2, ei2⟩ := isL_v g2
  obtain rfl : w2 = (.long i2) := Option.some.inj ei2
  obtain ⟨i3, ei3⟩ := isL_v g3
  obtain rfl : w3 = (.long i3) := Option.some.inj ei3
  obtain ⟨i4, ei4⟩ := is_v gr3
  obtain rfl : w4 = (.int i4) := Option.some.inj ei4
  obtain ⟨n1, hn⟩ := and_e hn
  obtain ⟨n2, hn⟩ := and_e hn
  obtain ⟨n3, n4⟩ := and_e hn
  obtain ⟨mean, em⟩ := exa_v n1
  obtain ⟨max, ex⟩ := exa_v n2
  have f1 := Fld.start ((fld_at ex).symm.trans (eqv_i (Term.int_eval 1) n3))
  have f2 := Fld.start ((fld_at em).symm.trans (eqv_i (Term.int_eval 0) n4))
  have hne : max ≠ mean := f1.ne f2 (by decide)
  obtain ⟨n, o, h1, h2, h3, _, L, rfl, ⟨rfl, N⟩, hq⟩ := rmLaw l s _ hw tables_1 i0 i1 i2 i3 i4 mean max s.heap s.heap.size (Nat.le_refl _) (Sta.start em (Or.inr ⟨(hw _ (List.mem_of_getElem? (i := 1) rfl)), (hw _ (List.mem_of_getElem? (i := 2) rfl))⟩)) (Sta.start ex (Or.inr ⟨(hw _ (List.mem_of_getElem? (i := 1) rfl)), (hw _ (List.mem_of_getElem? (i := 32) rfl))⟩)) (Old.start s) hne p e ha hc hk s m _ below hf ((Spec.applies_iff_loose hf).mp happ).1 ⟨rfl, State.Warmed39.refl s, rfl⟩ trivial
  refine ⟨n, _, h1, h2, h3, hpost _ _ _ _ _ _ ⟨Cond.after_iff.mpr rfl, Cond.after_iff.mpr (eq_i res_at (Term.int_eval (1)) rfl), trivial⟩ ⟨hq.1, hq.2.1, (hq.2.2.sift fun y hy => Or.inr (N y hy)).mono (by decide) (by decide)⟩⟩
theorem main_1_1 : Claimed_1_1 := comes_1 fun _ _ _ _ _ _ h hF => ⟨h.1, hF⟩
theorem main_1_2 : Claimed_1_2 := comes_1 fun _ _ _ _ _ _ h hF => ⟨h.2.1, hF⟩
end Jvm.Pilot.@@N@@
namespace Jvm.Pilot.@@N@@
open Jvm Jvm.ClassFile Sem Op Lib Jvm.Free Jvm.Stand Jvm.Pilot.@@N@@.Jvm.D
/-! MADE BY PROGRAM (witnessworld.py) out of the Statement's table words and the real class files: 14 classes; the members and pool entries that the words name. The judged class is class 1, her method 1. -/
namespace start1
open Jvm.ClassFile
def u (s : String) : CpInfo := .utf8 (stringToUtf16 s)
/-- a pool by its gaps: so many unusable entries, then the entry; so many at the end -/
def gap : Nat → List CpInfo → List CpInfo
  | 0, r => r
  | n + 1, r => .unusable :: gap n r
def poolList (es : List (Nat × CpInfo)) (last : Nat) : List CpInfo := es.foldr (fun e r => gap e.1 (e.2 :: r)) (gap last [])
def pool (es : List (Nat × CpInfo)) (last : Nat) : Array CpInfo := ⟨poolList es last⟩
def fileOf (pool : Array CpInfo) (this : Nat) (attrs : Array Attribute := #[]) (ms : Array MethodInfo := #[]) (fl : Nat := 33) (sup : Nat := 0) (ifs : Array Nat := #[]) (fds : Array FieldInfo := #[]) : ClassFile where
  minorVersion := 0
  majorVersion := 65
  constantPool := pool
  accessFlags := fl
  thisClass := this
  superClass := sup
  interfaces := ifs
  fields := fds
  methods := ms
  attributes := attrs
def plain (name : String) (sup : Option ClassId) : Class where
  name := name
  kind := .ordinary
  loader := none
  accessFlags := 33
  super := sup
  interfaces := #[]
  cf := none
  fields := #[]
  methods := #[]
  instanceTypes := #[]
  staticTypes := #[]
  resolved := #[]
  callSites := []
  init := .initialized
  statics := none
  mirror := none

def pool0 : Array CpInfo := pool [(5, u "<init>"), (0, u "()V"), (1, .class_ 10), (1, u "java/lang/Object")] 113

def k0c0 : Code := { maxStack := 0, maxLocals := 1, code := object_method_1_code, exceptionTable := #[], attributes := #[] }
def k0m0 : Method := { name := "<init>", desc := "()V", sig := { parameters := [], returnType := none }, accessFlags := 1, code := some k0c0 }
/-- java/lang/Object -/
def k0 : Class := { plain "java/lang/Object" none with
  accessFlags := 33
  interfaces := #[]
  cf := some (fileOf pool0 8 #[] #[{ accessFlags := 1, nameIndex := 5, descriptorIndex := 6, attributes := #[] }] 33 0 #[] #[])
  fields := #[]
  methods := #[k0m0]
  instanceTypes := #[]
  staticTypes := #[]
  resolved := Array.replicate 124 none
  statics := none }

def pool1 : Array CpInfo := pool [(2, .class_ 4), (1, u "java/lang/Object"), (0, u "<init>"), (0, u "()V"), (0, .fieldref 8 9), (0, .class_ 10), (0, .nameAndType 11 12), (0, u "com/example/cloudlet_siting/cloudletsiting/model/Objective"), (0, u "MEAN"), (0, u "Lcom/example/cloudlet_siting/cloudletsiting/model/Objective;"), (0, .fieldref 8 14), (0, .nameAndType 15 12), (0, u "MAX"), (0, .class_ 17), (0, u "com/example/cloudlet_siting/cloudletsiting/planning/FixedCountCloudlets$Measure"), (0, .methodref 16 19), (0, .nameAndType 5 20), (0, u "(JJ)V"), (0, .methodref 16 22), (0, .nameAndType 23 24), (0, u "isBetterThan"), (0, u "(Lcom/example/cloudlet_siting/cloudletsiting/planning/FixedCountCloudlets$Measure;Lcom/example/cloudlet_siting/cloudletsiting/model/Objective;)Z"), (0, .methodref 26 27), (0, .class_ 28), (0, .nameAndType 29 30), (0, u "com/example/cloudlet_siting/cloudletsiting/planning/MeasureIsBetterThanPinLaw"), (0, u "smallerFirstByPrimary"), (0, u "(JJJJ)Z"), (2, u "law"), (0, u "(JJJJI)Z")] 7

def k1m0 : Method := { name := "<init>", desc := "()V", sig := { parameters := [], returnType := none }, accessFlags := 2, code := none }
def k1c1 : Code := { maxStack := 8, maxLocals := 30, code := code, exceptionTable := #[], attributes := #[] }
def k1m1 : Method := { name := "law", desc := "(JJJJI)Z", sig := { parameters := [.long, .long, .long, .long, .int], returnType := some .boolean }, accessFlags := 9, code := some k1c1 }
def k1c2 : Code := { maxStack := 4, maxLocals := 8, code := method_3_code, exceptionTable := #[], attributes := #[] }
def k1m2 : Method := { name := "smallerFirstByPrimary", desc := "(JJJJ)Z", sig := { parameters := [.long, .long, .long, .long], returnType := some .boolean }, accessFlags := 10, code := some k1c2 }
/-- com/example/cloudlet_siting/cloudletsiting/planning/MeasureIsBetterThanPinLaw -/
def k1 : Class := { plain "com/example/cloudlet_siting/cloudletsiting/planning/MeasureIsBetterThanPinLaw" (some 0) with
  accessFlags := 49
  interfaces := #[]
  cf := some (fileOf pool1 26 #[] #[{ accessFlags := 2, nameIndex := 5, descriptorIndex := 6, attributes := #[] }, { accessFlags := 9, nameIndex := 33, descriptorIndex := 34, attributes := #[] }, { accessFlags := 10, nameIndex := 29, descriptorIndex := 30, attributes := #[] }] 49 2 #[] #[])
  fields := #[]
  methods := #[k1m0, k1m1, k1m2]
  instanceTypes := #[]
  staticTypes := #[]
  resolved := Array.replicate 42 none
  statics := none }

def pool2 : Array CpInfo := pool [(1, .class_ 2), (0, u "java/lang/constant/Constable"), (0, .class_ 4), (0, u "java/lang/Object")] 6

/-- java/lang/constant/Constable -/
def k2 : Class := { plain "java/lang/constant/Constable" (some 0) with
  accessFlags := 1537
  interfaces := #[]
  cf := some (fileOf pool2 1 #[] #[] 1537 3 #[] #[])
  fields := #[]
  methods := #[]
  instanceTypes := #[]
  staticTypes := #[]
  resolved := Array.replicate 11 none
  statics := none }

def pool3 : Array CpInfo := pool [(1, .class_ 2), (0, u "java/lang/Comparable"), (0, .class_ 4), (0, u "java/lang/Object")] 7

/-- java/lang/Comparable -/
def k3 : Class := { plain "java/lang/Comparable" (some 0) with
  accessFlags := 1537
  interfaces := #[]
  cf := some (fileOf pool3 1 #[] #[] 1537 3 #[] #[])
  fields := #[]
  methods := #[]
  instanceTypes := #[]
  staticTypes := #[]
  resolved := Array.replicate 12 none
  statics := none }

def pool4 : Array CpInfo := pool [(1, .class_ 2), (0, u "java/io/Serializable"), (0, .class_ 4), (0, u "java/lang/Object")] 2

/-- java/io/Serializable -/
def k4 : Class := { plain "java/io/Serializable" (some 0) with
  accessFlags := 1537
  interfaces := #[]
  cf := some (fileOf pool4 1 #[] #[] 1537 3 #[] #[])
  fields := #[]
  methods := #[]
  instanceTypes := #[]
  staticTypes := #[]
  resolved := Array.replicate 7 none
  statics := none }

def pool5 : Array CpInfo := pool [(2, .class_ 4), (1, u "java/lang/Enum"), (0, u "name"), (0, u "Ljava/lang/String;"), (2, u "ordinal"), (0, u "I"), (1, .class_ 14), (1, u "java/lang/Object"), (4, u "hash"), (86, .class_ 108), (1, u "java/lang/Enum$EnumDesc"), (2, .class_ 112), (0, u "java/lang/constant/Constable"), (0, .class_ 114), (0, u "java/lang/Comparable"), (0, .class_ 116), (0, u "java/io/Serializable")] 87

/-- java/lang/Enum -/
def k5 : Class := { plain "java/lang/Enum" (some 0) with
  accessFlags := 1057
  interfaces := #[2, 3, 4]
  cf := some (fileOf pool5 2 #[.nestMembers #[106]] #[] 1057 12 #[111, 113, 115] #[{ accessFlags := 18, nameIndex := 5, descriptorIndex := 6, attributes := #[] }, { accessFlags := 18, nameIndex := 9, descriptorIndex := 10, attributes := #[] }, { accessFlags := 2, nameIndex := 19, descriptorIndex := 10, attributes := #[] }])
  fields := #[{ name := "name", type := (.object "java/lang/String"), accessFlags := 18, slot := 0, constantValue := 0 }, { name := "ordinal", type := .int, accessFlags := 18, slot := 1, constantValue := 0 }, { name := "hash", type := .int, accessFlags := 2, slot := 2, constantValue := 0 }]
  methods := #[]
  instanceTypes := #[(.object "java/lang/String"), .int, .int]
  staticTypes := #[]
  resolved := Array.replicate 204 none
  statics := none }

def pool6 : Array CpInfo := pool [(1, .class_ 2), (0, u "com/example/cloudlet_siting/cloudletsiting/model/Objective"), (2, u "MEAN"), (0, u "Lcom/example/cloudlet_siting/cloudletsiting/model/Objective;"), (2, u "MAX"), (2, u "$VALUES"), (0, u "[Lcom/example/cloudlet_siting/cloudletsiting/model/Objective;"), (6, .class_ 22), (1, u "java/lang/Enum"), (8, u "mWord"), (0, u "Ljava/lang/String;")] 27

/-- com/example/cloudlet_siting/cloudletsiting/model/Objective -/
def k6 : Class := { plain "com/example/cloudlet_siting/cloudletsiting/model/Objective" (some 5) with
  accessFlags := 16433
  interfaces := #[]
  cf := some (fileOf pool6 1 #[] #[] 16433 20 #[] #[{ accessFlags := 16409, nameIndex := 5, descriptorIndex := 6, attributes := #[] }, { accessFlags := 16409, nameIndex := 9, descriptorIndex := 6, attributes := #[] }, { accessFlags := 18, nameIndex := 31, descriptorIndex := 32, attributes := #[] }, { accessFlags := 4122, nameIndex := 12, descriptorIndex := 13, attributes := #[] }])
  fields := #[{ name := "MEAN", type := (.object "com/example/cloudlet_siting/cloudletsiting/model/Objective"), accessFlags := 16409, slot := 0, constantValue := 0 }, { name := "MAX", type := (.object "com/example/cloudlet_siting/cloudletsiting/model/Objective"), accessFlags := 16409, slot := 1, constantValue := 0 }, { name := "mWord", type := (.object "java/lang/String"), accessFlags := 18, slot := 3, constantValue := 0 }, { name := "$VALUES", type := (.array (.object "com/example/cloudlet_siting/cloudletsiting/model/Objective")), accessFlags := 4122, slot := 2, constantValue := 0 }]
  methods := #[]
  instanceTypes := #[(.object "java/lang/String"), .int, .int, (.object "java/lang/String")]
  staticTypes := #[(.object "com/example/cloudlet_siting/cloudletsiting/model/Objective"), (.object "com/example/cloudlet_siting/cloudletsiting/model/Objective"), (.array (.object "com/example/cloudlet_siting/cloudletsiting/model/Objective"))]
  resolved := Array.replicate 60 none
  statics := some 0 }

def pool7 : Array CpInfo := pool [(1, .methodref 2 3), (0, .class_ 4), (0, .nameAndType 5 6), (0, u "java/lang/Object"), (0, u "<init>"), (0, u "()V"), (0, .class_ 8), (0, u "java/lang/Record")] 13

def k7c0 : Code := { maxStack := 1, maxLocals := 1, code := jdk_30_method_1_code, exceptionTable := #[], attributes := #[] }
def k7m0 : Method := { name := "<init>", desc := "()V", sig := { parameters := [], returnType := none }, accessFlags := 4, code := some k7c0 }
/-- java/lang/Record -/
def k7 : Class := { plain "java/lang/Record" (some 0) with
  accessFlags := 1057
  interfaces := #[]
  cf := some (fileOf pool7 7 #[] #[{ accessFlags := 4, nameIndex := 5, descriptorIndex := 6, attributes := #[] }] 1057 2 #[] #[])
  fields := #[]
  methods := #[k7m0]
  instanceTypes := #[]
  staticTypes := #[]
  resolved := Array.replicate 22 none
  statics := none }

def pool8 : Array CpInfo := pool [(1, .methodref 2 3), (0, .class_ 4), (0, .nameAndType 5 6), (0, u "java/lang/Record"), (0, u "<init>"), (0, u "()V"), (0, .fieldref 8 9), (0, .class_ 10), (0, .nameAndType 11 12), (0, u "com/example/cloudlet_siting/cloudletsiting/planning/FixedCountCloudlets$Measure"), (0, u "total"), (0, u "J"), (0, .fieldref 8 14), (0, .nameAndType 15 12), (0, u "largest"), (28, u "(JJ)V"), (0, .fieldref 46 47), (0, .class_ 48), (0, .nameAndType 49 50), (0, u "com/example/cloudlet_siting/cloudletsiting/model/Objective"), (0, u "MEAN"), (0, u "Lcom/example/cloudlet_siting/cloudletsiting/model/Objective;"), (24, u "isBetterThan"), (0, u "(Lcom/example/cloudlet_siting/cloudletsiting/planning/FixedCountCloudlets$Measure;Lcom/example/cloudlet_siting/cloudletsiting/model/Objective;)Z"), (7, .class_ 85), (0, u "com/example/cloudlet_siting/cloudletsiting/planning/FixedCountCloudlets")] 20

def k8c0 : Code := { maxStack := 3, maxLocals := 5, code := prog_36_method_1_code, exceptionTable := #[], attributes := #[] }
def k8m0 : Method := { name := "<init>", desc := "(JJ)V", sig := { parameters := [.long, .long], returnType := none }, accessFlags := 0, code := some k8c0 }
def k8c1 : Code := { maxStack := 4, maxLocals := 4, code := prog_36_method_4_code, exceptionTable := #[], attributes := #[] }
def k8m1 : Method := { name := "isBetterThan", desc := "(Lcom/example/cloudlet_siting/cloudletsiting/planning/FixedCountCloudlets$Measure;Lcom/example/cloudlet_siting/cloudletsiting/model/Objective;)Z", sig := { parameters := [(.object "com/example/cloudlet_siting/cloudletsiting/planning/FixedCountCloudlets$Measure"), (.object "com/example/cloudlet_siting/cloudletsiting/model/Objective")], returnType := some .boolean }, accessFlags := 0, code := some k8c1 }
/-- com/example/cloudlet_siting/cloudletsiting/planning/FixedCountCloudlets$Measure -/
def k8 : Class := { plain "com/example/cloudlet_siting/cloudletsiting/planning/FixedCountCloudlets$Measure" (some 7) with
  accessFlags := 48
  interfaces := #[]
  cf := some (fileOf pool8 8 #[.nestHost 84] #[{ accessFlags := 0, nameIndex := 5, descriptorIndex := 44, attributes := #[] }, { accessFlags := 0, nameIndex := 75, descriptorIndex := 76, attributes := #[] }] 48 2 #[] #[{ accessFlags := 18, nameIndex := 11, descriptorIndex := 12, attributes := #[] }, { accessFlags := 18, nameIndex := 15, descriptorIndex := 12, attributes := #[] }])
  fields := #[{ name := "total", type := .long, accessFlags := 18, slot := 0, constantValue := 0 }, { name := "largest", type := .long, accessFlags := 18, slot := 1, constantValue := 0 }]
  methods := #[k8m0, k8m1]
  instanceTypes := #[.long, .long]
  staticTypes := #[]
  resolved := Array.replicate 106 none
  statics := none }

def pool9 : Array CpInfo := pool [(1, u "java/lang/Cloneable"), (0, .class_ 1), (0, u "java/lang/Object"), (0, .class_ 3)] 3

/-- java/lang/Cloneable -/
def k9 : Class := { plain "java/lang/Cloneable" (some 0) with
  accessFlags := 1537
  interfaces := #[]
  cf := some (fileOf pool9 2 #[] #[] 1537 4 #[] #[])
  fields := #[]
  methods := #[]
  instanceTypes := #[]
  staticTypes := #[]
  resolved := Array.replicate 8 none
  statics := none }

/-- the primitive byte -/
def k10 : Class := { plain "byte" none with kind := .primitive 'B', accessFlags := 0x411 }
/-- [B -/
def k11 : Class := { plain "[B" (some 0) with kind := .array 10 .byte, interfaces := #[9, 4], accessFlags := 1041 }

/-- the primitive int -/
def k12 : Class := { plain "int" none with kind := .primitive 'I', accessFlags := 0x411 }
/-- [I -/
def k13 : Class := { plain "[I" (some 0) with kind := .array 12 .int, interfaces := #[9, 4], accessFlags := 1041 }

def heap : Heap := #[{ cls := 6, slots := #[.ref 1, .ref 2, .null], vm := .statics 6 },
  { cls := 6, slots := #[.null, .int 0, .int 0, .null], vm := .none },
  { cls := 6, slots := #[.null, .int 1, .int 0, .null], vm := .none }]
def classes : Array Class := #[k0, k1, k2, k3, k4, k5, k6, k7, k8, k9, k10, k11, k12, k13]
def interned : List (Array UInt16 × Addr) := []
def slotsUsed : Nat := 11
def theMethod : MethodId := ⟨1, 1⟩
def args0 : Array Value := #[.long 5, .long 5, .long 5, .long 5, .int 5]
def aboutOver (below : List Frame) : State where
  vm := { classes := classes, interned := interned.toArray }
  heap := heap
  slotsUsed := slotsUsed
  threads := #[{ frames := .invoking theMethod args0 :: below }]
def below0 : List Frame := [.native { method := ⟨0, 0⟩, args := #[] }]
def about1 : State := aboutOver below0
def p0 : Program := .bare "" "" ""
def e0 : Env := launch0.env 0 0 0
theorem w_frames : about1.frames = Frame.invoking theMethod args0 :: below0 := rfl
set_option maxRecDepth 65536 in
theorem w_args : argsFit about1.vm theMethod args0 = true := by decide +kernel
set_option maxRecDepth 65536 in
theorem w_heap : heapFits about1 = true := by decide +kernel
set_option maxRecDepth 65536 in
theorem w_runnable : about1.curStatus? = some .runnable := by decide +kernel
set_option maxRecDepth 65536 in
theorem w_alone : about1.alone = true := by decide +kernel
set_option maxRecDepth 65536 in
theorem w_named : about1.methodNamed? x = some theMethod := by decide +kernel
set_option maxRecDepth 65536 in
theorem w_hears : about1.hears theMethod below0 = true := by decide +kernel
set_option maxRecDepth 65536 in
theorem w_ripe : about1.ripe theMethod args0 below0 = true := by decide +kernel
theorem w_running : about1.status = .running := rfl
set_option maxRecDepth 65536 in
theorem w_room : about1.hasRoom e0.platform room_1 = true :=
  launch0.hasRoom_least _ room_1 (by decide +kernel) (by decide +kernel) (by decide +kernel) (by decide +kernel) (by decide +kernel) (by decide +kernel)
theorem allAtoms_all (ts : List Jvm.Cond) (a : Array Jvm.Value) (st : Jvm.State) : (allAtoms ts).before a st = ts.all (fun c => c.before a st) := by
  induction ts with
  | nil => rfl
  | cons c t ih =>
    show (Jvm.Cond.and c (allAtoms t)).before a st = _
    rw [Jvm.Cond.before_and, ih, List.all_cons]
def words1 : List Jvm.Cond := Jvm.Cond.code x code maxLocals ret :: tables_1
/-- a 'code' word, met by the world's own term for the bytes: nothing is compared byte by byte -/
theorem code_word {y : MethodName} {bytes : ByteArray} {mx : Nat} {rt : Option FieldType} {a : Array Value} {s : State} {m : MethodId} {meth : Method} {c : Code} (h1 : s.methodNamed? y = some m) (h2 : s.vm.method? m = some meth) (h3 : meth.code = some c) (h4 : c.code = bytes)
    (h5 : (c.maxLocals == mx && c.exceptionTable.isEmpty && decide (c.maxStack ≤ mostOperands) && decide (meth.sig.returnType = rt) && !meth.locks && decide (parseMethodDescriptor y.desc = some meth.sig)) = true) : (Jvm.Cond.code y bytes mx rt).before a s = true := by
  simp only [Bool.and_eq_true, beq_iff_eq, Bool.not_eq_true', decide_eq_true_eq] at h5
  obtain ⟨⟨⟨⟨⟨g1, g2⟩, g3⟩, g4⟩, g5⟩, g6⟩ := h5
  simp [Cond.before, Cond.holds, Cond.value, h1, h2, h3, h4, g1, g2, g3, g4, g5, g6]
def isCode : Jvm.Cond → Bool
  | .code _ _ _ _ => true
  | _ => false
theorem all_split {L : List Jvm.Cond} {P : Jvm.Cond → Bool} (h1 : L.all (fun c => isCode c || P c) = true) (h2 : ∀ c ∈ L.filter isCode, P c = true) : L.all P = true := by
  refine List.all_eq_true.mpr fun c hc => ?_
  have h := List.all_eq_true.mp h1 c hc
  rcases Bool.eq_false_or_eq_true (isCode c) with hi | hi
  · exact h2 c (List.mem_filter.mpr ⟨hc, hi⟩)
  · simpa [hi] using h
set_option maxRecDepth 65536 in
theorem w_c0 : (Jvm.Cond.code x code maxLocals ret).before args0 about1 = true := code_word (m := ⟨1, 1⟩) (meth := k1m1) (c := k1c1) (by decide +kernel) rfl rfl rfl (by decide +kernel)
set_option maxRecDepth 65536 in
theorem w_c1 : (Jvm.Cond.code ({ cls := "com/example/cloudlet_siting/cloudletsiting/planning/FixedCountCloudlets$Measure", name := "<init>", desc := "(JJ)V" } : Jvm.MethodName) prog_36_method_1_code (5 : Nat) (Option.none : Option Jvm.ClassFile.FieldType)).before args0 about1 = true := code_word (m := ⟨8, 0⟩) (meth := k8m0) (c := k8c0) (by decide +kernel) rfl rfl rfl (by decide +kernel)
set_option maxRecDepth 65536 in
theorem w_c2 : (Jvm.Cond.code ({ cls := "java/lang/Record", name := "<init>", desc := "()V" } : Jvm.MethodName) jdk_30_method_1_code (1 : Nat) (Option.none : Option Jvm.ClassFile.FieldType)).before args0 about1 = true := code_word (m := ⟨7, 0⟩) (meth := k7m0) (c := k7c0) (by decide +kernel) rfl rfl rfl (by decide +kernel)
set_option maxRecDepth 65536 in
theorem w_c3 : (Jvm.Cond.code ({ cls := "java/lang/Object", name := "<init>", desc := "()V" } : Jvm.MethodName) object_method_1_code (1 : Nat) (Option.none : Option Jvm.ClassFile.FieldType)).before args0 about1 = true := code_word (m := ⟨0, 0⟩) (meth := k0m0) (c := k0c0) (by decide +kernel) rfl rfl rfl (by decide +kernel)
set_option maxRecDepth 65536 in
theorem w_c4 : (Jvm.Cond.code ({ cls := "com/example/cloudlet_siting/cloudletsiting/planning/FixedCountCloudlets$Measure", name := "isBetterThan", desc := "(Lcom/example/cloudlet_siting/cloudletsiting/planning/FixedCountCloudlets$Measure;Lcom/example/cloudlet_siting/cloudletsiting/model/Objective;)Z" } : Jvm.MethodName) prog_36_method_4_code (4 : Nat) (Option.some Jvm.ClassFile.FieldType.boolean)).before args0 about1 = true := code_word (m := ⟨8, 1⟩) (meth := k8m1) (c := k8c1) (by decide +kernel) rfl rfl rfl (by decide +kernel)
set_option maxRecDepth 65536 in
theorem w_c5 : (Jvm.Cond.code ({ cls := "com/example/cloudlet_siting/cloudletsiting/planning/MeasureIsBetterThanPinLaw", name := "smallerFirstByPrimary", desc := "(JJJJ)Z" } : Jvm.MethodName) method_3_code (8 : Nat) (Option.some Jvm.ClassFile.FieldType.boolean)).before args0 about1 = true := code_word (m := ⟨1, 2⟩) (meth := k1m2) (c := k1c2) (by decide +kernel) rfl rfl rfl (by decide +kernel)
def codes1 : List Jvm.Cond := [Jvm.Cond.code x code maxLocals ret, Jvm.Cond.code ({ cls := "com/example/cloudlet_siting/cloudletsiting/planning/FixedCountCloudlets$Measure", name := "<init>", desc := "(JJ)V" } : Jvm.MethodName) prog_36_method_1_code (5 : Nat) (Option.none : Option Jvm.ClassFile.FieldType), Jvm.Cond.code ({ cls := "java/lang/Record", name := "<init>", desc := "()V" } : Jvm.MethodName) jdk_30_method_1_code (1 : Nat) (Option.none : Option Jvm.ClassFile.FieldType), Jvm.Cond.code ({ cls := "java/lang/Object", name := "<init>", desc := "()V" } : Jvm.MethodName) object_method_1_code (1 : Nat) (Option.none : Option Jvm.ClassFile.FieldType), Jvm.Cond.code ({ cls := "com/example/cloudlet_siting/cloudletsiting/planning/FixedCountCloudlets$Measure", name := "isBetterThan", desc := "(Lcom/example/cloudlet_siting/cloudletsiting/planning/FixedCountCloudlets$Measure;Lcom/example/cloudlet_siting/cloudletsiting/model/Objective;)Z" } : Jvm.MethodName) prog_36_method_4_code (4 : Nat) (Option.some Jvm.ClassFile.FieldType.boolean), Jvm.Cond.code ({ cls := "com/example/cloudlet_siting/cloudletsiting/planning/MeasureIsBetterThanPinLaw", name := "smallerFirstByPrimary", desc := "(JJJJ)Z" } : Jvm.MethodName) method_3_code (8 : Nat) (Option.some Jvm.ClassFile.FieldType.boolean)]
set_option maxRecDepth 65536 in
theorem codes_eq : words1.filter isCode = codes1 := rfl
theorem w_codes : ∀ c ∈ words1.filter isCode, c.before args0 about1 = true := by
  rw [codes_eq]
  intro c hc
  simp only [codes1, List.mem_cons, List.not_mem_nil, or_false] at hc
  rcases hc with rfl | rfl | rfl | rfl | rfl | rfl
  · exact w_c0
  · exact w_c1
  · exact w_c2
  · exact w_c3
  · exact w_c4
  · exact w_c5
set_option maxRecDepth 65536 in
theorem w_t1 : (words1.take 24).all (fun c => isCode c || c.before args0 about1) = true := by decide +kernel
set_option maxRecDepth 65536 in
theorem w_t2 : (words1.drop 24).all (fun c => isCode c || c.before args0 about1) = true := by decide +kernel
theorem w_tables : (allAtoms (Jvm.Cond.code x code maxLocals ret :: tables_1)).before args0 about1 = true := by
  rw [allAtoms_all]
  show words1.all (fun c => c.before args0 about1) = true
  refine all_split ?_ w_codes
  rw [← List.take_append_drop 24 words1, List.all_append, w_t1, w_t2]
  rfl
set_option maxRecDepth 65536 in
theorem w_case : (Jvm.Cond.and given_1 narrow_1).before args0 about1 = true := by decide +kernel
theorem w_applies : (headSpec (Jvm.Cond.code x code maxLocals ret :: tables_1) room_1).applies x e0.platform about1 = true :=
  (Spec.applies_iff w_frames).mpr ⟨w_running, w_runnable, w_alone, w_named, w_hears, w_ripe, w_room, w_tables⟩
theorem atStart : AtStart classFile x code maxLocals ret World_1 tables_1 room_1 Calls_1 rest_1 Pre_1 launch0 p0 e0 about1 theMethod args0 below0 :=
  ⟨lists_1, trivial, launch0.admits_env _ _ _, launch0.least_env, fairChoices_fair.cas, fairChoices_fair.clock, w_frames, w_args, w_heap, w_applies, trivial, trivial, w_case⟩
end start1
theorem witness_1 : WitnessClaimed_1 := ⟨start1.p0, start1.e0, start1.about1, start1.theMethod, start1.args0, start1.below0, start1.atStart⟩
end Jvm.Pilot.@@N@@
