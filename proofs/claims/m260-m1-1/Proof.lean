import JvmDerived
import JvmDerived.Pilot.@@N@@Statement
import JvmDerived.Pilot.@@N@@Code
set_option linter.unusedVariables false
set_option linter.unusedSimpArgs false
namespace Jvm.Pilot.@@N@@
open Jvm Jvm.ClassFile Sem Op Lib Jvm.Free Jvm.Stand Jvm.LawKit Jvm.RoadKit Bundle Jvm.Pilot.@@N@@.Jvm.D
abbrev Way (p : Program) (e : Env) (below : List Frame) (S0 T : State) (g : JFrame) : Prop := ∀ t, Steps p.tables e below (T.setTop g) t → Steps p.tables e below S0 t
theorem own_old {Z : State} {n0 : Nat} {h : Heap} (O : Old Z n0 h) : n0 ≤ h.size := O.1 ▸ O.2.1
theorem own_eqF {args : Array Value} {s : State} {t : Term} {x : Addr} {C n d : String} {k : Int32} (ht : t.eval args s none [] s = some (.ref x)) (h : (Jvm.Cond.eq (.field t C n d) (.int k)).value args s none s [] = some true) : s.fieldOf? x C n d = some (.int k) :=
  (fld_at ht).symm.trans (Cond.eq_int (Cond.before_iff.mpr h) rfl)
theorem own_mask3 (x : Int32) : (x &&& (3 : Int32)) = (0 : Int32) ∨ (x &&& (3 : Int32)) = (1 : Int32) ∨ (x &&& (3 : Int32)) = (2 : Int32) ∨ (x &&& (3 : Int32)) = (3 : Int32) := by
  have h1 : (x &&& (3 : Int32)).toInt = x.toInt % (2 ^ 2 : Nat) := c_mask x 3 2 (by decide) (by decide)
  have h3 : (x &&& (3 : Int32)).toInt = 0 ∨ (x &&& (3 : Int32)).toInt = 1 ∨ (x &&& (3 : Int32)).toInt = 2 ∨ (x &&& (3 : Int32)).toInt = 3 := by omega
  rcases h3 with h | h | h | h
  · exact Or.inl (Int32.toInt_inj.mp h)
  · exact Or.inr (Or.inl (Int32.toInt_inj.mp h))
  · exact Or.inr (Or.inr (Or.inl (Int32.toInt_inj.mp h)))
  · exact Or.inr (Or.inr (Or.inr ((Int32.toInt_inj.mp h))))
theorem own_root {Z : State} {a0 : Array Value} {O K : String} {n : Nat} (w : (Jvm.Cond.noSuperclass O).before a0 Z = true) (wk : (Jvm.Cond.instantiable K n).before a0 Z = true) (hn : O ≠ K) : NS Z O K := by
  obtain ⟨c, k, a1, a2, a3, -, -⟩ := Cond.noSuperclass_spec w
  obtain ⟨t, kt, b1, -⟩ := Cond.instantiable_spec wk
  refine ⟨c, t, a1, b1, fun f => ?_⟩
  have hne := ids_ne a1 b1 hn
  cases f
  · rfl
  · simp [Vm.isSubclassAux, hne, a2, a3]
theorem own_nosub {Z : State} {a0 : Array Value} {C S K : String} {n : Nat} (w : (Jvm.Cond.superclass C S).before a0 Z = true) (wk : (Jvm.Cond.instantiable K n).before a0 Z = true) (ns : NS Z C K) (hn : C ≠ K) : ∃ c t, Z.vm.findClass C = some c ∧ Z.vm.findClass K = some t ∧ Z.vm.assignable c t = false := by
  obtain ⟨c, t, a1, b1, hs⟩ := ns
  obtain ⟨p, k, kp, -, a2, -, -, a5, -, -⟩ := Cond.superclass_spec a1 w
  obtain ⟨t', kt, b1', b2, b3, b4, -⟩ := Cond.instantiable_spec wk
  cases b1.symm.trans b1'
  have hne := ids_ne a1 b1 hn
  have b4' : kt.isInterface = false := (Bool.or_eq_false_iff.mp b4).1
  refine ⟨c, t, a1, b1, ?_⟩
  show Z.vm.assignableAux (255 + 1) c t = false
  simp [Vm.assignableAux, Vm.isSubclass, hne, a2, b2, a5, b3, b4', hs]
theorem own_cache {args : Array Value} {s : State} {wC : Addr} {C f d : String} (ev : (Term.static C f d).eval args s none [] s = some (.ref wC)) (h4 : (Jvm.Cond.arrayOf (.static C f d) (.object "java/lang/Integer")).value args s none s [] = some true)
    (h6 : (Jvm.Cond.eq (.length (.static C f d)) (.int (256 : Int32))).value args s none s [] = some true) {c2 : Jvm.Cond} (h7 : (Jvm.Cond.all (.static C f d) (.and (.exactly (.elem (.static C f d) (.index 0)) "java/lang/Integer") c2)).value args s none s [] = some true) :
    ∃ cl, Arr s s.heap wC cl (.object "java/lang/Integer") ∧ cl.slots.size = 256 ∧ ∀ j, j < 256 → ∃ y, cl.slots[j]? = some (.ref y) ∧ Exa s s.heap y "java/lang/Integer" := by
  obtain ⟨cl, A⟩ := Arr.start ev h4
  have hat : s.arrayAt? wC = some cl := A.fin (Vm.Alike.refl _)
  have hlen := Cond.eq_int (Cond.before_iff.mpr h6) rfl
  have h31 := SBG.length_lt ev hat hlen
  have hsz : cl.slots.size = 256 := by
    have e := len_f ev hat h31
    have h2 : cl.slots.size.toInt32 = (256 : Int32) := by simpa using Option.some.inj (e.symm.trans hlen)
    have h3 := congrArg Int32.toInt h2
    rw [len_toInt h31] at h3
    have h4 : (256 : Int32).toInt = 256 := by decide
    omega
  refine ⟨cl, A, hsz, fun j hj => ?_⟩
  have hall := (and_e (Cond.all_elim ev hat h7 j (by omega))).1
  obtain ⟨y, ey⟩ := exa_v hall
  have ej := elem_in ey (x := wC) (j := j.toInt32) (by simpa [Term.eval] using ev) (Term.index_eval _) A.1
  have e1 : (Nat.toInt32 j).toNatClampNeg = j := by simp only [Int32.toNatClampNeg, len_toInt (show j < 2 ^ 31 by omega)]; rfl
  exact ⟨y, by rw [← e1]; exact ej.2, exa_at ey hall⟩
theorem own_cidx {x : Int32} (lo : ¬ (x < (-128 : Int32))) (hi : ¬ ((127 : Int32) < x)) : ¬ (x + (128 : Int32) < 0) ∧ (x + (128 : Int32)).toNatClampNeg < 256 := by
  have h1 := c_iadd x (128 : Int32)
  have h2 : (128 : Int32).toInt = 128 := by decide
  have h3 : (-128 : Int32).toInt = -128 := by decide
  have h4 : (127 : Int32).toInt = 127 := by decide
  have h5 : (0 : Int32).toInt = 0 := by decide
  have r1 := rng32 (x + (128 : Int32))
  rw [Int32.lt_iff_toInt_lt] at lo hi
  rw [Int32.lt_iff_toInt_lt, Int32.toNatClampNeg]
  constructor <;> omega
theorem own_i2c (x : Int32) : x.toUInt32.toUInt16.toUInt32.toInt32.toUInt32.toUInt16.toUInt32.toInt32 = x.toUInt32.toUInt16.toUInt32.toInt32 := by
  rw [UInt32.toUInt32_toInt32, UInt16.toUInt16_toUInt32]
theorem own_i2c_lo (x : Int32) : ¬ (x.toUInt32.toUInt16.toUInt32.toInt32 < (-128 : Int32)) := by
  have h := c_i2c x
  have h3 : (-128 : Int32).toInt = -128 := by decide
  rw [Int32.lt_iff_toInt_lt]
  omega
def Gst (Z : State) (wC : Addr) (clC : Cell) : Prop := (Sta Z Z.heap "java/lang/Integer$IntegerCache" "high" "I" (.int (127 : Int32))) ∧ (Sta Z Z.heap "java/lang/Integer$IntegerCache" "cache" "[Ljava/lang/Integer;" (.ref wC)) ∧ (Arr Z Z.heap wC clC (.object "java/lang/Integer")) ∧ (clC.slots.size = 256) ∧ (∀ j, j < 256 → ∃ y, clC.slots[j]? = some (.ref y) ∧ Exa Z Z.heap y "java/lang/Integer")
theorem d_jdk_30_method_1_code_0 : decode jdk_30_method_1_code 0 = .ok (.aload_n 0, 1) := by decide +kernel
theorem d_jdk_30_method_1_code_1 : decode jdk_30_method_1_code 1 = .ok (.invokespecial 1, 3) := by decide +kernel
theorem d_jdk_30_method_1_code_4 : decode jdk_30_method_1_code 4 = .ok (.return_, 1) := by decide +kernel
theorem pn_0 : plainName "java/lang/Record" = true := by first | (simp [plainName, overriddenIn]; done) | decide +kernel
theorem d_prog_19_method_1_code_0 : decode prog_19_method_1_code 0 = .ok (.aload_n 0, 1) := by decide +kernel
theorem d_prog_19_method_1_code_1 : decode prog_19_method_1_code 1 = .ok (.invokespecial 1, 3) := by decide +kernel
theorem pd_0 : parseMethodDescriptor "()V" = some ⟨[], none⟩ := by decide +kernel
theorem d_prog_19_method_1_code_4 : decode prog_19_method_1_code 4 = .ok (.aload_n 0, 1) := by decide +kernel
theorem d_prog_19_method_1_code_5 : decode prog_19_method_1_code 5 = .ok (.iload_n 1, 1) := by decide +kernel
theorem d_prog_19_method_1_code_6 : decode prog_19_method_1_code 6 = .ok (.putfield 7, 3) := by decide +kernel
theorem d_prog_19_method_1_code_9 : decode prog_19_method_1_code 9 = .ok (.return_, 1) := by decide +kernel
theorem pn_1 : plainName "com/example/stubwright/stubwright/idl/ConstValue$BooleanValue" = true := by first | (simp [plainName, overriddenIn]; done) | decide +kernel
theorem d_prog_20_method_1_code_0 : decode prog_20_method_1_code 0 = .ok (.aload_n 0, 1) := by decide +kernel
theorem d_prog_20_method_1_code_1 : decode prog_20_method_1_code 1 = .ok (.invokespecial 1, 3) := by decide +kernel
theorem d_prog_20_method_1_code_4 : decode prog_20_method_1_code 4 = .ok (.aload_n 0, 1) := by decide +kernel
theorem d_prog_20_method_1_code_5 : decode prog_20_method_1_code 5 = .ok (.iload_n 1, 1) := by decide +kernel
theorem d_prog_20_method_1_code_6 : decode prog_20_method_1_code 6 = .ok (.putfield 7, 3) := by decide +kernel
theorem d_prog_20_method_1_code_9 : decode prog_20_method_1_code 9 = .ok (.return_, 1) := by decide +kernel
theorem pn_2 : plainName "com/example/stubwright/stubwright/idl/ConstValue$CharValue" = true := by first | (simp [plainName, overriddenIn]; done) | decide +kernel
theorem d_jdk_33_method_22_code_0 : decode jdk_33_method_22_code 0 = .ok (.iload_n 0, 1) := by decide +kernel
theorem d_jdk_33_method_22_code_1 : decode jdk_33_method_22_code 1 = .ok (.bipush (-128), 2) := by decide +kernel
theorem d_jdk_33_method_22_code_3 : decode jdk_33_method_22_code 3 = .ok (.if_icmp .lt 20, 3) := by decide +kernel
theorem d_jdk_33_method_22_code_6 : decode jdk_33_method_22_code 6 = .ok (.iload_n 0, 1) := by decide +kernel
theorem d_jdk_33_method_22_code_7 : decode jdk_33_method_22_code 7 = .ok (.getstatic 191, 3) := by decide +kernel
theorem d_jdk_33_method_22_code_10 : decode jdk_33_method_22_code 10 = .ok (.if_icmp .gt 13, 3) := by decide +kernel
theorem d_jdk_33_method_22_code_13 : decode jdk_33_method_22_code 13 = .ok (.getstatic 195, 3) := by decide +kernel
theorem d_jdk_33_method_22_code_16 : decode jdk_33_method_22_code 16 = .ok (.iload_n 0, 1) := by decide +kernel
theorem d_jdk_33_method_22_code_17 : decode jdk_33_method_22_code 17 = .ok (.sipush 128, 3) := by decide +kernel
theorem d_jdk_33_method_22_code_20 : decode jdk_33_method_22_code 20 = .ok (.iadd, 1) := by decide +kernel
theorem d_jdk_33_method_22_code_21 : decode jdk_33_method_22_code 21 = .ok (.aaload, 1) := by decide +kernel
theorem d_jdk_33_method_22_code_22 : decode jdk_33_method_22_code 22 = .ok (.areturn, 1) := by decide +kernel
theorem pn_3 : plainName "java/lang/Integer" = true := by first | (simp [plainName, overriddenIn]; done) | decide +kernel
theorem d_prog_19_method_2_code_0 : decode prog_19_method_2_code 0 = .ok (.aload_n 1, 1) := by decide +kernel
theorem d_prog_19_method_2_code_1 : decode prog_19_method_2_code 1 = .ok (.instanceof 8, 3) := by decide +kernel
theorem d_prog_19_method_2_code_4 : decode prog_19_method_2_code 4 = .ok (.ifCond .eq 23, 3) := by decide +kernel
theorem d_prog_19_method_2_code_7 : decode prog_19_method_2_code 7 = .ok (.aload_n 1, 1) := by decide +kernel
theorem d_prog_19_method_2_code_8 : decode prog_19_method_2_code 8 = .ok (.checkcast 8, 3) := by decide +kernel
theorem d_prog_19_method_2_code_11 : decode prog_19_method_2_code 11 = .ok (.astore_n 2, 1) := by decide +kernel
theorem d_prog_19_method_2_code_12 : decode prog_19_method_2_code 12 = .ok (.aload_n 0, 1) := by decide +kernel
theorem d_prog_19_method_2_code_13 : decode prog_19_method_2_code 13 = .ok (.getfield 7, 3) := by decide +kernel
theorem d_prog_19_method_2_code_16 : decode prog_19_method_2_code 16 = .ok (.aload_n 2, 1) := by decide +kernel
theorem d_prog_19_method_2_code_17 : decode prog_19_method_2_code 17 = .ok (.getfield 7, 3) := by decide +kernel
theorem d_prog_19_method_2_code_20 : decode prog_19_method_2_code 20 = .ok (.if_icmp .ne 7, 3) := by decide +kernel
theorem d_prog_19_method_2_code_23 : decode prog_19_method_2_code 23 = .ok (.iconst 1, 1) := by decide +kernel
theorem d_prog_19_method_2_code_24 : decode prog_19_method_2_code 24 = .ok (.goto 4, 3) := by decide +kernel
theorem d_prog_19_method_2_code_28 : decode prog_19_method_2_code 28 = .ok (.ireturn, 1) := by decide +kernel
theorem d_prog_19_method_2_code_27 : decode prog_19_method_2_code 27 = .ok (.iconst 0, 1) := by decide +kernel
theorem pd_1 : parseMethodDescriptor "(Z)V" = some ⟨[.boolean], none⟩ := by decide +kernel
theorem pd_2 : parseMethodDescriptor "(Ljava/lang/Object;)Z" = some ⟨[(.object "java/lang/Object")], some .boolean⟩ := by decide +kernel
theorem pd_3 : parseMethodDescriptor "(C)V" = some ⟨[.char], none⟩ := by decide +kernel
theorem pd_4 : parseMethodDescriptor "(I)Ljava/lang/Integer;" = some ⟨[.int], some (.object "java/lang/Integer")⟩ := by decide +kernel
theorem pn_4 : plainName "com/example/stubwright/stubwright/idl/BooleanValueEqualsPinLaw" = true := by first | (simp [plainName, overriddenIn]; done) | decide +kernel
def Q_recInit (Z : State) (wC : Addr) (clC : Cell) (a1 : Addr) (h0 : Heap) (n0 : Nat) (v : Option Value) (h : Heap) (L : List Loc) : Prop := (v = none) ∧ (Fr n0 L) ∧ (h = h0)
set_option maxRecDepth 65536 in
set_option maxHeartbeats 40000000 in
theorem recInit (l : Launch) (Z : State) (a0 : Array Value) (hw : ∀ d ∈ tables_1, d.before a0 Z = true) (ws : List Jvm.Cond) (wC : Addr) (clC : Cell) (G : Gst Z wC clC) (a1 : Addr) (h0 : Heap) (n0 : Nat) (O0 : Old Z n0 h0) :
    MetFree l (⟨"java/lang/Record", "<init>", "()V"⟩ : MethodName) (head1 (Jvm.Cond.code (⟨"java/lang/Record", "<init>", "()V"⟩ : MethodName) jdk_30_method_1_code 1 none :: ws) ({ frames := 1, cells := 0, slots := 0, locals := 12 } : Room)) (fun a U => a = #[(.ref a1)] ∧ Z.Warmed39 U.vm ∧ U.heap = h0) (fun _ _ _ _ _ => True) (fun _ U o U' => ∃ v L, o = .returned v ∧ Q_recInit Z wC clC a1 h0 n0 v U'.heap L ∧ FrameEnd U o U' L ({ frames := 1, cells := 0, slots := 0, locals := 12 } : Room).cells ({ frames := 1, cells := 0, slots := 0, locals := 12 } : Room).slots) := by
  refine MetFree.of_bodySF (plainFor_of_name pn_0) hisR ?_
  intro p e s m args below meth c s₁ Bd hml0 hP hK
  obtain ⟨rfl, hZ, hh⟩ := hP
  have hx := Bd.exec
  have hby := Bd.bytes
  have hml : c.maxLocals = 1 := hml0
  have hown : s.vm.findClass "java/lang/Record" = some m.cls := findClass_of_methodNamed Bd.named
  have hnm := (name_of_methodNamed Bd.named Bd.method).1
  have X0 : Stand p l e ({ frames := 1, cells := 0, slots := 0, locals := 12 } : Room) s m #[(.ref a1)] below meth c s₁ [] 0 0 := Stand.of_body Bd
  have e0 : s₁.heap = h0 := by rw [← hh, Bd.state]; rfl
  have N0 := Fr.nil n0
  obtain ⟨S_high, S_cache, A_C, z_C, e_C⟩ := id G
  have k0 : Way p e below (s₁.setTop (entryFrame m #[(.ref a1)] 1)) s₁ (mkF m 0 #[rv a1] []) := fun t k => castTop (by first | (simp [entryFrame, mkF, argsToLocals, Value.category]; done) | rfl) k
  generalize s₁.setTop (entryFrame m #[(.ref a1)] 1) = S0 at k0 ⊢
  have k1 : Way p e below S0 s₁ (mkF m 1 #[rv a1] [(.ref a1)]) := by
    intro t k
    refine k0 t ?_
    refine XS.aloadN X0.here hx rfl (hb hby d_jdk_30_method_1_code_0) rfl rfl ?_
    show Steps p.tables e below (s₁.setTop (mkF m 1 #[rv a1] [(.ref a1)])) _
    exact k
  obtain ⟨T2, X2, e2, st2⟩ := initO X0 hx hZ hown (hw _ (List.mem_of_getElem? (i := 11) rfl)) (hw _ (List.mem_of_getElem? (i := 12) rfl)) (hw _ (List.mem_of_getElem? (i := 13) rfl)) e0 (g := (mkF m 1 #[rv a1] [(.ref a1)])) rfl (by rw [hml]; rfl) rfl (hb hby d_jdk_30_method_1_code_1) (by decide) (W := 0) (by show 2 * 0 + _ ≤ _; exact Nat.le_of_eq rfl) (by decide)
  have k3 : Way p e below S0 T2 (mkF m 4 #[rv a1] []) := fun t k => k1 t (st2 _ k)
  obtain ⟨fs, hr, hrun, hended, hW, hsame⟩ := X2.leave (v := none) (fun _ => rfl)
  refine ⟨_, _, k3 _ (X2.returnOut hx Bd.returns (hb hby d_jdk_30_method_1_code_4) hr), hrun, hended, _, _, rfl, ?_, ⟨_, rfl⟩, hW, hsame.mono (by decide) (by decide)⟩
  show Q_recInit Z wC clC a1 h0 n0 _ T2.heap _
  rw [e2]
  exact ⟨rfl, N0, rfl⟩
def Q_bvInit0 (Z : State) (wC : Addr) (clC : Cell) (a1 : Addr) (h0 : Heap) (n0 : Nat) (v : Option Value) (h : Heap) (L : List Loc) : Prop := (v = none) ∧ (Fr n0 L) ∧ (Keep h0 h [a1]) ∧ (Exa Z h a1 "com/example/stubwright/stubwright/idl/ConstValue$BooleanValue") ∧ (Fld Z h a1 "com/example/stubwright/stubwright/idl/ConstValue$BooleanValue" "value" "Z" (.int (0 : Int32)))
set_option maxRecDepth 65536 in
set_option maxHeartbeats 40000000 in
theorem bvInit0 (l : Launch) (Z : State) (a0 : Array Value) (hw : ∀ d ∈ tables_1, d.before a0 Z = true) (ws : List Jvm.Cond) (wC : Addr) (clC : Cell) (G : Gst Z wC clC) (a1 : Addr) (h0 : Heap) (n0 : Nat) (O0 : Old Z n0 h0) (a_0 : Exa Z h0 a1 "com/example/stubwright/stubwright/idl/ConstValue$BooleanValue") (a_1 : Fld Z h0 a1 "com/example/stubwright/stubwright/idl/ConstValue$BooleanValue" "value" "Z" (.int (0 : Int32))) (ga1 : n0 ≤ a1) :
    MetFree l (⟨"com/example/stubwright/stubwright/idl/ConstValue$BooleanValue", "<init>", "(Z)V"⟩ : MethodName) (head1 (Jvm.Cond.code (⟨"com/example/stubwright/stubwright/idl/ConstValue$BooleanValue", "<init>", "(Z)V"⟩ : MethodName) prog_19_method_1_code 2 none :: ws) ({ frames := 2, cells := 0, slots := 0, locals := 24 } : Room)) (fun a U => a = #[(.ref a1), (.int (0 : Int32))] ∧ Z.Warmed39 U.vm ∧ U.heap = h0) (fun _ _ _ _ _ => True) (fun _ U o U' => ∃ v L, o = .returned v ∧ Q_bvInit0 Z wC clC a1 h0 n0 v U'.heap L ∧ FrameEnd U o U' L ({ frames := 2, cells := 0, slots := 0, locals := 24 } : Room).cells ({ frames := 2, cells := 0, slots := 0, locals := 24 } : Room).slots) := by
  refine MetFree.of_bodySF (plainFor_of_name pn_1) hisR ?_
  intro p e s m args below meth c s₁ Bd hml0 hP hK
  obtain ⟨rfl, hZ, hh⟩ := hP
  have hx := Bd.exec
  have hby := Bd.bytes
  have hml : c.maxLocals = 2 := hml0
  have hown : s.vm.findClass "com/example/stubwright/stubwright/idl/ConstValue$BooleanValue" = some m.cls := findClass_of_methodNamed Bd.named
  have hnm := (name_of_methodNamed Bd.named Bd.method).1
  have X0 : Stand p l e ({ frames := 2, cells := 0, slots := 0, locals := 24 } : Room) s m #[(.ref a1), (.int (0 : Int32))] below meth c s₁ [] 0 0 := Stand.of_body Bd
  have e0 : s₁.heap = h0 := by rw [← hh, Bd.state]; rfl
  have N0 := Fr.nil n0
  obtain ⟨S_high, S_cache, A_C, z_C, e_C⟩ := id G
  have k0 : Way p e below (s₁.setTop (entryFrame m #[(.ref a1), (.int (0 : Int32))] 2)) s₁ (mkF m 0 #[rv a1, iv (0 : Int32)] []) := fun t k => castTop (by first | (simp [entryFrame, mkF, argsToLocals, Value.category]; done) | rfl) k
  generalize s₁.setTop (entryFrame m #[(.ref a1), (.int (0 : Int32))] 2) = S0 at k0 ⊢
  have k1 : Way p e below S0 s₁ (mkF m 1 #[rv a1, iv (0 : Int32)] [(.ref a1)]) := by
    intro t k
    refine k0 t ?_
    refine XS.aloadN X0.here hx rfl (hb hby d_prog_19_method_1_code_0) rfl rfl ?_
    show Steps p.tables e below (s₁.setTop (mkF m 1 #[rv a1, iv (0 : Int32)] [(.ref a1)])) _
    exact k
  obtain ⟨_, _, ⟨T2, L2, kk2, nn2⟩, -, X2, ⟨Lc2, hQ2, l2, y2, z2⟩, st2⟩ := X0.specialBack hx (y := (⟨"java/lang/Record", "<init>", "()V"⟩ : MethodName)) rfl hown (mvT hZ (hw _ (List.mem_of_getElem? (i := 6) rfl))) (mvT hZ (hw _ (List.mem_of_getElem? (i := 7) rfl))) (mvT hZ (hw _ (List.mem_of_getElem? (i := 10) rfl))) (by decide) (backOf (W := 0) (recInit l Z a0 hw [] wC clC G a1 h0 n0 O0 ) hZ (hw _ (List.mem_of_getElem? (i := 10) rfl)) (hw _ (List.mem_of_getElem? (i := 9) rfl)) (by decide) (by decide)) (g := (mkF m 1 #[rv a1, iv (0 : Int32)] [(.ref a1)])) rfl (by rw [hml]; rfl) (Steps.refl _) (a := a1) (argsL := []) (rest := []) (lenOf pd_0 rfl) rfl (by show 2 * 0 + _ ≤ _; exact Nat.le_of_eq rfl) (hb hby d_prog_19_method_1_code_1) (fun _ _ => ⟨rfl, e0, (by decide : 0 + 0 ≤ _), (by decide : 0 + 0 ≤ _)⟩)
  dsimp only [Pt.U, Pt.locs, Pt.cells, Pt.slots] at X2 l2 y2 z2 st2 hQ2
  subst l2 y2 z2
  obtain ⟨rfl, Nq2, e2⟩ := hQ2
  have N2 := Fr.app N0 Nq2
  have k3 : Way p e below S0 T2 (mkF m 4 #[rv a1, iv (0 : Int32)] []) := fun t k => k1 t (st2.trans k)
  have k4 : Way p e below S0 T2 (mkF m 6 #[rv a1, iv (0 : Int32)] [(.int (0 : Int32)), (.ref a1)]) := by
    intro t k
    refine k3 t ?_
    refine XS.aloadN X2.here hx rfl (hb hby d_prog_19_method_1_code_4) rfl rfl ?_
    show Steps p.tables e below (T2.setTop (mkF m 5 #[rv a1, iv (0 : Int32)] [(.ref a1)])) _
    refine XS.iloadN X2.here hx rfl (hb hby d_prog_19_method_1_code_5) rfl ?_
    show Steps p.tables e below (T2.setTop (mkF m 6 #[rv a1, iv (0 : Int32)] [(.int (0 : Int32)), (.ref a1)])) _
    exact k
  obtain ⟨T5, h5, X5, e5, W5, st5⟩ := putFN X2 hx hZ hown (hw _ (List.mem_of_getElem? (i := 14) rfl)) Via.refl e2 a_1 a_0 (Or.inr ⟨(hw _ (List.mem_of_getElem? (i := 15) rfl)), rfl, hnm⟩) (hw _ (List.mem_of_getElem? (i := 1) rfl)) (ty := .boolean) (v' := (.int (0 : Int32))) (by decide) rfl rfl (g := (mkF m 6 #[rv a1, iv (0 : Int32)] [(.int (0 : Int32)), (.ref a1)])) rfl rfl (hb hby d_prog_19_method_1_code_6)
  have O5 := O0.wr W5 ga1
  have N5 := Fr.snoc X5 N2 ga1
  have K5 : Keep h0 h5 [a1] := (Keep.refl h0 [a1]).wr W5 (Or.inl (List.mem_of_getElem? (i := 0) rfl))
  have fw5 : Fld Z h5 a1 "com/example/stubwright/stubwright/idl/ConstValue$BooleanValue" "value" "Z" (.int (0 : Int32)) := a_1.same W5
  have k6 : Way p e below S0 T5 (mkF m 9 #[rv a1, iv (0 : Int32)] []) := fun t k => k4 t (st5 _ k)
  obtain ⟨fs, hr, hrun, hended, hW, hsame⟩ := X5.leave (v := none) (fun _ => rfl)
  have f7 : Exa Z h5 a1 "com/example/stubwright/stubwright/idl/ConstValue$BooleanValue" := (a_0.wr W5)
  refine ⟨_, _, k6 _ (X5.returnOut hx Bd.returns (hb hby d_prog_19_method_1_code_9) hr), hrun, hended, _, _, rfl, ?_, ⟨_, rfl⟩, hW, hsame.mono (by decide) (by decide)⟩
  show Q_bvInit0 Z wC clC a1 h0 n0 _ T5.heap _
  rw [e5]
  exact ⟨rfl, N5, K5, f7, fw5⟩
def Q_bvInit1 (Z : State) (wC : Addr) (clC : Cell) (a1 : Addr) (h0 : Heap) (n0 : Nat) (v : Option Value) (h : Heap) (L : List Loc) : Prop := (v = none) ∧ (Fr n0 L) ∧ (Keep h0 h [a1]) ∧ (Exa Z h a1 "com/example/stubwright/stubwright/idl/ConstValue$BooleanValue") ∧ (Fld Z h a1 "com/example/stubwright/stubwright/idl/ConstValue$BooleanValue" "value" "Z" (.int (1 : Int32)))
set_option maxRecDepth 65536 in
set_option maxHeartbeats 40000000 in
theorem bvInit1 (l : Launch) (Z : State) (a0 : Array Value) (hw : ∀ d ∈ tables_1, d.before a0 Z = true) (ws : List Jvm.Cond) (wC : Addr) (clC : Cell) (G : Gst Z wC clC) (a1 : Addr) (h0 : Heap) (n0 : Nat) (O0 : Old Z n0 h0) (a_0 : Exa Z h0 a1 "com/example/stubwright/stubwright/idl/ConstValue$BooleanValue") (a_1 : Fld Z h0 a1 "com/example/stubwright/stubwright/idl/ConstValue$BooleanValue" "value" "Z" (.int (0 : Int32))) (ga1 : n0 ≤ a1) :
    MetFree l (⟨"com/example/stubwright/stubwright/idl/ConstValue$BooleanValue", "<init>", "(Z)V"⟩ : MethodName) (head1 (Jvm.Cond.code (⟨"com/example/stubwright/stubwright/idl/ConstValue$BooleanValue", "<init>", "(Z)V"⟩ : MethodName) prog_19_method_1_code 2 none :: ws) ({ frames := 2, cells := 0, slots := 0, locals := 24 } : Room)) (fun a U => a = #[(.ref a1), (.int (1 : Int32))] ∧ Z.Warmed39 U.vm ∧ U.heap = h0) (fun _ _ _ _ _ => True) (fun _ U o U' => ∃ v L, o = .returned v ∧ Q_bvInit1 Z wC clC a1 h0 n0 v U'.heap L ∧ FrameEnd U o U' L ({ frames := 2, cells := 0, slots := 0, locals := 24 } : Room).cells ({ frames := 2, cells := 0, slots := 0, locals := 24 } : Room).slots) := by
  refine MetFree.of_bodySF (plainFor_of_name pn_1) hisR ?_
  intro p e s m args below meth c s₁ Bd hml0 hP hK
  obtain ⟨rfl, hZ, hh⟩ := hP
  have hx := Bd.exec
  have hby := Bd.bytes
  have hml : c.maxLocals = 2 := hml0
  have hown : s.vm.findClass "com/example/stubwright/stubwright/idl/ConstValue$BooleanValue" = some m.cls := findClass_of_methodNamed Bd.named
  have hnm := (name_of_methodNamed Bd.named Bd.method).1
  have X0 : Stand p l e ({ frames := 2, cells := 0, slots := 0, locals := 24 } : Room) s m #[(.ref a1), (.int (1 : Int32))] below meth c s₁ [] 0 0 := Stand.of_body Bd
  have e0 : s₁.heap = h0 := by rw [← hh, Bd.state]; rfl
  have N0 := Fr.nil n0
  obtain ⟨S_high, S_cache, A_C, z_C, e_C⟩ := id G
  have k0 : Way p e below (s₁.setTop (entryFrame m #[(.ref a1), (.int (1 : Int32))] 2)) s₁ (mkF m 0 #[rv a1, iv (1 : Int32)] []) := fun t k => castTop (by first | (simp [entryFrame, mkF, argsToLocals, Value.category]; done) | rfl) k
  generalize s₁.setTop (entryFrame m #[(.ref a1), (.int (1 : Int32))] 2) = S0 at k0 ⊢
  have k1 : Way p e below S0 s₁ (mkF m 1 #[rv a1, iv (1 : Int32)] [(.ref a1)]) := by
    intro t k
    refine k0 t ?_
    refine XS.aloadN X0.here hx rfl (hb hby d_prog_19_method_1_code_0) rfl rfl ?_
    show Steps p.tables e below (s₁.setTop (mkF m 1 #[rv a1, iv (1 : Int32)] [(.ref a1)])) _
    exact k
  obtain ⟨_, _, ⟨T2, L2, kk2, nn2⟩, -, X2, ⟨Lc2, hQ2, l2, y2, z2⟩, st2⟩ := X0.specialBack hx (y := (⟨"java/lang/Record", "<init>", "()V"⟩ : MethodName)) rfl hown (mvT hZ (hw _ (List.mem_of_getElem? (i := 6) rfl))) (mvT hZ (hw _ (List.mem_of_getElem? (i := 7) rfl))) (mvT hZ (hw _ (List.mem_of_getElem? (i := 10) rfl))) (by decide) (backOf (W := 0) (recInit l Z a0 hw [] wC clC G a1 h0 n0 O0 ) hZ (hw _ (List.mem_of_getElem? (i := 10) rfl)) (hw _ (List.mem_of_getElem? (i := 9) rfl)) (by decide) (by decide)) (g := (mkF m 1 #[rv a1, iv (1 : Int32)] [(.ref a1)])) rfl (by rw [hml]; rfl) (Steps.refl _) (a := a1) (argsL := []) (rest := []) (lenOf pd_0 rfl) rfl (by show 2 * 0 + _ ≤ _; exact Nat.le_of_eq rfl) (hb hby d_prog_19_method_1_code_1) (fun _ _ => ⟨rfl, e0, (by decide : 0 + 0 ≤ _), (by decide : 0 + 0 ≤ _)⟩)
  dsimp only [Pt.U, Pt.locs, Pt.cells, Pt.slots] at X2 l2 y2 z2 st2 hQ2
  subst l2 y2 z2
  obtain ⟨rfl, Nq2, e2⟩ := hQ2
  have N2 := Fr.app N0 Nq2
  have k3 : Way p e below S0 T2 (mkF m 4 #[rv a1, iv (1 : Int32)] []) := fun t k => k1 t (st2.trans k)
  have k4 : Way p e below S0 T2 (mkF m 6 #[rv a1, iv (1 : Int32)] [(.int (1 : Int32)), (.ref a1)]) := by
    intro t k
    refine k3 t ?_
    refine XS.aloadN X2.here hx rfl (hb hby d_prog_19_method_1_code_4) rfl rfl ?_
    show Steps p.tables e below (T2.setTop (mkF m 5 #[rv a1, iv (1 : Int32)] [(.ref a1)])) _
    refine XS.iloadN X2.here hx rfl (hb hby d_prog_19_method_1_code_5) rfl ?_
    show Steps p.tables e below (T2.setTop (mkF m 6 #[rv a1, iv (1 : Int32)] [(.int (1 : Int32)), (.ref a1)])) _
    exact k
  obtain ⟨T5, h5, X5, e5, W5, st5⟩ := putFN X2 hx hZ hown (hw _ (List.mem_of_getElem? (i := 14) rfl)) Via.refl e2 a_1 a_0 (Or.inr ⟨(hw _ (List.mem_of_getElem? (i := 15) rfl)), rfl, hnm⟩) (hw _ (List.mem_of_getElem? (i := 1) rfl)) (ty := .boolean) (v' := (.int (1 : Int32))) (by decide) rfl rfl (g := (mkF m 6 #[rv a1, iv (1 : Int32)] [(.int (1 : Int32)), (.ref a1)])) rfl rfl (hb hby d_prog_19_method_1_code_6)
  have O5 := O0.wr W5 ga1
  have N5 := Fr.snoc X5 N2 ga1
  have K5 : Keep h0 h5 [a1] := (Keep.refl h0 [a1]).wr W5 (Or.inl (List.mem_of_getElem? (i := 0) rfl))
  have fw5 : Fld Z h5 a1 "com/example/stubwright/stubwright/idl/ConstValue$BooleanValue" "value" "Z" (.int (1 : Int32)) := a_1.same W5
  have k6 : Way p e below S0 T5 (mkF m 9 #[rv a1, iv (1 : Int32)] []) := fun t k => k4 t (st5 _ k)
  obtain ⟨fs, hr, hrun, hended, hW, hsame⟩ := X5.leave (v := none) (fun _ => rfl)
  have f7 : Exa Z h5 a1 "com/example/stubwright/stubwright/idl/ConstValue$BooleanValue" := (a_0.wr W5)
  refine ⟨_, _, k6 _ (X5.returnOut hx Bd.returns (hb hby d_prog_19_method_1_code_9) hr), hrun, hended, _, _, rfl, ?_, ⟨_, rfl⟩, hW, hsame.mono (by decide) (by decide)⟩
  show Q_bvInit1 Z wC clC a1 h0 n0 _ T5.heap _
  rw [e5]
  exact ⟨rfl, N5, K5, f7, fw5⟩
def Q_cvInit (Z : State) (wC : Addr) (clC : Cell) (a1 : Addr) (p2 : Int32) (h0 : Heap) (n0 : Nat) (v : Option Value) (h : Heap) (L : List Loc) : Prop := (v = none) ∧ (Fr n0 L) ∧ (Keep h0 h [a1]) ∧ (Exa Z h a1 "com/example/stubwright/stubwright/idl/ConstValue$CharValue") ∧ (Fld Z h a1 "com/example/stubwright/stubwright/idl/ConstValue$CharValue" "value" "C" (.int p2))
set_option maxRecDepth 65536 in
set_option maxHeartbeats 40000000 in
theorem cvInit (l : Launch) (Z : State) (a0 : Array Value) (hw : ∀ d ∈ tables_1, d.before a0 Z = true) (ws : List Jvm.Cond) (wC : Addr) (clC : Cell) (G : Gst Z wC clC) (a1 : Addr) (p2 : Int32) (h0 : Heap) (n0 : Nat) (O0 : Old Z n0 h0) (a_0 : Exa Z h0 a1 "com/example/stubwright/stubwright/idl/ConstValue$CharValue") (a_1 : Fld Z h0 a1 "com/example/stubwright/stubwright/idl/ConstValue$CharValue" "value" "C" (.int (0 : Int32))) (ga1 : n0 ≤ a1) (hnar : p2.toUInt32.toUInt16.toUInt32.toInt32 = p2) :
    MetFree l (⟨"com/example/stubwright/stubwright/idl/ConstValue$CharValue", "<init>", "(C)V"⟩ : MethodName) (head1 (Jvm.Cond.code (⟨"com/example/stubwright/stubwright/idl/ConstValue$CharValue", "<init>", "(C)V"⟩ : MethodName) prog_20_method_1_code 2 none :: ws) ({ frames := 2, cells := 0, slots := 0, locals := 24 } : Room)) (fun a U => a = #[(.ref a1), (.int p2)] ∧ Z.Warmed39 U.vm ∧ U.heap = h0) (fun _ _ _ _ _ => True) (fun _ U o U' => ∃ v L, o = .returned v ∧ Q_cvInit Z wC clC a1 p2 h0 n0 v U'.heap L ∧ FrameEnd U o U' L ({ frames := 2, cells := 0, slots := 0, locals := 24 } : Room).cells ({ frames := 2, cells := 0, slots := 0, locals := 24 } : Room).slots) := by
  refine MetFree.of_bodySF (plainFor_of_name pn_2) hisR ?_
  intro p e s m args below meth c s₁ Bd hml0 hP hK
  obtain ⟨rfl, hZ, hh⟩ := hP
  have hx := Bd.exec
  have hby := Bd.bytes
  have hml : c.maxLocals = 2 := hml0
  have hown : s.vm.findClass "com/example/stubwright/stubwright/idl/ConstValue$CharValue" = some m.cls := findClass_of_methodNamed Bd.named
  have hnm := (name_of_methodNamed Bd.named Bd.method).1
  have X0 : Stand p l e ({ frames := 2, cells := 0, slots := 0, locals := 24 } : Room) s m #[(.ref a1), (.int p2)] below meth c s₁ [] 0 0 := Stand.of_body Bd
  have e0 : s₁.heap = h0 := by rw [← hh, Bd.state]; rfl
  have N0 := Fr.nil n0
  obtain ⟨S_high, S_cache, A_C, z_C, e_C⟩ := id G
  have k0 : Way p e below (s₁.setTop (entryFrame m #[(.ref a1), (.int p2)] 2)) s₁ (mkF m 0 #[rv a1, iv p2] []) := fun t k => castTop (by first | (simp [entryFrame, mkF, argsToLocals, Value.category]; done) | rfl) k
  generalize s₁.setTop (entryFrame m #[(.ref a1), (.int p2)] 2) = S0 at k0 ⊢
  have k1 : Way p e below S0 s₁ (mkF m 1 #[rv a1, iv p2] [(.ref a1)]) := by
    intro t k
    refine k0 t ?_
    refine XS.aloadN X0.here hx rfl (hb hby d_prog_20_method_1_code_0) rfl rfl ?_
    show Steps p.tables e below (s₁.setTop (mkF m 1 #[rv a1, iv p2] [(.ref a1)])) _
    exact k
  obtain ⟨_, _, ⟨T2, L2, kk2, nn2⟩, -, X2, ⟨Lc2, hQ2, l2, y2, z2⟩, st2⟩ := X0.specialBack hx (y := (⟨"java/lang/Record", "<init>", "()V"⟩ : MethodName)) rfl hown (mvT hZ (hw _ (List.mem_of_getElem? (i := 40) rfl))) (mvT hZ (hw _ (List.mem_of_getElem? (i := 7) rfl))) (mvT hZ (hw _ (List.mem_of_getElem? (i := 10) rfl))) (by decide) (backOf (W := 0) (recInit l Z a0 hw [] wC clC G a1 h0 n0 O0 ) hZ (hw _ (List.mem_of_getElem? (i := 10) rfl)) (hw _ (List.mem_of_getElem? (i := 9) rfl)) (by decide) (by decide)) (g := (mkF m 1 #[rv a1, iv p2] [(.ref a1)])) rfl (by rw [hml]; rfl) (Steps.refl _) (a := a1) (argsL := []) (rest := []) (lenOf pd_0 rfl) rfl (by show 2 * 0 + _ ≤ _; exact Nat.le_of_eq rfl) (hb hby d_prog_20_method_1_code_1) (fun _ _ => ⟨rfl, e0, (by decide : 0 + 0 ≤ _), (by decide : 0 + 0 ≤ _)⟩)
  dsimp only [Pt.U, Pt.locs, Pt.cells, Pt.slots] at X2 l2 y2 z2 st2 hQ2
  subst l2 y2 z2
  obtain ⟨rfl, Nq2, e2⟩ := hQ2
  have N2 := Fr.app N0 Nq2
  have k3 : Way p e below S0 T2 (mkF m 4 #[rv a1, iv p2] []) := fun t k => k1 t (st2.trans k)
  have k4 : Way p e below S0 T2 (mkF m 6 #[rv a1, iv p2] [(.int p2), (.ref a1)]) := by
    intro t k
    refine k3 t ?_
    refine XS.aloadN X2.here hx rfl (hb hby d_prog_20_method_1_code_4) rfl rfl ?_
    show Steps p.tables e below (T2.setTop (mkF m 5 #[rv a1, iv p2] [(.ref a1)])) _
    refine XS.iloadN X2.here hx rfl (hb hby d_prog_20_method_1_code_5) rfl ?_
    show Steps p.tables e below (T2.setTop (mkF m 6 #[rv a1, iv p2] [(.int p2), (.ref a1)])) _
    exact k
  obtain ⟨T5, h5, X5, e5, W5, st5⟩ := putFN X2 hx hZ hown (hw _ (List.mem_of_getElem? (i := 41) rfl)) Via.refl e2 a_1 a_0 (Or.inr ⟨(hw _ (List.mem_of_getElem? (i := 42) rfl)), rfl, hnm⟩) (hw _ (List.mem_of_getElem? (i := 34) rfl)) (ty := .char) (v' := (.int p2)) (by decide) (show narrow .char (.int p2) = .int p2 from congrArg Value.int hnar) (hnar ▸ fits_nar_char p2) (g := (mkF m 6 #[rv a1, iv p2] [(.int p2), (.ref a1)])) rfl rfl (hb hby d_prog_20_method_1_code_6)
  have O5 := O0.wr W5 ga1
  have N5 := Fr.snoc X5 N2 ga1
  have K5 : Keep h0 h5 [a1] := (Keep.refl h0 [a1]).wr W5 (Or.inl (List.mem_of_getElem? (i := 0) rfl))
  have fw5 : Fld Z h5 a1 "com/example/stubwright/stubwright/idl/ConstValue$CharValue" "value" "C" (.int p2) := a_1.same W5
  have k6 : Way p e below S0 T5 (mkF m 9 #[rv a1, iv p2] []) := fun t k => k4 t (st5 _ k)
  obtain ⟨fs, hr, hrun, hended, hW, hsame⟩ := X5.leave (v := none) (fun _ => rfl)
  have f7 : Exa Z h5 a1 "com/example/stubwright/stubwright/idl/ConstValue$CharValue" := (a_0.wr W5)
  refine ⟨_, _, k6 _ (X5.returnOut hx Bd.returns (hb hby d_prog_20_method_1_code_9) hr), hrun, hended, _, _, rfl, ?_, ⟨_, rfl⟩, hW, hsame.mono (by decide) (by decide)⟩
  show Q_cvInit Z wC clC a1 p2 h0 n0 _ T5.heap _
  rw [e5]
  exact ⟨rfl, N5, K5, f7, fw5⟩
def Q_vofOld (Z : State) (wC : Addr) (clC : Cell) (p1 : Int32) (h0 : Heap) (n0 : Nat) (v : Option Value) (h : Heap) (L : List Loc) : Prop := ∃ y1 : Addr, (v = some (.ref y1)) ∧ (Fr n0 L) ∧ (h = h0) ∧ (Exa Z h y1 "java/lang/Integer")
set_option maxRecDepth 65536 in
set_option maxHeartbeats 40000000 in
theorem vofOld (l : Launch) (Z : State) (a0 : Array Value) (hw : ∀ d ∈ tables_1, d.before a0 Z = true) (ws : List Jvm.Cond) (wC : Addr) (clC : Cell) (G : Gst Z wC clC) (p1 : Int32) (h0 : Heap) (n0 : Nat) (O0 : Old Z n0 h0) (lo : ¬ (p1 < (-128 : Int32))) (hi : ¬ ((127 : Int32) < p1)) :
    MetFree l (⟨"java/lang/Integer", "valueOf", "(I)Ljava/lang/Integer;"⟩ : MethodName) (head1 (Jvm.Cond.code (⟨"java/lang/Integer", "valueOf", "(I)Ljava/lang/Integer;"⟩ : MethodName) jdk_33_method_22_code 1 (some (.object "java/lang/Integer")) :: ws) ({ frames := 0, cells := 0, slots := 0, locals := 0 } : Room)) (fun a U => a = #[(.int p1)] ∧ Z.Warmed39 U.vm ∧ U.heap = h0) (fun _ _ _ _ _ => True) (fun _ U o U' => ∃ v L, o = .returned v ∧ Q_vofOld Z wC clC p1 h0 n0 v U'.heap L ∧ FrameEnd U o U' L ({ frames := 0, cells := 0, slots := 0, locals := 0 } : Room).cells ({ frames := 0, cells := 0, slots := 0, locals := 0 } : Room).slots) := by
  refine MetFree.of_bodySF (plainFor_of_name pn_3) hisR ?_
  intro p e s m args below meth c s₁ Bd hml0 hP hK
  obtain ⟨rfl, hZ, hh⟩ := hP
  have hx := Bd.exec
  have hby := Bd.bytes
  have hml : c.maxLocals = 1 := hml0
  have hown : s.vm.findClass "java/lang/Integer" = some m.cls := findClass_of_methodNamed Bd.named
  have hnm := (name_of_methodNamed Bd.named Bd.method).1
  have X0 : Stand p l e ({ frames := 0, cells := 0, slots := 0, locals := 0 } : Room) s m #[(.int p1)] below meth c s₁ [] 0 0 := Stand.of_body Bd
  have e0 : s₁.heap = h0 := by rw [← hh, Bd.state]; rfl
  have N0 := Fr.nil n0
  obtain ⟨S_high, S_cache, A_C, z_C, e_C⟩ := id G
  have k0 : Way p e below (s₁.setTop (entryFrame m #[(.int p1)] 1)) s₁ (mkF m 0 #[iv p1] []) := fun t k => castTop (by first | (simp [entryFrame, mkF, argsToLocals, Value.category]; done) | rfl) k
  generalize s₁.setTop (entryFrame m #[(.int p1)] 1) = S0 at k0 ⊢
  have k1 : Way p e below S0 s₁ (mkF m 7 #[iv p1] [(.int p1)]) := by
    intro t k
    refine k0 t ?_
    refine XS.iloadN X0.here hx rfl (hb hby d_jdk_33_method_22_code_0) rfl ?_
    show Steps p.tables e below (s₁.setTop (mkF m 1 #[iv p1] [(.int p1)])) _
    refine XS.bipush X0.here hx rfl (hb hby d_jdk_33_method_22_code_1) ?_
    show Steps p.tables e below (s₁.setTop (mkF m 3 #[iv p1] [(.int (-128 : Int32)), (.int p1)])) _
    refine XS.icmpNo X0.here hx rfl (hb hby d_jdk_33_method_22_code_3) rfl (flt (lo : ¬ (p1 < (-128 : Int32)))).1 ?_
    show Steps p.tables e below (s₁.setTop (mkF m 6 #[iv p1] [])) _
    refine XS.iloadN X0.here hx rfl (hb hby d_jdk_33_method_22_code_6) rfl ?_
    show Steps p.tables e below (s₁.setTop (mkF m 7 #[iv p1] [(.int p1)])) _
    exact k
  obtain ⟨T2, X2, e2, st2⟩ := getS2 X0 hx hZ hown (host := "") (Or.inl (hw _ (List.mem_of_getElem? (i := 27) rfl))) Via.refl e0 (S_high.ext O0.2) (g := (mkF m 7 #[iv p1] [(.int p1)])) rfl (hb hby d_jdk_33_method_22_code_7)
  have k3 : Way p e below S0 T2 (mkF m 10 #[iv p1] [(.int (127 : Int32)), (.int p1)]) := fun t k => k1 t (st2 _ k)
  have k4 : Way p e below S0 T2 (mkF m 13 #[iv p1] []) := by
    intro t k
    refine k3 t ?_
    refine XS.icmpNo X2.here hx rfl (hb hby d_jdk_33_method_22_code_10) rfl (flt (hi : ¬ ((127 : Int32) < p1))).2.2.1 ?_
    show Steps p.tables e below (T2.setTop (mkF m 13 #[iv p1] [])) _
    exact k
  obtain ⟨T5, X5, e5, st5⟩ := getS2 X2 hx hZ hown (host := "") (Or.inl (hw _ (List.mem_of_getElem? (i := 29) rfl))) Via.refl e2 (S_cache.ext O0.2) (g := (mkF m 13 #[iv p1] [])) rfl (hb hby d_jdk_33_method_22_code_13)
  have k6 : Way p e below S0 T5 (mkF m 16 #[iv p1] [(.ref wC)]) := fun t k => k4 t (st5 _ k)
  have k7 : Way p e below S0 T5 (mkF m 21 #[iv p1] [(.int (p1 + (128 : Int32))), (.ref wC)]) := by
    intro t k
    refine k6 t ?_
    refine XS.iloadN X5.here hx rfl (hb hby d_jdk_33_method_22_code_16) rfl ?_
    show Steps p.tables e below (T5.setTop (mkF m 17 #[iv p1] [(.int p1), (.ref wC)])) _
    refine XS.sipush X5.here hx rfl (hb hby d_jdk_33_method_22_code_17) ?_
    show Steps p.tables e below (T5.setTop (mkF m 20 #[iv p1] [(.int (128 : Int32)), (.int p1), (.ref wC)])) _
    refine XS.iadd X5.here hx rfl (hb hby d_jdk_33_method_22_code_20) rfl ?_
    show Steps p.tables e below (T5.setTop (mkF m 21 #[iv p1] [(.int (p1 + (128 : Int32))), (.ref wC)])) _
    exact k
  obtain ⟨y8, hy8, Ey8⟩ := e_C ((p1 + (128 : Int32))).toNatClampNeg (own_cidx lo hi).2
  have Ar8 := A_C.ext O0.2
  have hin8 : ¬ ((p1 + (128 : Int32)) < 0 ∨ clC.slots.size ≤ ((p1 + (128 : Int32))).toNatClampNeg) := fun q => q.elim (own_cidx lo hi).1 (fun r => Nat.not_le.mpr (own_cidx lo hi).2 (z_C ▸ r))
  have Ex8 := Ey8.ext O0.2
  have k9 : ∀ t, Steps p.tables e below (T5.setTop (mkF m 22 #[iv p1] [(.ref y8)])) t → Steps p.tables e below S0 t := fun t k => k7 t (X5.aaload hx (j := (p1 + (128 : Int32))) (v := (.ref y8)) (by rw [e5]; exact Ar8.1) (State.isArrayOf_alike hZ.alike Ar8.2.1) rfl Ar8.2.2 hin8 hy8 (g := (mkF m 21 #[iv p1] [(.int (p1 + (128 : Int32))), (.ref wC)])) rfl rfl (hb hby d_jdk_33_method_22_code_21) _ k)
  obtain ⟨fs, hr, hrun, hended, hW, hsame⟩ := X5.leave (v := some (.ref y8)) (fun h => by rw [Bd.returns] at h; cases h)
  refine ⟨_, _, k9 _ (retOut X5 hx Bd.returns rfl (Or.inr (Or.inr (Or.inr (Or.inr ⟨rfl, rfl, rfl⟩)))) (hb hby d_jdk_33_method_22_code_22) hr), hrun, hended, _, _, rfl, ?_, ⟨_, rfl⟩, hW, hsame.mono (by decide) (by decide)⟩
  show Q_vofOld Z wC clC p1 h0 n0 _ T5.heap _
  rw [e5]
  exact ⟨y8, rfl, N0, rfl, Ex8⟩
def Q_eq00 (Z : State) (wC : Addr) (clC : Cell) (a1 : Addr) (a2 : Addr) (h0 : Heap) (n0 : Nat) (v : Option Value) (h : Heap) (L : List Loc) : Prop := (v = some (.int (1 : Int32))) ∧ (Fr n0 L) ∧ (h = h0)
set_option maxRecDepth 65536 in
set_option maxHeartbeats 40000000 in
theorem eq00 (l : Launch) (Z : State) (a0 : Array Value) (hw : ∀ d ∈ tables_1, d.before a0 Z = true) (ws : List Jvm.Cond) (wC : Addr) (clC : Cell) (G : Gst Z wC clC) (a1 : Addr) (a2 : Addr) (h0 : Heap) (n0 : Nat) (O0 : Old Z n0 h0) (a_0 : Exa Z h0 a2 "com/example/stubwright/stubwright/idl/ConstValue$BooleanValue") (a_1 : Fld Z h0 a1 "com/example/stubwright/stubwright/idl/ConstValue$BooleanValue" "value" "Z" (.int (0 : Int32))) (a_2 : Fld Z h0 a2 "com/example/stubwright/stubwright/idl/ConstValue$BooleanValue" "value" "Z" (.int (0 : Int32))) :
    MetFree l (⟨"com/example/stubwright/stubwright/idl/ConstValue$BooleanValue", "equals", "(Ljava/lang/Object;)Z"⟩ : MethodName) (head1 (Jvm.Cond.code (⟨"com/example/stubwright/stubwright/idl/ConstValue$BooleanValue", "equals", "(Ljava/lang/Object;)Z"⟩ : MethodName) prog_19_method_2_code 3 (some .boolean) :: ws) ({ frames := 0, cells := 0, slots := 0, locals := 0 } : Room)) (fun a U => a = #[(.ref a1), (.ref a2)] ∧ Z.Warmed39 U.vm ∧ U.heap = h0) (fun _ _ _ _ _ => True) (fun _ U o U' => ∃ v L, o = .returned v ∧ Q_eq00 Z wC clC a1 a2 h0 n0 v U'.heap L ∧ FrameEnd U o U' L ({ frames := 0, cells := 0, slots := 0, locals := 0 } : Room).cells ({ frames := 0, cells := 0, slots := 0, locals := 0 } : Room).slots) := by
  refine MetFree.of_bodySF (plainFor_of_name pn_1) hisR ?_
  intro p e s m args below meth c s₁ Bd hml0 hP hK
  obtain ⟨rfl, hZ, hh⟩ := hP
  have hx := Bd.exec
  have hby := Bd.bytes
  have hml : c.maxLocals = 3 := hml0
  have hown : s.vm.findClass "com/example/stubwright/stubwright/idl/ConstValue$BooleanValue" = some m.cls := findClass_of_methodNamed Bd.named
  have hnm := (name_of_methodNamed Bd.named Bd.method).1
  have X0 : Stand p l e ({ frames := 0, cells := 0, slots := 0, locals := 0 } : Room) s m #[(.ref a1), (.ref a2)] below meth c s₁ [] 0 0 := Stand.of_body Bd
  have e0 : s₁.heap = h0 := by rw [← hh, Bd.state]; rfl
  have N0 := Fr.nil n0
  obtain ⟨S_high, S_cache, A_C, z_C, e_C⟩ := id G
  have k0 : Way p e below (s₁.setTop (entryFrame m #[(.ref a1), (.ref a2)] 3)) s₁ (mkF m 0 #[rv a1, rv a2, .unset] []) := fun t k => castTop (by first | (simp [entryFrame, mkF, argsToLocals, Value.category]; done) | rfl) k
  generalize s₁.setTop (entryFrame m #[(.ref a1), (.ref a2)] 3) = S0 at k0 ⊢
  have k1 : Way p e below S0 s₁ (mkF m 1 #[rv a1, rv a2, .unset] [(.ref a2)]) := by
    intro t k
    refine k0 t ?_
    refine XS.aloadN X0.here hx rfl (hb hby d_prog_19_method_2_code_0) rfl rfl ?_
    show Steps p.tables e below (s₁.setTop (mkF m 1 #[rv a1, rv a2, .unset] [(.ref a2)])) _
    exact k
  obtain ⟨T2, X2, e2, st2⟩ := instY X0 hx hZ hown (hw _ (List.mem_of_getElem? (i := 21) rfl)) e0 (Ins.self a_0) (g := (mkF m 1 #[rv a1, rv a2, .unset] [(.ref a2)])) rfl rfl (hb hby d_prog_19_method_2_code_1)
  have k3 : Way p e below S0 T2 (mkF m 4 #[rv a1, rv a2, .unset] [(.int (1 : Int32))]) := fun t k => k1 t (st2 _ k)
  have k4 : Way p e below S0 T2 (mkF m 8 #[rv a1, rv a2, .unset] [(.ref a2)]) := by
    intro t k
    refine k3 t ?_
    refine XS.ifNo X2.here hx rfl (hb hby d_prog_19_method_2_code_4) rfl ((if0 _ _).trans (feq ((by decide) : ¬ ((1 : Int32) = (0 : Int32)))).1) ?_
    show Steps p.tables e below (T2.setTop (mkF m 7 #[rv a1, rv a2, .unset] [])) _
    refine XS.aloadN X2.here hx rfl (hb hby d_prog_19_method_2_code_7) rfl rfl ?_
    show Steps p.tables e below (T2.setTop (mkF m 8 #[rv a1, rv a2, .unset] [(.ref a2)])) _
    exact k
  obtain ⟨T5, X5, e5, st5⟩ := castY X2 hx hZ hown (hw _ (List.mem_of_getElem? (i := 21) rfl)) e2 (Ins.self a_0) (g := (mkF m 8 #[rv a1, rv a2, .unset] [(.ref a2)])) rfl rfl (hb hby d_prog_19_method_2_code_8)
  have k6 : Way p e below S0 T5 (mkF m 11 #[rv a1, rv a2, .unset] [(.ref a2)]) := fun t k => k4 t (st5 _ k)
  have k7 : Way p e below S0 T5 (mkF m 13 #[rv a1, rv a2, rv a2] [(.ref a1)]) := by
    intro t k
    refine k6 t ?_
    refine XS.astoreN X5.here hx rfl (hb hby d_prog_19_method_2_code_11) rfl rfl (l' := #[rv a1, rv a2, rv a2]) rfl ?_
    show Steps p.tables e below (T5.setTop (mkF m 12 #[rv a1, rv a2, rv a2] [])) _
    refine XS.aloadN X5.here hx rfl (hb hby d_prog_19_method_2_code_12) rfl rfl ?_
    show Steps p.tables e below (T5.setTop (mkF m 13 #[rv a1, rv a2, rv a2] [(.ref a1)])) _
    exact k
  obtain ⟨T8, X8, e8, st8⟩ := getF X5 hx hZ hown (host := "") (Or.inl (hw _ (List.mem_of_getElem? (i := 14) rfl))) Via.refl e5 a_1 (g := (mkF m 13 #[rv a1, rv a2, rv a2] [(.ref a1)])) rfl rfl (hb hby d_prog_19_method_2_code_13)
  have k9 : Way p e below S0 T8 (mkF m 16 #[rv a1, rv a2, rv a2] [(.int (0 : Int32))]) := fun t k => k7 t (st8 _ k)
  have k10 : Way p e below S0 T8 (mkF m 17 #[rv a1, rv a2, rv a2] [(.ref a2), (.int (0 : Int32))]) := by
    intro t k
    refine k9 t ?_
    refine XS.aloadN X8.here hx rfl (hb hby d_prog_19_method_2_code_16) rfl rfl ?_
    show Steps p.tables e below (T8.setTop (mkF m 17 #[rv a1, rv a2, rv a2] [(.ref a2), (.int (0 : Int32))])) _
    exact k
  obtain ⟨T11, X11, e11, st11⟩ := getF X8 hx hZ hown (host := "") (Or.inl (hw _ (List.mem_of_getElem? (i := 14) rfl))) Via.refl e8 a_2 (g := (mkF m 17 #[rv a1, rv a2, rv a2] [(.ref a2), (.int (0 : Int32))])) rfl rfl (hb hby d_prog_19_method_2_code_17)
  have k12 : Way p e below S0 T11 (mkF m 20 #[rv a1, rv a2, rv a2] [(.int (0 : Int32)), (.int (0 : Int32))]) := fun t k => k10 t (st11 _ k)
  have k13 : Way p e below S0 T11 (mkF m 28 #[rv a1, rv a2, rv a2] [(.int (1 : Int32))]) := by
    intro t k
    refine k12 t ?_
    refine XS.icmpNo X11.here hx rfl (hb hby d_prog_19_method_2_code_20) rfl (teq ((by decide) : (0 : Int32) = (0 : Int32))).2 ?_
    show Steps p.tables e below (T11.setTop (mkF m 23 #[rv a1, rv a2, rv a2] [])) _
    refine XS.iconst X11.here hx rfl (hb hby d_prog_19_method_2_code_23) ?_
    show Steps p.tables e below (T11.setTop (mkF m 24 #[rv a1, rv a2, rv a2] [(.int (1 : Int32))])) _
    refine XS.goto X11.here hx rfl (pc0 := 24) (pc' := 28) rfl (hb hby d_prog_19_method_2_code_24) (by decide) (by decide) ?_
    show Steps p.tables e below (T11.setTop (mkF m 28 #[rv a1, rv a2, rv a2] [(.int (1 : Int32))])) _
    exact k
  obtain ⟨fs, hr, hrun, hended, hW, hsame⟩ := X11.leave (v := some (.int (1 : Int32))) (fun h => by rw [Bd.returns] at h; cases h)
  refine ⟨_, _, k13 _ (retN X11 hx (t := .boolean) Bd.returns (by simp) (hb hby d_prog_19_method_2_code_28) hr), hrun, hended, _, _, rfl, ?_, ⟨_, rfl⟩, hW, hsame.mono (by decide) (by decide)⟩
  show Q_eq00 Z wC clC a1 a2 h0 n0 _ T11.heap _
  rw [e11]
  exact ⟨rfl, N0, rfl⟩
def Q_eq01 (Z : State) (wC : Addr) (clC : Cell) (a1 : Addr) (a2 : Addr) (h0 : Heap) (n0 : Nat) (v : Option Value) (h : Heap) (L : List Loc) : Prop := (v = some (.int (0 : Int32))) ∧ (Fr n0 L) ∧ (h = h0)
set_option maxRecDepth 65536 in
set_option maxHeartbeats 40000000 in
theorem eq01 (l : Launch) (Z : State) (a0 : Array Value) (hw : ∀ d ∈ tables_1, d.before a0 Z = true) (ws : List Jvm.Cond) (wC : Addr) (clC : Cell) (G : Gst Z wC clC) (a1 : Addr) (a2 : Addr) (h0 : Heap) (n0 : Nat) (O0 : Old Z n0 h0) (a_0 : Exa Z h0 a2 "com/example/stubwright/stubwright/idl/ConstValue$BooleanValue") (a_1 : Fld Z h0 a1 "com/example/stubwright/stubwright/idl/ConstValue$BooleanValue" "value" "Z" (.int (0 : Int32))) (a_2 : Fld Z h0 a2 "com/example/stubwright/stubwright/idl/ConstValue$BooleanValue" "value" "Z" (.int (1 : Int32))) :
    MetFree l (⟨"com/example/stubwright/stubwright/idl/ConstValue$BooleanValue", "equals", "(Ljava/lang/Object;)Z"⟩ : MethodName) (head1 (Jvm.Cond.code (⟨"com/example/stubwright/stubwright/idl/ConstValue$BooleanValue", "equals", "(Ljava/lang/Object;)Z"⟩ : MethodName) prog_19_method_2_code 3 (some .boolean) :: ws) ({ frames := 0, cells := 0, slots := 0, locals := 0 } : Room)) (fun a U => a = #[(.ref a1), (.ref a2)] ∧ Z.Warmed39 U.vm ∧ U.heap = h0) (fun _ _ _ _ _ => True) (fun _ U o U' => ∃ v L, o = .returned v ∧ Q_eq01 Z wC clC a1 a2 h0 n0 v U'.heap L ∧ FrameEnd U o U' L ({ frames := 0, cells := 0, slots := 0, locals := 0 } : Room).cells ({ frames := 0, cells := 0, slots := 0, locals := 0 } : Room).slots) := by
  refine MetFree.of_bodySF (plainFor_of_name pn_1) hisR ?_
  intro p e s m args below meth c s₁ Bd hml0 hP hK
  obtain ⟨rfl, hZ, hh⟩ := hP
  have hx := Bd.exec
  have hby := Bd.bytes
  have hml : c.maxLocals = 3 := hml0
  have hown : s.vm.findClass "com/example/stubwright/stubwright/idl/ConstValue$BooleanValue" = some m.cls := findClass_of_methodNamed Bd.named
  have hnm := (name_of_methodNamed Bd.named Bd.method).1
  have X0 : Stand p l e ({ frames := 0, cells := 0, slots := 0, locals := 0 } : Room) s m #[(.ref a1), (.ref a2)] below meth c s₁ [] 0 0 := Stand.of_body Bd
  have e0 : s₁.heap = h0 := by rw [← hh, Bd.state]; rfl
  have N0 := Fr.nil n0
  obtain ⟨S_high, S_cache, A_C, z_C, e_C⟩ := id G
  have k0 : Way p e below (s₁.setTop (entryFrame m #[(.ref a1), (.ref a2)] 3)) s₁ (mkF m 0 #[rv a1, rv a2, .unset] []) := fun t k => castTop (by first | (simp [entryFrame, mkF, argsToLocals, Value.category]; done) | rfl) k
  generalize s₁.setTop (entryFrame m #[(.ref a1), (.ref a2)] 3) = S0 at k0 ⊢
  have k1 : Way p e below S0 s₁ (mkF m 1 #[rv a1, rv a2, .unset] [(.ref a2)]) := by
    intro t k
    refine k0 t ?_
    refine XS.aloadN X0.here hx rfl (hb hby d_prog_19_method_2_code_0) rfl rfl ?_
    show Steps p.tables e below (s₁.setTop (mkF m 1 #[rv a1, rv a2, .unset] [(.ref a2)])) _
    exact k
  obtain ⟨T2, X2, e2, st2⟩ := instY X0 hx hZ hown (hw _ (List.mem_of_getElem? (i := 21) rfl)) e0 (Ins.self a_0) (g := (mkF m 1 #[rv a1, rv a2, .unset] [(.ref a2)])) rfl rfl (hb hby d_prog_19_method_2_code_1)
  have k3 : Way p e below S0 T2 (mkF m 4 #[rv a1, rv a2, .unset] [(.int (1 : Int32))]) := fun t k => k1 t (st2 _ k)
  have k4 : Way p e below S0 T2 (mkF m 8 #[rv a1, rv a2, .unset] [(.ref a2)]) := by
    intro t k
    refine k3 t ?_
    refine XS.ifNo X2.here hx rfl (hb hby d_prog_19_method_2_code_4) rfl ((if0 _ _).trans (feq ((by decide) : ¬ ((1 : Int32) = (0 : Int32)))).1) ?_
    show Steps p.tables e below (T2.setTop (mkF m 7 #[rv a1, rv a2, .unset] [])) _
    refine XS.aloadN X2.here hx rfl (hb hby d_prog_19_method_2_code_7) rfl rfl ?_
    show Steps p.tables e below (T2.setTop (mkF m 8 #[rv a1, rv a2, .unset] [(.ref a2)])) _
    exact k
  obtain ⟨T5, X5, e5, st5⟩ := castY X2 hx hZ hown (hw _ (List.mem_of_getElem? (i := 21) rfl)) e2 (Ins.self a_0) (g := (mkF m 8 #[rv a1, rv a2, .unset] [(.ref a2)])) rfl rfl (hb hby d_prog_19_method_2_code_8)
  have k6 : Way p e below S0 T5 (mkF m 11 #[rv a1, rv a2, .unset] [(.ref a2)]) := fun t k => k4 t (st5 _ k)
  have k7 : Way p e below S0 T5 (mkF m 13 #[rv a1, rv a2, rv a2] [(.ref a1)]) := by
    intro t k
    refine k6 t ?_
    refine XS.astoreN X5.here hx rfl (hb hby d_prog_19_method_2_code_11) rfl rfl (l' := #[rv a1, rv a2, rv a2]) rfl ?_
    show Steps p.tables e below (T5.setTop (mkF m 12 #[rv a1, rv a2, rv a2] [])) _
    refine XS.aloadN X5.here hx rfl (hb hby d_prog_19_method_2_code_12) rfl rfl ?_
    show Steps p.tables e below (T5.setTop (mkF m 13 #[rv a1, rv a2, rv a2] [(.ref a1)])) _
    exact k
  obtain ⟨T8, X8, e8, st8⟩ := getF X5 hx hZ hown (host := "") (Or.inl (hw _ (List.mem_of_getElem? (i := 14) rfl))) Via.refl e5 a_1 (g := (mkF m 13 #[rv a1, rv a2, rv a2] [(.ref a1)])) rfl rfl (hb hby d_prog_19_method_2_code_13)
  have k9 : Way p e below S0 T8 (mkF m 16 #[rv a1, rv a2, rv a2] [(.int (0 : Int32))]) := fun t k => k7 t (st8 _ k)
  have k10 : Way p e below S0 T8 (mkF m 17 #[rv a1, rv a2, rv a2] [(.ref a2), (.int (0 : Int32))]) := by
    intro t k
    refine k9 t ?_
    refine XS.aloadN X8.here hx rfl (hb hby d_prog_19_method_2_code_16) rfl rfl ?_
    show Steps p.tables e below (T8.setTop (mkF m 17 #[rv a1, rv a2, rv a2] [(.ref a2), (.int (0 : Int32))])) _
    exact k
  obtain ⟨T11, X11, e11, st11⟩ := getF X8 hx hZ hown (host := "") (Or.inl (hw _ (List.mem_of_getElem? (i := 14) rfl))) Via.refl e8 a_2 (g := (mkF m 17 #[rv a1, rv a2, rv a2] [(.ref a2), (.int (0 : Int32))])) rfl rfl (hb hby d_prog_19_method_2_code_17)
  have k12 : Way p e below S0 T11 (mkF m 20 #[rv a1, rv a2, rv a2] [(.int (1 : Int32)), (.int (0 : Int32))]) := fun t k => k10 t (st11 _ k)
  have k13 : Way p e below S0 T11 (mkF m 28 #[rv a1, rv a2, rv a2] [(.int (0 : Int32))]) := by
    intro t k
    refine k12 t ?_
    refine XS.icmpYes X11.here hx rfl (pc0 := 20) (pc' := 27) rfl (hb hby d_prog_19_method_2_code_20) rfl (feq ((by decide) : ¬ ((0 : Int32) = (1 : Int32)))).2 (by decide) (by decide) ?_
    show Steps p.tables e below (T11.setTop (mkF m 27 #[rv a1, rv a2, rv a2] [])) _
    refine XS.iconst X11.here hx rfl (hb hby d_prog_19_method_2_code_27) ?_
    show Steps p.tables e below (T11.setTop (mkF m 28 #[rv a1, rv a2, rv a2] [(.int (0 : Int32))])) _
    exact k
  obtain ⟨fs, hr, hrun, hended, hW, hsame⟩ := X11.leave (v := some (.int (0 : Int32))) (fun h => by rw [Bd.returns] at h; cases h)
  refine ⟨_, _, k13 _ (retN X11 hx (t := .boolean) Bd.returns (by simp) (hb hby d_prog_19_method_2_code_28) hr), hrun, hended, _, _, rfl, ?_, ⟨_, rfl⟩, hW, hsame.mono (by decide) (by decide)⟩
  show Q_eq01 Z wC clC a1 a2 h0 n0 _ T11.heap _
  rw [e11]
  exact ⟨rfl, N0, rfl⟩
def Q_eq10 (Z : State) (wC : Addr) (clC : Cell) (a1 : Addr) (a2 : Addr) (h0 : Heap) (n0 : Nat) (v : Option Value) (h : Heap) (L : List Loc) : Prop := (v = some (.int (0 : Int32))) ∧ (Fr n0 L) ∧ (h = h0)
set_option maxRecDepth 65536 in
set_option maxHeartbeats 40000000 in
theorem eq10 (l : Launch) (Z : State) (a0 : Array Value) (hw : ∀ d ∈ tables_1, d.before a0 Z = true) (ws : List Jvm.Cond) (wC : Addr) (clC : Cell) (G : Gst Z wC clC) (a1 : Addr) (a2 : Addr) (h0 : Heap) (n0 : Nat) (O0 : Old Z n0 h0) (a_0 : Exa Z h0 a2 "com/example/stubwright/stubwright/idl/ConstValue$BooleanValue") (a_1 : Fld Z h0 a1 "com/example/stubwright/stubwright/idl/ConstValue$BooleanValue" "value" "Z" (.int (1 : Int32))) (a_2 : Fld Z h0 a2 "com/example/stubwright/stubwright/idl/ConstValue$BooleanValue" "value" "Z" (.int (0 : Int32))) :
    MetFree l (⟨"com/example/stubwright/stubwright/idl/ConstValue$BooleanValue", "equals", "(Ljava/lang/Object;)Z"⟩ : MethodName) (head1 (Jvm.Cond.code (⟨"com/example/stubwright/stubwright/idl/ConstValue$BooleanValue", "equals", "(Ljava/lang/Object;)Z"⟩ : MethodName) prog_19_method_2_code 3 (some .boolean) :: ws) ({ frames := 0, cells := 0, slots := 0, locals := 0 } : Room)) (fun a U => a = #[(.ref a1), (.ref a2)] ∧ Z.Warmed39 U.vm ∧ U.heap = h0) (fun _ _ _ _ _ => True) (fun _ U o U' => ∃ v L, o = .returned v ∧ Q_eq10 Z wC clC a1 a2 h0 n0 v U'.heap L ∧ FrameEnd U o U' L ({ frames := 0, cells := 0, slots := 0, locals := 0 } : Room).cells ({ frames := 0, cells := 0, slots := 0, locals := 0 } : Room).slots) := by
  refine MetFree.of_bodySF (plainFor_of_name pn_1) hisR ?_
  intro p e s m args below meth c s₁ Bd hml0 hP hK
  obtain ⟨rfl, hZ, hh⟩ := hP
  have hx := Bd.exec
  have hby := Bd.bytes
  have hml : c.maxLocals = 3 := hml0
  have hown : s.vm.findClass "com/example/stubwright/stubwright/idl/ConstValue$BooleanValue" = some m.cls := findClass_of_methodNamed Bd.named
  have hnm := (name_of_methodNamed Bd.named Bd.method).1
  have X0 : Stand p l e ({ frames := 0, cells := 0, slots := 0, locals := 0 } : Room) s m #[(.ref a1), (.ref a2)] below meth c s₁ [] 0 0 := Stand.of_body Bd
  have e0 : s₁.heap = h0 := by rw [← hh, Bd.state]; rfl
  have N0 := Fr.nil n0
  obtain ⟨S_high, S_cache, A_C, z_C, e_C⟩ := id G
  have k0 : Way p e below (s₁.setTop (entryFrame m #[(.ref a1), (.ref a2)] 3)) s₁ (mkF m 0 #[rv a1, rv a2, .unset] []) := fun t k => castTop (by first | (simp [entryFrame, mkF, argsToLocals, Value.category]; done) | rfl) k
  generalize s₁.setTop (entryFrame m #[(.ref a1), (.ref a2)] 3) = S0 at k0 ⊢
  have k1 : Way p e below S0 s₁ (mkF m 1 #[rv a1, rv a2, .unset] [(.ref a2)]) := by
    intro t k
    refine k0 t ?_
    refine XS.aloadN X0.here hx rfl (hb hby d_prog_19_method_2_code_0) rfl rfl ?_
    show Steps p.tables e below (s₁.setTop (mkF m 1 #[rv a1, rv a2, .unset] [(.ref a2)])) _
    exact k
  obtain ⟨T2, X2, e2, st2⟩ := instY X0 hx hZ hown (hw _ (List.mem_of_getElem? (i := 21) rfl)) e0 (Ins.self a_0) (g := (mkF m 1 #[rv a1, rv a2, .unset] [(.ref a2)])) rfl rfl (hb hby d_prog_19_method_2_code_1)
  have k3 : Way p e below S0 T2 (mkF m 4 #[rv a1, rv a2, .unset] [(.int (1 : Int32))]) := fun t k => k1 t (st2 _ k)
  have k4 : Way p e below S0 T2 (mkF m 8 #[rv a1, rv a2, .unset] [(.ref a2)]) := by
    intro t k
    refine k3 t ?_
    refine XS.ifNo X2.here hx rfl (hb hby d_prog_19_method_2_code_4) rfl ((if0 _ _).trans (feq ((by decide) : ¬ ((1 : Int32) = (0 : Int32)))).1) ?_
    show Steps p.tables e below (T2.setTop (mkF m 7 #[rv a1, rv a2, .unset] [])) _
    refine XS.aloadN X2.here hx rfl (hb hby d_prog_19_method_2_code_7) rfl rfl ?_
    show Steps p.tables e below (T2.setTop (mkF m 8 #[rv a1, rv a2, .unset] [(.ref a2)])) _
    exact k
  obtain ⟨T5, X5, e5, st5⟩ := castY X2 hx hZ hown (hw _ (List.mem_of_getElem? (i := 21) rfl)) e2 (Ins.self a_0) (g := (mkF m 8 #[rv a1, rv a2, .unset] [(.ref a2)])) rfl rfl (hb hby d_prog_19_method_2_code_8)
  have k6 : Way p e below S0 T5 (mkF m 11 #[rv a1, rv a2, .unset] [(.ref a2)]) := fun t k => k4 t (st5 _ k)
  have k7 : Way p e below S0 T5 (mkF m 13 #[rv a1, rv a2, rv a2] [(.ref a1)]) := by
    intro t k
    refine k6 t ?_
    refine XS.astoreN X5.here hx rfl (hb hby d_prog_19_method_2_code_11) rfl rfl (l' := #[rv a1, rv a2, rv a2]) rfl ?_
    show Steps p.tables e below (T5.setTop (mkF m 12 #[rv a1, rv a2, rv a2] [])) _
    refine XS.aloadN X5.here hx rfl (hb hby d_prog_19_method_2_code_12) rfl rfl ?_
    show Steps p.tables e below (T5.setTop (mkF m 13 #[rv a1, rv a2, rv a2] [(.ref a1)])) _
    exact k
  obtain ⟨T8, X8, e8, st8⟩ := getF X5 hx hZ hown (host := "") (Or.inl (hw _ (List.mem_of_getElem? (i := 14) rfl))) Via.refl e5 a_1 (g := (mkF m 13 #[rv a1, rv a2, rv a2] [(.ref a1)])) rfl rfl (hb hby d_prog_19_method_2_code_13)
  have k9 : Way p e below S0 T8 (mkF m 16 #[rv a1, rv a2, rv a2] [(.int (1 : Int32))]) := fun t k => k7 t (st8 _ k)
  have k10 : Way p e below S0 T8 (mkF m 17 #[rv a1, rv a2, rv a2] [(.ref a2), (.int (1 : Int32))]) := by
    intro t k
    refine k9 t ?_
    refine XS.aloadN X8.here hx rfl (hb hby d_prog_19_method_2_code_16) rfl rfl ?_
    show Steps p.tables e below (T8.setTop (mkF m 17 #[rv a1, rv a2, rv a2] [(.ref a2), (.int (1 : Int32))])) _
    exact k
  obtain ⟨T11, X11, e11, st11⟩ := getF X8 hx hZ hown (host := "") (Or.inl (hw _ (List.mem_of_getElem? (i := 14) rfl))) Via.refl e8 a_2 (g := (mkF m 17 #[rv a1, rv a2, rv a2] [(.ref a2), (.int (1 : Int32))])) rfl rfl (hb hby d_prog_19_method_2_code_17)
  have k12 : Way p e below S0 T11 (mkF m 20 #[rv a1, rv a2, rv a2] [(.int (0 : Int32)), (.int (1 : Int32))]) := fun t k => k10 t (st11 _ k)
  have k13 : Way p e below S0 T11 (mkF m 28 #[rv a1, rv a2, rv a2] [(.int (0 : Int32))]) := by
    intro t k
    refine k12 t ?_
    refine XS.icmpYes X11.here hx rfl (pc0 := 20) (pc' := 27) rfl (hb hby d_prog_19_method_2_code_20) rfl (feq ((by decide) : ¬ ((1 : Int32) = (0 : Int32)))).2 (by decide) (by decide) ?_
    show Steps p.tables e below (T11.setTop (mkF m 27 #[rv a1, rv a2, rv a2] [])) _
    refine XS.iconst X11.here hx rfl (hb hby d_prog_19_method_2_code_27) ?_
    show Steps p.tables e below (T11.setTop (mkF m 28 #[rv a1, rv a2, rv a2] [(.int (0 : Int32))])) _
    exact k
  obtain ⟨fs, hr, hrun, hended, hW, hsame⟩ := X11.leave (v := some (.int (0 : Int32))) (fun h => by rw [Bd.returns] at h; cases h)
  refine ⟨_, _, k13 _ (retN X11 hx (t := .boolean) Bd.returns (by simp) (hb hby d_prog_19_method_2_code_28) hr), hrun, hended, _, _, rfl, ?_, ⟨_, rfl⟩, hW, hsame.mono (by decide) (by decide)⟩
  show Q_eq10 Z wC clC a1 a2 h0 n0 _ T11.heap _
  rw [e11]
  exact ⟨rfl, N0, rfl⟩
def Q_eq11 (Z : State) (wC : Addr) (clC : Cell) (a1 : Addr) (a2 : Addr) (h0 : Heap) (n0 : Nat) (v : Option Value) (h : Heap) (L : List Loc) : Prop := (v = some (.int (1 : Int32))) ∧ (Fr n0 L) ∧ (h = h0)
set_option maxRecDepth 65536 in
set_option maxHeartbeats 40000000 in
theorem eq11 (l : Launch) (Z : State) (a0 : Array Value) (hw : ∀ d ∈ tables_1, d.before a0 Z = true) (ws : List Jvm.Cond) (wC : Addr) (clC : Cell) (G : Gst Z wC clC) (a1 : Addr) (a2 : Addr) (h0 : Heap) (n0 : Nat) (O0 : Old Z n0 h0) (a_0 : Exa Z h0 a2 "com/example/stubwright/stubwright/idl/ConstValue$BooleanValue") (a_1 : Fld Z h0 a1 "com/example/stubwright/stubwright/idl/ConstValue$BooleanValue" "value" "Z" (.int (1 : Int32))) (a_2 : Fld Z h0 a2 "com/example/stubwright/stubwright/idl/ConstValue$BooleanValue" "value" "Z" (.int (1 : Int32))) :
    MetFree l (⟨"com/example/stubwright/stubwright/idl/ConstValue$BooleanValue", "equals", "(Ljava/lang/Object;)Z"⟩ : MethodName) (head1 (Jvm.Cond.code (⟨"com/example/stubwright/stubwright/idl/ConstValue$BooleanValue", "equals", "(Ljava/lang/Object;)Z"⟩ : MethodName) prog_19_method_2_code 3 (some .boolean) :: ws) ({ frames := 0, cells := 0, slots := 0, locals := 0 } : Room)) (fun a U => a = #[(.ref a1), (.ref a2)] ∧ Z.Warmed39 U.vm ∧ U.heap = h0) (fun _ _ _ _ _ => True) (fun _ U o U' => ∃ v L, o = .returned v ∧ Q_eq11 Z wC clC a1 a2 h0 n0 v U'.heap L ∧ FrameEnd U o U' L ({ frames := 0, cells := 0, slots := 0, locals := 0 } : Room).cells ({ frames := 0, cells := 0, slots := 0, locals := 0 } : Room).slots) := by
  refine MetFree.of_bodySF (plainFor_of_name pn_1) hisR ?_
  intro p e s m args below meth c s₁ Bd hml0 hP hK
  obtain ⟨rfl, hZ, hh⟩ := hP
  have hx := Bd.exec
  have hby := Bd.bytes
  have hml : c.maxLocals = 3 := hml0
  have hown : s.vm.findClass "com/example/stubwright/stubwright/idl/ConstValue$BooleanValue" = some m.cls := findClass_of_methodNamed Bd.named
  have hnm := (name_of_methodNamed Bd.named Bd.method).1
  have X0 : Stand p l e ({ frames := 0, cells := 0, slots := 0, locals := 0 } : Room) s m #[(.ref a1), (.ref a2)] below meth c s₁ [] 0 0 := Stand.of_body Bd
  have e0 : s₁.heap = h0 := by rw [← hh, Bd.state]; rfl
  have N0 := Fr.nil n0
  obtain ⟨S_high, S_cache, A_C, z_C, e_C⟩ := id G
  have k0 : Way p e below (s₁.setTop (entryFrame m #[(.ref a1), (.ref a2)] 3)) s₁ (mkF m 0 #[rv a1, rv a2, .unset] []) := fun t k => castTop (by first | (simp [entryFrame, mkF, argsToLocals, Value.category]; done) | rfl) k
  generalize s₁.setTop (entryFrame m #[(.ref a1), (.ref a2)] 3) = S0 at k0 ⊢
  have k1 : Way p e below S0 s₁ (mkF m 1 #[rv a1, rv a2, .unset] [(.ref a2)]) := by
    intro t k
    refine k0 t ?_
    refine XS.aloadN X0.here hx rfl (hb hby d_prog_19_method_2_code_0) rfl rfl ?_
    show Steps p.tables e below (s₁.setTop (mkF m 1 #[rv a1, rv a2, .unset] [(.ref a2)])) _
    exact k
  obtain ⟨T2, X2, e2, st2⟩ := instY X0 hx hZ hown (hw _ (List.mem_of_getElem? (i := 21) rfl)) e0 (Ins.self a_0) (g := (mkF m 1 #[rv a1, rv a2, .unset] [(.ref a2)])) rfl rfl (hb hby d_prog_19_method_2_code_1)
  have k3 : Way p e below S0 T2 (mkF m 4 #[rv a1, rv a2, .unset] [(.int (1 : Int32))]) := fun t k => k1 t (st2 _ k)
  have k4 : Way p e below S0 T2 (mkF m 8 #[rv a1, rv a2, .unset] [(.ref a2)]) := by
    intro t k
    refine k3 t ?_
    refine XS.ifNo X2.here hx rfl (hb hby d_prog_19_method_2_code_4) rfl ((if0 _ _).trans (feq ((by decide) : ¬ ((1 : Int32) = (0 : Int32)))).1) ?_
    show Steps p.tables e below (T2.setTop (mkF m 7 #[rv a1, rv a2, .unset] [])) _
    refine XS.aloadN X2.here hx rfl (hb hby d_prog_19_method_2_code_7) rfl rfl ?_
    show Steps p.tables e below (T2.setTop (mkF m 8 #[rv a1, rv a2, .unset] [(.ref a2)])) _
    exact k
  obtain ⟨T5, X5, e5, st5⟩ := castY X2 hx hZ hown (hw _ (List.mem_of_getElem? (i := 21) rfl)) e2 (Ins.self a_0) (g := (mkF m 8 #[rv a1, rv a2, .unset] [(.ref a2)])) rfl rfl (hb hby d_prog_19_method_2_code_8)
  have k6 : Way p e below S0 T5 (mkF m 11 #[rv a1, rv a2, .unset] [(.ref a2)]) := fun t k => k4 t (st5 _ k)
  have k7 : Way p e below S0 T5 (mkF m 13 #[rv a1, rv a2, rv a2] [(.ref a1)]) := by
    intro t k
    refine k6 t ?_
    refine XS.astoreN X5.here hx rfl (hb hby d_prog_19_method_2_code_11) rfl rfl (l' := #[rv a1, rv a2, rv a2]) rfl ?_
    show Steps p.tables e below (T5.setTop (mkF m 12 #[rv a1, rv a2, rv a2] [])) _
    refine XS.aloadN X5.here hx rfl (hb hby d_prog_19_method_2_code_12) rfl rfl ?_
    show Steps p.tables e below (T5.setTop (mkF m 13 #[rv a1, rv a2, rv a2] [(.ref a1)])) _
    exact k
  obtain ⟨T8, X8, e8, st8⟩ := getF X5 hx hZ hown (host := "") (Or.inl (hw _ (List.mem_of_getElem? (i := 14) rfl))) Via.refl e5 a_1 (g := (mkF m 13 #[rv a1, rv a2, rv a2] [(.ref a1)])) rfl rfl (hb hby d_prog_19_method_2_code_13)
  have k9 : Way p e below S0 T8 (mkF m 16 #[rv a1, rv a2, rv a2] [(.int (1 : Int32))]) := fun t k => k7 t (st8 _ k)
  have k10 : Way p e below S0 T8 (mkF m 17 #[rv a1, rv a2, rv a2] [(.ref a2), (.int (1 : Int32))]) := by
    intro t k
    refine k9 t ?_
    refine XS.aloadN X8.here hx rfl (hb hby d_prog_19_method_2_code_16) rfl rfl ?_
    show Steps p.tables e below (T8.setTop (mkF m 17 #[rv a1, rv a2, rv a2] [(.ref a2), (.int (1 : Int32))])) _
    exact k
  obtain ⟨T11, X11, e11, st11⟩ := getF X8 hx hZ hown (host := "") (Or.inl (hw _ (List.mem_of_getElem? (i := 14) rfl))) Via.refl e8 a_2 (g := (mkF m 17 #[rv a1, rv a2, rv a2] [(.ref a2), (.int (1 : Int32))])) rfl rfl (hb hby d_prog_19_method_2_code_17)
  have k12 : Way p e below S0 T11 (mkF m 20 #[rv a1, rv a2, rv a2] [(.int (1 : Int32)), (.int (1 : Int32))]) := fun t k => k10 t (st11 _ k)
  have k13 : Way p e below S0 T11 (mkF m 28 #[rv a1, rv a2, rv a2] [(.int (1 : Int32))]) := by
    intro t k
    refine k12 t ?_
    refine XS.icmpNo X11.here hx rfl (hb hby d_prog_19_method_2_code_20) rfl (teq ((by decide) : (1 : Int32) = (1 : Int32))).2 ?_
    show Steps p.tables e below (T11.setTop (mkF m 23 #[rv a1, rv a2, rv a2] [])) _
    refine XS.iconst X11.here hx rfl (hb hby d_prog_19_method_2_code_23) ?_
    show Steps p.tables e below (T11.setTop (mkF m 24 #[rv a1, rv a2, rv a2] [(.int (1 : Int32))])) _
    refine XS.goto X11.here hx rfl (pc0 := 24) (pc' := 28) rfl (hb hby d_prog_19_method_2_code_24) (by decide) (by decide) ?_
    show Steps p.tables e below (T11.setTop (mkF m 28 #[rv a1, rv a2, rv a2] [(.int (1 : Int32))])) _
    exact k
  obtain ⟨fs, hr, hrun, hended, hW, hsame⟩ := X11.leave (v := some (.int (1 : Int32))) (fun h => by rw [Bd.returns] at h; cases h)
  refine ⟨_, _, k13 _ (retN X11 hx (t := .boolean) Bd.returns (by simp) (hb hby d_prog_19_method_2_code_28) hr), hrun, hended, _, _, rfl, ?_, ⟨_, rfl⟩, hW, hsame.mono (by decide) (by decide)⟩
  show Q_eq11 Z wC clC a1 a2 h0 n0 _ T11.heap _
  rw [e11]
  exact ⟨rfl, N0, rfl⟩
def Q_eqNull (Z : State) (wC : Addr) (clC : Cell) (a1 : Addr) (h0 : Heap) (n0 : Nat) (v : Option Value) (h : Heap) (L : List Loc) : Prop := (v = some (.int (0 : Int32))) ∧ (Fr n0 L) ∧ (h = h0)
set_option maxRecDepth 65536 in
set_option maxHeartbeats 40000000 in
theorem eqNull (l : Launch) (Z : State) (a0 : Array Value) (hw : ∀ d ∈ tables_1, d.before a0 Z = true) (ws : List Jvm.Cond) (wC : Addr) (clC : Cell) (G : Gst Z wC clC) (a1 : Addr) (h0 : Heap) (n0 : Nat) (O0 : Old Z n0 h0) :
    MetFree l (⟨"com/example/stubwright/stubwright/idl/ConstValue$BooleanValue", "equals", "(Ljava/lang/Object;)Z"⟩ : MethodName) (head1 (Jvm.Cond.code (⟨"com/example/stubwright/stubwright/idl/ConstValue$BooleanValue", "equals", "(Ljava/lang/Object;)Z"⟩ : MethodName) prog_19_method_2_code 3 (some .boolean) :: ws) ({ frames := 0, cells := 0, slots := 0, locals := 0 } : Room)) (fun a U => a = #[(.ref a1), .null] ∧ Z.Warmed39 U.vm ∧ U.heap = h0) (fun _ _ _ _ _ => True) (fun _ U o U' => ∃ v L, o = .returned v ∧ Q_eqNull Z wC clC a1 h0 n0 v U'.heap L ∧ FrameEnd U o U' L ({ frames := 0, cells := 0, slots := 0, locals := 0 } : Room).cells ({ frames := 0, cells := 0, slots := 0, locals := 0 } : Room).slots) := by
  refine MetFree.of_bodySF (plainFor_of_name pn_1) hisR ?_
  intro p e s m args below meth c s₁ Bd hml0 hP hK
  obtain ⟨rfl, hZ, hh⟩ := hP
  have hx := Bd.exec
  have hby := Bd.bytes
  have hml : c.maxLocals = 3 := hml0
  have hown : s.vm.findClass "com/example/stubwright/stubwright/idl/ConstValue$BooleanValue" = some m.cls := findClass_of_methodNamed Bd.named
  have hnm := (name_of_methodNamed Bd.named Bd.method).1
  have X0 : Stand p l e ({ frames := 0, cells := 0, slots := 0, locals := 0 } : Room) s m #[(.ref a1), .null] below meth c s₁ [] 0 0 := Stand.of_body Bd
  have e0 : s₁.heap = h0 := by rw [← hh, Bd.state]; rfl
  have N0 := Fr.nil n0
  obtain ⟨S_high, S_cache, A_C, z_C, e_C⟩ := id G
  have k0 : Way p e below (s₁.setTop (entryFrame m #[(.ref a1), .null] 3)) s₁ (mkF m 0 #[rv a1, .val .null, .unset] []) := fun t k => castTop (by first | (simp [entryFrame, mkF, argsToLocals, Value.category]; done) | rfl) k
  generalize s₁.setTop (entryFrame m #[(.ref a1), .null] 3) = S0 at k0 ⊢
  have k1 : Way p e below S0 s₁ (mkF m 1 #[rv a1, .val .null, .unset] [.null]) := by
    intro t k
    refine k0 t ?_
    refine XS.aloadN X0.here hx rfl (hb hby d_prog_19_method_2_code_0) rfl rfl ?_
    show Steps p.tables e below (s₁.setTop (mkF m 1 #[rv a1, .val .null, .unset] [.null])) _
    exact k
  have k2 : Way p e below S0 s₁ (mkF m 28 #[rv a1, .val .null, .unset] [(.int (0 : Int32))]) := by
    intro t k
    refine k1 t ?_
    refine X0.instanceofNull hx (g := (mkF m 1 #[rv a1, .val .null, .unset] [.null])) rfl rfl (hb hby d_prog_19_method_2_code_1) _ ?_
    show Steps p.tables e below (s₁.setTop (mkF m 4 #[rv a1, .val .null, .unset] [(.int (0 : Int32))])) _
    refine XS.ifYes X0.here hx rfl (pc0 := 4) (pc' := 27) rfl (hb hby d_prog_19_method_2_code_4) rfl ((if0 _ _).trans (teq ((by decide) : (0 : Int32) = (0 : Int32))).1) (by decide) (by decide) ?_
    show Steps p.tables e below (s₁.setTop (mkF m 27 #[rv a1, .val .null, .unset] [])) _
    refine XS.iconst X0.here hx rfl (hb hby d_prog_19_method_2_code_27) ?_
    show Steps p.tables e below (s₁.setTop (mkF m 28 #[rv a1, .val .null, .unset] [(.int (0 : Int32))])) _
    exact k
  obtain ⟨fs, hr, hrun, hended, hW, hsame⟩ := X0.leave (v := some (.int (0 : Int32))) (fun h => by rw [Bd.returns] at h; cases h)
  refine ⟨_, _, k2 _ (retN X0 hx (t := .boolean) Bd.returns (by simp) (hb hby d_prog_19_method_2_code_28) hr), hrun, hended, _, _, rfl, ?_, ⟨_, rfl⟩, hW, hsame.mono (by decide) (by decide)⟩
  show Q_eqNull Z wC clC a1 h0 n0 _ s₁.heap _
  rw [e0]
  exact ⟨rfl, N0, rfl⟩
def Q_eqOther0 (Z : State) (wC : Addr) (clC : Cell) (a1 : Addr) (a2 : Addr) (h0 : Heap) (n0 : Nat) (v : Option Value) (h : Heap) (L : List Loc) : Prop := (v = some (.int (0 : Int32))) ∧ (Fr n0 L) ∧ (h = h0)
set_option maxRecDepth 65536 in
set_option maxHeartbeats 40000000 in
theorem eqOther0 (l : Launch) (Z : State) (a0 : Array Value) (hw : ∀ d ∈ tables_1, d.before a0 Z = true) (ws : List Jvm.Cond) (wC : Addr) (clC : Cell) (G : Gst Z wC clC) (a1 : Addr) (a2 : Addr) (h0 : Heap) (n0 : Nat) (O0 : Old Z n0 h0) (a_0 : Exa Z h0 a2 "com/example/stubwright/stubwright/idl/ConstValue$CharValue") :
    MetFree l (⟨"com/example/stubwright/stubwright/idl/ConstValue$BooleanValue", "equals", "(Ljava/lang/Object;)Z"⟩ : MethodName) (head1 (Jvm.Cond.code (⟨"com/example/stubwright/stubwright/idl/ConstValue$BooleanValue", "equals", "(Ljava/lang/Object;)Z"⟩ : MethodName) prog_19_method_2_code 3 (some .boolean) :: ws) ({ frames := 0, cells := 0, slots := 0, locals := 0 } : Room)) (fun a U => a = #[(.ref a1), (.ref a2)] ∧ Z.Warmed39 U.vm ∧ U.heap = h0) (fun _ _ _ _ _ => True) (fun _ U o U' => ∃ v L, o = .returned v ∧ Q_eqOther0 Z wC clC a1 a2 h0 n0 v U'.heap L ∧ FrameEnd U o U' L ({ frames := 0, cells := 0, slots := 0, locals := 0 } : Room).cells ({ frames := 0, cells := 0, slots := 0, locals := 0 } : Room).slots) := by
  refine MetFree.of_bodySF (plainFor_of_name pn_1) hisR ?_
  intro p e s m args below meth c s₁ Bd hml0 hP hK
  obtain ⟨rfl, hZ, hh⟩ := hP
  have hx := Bd.exec
  have hby := Bd.bytes
  have hml : c.maxLocals = 3 := hml0
  have hown : s.vm.findClass "com/example/stubwright/stubwright/idl/ConstValue$BooleanValue" = some m.cls := findClass_of_methodNamed Bd.named
  have hnm := (name_of_methodNamed Bd.named Bd.method).1
  have X0 : Stand p l e ({ frames := 0, cells := 0, slots := 0, locals := 0 } : Room) s m #[(.ref a1), (.ref a2)] below meth c s₁ [] 0 0 := Stand.of_body Bd
  have e0 : s₁.heap = h0 := by rw [← hh, Bd.state]; rfl
  have N0 := Fr.nil n0
  obtain ⟨S_high, S_cache, A_C, z_C, e_C⟩ := id G
  have k0 : Way p e below (s₁.setTop (entryFrame m #[(.ref a1), (.ref a2)] 3)) s₁ (mkF m 0 #[rv a1, rv a2, .unset] []) := fun t k => castTop (by first | (simp [entryFrame, mkF, argsToLocals, Value.category]; done) | rfl) k
  generalize s₁.setTop (entryFrame m #[(.ref a1), (.ref a2)] 3) = S0 at k0 ⊢
  have k1 : Way p e below S0 s₁ (mkF m 1 #[rv a1, rv a2, .unset] [(.ref a2)]) := by
    intro t k
    refine k0 t ?_
    refine XS.aloadN X0.here hx rfl (hb hby d_prog_19_method_2_code_0) rfl rfl ?_
    show Steps p.tables e below (s₁.setTop (mkF m 1 #[rv a1, rv a2, .unset] [(.ref a2)])) _
    exact k
  obtain ⟨T2, X2, e2, st2⟩ := instNo X0 hx hZ hown (hw _ (List.mem_of_getElem? (i := 21) rfl)) e0 a_0 (own_nosub (hw _ (List.mem_of_getElem? (i := 43) rfl)) (hw _ (List.mem_of_getElem? (i := 1) rfl)) (NS.step (hw _ (List.mem_of_getElem? (i := 43) rfl)) (NS.step (hw _ (List.mem_of_getElem? (i := 44) rfl)) (own_root (hw _ (List.mem_of_getElem? (i := 32) rfl)) (hw _ (List.mem_of_getElem? (i := 1) rfl)) (by decide)) (by decide)) (by decide)) (by decide)) (g := (mkF m 1 #[rv a1, rv a2, .unset] [(.ref a2)])) rfl rfl (hb hby d_prog_19_method_2_code_1)
  have k3 : Way p e below S0 T2 (mkF m 4 #[rv a1, rv a2, .unset] [(.int (0 : Int32))]) := fun t k => k1 t (st2 _ k)
  have k4 : Way p e below S0 T2 (mkF m 28 #[rv a1, rv a2, .unset] [(.int (0 : Int32))]) := by
    intro t k
    refine k3 t ?_
    refine XS.ifYes X2.here hx rfl (pc0 := 4) (pc' := 27) rfl (hb hby d_prog_19_method_2_code_4) rfl ((if0 _ _).trans (teq ((by decide) : (0 : Int32) = (0 : Int32))).1) (by decide) (by decide) ?_
    show Steps p.tables e below (T2.setTop (mkF m 27 #[rv a1, rv a2, .unset] [])) _
    refine XS.iconst X2.here hx rfl (hb hby d_prog_19_method_2_code_27) ?_
    show Steps p.tables e below (T2.setTop (mkF m 28 #[rv a1, rv a2, .unset] [(.int (0 : Int32))])) _
    exact k
  obtain ⟨fs, hr, hrun, hended, hW, hsame⟩ := X2.leave (v := some (.int (0 : Int32))) (fun h => by rw [Bd.returns] at h; cases h)
  refine ⟨_, _, k4 _ (retN X2 hx (t := .boolean) Bd.returns (by simp) (hb hby d_prog_19_method_2_code_28) hr), hrun, hended, _, _, rfl, ?_, ⟨_, rfl⟩, hW, hsame.mono (by decide) (by decide)⟩
  show Q_eqOther0 Z wC clC a1 a2 h0 n0 _ T2.heap _
  rw [e2]
  exact ⟨rfl, N0, rfl⟩
def Q_eqOther1 (Z : State) (wC : Addr) (clC : Cell) (a1 : Addr) (a2 : Addr) (h0 : Heap) (n0 : Nat) (v : Option Value) (h : Heap) (L : List Loc) : Prop := (v = some (.int (0 : Int32))) ∧ (Fr n0 L) ∧ (h = h0)
set_option maxRecDepth 65536 in
set_option maxHeartbeats 40000000 in
theorem eqOther1 (l : Launch) (Z : State) (a0 : Array Value) (hw : ∀ d ∈ tables_1, d.before a0 Z = true) (ws : List Jvm.Cond) (wC : Addr) (clC : Cell) (G : Gst Z wC clC) (a1 : Addr) (a2 : Addr) (h0 : Heap) (n0 : Nat) (O0 : Old Z n0 h0) (a_0 : Exa Z h0 a2 "java/lang/Integer") :
    MetFree l (⟨"com/example/stubwright/stubwright/idl/ConstValue$BooleanValue", "equals", "(Ljava/lang/Object;)Z"⟩ : MethodName) (head1 (Jvm.Cond.code (⟨"com/example/stubwright/stubwright/idl/ConstValue$BooleanValue", "equals", "(Ljava/lang/Object;)Z"⟩ : MethodName) prog_19_method_2_code 3 (some .boolean) :: ws) ({ frames := 0, cells := 0, slots := 0, locals := 0 } : Room)) (fun a U => a = #[(.ref a1), (.ref a2)] ∧ Z.Warmed39 U.vm ∧ U.heap = h0) (fun _ _ _ _ _ => True) (fun _ U o U' => ∃ v L, o = .returned v ∧ Q_eqOther1 Z wC clC a1 a2 h0 n0 v U'.heap L ∧ FrameEnd U o U' L ({ frames := 0, cells := 0, slots := 0, locals := 0 } : Room).cells ({ frames := 0, cells := 0, slots := 0, locals := 0 } : Room).slots) := by
  refine MetFree.of_bodySF (plainFor_of_name pn_1) hisR ?_
  intro p e s m args below meth c s₁ Bd hml0 hP hK
  obtain ⟨rfl, hZ, hh⟩ := hP
  have hx := Bd.exec
  have hby := Bd.bytes
  have hml : c.maxLocals = 3 := hml0
  have hown : s.vm.findClass "com/example/stubwright/stubwright/idl/ConstValue$BooleanValue" = some m.cls := findClass_of_methodNamed Bd.named
  have hnm := (name_of_methodNamed Bd.named Bd.method).1
  have X0 : Stand p l e ({ frames := 0, cells := 0, slots := 0, locals := 0 } : Room) s m #[(.ref a1), (.ref a2)] below meth c s₁ [] 0 0 := Stand.of_body Bd
  have e0 : s₁.heap = h0 := by rw [← hh, Bd.state]; rfl
  have N0 := Fr.nil n0
  obtain ⟨S_high, S_cache, A_C, z_C, e_C⟩ := id G
  have k0 : Way p e below (s₁.setTop (entryFrame m #[(.ref a1), (.ref a2)] 3)) s₁ (mkF m 0 #[rv a1, rv a2, .unset] []) := fun t k => castTop (by first | (simp [entryFrame, mkF, argsToLocals, Value.category]; done) | rfl) k
  generalize s₁.setTop (entryFrame m #[(.ref a1), (.ref a2)] 3) = S0 at k0 ⊢
  have k1 : Way p e below S0 s₁ (mkF m 1 #[rv a1, rv a2, .unset] [(.ref a2)]) := by
    intro t k
    refine k0 t ?_
    refine XS.aloadN X0.here hx rfl (hb hby d_prog_19_method_2_code_0) rfl rfl ?_
    show Steps p.tables e below (s₁.setTop (mkF m 1 #[rv a1, rv a2, .unset] [(.ref a2)])) _
    exact k
  obtain ⟨T2, X2, e2, st2⟩ := instNo X0 hx hZ hown (hw _ (List.mem_of_getElem? (i := 21) rfl)) e0 a_0 (own_nosub (hw _ (List.mem_of_getElem? (i := 30) rfl)) (hw _ (List.mem_of_getElem? (i := 1) rfl)) (NS.step (hw _ (List.mem_of_getElem? (i := 30) rfl)) (NS.step (hw _ (List.mem_of_getElem? (i := 31) rfl)) (own_root (hw _ (List.mem_of_getElem? (i := 32) rfl)) (hw _ (List.mem_of_getElem? (i := 1) rfl)) (by decide)) (by decide)) (by decide)) (by decide)) (g := (mkF m 1 #[rv a1, rv a2, .unset] [(.ref a2)])) rfl rfl (hb hby d_prog_19_method_2_code_1)
  have k3 : Way p e below S0 T2 (mkF m 4 #[rv a1, rv a2, .unset] [(.int (0 : Int32))]) := fun t k => k1 t (st2 _ k)
  have k4 : Way p e below S0 T2 (mkF m 28 #[rv a1, rv a2, .unset] [(.int (0 : Int32))]) := by
    intro t k
    refine k3 t ?_
    refine XS.ifYes X2.here hx rfl (pc0 := 4) (pc' := 27) rfl (hb hby d_prog_19_method_2_code_4) rfl ((if0 _ _).trans (teq ((by decide) : (0 : Int32) = (0 : Int32))).1) (by decide) (by decide) ?_
    show Steps p.tables e below (T2.setTop (mkF m 27 #[rv a1, rv a2, .unset] [])) _
    refine XS.iconst X2.here hx rfl (hb hby d_prog_19_method_2_code_27) ?_
    show Steps p.tables e below (T2.setTop (mkF m 28 #[rv a1, rv a2, .unset] [(.int (0 : Int32))])) _
    exact k
  obtain ⟨fs, hr, hrun, hended, hW, hsame⟩ := X2.leave (v := some (.int (0 : Int32))) (fun h => by rw [Bd.returns] at h; cases h)
  refine ⟨_, _, k4 _ (retN X2 hx (t := .boolean) Bd.returns (by simp) (hb hby d_prog_19_method_2_code_28) hr), hrun, hended, _, _, rfl, ?_, ⟨_, rfl⟩, hW, hsame.mono (by decide) (by decide)⟩
  show Q_eqOther1 Z wC clC a1 a2 h0 n0 _ T2.heap _
  rw [e2]
  exact ⟨rfl, N0, rfl⟩
def Q_law_met (Z : State) (wC : Addr) (clC : Cell) (p1 : Int32) (p2 : Int32) (h0 : Heap) (n0 : Nat) (v : Option Value) (h : Heap) (L : List Loc) : Prop := (v = some (.int (1 : Int32))) ∧ (Fr n0 L)
set_option maxRecDepth 65536 in
set_option maxHeartbeats 40000000 in
theorem law_met (l : Launch) (Z : State) (a0 : Array Value) (hw : ∀ d ∈ tables_1, d.before a0 Z = true) (ws : List Jvm.Cond) (wC : Addr) (clC : Cell) (G : Gst Z wC clC) (p1 : Int32) (p2 : Int32) (h0 : Heap) (n0 : Nat) (O0 : Old Z n0 h0) :
    MetFree l x (head1 (Jvm.Cond.code x code maxLocals ret :: ws) room_1) (fun a U => a = #[(.int p1), (.int p2)] ∧ Z.Warmed39 U.vm ∧ U.heap = h0) (fun _ _ _ _ _ => True) (fun _ U o U' => ∃ v L, o = .returned v ∧ Q_law_met Z wC clC p1 p2 h0 n0 v U'.heap L ∧ FrameEnd U o U' L 16 128) := by
  refine MetFree.of_bodySF (plainFor_of_name pn_4) hisR ?_
  intro p e s m args below meth c s₁ Bd hml0 hP hK
  obtain ⟨rfl, hZ, hh⟩ := hP
  have hx := Bd.exec
  have hby := Bd.bytes
  have hml : c.maxLocals = 8 := hml0
  have hown : s.vm.findClass "com/example/stubwright/stubwright/idl/BooleanValueEqualsPinLaw" = some m.cls := findClass_of_methodNamed Bd.named
  have hnm := (name_of_methodNamed Bd.named Bd.method).1
  have X0 : Stand p l e room_1 s m #[(.int p1), (.int p2)] below meth c s₁ [] 0 0 := Stand.of_body Bd
  have e0 : s₁.heap = h0 := by rw [← hh, Bd.state]; rfl
  have N0 := Fr.nil n0
  obtain ⟨S_high, S_cache, A_C, z_C, e_C⟩ := id G
  have k0 : Way p e below (s₁.setTop (entryFrame m #[(.int p1), (.int p2)] maxLocals)) s₁ (mkF m 0 #[iv p1, iv p2, .unset, .unset, .unset, .unset, .unset, .unset] []) := fun t k => castTop (by first | (simp [entryFrame, mkF, argsToLocals, Value.category, maxLocals]; done) | rfl) k
  generalize s₁.setTop (entryFrame m #[(.int p1), (.int p2)] maxLocals) = S0 at k0 ⊢
  have k2 : Way p e below S0 s₁ (mkF m 3 #[iv p1, iv p2, .unset, .unset, .unset, .unset, .unset, .unset] [(.int (p1 &&& (1 : Int32)))]) := by
    intro t k
    refine k0 t ?_
    refine XS.iloadN X0.here hx rfl (hb hby at_0) rfl ?_
    show Steps p.tables e below (s₁.setTop (mkF m 1 #[iv p1, iv p2, .unset, .unset, .unset, .unset, .unset, .unset] [(.int p1)])) _
    refine XS.iconst X0.here hx rfl (hb hby at_1) ?_
    show Steps p.tables e below (s₁.setTop (mkF m 2 #[iv p1, iv p2, .unset, .unset, .unset, .unset, .unset, .unset] [(.int (1 : Int32)), (.int p1)])) _
    refine XS.iand X0.here hx rfl (hb hby at_2) rfl ?_
    show Steps p.tables e below (s₁.setTop (mkF m 3 #[iv p1, iv p2, .unset, .unset, .unset, .unset, .unset, .unset] [(.int (p1 &&& (1 : Int32)))])) _
    exact k
  by_cases hc1 : (p1 &&& (1 : Int32)) = (0 : Int32)
  · have k4 : Way p e below S0 s₁ (mkF m 15 #[iv p1, iv p2, iv (0 : Int32), .unset, .unset, .unset, .unset, .unset] [(.int (p1 &&& (2 : Int32)))]) := by
      intro t k
      refine k2 t ?_
      refine XS.ifYes X0.here hx rfl (pc0 := 3) (pc' := 10) rfl (hb hby at_3) rfl ((if0 _ _).trans (teq (hc1 : (p1 &&& (1 : Int32)) = (0 : Int32))).1) (by decide) (by decide) ?_
      show Steps p.tables e below (s₁.setTop (mkF m 10 #[iv p1, iv p2, .unset, .unset, .unset, .unset, .unset, .unset] [])) _
      refine XS.iconst X0.here hx rfl (hb hby at_10) ?_
      show Steps p.tables e below (s₁.setTop (mkF m 11 #[iv p1, iv p2, .unset, .unset, .unset, .unset, .unset, .unset] [(.int (0 : Int32))])) _
      refine XS.istoreN X0.here hx rfl (hb hby at_11) rfl (l' := #[iv p1, iv p2, iv (0 : Int32), .unset, .unset, .unset, .unset, .unset]) rfl ?_
      show Steps p.tables e below (s₁.setTop (mkF m 12 #[iv p1, iv p2, iv (0 : Int32), .unset, .unset, .unset, .unset, .unset] [])) _
      refine XS.iloadN X0.here hx rfl (hb hby at_12) rfl ?_
      show Steps p.tables e below (s₁.setTop (mkF m 13 #[iv p1, iv p2, iv (0 : Int32), .unset, .unset, .unset, .unset, .unset] [(.int p1)])) _
      refine XS.iconst X0.here hx rfl (hb hby at_13) ?_
      show Steps p.tables e below (s₁.setTop (mkF m 14 #[iv p1, iv p2, iv (0 : Int32), .unset, .unset, .unset, .unset, .unset] [(.int (2 : Int32)), (.int p1)])) _
      refine XS.iand X0.here hx rfl (hb hby at_14) rfl ?_
      show Steps p.tables e below (s₁.setTop (mkF m 15 #[iv p1, iv p2, iv (0 : Int32), .unset, .unset, .unset, .unset, .unset] [(.int (p1 &&& (2 : Int32)))])) _
      exact k
    by_cases hc3 : (p1 &&& (2 : Int32)) = (0 : Int32)
    · have k5 : Way p e below S0 s₁ (mkF m 31 #[iv p1, iv p2, iv (0 : Int32), iv (0 : Int32), iv (((p1.toUInt32 >>> ((2 : Int32) &&& 31).toUInt32).toInt32) &&& (3 : Int32)), .unset, .unset, .unset] []) := by
        intro t k
        refine k4 t ?_
        refine XS.ifYes X0.here hx rfl (pc0 := 15) (pc' := 22) rfl (hb hby at_15) rfl ((if0 _ _).trans (teq (hc3 : (p1 &&& (2 : Int32)) = (0 : Int32))).1) (by decide) (by decide) ?_
        show Steps p.tables e below (s₁.setTop (mkF m 22 #[iv p1, iv p2, iv (0 : Int32), .unset, .unset, .unset, .unset, .unset] [])) _
        refine XS.iconst X0.here hx rfl (hb hby at_22) ?_
        show Steps p.tables e below (s₁.setTop (mkF m 23 #[iv p1, iv p2, iv (0 : Int32), .unset, .unset, .unset, .unset, .unset] [(.int (0 : Int32))])) _
        refine XS.istoreN X0.here hx rfl (hb hby at_23) rfl (l' := #[iv p1, iv p2, iv (0 : Int32), iv (0 : Int32), .unset, .unset, .unset, .unset]) rfl ?_
        show Steps p.tables e below (s₁.setTop (mkF m 24 #[iv p1, iv p2, iv (0 : Int32), iv (0 : Int32), .unset, .unset, .unset, .unset] [])) _
        refine XS.iloadN X0.here hx rfl (hb hby at_24) rfl ?_
        show Steps p.tables e below (s₁.setTop (mkF m 25 #[iv p1, iv p2, iv (0 : Int32), iv (0 : Int32), .unset, .unset, .unset, .unset] [(.int p1)])) _
        refine XS.iconst X0.here hx rfl (hb hby at_25) ?_
        show Steps p.tables e below (s₁.setTop (mkF m 26 #[iv p1, iv p2, iv (0 : Int32), iv (0 : Int32), .unset, .unset, .unset, .unset] [(.int (2 : Int32)), (.int p1)])) _
        refine XS.iushr X0.here hx rfl (hb hby at_26) rfl ?_
        show Steps p.tables e below (s₁.setTop (mkF m 27 #[iv p1, iv p2, iv (0 : Int32), iv (0 : Int32), .unset, .unset, .unset, .unset] [(.int ((p1.toUInt32 >>> ((2 : Int32) &&& 31).toUInt32).toInt32))])) _
        refine XS.iconst X0.here hx rfl (hb hby at_27) ?_
        show Steps p.tables e below (s₁.setTop (mkF m 28 #[iv p1, iv p2, iv (0 : Int32), iv (0 : Int32), .unset, .unset, .unset, .unset] [(.int (3 : Int32)), (.int ((p1.toUInt32 >>> ((2 : Int32) &&& 31).toUInt32).toInt32))])) _
        refine XS.iand X0.here hx rfl (hb hby at_28) rfl ?_
        show Steps p.tables e below (s₁.setTop (mkF m 29 #[iv p1, iv p2, iv (0 : Int32), iv (0 : Int32), .unset, .unset, .unset, .unset] [(.int (((p1.toUInt32 >>> ((2 : Int32) &&& 31).toUInt32).toInt32) &&& (3 : Int32)))])) _
        refine XS.istore X0.here hx rfl (hb hby at_29) rfl (l' := #[iv p1, iv p2, iv (0 : Int32), iv (0 : Int32), iv (((p1.toUInt32 >>> ((2 : Int32) &&& 31).toUInt32).toInt32) &&& (3 : Int32)), .unset, .unset, .unset]) rfl ?_
        show Steps p.tables e below (s₁.setTop (mkF m 31 #[iv p1, iv p2, iv (0 : Int32), iv (0 : Int32), iv (((p1.toUInt32 >>> ((2 : Int32) &&& 31).toUInt32).toInt32) &&& (3 : Int32)), .unset, .unset, .unset] [])) _
        exact k
      have hr6 : (((p1.toUInt32 >>> ((2 : Int32) &&& 31).toUInt32).toInt32) &&& (3 : Int32)) = (0 : Int32) ∨ (((p1.toUInt32 >>> ((2 : Int32) &&& 31).toUInt32).toInt32) &&& (3 : Int32)) = (1 : Int32) ∨ (((p1.toUInt32 >>> ((2 : Int32) &&& 31).toUInt32).toInt32) &&& (3 : Int32)) = (2 : Int32) ∨ (((p1.toUInt32 >>> ((2 : Int32) &&& 31).toUInt32).toInt32) &&& (3 : Int32)) = (3 : Int32) := own_mask3 _
      rcases hr6 with hi6 | hi6 | hi6 | hi6
      · have k7 : Way p e below S0 s₁ (mkF m 31 #[iv p1, iv p2, iv (0 : Int32), iv (0 : Int32), iv (0 : Int32), .unset, .unset, .unset] []) := by have q := k5; rw [hi6] at q; exact q
        obtain ⟨T8, h8, X8, e8, E8, A8, D8, U8, st8⟩ := newO X0 hx hZ hown (hw _ (List.mem_of_getElem? (i := 0) rfl)) (hw _ (List.mem_of_getElem? (i := 1) rfl)) (hw _ (List.mem_of_getElem? (i := 2) rfl)) e0 (g := (mkF m 31 #[iv p1, iv p2, iv (0 : Int32), iv (0 : Int32), iv (0 : Int32), .unset, .unset, .unset] [])) rfl (hb hby at_31) (by decide) (by decide)
        obtain ⟨b8, g8⟩ : ∃ z, z = h0.size := ⟨_, rfl⟩
        rw [← g8] at A8 D8 U8 st8
        have O8 := O0.ext E8
        have i8_value : Fld Z h8 b8 "com/example/stubwright/stubwright/idl/ConstValue$BooleanValue" "value" "Z" (.int (0 : Int32)) := D8 (Or.inr (hw _ (List.mem_of_getElem? (i := 15) rfl))) (ty := .boolean) (by decide)
        have k9 : Way p e below S0 T8 (mkF m 34 #[iv p1, iv p2, iv (0 : Int32), iv (0 : Int32), iv (0 : Int32), .unset, .unset, .unset] [(.ref b8)]) := fun t k => k7 t (st8 _ k)
        have k10 : Way p e below S0 T8 (mkF m 36 #[iv p1, iv p2, iv (0 : Int32), iv (0 : Int32), iv (0 : Int32), .unset, .unset, .unset] [(.int (0 : Int32)), (.ref b8), (.ref b8)]) := by
          intro t k
          refine k9 t ?_
          refine XS.dup X8.here hx rfl (hb hby at_34) rfl rfl ?_
          show Steps p.tables e below (T8.setTop (mkF m 35 #[iv p1, iv p2, iv (0 : Int32), iv (0 : Int32), iv (0 : Int32), .unset, .unset, .unset] [(.ref b8), (.ref b8)])) _
          refine XS.iloadN X8.here hx rfl (hb hby at_35) rfl ?_
          show Steps p.tables e below (T8.setTop (mkF m 36 #[iv p1, iv p2, iv (0 : Int32), iv (0 : Int32), iv (0 : Int32), .unset, .unset, .unset] [(.int (0 : Int32)), (.ref b8), (.ref b8)])) _
          exact k
        have ge11 : n0 ≤ b8 := Nat.le_trans (own_old O0) (Nat.le_of_eq g8.symm)
        obtain ⟨_, _, ⟨T12, L12, kk12, nn12⟩, -, X12, ⟨Lc12, hQ12, l12, y12, z12⟩, st12⟩ := X8.specialBack hx (y := (⟨"com/example/stubwright/stubwright/idl/ConstValue$BooleanValue", "<init>", "(Z)V"⟩ : MethodName)) rfl hown (mvT hZ (hw _ (List.mem_of_getElem? (i := 3) rfl))) (mvT hZ (hw _ (List.mem_of_getElem? (i := 4) rfl))) (mvT hZ (hw _ (List.mem_of_getElem? (i := 5) rfl))) (by decide) (backOf (W := 1) (bvInit0 l Z a0 hw [] wC clC G b8 h8 n0 O8 (A8 : Exa Z h8 b8 "com/example/stubwright/stubwright/idl/ConstValue$BooleanValue") (i8_value : Fld Z h8 b8 "com/example/stubwright/stubwright/idl/ConstValue$BooleanValue" "value" "Z" (.int (0 : Int32))) (ge11 : n0 ≤ b8)) hZ (hw _ (List.mem_of_getElem? (i := 5) rfl)) (hw _ (List.mem_of_getElem? (i := 2) rfl)) (by decide) (by decide)) (g := (mkF m 36 #[iv p1, iv p2, iv (0 : Int32), iv (0 : Int32), iv (0 : Int32), .unset, .unset, .unset] [(.int (0 : Int32)), (.ref b8), (.ref b8)])) rfl (by rw [hml]; rfl) (Steps.refl _) (a := b8) (argsL := [(.int (0 : Int32))]) (rest := [(.ref b8)]) (lenOf pd_1 rfl) rfl (by show 2 * 0 + _ ≤ _; exact Nat.le_of_eq rfl) (hb hby at_36) (fun _ _ => ⟨rfl, e8, (by decide : 1 + 0 ≤ _), (by decide : 1 + 0 ≤ _)⟩)
        dsimp only [Pt.U, Pt.locs, Pt.cells, Pt.slots] at X12 l12 y12 z12 st12 hQ12
        subst l12 y12 z12
        obtain ⟨rfl, Nq12, Kq12, po12_0, po12_1⟩ := hQ12
        have N12 := Fr.app N0 Nq12
        have O12 := O8.keep Kq12 (allS ge11 all0)
        have k13 : Way p e below S0 T12 (mkF m 39 #[iv p1, iv p2, iv (0 : Int32), iv (0 : Int32), iv (0 : Int32), .unset, .unset, .unset] [(.ref b8)]) := fun t k => k10 t (st12.trans k)
        have k14 : Way p e below S0 T12 (mkF m 46 #[iv p1, iv p2, iv (0 : Int32), iv (0 : Int32), iv (0 : Int32), rv b8, .unset, .unset] []) := by
          intro t k
          refine k13 t ?_
          refine XS.astore X12.here hx rfl (hb hby at_39) rfl rfl (l' := #[iv p1, iv p2, iv (0 : Int32), iv (0 : Int32), iv (0 : Int32), rv b8, .unset, .unset]) rfl ?_
          show Steps p.tables e below (T12.setTop (mkF m 41 #[iv p1, iv p2, iv (0 : Int32), iv (0 : Int32), iv (0 : Int32), rv b8, .unset, .unset] [])) _
          refine XS.iload X12.here hx rfl (hb hby at_41) rfl ?_
          show Steps p.tables e below (T12.setTop (mkF m 43 #[iv p1, iv p2, iv (0 : Int32), iv (0 : Int32), iv (0 : Int32), rv b8, .unset, .unset] [(.int (0 : Int32))])) _
          refine XS.ifNo X12.here hx rfl (hb hby at_43) rfl ((if0 _ _).trans (teq ((by decide) : (0 : Int32) = (0 : Int32))).2) ?_
          show Steps p.tables e below (T12.setTop (mkF m 46 #[iv p1, iv p2, iv (0 : Int32), iv (0 : Int32), iv (0 : Int32), rv b8, .unset, .unset] [])) _
          exact k
        obtain ⟨T15, h15, X15, e15, E15, A15, D15, U15, st15⟩ := newO X12 hx hZ hown (hw _ (List.mem_of_getElem? (i := 0) rfl)) (hw _ (List.mem_of_getElem? (i := 1) rfl)) (hw _ (List.mem_of_getElem? (i := 2) rfl)) rfl (g := (mkF m 46 #[iv p1, iv p2, iv (0 : Int32), iv (0 : Int32), iv (0 : Int32), rv b8, .unset, .unset] [])) rfl (hb hby at_46) (by decide) (by decide)
        obtain ⟨b15, g15⟩ : ∃ z, z = T12.heap.size := ⟨_, rfl⟩
        rw [← g15] at A15 D15 U15 st15
        have O15 := O12.ext E15
        have i15_value : Fld Z h15 b15 "com/example/stubwright/stubwright/idl/ConstValue$BooleanValue" "value" "Z" (.int (0 : Int32)) := D15 (Or.inr (hw _ (List.mem_of_getElem? (i := 15) rfl))) (ty := .boolean) (by decide)
        have k16 : Way p e below S0 T15 (mkF m 49 #[iv p1, iv p2, iv (0 : Int32), iv (0 : Int32), iv (0 : Int32), rv b8, .unset, .unset] [(.ref b15)]) := fun t k => k14 t (st15 _ k)
        have k17 : Way p e below S0 T15 (mkF m 51 #[iv p1, iv p2, iv (0 : Int32), iv (0 : Int32), iv (0 : Int32), rv b8, .unset, .unset] [(.int (0 : Int32)), (.ref b15), (.ref b15)]) := by
          intro t k
          refine k16 t ?_
          refine XS.dup X15.here hx rfl (hb hby at_49) rfl rfl ?_
          show Steps p.tables e below (T15.setTop (mkF m 50 #[iv p1, iv p2, iv (0 : Int32), iv (0 : Int32), iv (0 : Int32), rv b8, .unset, .unset] [(.ref b15), (.ref b15)])) _
          refine XS.iloadN X15.here hx rfl (hb hby at_50) rfl ?_
          show Steps p.tables e below (T15.setTop (mkF m 51 #[iv p1, iv p2, iv (0 : Int32), iv (0 : Int32), iv (0 : Int32), rv b8, .unset, .unset] [(.int (0 : Int32)), (.ref b15), (.ref b15)])) _
          exact k
        have ge18 : n0 ≤ b15 := Nat.le_trans (own_old O12) (Nat.le_of_eq g15.symm)
        obtain ⟨_, _, ⟨T19, L19, kk19, nn19⟩, -, X19, ⟨Lc19, hQ19, l19, y19, z19⟩, st19⟩ := X15.specialBack hx (y := (⟨"com/example/stubwright/stubwright/idl/ConstValue$BooleanValue", "<init>", "(Z)V"⟩ : MethodName)) rfl hown (mvT hZ (hw _ (List.mem_of_getElem? (i := 3) rfl))) (mvT hZ (hw _ (List.mem_of_getElem? (i := 4) rfl))) (mvT hZ (hw _ (List.mem_of_getElem? (i := 5) rfl))) (by decide) (backOf (W := 1) (bvInit0 l Z a0 hw [] wC clC G b15 h15 n0 O15 (A15 : Exa Z h15 b15 "com/example/stubwright/stubwright/idl/ConstValue$BooleanValue") (i15_value : Fld Z h15 b15 "com/example/stubwright/stubwright/idl/ConstValue$BooleanValue" "value" "Z" (.int (0 : Int32))) (ge18 : n0 ≤ b15)) hZ (hw _ (List.mem_of_getElem? (i := 5) rfl)) (hw _ (List.mem_of_getElem? (i := 2) rfl)) (by decide) (by decide)) (g := (mkF m 51 #[iv p1, iv p2, iv (0 : Int32), iv (0 : Int32), iv (0 : Int32), rv b8, .unset, .unset] [(.int (0 : Int32)), (.ref b15), (.ref b15)])) rfl (by rw [hml]; rfl) (Steps.refl _) (a := b15) (argsL := [(.int (0 : Int32))]) (rest := [(.ref b15)]) (lenOf pd_1 rfl) rfl (by show 2 * 0 + _ ≤ _; exact Nat.le_of_eq rfl) (hb hby at_51) (fun _ _ => ⟨rfl, e15, (by decide : 2 + 0 ≤ _), (by decide : 2 + 0 ≤ _)⟩)
        dsimp only [Pt.U, Pt.locs, Pt.cells, Pt.slots] at X19 l19 y19 z19 st19 hQ19
        subst l19 y19 z19
        obtain ⟨rfl, Nq19, Kq19, po19_0, po19_1⟩ := hQ19
        have N19 := Fr.app N12 Nq19
        have O19 := O15.keep Kq19 (allS ge18 all0)
        have k20 : Way p e below S0 T19 (mkF m 54 #[iv p1, iv p2, iv (0 : Int32), iv (0 : Int32), iv (0 : Int32), rv b8, .unset, .unset] [(.ref b15)]) := fun t k => k17 t (st19.trans k)
        have k21 : Way p e below S0 T19 (mkF m 129 #[iv p1, iv p2, iv (0 : Int32), iv (0 : Int32), iv (0 : Int32), rv b8, rv b15, iv (1 : Int32)] [(.ref b15), (.ref b8)]) := by
          intro t k
          refine k20 t ?_
          refine XS.astore X19.here hx rfl (hb hby at_54) rfl rfl (l' := #[iv p1, iv p2, iv (0 : Int32), iv (0 : Int32), iv (0 : Int32), rv b8, rv b15, .unset]) rfl ?_
          show Steps p.tables e below (T19.setTop (mkF m 56 #[iv p1, iv p2, iv (0 : Int32), iv (0 : Int32), iv (0 : Int32), rv b8, rv b15, .unset] [])) _
          refine XS.goto X19.here hx rfl (pc0 := 56) (pc' := 108) rfl (hb hby at_56) (by decide) (by decide) ?_
          show Steps p.tables e below (T19.setTop (mkF m 108 #[iv p1, iv p2, iv (0 : Int32), iv (0 : Int32), iv (0 : Int32), rv b8, rv b15, .unset] [])) _
          refine XS.iload X19.here hx rfl (hb hby at_108) rfl ?_
          show Steps p.tables e below (T19.setTop (mkF m 110 #[iv p1, iv p2, iv (0 : Int32), iv (0 : Int32), iv (0 : Int32), rv b8, rv b15, .unset] [(.int (0 : Int32))])) _
          refine XS.ifNo X19.here hx rfl (hb hby at_110) rfl ((if0 _ _).trans (teq ((by decide) : (0 : Int32) = (0 : Int32))).2) ?_
          show Steps p.tables e below (T19.setTop (mkF m 113 #[iv p1, iv p2, iv (0 : Int32), iv (0 : Int32), iv (0 : Int32), rv b8, rv b15, .unset] [])) _
          refine XS.iloadN X19.here hx rfl (hb hby at_113) rfl ?_
          show Steps p.tables e below (T19.setTop (mkF m 114 #[iv p1, iv p2, iv (0 : Int32), iv (0 : Int32), iv (0 : Int32), rv b8, rv b15, .unset] [(.int (0 : Int32))])) _
          refine XS.iloadN X19.here hx rfl (hb hby at_114) rfl ?_
          show Steps p.tables e below (T19.setTop (mkF m 115 #[iv p1, iv p2, iv (0 : Int32), iv (0 : Int32), iv (0 : Int32), rv b8, rv b15, .unset] [(.int (0 : Int32)), (.int (0 : Int32))])) _
          refine XS.icmpNo X19.here hx rfl (hb hby at_115) rfl (teq ((by decide) : (0 : Int32) = (0 : Int32))).2 ?_
          show Steps p.tables e below (T19.setTop (mkF m 118 #[iv p1, iv p2, iv (0 : Int32), iv (0 : Int32), iv (0 : Int32), rv b8, rv b15, .unset] [])) _
          refine XS.iconst X19.here hx rfl (hb hby at_118) ?_
          show Steps p.tables e below (T19.setTop (mkF m 119 #[iv p1, iv p2, iv (0 : Int32), iv (0 : Int32), iv (0 : Int32), rv b8, rv b15, .unset] [(.int (1 : Int32))])) _
          refine XS.goto X19.here hx rfl (pc0 := 119) (pc' := 123) rfl (hb hby at_119) (by decide) (by decide) ?_
          show Steps p.tables e below (T19.setTop (mkF m 123 #[iv p1, iv p2, iv (0 : Int32), iv (0 : Int32), iv (0 : Int32), rv b8, rv b15, .unset] [(.int (1 : Int32))])) _
          refine XS.istore X19.here hx rfl (hb hby at_123) rfl (l' := #[iv p1, iv p2, iv (0 : Int32), iv (0 : Int32), iv (0 : Int32), rv b8, rv b15, iv (1 : Int32)]) rfl ?_
          show Steps p.tables e below (T19.setTop (mkF m 125 #[iv p1, iv p2, iv (0 : Int32), iv (0 : Int32), iv (0 : Int32), rv b8, rv b15, iv (1 : Int32)] [])) _
          refine XS.aload X19.here hx rfl (hb hby at_125) rfl rfl ?_
          show Steps p.tables e below (T19.setTop (mkF m 127 #[iv p1, iv p2, iv (0 : Int32), iv (0 : Int32), iv (0 : Int32), rv b8, rv b15, iv (1 : Int32)] [(.ref b8)])) _
          refine XS.aload X19.here hx rfl (hb hby at_127) rfl rfl ?_
          show Steps p.tables e below (T19.setTop (mkF m 129 #[iv p1, iv p2, iv (0 : Int32), iv (0 : Int32), iv (0 : Int32), rv b8, rv b15, iv (1 : Int32)] [(.ref b15), (.ref b8)])) _
          exact k
        have f22 : Fld Z T19.heap b8 "com/example/stubwright/stubwright/idl/ConstValue$BooleanValue" "value" "Z" (.int (0 : Int32)) := ((po12_1.ext E15).keep Kq19 (ninS (Nat.ne_of_lt (Nat.lt_of_lt_of_le po12_0.lt (Nat.le_of_eq g15.symm))) nin0))
        have f24 : Exa Z T19.heap b8 "com/example/stubwright/stubwright/idl/ConstValue$BooleanValue" := ((po12_0.ext E15).keep Kq19)
        obtain ⟨cq23, kq23, qq23a, qq23b, qq23c⟩ := isOf hZ rfl f24
        obtain ⟨_, _, ⟨T23, L23, kk23, nn23⟩, -, X23, ⟨Lc23, hQ23, l23, y23, z23⟩, st23⟩ := X19.virtualBack hx (y := (⟨"com/example/stubwright/stubwright/idl/ConstValue$BooleanValue", "equals", "(Ljava/lang/Object;)Z"⟩ : MethodName)) (z := (⟨"com/example/stubwright/stubwright/idl/ConstValue$BooleanValue", "equals", "(Ljava/lang/Object;)Z"⟩ : MethodName)) hown (mvT hZ (hw _ (List.mem_of_getElem? (i := 16) rfl))) (mvT hZ (hw _ (List.mem_of_getElem? (i := 17) rfl))) (notFace_of_selects (args := #[]) (mvT hZ (hw _ (List.mem_of_getElem? (i := 19) rfl)))) (mvT hZ (hw _ (List.mem_of_getElem? (i := 19) rfl))) (mvT hZ (hw _ (List.mem_of_getElem? (i := 18) rfl))) (by decide) (backOf (W := 0) (eq00 l Z a0 hw [] wC clC G b8 b15 T19.heap n0 O19 (po19_0 : Exa Z T19.heap b15 "com/example/stubwright/stubwright/idl/ConstValue$BooleanValue") (f22 : Fld Z T19.heap b8 "com/example/stubwright/stubwright/idl/ConstValue$BooleanValue" "value" "Z" (.int (0 : Int32))) (po19_1 : Fld Z T19.heap b15 "com/example/stubwright/stubwright/idl/ConstValue$BooleanValue" "value" "Z" (.int (0 : Int32)))) hZ (hw _ (List.mem_of_getElem? (i := 20) rfl)) (hw _ (List.mem_of_getElem? (i := 2) rfl)) (by decide) (by decide)) qq23a qq23c (g := (mkF m 129 #[iv p1, iv p2, iv (0 : Int32), iv (0 : Int32), iv (0 : Int32), rv b8, rv b15, iv (1 : Int32)] [(.ref b15), (.ref b8)])) rfl (by rw [hml]; rfl) (Steps.refl _) (argsL := [(.ref b15)]) (rest := []) (lenOf pd_2 rfl) rfl (by show 2 * 0 + _ ≤ _; exact Nat.le_of_eq rfl) (hb hby at_129) (fun _ _ => ⟨rfl, rfl, (by decide : 2 + 0 ≤ _), (by decide : 2 + 0 ≤ _)⟩)
        dsimp only [Pt.U, Pt.locs, Pt.cells, Pt.slots] at X23 l23 y23 z23 st23 hQ23
        subst l23 y23 z23
        obtain ⟨rfl, Nq23, e23⟩ := hQ23
        have N23 := Fr.app N19 Nq23
        have k25 : Way p e below S0 T23 (mkF m 132 #[iv p1, iv p2, iv (0 : Int32), iv (0 : Int32), iv (0 : Int32), rv b8, rv b15, iv (1 : Int32)] [(.int (1 : Int32))]) := fun t k => k21 t (st23.trans k)
        have k26 : Way p e below S0 T23 (mkF m 141 #[iv p1, iv p2, iv (0 : Int32), iv (0 : Int32), iv (0 : Int32), rv b8, rv b15, iv (1 : Int32)] [(.ref b8), (.ref b8)]) := by
          intro t k
          refine k25 t ?_
          refine XS.iload X23.here hx rfl (hb hby at_132) rfl ?_
          show Steps p.tables e below (T23.setTop (mkF m 134 #[iv p1, iv p2, iv (0 : Int32), iv (0 : Int32), iv (0 : Int32), rv b8, rv b15, iv (1 : Int32)] [(.int (1 : Int32)), (.int (1 : Int32))])) _
          refine XS.icmpNo X23.here hx rfl (hb hby at_134) rfl (teq ((by decide) : (1 : Int32) = (1 : Int32))).2 ?_
          show Steps p.tables e below (T23.setTop (mkF m 137 #[iv p1, iv p2, iv (0 : Int32), iv (0 : Int32), iv (0 : Int32), rv b8, rv b15, iv (1 : Int32)] [])) _
          refine XS.aload X23.here hx rfl (hb hby at_137) rfl rfl ?_
          show Steps p.tables e below (T23.setTop (mkF m 139 #[iv p1, iv p2, iv (0 : Int32), iv (0 : Int32), iv (0 : Int32), rv b8, rv b15, iv (1 : Int32)] [(.ref b8)])) _
          refine XS.aload X23.here hx rfl (hb hby at_139) rfl rfl ?_
          show Steps p.tables e below (T23.setTop (mkF m 141 #[iv p1, iv p2, iv (0 : Int32), iv (0 : Int32), iv (0 : Int32), rv b8, rv b15, iv (1 : Int32)] [(.ref b8), (.ref b8)])) _
          exact k
        obtain ⟨cq27, kq27, qq27a, qq27b, qq27c⟩ := isOf hZ e23 f24
        obtain ⟨_, _, ⟨T27, L27, kk27, nn27⟩, -, X27, ⟨Lc27, hQ27, l27, y27, z27⟩, st27⟩ := X23.virtualBack hx (y := (⟨"com/example/stubwright/stubwright/idl/ConstValue$BooleanValue", "equals", "(Ljava/lang/Object;)Z"⟩ : MethodName)) (z := (⟨"com/example/stubwright/stubwright/idl/ConstValue$BooleanValue", "equals", "(Ljava/lang/Object;)Z"⟩ : MethodName)) hown (mvT hZ (hw _ (List.mem_of_getElem? (i := 16) rfl))) (mvT hZ (hw _ (List.mem_of_getElem? (i := 17) rfl))) (notFace_of_selects (args := #[]) (mvT hZ (hw _ (List.mem_of_getElem? (i := 19) rfl)))) (mvT hZ (hw _ (List.mem_of_getElem? (i := 19) rfl))) (mvT hZ (hw _ (List.mem_of_getElem? (i := 18) rfl))) (by decide) (backOf (W := 0) (eq00 l Z a0 hw [] wC clC G b8 b8 T19.heap n0 O19 (f24 : Exa Z T19.heap b8 "com/example/stubwright/stubwright/idl/ConstValue$BooleanValue") (f22 : Fld Z T19.heap b8 "com/example/stubwright/stubwright/idl/ConstValue$BooleanValue" "value" "Z" (.int (0 : Int32))) (f22 : Fld Z T19.heap b8 "com/example/stubwright/stubwright/idl/ConstValue$BooleanValue" "value" "Z" (.int (0 : Int32)))) hZ (hw _ (List.mem_of_getElem? (i := 20) rfl)) (hw _ (List.mem_of_getElem? (i := 2) rfl)) (by decide) (by decide)) qq27a qq27c (g := (mkF m 141 #[iv p1, iv p2, iv (0 : Int32), iv (0 : Int32), iv (0 : Int32), rv b8, rv b15, iv (1 : Int32)] [(.ref b8), (.ref b8)])) rfl (by rw [hml]; rfl) (Steps.refl _) (argsL := [(.ref b8)]) (rest := []) (lenOf pd_2 rfl) rfl (by show 2 * 0 + _ ≤ _; exact Nat.le_of_eq rfl) (hb hby at_141) (fun _ _ => ⟨rfl, e23, (by decide : 2 + 0 ≤ _), (by decide : 2 + 0 ≤ _)⟩)
        dsimp only [Pt.U, Pt.locs, Pt.cells, Pt.slots] at X27 l27 y27 z27 st27 hQ27
        subst l27 y27 z27
        obtain ⟨rfl, Nq27, e27⟩ := hQ27
        have N27 := Fr.app N23 Nq27
        have k28 : Way p e below S0 T27 (mkF m 144 #[iv p1, iv p2, iv (0 : Int32), iv (0 : Int32), iv (0 : Int32), rv b8, rv b15, iv (1 : Int32)] [(.int (1 : Int32))]) := fun t k => k26 t (st27.trans k)
        have k29 : Way p e below S0 T27 (mkF m 152 #[iv p1, iv p2, iv (0 : Int32), iv (0 : Int32), iv (0 : Int32), rv b8, rv b15, iv (1 : Int32)] [(.int (1 : Int32))]) := by
          intro t k
          refine k28 t ?_
          refine XS.ifNo X27.here hx rfl (hb hby at_144) rfl ((if0 _ _).trans (feq ((by decide) : ¬ ((1 : Int32) = (0 : Int32)))).1) ?_
          show Steps p.tables e below (T27.setTop (mkF m 147 #[iv p1, iv p2, iv (0 : Int32), iv (0 : Int32), iv (0 : Int32), rv b8, rv b15, iv (1 : Int32)] [])) _
          refine XS.iconst X27.here hx rfl (hb hby at_147) ?_
          show Steps p.tables e below (T27.setTop (mkF m 148 #[iv p1, iv p2, iv (0 : Int32), iv (0 : Int32), iv (0 : Int32), rv b8, rv b15, iv (1 : Int32)] [(.int (1 : Int32))])) _
          refine XS.goto X27.here hx rfl (pc0 := 148) (pc' := 152) rfl (hb hby at_148) (by decide) (by decide) ?_
          show Steps p.tables e below (T27.setTop (mkF m 152 #[iv p1, iv p2, iv (0 : Int32), iv (0 : Int32), iv (0 : Int32), rv b8, rv b15, iv (1 : Int32)] [(.int (1 : Int32))])) _
          exact k
        obtain ⟨fs, hr, hrun, hended, hW, hsame⟩ := X27.leave (v := some (.int (1 : Int32))) (fun h => by rw [Bd.returns] at h; cases h)
        refine ⟨_, _, k29 _ (retN X27 hx (t := .boolean) Bd.returns (by simp) (hb hby at_152) hr), hrun, hended, _, _, rfl, ?_, ⟨_, rfl⟩, hW, hsame.mono (by decide) (by decide)⟩
        show Q_law_met Z wC clC p1 p2 h0 n0 _ T27.heap _
        rw [e27]
        exact ⟨rfl, N27⟩
      · have k30 : Way p e below S0 s₁ (mkF m 31 #[iv p1, iv p2, iv (0 : Int32), iv (0 : Int32), iv (1 : Int32), .unset, .unset, .unset] []) := by have q := k5; rw [hi6] at q; exact q
        obtain ⟨T31, h31, X31, e31, E31, A31, D31, U31, st31⟩ := newO X0 hx hZ hown (hw _ (List.mem_of_getElem? (i := 0) rfl)) (hw _ (List.mem_of_getElem? (i := 1) rfl)) (hw _ (List.mem_of_getElem? (i := 2) rfl)) e0 (g := (mkF m 31 #[iv p1, iv p2, iv (0 : Int32), iv (0 : Int32), iv (1 : Int32), .unset, .unset, .unset] [])) rfl (hb hby at_31) (by decide) (by decide)
        obtain ⟨b31, g31⟩ : ∃ z, z = h0.size := ⟨_, rfl⟩
        rw [← g31] at A31 D31 U31 st31
        have O31 := O0.ext E31
        have i31_value : Fld Z h31 b31 "com/example/stubwright/stubwright/idl/ConstValue$BooleanValue" "value" "Z" (.int (0 : Int32)) := D31 (Or.inr (hw _ (List.mem_of_getElem? (i := 15) rfl))) (ty := .boolean) (by decide)
        have k32 : Way p e below S0 T31 (mkF m 34 #[iv p1, iv p2, iv (0 : Int32), iv (0 : Int32), iv (1 : Int32), .unset, .unset, .unset] [(.ref b31)]) := fun t k => k30 t (st31 _ k)
        have k33 : Way p e below S0 T31 (mkF m 36 #[iv p1, iv p2, iv (0 : Int32), iv (0 : Int32), iv (1 : Int32), .unset, .unset, .unset] [(.int (0 : Int32)), (.ref b31), (.ref b31)]) := by
          intro t k
          refine k32 t ?_
          refine XS.dup X31.here hx rfl (hb hby at_34) rfl rfl ?_
          show Steps p.tables e below (T31.setTop (mkF m 35 #[iv p1, iv p2, iv (0 : Int32), iv (0 : Int32), iv (1 : Int32), .unset, .unset, .unset] [(.ref b31), (.ref b31)])) _
          refine XS.iloadN X31.here hx rfl (hb hby at_35) rfl ?_
          show Steps p.tables e below (T31.setTop (mkF m 36 #[iv p1, iv p2, iv (0 : Int32), iv (0 : Int32), iv (1 : Int32), .unset, .unset, .unset] [(.int (0 : Int32)), (.ref b31), (.ref b31)])) _
          exact k
        have ge34 : n0 ≤ b31 := Nat.le_trans (own_old O0) (Nat.le_of_eq g31.symm)
        obtain ⟨_, _, ⟨T35, L35, kk35, nn35⟩, -, X35, ⟨Lc35, hQ35, l35, y35, z35⟩, st35⟩ := X31.specialBack hx (y := (⟨"com/example/stubwright/stubwright/idl/ConstValue$BooleanValue", "<init>", "(Z)V"⟩ : MethodName)) rfl hown (mvT hZ (hw _ (List.mem_of_getElem? (i := 3) rfl))) (mvT hZ (hw _ (List.mem_of_getElem? (i := 4) rfl))) (mvT hZ (hw _ (List.mem_of_getElem? (i := 5) rfl))) (by decide) (backOf (W := 1) (bvInit0 l Z a0 hw [] wC clC G b31 h31 n0 O31 (A31 : Exa Z h31 b31 "com/example/stubwright/stubwright/idl/ConstValue$BooleanValue") (i31_value : Fld Z h31 b31 "com/example/stubwright/stubwright/idl/ConstValue$BooleanValue" "value" "Z" (.int (0 : Int32))) (ge34 : n0 ≤ b31)) hZ (hw _ (List.mem_of_getElem? (i := 5) rfl)) (hw _ (List.mem_of_getElem? (i := 2) rfl)) (by decide) (by decide)) (g := (mkF m 36 #[iv p1, iv p2, iv (0 : Int32), iv (0 : Int32), iv (1 : Int32), .unset, .unset, .unset] [(.int (0 : Int32)), (.ref b31), (.ref b31)])) rfl (by rw [hml]; rfl) (Steps.refl _) (a := b31) (argsL := [(.int (0 : Int32))]) (rest := [(.ref b31)]) (lenOf pd_1 rfl) rfl (by show 2 * 0 + _ ≤ _; exact Nat.le_of_eq rfl) (hb hby at_36) (fun _ _ => ⟨rfl, e31, (by decide : 1 + 0 ≤ _), (by decide : 1 + 0 ≤ _)⟩)
        dsimp only [Pt.U, Pt.locs, Pt.cells, Pt.slots] at X35 l35 y35 z35 st35 hQ35
        subst l35 y35 z35
        obtain ⟨rfl, Nq35, Kq35, po35_0, po35_1⟩ := hQ35
        have N35 := Fr.app N0 Nq35
        have O35 := O31.keep Kq35 (allS ge34 all0)
        have k36 : Way p e below S0 T35 (mkF m 39 #[iv p1, iv p2, iv (0 : Int32), iv (0 : Int32), iv (1 : Int32), .unset, .unset, .unset] [(.ref b31)]) := fun t k => k33 t (st35.trans k)
        have k37 : Way p e below S0 T35 (mkF m 129 #[iv p1, iv p2, iv (0 : Int32), iv (0 : Int32), iv (1 : Int32), rv b31, .val .null, iv (0 : Int32)] [.null, (.ref b31)]) := by
          intro t k
          refine k36 t ?_
          refine XS.astore X35.here hx rfl (hb hby at_39) rfl rfl (l' := #[iv p1, iv p2, iv (0 : Int32), iv (0 : Int32), iv (1 : Int32), rv b31, .unset, .unset]) rfl ?_
          show Steps p.tables e below (T35.setTop (mkF m 41 #[iv p1, iv p2, iv (0 : Int32), iv (0 : Int32), iv (1 : Int32), rv b31, .unset, .unset] [])) _
          refine XS.iload X35.here hx rfl (hb hby at_41) rfl ?_
          show Steps p.tables e below (T35.setTop (mkF m 43 #[iv p1, iv p2, iv (0 : Int32), iv (0 : Int32), iv (1 : Int32), rv b31, .unset, .unset] [(.int (1 : Int32))])) _
          refine XS.ifYes X35.here hx rfl (pc0 := 43) (pc' := 59) rfl (hb hby at_43) rfl ((if0 _ _).trans (feq ((by decide) : ¬ ((1 : Int32) = (0 : Int32)))).2) (by decide) (by decide) ?_
          show Steps p.tables e below (T35.setTop (mkF m 59 #[iv p1, iv p2, iv (0 : Int32), iv (0 : Int32), iv (1 : Int32), rv b31, .unset, .unset] [])) _
          refine XS.iload X35.here hx rfl (hb hby at_59) rfl ?_
          show Steps p.tables e below (T35.setTop (mkF m 61 #[iv p1, iv p2, iv (0 : Int32), iv (0 : Int32), iv (1 : Int32), rv b31, .unset, .unset] [(.int (1 : Int32))])) _
          refine XS.iconst X35.here hx rfl (hb hby at_61) ?_
          show Steps p.tables e below (T35.setTop (mkF m 62 #[iv p1, iv p2, iv (0 : Int32), iv (0 : Int32), iv (1 : Int32), rv b31, .unset, .unset] [(.int (1 : Int32)), (.int (1 : Int32))])) _
          refine XS.icmpNo X35.here hx rfl (hb hby at_62) rfl (teq ((by decide) : (1 : Int32) = (1 : Int32))).2 ?_
          show Steps p.tables e below (T35.setTop (mkF m 65 #[iv p1, iv p2, iv (0 : Int32), iv (0 : Int32), iv (1 : Int32), rv b31, .unset, .unset] [])) _
          refine XS.aconstNull X35.here hx rfl (hb hby at_65) ?_
          show Steps p.tables e below (T35.setTop (mkF m 66 #[iv p1, iv p2, iv (0 : Int32), iv (0 : Int32), iv (1 : Int32), rv b31, .unset, .unset] [.null])) _
          refine XS.astore X35.here hx rfl (hb hby at_66) rfl rfl (l' := #[iv p1, iv p2, iv (0 : Int32), iv (0 : Int32), iv (1 : Int32), rv b31, .val .null, .unset]) rfl ?_
          show Steps p.tables e below (T35.setTop (mkF m 68 #[iv p1, iv p2, iv (0 : Int32), iv (0 : Int32), iv (1 : Int32), rv b31, .val .null, .unset] [])) _
          refine XS.goto X35.here hx rfl (pc0 := 68) (pc' := 108) rfl (hb hby at_68) (by decide) (by decide) ?_
          show Steps p.tables e below (T35.setTop (mkF m 108 #[iv p1, iv p2, iv (0 : Int32), iv (0 : Int32), iv (1 : Int32), rv b31, .val .null, .unset] [])) _
          refine XS.iload X35.here hx rfl (hb hby at_108) rfl ?_
          show Steps p.tables e below (T35.setTop (mkF m 110 #[iv p1, iv p2, iv (0 : Int32), iv (0 : Int32), iv (1 : Int32), rv b31, .val .null, .unset] [(.int (1 : Int32))])) _
          refine XS.ifYes X35.here hx rfl (pc0 := 110) (pc' := 122) rfl (hb hby at_110) rfl ((if0 _ _).trans (feq ((by decide) : ¬ ((1 : Int32) = (0 : Int32)))).2) (by decide) (by decide) ?_
          show Steps p.tables e below (T35.setTop (mkF m 122 #[iv p1, iv p2, iv (0 : Int32), iv (0 : Int32), iv (1 : Int32), rv b31, .val .null, .unset] [])) _
          refine XS.iconst X35.here hx rfl (hb hby at_122) ?_
          show Steps p.tables e below (T35.setTop (mkF m 123 #[iv p1, iv p2, iv (0 : Int32), iv (0 : Int32), iv (1 : Int32), rv b31, .val .null, .unset] [(.int (0 : Int32))])) _
          refine XS.istore X35.here hx rfl (hb hby at_123) rfl (l' := #[iv p1, iv p2, iv (0 : Int32), iv (0 : Int32), iv (1 : Int32), rv b31, .val .null, iv (0 : Int32)]) rfl ?_
          show Steps p.tables e below (T35.setTop (mkF m 125 #[iv p1, iv p2, iv (0 : Int32), iv (0 : Int32), iv (1 : Int32), rv b31, .val .null, iv (0 : Int32)] [])) _
          refine XS.aload X35.here hx rfl (hb hby at_125) rfl rfl ?_
          show Steps p.tables e below (T35.setTop (mkF m 127 #[iv p1, iv p2, iv (0 : Int32), iv (0 : Int32), iv (1 : Int32), rv b31, .val .null, iv (0 : Int32)] [(.ref b31)])) _
          refine XS.aload X35.here hx rfl (hb hby at_127) rfl rfl ?_
          show Steps p.tables e below (T35.setTop (mkF m 129 #[iv p1, iv p2, iv (0 : Int32), iv (0 : Int32), iv (1 : Int32), rv b31, .val .null, iv (0 : Int32)] [.null, (.ref b31)])) _
          exact k
        obtain ⟨cq38, kq38, qq38a, qq38b, qq38c⟩ := isOf hZ rfl po35_0
        obtain ⟨_, _, ⟨T38, L38, kk38, nn38⟩, -, X38, ⟨Lc38, hQ38, l38, y38, z38⟩, st38⟩ := X35.virtualBack hx (y := (⟨"com/example/stubwright/stubwright/idl/ConstValue$BooleanValue", "equals", "(Ljava/lang/Object;)Z"⟩ : MethodName)) (z := (⟨"com/example/stubwright/stubwright/idl/ConstValue$BooleanValue", "equals", "(Ljava/lang/Object;)Z"⟩ : MethodName)) hown (mvT hZ (hw _ (List.mem_of_getElem? (i := 16) rfl))) (mvT hZ (hw _ (List.mem_of_getElem? (i := 17) rfl))) (notFace_of_selects (args := #[]) (mvT hZ (hw _ (List.mem_of_getElem? (i := 19) rfl)))) (mvT hZ (hw _ (List.mem_of_getElem? (i := 19) rfl))) (mvT hZ (hw _ (List.mem_of_getElem? (i := 18) rfl))) (by decide) (backOf (W := 0) (eqNull l Z a0 hw [] wC clC G b31 T35.heap n0 O35 ) hZ (hw _ (List.mem_of_getElem? (i := 20) rfl)) (hw _ (List.mem_of_getElem? (i := 2) rfl)) (by decide) (by decide)) qq38a qq38c (g := (mkF m 129 #[iv p1, iv p2, iv (0 : Int32), iv (0 : Int32), iv (1 : Int32), rv b31, .val .null, iv (0 : Int32)] [.null, (.ref b31)])) rfl (by rw [hml]; rfl) (Steps.refl _) (argsL := [.null]) (rest := []) (lenOf pd_2 rfl) rfl (by show 2 * 0 + _ ≤ _; exact Nat.le_of_eq rfl) (hb hby at_129) (fun _ _ => ⟨rfl, rfl, (by decide : 1 + 0 ≤ _), (by decide : 1 + 0 ≤ _)⟩)
        dsimp only [Pt.U, Pt.locs, Pt.cells, Pt.slots] at X38 l38 y38 z38 st38 hQ38
        subst l38 y38 z38
        obtain ⟨rfl, Nq38, e38⟩ := hQ38
        have N38 := Fr.app N35 Nq38
        have k39 : Way p e below S0 T38 (mkF m 132 #[iv p1, iv p2, iv (0 : Int32), iv (0 : Int32), iv (1 : Int32), rv b31, .val .null, iv (0 : Int32)] [(.int (0 : Int32))]) := fun t k => k37 t (st38.trans k)
        have k40 : Way p e below S0 T38 (mkF m 141 #[iv p1, iv p2, iv (0 : Int32), iv (0 : Int32), iv (1 : Int32), rv b31, .val .null, iv (0 : Int32)] [(.ref b31), (.ref b31)]) := by
          intro t k
          refine k39 t ?_
          refine XS.iload X38.here hx rfl (hb hby at_132) rfl ?_
          show Steps p.tables e below (T38.setTop (mkF m 134 #[iv p1, iv p2, iv (0 : Int32), iv (0 : Int32), iv (1 : Int32), rv b31, .val .null, iv (0 : Int32)] [(.int (0 : Int32)), (.int (0 : Int32))])) _
          refine XS.icmpNo X38.here hx rfl (hb hby at_134) rfl (teq ((by decide) : (0 : Int32) = (0 : Int32))).2 ?_
          show Steps p.tables e below (T38.setTop (mkF m 137 #[iv p1, iv p2, iv (0 : Int32), iv (0 : Int32), iv (1 : Int32), rv b31, .val .null, iv (0 : Int32)] [])) _
          refine XS.aload X38.here hx rfl (hb hby at_137) rfl rfl ?_
          show Steps p.tables e below (T38.setTop (mkF m 139 #[iv p1, iv p2, iv (0 : Int32), iv (0 : Int32), iv (1 : Int32), rv b31, .val .null, iv (0 : Int32)] [(.ref b31)])) _
          refine XS.aload X38.here hx rfl (hb hby at_139) rfl rfl ?_
          show Steps p.tables e below (T38.setTop (mkF m 141 #[iv p1, iv p2, iv (0 : Int32), iv (0 : Int32), iv (1 : Int32), rv b31, .val .null, iv (0 : Int32)] [(.ref b31), (.ref b31)])) _
          exact k
        obtain ⟨cq41, kq41, qq41a, qq41b, qq41c⟩ := isOf hZ e38 po35_0
        obtain ⟨_, _, ⟨T41, L41, kk41, nn41⟩, -, X41, ⟨Lc41, hQ41, l41, y41, z41⟩, st41⟩ := X38.virtualBack hx (y := (⟨"com/example/stubwright/stubwright/idl/ConstValue$BooleanValue", "equals", "(Ljava/lang/Object;)Z"⟩ : MethodName)) (z := (⟨"com/example/stubwright/stubwright/idl/ConstValue$BooleanValue", "equals", "(Ljava/lang/Object;)Z"⟩ : MethodName)) hown (mvT hZ (hw _ (List.mem_of_getElem? (i := 16) rfl))) (mvT hZ (hw _ (List.mem_of_getElem? (i := 17) rfl))) (notFace_of_selects (args := #[]) (mvT hZ (hw _ (List.mem_of_getElem? (i := 19) rfl)))) (mvT hZ (hw _ (List.mem_of_getElem? (i := 19) rfl))) (mvT hZ (hw _ (List.mem_of_getElem? (i := 18) rfl))) (by decide) (backOf (W := 0) (eq00 l Z a0 hw [] wC clC G b31 b31 T35.heap n0 O35 (po35_0 : Exa Z T35.heap b31 "com/example/stubwright/stubwright/idl/ConstValue$BooleanValue") (po35_1 : Fld Z T35.heap b31 "com/example/stubwright/stubwright/idl/ConstValue$BooleanValue" "value" "Z" (.int (0 : Int32))) (po35_1 : Fld Z T35.heap b31 "com/example/stubwright/stubwright/idl/ConstValue$BooleanValue" "value" "Z" (.int (0 : Int32)))) hZ (hw _ (List.mem_of_getElem? (i := 20) rfl)) (hw _ (List.mem_of_getElem? (i := 2) rfl)) (by decide) (by decide)) qq41a qq41c (g := (mkF m 141 #[iv p1, iv p2, iv (0 : Int32), iv (0 : Int32), iv (1 : Int32), rv b31, .val .null, iv (0 : Int32)] [(.ref b31), (.ref b31)])) rfl (by rw [hml]; rfl) (Steps.refl _) (argsL := [(.ref b31)]) (rest := []) (lenOf pd_2 rfl) rfl (by show 2 * 0 + _ ≤ _; exact Nat.le_of_eq rfl) (hb hby at_141) (fun _ _ => ⟨rfl, e38, (by decide : 1 + 0 ≤ _), (by decide : 1 + 0 ≤ _)⟩)
        dsimp only [Pt.U, Pt.locs, Pt.cells, Pt.slots] at X41 l41 y41 z41 st41 hQ41
        subst l41 y41 z41
        obtain ⟨rfl, Nq41, e41⟩ := hQ41
        have N41 := Fr.app N38 Nq41
        have k42 : Way p e below S0 T41 (mkF m 144 #[iv p1, iv p2, iv (0 : Int32), iv (0 : Int32), iv (1 : Int32), rv b31, .val .null, iv (0 : Int32)] [(.int (1 : Int32))]) := fun t k => k40 t (st41.trans k)
        have k43 : Way p e below S0 T41 (mkF m 152 #[iv p1, iv p2, iv (0 : Int32), iv (0 : Int32), iv (1 : Int32), rv b31, .val .null, iv (0 : Int32)] [(.int (1 : Int32))]) := by
          intro t k
          refine k42 t ?_
          refine XS.ifNo X41.here hx rfl (hb hby at_144) rfl ((if0 _ _).trans (feq ((by decide) : ¬ ((1 : Int32) = (0 : Int32)))).1) ?_
          show Steps p.tables e below (T41.setTop (mkF m 147 #[iv p1, iv p2, iv (0 : Int32), iv (0 : Int32), iv (1 : Int32), rv b31, .val .null, iv (0 : Int32)] [])) _
          refine XS.iconst X41.here hx rfl (hb hby at_147) ?_
          show Steps p.tables e below (T41.setTop (mkF m 148 #[iv p1, iv p2, iv (0 : Int32), iv (0 : Int32), iv (1 : Int32), rv b31, .val .null, iv (0 : Int32)] [(.int (1 : Int32))])) _
          refine XS.goto X41.here hx rfl (pc0 := 148) (pc' := 152) rfl (hb hby at_148) (by decide) (by decide) ?_
          show Steps p.tables e below (T41.setTop (mkF m 152 #[iv p1, iv p2, iv (0 : Int32), iv (0 : Int32), iv (1 : Int32), rv b31, .val .null, iv (0 : Int32)] [(.int (1 : Int32))])) _
          exact k
        obtain ⟨fs, hr, hrun, hended, hW, hsame⟩ := X41.leave (v := some (.int (1 : Int32))) (fun h => by rw [Bd.returns] at h; cases h)
        refine ⟨_, _, k43 _ (retN X41 hx (t := .boolean) Bd.returns (by simp) (hb hby at_152) hr), hrun, hended, _, _, rfl, ?_, ⟨_, rfl⟩, hW, hsame.mono (by decide) (by decide)⟩
        show Q_law_met Z wC clC p1 p2 h0 n0 _ T41.heap _
        rw [e41]
        exact ⟨rfl, N41⟩
      · have k44 : Way p e below S0 s₁ (mkF m 31 #[iv p1, iv p2, iv (0 : Int32), iv (0 : Int32), iv (2 : Int32), .unset, .unset, .unset] []) := by have q := k5; rw [hi6] at q; exact q
        obtain ⟨T45, h45, X45, e45, E45, A45, D45, U45, st45⟩ := newO X0 hx hZ hown (hw _ (List.mem_of_getElem? (i := 0) rfl)) (hw _ (List.mem_of_getElem? (i := 1) rfl)) (hw _ (List.mem_of_getElem? (i := 2) rfl)) e0 (g := (mkF m 31 #[iv p1, iv p2, iv (0 : Int32), iv (0 : Int32), iv (2 : Int32), .unset, .unset, .unset] [])) rfl (hb hby at_31) (by decide) (by decide)
        obtain ⟨b45, g45⟩ : ∃ z, z = h0.size := ⟨_, rfl⟩
        rw [← g45] at A45 D45 U45 st45
        have O45 := O0.ext E45
        have i45_value : Fld Z h45 b45 "com/example/stubwright/stubwright/idl/ConstValue$BooleanValue" "value" "Z" (.int (0 : Int32)) := D45 (Or.inr (hw _ (List.mem_of_getElem? (i := 15) rfl))) (ty := .boolean) (by decide)
        have k46 : Way p e below S0 T45 (mkF m 34 #[iv p1, iv p2, iv (0 : Int32), iv (0 : Int32), iv (2 : Int32), .unset, .unset, .unset] [(.ref b45)]) := fun t k => k44 t (st45 _ k)
        have k47 : Way p e below S0 T45 (mkF m 36 #[iv p1, iv p2, iv (0 : Int32), iv (0 : Int32), iv (2 : Int32), .unset, .unset, .unset] [(.int (0 : Int32)), (.ref b45), (.ref b45)]) := by
          intro t k
          refine k46 t ?_
          refine XS.dup X45.here hx rfl (hb hby at_34) rfl rfl ?_
          show Steps p.tables e below (T45.setTop (mkF m 35 #[iv p1, iv p2, iv (0 : Int32), iv (0 : Int32), iv (2 : Int32), .unset, .unset, .unset] [(.ref b45), (.ref b45)])) _
          refine XS.iloadN X45.here hx rfl (hb hby at_35) rfl ?_
          show Steps p.tables e below (T45.setTop (mkF m 36 #[iv p1, iv p2, iv (0 : Int32), iv (0 : Int32), iv (2 : Int32), .unset, .unset, .unset] [(.int (0 : Int32)), (.ref b45), (.ref b45)])) _
          exact k
        have ge48 : n0 ≤ b45 := Nat.le_trans (own_old O0) (Nat.le_of_eq g45.symm)
        obtain ⟨_, _, ⟨T49, L49, kk49, nn49⟩, -, X49, ⟨Lc49, hQ49, l49, y49, z49⟩, st49⟩ := X45.specialBack hx (y := (⟨"com/example/stubwright/stubwright/idl/ConstValue$BooleanValue", "<init>", "(Z)V"⟩ : MethodName)) rfl hown (mvT hZ (hw _ (List.mem_of_getElem? (i := 3) rfl))) (mvT hZ (hw _ (List.mem_of_getElem? (i := 4) rfl))) (mvT hZ (hw _ (List.mem_of_getElem? (i := 5) rfl))) (by decide) (backOf (W := 1) (bvInit0 l Z a0 hw [] wC clC G b45 h45 n0 O45 (A45 : Exa Z h45 b45 "com/example/stubwright/stubwright/idl/ConstValue$BooleanValue") (i45_value : Fld Z h45 b45 "com/example/stubwright/stubwright/idl/ConstValue$BooleanValue" "value" "Z" (.int (0 : Int32))) (ge48 : n0 ≤ b45)) hZ (hw _ (List.mem_of_getElem? (i := 5) rfl)) (hw _ (List.mem_of_getElem? (i := 2) rfl)) (by decide) (by decide)) (g := (mkF m 36 #[iv p1, iv p2, iv (0 : Int32), iv (0 : Int32), iv (2 : Int32), .unset, .unset, .unset] [(.int (0 : Int32)), (.ref b45), (.ref b45)])) rfl (by rw [hml]; rfl) (Steps.refl _) (a := b45) (argsL := [(.int (0 : Int32))]) (rest := [(.ref b45)]) (lenOf pd_1 rfl) rfl (by show 2 * 0 + _ ≤ _; exact Nat.le_of_eq rfl) (hb hby at_36) (fun _ _ => ⟨rfl, e45, (by decide : 1 + 0 ≤ _), (by decide : 1 + 0 ≤ _)⟩)
        dsimp only [Pt.U, Pt.locs, Pt.cells, Pt.slots] at X49 l49 y49 z49 st49 hQ49
        subst l49 y49 z49
        obtain ⟨rfl, Nq49, Kq49, po49_0, po49_1⟩ := hQ49
        have N49 := Fr.app N0 Nq49
        have O49 := O45.keep Kq49 (allS ge48 all0)
        have k50 : Way p e below S0 T49 (mkF m 39 #[iv p1, iv p2, iv (0 : Int32), iv (0 : Int32), iv (2 : Int32), .unset, .unset, .unset] [(.ref b45)]) := fun t k => k47 t (st49.trans k)
        have k51 : Way p e below S0 T49 (mkF m 77 #[iv p1, iv p2, iv (0 : Int32), iv (0 : Int32), iv (2 : Int32), rv b45, .unset, .unset] []) := by
          intro t k
          refine k50 t ?_
          refine XS.astore X49.here hx rfl (hb hby at_39) rfl rfl (l' := #[iv p1, iv p2, iv (0 : Int32), iv (0 : Int32), iv (2 : Int32), rv b45, .unset, .unset]) rfl ?_
          show Steps p.tables e below (T49.setTop (mkF m 41 #[iv p1, iv p2, iv (0 : Int32), iv (0 : Int32), iv (2 : Int32), rv b45, .unset, .unset] [])) _
          refine XS.iload X49.here hx rfl (hb hby at_41) rfl ?_
          show Steps p.tables e below (T49.setTop (mkF m 43 #[iv p1, iv p2, iv (0 : Int32), iv (0 : Int32), iv (2 : Int32), rv b45, .unset, .unset] [(.int (2 : Int32))])) _
          refine XS.ifYes X49.here hx rfl (pc0 := 43) (pc' := 59) rfl (hb hby at_43) rfl ((if0 _ _).trans (feq ((by decide) : ¬ ((2 : Int32) = (0 : Int32)))).2) (by decide) (by decide) ?_
          show Steps p.tables e below (T49.setTop (mkF m 59 #[iv p1, iv p2, iv (0 : Int32), iv (0 : Int32), iv (2 : Int32), rv b45, .unset, .unset] [])) _
          refine XS.iload X49.here hx rfl (hb hby at_59) rfl ?_
          show Steps p.tables e below (T49.setTop (mkF m 61 #[iv p1, iv p2, iv (0 : Int32), iv (0 : Int32), iv (2 : Int32), rv b45, .unset, .unset] [(.int (2 : Int32))])) _
          refine XS.iconst X49.here hx rfl (hb hby at_61) ?_
          show Steps p.tables e below (T49.setTop (mkF m 62 #[iv p1, iv p2, iv (0 : Int32), iv (0 : Int32), iv (2 : Int32), rv b45, .unset, .unset] [(.int (1 : Int32)), (.int (2 : Int32))])) _
          refine XS.icmpYes X49.here hx rfl (pc0 := 62) (pc' := 71) rfl (hb hby at_62) rfl (feq ((by decide) : ¬ ((2 : Int32) = (1 : Int32)))).2 (by decide) (by decide) ?_
          show Steps p.tables e below (T49.setTop (mkF m 71 #[iv p1, iv p2, iv (0 : Int32), iv (0 : Int32), iv (2 : Int32), rv b45, .unset, .unset] [])) _
          refine XS.iload X49.here hx rfl (hb hby at_71) rfl ?_
          show Steps p.tables e below (T49.setTop (mkF m 73 #[iv p1, iv p2, iv (0 : Int32), iv (0 : Int32), iv (2 : Int32), rv b45, .unset, .unset] [(.int (2 : Int32))])) _
          refine XS.iconst X49.here hx rfl (hb hby at_73) ?_
          show Steps p.tables e below (T49.setTop (mkF m 74 #[iv p1, iv p2, iv (0 : Int32), iv (0 : Int32), iv (2 : Int32), rv b45, .unset, .unset] [(.int (2 : Int32)), (.int (2 : Int32))])) _
          refine XS.icmpNo X49.here hx rfl (hb hby at_74) rfl (teq ((by decide) : (2 : Int32) = (2 : Int32))).2 ?_
          show Steps p.tables e below (T49.setTop (mkF m 77 #[iv p1, iv p2, iv (0 : Int32), iv (0 : Int32), iv (2 : Int32), rv b45, .unset, .unset] [])) _
          exact k
        obtain ⟨T52, h52, X52, e52, E52, A52, D52, U52, st52⟩ := newO X49 hx hZ hown (hw _ (List.mem_of_getElem? (i := 33) rfl)) (hw _ (List.mem_of_getElem? (i := 34) rfl)) (hw _ (List.mem_of_getElem? (i := 35) rfl)) rfl (g := (mkF m 77 #[iv p1, iv p2, iv (0 : Int32), iv (0 : Int32), iv (2 : Int32), rv b45, .unset, .unset] [])) rfl (hb hby at_77) (by decide) (by decide)
        obtain ⟨b52, g52⟩ : ∃ z, z = T49.heap.size := ⟨_, rfl⟩
        rw [← g52] at A52 D52 U52 st52
        have O52 := O49.ext E52
        have i52_value : Fld Z h52 b52 "com/example/stubwright/stubwright/idl/ConstValue$CharValue" "value" "C" (.int (0 : Int32)) := D52 (Or.inr (hw _ (List.mem_of_getElem? (i := 42) rfl))) (ty := .char) (by decide)
        have k53 : Way p e below S0 T52 (mkF m 80 #[iv p1, iv p2, iv (0 : Int32), iv (0 : Int32), iv (2 : Int32), rv b45, .unset, .unset] [(.ref b52)]) := fun t k => k51 t (st52 _ k)
        have k54 : Way p e below S0 T52 (mkF m 86 #[iv p1, iv p2, iv (0 : Int32), iv (0 : Int32), iv (2 : Int32), rv b45, .unset, .unset] [(.int ((p2 &&& (65535 : Int32)).toUInt32.toUInt16.toUInt32.toInt32)), (.ref b52), (.ref b52)]) := by
          intro t k
          refine k53 t ?_
          refine XS.dup X52.here hx rfl (hb hby at_80) rfl rfl ?_
          show Steps p.tables e below (T52.setTop (mkF m 81 #[iv p1, iv p2, iv (0 : Int32), iv (0 : Int32), iv (2 : Int32), rv b45, .unset, .unset] [(.ref b52), (.ref b52)])) _
          refine XS.iloadN X52.here hx rfl (hb hby at_81) rfl ?_
          show Steps p.tables e below (T52.setTop (mkF m 82 #[iv p1, iv p2, iv (0 : Int32), iv (0 : Int32), iv (2 : Int32), rv b45, .unset, .unset] [(.int p2), (.ref b52), (.ref b52)])) _
          refine X52.ldcInt hx hown (mvT hZ (hw _ (List.mem_of_getElem? (i := 36) rfl))) (g := (mkF m 82 #[iv p1, iv p2, iv (0 : Int32), iv (0 : Int32), iv (2 : Int32), rv b45, .unset, .unset] [(.int p2), (.ref b52), (.ref b52)])) rfl (hb hby at_82) _ ?_
          show Steps p.tables e below (T52.setTop (mkF m 84 #[iv p1, iv p2, iv (0 : Int32), iv (0 : Int32), iv (2 : Int32), rv b45, .unset, .unset] [(.int (65535 : Int32)), (.int p2), (.ref b52), (.ref b52)])) _
          refine XS.iand X52.here hx rfl (hb hby at_84) rfl ?_
          show Steps p.tables e below (T52.setTop (mkF m 85 #[iv p1, iv p2, iv (0 : Int32), iv (0 : Int32), iv (2 : Int32), rv b45, .unset, .unset] [(.int (p2 &&& (65535 : Int32))), (.ref b52), (.ref b52)])) _
          refine XS.i2c X52.here hx rfl (hb hby at_85) rfl ?_
          show Steps p.tables e below (T52.setTop (mkF m 86 #[iv p1, iv p2, iv (0 : Int32), iv (0 : Int32), iv (2 : Int32), rv b45, .unset, .unset] [(.int ((p2 &&& (65535 : Int32)).toUInt32.toUInt16.toUInt32.toInt32)), (.ref b52), (.ref b52)])) _
          exact k
        have ge55 : n0 ≤ b52 := Nat.le_trans (own_old O49) (Nat.le_of_eq g52.symm)
        obtain ⟨_, _, ⟨T56, L56, kk56, nn56⟩, -, X56, ⟨Lc56, hQ56, l56, y56, z56⟩, st56⟩ := X52.specialBack hx (y := (⟨"com/example/stubwright/stubwright/idl/ConstValue$CharValue", "<init>", "(C)V"⟩ : MethodName)) rfl hown (mvT hZ (hw _ (List.mem_of_getElem? (i := 37) rfl))) (mvT hZ (hw _ (List.mem_of_getElem? (i := 38) rfl))) (mvT hZ (hw _ (List.mem_of_getElem? (i := 39) rfl))) (by decide) (backOf (W := 1) (cvInit l Z a0 hw [] wC clC G b52 ((p2 &&& (65535 : Int32)).toUInt32.toUInt16.toUInt32.toInt32) h52 n0 O52 (A52 : Exa Z h52 b52 "com/example/stubwright/stubwright/idl/ConstValue$CharValue") (i52_value : Fld Z h52 b52 "com/example/stubwright/stubwright/idl/ConstValue$CharValue" "value" "C" (.int (0 : Int32))) (ge55 : n0 ≤ b52) (own_i2c _ : ((p2 &&& (65535 : Int32)).toUInt32.toUInt16.toUInt32.toInt32).toUInt32.toUInt16.toUInt32.toInt32 = ((p2 &&& (65535 : Int32)).toUInt32.toUInt16.toUInt32.toInt32))) hZ (hw _ (List.mem_of_getElem? (i := 39) rfl)) (hw _ (List.mem_of_getElem? (i := 35) rfl)) (by decide) (by decide)) (g := (mkF m 86 #[iv p1, iv p2, iv (0 : Int32), iv (0 : Int32), iv (2 : Int32), rv b45, .unset, .unset] [(.int ((p2 &&& (65535 : Int32)).toUInt32.toUInt16.toUInt32.toInt32)), (.ref b52), (.ref b52)])) rfl (by rw [hml]; rfl) (Steps.refl _) (a := b52) (argsL := [(.int ((p2 &&& (65535 : Int32)).toUInt32.toUInt16.toUInt32.toInt32))]) (rest := [(.ref b52)]) (lenOf pd_3 rfl) rfl (by show 2 * 0 + _ ≤ _; exact Nat.le_of_eq rfl) (hb hby at_86) (fun _ _ => ⟨rfl, e52, (by decide : 2 + 0 ≤ _), (by decide : 2 + 0 ≤ _)⟩)
        dsimp only [Pt.U, Pt.locs, Pt.cells, Pt.slots] at X56 l56 y56 z56 st56 hQ56
        subst l56 y56 z56
        obtain ⟨rfl, Nq56, Kq56, po56_0, po56_1⟩ := hQ56
        have N56 := Fr.app N49 Nq56
        have O56 := O52.keep Kq56 (allS ge55 all0)
        have k57 : Way p e below S0 T56 (mkF m 89 #[iv p1, iv p2, iv (0 : Int32), iv (0 : Int32), iv (2 : Int32), rv b45, .unset, .unset] [(.ref b52)]) := fun t k => k54 t (st56.trans k)
        have k58 : Way p e below S0 T56 (mkF m 129 #[iv p1, iv p2, iv (0 : Int32), iv (0 : Int32), iv (2 : Int32), rv b45, rv b52, iv (0 : Int32)] [(.ref b52), (.ref b45)]) := by
          intro t k
          refine k57 t ?_
          refine XS.astore X56.here hx rfl (hb hby at_89) rfl rfl (l' := #[iv p1, iv p2, iv (0 : Int32), iv (0 : Int32), iv (2 : Int32), rv b45, rv b52, .unset]) rfl ?_
          show Steps p.tables e below (T56.setTop (mkF m 91 #[iv p1, iv p2, iv (0 : Int32), iv (0 : Int32), iv (2 : Int32), rv b45, rv b52, .unset] [])) _
          refine XS.goto X56.here hx rfl (pc0 := 91) (pc' := 108) rfl (hb hby at_91) (by decide) (by decide) ?_
          show Steps p.tables e below (T56.setTop (mkF m 108 #[iv p1, iv p2, iv (0 : Int32), iv (0 : Int32), iv (2 : Int32), rv b45, rv b52, .unset] [])) _
          refine XS.iload X56.here hx rfl (hb hby at_108) rfl ?_
          show Steps p.tables e below (T56.setTop (mkF m 110 #[iv p1, iv p2, iv (0 : Int32), iv (0 : Int32), iv (2 : Int32), rv b45, rv b52, .unset] [(.int (2 : Int32))])) _
          refine XS.ifYes X56.here hx rfl (pc0 := 110) (pc' := 122) rfl (hb hby at_110) rfl ((if0 _ _).trans (feq ((by decide) : ¬ ((2 : Int32) = (0 : Int32)))).2) (by decide) (by decide) ?_
          show Steps p.tables e below (T56.setTop (mkF m 122 #[iv p1, iv p2, iv (0 : Int32), iv (0 : Int32), iv (2 : Int32), rv b45, rv b52, .unset] [])) _
          refine XS.iconst X56.here hx rfl (hb hby at_122) ?_
          show Steps p.tables e below (T56.setTop (mkF m 123 #[iv p1, iv p2, iv (0 : Int32), iv (0 : Int32), iv (2 : Int32), rv b45, rv b52, .unset] [(.int (0 : Int32))])) _
          refine XS.istore X56.here hx rfl (hb hby at_123) rfl (l' := #[iv p1, iv p2, iv (0 : Int32), iv (0 : Int32), iv (2 : Int32), rv b45, rv b52, iv (0 : Int32)]) rfl ?_
          show Steps p.tables e below (T56.setTop (mkF m 125 #[iv p1, iv p2, iv (0 : Int32), iv (0 : Int32), iv (2 : Int32), rv b45, rv b52, iv (0 : Int32)] [])) _
          refine XS.aload X56.here hx rfl (hb hby at_125) rfl rfl ?_
          show Steps p.tables e below (T56.setTop (mkF m 127 #[iv p1, iv p2, iv (0 : Int32), iv (0 : Int32), iv (2 : Int32), rv b45, rv b52, iv (0 : Int32)] [(.ref b45)])) _
          refine XS.aload X56.here hx rfl (hb hby at_127) rfl rfl ?_
          show Steps p.tables e below (T56.setTop (mkF m 129 #[iv p1, iv p2, iv (0 : Int32), iv (0 : Int32), iv (2 : Int32), rv b45, rv b52, iv (0 : Int32)] [(.ref b52), (.ref b45)])) _
          exact k
        have f60 : Exa Z T56.heap b45 "com/example/stubwright/stubwright/idl/ConstValue$BooleanValue" := ((po49_0.ext E52).keep Kq56)
        obtain ⟨cq59, kq59, qq59a, qq59b, qq59c⟩ := isOf hZ rfl f60
        obtain ⟨_, _, ⟨T59, L59, kk59, nn59⟩, -, X59, ⟨Lc59, hQ59, l59, y59, z59⟩, st59⟩ := X56.virtualBack hx (y := (⟨"com/example/stubwright/stubwright/idl/ConstValue$BooleanValue", "equals", "(Ljava/lang/Object;)Z"⟩ : MethodName)) (z := (⟨"com/example/stubwright/stubwright/idl/ConstValue$BooleanValue", "equals", "(Ljava/lang/Object;)Z"⟩ : MethodName)) hown (mvT hZ (hw _ (List.mem_of_getElem? (i := 16) rfl))) (mvT hZ (hw _ (List.mem_of_getElem? (i := 17) rfl))) (notFace_of_selects (args := #[]) (mvT hZ (hw _ (List.mem_of_getElem? (i := 19) rfl)))) (mvT hZ (hw _ (List.mem_of_getElem? (i := 19) rfl))) (mvT hZ (hw _ (List.mem_of_getElem? (i := 18) rfl))) (by decide) (backOf (W := 0) (eqOther0 l Z a0 hw [] wC clC G b45 b52 T56.heap n0 O56 (po56_0 : Exa Z T56.heap b52 "com/example/stubwright/stubwright/idl/ConstValue$CharValue")) hZ (hw _ (List.mem_of_getElem? (i := 20) rfl)) (hw _ (List.mem_of_getElem? (i := 2) rfl)) (by decide) (by decide)) qq59a qq59c (g := (mkF m 129 #[iv p1, iv p2, iv (0 : Int32), iv (0 : Int32), iv (2 : Int32), rv b45, rv b52, iv (0 : Int32)] [(.ref b52), (.ref b45)])) rfl (by rw [hml]; rfl) (Steps.refl _) (argsL := [(.ref b52)]) (rest := []) (lenOf pd_2 rfl) rfl (by show 2 * 0 + _ ≤ _; exact Nat.le_of_eq rfl) (hb hby at_129) (fun _ _ => ⟨rfl, rfl, (by decide : 2 + 0 ≤ _), (by decide : 2 + 0 ≤ _)⟩)
        dsimp only [Pt.U, Pt.locs, Pt.cells, Pt.slots] at X59 l59 y59 z59 st59 hQ59
        subst l59 y59 z59
        obtain ⟨rfl, Nq59, e59⟩ := hQ59
        have N59 := Fr.app N56 Nq59
        have k61 : Way p e below S0 T59 (mkF m 132 #[iv p1, iv p2, iv (0 : Int32), iv (0 : Int32), iv (2 : Int32), rv b45, rv b52, iv (0 : Int32)] [(.int (0 : Int32))]) := fun t k => k58 t (st59.trans k)
        have k62 : Way p e below S0 T59 (mkF m 141 #[iv p1, iv p2, iv (0 : Int32), iv (0 : Int32), iv (2 : Int32), rv b45, rv b52, iv (0 : Int32)] [(.ref b45), (.ref b45)]) := by
          intro t k
          refine k61 t ?_
          refine XS.iload X59.here hx rfl (hb hby at_132) rfl ?_
          show Steps p.tables e below (T59.setTop (mkF m 134 #[iv p1, iv p2, iv (0 : Int32), iv (0 : Int32), iv (2 : Int32), rv b45, rv b52, iv (0 : Int32)] [(.int (0 : Int32)), (.int (0 : Int32))])) _
          refine XS.icmpNo X59.here hx rfl (hb hby at_134) rfl (teq ((by decide) : (0 : Int32) = (0 : Int32))).2 ?_
          show Steps p.tables e below (T59.setTop (mkF m 137 #[iv p1, iv p2, iv (0 : Int32), iv (0 : Int32), iv (2 : Int32), rv b45, rv b52, iv (0 : Int32)] [])) _
          refine XS.aload X59.here hx rfl (hb hby at_137) rfl rfl ?_
          show Steps p.tables e below (T59.setTop (mkF m 139 #[iv p1, iv p2, iv (0 : Int32), iv (0 : Int32), iv (2 : Int32), rv b45, rv b52, iv (0 : Int32)] [(.ref b45)])) _
          refine XS.aload X59.here hx rfl (hb hby at_139) rfl rfl ?_
          show Steps p.tables e below (T59.setTop (mkF m 141 #[iv p1, iv p2, iv (0 : Int32), iv (0 : Int32), iv (2 : Int32), rv b45, rv b52, iv (0 : Int32)] [(.ref b45), (.ref b45)])) _
          exact k
        have f63 : Fld Z T56.heap b45 "com/example/stubwright/stubwright/idl/ConstValue$BooleanValue" "value" "Z" (.int (0 : Int32)) := ((po49_1.ext E52).keep Kq56 (ninS (Nat.ne_of_lt (Nat.lt_of_lt_of_le po49_1.lt (Nat.le_of_eq g52.symm))) nin0))
        obtain ⟨cq64, kq64, qq64a, qq64b, qq64c⟩ := isOf hZ e59 f60
        obtain ⟨_, _, ⟨T64, L64, kk64, nn64⟩, -, X64, ⟨Lc64, hQ64, l64, y64, z64⟩, st64⟩ := X59.virtualBack hx (y := (⟨"com/example/stubwright/stubwright/idl/ConstValue$BooleanValue", "equals", "(Ljava/lang/Object;)Z"⟩ : MethodName)) (z := (⟨"com/example/stubwright/stubwright/idl/ConstValue$BooleanValue", "equals", "(Ljava/lang/Object;)Z"⟩ : MethodName)) hown (mvT hZ (hw _ (List.mem_of_getElem? (i := 16) rfl))) (mvT hZ (hw _ (List.mem_of_getElem? (i := 17) rfl))) (notFace_of_selects (args := #[]) (mvT hZ (hw _ (List.mem_of_getElem? (i := 19) rfl)))) (mvT hZ (hw _ (List.mem_of_getElem? (i := 19) rfl))) (mvT hZ (hw _ (List.mem_of_getElem? (i := 18) rfl))) (by decide) (backOf (W := 0) (eq00 l Z a0 hw [] wC clC G b45 b45 T56.heap n0 O56 (f60 : Exa Z T56.heap b45 "com/example/stubwright/stubwright/idl/ConstValue$BooleanValue") (f63 : Fld Z T56.heap b45 "com/example/stubwright/stubwright/idl/ConstValue$BooleanValue" "value" "Z" (.int (0 : Int32))) (f63 : Fld Z T56.heap b45 "com/example/stubwright/stubwright/idl/ConstValue$BooleanValue" "value" "Z" (.int (0 : Int32)))) hZ (hw _ (List.mem_of_getElem? (i := 20) rfl)) (hw _ (List.mem_of_getElem? (i := 2) rfl)) (by decide) (by decide)) qq64a qq64c (g := (mkF m 141 #[iv p1, iv p2, iv (0 : Int32), iv (0 : Int32), iv (2 : Int32), rv b45, rv b52, iv (0 : Int32)] [(.ref b45), (.ref b45)])) rfl (by rw [hml]; rfl) (Steps.refl _) (argsL := [(.ref b45)]) (rest := []) (lenOf pd_2 rfl) rfl (by show 2 * 0 + _ ≤ _; exact Nat.le_of_eq rfl) (hb hby at_141) (fun _ _ => ⟨rfl, e59, (by decide : 2 + 0 ≤ _), (by decide : 2 + 0 ≤ _)⟩)
        dsimp only [Pt.U, Pt.locs, Pt.cells, Pt.slots] at X64 l64 y64 z64 st64 hQ64
        subst l64 y64 z64
        obtain ⟨rfl, Nq64, e64⟩ := hQ64
        have N64 := Fr.app N59 Nq64
        have k65 : Way p e below S0 T64 (mkF m 144 #[iv p1, iv p2, iv (0 : Int32), iv (0 : Int32), iv (2 : Int32), rv b45, rv b52, iv (0 : Int32)] [(.int (1 : Int32))]) := fun t k => k62 t (st64.trans k)
        have k66 : Way p e below S0 T64 (mkF m 152 #[iv p1, iv p2, iv (0 : Int32), iv (0 : Int32), iv (2 : Int32), rv b45, rv b52, iv (0 : Int32)] [(.int (1 : Int32))]) := by
          intro t k
          refine k65 t ?_
          refine XS.ifNo X64.here hx rfl (hb hby at_144) rfl ((if0 _ _).trans (feq ((by decide) : ¬ ((1 : Int32) = (0 : Int32)))).1) ?_
          show Steps p.tables e below (T64.setTop (mkF m 147 #[iv p1, iv p2, iv (0 : Int32), iv (0 : Int32), iv (2 : Int32), rv b45, rv b52, iv (0 : Int32)] [])) _
          refine XS.iconst X64.here hx rfl (hb hby at_147) ?_
          show Steps p.tables e below (T64.setTop (mkF m 148 #[iv p1, iv p2, iv (0 : Int32), iv (0 : Int32), iv (2 : Int32), rv b45, rv b52, iv (0 : Int32)] [(.int (1 : Int32))])) _
          refine XS.goto X64.here hx rfl (pc0 := 148) (pc' := 152) rfl (hb hby at_148) (by decide) (by decide) ?_
          show Steps p.tables e below (T64.setTop (mkF m 152 #[iv p1, iv p2, iv (0 : Int32), iv (0 : Int32), iv (2 : Int32), rv b45, rv b52, iv (0 : Int32)] [(.int (1 : Int32))])) _
          exact k
        obtain ⟨fs, hr, hrun, hended, hW, hsame⟩ := X64.leave (v := some (.int (1 : Int32))) (fun h => by rw [Bd.returns] at h; cases h)
        refine ⟨_, _, k66 _ (retN X64 hx (t := .boolean) Bd.returns (by simp) (hb hby at_152) hr), hrun, hended, _, _, rfl, ?_, ⟨_, rfl⟩, hW, hsame.mono (by decide) (by decide)⟩
        show Q_law_met Z wC clC p1 p2 h0 n0 _ T64.heap _
        rw [e64]
        exact ⟨rfl, N64⟩
      · have k67 : Way p e below S0 s₁ (mkF m 31 #[iv p1, iv p2, iv (0 : Int32), iv (0 : Int32), iv (3 : Int32), .unset, .unset, .unset] []) := by have q := k5; rw [hi6] at q; exact q
        obtain ⟨T68, h68, X68, e68, E68, A68, D68, U68, st68⟩ := newO X0 hx hZ hown (hw _ (List.mem_of_getElem? (i := 0) rfl)) (hw _ (List.mem_of_getElem? (i := 1) rfl)) (hw _ (List.mem_of_getElem? (i := 2) rfl)) e0 (g := (mkF m 31 #[iv p1, iv p2, iv (0 : Int32), iv (0 : Int32), iv (3 : Int32), .unset, .unset, .unset] [])) rfl (hb hby at_31) (by decide) (by decide)
        obtain ⟨b68, g68⟩ : ∃ z, z = h0.size := ⟨_, rfl⟩
        rw [← g68] at A68 D68 U68 st68
        have O68 := O0.ext E68
        have i68_value : Fld Z h68 b68 "com/example/stubwright/stubwright/idl/ConstValue$BooleanValue" "value" "Z" (.int (0 : Int32)) := D68 (Or.inr (hw _ (List.mem_of_getElem? (i := 15) rfl))) (ty := .boolean) (by decide)
        have k69 : Way p e below S0 T68 (mkF m 34 #[iv p1, iv p2, iv (0 : Int32), iv (0 : Int32), iv (3 : Int32), .unset, .unset, .unset] [(.ref b68)]) := fun t k => k67 t (st68 _ k)
        have k70 : Way p e below S0 T68 (mkF m 36 #[iv p1, iv p2, iv (0 : Int32), iv (0 : Int32), iv (3 : Int32), .unset, .unset, .unset] [(.int (0 : Int32)), (.ref b68), (.ref b68)]) := by
          intro t k
          refine k69 t ?_
          refine XS.dup X68.here hx rfl (hb hby at_34) rfl rfl ?_
          show Steps p.tables e below (T68.setTop (mkF m 35 #[iv p1, iv p2, iv (0 : Int32), iv (0 : Int32), iv (3 : Int32), .unset, .unset, .unset] [(.ref b68), (.ref b68)])) _
          refine XS.iloadN X68.here hx rfl (hb hby at_35) rfl ?_
          show Steps p.tables e below (T68.setTop (mkF m 36 #[iv p1, iv p2, iv (0 : Int32), iv (0 : Int32), iv (3 : Int32), .unset, .unset, .unset] [(.int (0 : Int32)), (.ref b68), (.ref b68)])) _
          exact k
        have ge71 : n0 ≤ b68 := Nat.le_trans (own_old O0) (Nat.le_of_eq g68.symm)
        obtain ⟨_, _, ⟨T72, L72, kk72, nn72⟩, -, X72, ⟨Lc72, hQ72, l72, y72, z72⟩, st72⟩ := X68.specialBack hx (y := (⟨"com/example/stubwright/stubwright/idl/ConstValue$BooleanValue", "<init>", "(Z)V"⟩ : MethodName)) rfl hown (mvT hZ (hw _ (List.mem_of_getElem? (i := 3) rfl))) (mvT hZ (hw _ (List.mem_of_getElem? (i := 4) rfl))) (mvT hZ (hw _ (List.mem_of_getElem? (i := 5) rfl))) (by decide) (backOf (W := 1) (bvInit0 l Z a0 hw [] wC clC G b68 h68 n0 O68 (A68 : Exa Z h68 b68 "com/example/stubwright/stubwright/idl/ConstValue$BooleanValue") (i68_value : Fld Z h68 b68 "com/example/stubwright/stubwright/idl/ConstValue$BooleanValue" "value" "Z" (.int (0 : Int32))) (ge71 : n0 ≤ b68)) hZ (hw _ (List.mem_of_getElem? (i := 5) rfl)) (hw _ (List.mem_of_getElem? (i := 2) rfl)) (by decide) (by decide)) (g := (mkF m 36 #[iv p1, iv p2, iv (0 : Int32), iv (0 : Int32), iv (3 : Int32), .unset, .unset, .unset] [(.int (0 : Int32)), (.ref b68), (.ref b68)])) rfl (by rw [hml]; rfl) (Steps.refl _) (a := b68) (argsL := [(.int (0 : Int32))]) (rest := [(.ref b68)]) (lenOf pd_1 rfl) rfl (by show 2 * 0 + _ ≤ _; exact Nat.le_of_eq rfl) (hb hby at_36) (fun _ _ => ⟨rfl, e68, (by decide : 1 + 0 ≤ _), (by decide : 1 + 0 ≤ _)⟩)
        dsimp only [Pt.U, Pt.locs, Pt.cells, Pt.slots] at X72 l72 y72 z72 st72 hQ72
        subst l72 y72 z72
        obtain ⟨rfl, Nq72, Kq72, po72_0, po72_1⟩ := hQ72
        have N72 := Fr.app N0 Nq72
        have O72 := O68.keep Kq72 (allS ge71 all0)
        have k73 : Way p e below S0 T72 (mkF m 39 #[iv p1, iv p2, iv (0 : Int32), iv (0 : Int32), iv (3 : Int32), .unset, .unset, .unset] [(.ref b68)]) := fun t k => k70 t (st72.trans k)
        have k74 : Way p e below S0 T72 (mkF m 103 #[iv p1, iv p2, iv (0 : Int32), iv (0 : Int32), iv (3 : Int32), rv b68, .unset, .unset] [(.int (0 : Int32))]) := by
          intro t k
          refine k73 t ?_
          refine XS.astore X72.here hx rfl (hb hby at_39) rfl rfl (l' := #[iv p1, iv p2, iv (0 : Int32), iv (0 : Int32), iv (3 : Int32), rv b68, .unset, .unset]) rfl ?_
          show Steps p.tables e below (T72.setTop (mkF m 41 #[iv p1, iv p2, iv (0 : Int32), iv (0 : Int32), iv (3 : Int32), rv b68, .unset, .unset] [])) _
          refine XS.iload X72.here hx rfl (hb hby at_41) rfl ?_
          show Steps p.tables e below (T72.setTop (mkF m 43 #[iv p1, iv p2, iv (0 : Int32), iv (0 : Int32), iv (3 : Int32), rv b68, .unset, .unset] [(.int (3 : Int32))])) _
          refine XS.ifYes X72.here hx rfl (pc0 := 43) (pc' := 59) rfl (hb hby at_43) rfl ((if0 _ _).trans (feq ((by decide) : ¬ ((3 : Int32) = (0 : Int32)))).2) (by decide) (by decide) ?_
          show Steps p.tables e below (T72.setTop (mkF m 59 #[iv p1, iv p2, iv (0 : Int32), iv (0 : Int32), iv (3 : Int32), rv b68, .unset, .unset] [])) _
          refine XS.iload X72.here hx rfl (hb hby at_59) rfl ?_
          show Steps p.tables e below (T72.setTop (mkF m 61 #[iv p1, iv p2, iv (0 : Int32), iv (0 : Int32), iv (3 : Int32), rv b68, .unset, .unset] [(.int (3 : Int32))])) _
          refine XS.iconst X72.here hx rfl (hb hby at_61) ?_
          show Steps p.tables e below (T72.setTop (mkF m 62 #[iv p1, iv p2, iv (0 : Int32), iv (0 : Int32), iv (3 : Int32), rv b68, .unset, .unset] [(.int (1 : Int32)), (.int (3 : Int32))])) _
          refine XS.icmpYes X72.here hx rfl (pc0 := 62) (pc' := 71) rfl (hb hby at_62) rfl (feq ((by decide) : ¬ ((3 : Int32) = (1 : Int32)))).2 (by decide) (by decide) ?_
          show Steps p.tables e below (T72.setTop (mkF m 71 #[iv p1, iv p2, iv (0 : Int32), iv (0 : Int32), iv (3 : Int32), rv b68, .unset, .unset] [])) _
          refine XS.iload X72.here hx rfl (hb hby at_71) rfl ?_
          show Steps p.tables e below (T72.setTop (mkF m 73 #[iv p1, iv p2, iv (0 : Int32), iv (0 : Int32), iv (3 : Int32), rv b68, .unset, .unset] [(.int (3 : Int32))])) _
          refine XS.iconst X72.here hx rfl (hb hby at_73) ?_
          show Steps p.tables e below (T72.setTop (mkF m 74 #[iv p1, iv p2, iv (0 : Int32), iv (0 : Int32), iv (3 : Int32), rv b68, .unset, .unset] [(.int (2 : Int32)), (.int (3 : Int32))])) _
          refine XS.icmpYes X72.here hx rfl (pc0 := 74) (pc' := 94) rfl (hb hby at_74) rfl (feq ((by decide) : ¬ ((3 : Int32) = (2 : Int32)))).2 (by decide) (by decide) ?_
          show Steps p.tables e below (T72.setTop (mkF m 94 #[iv p1, iv p2, iv (0 : Int32), iv (0 : Int32), iv (3 : Int32), rv b68, .unset, .unset] [])) _
          refine XS.iloadN X72.here hx rfl (hb hby at_94) rfl ?_
          show Steps p.tables e below (T72.setTop (mkF m 95 #[iv p1, iv p2, iv (0 : Int32), iv (0 : Int32), iv (3 : Int32), rv b68, .unset, .unset] [(.int (0 : Int32))])) _
          refine XS.ifYes X72.here hx rfl (pc0 := 95) (pc' := 102) rfl (hb hby at_95) rfl ((if0 _ _).trans (teq ((by decide) : (0 : Int32) = (0 : Int32))).1) (by decide) (by decide) ?_
          show Steps p.tables e below (T72.setTop (mkF m 102 #[iv p1, iv p2, iv (0 : Int32), iv (0 : Int32), iv (3 : Int32), rv b68, .unset, .unset] [])) _
          refine XS.iconst X72.here hx rfl (hb hby at_102) ?_
          show Steps p.tables e below (T72.setTop (mkF m 103 #[iv p1, iv p2, iv (0 : Int32), iv (0 : Int32), iv (3 : Int32), rv b68, .unset, .unset] [(.int (0 : Int32))])) _
          exact k
        obtain ⟨_, _, ⟨T75, L75, kk75, nn75⟩, -, X75, ⟨Lc75, hQ75, l75, y75, z75⟩, st75⟩ := Jvm.LawKit.callS X72 hx (y := (⟨"java/lang/Integer", "valueOf", "(I)Ljava/lang/Integer;"⟩ : MethodName)) hown (mvT hZ (hw _ (List.mem_of_getElem? (i := 23) rfl))) (mvT hZ (hw _ (List.mem_of_getElem? (i := 24) rfl))) (mvT hZ (hw _ (List.mem_of_getElem? (i := 25) rfl))) (mvT hZ (hw _ (List.mem_of_getElem? (i := 26) rfl))) (by decide) (backOf (W := 0) (vofOld l Z a0 hw [] wC clC G (0 : Int32) T72.heap n0 O72 (by decide : ¬ ((0 : Int32) < (-128 : Int32))) (by decide : ¬ ((127 : Int32) < (0 : Int32)))) hZ (hw _ (List.mem_of_getElem? (i := 26) rfl)) (hw _ (List.mem_of_getElem? (i := 25) rfl)) (by decide) (by decide)) (g := (mkF m 103 #[iv p1, iv p2, iv (0 : Int32), iv (0 : Int32), iv (3 : Int32), rv b68, .unset, .unset] [(.int (0 : Int32))])) rfl (by rw [hml]; rfl) (argsL := [(.int (0 : Int32))]) (rest := []) (lenOf pd_4 rfl) rfl (by show 2 * 0 + _ ≤ _; exact Nat.le_of_eq rfl) (hb hby at_103) (fun _ _ => ⟨rfl, rfl, (by decide : 1 + 0 ≤ _), (by decide : 1 + 0 ≤ _)⟩)
        dsimp only [Pt.U, Pt.locs, Pt.cells, Pt.slots] at X75 l75 y75 z75 st75 hQ75
        subst l75 y75 z75
        obtain ⟨y1_75, rfl, Nq75, e75, po75_0⟩ := hQ75
        have N75 := Fr.app N72 Nq75
        rw [e75] at po75_0
        have k76 : Way p e below S0 T75 (mkF m 106 #[iv p1, iv p2, iv (0 : Int32), iv (0 : Int32), iv (3 : Int32), rv b68, .unset, .unset] [(.ref y1_75)]) := fun t k => k74 t (st75 _ k)
        have k77 : Way p e below S0 T75 (mkF m 129 #[iv p1, iv p2, iv (0 : Int32), iv (0 : Int32), iv (3 : Int32), rv b68, rv y1_75, iv (0 : Int32)] [(.ref y1_75), (.ref b68)]) := by
          intro t k
          refine k76 t ?_
          refine XS.astore X75.here hx rfl (hb hby at_106) rfl rfl (l' := #[iv p1, iv p2, iv (0 : Int32), iv (0 : Int32), iv (3 : Int32), rv b68, rv y1_75, .unset]) rfl ?_
          show Steps p.tables e below (T75.setTop (mkF m 108 #[iv p1, iv p2, iv (0 : Int32), iv (0 : Int32), iv (3 : Int32), rv b68, rv y1_75, .unset] [])) _
          refine XS.iload X75.here hx rfl (hb hby at_108) rfl ?_
          show Steps p.tables e below (T75.setTop (mkF m 110 #[iv p1, iv p2, iv (0 : Int32), iv (0 : Int32), iv (3 : Int32), rv b68, rv y1_75, .unset] [(.int (3 : Int32))])) _
          refine XS.ifYes X75.here hx rfl (pc0 := 110) (pc' := 122) rfl (hb hby at_110) rfl ((if0 _ _).trans (feq ((by decide) : ¬ ((3 : Int32) = (0 : Int32)))).2) (by decide) (by decide) ?_
          show Steps p.tables e below (T75.setTop (mkF m 122 #[iv p1, iv p2, iv (0 : Int32), iv (0 : Int32), iv (3 : Int32), rv b68, rv y1_75, .unset] [])) _
          refine XS.iconst X75.here hx rfl (hb hby at_122) ?_
          show Steps p.tables e below (T75.setTop (mkF m 123 #[iv p1, iv p2, iv (0 : Int32), iv (0 : Int32), iv (3 : Int32), rv b68, rv y1_75, .unset] [(.int (0 : Int32))])) _
          refine XS.istore X75.here hx rfl (hb hby at_123) rfl (l' := #[iv p1, iv p2, iv (0 : Int32), iv (0 : Int32), iv (3 : Int32), rv b68, rv y1_75, iv (0 : Int32)]) rfl ?_
          show Steps p.tables e below (T75.setTop (mkF m 125 #[iv p1, iv p2, iv (0 : Int32), iv (0 : Int32), iv (3 : Int32), rv b68, rv y1_75, iv (0 : Int32)] [])) _
          refine XS.aload X75.here hx rfl (hb hby at_125) rfl rfl ?_
          show Steps p.tables e below (T75.setTop (mkF m 127 #[iv p1, iv p2, iv (0 : Int32), iv (0 : Int32), iv (3 : Int32), rv b68, rv y1_75, iv (0 : Int32)] [(.ref b68)])) _
          refine XS.aload X75.here hx rfl (hb hby at_127) rfl rfl ?_
          show Steps p.tables e below (T75.setTop (mkF m 129 #[iv p1, iv p2, iv (0 : Int32), iv (0 : Int32), iv (3 : Int32), rv b68, rv y1_75, iv (0 : Int32)] [(.ref y1_75), (.ref b68)])) _
          exact k
        obtain ⟨cq78, kq78, qq78a, qq78b, qq78c⟩ := isOf hZ e75 po72_0
        obtain ⟨_, _, ⟨T78, L78, kk78, nn78⟩, -, X78, ⟨Lc78, hQ78, l78, y78, z78⟩, st78⟩ := X75.virtualBack hx (y := (⟨"com/example/stubwright/stubwright/idl/ConstValue$BooleanValue", "equals", "(Ljava/lang/Object;)Z"⟩ : MethodName)) (z := (⟨"com/example/stubwright/stubwright/idl/ConstValue$BooleanValue", "equals", "(Ljava/lang/Object;)Z"⟩ : MethodName)) hown (mvT hZ (hw _ (List.mem_of_getElem? (i := 16) rfl))) (mvT hZ (hw _ (List.mem_of_getElem? (i := 17) rfl))) (notFace_of_selects (args := #[]) (mvT hZ (hw _ (List.mem_of_getElem? (i := 19) rfl)))) (mvT hZ (hw _ (List.mem_of_getElem? (i := 19) rfl))) (mvT hZ (hw _ (List.mem_of_getElem? (i := 18) rfl))) (by decide) (backOf (W := 0) (eqOther1 l Z a0 hw [] wC clC G b68 y1_75 T72.heap n0 O72 (po75_0 : Exa Z T72.heap y1_75 "java/lang/Integer")) hZ (hw _ (List.mem_of_getElem? (i := 20) rfl)) (hw _ (List.mem_of_getElem? (i := 2) rfl)) (by decide) (by decide)) qq78a qq78c (g := (mkF m 129 #[iv p1, iv p2, iv (0 : Int32), iv (0 : Int32), iv (3 : Int32), rv b68, rv y1_75, iv (0 : Int32)] [(.ref y1_75), (.ref b68)])) rfl (by rw [hml]; rfl) (Steps.refl _) (argsL := [(.ref y1_75)]) (rest := []) (lenOf pd_2 rfl) rfl (by show 2 * 0 + _ ≤ _; exact Nat.le_of_eq rfl) (hb hby at_129) (fun _ _ => ⟨rfl, e75, (by decide : 1 + 0 ≤ _), (by decide : 1 + 0 ≤ _)⟩)
        dsimp only [Pt.U, Pt.locs, Pt.cells, Pt.slots] at X78 l78 y78 z78 st78 hQ78
        subst l78 y78 z78
        obtain ⟨rfl, Nq78, e78⟩ := hQ78
        have N78 := Fr.app N75 Nq78
        have k79 : Way p e below S0 T78 (mkF m 132 #[iv p1, iv p2, iv (0 : Int32), iv (0 : Int32), iv (3 : Int32), rv b68, rv y1_75, iv (0 : Int32)] [(.int (0 : Int32))]) := fun t k => k77 t (st78.trans k)
        have k80 : Way p e below S0 T78 (mkF m 141 #[iv p1, iv p2, iv (0 : Int32), iv (0 : Int32), iv (3 : Int32), rv b68, rv y1_75, iv (0 : Int32)] [(.ref b68), (.ref b68)]) := by
          intro t k
          refine k79 t ?_
          refine XS.iload X78.here hx rfl (hb hby at_132) rfl ?_
          show Steps p.tables e below (T78.setTop (mkF m 134 #[iv p1, iv p2, iv (0 : Int32), iv (0 : Int32), iv (3 : Int32), rv b68, rv y1_75, iv (0 : Int32)] [(.int (0 : Int32)), (.int (0 : Int32))])) _
          refine XS.icmpNo X78.here hx rfl (hb hby at_134) rfl (teq ((by decide) : (0 : Int32) = (0 : Int32))).2 ?_
          show Steps p.tables e below (T78.setTop (mkF m 137 #[iv p1, iv p2, iv (0 : Int32), iv (0 : Int32), iv (3 : Int32), rv b68, rv y1_75, iv (0 : Int32)] [])) _
          refine XS.aload X78.here hx rfl (hb hby at_137) rfl rfl ?_
          show Steps p.tables e below (T78.setTop (mkF m 139 #[iv p1, iv p2, iv (0 : Int32), iv (0 : Int32), iv (3 : Int32), rv b68, rv y1_75, iv (0 : Int32)] [(.ref b68)])) _
          refine XS.aload X78.here hx rfl (hb hby at_139) rfl rfl ?_
          show Steps p.tables e below (T78.setTop (mkF m 141 #[iv p1, iv p2, iv (0 : Int32), iv (0 : Int32), iv (3 : Int32), rv b68, rv y1_75, iv (0 : Int32)] [(.ref b68), (.ref b68)])) _
          exact k
        obtain ⟨cq81, kq81, qq81a, qq81b, qq81c⟩ := isOf hZ e78 po72_0
        obtain ⟨_, _, ⟨T81, L81, kk81, nn81⟩, -, X81, ⟨Lc81, hQ81, l81, y81, z81⟩, st81⟩ := X78.virtualBack hx (y := (⟨"com/example/stubwright/stubwright/idl/ConstValue$BooleanValue", "equals", "(Ljava/lang/Object;)Z"⟩ : MethodName)) (z := (⟨"com/example/stubwright/stubwright/idl/ConstValue$BooleanValue", "equals", "(Ljava/lang/Object;)Z"⟩ : MethodName)) hown (mvT hZ (hw _ (List.mem_of_getElem? (i := 16) rfl))) (mvT hZ (hw _ (List.mem_of_getElem? (i := 17) rfl))) (notFace_of_selects (args := #[]) (mvT hZ (hw _ (List.mem_of_getElem? (i := 19) rfl)))) (mvT hZ (hw _ (List.mem_of_getElem? (i := 19) rfl))) (mvT hZ (hw _ (List.mem_of_getElem? (i := 18) rfl))) (by decide) (backOf (W := 0) (eq00 l Z a0 hw [] wC clC G b68 b68 T72.heap n0 O72 (po72_0 : Exa Z T72.heap b68 "com/example/stubwright/stubwright/idl/ConstValue$BooleanValue") (po72_1 : Fld Z T72.heap b68 "com/example/stubwright/stubwright/idl/ConstValue$BooleanValue" "value" "Z" (.int (0 : Int32))) (po72_1 : Fld Z T72.heap b68 "com/example/stubwright/stubwright/idl/ConstValue$BooleanValue" "value" "Z" (.int (0 : Int32)))) hZ (hw _ (List.mem_of_getElem? (i := 20) rfl)) (hw _ (List.mem_of_getElem? (i := 2) rfl)) (by decide) (by decide)) qq81a qq81c (g := (mkF m 141 #[iv p1, iv p2, iv (0 : Int32), iv (0 : Int32), iv (3 : Int32), rv b68, rv y1_75, iv (0 : Int32)] [(.ref b68), (.ref b68)])) rfl (by rw [hml]; rfl) (Steps.refl _) (argsL := [(.ref b68)]) (rest := []) (lenOf pd_2 rfl) rfl (by show 2 * 0 + _ ≤ _; exact Nat.le_of_eq rfl) (hb hby at_141) (fun _ _ => ⟨rfl, e78, (by decide : 1 + 0 ≤ _), (by decide : 1 + 0 ≤ _)⟩)
        dsimp only [Pt.U, Pt.locs, Pt.cells, Pt.slots] at X81 l81 y81 z81 st81 hQ81
        subst l81 y81 z81
        obtain ⟨rfl, Nq81, e81⟩ := hQ81
        have N81 := Fr.app N78 Nq81
        have k82 : Way p e below S0 T81 (mkF m 144 #[iv p1, iv p2, iv (0 : Int32), iv (0 : Int32), iv (3 : Int32), rv b68, rv y1_75, iv (0 : Int32)] [(.int (1 : Int32))]) := fun t k => k80 t (st81.trans k)
        have k83 : Way p e below S0 T81 (mkF m 152 #[iv p1, iv p2, iv (0 : Int32), iv (0 : Int32), iv (3 : Int32), rv b68, rv y1_75, iv (0 : Int32)] [(.int (1 : Int32))]) := by
          intro t k
          refine k82 t ?_
          refine XS.ifNo X81.here hx rfl (hb hby at_144) rfl ((if0 _ _).trans (feq ((by decide) : ¬ ((1 : Int32) = (0 : Int32)))).1) ?_
          show Steps p.tables e below (T81.setTop (mkF m 147 #[iv p1, iv p2, iv (0 : Int32), iv (0 : Int32), iv (3 : Int32), rv b68, rv y1_75, iv (0 : Int32)] [])) _
          refine XS.iconst X81.here hx rfl (hb hby at_147) ?_
          show Steps p.tables e below (T81.setTop (mkF m 148 #[iv p1, iv p2, iv (0 : Int32), iv (0 : Int32), iv (3 : Int32), rv b68, rv y1_75, iv (0 : Int32)] [(.int (1 : Int32))])) _
          refine XS.goto X81.here hx rfl (pc0 := 148) (pc' := 152) rfl (hb hby at_148) (by decide) (by decide) ?_
          show Steps p.tables e below (T81.setTop (mkF m 152 #[iv p1, iv p2, iv (0 : Int32), iv (0 : Int32), iv (3 : Int32), rv b68, rv y1_75, iv (0 : Int32)] [(.int (1 : Int32))])) _
          exact k
        obtain ⟨fs, hr, hrun, hended, hW, hsame⟩ := X81.leave (v := some (.int (1 : Int32))) (fun h => by rw [Bd.returns] at h; cases h)
        refine ⟨_, _, k83 _ (retN X81 hx (t := .boolean) Bd.returns (by simp) (hb hby at_152) hr), hrun, hended, _, _, rfl, ?_, ⟨_, rfl⟩, hW, hsame.mono (by decide) (by decide)⟩
        show Q_law_met Z wC clC p1 p2 h0 n0 _ T81.heap _
        rw [e81]
        exact ⟨rfl, N81⟩
    · have k84 : Way p e below S0 s₁ (mkF m 31 #[iv p1, iv p2, iv (0 : Int32), iv (1 : Int32), iv (((p1.toUInt32 >>> ((2 : Int32) &&& 31).toUInt32).toInt32) &&& (3 : Int32)), .unset, .unset, .unset] []) := by
        intro t k
        refine k4 t ?_
        refine XS.ifNo X0.here hx rfl (hb hby at_15) rfl ((if0 _ _).trans (feq (hc3 : ¬ ((p1 &&& (2 : Int32)) = (0 : Int32)))).1) ?_
        show Steps p.tables e below (s₁.setTop (mkF m 18 #[iv p1, iv p2, iv (0 : Int32), .unset, .unset, .unset, .unset, .unset] [])) _
        refine XS.iconst X0.here hx rfl (hb hby at_18) ?_
        show Steps p.tables e below (s₁.setTop (mkF m 19 #[iv p1, iv p2, iv (0 : Int32), .unset, .unset, .unset, .unset, .unset] [(.int (1 : Int32))])) _
        refine XS.goto X0.here hx rfl (pc0 := 19) (pc' := 23) rfl (hb hby at_19) (by decide) (by decide) ?_
        show Steps p.tables e below (s₁.setTop (mkF m 23 #[iv p1, iv p2, iv (0 : Int32), .unset, .unset, .unset, .unset, .unset] [(.int (1 : Int32))])) _
        refine XS.istoreN X0.here hx rfl (hb hby at_23) rfl (l' := #[iv p1, iv p2, iv (0 : Int32), iv (1 : Int32), .unset, .unset, .unset, .unset]) rfl ?_
        show Steps p.tables e below (s₁.setTop (mkF m 24 #[iv p1, iv p2, iv (0 : Int32), iv (1 : Int32), .unset, .unset, .unset, .unset] [])) _
        refine XS.iloadN X0.here hx rfl (hb hby at_24) rfl ?_
        show Steps p.tables e below (s₁.setTop (mkF m 25 #[iv p1, iv p2, iv (0 : Int32), iv (1 : Int32), .unset, .unset, .unset, .unset] [(.int p1)])) _
        refine XS.iconst X0.here hx rfl (hb hby at_25) ?_
        show Steps p.tables e below (s₁.setTop (mkF m 26 #[iv p1, iv p2, iv (0 : Int32), iv (1 : Int32), .unset, .unset, .unset, .unset] [(.int (2 : Int32)), (.int p1)])) _
        refine XS.iushr X0.here hx rfl (hb hby at_26) rfl ?_
        show Steps p.tables e below (s₁.setTop (mkF m 27 #[iv p1, iv p2, iv (0 : Int32), iv (1 : Int32), .unset, .unset, .unset, .unset] [(.int ((p1.toUInt32 >>> ((2 : Int32) &&& 31).toUInt32).toInt32))])) _
        refine XS.iconst X0.here hx rfl (hb hby at_27) ?_
        show Steps p.tables e below (s₁.setTop (mkF m 28 #[iv p1, iv p2, iv (0 : Int32), iv (1 : Int32), .unset, .unset, .unset, .unset] [(.int (3 : Int32)), (.int ((p1.toUInt32 >>> ((2 : Int32) &&& 31).toUInt32).toInt32))])) _
        refine XS.iand X0.here hx rfl (hb hby at_28) rfl ?_
        show Steps p.tables e below (s₁.setTop (mkF m 29 #[iv p1, iv p2, iv (0 : Int32), iv (1 : Int32), .unset, .unset, .unset, .unset] [(.int (((p1.toUInt32 >>> ((2 : Int32) &&& 31).toUInt32).toInt32) &&& (3 : Int32)))])) _
        refine XS.istore X0.here hx rfl (hb hby at_29) rfl (l' := #[iv p1, iv p2, iv (0 : Int32), iv (1 : Int32), iv (((p1.toUInt32 >>> ((2 : Int32) &&& 31).toUInt32).toInt32) &&& (3 : Int32)), .unset, .unset, .unset]) rfl ?_
        show Steps p.tables e below (s₁.setTop (mkF m 31 #[iv p1, iv p2, iv (0 : Int32), iv (1 : Int32), iv (((p1.toUInt32 >>> ((2 : Int32) &&& 31).toUInt32).toInt32) &&& (3 : Int32)), .unset, .unset, .unset] [])) _
        exact k
      have hr85 : (((p1.toUInt32 >>> ((2 : Int32) &&& 31).toUInt32).toInt32) &&& (3 : Int32)) = (0 : Int32) ∨ (((p1.toUInt32 >>> ((2 : Int32) &&& 31).toUInt32).toInt32) &&& (3 : Int32)) = (1 : Int32) ∨ (((p1.toUInt32 >>> ((2 : Int32) &&& 31).toUInt32).toInt32) &&& (3 : Int32)) = (2 : Int32) ∨ (((p1.toUInt32 >>> ((2 : Int32) &&& 31).toUInt32).toInt32) &&& (3 : Int32)) = (3 : Int32) := own_mask3 _
      rcases hr85 with hi85 | hi85 | hi85 | hi85
      · have k86 : Way p e below S0 s₁ (mkF m 31 #[iv p1, iv p2, iv (0 : Int32), iv (1 : Int32), iv (0 : Int32), .unset, .unset, .unset] []) := by have q := k84; rw [hi85] at q; exact q
        obtain ⟨T87, h87, X87, e87, E87, A87, D87, U87, st87⟩ := newO X0 hx hZ hown (hw _ (List.mem_of_getElem? (i := 0) rfl)) (hw _ (List.mem_of_getElem? (i := 1) rfl)) (hw _ (List.mem_of_getElem? (i := 2) rfl)) e0 (g := (mkF m 31 #[iv p1, iv p2, iv (0 : Int32), iv (1 : Int32), iv (0 : Int32), .unset, .unset, .unset] [])) rfl (hb hby at_31) (by decide) (by decide)
        obtain ⟨b87, g87⟩ : ∃ z, z = h0.size := ⟨_, rfl⟩
        rw [← g87] at A87 D87 U87 st87
        have O87 := O0.ext E87
        have i87_value : Fld Z h87 b87 "com/example/stubwright/stubwright/idl/ConstValue$BooleanValue" "value" "Z" (.int (0 : Int32)) := D87 (Or.inr (hw _ (List.mem_of_getElem? (i := 15) rfl))) (ty := .boolean) (by decide)
        have k88 : Way p e below S0 T87 (mkF m 34 #[iv p1, iv p2, iv (0 : Int32), iv (1 : Int32), iv (0 : Int32), .unset, .unset, .unset] [(.ref b87)]) := fun t k => k86 t (st87 _ k)
        have k89 : Way p e below S0 T87 (mkF m 36 #[iv p1, iv p2, iv (0 : Int32), iv (1 : Int32), iv (0 : Int32), .unset, .unset, .unset] [(.int (0 : Int32)), (.ref b87), (.ref b87)]) := by
          intro t k
          refine k88 t ?_
          refine XS.dup X87.here hx rfl (hb hby at_34) rfl rfl ?_
          show Steps p.tables e below (T87.setTop (mkF m 35 #[iv p1, iv p2, iv (0 : Int32), iv (1 : Int32), iv (0 : Int32), .unset, .unset, .unset] [(.ref b87), (.ref b87)])) _
          refine XS.iloadN X87.here hx rfl (hb hby at_35) rfl ?_
          show Steps p.tables e below (T87.setTop (mkF m 36 #[iv p1, iv p2, iv (0 : Int32), iv (1 : Int32), iv (0 : Int32), .unset, .unset, .unset] [(.int (0 : Int32)), (.ref b87), (.ref b87)])) _
          exact k
        have ge90 : n0 ≤ b87 := Nat.le_trans (own_old O0) (Nat.le_of_eq g87.symm)
        obtain ⟨_, _, ⟨T91, L91, kk91, nn91⟩, -, X91, ⟨Lc91, hQ91, l91, y91, z91⟩, st91⟩ := X87.specialBack hx (y := (⟨"com/example/stubwright/stubwright/idl/ConstValue$BooleanValue", "<init>", "(Z)V"⟩ : MethodName)) rfl hown (mvT hZ (hw _ (List.mem_of_getElem? (i := 3) rfl))) (mvT hZ (hw _ (List.mem_of_getElem? (i := 4) rfl))) (mvT hZ (hw _ (List.mem_of_getElem? (i := 5) rfl))) (by decide) (backOf (W := 1) (bvInit0 l Z a0 hw [] wC clC G b87 h87 n0 O87 (A87 : Exa Z h87 b87 "com/example/stubwright/stubwright/idl/ConstValue$BooleanValue") (i87_value : Fld Z h87 b87 "com/example/stubwright/stubwright/idl/ConstValue$BooleanValue" "value" "Z" (.int (0 : Int32))) (ge90 : n0 ≤ b87)) hZ (hw _ (List.mem_of_getElem? (i := 5) rfl)) (hw _ (List.mem_of_getElem? (i := 2) rfl)) (by decide) (by decide)) (g := (mkF m 36 #[iv p1, iv p2, iv (0 : Int32), iv (1 : Int32), iv (0 : Int32), .unset, .unset, .unset] [(.int (0 : Int32)), (.ref b87), (.ref b87)])) rfl (by rw [hml]; rfl) (Steps.refl _) (a := b87) (argsL := [(.int (0 : Int32))]) (rest := [(.ref b87)]) (lenOf pd_1 rfl) rfl (by show 2 * 0 + _ ≤ _; exact Nat.le_of_eq rfl) (hb hby at_36) (fun _ _ => ⟨rfl, e87, (by decide : 1 + 0 ≤ _), (by decide : 1 + 0 ≤ _)⟩)
        dsimp only [Pt.U, Pt.locs, Pt.cells, Pt.slots] at X91 l91 y91 z91 st91 hQ91
        subst l91 y91 z91
        obtain ⟨rfl, Nq91, Kq91, po91_0, po91_1⟩ := hQ91
        have N91 := Fr.app N0 Nq91
        have O91 := O87.keep Kq91 (allS ge90 all0)
        have k92 : Way p e below S0 T91 (mkF m 39 #[iv p1, iv p2, iv (0 : Int32), iv (1 : Int32), iv (0 : Int32), .unset, .unset, .unset] [(.ref b87)]) := fun t k => k89 t (st91.trans k)
        have k93 : Way p e below S0 T91 (mkF m 46 #[iv p1, iv p2, iv (0 : Int32), iv (1 : Int32), iv (0 : Int32), rv b87, .unset, .unset] []) := by
          intro t k
          refine k92 t ?_
          refine XS.astore X91.here hx rfl (hb hby at_39) rfl rfl (l' := #[iv p1, iv p2, iv (0 : Int32), iv (1 : Int32), iv (0 : Int32), rv b87, .unset, .unset]) rfl ?_
          show Steps p.tables e below (T91.setTop (mkF m 41 #[iv p1, iv p2, iv (0 : Int32), iv (1 : Int32), iv (0 : Int32), rv b87, .unset, .unset] [])) _
          refine XS.iload X91.here hx rfl (hb hby at_41) rfl ?_
          show Steps p.tables e below (T91.setTop (mkF m 43 #[iv p1, iv p2, iv (0 : Int32), iv (1 : Int32), iv (0 : Int32), rv b87, .unset, .unset] [(.int (0 : Int32))])) _
          refine XS.ifNo X91.here hx rfl (hb hby at_43) rfl ((if0 _ _).trans (teq ((by decide) : (0 : Int32) = (0 : Int32))).2) ?_
          show Steps p.tables e below (T91.setTop (mkF m 46 #[iv p1, iv p2, iv (0 : Int32), iv (1 : Int32), iv (0 : Int32), rv b87, .unset, .unset] [])) _
          exact k
        obtain ⟨T94, h94, X94, e94, E94, A94, D94, U94, st94⟩ := newO X91 hx hZ hown (hw _ (List.mem_of_getElem? (i := 0) rfl)) (hw _ (List.mem_of_getElem? (i := 1) rfl)) (hw _ (List.mem_of_getElem? (i := 2) rfl)) rfl (g := (mkF m 46 #[iv p1, iv p2, iv (0 : Int32), iv (1 : Int32), iv (0 : Int32), rv b87, .unset, .unset] [])) rfl (hb hby at_46) (by decide) (by decide)
        obtain ⟨b94, g94⟩ : ∃ z, z = T91.heap.size := ⟨_, rfl⟩
        rw [← g94] at A94 D94 U94 st94
        have O94 := O91.ext E94
        have i94_value : Fld Z h94 b94 "com/example/stubwright/stubwright/idl/ConstValue$BooleanValue" "value" "Z" (.int (0 : Int32)) := D94 (Or.inr (hw _ (List.mem_of_getElem? (i := 15) rfl))) (ty := .boolean) (by decide)
        have k95 : Way p e below S0 T94 (mkF m 49 #[iv p1, iv p2, iv (0 : Int32), iv (1 : Int32), iv (0 : Int32), rv b87, .unset, .unset] [(.ref b94)]) := fun t k => k93 t (st94 _ k)
        have k96 : Way p e below S0 T94 (mkF m 51 #[iv p1, iv p2, iv (0 : Int32), iv (1 : Int32), iv (0 : Int32), rv b87, .unset, .unset] [(.int (1 : Int32)), (.ref b94), (.ref b94)]) := by
          intro t k
          refine k95 t ?_
          refine XS.dup X94.here hx rfl (hb hby at_49) rfl rfl ?_
          show Steps p.tables e below (T94.setTop (mkF m 50 #[iv p1, iv p2, iv (0 : Int32), iv (1 : Int32), iv (0 : Int32), rv b87, .unset, .unset] [(.ref b94), (.ref b94)])) _
          refine XS.iloadN X94.here hx rfl (hb hby at_50) rfl ?_
          show Steps p.tables e below (T94.setTop (mkF m 51 #[iv p1, iv p2, iv (0 : Int32), iv (1 : Int32), iv (0 : Int32), rv b87, .unset, .unset] [(.int (1 : Int32)), (.ref b94), (.ref b94)])) _
          exact k
        have ge97 : n0 ≤ b94 := Nat.le_trans (own_old O91) (Nat.le_of_eq g94.symm)
        obtain ⟨_, _, ⟨T98, L98, kk98, nn98⟩, -, X98, ⟨Lc98, hQ98, l98, y98, z98⟩, st98⟩ := X94.specialBack hx (y := (⟨"com/example/stubwright/stubwright/idl/ConstValue$BooleanValue", "<init>", "(Z)V"⟩ : MethodName)) rfl hown (mvT hZ (hw _ (List.mem_of_getElem? (i := 3) rfl))) (mvT hZ (hw _ (List.mem_of_getElem? (i := 4) rfl))) (mvT hZ (hw _ (List.mem_of_getElem? (i := 5) rfl))) (by decide) (backOf (W := 1) (bvInit1 l Z a0 hw [] wC clC G b94 h94 n0 O94 (A94 : Exa Z h94 b94 "com/example/stubwright/stubwright/idl/ConstValue$BooleanValue") (i94_value : Fld Z h94 b94 "com/example/stubwright/stubwright/idl/ConstValue$BooleanValue" "value" "Z" (.int (0 : Int32))) (ge97 : n0 ≤ b94)) hZ (hw _ (List.mem_of_getElem? (i := 5) rfl)) (hw _ (List.mem_of_getElem? (i := 2) rfl)) (by decide) (by decide)) (g := (mkF m 51 #[iv p1, iv p2, iv (0 : Int32), iv (1 : Int32), iv (0 : Int32), rv b87, .unset, .unset] [(.int (1 : Int32)), (.ref b94), (.ref b94)])) rfl (by rw [hml]; rfl) (Steps.refl _) (a := b94) (argsL := [(.int (1 : Int32))]) (rest := [(.ref b94)]) (lenOf pd_1 rfl) rfl (by show 2 * 0 + _ ≤ _; exact Nat.le_of_eq rfl) (hb hby at_51) (fun _ _ => ⟨rfl, e94, (by decide : 2 + 0 ≤ _), (by decide : 2 + 0 ≤ _)⟩)
        dsimp only [Pt.U, Pt.locs, Pt.cells, Pt.slots] at X98 l98 y98 z98 st98 hQ98
        subst l98 y98 z98
        obtain ⟨rfl, Nq98, Kq98, po98_0, po98_1⟩ := hQ98
        have N98 := Fr.app N91 Nq98
        have O98 := O94.keep Kq98 (allS ge97 all0)
        have k99 : Way p e below S0 T98 (mkF m 54 #[iv p1, iv p2, iv (0 : Int32), iv (1 : Int32), iv (0 : Int32), rv b87, .unset, .unset] [(.ref b94)]) := fun t k => k96 t (st98.trans k)
        have k100 : Way p e below S0 T98 (mkF m 129 #[iv p1, iv p2, iv (0 : Int32), iv (1 : Int32), iv (0 : Int32), rv b87, rv b94, iv (0 : Int32)] [(.ref b94), (.ref b87)]) := by
          intro t k
          refine k99 t ?_
          refine XS.astore X98.here hx rfl (hb hby at_54) rfl rfl (l' := #[iv p1, iv p2, iv (0 : Int32), iv (1 : Int32), iv (0 : Int32), rv b87, rv b94, .unset]) rfl ?_
          show Steps p.tables e below (T98.setTop (mkF m 56 #[iv p1, iv p2, iv (0 : Int32), iv (1 : Int32), iv (0 : Int32), rv b87, rv b94, .unset] [])) _
          refine XS.goto X98.here hx rfl (pc0 := 56) (pc' := 108) rfl (hb hby at_56) (by decide) (by decide) ?_
          show Steps p.tables e below (T98.setTop (mkF m 108 #[iv p1, iv p2, iv (0 : Int32), iv (1 : Int32), iv (0 : Int32), rv b87, rv b94, .unset] [])) _
          refine XS.iload X98.here hx rfl (hb hby at_108) rfl ?_
          show Steps p.tables e below (T98.setTop (mkF m 110 #[iv p1, iv p2, iv (0 : Int32), iv (1 : Int32), iv (0 : Int32), rv b87, rv b94, .unset] [(.int (0 : Int32))])) _
          refine XS.ifNo X98.here hx rfl (hb hby at_110) rfl ((if0 _ _).trans (teq ((by decide) : (0 : Int32) = (0 : Int32))).2) ?_
          show Steps p.tables e below (T98.setTop (mkF m 113 #[iv p1, iv p2, iv (0 : Int32), iv (1 : Int32), iv (0 : Int32), rv b87, rv b94, .unset] [])) _
          refine XS.iloadN X98.here hx rfl (hb hby at_113) rfl ?_
          show Steps p.tables e below (T98.setTop (mkF m 114 #[iv p1, iv p2, iv (0 : Int32), iv (1 : Int32), iv (0 : Int32), rv b87, rv b94, .unset] [(.int (0 : Int32))])) _
          refine XS.iloadN X98.here hx rfl (hb hby at_114) rfl ?_
          show Steps p.tables e below (T98.setTop (mkF m 115 #[iv p1, iv p2, iv (0 : Int32), iv (1 : Int32), iv (0 : Int32), rv b87, rv b94, .unset] [(.int (1 : Int32)), (.int (0 : Int32))])) _
          refine XS.icmpYes X98.here hx rfl (pc0 := 115) (pc' := 122) rfl (hb hby at_115) rfl (feq ((by decide) : ¬ ((0 : Int32) = (1 : Int32)))).2 (by decide) (by decide) ?_
          show Steps p.tables e below (T98.setTop (mkF m 122 #[iv p1, iv p2, iv (0 : Int32), iv (1 : Int32), iv (0 : Int32), rv b87, rv b94, .unset] [])) _
          refine XS.iconst X98.here hx rfl (hb hby at_122) ?_
          show Steps p.tables e below (T98.setTop (mkF m 123 #[iv p1, iv p2, iv (0 : Int32), iv (1 : Int32), iv (0 : Int32), rv b87, rv b94, .unset] [(.int (0 : Int32))])) _
          refine XS.istore X98.here hx rfl (hb hby at_123) rfl (l' := #[iv p1, iv p2, iv (0 : Int32), iv (1 : Int32), iv (0 : Int32), rv b87, rv b94, iv (0 : Int32)]) rfl ?_
          show Steps p.tables e below (T98.setTop (mkF m 125 #[iv p1, iv p2, iv (0 : Int32), iv (1 : Int32), iv (0 : Int32), rv b87, rv b94, iv (0 : Int32)] [])) _
          refine XS.aload X98.here hx rfl (hb hby at_125) rfl rfl ?_
          show Steps p.tables e below (T98.setTop (mkF m 127 #[iv p1, iv p2, iv (0 : Int32), iv (1 : Int32), iv (0 : Int32), rv b87, rv b94, iv (0 : Int32)] [(.ref b87)])) _
          refine XS.aload X98.here hx rfl (hb hby at_127) rfl rfl ?_
          show Steps p.tables e below (T98.setTop (mkF m 129 #[iv p1, iv p2, iv (0 : Int32), iv (1 : Int32), iv (0 : Int32), rv b87, rv b94, iv (0 : Int32)] [(.ref b94), (.ref b87)])) _
          exact k
        have f101 : Fld Z T98.heap b87 "com/example/stubwright/stubwright/idl/ConstValue$BooleanValue" "value" "Z" (.int (0 : Int32)) := ((po91_1.ext E94).keep Kq98 (ninS (Nat.ne_of_lt (Nat.lt_of_lt_of_le po91_0.lt (Nat.le_of_eq g94.symm))) nin0))
        have f103 : Exa Z T98.heap b87 "com/example/stubwright/stubwright/idl/ConstValue$BooleanValue" := ((po91_0.ext E94).keep Kq98)
        obtain ⟨cq102, kq102, qq102a, qq102b, qq102c⟩ := isOf hZ rfl f103
        obtain ⟨_, _, ⟨T102, L102, kk102, nn102⟩, -, X102, ⟨Lc102, hQ102, l102, y102, z102⟩, st102⟩ := X98.virtualBack hx (y := (⟨"com/example/stubwright/stubwright/idl/ConstValue$BooleanValue", "equals", "(Ljava/lang/Object;)Z"⟩ : MethodName)) (z := (⟨"com/example/stubwright/stubwright/idl/ConstValue$BooleanValue", "equals", "(Ljava/lang/Object;)Z"⟩ : MethodName)) hown (mvT hZ (hw _ (List.mem_of_getElem? (i := 16) rfl))) (mvT hZ (hw _ (List.mem_of_getElem? (i := 17) rfl))) (notFace_of_selects (args := #[]) (mvT hZ (hw _ (List.mem_of_getElem? (i := 19) rfl)))) (mvT hZ (hw _ (List.mem_of_getElem? (i := 19) rfl))) (mvT hZ (hw _ (List.mem_of_getElem? (i := 18) rfl))) (by decide) (backOf (W := 0) (eq01 l Z a0 hw [] wC clC G b87 b94 T98.heap n0 O98 (po98_0 : Exa Z T98.heap b94 "com/example/stubwright/stubwright/idl/ConstValue$BooleanValue") (f101 : Fld Z T98.heap b87 "com/example/stubwright/stubwright/idl/ConstValue$BooleanValue" "value" "Z" (.int (0 : Int32))) (po98_1 : Fld Z T98.heap b94 "com/example/stubwright/stubwright/idl/ConstValue$BooleanValue" "value" "Z" (.int (1 : Int32)))) hZ (hw _ (List.mem_of_getElem? (i := 20) rfl)) (hw _ (List.mem_of_getElem? (i := 2) rfl)) (by decide) (by decide)) qq102a qq102c (g := (mkF m 129 #[iv p1, iv p2, iv (0 : Int32), iv (1 : Int32), iv (0 : Int32), rv b87, rv b94, iv (0 : Int32)] [(.ref b94), (.ref b87)])) rfl (by rw [hml]; rfl) (Steps.refl _) (argsL := [(.ref b94)]) (rest := []) (lenOf pd_2 rfl) rfl (by show 2 * 0 + _ ≤ _; exact Nat.le_of_eq rfl) (hb hby at_129) (fun _ _ => ⟨rfl, rfl, (by decide : 2 + 0 ≤ _), (by decide : 2 + 0 ≤ _)⟩)
        dsimp only [Pt.U, Pt.locs, Pt.cells, Pt.slots] at X102 l102 y102 z102 st102 hQ102
        subst l102 y102 z102
        obtain ⟨rfl, Nq102, e102⟩ := hQ102
        have N102 := Fr.app N98 Nq102
        have k104 : Way p e below S0 T102 (mkF m 132 #[iv p1, iv p2, iv (0 : Int32), iv (1 : Int32), iv (0 : Int32), rv b87, rv b94, iv (0 : Int32)] [(.int (0 : Int32))]) := fun t k => k100 t (st102.trans k)
        have k105 : Way p e below S0 T102 (mkF m 141 #[iv p1, iv p2, iv (0 : Int32), iv (1 : Int32), iv (0 : Int32), rv b87, rv b94, iv (0 : Int32)] [(.ref b87), (.ref b87)]) := by
          intro t k
          refine k104 t ?_
          refine XS.iload X102.here hx rfl (hb hby at_132) rfl ?_
          show Steps p.tables e below (T102.setTop (mkF m 134 #[iv p1, iv p2, iv (0 : Int32), iv (1 : Int32), iv (0 : Int32), rv b87, rv b94, iv (0 : Int32)] [(.int (0 : Int32)), (.int (0 : Int32))])) _
          refine XS.icmpNo X102.here hx rfl (hb hby at_134) rfl (teq ((by decide) : (0 : Int32) = (0 : Int32))).2 ?_
          show Steps p.tables e below (T102.setTop (mkF m 137 #[iv p1, iv p2, iv (0 : Int32), iv (1 : Int32), iv (0 : Int32), rv b87, rv b94, iv (0 : Int32)] [])) _
          refine XS.aload X102.here hx rfl (hb hby at_137) rfl rfl ?_
          show Steps p.tables e below (T102.setTop (mkF m 139 #[iv p1, iv p2, iv (0 : Int32), iv (1 : Int32), iv (0 : Int32), rv b87, rv b94, iv (0 : Int32)] [(.ref b87)])) _
          refine XS.aload X102.here hx rfl (hb hby at_139) rfl rfl ?_
          show Steps p.tables e below (T102.setTop (mkF m 141 #[iv p1, iv p2, iv (0 : Int32), iv (1 : Int32), iv (0 : Int32), rv b87, rv b94, iv (0 : Int32)] [(.ref b87), (.ref b87)])) _
          exact k
        obtain ⟨cq106, kq106, qq106a, qq106b, qq106c⟩ := isOf hZ e102 f103
        obtain ⟨_, _, ⟨T106, L106, kk106, nn106⟩, -, X106, ⟨Lc106, hQ106, l106, y106, z106⟩, st106⟩ := X102.virtualBack hx (y := (⟨"com/example/stubwright/stubwright/idl/ConstValue$BooleanValue", "equals", "(Ljava/lang/Object;)Z"⟩ : MethodName)) (z := (⟨"com/example/stubwright/stubwright/idl/ConstValue$BooleanValue", "equals", "(Ljava/lang/Object;)Z"⟩ : MethodName)) hown (mvT hZ (hw _ (List.mem_of_getElem? (i := 16) rfl))) (mvT hZ (hw _ (List.mem_of_getElem? (i := 17) rfl))) (notFace_of_selects (args := #[]) (mvT hZ (hw _ (List.mem_of_getElem? (i := 19) rfl)))) (mvT hZ (hw _ (List.mem_of_getElem? (i := 19) rfl))) (mvT hZ (hw _ (List.mem_of_getElem? (i := 18) rfl))) (by decide) (backOf (W := 0) (eq00 l Z a0 hw [] wC clC G b87 b87 T98.heap n0 O98 (f103 : Exa Z T98.heap b87 "com/example/stubwright/stubwright/idl/ConstValue$BooleanValue") (f101 : Fld Z T98.heap b87 "com/example/stubwright/stubwright/idl/ConstValue$BooleanValue" "value" "Z" (.int (0 : Int32))) (f101 : Fld Z T98.heap b87 "com/example/stubwright/stubwright/idl/ConstValue$BooleanValue" "value" "Z" (.int (0 : Int32)))) hZ (hw _ (List.mem_of_getElem? (i := 20) rfl)) (hw _ (List.mem_of_getElem? (i := 2) rfl)) (by decide) (by decide)) qq106a qq106c (g := (mkF m 141 #[iv p1, iv p2, iv (0 : Int32), iv (1 : Int32), iv (0 : Int32), rv b87, rv b94, iv (0 : Int32)] [(.ref b87), (.ref b87)])) rfl (by rw [hml]; rfl) (Steps.refl _) (argsL := [(.ref b87)]) (rest := []) (lenOf pd_2 rfl) rfl (by show 2 * 0 + _ ≤ _; exact Nat.le_of_eq rfl) (hb hby at_141) (fun _ _ => ⟨rfl, e102, (by decide : 2 + 0 ≤ _), (by decide : 2 + 0 ≤ _)⟩)
        dsimp only [Pt.U, Pt.locs, Pt.cells, Pt.slots] at X106 l106 y106 z106 st106 hQ106
        subst l106 y106 z106
        obtain ⟨rfl, Nq106, e106⟩ := hQ106
        have N106 := Fr.app N102 Nq106
        have k107 : Way p e below S0 T106 (mkF m 144 #[iv p1, iv p2, iv (0 : Int32), iv (1 : Int32), iv (0 : Int32), rv b87, rv b94, iv (0 : Int32)] [(.int (1 : Int32))]) := fun t k => k105 t (st106.trans k)
        have k108 : Way p e below S0 T106 (mkF m 152 #[iv p1, iv p2, iv (0 : Int32), iv (1 : Int32), iv (0 : Int32), rv b87, rv b94, iv (0 : Int32)] [(.int (1 : Int32))]) := by
          intro t k
          refine k107 t ?_
          refine XS.ifNo X106.here hx rfl (hb hby at_144) rfl ((if0 _ _).trans (feq ((by decide) : ¬ ((1 : Int32) = (0 : Int32)))).1) ?_
          show Steps p.tables e below (T106.setTop (mkF m 147 #[iv p1, iv p2, iv (0 : Int32), iv (1 : Int32), iv (0 : Int32), rv b87, rv b94, iv (0 : Int32)] [])) _
          refine XS.iconst X106.here hx rfl (hb hby at_147) ?_
          show Steps p.tables e below (T106.setTop (mkF m 148 #[iv p1, iv p2, iv (0 : Int32), iv (1 : Int32), iv (0 : Int32), rv b87, rv b94, iv (0 : Int32)] [(.int (1 : Int32))])) _
          refine XS.goto X106.here hx rfl (pc0 := 148) (pc' := 152) rfl (hb hby at_148) (by decide) (by decide) ?_
          show Steps p.tables e below (T106.setTop (mkF m 152 #[iv p1, iv p2, iv (0 : Int32), iv (1 : Int32), iv (0 : Int32), rv b87, rv b94, iv (0 : Int32)] [(.int (1 : Int32))])) _
          exact k
        obtain ⟨fs, hr, hrun, hended, hW, hsame⟩ := X106.leave (v := some (.int (1 : Int32))) (fun h => by rw [Bd.returns] at h; cases h)
        refine ⟨_, _, k108 _ (retN X106 hx (t := .boolean) Bd.returns (by simp) (hb hby at_152) hr), hrun, hended, _, _, rfl, ?_, ⟨_, rfl⟩, hW, hsame.mono (by decide) (by decide)⟩
        show Q_law_met Z wC clC p1 p2 h0 n0 _ T106.heap _
        rw [e106]
        exact ⟨rfl, N106⟩
      · have k109 : Way p e below S0 s₁ (mkF m 31 #[iv p1, iv p2, iv (0 : Int32), iv (1 : Int32), iv (1 : Int32), .unset, .unset, .unset] []) := by have q := k84; rw [hi85] at q; exact q
        obtain ⟨T110, h110, X110, e110, E110, A110, D110, U110, st110⟩ := newO X0 hx hZ hown (hw _ (List.mem_of_getElem? (i := 0) rfl)) (hw _ (List.mem_of_getElem? (i := 1) rfl)) (hw _ (List.mem_of_getElem? (i := 2) rfl)) e0 (g := (mkF m 31 #[iv p1, iv p2, iv (0 : Int32), iv (1 : Int32), iv (1 : Int32), .unset, .unset, .unset] [])) rfl (hb hby at_31) (by decide) (by decide)
        obtain ⟨b110, g110⟩ : ∃ z, z = h0.size := ⟨_, rfl⟩
        rw [← g110] at A110 D110 U110 st110
        have O110 := O0.ext E110
        have i110_value : Fld Z h110 b110 "com/example/stubwright/stubwright/idl/ConstValue$BooleanValue" "value" "Z" (.int (0 : Int32)) := D110 (Or.inr (hw _ (List.mem_of_getElem? (i := 15) rfl))) (ty := .boolean) (by decide)
        have k111 : Way p e below S0 T110 (mkF m 34 #[iv p1, iv p2, iv (0 : Int32), iv (1 : Int32), iv (1 : Int32), .unset, .unset, .unset] [(.ref b110)]) := fun t k => k109 t (st110 _ k)
        have k112 : Way p e below S0 T110 (mkF m 36 #[iv p1, iv p2, iv (0 : Int32), iv (1 : Int32), iv (1 : Int32), .unset, .unset, .unset] [(.int (0 : Int32)), (.ref b110), (.ref b110)]) := by
          intro t k
          refine k111 t ?_
          refine XS.dup X110.here hx rfl (hb hby at_34) rfl rfl ?_
          show Steps p.tables e below (T110.setTop (mkF m 35 #[iv p1, iv p2, iv (0 : Int32), iv (1 : Int32), iv (1 : Int32), .unset, .unset, .unset] [(.ref b110), (.ref b110)])) _
          refine XS.iloadN X110.here hx rfl (hb hby at_35) rfl ?_
          show Steps p.tables e below (T110.setTop (mkF m 36 #[iv p1, iv p2, iv (0 : Int32), iv (1 : Int32), iv (1 : Int32), .unset, .unset, .unset] [(.int (0 : Int32)), (.ref b110), (.ref b110)])) _
          exact k
        have ge113 : n0 ≤ b110 := Nat.le_trans (own_old O0) (Nat.le_of_eq g110.symm)
        obtain ⟨_, _, ⟨T114, L114, kk114, nn114⟩, -, X114, ⟨Lc114, hQ114, l114, y114, z114⟩, st114⟩ := X110.specialBack hx (y := (⟨"com/example/stubwright/stubwright/idl/ConstValue$BooleanValue", "<init>", "(Z)V"⟩ : MethodName)) rfl hown (mvT hZ (hw _ (List.mem_of_getElem? (i := 3) rfl))) (mvT hZ (hw _ (List.mem_of_getElem? (i := 4) rfl))) (mvT hZ (hw _ (List.mem_of_getElem? (i := 5) rfl))) (by decide) (backOf (W := 1) (bvInit0 l Z a0 hw [] wC clC G b110 h110 n0 O110 (A110 : Exa Z h110 b110 "com/example/stubwright/stubwright/idl/ConstValue$BooleanValue") (i110_value : Fld Z h110 b110 "com/example/stubwright/stubwright/idl/ConstValue$BooleanValue" "value" "Z" (.int (0 : Int32))) (ge113 : n0 ≤ b110)) hZ (hw _ (List.mem_of_getElem? (i := 5) rfl)) (hw _ (List.mem_of_getElem? (i := 2) rfl)) (by decide) (by decide)) (g := (mkF m 36 #[iv p1, iv p2, iv (0 : Int32), iv (1 : Int32), iv (1 : Int32), .unset, .unset, .unset] [(.int (0 : Int32)), (.ref b110), (.ref b110)])) rfl (by rw [hml]; rfl) (Steps.refl _) (a := b110) (argsL := [(.int (0 : Int32))]) (rest := [(.ref b110)]) (lenOf pd_1 rfl) rfl (by show 2 * 0 + _ ≤ _; exact Nat.le_of_eq rfl) (hb hby at_36) (fun _ _ => ⟨rfl, e110, (by decide : 1 + 0 ≤ _), (by decide : 1 + 0 ≤ _)⟩)
        dsimp only [Pt.U, Pt.locs, Pt.cells, Pt.slots] at X114 l114 y114 z114 st114 hQ114
        subst l114 y114 z114
        obtain ⟨rfl, Nq114, Kq114, po114_0, po114_1⟩ := hQ114
        have N114 := Fr.app N0 Nq114
        have O114 := O110.keep Kq114 (allS ge113 all0)
        have k115 : Way p e below S0 T114 (mkF m 39 #[iv p1, iv p2, iv (0 : Int32), iv (1 : Int32), iv (1 : Int32), .unset, .unset, .unset] [(.ref b110)]) := fun t k => k112 t (st114.trans k)
        have k116 : Way p e below S0 T114 (mkF m 129 #[iv p1, iv p2, iv (0 : Int32), iv (1 : Int32), iv (1 : Int32), rv b110, .val .null, iv (0 : Int32)] [.null, (.ref b110)]) := by
          intro t k
          refine k115 t ?_
          refine XS.astore X114.here hx rfl (hb hby at_39) rfl rfl (l' := #[iv p1, iv p2, iv (0 : Int32), iv (1 : Int32), iv (1 : Int32), rv b110, .unset, .unset]) rfl ?_
          show Steps p.tables e below (T114.setTop (mkF m 41 #[iv p1, iv p2, iv (0 : Int32), iv (1 : Int32), iv (1 : Int32), rv b110, .unset, .unset] [])) _
          refine XS.iload X114.here hx rfl (hb hby at_41) rfl ?_
          show Steps p.tables e below (T114.setTop (mkF m 43 #[iv p1, iv p2, iv (0 : Int32), iv (1 : Int32), iv (1 : Int32), rv b110, .unset, .unset] [(.int (1 : Int32))])) _
          refine XS.ifYes X114.here hx rfl (pc0 := 43) (pc' := 59) rfl (hb hby at_43) rfl ((if0 _ _).trans (feq ((by decide) : ¬ ((1 : Int32) = (0 : Int32)))).2) (by decide) (by decide) ?_
          show Steps p.tables e below (T114.setTop (mkF m 59 #[iv p1, iv p2, iv (0 : Int32), iv (1 : Int32), iv (1 : Int32), rv b110, .unset, .unset] [])) _
          refine XS.iload X114.here hx rfl (hb hby at_59) rfl ?_
          show Steps p.tables e below (T114.setTop (mkF m 61 #[iv p1, iv p2, iv (0 : Int32), iv (1 : Int32), iv (1 : Int32), rv b110, .unset, .unset] [(.int (1 : Int32))])) _
          refine XS.iconst X114.here hx rfl (hb hby at_61) ?_
          show Steps p.tables e below (T114.setTop (mkF m 62 #[iv p1, iv p2, iv (0 : Int32), iv (1 : Int32), iv (1 : Int32), rv b110, .unset, .unset] [(.int (1 : Int32)), (.int (1 : Int32))])) _
          refine XS.icmpNo X114.here hx rfl (hb hby at_62) rfl (teq ((by decide) : (1 : Int32) = (1 : Int32))).2 ?_
          show Steps p.tables e below (T114.setTop (mkF m 65 #[iv p1, iv p2, iv (0 : Int32), iv (1 : Int32), iv (1 : Int32), rv b110, .unset, .unset] [])) _
          refine XS.aconstNull X114.here hx rfl (hb hby at_65) ?_
          show Steps p.tables e below (T114.setTop (mkF m 66 #[iv p1, iv p2, iv (0 : Int32), iv (1 : Int32), iv (1 : Int32), rv b110, .unset, .unset] [.null])) _
          refine XS.astore X114.here hx rfl (hb hby at_66) rfl rfl (l' := #[iv p1, iv p2, iv (0 : Int32), iv (1 : Int32), iv (1 : Int32), rv b110, .val .null, .unset]) rfl ?_
          show Steps p.tables e below (T114.setTop (mkF m 68 #[iv p1, iv p2, iv (0 : Int32), iv (1 : Int32), iv (1 : Int32), rv b110, .val .null, .unset] [])) _
          refine XS.goto X114.here hx rfl (pc0 := 68) (pc' := 108) rfl (hb hby at_68) (by decide) (by decide) ?_
          show Steps p.tables e below (T114.setTop (mkF m 108 #[iv p1, iv p2, iv (0 : Int32), iv (1 : Int32), iv (1 : Int32), rv b110, .val .null, .unset] [])) _
          refine XS.iload X114.here hx rfl (hb hby at_108) rfl ?_
          show Steps p.tables e below (T114.setTop (mkF m 110 #[iv p1, iv p2, iv (0 : Int32), iv (1 : Int32), iv (1 : Int32), rv b110, .val .null, .unset] [(.int (1 : Int32))])) _
          refine XS.ifYes X114.here hx rfl (pc0 := 110) (pc' := 122) rfl (hb hby at_110) rfl ((if0 _ _).trans (feq ((by decide) : ¬ ((1 : Int32) = (0 : Int32)))).2) (by decide) (by decide) ?_
          show Steps p.tables e below (T114.setTop (mkF m 122 #[iv p1, iv p2, iv (0 : Int32), iv (1 : Int32), iv (1 : Int32), rv b110, .val .null, .unset] [])) _
          refine XS.iconst X114.here hx rfl (hb hby at_122) ?_
          show Steps p.tables e below (T114.setTop (mkF m 123 #[iv p1, iv p2, iv (0 : Int32), iv (1 : Int32), iv (1 : Int32), rv b110, .val .null, .unset] [(.int (0 : Int32))])) _
          refine XS.istore X114.here hx rfl (hb hby at_123) rfl (l' := #[iv p1, iv p2, iv (0 : Int32), iv (1 : Int32), iv (1 : Int32), rv b110, .val .null, iv (0 : Int32)]) rfl ?_
          show Steps p.tables e below (T114.setTop (mkF m 125 #[iv p1, iv p2, iv (0 : Int32), iv (1 : Int32), iv (1 : Int32), rv b110, .val .null, iv (0 : Int32)] [])) _
          refine XS.aload X114.here hx rfl (hb hby at_125) rfl rfl ?_
          show Steps p.tables e below (T114.setTop (mkF m 127 #[iv p1, iv p2, iv (0 : Int32), iv (1 : Int32), iv (1 : Int32), rv b110, .val .null, iv (0 : Int32)] [(.ref b110)])) _
          refine XS.aload X114.here hx rfl (hb hby at_127) rfl rfl ?_
          show Steps p.tables e below (T114.setTop (mkF m 129 #[iv p1, iv p2, iv (0 : Int32), iv (1 : Int32), iv (1 : Int32), rv b110, .val .null, iv (0 : Int32)] [.null, (.ref b110)])) _
          exact k
        obtain ⟨cq117, kq117, qq117a, qq117b, qq117c⟩ := isOf hZ rfl po114_0
        obtain ⟨_, _, ⟨T117, L117, kk117, nn117⟩, -, X117, ⟨Lc117, hQ117, l117, y117, z117⟩, st117⟩ := X114.virtualBack hx (y := (⟨"com/example/stubwright/stubwright/idl/ConstValue$BooleanValue", "equals", "(Ljava/lang/Object;)Z"⟩ : MethodName)) (z := (⟨"com/example/stubwright/stubwright/idl/ConstValue$BooleanValue", "equals", "(Ljava/lang/Object;)Z"⟩ : MethodName)) hown (mvT hZ (hw _ (List.mem_of_getElem? (i := 16) rfl))) (mvT hZ (hw _ (List.mem_of_getElem? (i := 17) rfl))) (notFace_of_selects (args := #[]) (mvT hZ (hw _ (List.mem_of_getElem? (i := 19) rfl)))) (mvT hZ (hw _ (List.mem_of_getElem? (i := 19) rfl))) (mvT hZ (hw _ (List.mem_of_getElem? (i := 18) rfl))) (by decide) (backOf (W := 0) (eqNull l Z a0 hw [] wC clC G b110 T114.heap n0 O114 ) hZ (hw _ (List.mem_of_getElem? (i := 20) rfl)) (hw _ (List.mem_of_getElem? (i := 2) rfl)) (by decide) (by decide)) qq117a qq117c (g := (mkF m 129 #[iv p1, iv p2, iv (0 : Int32), iv (1 : Int32), iv (1 : Int32), rv b110, .val .null, iv (0 : Int32)] [.null, (.ref b110)])) rfl (by rw [hml]; rfl) (Steps.refl _) (argsL := [.null]) (rest := []) (lenOf pd_2 rfl) rfl (by show 2 * 0 + _ ≤ _; exact Nat.le_of_eq rfl) (hb hby at_129) (fun _ _ => ⟨rfl, rfl, (by decide : 1 + 0 ≤ _), (by decide : 1 + 0 ≤ _)⟩)
        dsimp only [Pt.U, Pt.locs, Pt.cells, Pt.slots] at X117 l117 y117 z117 st117 hQ117
        subst l117 y117 z117
        obtain ⟨rfl, Nq117, e117⟩ := hQ117
        have N117 := Fr.app N114 Nq117
        have k118 : Way p e below S0 T117 (mkF m 132 #[iv p1, iv p2, iv (0 : Int32), iv (1 : Int32), iv (1 : Int32), rv b110, .val .null, iv (0 : Int32)] [(.int (0 : Int32))]) := fun t k => k116 t (st117.trans k)
        have k119 : Way p e below S0 T117 (mkF m 141 #[iv p1, iv p2, iv (0 : Int32), iv (1 : Int32), iv (1 : Int32), rv b110, .val .null, iv (0 : Int32)] [(.ref b110), (.ref b110)]) := by
          intro t k
          refine k118 t ?_
          refine XS.iload X117.here hx rfl (hb hby at_132) rfl ?_
          show Steps p.tables e below (T117.setTop (mkF m 134 #[iv p1, iv p2, iv (0 : Int32), iv (1 : Int32), iv (1 : Int32), rv b110, .val .null, iv (0 : Int32)] [(.int (0 : Int32)), (.int (0 : Int32))])) _
          refine XS.icmpNo X117.here hx rfl (hb hby at_134) rfl (teq ((by decide) : (0 : Int32) = (0 : Int32))).2 ?_
          show Steps p.tables e below (T117.setTop (mkF m 137 #[iv p1, iv p2, iv (0 : Int32), iv (1 : Int32), iv (1 : Int32), rv b110, .val .null, iv (0 : Int32)] [])) _
          refine XS.aload X117.here hx rfl (hb hby at_137) rfl rfl ?_
          show Steps p.tables e below (T117.setTop (mkF m 139 #[iv p1, iv p2, iv (0 : Int32), iv (1 : Int32), iv (1 : Int32), rv b110, .val .null, iv (0 : Int32)] [(.ref b110)])) _
          refine XS.aload X117.here hx rfl (hb hby at_139) rfl rfl ?_
          show Steps p.tables e below (T117.setTop (mkF m 141 #[iv p1, iv p2, iv (0 : Int32), iv (1 : Int32), iv (1 : Int32), rv b110, .val .null, iv (0 : Int32)] [(.ref b110), (.ref b110)])) _
          exact k
        obtain ⟨cq120, kq120, qq120a, qq120b, qq120c⟩ := isOf hZ e117 po114_0
        obtain ⟨_, _, ⟨T120, L120, kk120, nn120⟩, -, X120, ⟨Lc120, hQ120, l120, y120, z120⟩, st120⟩ := X117.virtualBack hx (y := (⟨"com/example/stubwright/stubwright/idl/ConstValue$BooleanValue", "equals", "(Ljava/lang/Object;)Z"⟩ : MethodName)) (z := (⟨"com/example/stubwright/stubwright/idl/ConstValue$BooleanValue", "equals", "(Ljava/lang/Object;)Z"⟩ : MethodName)) hown (mvT hZ (hw _ (List.mem_of_getElem? (i := 16) rfl))) (mvT hZ (hw _ (List.mem_of_getElem? (i := 17) rfl))) (notFace_of_selects (args := #[]) (mvT hZ (hw _ (List.mem_of_getElem? (i := 19) rfl)))) (mvT hZ (hw _ (List.mem_of_getElem? (i := 19) rfl))) (mvT hZ (hw _ (List.mem_of_getElem? (i := 18) rfl))) (by decide) (backOf (W := 0) (eq00 l Z a0 hw [] wC clC G b110 b110 T114.heap n0 O114 (po114_0 : Exa Z T114.heap b110 "com/example/stubwright/stubwright/idl/ConstValue$BooleanValue") (po114_1 : Fld Z T114.heap b110 "com/example/stubwright/stubwright/idl/ConstValue$BooleanValue" "value" "Z" (.int (0 : Int32))) (po114_1 : Fld Z T114.heap b110 "com/example/stubwright/stubwright/idl/ConstValue$BooleanValue" "value" "Z" (.int (0 : Int32)))) hZ (hw _ (List.mem_of_getElem? (i := 20) rfl)) (hw _ (List.mem_of_getElem? (i := 2) rfl)) (by decide) (by decide)) qq120a qq120c (g := (mkF m 141 #[iv p1, iv p2, iv (0 : Int32), iv (1 : Int32), iv (1 : Int32), rv b110, .val .null, iv (0 : Int32)] [(.ref b110), (.ref b110)])) rfl (by rw [hml]; rfl) (Steps.refl _) (argsL := [(.ref b110)]) (rest := []) (lenOf pd_2 rfl) rfl (by show 2 * 0 + _ ≤ _; exact Nat.le_of_eq rfl) (hb hby at_141) (fun _ _ => ⟨rfl, e117, (by decide : 1 + 0 ≤ _), (by decide : 1 + 0 ≤ _)⟩)
        dsimp only [Pt.U, Pt.locs, Pt.cells, Pt.slots] at X120 l120 y120 z120 st120 hQ120
        subst l120 y120 z120
        obtain ⟨rfl, Nq120, e120⟩ := hQ120
        have N120 := Fr.app N117 Nq120
        have k121 : Way p e below S0 T120 (mkF m 144 #[iv p1, iv p2, iv (0 : Int32), iv (1 : Int32), iv (1 : Int32), rv b110, .val .null, iv (0 : Int32)] [(.int (1 : Int32))]) := fun t k => k119 t (st120.trans k)
        have k122 : Way p e below S0 T120 (mkF m 152 #[iv p1, iv p2, iv (0 : Int32), iv (1 : Int32), iv (1 : Int32), rv b110, .val .null, iv (0 : Int32)] [(.int (1 : Int32))]) := by
          intro t k
          refine k121 t ?_
          refine XS.ifNo X120.here hx rfl (hb hby at_144) rfl ((if0 _ _).trans (feq ((by decide) : ¬ ((1 : Int32) = (0 : Int32)))).1) ?_
          show Steps p.tables e below (T120.setTop (mkF m 147 #[iv p1, iv p2, iv (0 : Int32), iv (1 : Int32), iv (1 : Int32), rv b110, .val .null, iv (0 : Int32)] [])) _
          refine XS.iconst X120.here hx rfl (hb hby at_147) ?_
          show Steps p.tables e below (T120.setTop (mkF m 148 #[iv p1, iv p2, iv (0 : Int32), iv (1 : Int32), iv (1 : Int32), rv b110, .val .null, iv (0 : Int32)] [(.int (1 : Int32))])) _
          refine XS.goto X120.here hx rfl (pc0 := 148) (pc' := 152) rfl (hb hby at_148) (by decide) (by decide) ?_
          show Steps p.tables e below (T120.setTop (mkF m 152 #[iv p1, iv p2, iv (0 : Int32), iv (1 : Int32), iv (1 : Int32), rv b110, .val .null, iv (0 : Int32)] [(.int (1 : Int32))])) _
          exact k
        obtain ⟨fs, hr, hrun, hended, hW, hsame⟩ := X120.leave (v := some (.int (1 : Int32))) (fun h => by rw [Bd.returns] at h; cases h)
        refine ⟨_, _, k122 _ (retN X120 hx (t := .boolean) Bd.returns (by simp) (hb hby at_152) hr), hrun, hended, _, _, rfl, ?_, ⟨_, rfl⟩, hW, hsame.mono (by decide) (by decide)⟩
        show Q_law_met Z wC clC p1 p2 h0 n0 _ T120.heap _
        rw [e120]
        exact ⟨rfl, N120⟩
      · have k123 : Way p e below S0 s₁ (mkF m 31 #[iv p1, iv p2, iv (0 : Int32), iv (1 : Int32), iv (2 : Int32), .unset, .unset, .unset] []) := by have q := k84; rw [hi85] at q; exact q
        obtain ⟨T124, h124, X124, e124, E124, A124, D124, U124, st124⟩ := newO X0 hx hZ hown (hw _ (List.mem_of_getElem? (i := 0) rfl)) (hw _ (List.mem_of_getElem? (i := 1) rfl)) (hw _ (List.mem_of_getElem? (i := 2) rfl)) e0 (g := (mkF m 31 #[iv p1, iv p2, iv (0 : Int32), iv (1 : Int32), iv (2 : Int32), .unset, .unset, .unset] [])) rfl (hb hby at_31) (by decide) (by decide)
        obtain ⟨b124, g124⟩ : ∃ z, z = h0.size := ⟨_, rfl⟩
        rw [← g124] at A124 D124 U124 st124
        have O124 := O0.ext E124
        have i124_value : Fld Z h124 b124 "com/example/stubwright/stubwright/idl/ConstValue$BooleanValue" "value" "Z" (.int (0 : Int32)) := D124 (Or.inr (hw _ (List.mem_of_getElem? (i := 15) rfl))) (ty := .boolean) (by decide)
        have k125 : Way p e below S0 T124 (mkF m 34 #[iv p1, iv p2, iv (0 : Int32), iv (1 : Int32), iv (2 : Int32), .unset, .unset, .unset] [(.ref b124)]) := fun t k => k123 t (st124 _ k)
        have k126 : Way p e below S0 T124 (mkF m 36 #[iv p1, iv p2, iv (0 : Int32), iv (1 : Int32), iv (2 : Int32), .unset, .unset, .unset] [(.int (0 : Int32)), (.ref b124), (.ref b124)]) := by
          intro t k
          refine k125 t ?_
          refine XS.dup X124.here hx rfl (hb hby at_34) rfl rfl ?_
          show Steps p.tables e below (T124.setTop (mkF m 35 #[iv p1, iv p2, iv (0 : Int32), iv (1 : Int32), iv (2 : Int32), .unset, .unset, .unset] [(.ref b124), (.ref b124)])) _
          refine XS.iloadN X124.here hx rfl (hb hby at_35) rfl ?_
          show Steps p.tables e below (T124.setTop (mkF m 36 #[iv p1, iv p2, iv (0 : Int32), iv (1 : Int32), iv (2 : Int32), .unset, .unset, .unset] [(.int (0 : Int32)), (.ref b124), (.ref b124)])) _
          exact k
        have ge127 : n0 ≤ b124 := Nat.le_trans (own_old O0) (Nat.le_of_eq g124.symm)
        obtain ⟨_, _, ⟨T128, L128, kk128, nn128⟩, -, X128, ⟨Lc128, hQ128, l128, y128, z128⟩, st128⟩ := X124.specialBack hx (y := (⟨"com/example/stubwright/stubwright/idl/ConstValue$BooleanValue", "<init>", "(Z)V"⟩ : MethodName)) rfl hown (mvT hZ (hw _ (List.mem_of_getElem? (i := 3) rfl))) (mvT hZ (hw _ (List.mem_of_getElem? (i := 4) rfl))) (mvT hZ (hw _ (List.mem_of_getElem? (i := 5) rfl))) (by decide) (backOf (W := 1) (bvInit0 l Z a0 hw [] wC clC G b124 h124 n0 O124 (A124 : Exa Z h124 b124 "com/example/stubwright/stubwright/idl/ConstValue$BooleanValue") (i124_value : Fld Z h124 b124 "com/example/stubwright/stubwright/idl/ConstValue$BooleanValue" "value" "Z" (.int (0 : Int32))) (ge127 : n0 ≤ b124)) hZ (hw _ (List.mem_of_getElem? (i := 5) rfl)) (hw _ (List.mem_of_getElem? (i := 2) rfl)) (by decide) (by decide)) (g := (mkF m 36 #[iv p1, iv p2, iv (0 : Int32), iv (1 : Int32), iv (2 : Int32), .unset, .unset, .unset] [(.int (0 : Int32)), (.ref b124), (.ref b124)])) rfl (by rw [hml]; rfl) (Steps.refl _) (a := b124) (argsL := [(.int (0 : Int32))]) (rest := [(.ref b124)]) (lenOf pd_1 rfl) rfl (by show 2 * 0 + _ ≤ _; exact Nat.le_of_eq rfl) (hb hby at_36) (fun _ _ => ⟨rfl, e124, (by decide : 1 + 0 ≤ _), (by decide : 1 + 0 ≤ _)⟩)
        dsimp only [Pt.U, Pt.locs, Pt.cells, Pt.slots] at X128 l128 y128 z128 st128 hQ128
        subst l128 y128 z128
        obtain ⟨rfl, Nq128, Kq128, po128_0, po128_1⟩ := hQ128
        have N128 := Fr.app N0 Nq128
        have O128 := O124.keep Kq128 (allS ge127 all0)
        have k129 : Way p e below S0 T128 (mkF m 39 #[iv p1, iv p2, iv (0 : Int32), iv (1 : Int32), iv (2 : Int32), .unset, .unset, .unset] [(.ref b124)]) := fun t k => k126 t (st128.trans k)
        have k130 : Way p e below S0 T128 (mkF m 77 #[iv p1, iv p2, iv (0 : Int32), iv (1 : Int32), iv (2 : Int32), rv b124, .unset, .unset] []) := by
          intro t k
          refine k129 t ?_
          refine XS.astore X128.here hx rfl (hb hby at_39) rfl rfl (l' := #[iv p1, iv p2, iv (0 : Int32), iv (1 : Int32), iv (2 : Int32), rv b124, .unset, .unset]) rfl ?_
          show Steps p.tables e below (T128.setTop (mkF m 41 #[iv p1, iv p2, iv (0 : Int32), iv (1 : Int32), iv (2 : Int32), rv b124, .unset, .unset] [])) _
          refine XS.iload X128.here hx rfl (hb hby at_41) rfl ?_
          show Steps p.tables e below (T128.setTop (mkF m 43 #[iv p1, iv p2, iv (0 : Int32), iv (1 : Int32), iv (2 : Int32), rv b124, .unset, .unset] [(.int (2 : Int32))])) _
          refine XS.ifYes X128.here hx rfl (pc0 := 43) (pc' := 59) rfl (hb hby at_43) rfl ((if0 _ _).trans (feq ((by decide) : ¬ ((2 : Int32) = (0 : Int32)))).2) (by decide) (by decide) ?_
          show Steps p.tables e below (T128.setTop (mkF m 59 #[iv p1, iv p2, iv (0 : Int32), iv (1 : Int32), iv (2 : Int32), rv b124, .unset, .unset] [])) _
          refine XS.iload X128.here hx rfl (hb hby at_59) rfl ?_
          show Steps p.tables e below (T128.setTop (mkF m 61 #[iv p1, iv p2, iv (0 : Int32), iv (1 : Int32), iv (2 : Int32), rv b124, .unset, .unset] [(.int (2 : Int32))])) _
          refine XS.iconst X128.here hx rfl (hb hby at_61) ?_
          show Steps p.tables e below (T128.setTop (mkF m 62 #[iv p1, iv p2, iv (0 : Int32), iv (1 : Int32), iv (2 : Int32), rv b124, .unset, .unset] [(.int (1 : Int32)), (.int (2 : Int32))])) _
          refine XS.icmpYes X128.here hx rfl (pc0 := 62) (pc' := 71) rfl (hb hby at_62) rfl (feq ((by decide) : ¬ ((2 : Int32) = (1 : Int32)))).2 (by decide) (by decide) ?_
          show Steps p.tables e below (T128.setTop (mkF m 71 #[iv p1, iv p2, iv (0 : Int32), iv (1 : Int32), iv (2 : Int32), rv b124, .unset, .unset] [])) _
          refine XS.iload X128.here hx rfl (hb hby at_71) rfl ?_
          show Steps p.tables e below (T128.setTop (mkF m 73 #[iv p1, iv p2, iv (0 : Int32), iv (1 : Int32), iv (2 : Int32), rv b124, .unset, .unset] [(.int (2 : Int32))])) _
          refine XS.iconst X128.here hx rfl (hb hby at_73) ?_
          show Steps p.tables e below (T128.setTop (mkF m 74 #[iv p1, iv p2, iv (0 : Int32), iv (1 : Int32), iv (2 : Int32), rv b124, .unset, .unset] [(.int (2 : Int32)), (.int (2 : Int32))])) _
          refine XS.icmpNo X128.here hx rfl (hb hby at_74) rfl (teq ((by decide) : (2 : Int32) = (2 : Int32))).2 ?_
          show Steps p.tables e below (T128.setTop (mkF m 77 #[iv p1, iv p2, iv (0 : Int32), iv (1 : Int32), iv (2 : Int32), rv b124, .unset, .unset] [])) _
          exact k
        obtain ⟨T131, h131, X131, e131, E131, A131, D131, U131, st131⟩ := newO X128 hx hZ hown (hw _ (List.mem_of_getElem? (i := 33) rfl)) (hw _ (List.mem_of_getElem? (i := 34) rfl)) (hw _ (List.mem_of_getElem? (i := 35) rfl)) rfl (g := (mkF m 77 #[iv p1, iv p2, iv (0 : Int32), iv (1 : Int32), iv (2 : Int32), rv b124, .unset, .unset] [])) rfl (hb hby at_77) (by decide) (by decide)
        obtain ⟨b131, g131⟩ : ∃ z, z = T128.heap.size := ⟨_, rfl⟩
        rw [← g131] at A131 D131 U131 st131
        have O131 := O128.ext E131
        have i131_value : Fld Z h131 b131 "com/example/stubwright/stubwright/idl/ConstValue$CharValue" "value" "C" (.int (0 : Int32)) := D131 (Or.inr (hw _ (List.mem_of_getElem? (i := 42) rfl))) (ty := .char) (by decide)
        have k132 : Way p e below S0 T131 (mkF m 80 #[iv p1, iv p2, iv (0 : Int32), iv (1 : Int32), iv (2 : Int32), rv b124, .unset, .unset] [(.ref b131)]) := fun t k => k130 t (st131 _ k)
        have k133 : Way p e below S0 T131 (mkF m 86 #[iv p1, iv p2, iv (0 : Int32), iv (1 : Int32), iv (2 : Int32), rv b124, .unset, .unset] [(.int ((p2 &&& (65535 : Int32)).toUInt32.toUInt16.toUInt32.toInt32)), (.ref b131), (.ref b131)]) := by
          intro t k
          refine k132 t ?_
          refine XS.dup X131.here hx rfl (hb hby at_80) rfl rfl ?_
          show Steps p.tables e below (T131.setTop (mkF m 81 #[iv p1, iv p2, iv (0 : Int32), iv (1 : Int32), iv (2 : Int32), rv b124, .unset, .unset] [(.ref b131), (.ref b131)])) _
          refine XS.iloadN X131.here hx rfl (hb hby at_81) rfl ?_
          show Steps p.tables e below (T131.setTop (mkF m 82 #[iv p1, iv p2, iv (0 : Int32), iv (1 : Int32), iv (2 : Int32), rv b124, .unset, .unset] [(.int p2), (.ref b131), (.ref b131)])) _
          refine X131.ldcInt hx hown (mvT hZ (hw _ (List.mem_of_getElem? (i := 36) rfl))) (g := (mkF m 82 #[iv p1, iv p2, iv (0 : Int32), iv (1 : Int32), iv (2 : Int32), rv b124, .unset, .unset] [(.int p2), (.ref b131), (.ref b131)])) rfl (hb hby at_82) _ ?_
          show Steps p.tables e below (T131.setTop (mkF m 84 #[iv p1, iv p2, iv (0 : Int32), iv (1 : Int32), iv (2 : Int32), rv b124, .unset, .unset] [(.int (65535 : Int32)), (.int p2), (.ref b131), (.ref b131)])) _
          refine XS.iand X131.here hx rfl (hb hby at_84) rfl ?_
          show Steps p.tables e below (T131.setTop (mkF m 85 #[iv p1, iv p2, iv (0 : Int32), iv (1 : Int32), iv (2 : Int32), rv b124, .unset, .unset] [(.int (p2 &&& (65535 : Int32))), (.ref b131), (.ref b131)])) _
          refine XS.i2c X131.here hx rfl (hb hby at_85) rfl ?_
          show Steps p.tables e below (T131.setTop (mkF m 86 #[iv p1, iv p2, iv (0 : Int32), iv (1 : Int32), iv (2 : Int32), rv b124, .unset, .unset] [(.int ((p2 &&& (65535 : Int32)).toUInt32.toUInt16.toUInt32.toInt32)), (.ref b131), (.ref b131)])) _
          exact k
        have ge134 : n0 ≤ b131 := Nat.le_trans (own_old O128) (Nat.le_of_eq g131.symm)
        obtain ⟨_, _, ⟨T135, L135, kk135, nn135⟩, -, X135, ⟨Lc135, hQ135, l135, y135, z135⟩, st135⟩ := X131.specialBack hx (y := (⟨"com/example/stubwright/stubwright/idl/ConstValue$CharValue", "<init>", "(C)V"⟩ : MethodName)) rfl hown (mvT hZ (hw _ (List.mem_of_getElem? (i := 37) rfl))) (mvT hZ (hw _ (List.mem_of_getElem? (i := 38) rfl))) (mvT hZ (hw _ (List.mem_of_getElem? (i := 39) rfl))) (by decide) (backOf (W := 1) (cvInit l Z a0 hw [] wC clC G b131 ((p2 &&& (65535 : Int32)).toUInt32.toUInt16.toUInt32.toInt32) h131 n0 O131 (A131 : Exa Z h131 b131 "com/example/stubwright/stubwright/idl/ConstValue$CharValue") (i131_value : Fld Z h131 b131 "com/example/stubwright/stubwright/idl/ConstValue$CharValue" "value" "C" (.int (0 : Int32))) (ge134 : n0 ≤ b131) (own_i2c _ : ((p2 &&& (65535 : Int32)).toUInt32.toUInt16.toUInt32.toInt32).toUInt32.toUInt16.toUInt32.toInt32 = ((p2 &&& (65535 : Int32)).toUInt32.toUInt16.toUInt32.toInt32))) hZ (hw _ (List.mem_of_getElem? (i := 39) rfl)) (hw _ (List.mem_of_getElem? (i := 35) rfl)) (by decide) (by decide)) (g := (mkF m 86 #[iv p1, iv p2, iv (0 : Int32), iv (1 : Int32), iv (2 : Int32), rv b124, .unset, .unset] [(.int ((p2 &&& (65535 : Int32)).toUInt32.toUInt16.toUInt32.toInt32)), (.ref b131), (.ref b131)])) rfl (by rw [hml]; rfl) (Steps.refl _) (a := b131) (argsL := [(.int ((p2 &&& (65535 : Int32)).toUInt32.toUInt16.toUInt32.toInt32))]) (rest := [(.ref b131)]) (lenOf pd_3 rfl) rfl (by show 2 * 0 + _ ≤ _; exact Nat.le_of_eq rfl) (hb hby at_86) (fun _ _ => ⟨rfl, e131, (by decide : 2 + 0 ≤ _), (by decide : 2 + 0 ≤ _)⟩)
        dsimp only [Pt.U, Pt.locs, Pt.cells, Pt.slots] at X135 l135 y135 z135 st135 hQ135
        subst l135 y135 z135
        obtain ⟨rfl, Nq135, Kq135, po135_0, po135_1⟩ := hQ135
        have N135 := Fr.app N128 Nq135
        have O135 := O131.keep Kq135 (allS ge134 all0)
        have k136 : Way p e below S0 T135 (mkF m 89 #[iv p1, iv p2, iv (0 : Int32), iv (1 : Int32), iv (2 : Int32), rv b124, .unset, .unset] [(.ref b131)]) := fun t k => k133 t (st135.trans k)
        have k137 : Way p e below S0 T135 (mkF m 129 #[iv p1, iv p2, iv (0 : Int32), iv (1 : Int32), iv (2 : Int32), rv b124, rv b131, iv (0 : Int32)] [(.ref b131), (.ref b124)]) := by
          intro t k
          refine k136 t ?_
          refine XS.astore X135.here hx rfl (hb hby at_89) rfl rfl (l' := #[iv p1, iv p2, iv (0 : Int32), iv (1 : Int32), iv (2 : Int32), rv b124, rv b131, .unset]) rfl ?_
          show Steps p.tables e below (T135.setTop (mkF m 91 #[iv p1, iv p2, iv (0 : Int32), iv (1 : Int32), iv (2 : Int32), rv b124, rv b131, .unset] [])) _
          refine XS.goto X135.here hx rfl (pc0 := 91) (pc' := 108) rfl (hb hby at_91) (by decide) (by decide) ?_
          show Steps p.tables e below (T135.setTop (mkF m 108 #[iv p1, iv p2, iv (0 : Int32), iv (1 : Int32), iv (2 : Int32), rv b124, rv b131, .unset] [])) _
          refine XS.iload X135.here hx rfl (hb hby at_108) rfl ?_
          show Steps p.tables e below (T135.setTop (mkF m 110 #[iv p1, iv p2, iv (0 : Int32), iv (1 : Int32), iv (2 : Int32), rv b124, rv b131, .unset] [(.int (2 : Int32))])) _
          refine XS.ifYes X135.here hx rfl (pc0 := 110) (pc' := 122) rfl (hb hby at_110) rfl ((if0 _ _).trans (feq ((by decide) : ¬ ((2 : Int32) = (0 : Int32)))).2) (by decide) (by decide) ?_
          show Steps p.tables e below (T135.setTop (mkF m 122 #[iv p1, iv p2, iv (0 : Int32), iv (1 : Int32), iv (2 : Int32), rv b124, rv b131, .unset] [])) _
          refine XS.iconst X135.here hx rfl (hb hby at_122) ?_
          show Steps p.tables e below (T135.setTop (mkF m 123 #[iv p1, iv p2, iv (0 : Int32), iv (1 : Int32), iv (2 : Int32), rv b124, rv b131, .unset] [(.int (0 : Int32))])) _
          refine XS.istore X135.here hx rfl (hb hby at_123) rfl (l' := #[iv p1, iv p2, iv (0 : Int32), iv (1 : Int32), iv (2 : Int32), rv b124, rv b131, iv (0 : Int32)]) rfl ?_
          show Steps p.tables e below (T135.setTop (mkF m 125 #[iv p1, iv p2, iv (0 : Int32), iv (1 : Int32), iv (2 : Int32), rv b124, rv b131, iv (0 : Int32)] [])) _
          refine XS.aload X135.here hx rfl (hb hby at_125) rfl rfl ?_
          show Steps p.tables e below (T135.setTop (mkF m 127 #[iv p1, iv p2, iv (0 : Int32), iv (1 : Int32), iv (2 : Int32), rv b124, rv b131, iv (0 : Int32)] [(.ref b124)])) _
          refine XS.aload X135.here hx rfl (hb hby at_127) rfl rfl ?_
          show Steps p.tables e below (T135.setTop (mkF m 129 #[iv p1, iv p2, iv (0 : Int32), iv (1 : Int32), iv (2 : Int32), rv b124, rv b131, iv (0 : Int32)] [(.ref b131), (.ref b124)])) _
          exact k
        have f139 : Exa Z T135.heap b124 "com/example/stubwright/stubwright/idl/ConstValue$BooleanValue" := ((po128_0.ext E131).keep Kq135)
        obtain ⟨cq138, kq138, qq138a, qq138b, qq138c⟩ := isOf hZ rfl f139
        obtain ⟨_, _, ⟨T138, L138, kk138, nn138⟩, -, X138, ⟨Lc138, hQ138, l138, y138, z138⟩, st138⟩ := X135.virtualBack hx (y := (⟨"com/example/stubwright/stubwright/idl/ConstValue$BooleanValue", "equals", "(Ljava/lang/Object;)Z"⟩ : MethodName)) (z := (⟨"com/example/stubwright/stubwright/idl/ConstValue$BooleanValue", "equals", "(Ljava/lang/Object;)Z"⟩ : MethodName)) hown (mvT hZ (hw _ (List.mem_of_getElem? (i := 16) rfl))) (mvT hZ (hw _ (List.mem_of_getElem? (i := 17) rfl))) (notFace_of_selects (args := #[]) (mvT hZ (hw _ (List.mem_of_getElem? (i := 19) rfl)))) (mvT hZ (hw _ (List.mem_of_getElem? (i := 19) rfl))) (mvT hZ (hw _ (List.mem_of_getElem? (i := 18) rfl))) (by decide) (backOf (W := 0) (eqOther0 l Z a0 hw [] wC clC G b124 b131 T135.heap n0 O135 (po135_0 : Exa Z T135.heap b131 "com/example/stubwright/stubwright/idl/ConstValue$CharValue")) hZ (hw _ (List.mem_of_getElem? (i := 20) rfl)) (hw _ (List.mem_of_getElem? (i := 2) rfl)) (by decide) (by decide)) qq138a qq138c (g := (mkF m 129 #[iv p1, iv p2, iv (0 : Int32), iv (1 : Int32), iv (2 : Int32), rv b124, rv b131, iv (0 : Int32)] [(.ref b131), (.ref b124)])) rfl (by rw [hml]; rfl) (Steps.refl _) (argsL := [(.ref b131)]) (rest := []) (lenOf pd_2 rfl) rfl (by show 2 * 0 + _ ≤ _; exact Nat.le_of_eq rfl) (hb hby at_129) (fun _ _ => ⟨rfl, rfl, (by decide : 2 + 0 ≤ _), (by decide : 2 + 0 ≤ _)⟩)
        dsimp only [Pt.U, Pt.locs, Pt.cells, Pt.slots] at X138 l138 y138 z138 st138 hQ138
        subst l138 y138 z138
        obtain ⟨rfl, Nq138, e138⟩ := hQ138
        have N138 := Fr.app N135 Nq138
        have k140 : Way p e below S0 T138 (mkF m 132 #[iv p1, iv p2, iv (0 : Int32), iv (1 : Int32), iv (2 : Int32), rv b124, rv b131, iv (0 : Int32)] [(.int (0 : Int32))]) := fun t k => k137 t (st138.trans k)
        have k141 : Way p e below S0 T138 (mkF m 141 #[iv p1, iv p2, iv (0 : Int32), iv (1 : Int32), iv (2 : Int32), rv b124, rv b131, iv (0 : Int32)] [(.ref b124), (.ref b124)]) := by
          intro t k
          refine k140 t ?_
          refine XS.iload X138.here hx rfl (hb hby at_132) rfl ?_
          show Steps p.tables e below (T138.setTop (mkF m 134 #[iv p1, iv p2, iv (0 : Int32), iv (1 : Int32), iv (2 : Int32), rv b124, rv b131, iv (0 : Int32)] [(.int (0 : Int32)), (.int (0 : Int32))])) _
          refine XS.icmpNo X138.here hx rfl (hb hby at_134) rfl (teq ((by decide) : (0 : Int32) = (0 : Int32))).2 ?_
          show Steps p.tables e below (T138.setTop (mkF m 137 #[iv p1, iv p2, iv (0 : Int32), iv (1 : Int32), iv (2 : Int32), rv b124, rv b131, iv (0 : Int32)] [])) _
          refine XS.aload X138.here hx rfl (hb hby at_137) rfl rfl ?_
          show Steps p.tables e below (T138.setTop (mkF m 139 #[iv p1, iv p2, iv (0 : Int32), iv (1 : Int32), iv (2 : Int32), rv b124, rv b131, iv (0 : Int32)] [(.ref b124)])) _
          refine XS.aload X138.here hx rfl (hb hby at_139) rfl rfl ?_
          show Steps p.tables e below (T138.setTop (mkF m 141 #[iv p1, iv p2, iv (0 : Int32), iv (1 : Int32), iv (2 : Int32), rv b124, rv b131, iv (0 : Int32)] [(.ref b124), (.ref b124)])) _
          exact k
        have f142 : Fld Z T135.heap b124 "com/example/stubwright/stubwright/idl/ConstValue$BooleanValue" "value" "Z" (.int (0 : Int32)) := ((po128_1.ext E131).keep Kq135 (ninS (Nat.ne_of_lt (Nat.lt_of_lt_of_le po128_1.lt (Nat.le_of_eq g131.symm))) nin0))
        obtain ⟨cq143, kq143, qq143a, qq143b, qq143c⟩ := isOf hZ e138 f139
        obtain ⟨_, _, ⟨T143, L143, kk143, nn143⟩, -, X143, ⟨Lc143, hQ143, l143, y143, z143⟩, st143⟩ := X138.virtualBack hx (y := (⟨"com/example/stubwright/stubwright/idl/ConstValue$BooleanValue", "equals", "(Ljava/lang/Object;)Z"⟩ : MethodName)) (z := (⟨"com/example/stubwright/stubwright/idl/ConstValue$BooleanValue", "equals", "(Ljava/lang/Object;)Z"⟩ : MethodName)) hown (mvT hZ (hw _ (List.mem_of_getElem? (i := 16) rfl))) (mvT hZ (hw _ (List.mem_of_getElem? (i := 17) rfl))) (notFace_of_selects (args := #[]) (mvT hZ (hw _ (List.mem_of_getElem? (i := 19) rfl)))) (mvT hZ (hw _ (List.mem_of_getElem? (i := 19) rfl))) (mvT hZ (hw _ (List.mem_of_getElem? (i := 18) rfl))) (by decide) (backOf (W := 0) (eq00 l Z a0 hw [] wC clC G b124 b124 T135.heap n0 O135 (f139 : Exa Z T135.heap b124 "com/example/stubwright/stubwright/idl/ConstValue$BooleanValue") (f142 : Fld Z T135.heap b124 "com/example/stubwright/stubwright/idl/ConstValue$BooleanValue" "value" "Z" (.int (0 : Int32))) (f142 : Fld Z T135.heap b124 "com/example/stubwright/stubwright/idl/ConstValue$BooleanValue" "value" "Z" (.int (0 : Int32)))) hZ (hw _ (List.mem_of_getElem? (i := 20) rfl)) (hw _ (List.mem_of_getElem? (i := 2) rfl)) (by decide) (by decide)) qq143a qq143c (g := (mkF m 141 #[iv p1, iv p2, iv (0 : Int32), iv (1 : Int32), iv (2 : Int32), rv b124, rv b131, iv (0 : Int32)] [(.ref b124), (.ref b124)])) rfl (by rw [hml]; rfl) (Steps.refl _) (argsL := [(.ref b124)]) (rest := []) (lenOf pd_2 rfl) rfl (by show 2 * 0 + _ ≤ _; exact Nat.le_of_eq rfl) (hb hby at_141) (fun _ _ => ⟨rfl, e138, (by decide : 2 + 0 ≤ _), (by decide : 2 + 0 ≤ _)⟩)
        dsimp only [Pt.U, Pt.locs, Pt.cells, Pt.slots] at X143 l143 y143 z143 st143 hQ143
        subst l143 y143 z143
        obtain ⟨rfl, Nq143, e143⟩ := hQ143
        have N143 := Fr.app N138 Nq143
        have k144 : Way p e below S0 T143 (mkF m 144 #[iv p1, iv p2, iv (0 : Int32), iv (1 : Int32), iv (2 : Int32), rv b124, rv b131, iv (0 : Int32)] [(.int (1 : Int32))]) := fun t k => k141 t (st143.trans k)
        have k145 : Way p e below S0 T143 (mkF m 152 #[iv p1, iv p2, iv (0 : Int32), iv (1 : Int32), iv (2 : Int32), rv b124, rv b131, iv (0 : Int32)] [(.int (1 : Int32))]) := by
          intro t k
          refine k144 t ?_
          refine XS.ifNo X143.here hx rfl (hb hby at_144) rfl ((if0 _ _).trans (feq ((by decide) : ¬ ((1 : Int32) = (0 : Int32)))).1) ?_
          show Steps p.tables e below (T143.setTop (mkF m 147 #[iv p1, iv p2, iv (0 : Int32), iv (1 : Int32), iv (2 : Int32), rv b124, rv b131, iv (0 : Int32)] [])) _
          refine XS.iconst X143.here hx rfl (hb hby at_147) ?_
          show Steps p.tables e below (T143.setTop (mkF m 148 #[iv p1, iv p2, iv (0 : Int32), iv (1 : Int32), iv (2 : Int32), rv b124, rv b131, iv (0 : Int32)] [(.int (1 : Int32))])) _
          refine XS.goto X143.here hx rfl (pc0 := 148) (pc' := 152) rfl (hb hby at_148) (by decide) (by decide) ?_
          show Steps p.tables e below (T143.setTop (mkF m 152 #[iv p1, iv p2, iv (0 : Int32), iv (1 : Int32), iv (2 : Int32), rv b124, rv b131, iv (0 : Int32)] [(.int (1 : Int32))])) _
          exact k
        obtain ⟨fs, hr, hrun, hended, hW, hsame⟩ := X143.leave (v := some (.int (1 : Int32))) (fun h => by rw [Bd.returns] at h; cases h)
        refine ⟨_, _, k145 _ (retN X143 hx (t := .boolean) Bd.returns (by simp) (hb hby at_152) hr), hrun, hended, _, _, rfl, ?_, ⟨_, rfl⟩, hW, hsame.mono (by decide) (by decide)⟩
        show Q_law_met Z wC clC p1 p2 h0 n0 _ T143.heap _
        rw [e143]
        exact ⟨rfl, N143⟩
      · have k146 : Way p e below S0 s₁ (mkF m 31 #[iv p1, iv p2, iv (0 : Int32), iv (1 : Int32), iv (3 : Int32), .unset, .unset, .unset] []) := by have q := k84; rw [hi85] at q; exact q
        obtain ⟨T147, h147, X147, e147, E147, A147, D147, U147, st147⟩ := newO X0 hx hZ hown (hw _ (List.mem_of_getElem? (i := 0) rfl)) (hw _ (List.mem_of_getElem? (i := 1) rfl)) (hw _ (List.mem_of_getElem? (i := 2) rfl)) e0 (g := (mkF m 31 #[iv p1, iv p2, iv (0 : Int32), iv (1 : Int32), iv (3 : Int32), .unset, .unset, .unset] [])) rfl (hb hby at_31) (by decide) (by decide)
        obtain ⟨b147, g147⟩ : ∃ z, z = h0.size := ⟨_, rfl⟩
        rw [← g147] at A147 D147 U147 st147
        have O147 := O0.ext E147
        have i147_value : Fld Z h147 b147 "com/example/stubwright/stubwright/idl/ConstValue$BooleanValue" "value" "Z" (.int (0 : Int32)) := D147 (Or.inr (hw _ (List.mem_of_getElem? (i := 15) rfl))) (ty := .boolean) (by decide)
        have k148 : Way p e below S0 T147 (mkF m 34 #[iv p1, iv p2, iv (0 : Int32), iv (1 : Int32), iv (3 : Int32), .unset, .unset, .unset] [(.ref b147)]) := fun t k => k146 t (st147 _ k)
        have k149 : Way p e below S0 T147 (mkF m 36 #[iv p1, iv p2, iv (0 : Int32), iv (1 : Int32), iv (3 : Int32), .unset, .unset, .unset] [(.int (0 : Int32)), (.ref b147), (.ref b147)]) := by
          intro t k
          refine k148 t ?_
          refine XS.dup X147.here hx rfl (hb hby at_34) rfl rfl ?_
          show Steps p.tables e below (T147.setTop (mkF m 35 #[iv p1, iv p2, iv (0 : Int32), iv (1 : Int32), iv (3 : Int32), .unset, .unset, .unset] [(.ref b147), (.ref b147)])) _
          refine XS.iloadN X147.here hx rfl (hb hby at_35) rfl ?_
          show Steps p.tables e below (T147.setTop (mkF m 36 #[iv p1, iv p2, iv (0 : Int32), iv (1 : Int32), iv (3 : Int32), .unset, .unset, .unset] [(.int (0 : Int32)), (.ref b147), (.ref b147)])) _
          exact k
        have ge150 : n0 ≤ b147 := Nat.le_trans (own_old O0) (Nat.le_of_eq g147.symm)
        obtain ⟨_, _, ⟨T151, L151, kk151, nn151⟩, -, X151, ⟨Lc151, hQ151, l151, y151, z151⟩, st151⟩ := X147.specialBack hx (y := (⟨"com/example/stubwright/stubwright/idl/ConstValue$BooleanValue", "<init>", "(Z)V"⟩ : MethodName)) rfl hown (mvT hZ (hw _ (List.mem_of_getElem? (i := 3) rfl))) (mvT hZ (hw _ (List.mem_of_getElem? (i := 4) rfl))) (mvT hZ (hw _ (List.mem_of_getElem? (i := 5) rfl))) (by decide) (backOf (W := 1) (bvInit0 l Z a0 hw [] wC clC G b147 h147 n0 O147 (A147 : Exa Z h147 b147 "com/example/stubwright/stubwright/idl/ConstValue$BooleanValue") (i147_value : Fld Z h147 b147 "com/example/stubwright/stubwright/idl/ConstValue$BooleanValue" "value" "Z" (.int (0 : Int32))) (ge150 : n0 ≤ b147)) hZ (hw _ (List.mem_of_getElem? (i := 5) rfl)) (hw _ (List.mem_of_getElem? (i := 2) rfl)) (by decide) (by decide)) (g := (mkF m 36 #[iv p1, iv p2, iv (0 : Int32), iv (1 : Int32), iv (3 : Int32), .unset, .unset, .unset] [(.int (0 : Int32)), (.ref b147), (.ref b147)])) rfl (by rw [hml]; rfl) (Steps.refl _) (a := b147) (argsL := [(.int (0 : Int32))]) (rest := [(.ref b147)]) (lenOf pd_1 rfl) rfl (by show 2 * 0 + _ ≤ _; exact Nat.le_of_eq rfl) (hb hby at_36) (fun _ _ => ⟨rfl, e147, (by decide : 1 + 0 ≤ _), (by decide : 1 + 0 ≤ _)⟩)
        dsimp only [Pt.U, Pt.locs, Pt.cells, Pt.slots] at X151 l151 y151 z151 st151 hQ151
        subst l151 y151 z151
        obtain ⟨rfl, Nq151, Kq151, po151_0, po151_1⟩ := hQ151
        have N151 := Fr.app N0 Nq151
        have O151 := O147.keep Kq151 (allS ge150 all0)
        have k152 : Way p e below S0 T151 (mkF m 39 #[iv p1, iv p2, iv (0 : Int32), iv (1 : Int32), iv (3 : Int32), .unset, .unset, .unset] [(.ref b147)]) := fun t k => k149 t (st151.trans k)
        have k153 : Way p e below S0 T151 (mkF m 103 #[iv p1, iv p2, iv (0 : Int32), iv (1 : Int32), iv (3 : Int32), rv b147, .unset, .unset] [(.int (1 : Int32))]) := by
          intro t k
          refine k152 t ?_
          refine XS.astore X151.here hx rfl (hb hby at_39) rfl rfl (l' := #[iv p1, iv p2, iv (0 : Int32), iv (1 : Int32), iv (3 : Int32), rv b147, .unset, .unset]) rfl ?_
          show Steps p.tables e below (T151.setTop (mkF m 41 #[iv p1, iv p2, iv (0 : Int32), iv (1 : Int32), iv (3 : Int32), rv b147, .unset, .unset] [])) _
          refine XS.iload X151.here hx rfl (hb hby at_41) rfl ?_
          show Steps p.tables e below (T151.setTop (mkF m 43 #[iv p1, iv p2, iv (0 : Int32), iv (1 : Int32), iv (3 : Int32), rv b147, .unset, .unset] [(.int (3 : Int32))])) _
          refine XS.ifYes X151.here hx rfl (pc0 := 43) (pc' := 59) rfl (hb hby at_43) rfl ((if0 _ _).trans (feq ((by decide) : ¬ ((3 : Int32) = (0 : Int32)))).2) (by decide) (by decide) ?_
          show Steps p.tables e below (T151.setTop (mkF m 59 #[iv p1, iv p2, iv (0 : Int32), iv (1 : Int32), iv (3 : Int32), rv b147, .unset, .unset] [])) _
          refine XS.iload X151.here hx rfl (hb hby at_59) rfl ?_
          show Steps p.tables e below (T151.setTop (mkF m 61 #[iv p1, iv p2, iv (0 : Int32), iv (1 : Int32), iv (3 : Int32), rv b147, .unset, .unset] [(.int (3 : Int32))])) _
          refine XS.iconst X151.here hx rfl (hb hby at_61) ?_
          show Steps p.tables e below (T151.setTop (mkF m 62 #[iv p1, iv p2, iv (0 : Int32), iv (1 : Int32), iv (3 : Int32), rv b147, .unset, .unset] [(.int (1 : Int32)), (.int (3 : Int32))])) _
          refine XS.icmpYes X151.here hx rfl (pc0 := 62) (pc' := 71) rfl (hb hby at_62) rfl (feq ((by decide) : ¬ ((3 : Int32) = (1 : Int32)))).2 (by decide) (by decide) ?_
          show Steps p.tables e below (T151.setTop (mkF m 71 #[iv p1, iv p2, iv (0 : Int32), iv (1 : Int32), iv (3 : Int32), rv b147, .unset, .unset] [])) _
          refine XS.iload X151.here hx rfl (hb hby at_71) rfl ?_
          show Steps p.tables e below (T151.setTop (mkF m 73 #[iv p1, iv p2, iv (0 : Int32), iv (1 : Int32), iv (3 : Int32), rv b147, .unset, .unset] [(.int (3 : Int32))])) _
          refine XS.iconst X151.here hx rfl (hb hby at_73) ?_
          show Steps p.tables e below (T151.setTop (mkF m 74 #[iv p1, iv p2, iv (0 : Int32), iv (1 : Int32), iv (3 : Int32), rv b147, .unset, .unset] [(.int (2 : Int32)), (.int (3 : Int32))])) _
          refine XS.icmpYes X151.here hx rfl (pc0 := 74) (pc' := 94) rfl (hb hby at_74) rfl (feq ((by decide) : ¬ ((3 : Int32) = (2 : Int32)))).2 (by decide) (by decide) ?_
          show Steps p.tables e below (T151.setTop (mkF m 94 #[iv p1, iv p2, iv (0 : Int32), iv (1 : Int32), iv (3 : Int32), rv b147, .unset, .unset] [])) _
          refine XS.iloadN X151.here hx rfl (hb hby at_94) rfl ?_
          show Steps p.tables e below (T151.setTop (mkF m 95 #[iv p1, iv p2, iv (0 : Int32), iv (1 : Int32), iv (3 : Int32), rv b147, .unset, .unset] [(.int (1 : Int32))])) _
          refine XS.ifNo X151.here hx rfl (hb hby at_95) rfl ((if0 _ _).trans (feq ((by decide) : ¬ ((1 : Int32) = (0 : Int32)))).1) ?_
          show Steps p.tables e below (T151.setTop (mkF m 98 #[iv p1, iv p2, iv (0 : Int32), iv (1 : Int32), iv (3 : Int32), rv b147, .unset, .unset] [])) _
          refine XS.iconst X151.here hx rfl (hb hby at_98) ?_
          show Steps p.tables e below (T151.setTop (mkF m 99 #[iv p1, iv p2, iv (0 : Int32), iv (1 : Int32), iv (3 : Int32), rv b147, .unset, .unset] [(.int (1 : Int32))])) _
          refine XS.goto X151.here hx rfl (pc0 := 99) (pc' := 103) rfl (hb hby at_99) (by decide) (by decide) ?_
          show Steps p.tables e below (T151.setTop (mkF m 103 #[iv p1, iv p2, iv (0 : Int32), iv (1 : Int32), iv (3 : Int32), rv b147, .unset, .unset] [(.int (1 : Int32))])) _
          exact k
        obtain ⟨_, _, ⟨T154, L154, kk154, nn154⟩, -, X154, ⟨Lc154, hQ154, l154, y154, z154⟩, st154⟩ := Jvm.LawKit.callS X151 hx (y := (⟨"java/lang/Integer", "valueOf", "(I)Ljava/lang/Integer;"⟩ : MethodName)) hown (mvT hZ (hw _ (List.mem_of_getElem? (i := 23) rfl))) (mvT hZ (hw _ (List.mem_of_getElem? (i := 24) rfl))) (mvT hZ (hw _ (List.mem_of_getElem? (i := 25) rfl))) (mvT hZ (hw _ (List.mem_of_getElem? (i := 26) rfl))) (by decide) (backOf (W := 0) (vofOld l Z a0 hw [] wC clC G (1 : Int32) T151.heap n0 O151 (by decide : ¬ ((1 : Int32) < (-128 : Int32))) (by decide : ¬ ((127 : Int32) < (1 : Int32)))) hZ (hw _ (List.mem_of_getElem? (i := 26) rfl)) (hw _ (List.mem_of_getElem? (i := 25) rfl)) (by decide) (by decide)) (g := (mkF m 103 #[iv p1, iv p2, iv (0 : Int32), iv (1 : Int32), iv (3 : Int32), rv b147, .unset, .unset] [(.int (1 : Int32))])) rfl (by rw [hml]; rfl) (argsL := [(.int (1 : Int32))]) (rest := []) (lenOf pd_4 rfl) rfl (by show 2 * 0 + _ ≤ _; exact Nat.le_of_eq rfl) (hb hby at_103) (fun _ _ => ⟨rfl, rfl, (by decide : 1 + 0 ≤ _), (by decide : 1 + 0 ≤ _)⟩)
        dsimp only [Pt.U, Pt.locs, Pt.cells, Pt.slots] at X154 l154 y154 z154 st154 hQ154
        subst l154 y154 z154
        obtain ⟨y1_154, rfl, Nq154, e154, po154_0⟩ := hQ154
        have N154 := Fr.app N151 Nq154
        rw [e154] at po154_0
        have k155 : Way p e below S0 T154 (mkF m 106 #[iv p1, iv p2, iv (0 : Int32), iv (1 : Int32), iv (3 : Int32), rv b147, .unset, .unset] [(.ref y1_154)]) := fun t k => k153 t (st154 _ k)
        have k156 : Way p e below S0 T154 (mkF m 129 #[iv p1, iv p2, iv (0 : Int32), iv (1 : Int32), iv (3 : Int32), rv b147, rv y1_154, iv (0 : Int32)] [(.ref y1_154), (.ref b147)]) := by
          intro t k
          refine k155 t ?_
          refine XS.astore X154.here hx rfl (hb hby at_106) rfl rfl (l' := #[iv p1, iv p2, iv (0 : Int32), iv (1 : Int32), iv (3 : Int32), rv b147, rv y1_154, .unset]) rfl ?_
          show Steps p.tables e below (T154.setTop (mkF m 108 #[iv p1, iv p2, iv (0 : Int32), iv (1 : Int32), iv (3 : Int32), rv b147, rv y1_154, .unset] [])) _
          refine XS.iload X154.here hx rfl (hb hby at_108) rfl ?_
          show Steps p.tables e below (T154.setTop (mkF m 110 #[iv p1, iv p2, iv (0 : Int32), iv (1 : Int32), iv (3 : Int32), rv b147, rv y1_154, .unset] [(.int (3 : Int32))])) _
          refine XS.ifYes X154.here hx rfl (pc0 := 110) (pc' := 122) rfl (hb hby at_110) rfl ((if0 _ _).trans (feq ((by decide) : ¬ ((3 : Int32) = (0 : Int32)))).2) (by decide) (by decide) ?_
          show Steps p.tables e below (T154.setTop (mkF m 122 #[iv p1, iv p2, iv (0 : Int32), iv (1 : Int32), iv (3 : Int32), rv b147, rv y1_154, .unset] [])) _
          refine XS.iconst X154.here hx rfl (hb hby at_122) ?_
          show Steps p.tables e below (T154.setTop (mkF m 123 #[iv p1, iv p2, iv (0 : Int32), iv (1 : Int32), iv (3 : Int32), rv b147, rv y1_154, .unset] [(.int (0 : Int32))])) _
          refine XS.istore X154.here hx rfl (hb hby at_123) rfl (l' := #[iv p1, iv p2, iv (0 : Int32), iv (1 : Int32), iv (3 : Int32), rv b147, rv y1_154, iv (0 : Int32)]) rfl ?_
          show Steps p.tables e below (T154.setTop (mkF m 125 #[iv p1, iv p2, iv (0 : Int32), iv (1 : Int32), iv (3 : Int32), rv b147, rv y1_154, iv (0 : Int32)] [])) _
          refine XS.aload X154.here hx rfl (hb hby at_125) rfl rfl ?_
          show Steps p.tables e below (T154.setTop (mkF m 127 #[iv p1, iv p2, iv (0 : Int32), iv (1 : Int32), iv (3 : Int32), rv b147, rv y1_154, iv (0 : Int32)] [(.ref b147)])) _
          refine XS.aload X154.here hx rfl (hb hby at_127) rfl rfl ?_
          show Steps p.tables e below (T154.setTop (mkF m 129 #[iv p1, iv p2, iv (0 : Int32), iv (1 : Int32), iv (3 : Int32), rv b147, rv y1_154, iv (0 : Int32)] [(.ref y1_154), (.ref b147)])) _
          exact k
        obtain ⟨cq157, kq157, qq157a, qq157b, qq157c⟩ := isOf hZ e154 po151_0
        obtain ⟨_, _, ⟨T157, L157, kk157, nn157⟩, -, X157, ⟨Lc157, hQ157, l157, y157, z157⟩, st157⟩ := X154.virtualBack hx (y := (⟨"com/example/stubwright/stubwright/idl/ConstValue$BooleanValue", "equals", "(Ljava/lang/Object;)Z"⟩ : MethodName)) (z := (⟨"com/example/stubwright/stubwright/idl/ConstValue$BooleanValue", "equals", "(Ljava/lang/Object;)Z"⟩ : MethodName)) hown (mvT hZ (hw _ (List.mem_of_getElem? (i := 16) rfl))) (mvT hZ (hw _ (List.mem_of_getElem? (i := 17) rfl))) (notFace_of_selects (args := #[]) (mvT hZ (hw _ (List.mem_of_getElem? (i := 19) rfl)))) (mvT hZ (hw _ (List.mem_of_getElem? (i := 19) rfl))) (mvT hZ (hw _ (List.mem_of_getElem? (i := 18) rfl))) (by decide) (backOf (W := 0) (eqOther1 l Z a0 hw [] wC clC G b147 y1_154 T151.heap n0 O151 (po154_0 : Exa Z T151.heap y1_154 "java/lang/Integer")) hZ (hw _ (List.mem_of_getElem? (i := 20) rfl)) (hw _ (List.mem_of_getElem? (i := 2) rfl)) (by decide) (by decide)) qq157a qq157c (g := (mkF m 129 #[iv p1, iv p2, iv (0 : Int32), iv (1 : Int32), iv (3 : Int32), rv b147, rv y1_154, iv (0 : Int32)] [(.ref y1_154), (.ref b147)])) rfl (by rw [hml]; rfl) (Steps.refl _) (argsL := [(.ref y1_154)]) (rest := []) (lenOf pd_2 rfl) rfl (by show 2 * 0 + _ ≤ _; exact Nat.le_of_eq rfl) (hb hby at_129) (fun _ _ => ⟨rfl, e154, (by decide : 1 + 0 ≤ _), (by decide : 1 + 0 ≤ _)⟩)
        dsimp only [Pt.U, Pt.locs, Pt.cells, Pt.slots] at X157 l157 y157 z157 st157 hQ157
        subst l157 y157 z157
        obtain ⟨rfl, Nq157, e157⟩ := hQ157
        have N157 := Fr.app N154 Nq157
        have k158 : Way p e below S0 T157 (mkF m 132 #[iv p1, iv p2, iv (0 : Int32), iv (1 : Int32), iv (3 : Int32), rv b147, rv y1_154, iv (0 : Int32)] [(.int (0 : Int32))]) := fun t k => k156 t (st157.trans k)
        have k159 : Way p e below S0 T157 (mkF m 141 #[iv p1, iv p2, iv (0 : Int32), iv (1 : Int32), iv (3 : Int32), rv b147, rv y1_154, iv (0 : Int32)] [(.ref b147), (.ref b147)]) := by
          intro t k
          refine k158 t ?_
          refine XS.iload X157.here hx rfl (hb hby at_132) rfl ?_
          show Steps p.tables e below (T157.setTop (mkF m 134 #[iv p1, iv p2, iv (0 : Int32), iv (1 : Int32), iv (3 : Int32), rv b147, rv y1_154, iv (0 : Int32)] [(.int (0 : Int32)), (.int (0 : Int32))])) _
          refine XS.icmpNo X157.here hx rfl (hb hby at_134) rfl (teq ((by decide) : (0 : Int32) = (0 : Int32))).2 ?_
          show Steps p.tables e below (T157.setTop (mkF m 137 #[iv p1, iv p2, iv (0 : Int32), iv (1 : Int32), iv (3 : Int32), rv b147, rv y1_154, iv (0 : Int32)] [])) _
          refine XS.aload X157.here hx rfl (hb hby at_137) rfl rfl ?_
          show Steps p.tables e below (T157.setTop (mkF m 139 #[iv p1, iv p2, iv (0 : Int32), iv (1 : Int32), iv (3 : Int32), rv b147, rv y1_154, iv (0 : Int32)] [(.ref b147)])) _
          refine XS.aload X157.here hx rfl (hb hby at_139) rfl rfl ?_
          show Steps p.tables e below (T157.setTop (mkF m 141 #[iv p1, iv p2, iv (0 : Int32), iv (1 : Int32), iv (3 : Int32), rv b147, rv y1_154, iv (0 : Int32)] [(.ref b147), (.ref b147)])) _
          exact k
        obtain ⟨cq160, kq160, qq160a, qq160b, qq160c⟩ := isOf hZ e157 po151_0
        obtain ⟨_, _, ⟨T160, L160, kk160, nn160⟩, -, X160, ⟨Lc160, hQ160, l160, y160, z160⟩, st160⟩ := X157.virtualBack hx (y := (⟨"com/example/stubwright/stubwright/idl/ConstValue$BooleanValue", "equals", "(Ljava/lang/Object;)Z"⟩ : MethodName)) (z := (⟨"com/example/stubwright/stubwright/idl/ConstValue$BooleanValue", "equals", "(Ljava/lang/Object;)Z"⟩ : MethodName)) hown (mvT hZ (hw _ (List.mem_of_getElem? (i := 16) rfl))) (mvT hZ (hw _ (List.mem_of_getElem? (i := 17) rfl))) (notFace_of_selects (args := #[]) (mvT hZ (hw _ (List.mem_of_getElem? (i := 19) rfl)))) (mvT hZ (hw _ (List.mem_of_getElem? (i := 19) rfl))) (mvT hZ (hw _ (List.mem_of_getElem? (i := 18) rfl))) (by decide) (backOf (W := 0) (eq00 l Z a0 hw [] wC clC G b147 b147 T151.heap n0 O151 (po151_0 : Exa Z T151.heap b147 "com/example/stubwright/stubwright/idl/ConstValue$BooleanValue") (po151_1 : Fld Z T151.heap b147 "com/example/stubwright/stubwright/idl/ConstValue$BooleanValue" "value" "Z" (.int (0 : Int32))) (po151_1 : Fld Z T151.heap b147 "com/example/stubwright/stubwright/idl/ConstValue$BooleanValue" "value" "Z" (.int (0 : Int32)))) hZ (hw _ (List.mem_of_getElem? (i := 20) rfl)) (hw _ (List.mem_of_getElem? (i := 2) rfl)) (by decide) (by decide)) qq160a qq160c (g := (mkF m 141 #[iv p1, iv p2, iv (0 : Int32), iv (1 : Int32), iv (3 : Int32), rv b147, rv y1_154, iv (0 : Int32)] [(.ref b147), (.ref b147)])) rfl (by rw [hml]; rfl) (Steps.refl _) (argsL := [(.ref b147)]) (rest := []) (lenOf pd_2 rfl) rfl (by show 2 * 0 + _ ≤ _; exact Nat.le_of_eq rfl) (hb hby at_141) (fun _ _ => ⟨rfl, e157, (by decide : 1 + 0 ≤ _), (by decide : 1 + 0 ≤ _)⟩)
        dsimp only [Pt.U, Pt.locs, Pt.cells, Pt.slots] at X160 l160 y160 z160 st160 hQ160
        subst l160 y160 z160
        obtain ⟨rfl, Nq160, e160⟩ := hQ160
        have N160 := Fr.app N157 Nq160
        have k161 : Way p e below S0 T160 (mkF m 144 #[iv p1, iv p2, iv (0 : Int32), iv (1 : Int32), iv (3 : Int32), rv b147, rv y1_154, iv (0 : Int32)] [(.int (1 : Int32))]) := fun t k => k159 t (st160.trans k)
        have k162 : Way p e below S0 T160 (mkF m 152 #[iv p1, iv p2, iv (0 : Int32), iv (1 : Int32), iv (3 : Int32), rv b147, rv y1_154, iv (0 : Int32)] [(.int (1 : Int32))]) := by
          intro t k
          refine k161 t ?_
          refine XS.ifNo X160.here hx rfl (hb hby at_144) rfl ((if0 _ _).trans (feq ((by decide) : ¬ ((1 : Int32) = (0 : Int32)))).1) ?_
          show Steps p.tables e below (T160.setTop (mkF m 147 #[iv p1, iv p2, iv (0 : Int32), iv (1 : Int32), iv (3 : Int32), rv b147, rv y1_154, iv (0 : Int32)] [])) _
          refine XS.iconst X160.here hx rfl (hb hby at_147) ?_
          show Steps p.tables e below (T160.setTop (mkF m 148 #[iv p1, iv p2, iv (0 : Int32), iv (1 : Int32), iv (3 : Int32), rv b147, rv y1_154, iv (0 : Int32)] [(.int (1 : Int32))])) _
          refine XS.goto X160.here hx rfl (pc0 := 148) (pc' := 152) rfl (hb hby at_148) (by decide) (by decide) ?_
          show Steps p.tables e below (T160.setTop (mkF m 152 #[iv p1, iv p2, iv (0 : Int32), iv (1 : Int32), iv (3 : Int32), rv b147, rv y1_154, iv (0 : Int32)] [(.int (1 : Int32))])) _
          exact k
        obtain ⟨fs, hr, hrun, hended, hW, hsame⟩ := X160.leave (v := some (.int (1 : Int32))) (fun h => by rw [Bd.returns] at h; cases h)
        refine ⟨_, _, k162 _ (retN X160 hx (t := .boolean) Bd.returns (by simp) (hb hby at_152) hr), hrun, hended, _, _, rfl, ?_, ⟨_, rfl⟩, hW, hsame.mono (by decide) (by decide)⟩
        show Q_law_met Z wC clC p1 p2 h0 n0 _ T160.heap _
        rw [e160]
        exact ⟨rfl, N160⟩
  · have k164 : Way p e below S0 s₁ (mkF m 15 #[iv p1, iv p2, iv (1 : Int32), .unset, .unset, .unset, .unset, .unset] [(.int (p1 &&& (2 : Int32)))]) := by
      intro t k
      refine k2 t ?_
      refine XS.ifNo X0.here hx rfl (hb hby at_3) rfl ((if0 _ _).trans (feq (hc1 : ¬ ((p1 &&& (1 : Int32)) = (0 : Int32)))).1) ?_
      show Steps p.tables e below (s₁.setTop (mkF m 6 #[iv p1, iv p2, .unset, .unset, .unset, .unset, .unset, .unset] [])) _
      refine XS.iconst X0.here hx rfl (hb hby at_6) ?_
      show Steps p.tables e below (s₁.setTop (mkF m 7 #[iv p1, iv p2, .unset, .unset, .unset, .unset, .unset, .unset] [(.int (1 : Int32))])) _
      refine XS.goto X0.here hx rfl (pc0 := 7) (pc' := 11) rfl (hb hby at_7) (by decide) (by decide) ?_
      show Steps p.tables e below (s₁.setTop (mkF m 11 #[iv p1, iv p2, .unset, .unset, .unset, .unset, .unset, .unset] [(.int (1 : Int32))])) _
      refine XS.istoreN X0.here hx rfl (hb hby at_11) rfl (l' := #[iv p1, iv p2, iv (1 : Int32), .unset, .unset, .unset, .unset, .unset]) rfl ?_
      show Steps p.tables e below (s₁.setTop (mkF m 12 #[iv p1, iv p2, iv (1 : Int32), .unset, .unset, .unset, .unset, .unset] [])) _
      refine XS.iloadN X0.here hx rfl (hb hby at_12) rfl ?_
      show Steps p.tables e below (s₁.setTop (mkF m 13 #[iv p1, iv p2, iv (1 : Int32), .unset, .unset, .unset, .unset, .unset] [(.int p1)])) _
      refine XS.iconst X0.here hx rfl (hb hby at_13) ?_
      show Steps p.tables e below (s₁.setTop (mkF m 14 #[iv p1, iv p2, iv (1 : Int32), .unset, .unset, .unset, .unset, .unset] [(.int (2 : Int32)), (.int p1)])) _
      refine XS.iand X0.here hx rfl (hb hby at_14) rfl ?_
      show Steps p.tables e below (s₁.setTop (mkF m 15 #[iv p1, iv p2, iv (1 : Int32), .unset, .unset, .unset, .unset, .unset] [(.int (p1 &&& (2 : Int32)))])) _
      exact k
    by_cases hc163 : (p1 &&& (2 : Int32)) = (0 : Int32)
    · have k165 : Way p e below S0 s₁ (mkF m 31 #[iv p1, iv p2, iv (1 : Int32), iv (0 : Int32), iv (((p1.toUInt32 >>> ((2 : Int32) &&& 31).toUInt32).toInt32) &&& (3 : Int32)), .unset, .unset, .unset] []) := by
        intro t k
        refine k164 t ?_
        refine XS.ifYes X0.here hx rfl (pc0 := 15) (pc' := 22) rfl (hb hby at_15) rfl ((if0 _ _).trans (teq (hc163 : (p1 &&& (2 : Int32)) = (0 : Int32))).1) (by decide) (by decide) ?_
        show Steps p.tables e below (s₁.setTop (mkF m 22 #[iv p1, iv p2, iv (1 : Int32), .unset, .unset, .unset, .unset, .unset] [])) _
        refine XS.iconst X0.here hx rfl (hb hby at_22) ?_
        show Steps p.tables e below (s₁.setTop (mkF m 23 #[iv p1, iv p2, iv (1 : Int32), .unset, .unset, .unset, .unset, .unset] [(.int (0 : Int32))])) _
        refine XS.istoreN X0.here hx rfl (hb hby at_23) rfl (l' := #[iv p1, iv p2, iv (1 : Int32), iv (0 : Int32), .unset, .unset, .unset, .unset]) rfl ?_
        show Steps p.tables e below (s₁.setTop (mkF m 24 #[iv p1, iv p2, iv (1 : Int32), iv (0 : Int32), .unset, .unset, .unset, .unset] [])) _
        refine XS.iloadN X0.here hx rfl (hb hby at_24) rfl ?_
        show Steps p.tables e below (s₁.setTop (mkF m 25 #[iv p1, iv p2, iv (1 : Int32), iv (0 : Int32), .unset, .unset, .unset, .unset] [(.int p1)])) _
        refine XS.iconst X0.here hx rfl (hb hby at_25) ?_
        show Steps p.tables e below (s₁.setTop (mkF m 26 #[iv p1, iv p2, iv (1 : Int32), iv (0 : Int32), .unset, .unset, .unset, .unset] [(.int (2 : Int32)), (.int p1)])) _
        refine XS.iushr X0.here hx rfl (hb hby at_26) rfl ?_
        show Steps p.tables e below (s₁.setTop (mkF m 27 #[iv p1, iv p2, iv (1 : Int32), iv (0 : Int32), .unset, .unset, .unset, .unset] [(.int ((p1.toUInt32 >>> ((2 : Int32) &&& 31).toUInt32).toInt32))])) _
        refine XS.iconst X0.here hx rfl (hb hby at_27) ?_
        show Steps p.tables e below (s₁.setTop (mkF m 28 #[iv p1, iv p2, iv (1 : Int32), iv (0 : Int32), .unset, .unset, .unset, .unset] [(.int (3 : Int32)), (.int ((p1.toUInt32 >>> ((2 : Int32) &&& 31).toUInt32).toInt32))])) _
        refine XS.iand X0.here hx rfl (hb hby at_28) rfl ?_
        show Steps p.tables e below (s₁.setTop (mkF m 29 #[iv p1, iv p2, iv (1 : Int32), iv (0 : Int32), .unset, .unset, .unset, .unset] [(.int (((p1.toUInt32 >>> ((2 : Int32) &&& 31).toUInt32).toInt32) &&& (3 : Int32)))])) _
        refine XS.istore X0.here hx rfl (hb hby at_29) rfl (l' := #[iv p1, iv p2, iv (1 : Int32), iv (0 : Int32), iv (((p1.toUInt32 >>> ((2 : Int32) &&& 31).toUInt32).toInt32) &&& (3 : Int32)), .unset, .unset, .unset]) rfl ?_
        show Steps p.tables e below (s₁.setTop (mkF m 31 #[iv p1, iv p2, iv (1 : Int32), iv (0 : Int32), iv (((p1.toUInt32 >>> ((2 : Int32) &&& 31).toUInt32).toInt32) &&& (3 : Int32)), .unset, .unset, .unset] [])) _
        exact k
      have hr166 : (((p1.toUInt32 >>> ((2 : Int32) &&& 31).toUInt32).toInt32) &&& (3 : Int32)) = (0 : Int32) ∨ (((p1.toUInt32 >>> ((2 : Int32) &&& 31).toUInt32).toInt32) &&& (3 : Int32)) = (1 : Int32) ∨ (((p1.toUInt32 >>> ((2 : Int32) &&& 31).toUInt32).toInt32) &&& (3 : Int32)) = (2 : Int32) ∨ (((p1.toUInt32 >>> ((2 : Int32) &&& 31).toUInt32).toInt32) &&& (3 : Int32)) = (3 : Int32) := own_mask3 _
      rcases hr166 with hi166 | hi166 | hi166 | hi166
      · have k167 : Way p e below S0 s₁ (mkF m 31 #[iv p1, iv p2, iv (1 : Int32), iv (0 : Int32), iv (0 : Int32), .unset, .unset, .unset] []) := by have q := k165; rw [hi166] at q; exact q
        obtain ⟨T168, h168, X168, e168, E168, A168, D168, U168, st168⟩ := newO X0 hx hZ hown (hw _ (List.mem_of_getElem? (i := 0) rfl)) (hw _ (List.mem_of_getElem? (i := 1) rfl)) (hw _ (List.mem_of_getElem? (i := 2) rfl)) e0 (g := (mkF m 31 #[iv p1, iv p2, iv (1 : Int32), iv (0 : Int32), iv (0 : Int32), .unset, .unset, .unset] [])) rfl (hb hby at_31) (by decide) (by decide)
        obtain ⟨b168, g168⟩ : ∃ z, z = h0.size := ⟨_, rfl⟩
        rw [← g168] at A168 D168 U168 st168
        have O168 := O0.ext E168
        have i168_value : Fld Z h168 b168 "com/example/stubwright/stubwright/idl/ConstValue$BooleanValue" "value" "Z" (.int (0 : Int32)) := D168 (Or.inr (hw _ (List.mem_of_getElem? (i := 15) rfl))) (ty := .boolean) (by decide)
        have k169 : Way p e below S0 T168 (mkF m 34 #[iv p1, iv p2, iv (1 : Int32), iv (0 : Int32), iv (0 : Int32), .unset, .unset, .unset] [(.ref b168)]) := fun t k => k167 t (st168 _ k)
        have k170 : Way p e below S0 T168 (mkF m 36 #[iv p1, iv p2, iv (1 : Int32), iv (0 : Int32), iv (0 : Int32), .unset, .unset, .unset] [(.int (1 : Int32)), (.ref b168), (.ref b168)]) := by
          intro t k
          refine k169 t ?_
          refine XS.dup X168.here hx rfl (hb hby at_34) rfl rfl ?_
          show Steps p.tables e below (T168.setTop (mkF m 35 #[iv p1, iv p2, iv (1 : Int32), iv (0 : Int32), iv (0 : Int32), .unset, .unset, .unset] [(.ref b168), (.ref b168)])) _
          refine XS.iloadN X168.here hx rfl (hb hby at_35) rfl ?_
          show Steps p.tables e below (T168.setTop (mkF m 36 #[iv p1, iv p2, iv (1 : Int32), iv (0 : Int32), iv (0 : Int32), .unset, .unset, .unset] [(.int (1 : Int32)), (.ref b168), (.ref b168)])) _
          exact k
        have ge171 : n0 ≤ b168 := Nat.le_trans (own_old O0) (Nat.le_of_eq g168.symm)
        obtain ⟨_, _, ⟨T172, L172, kk172, nn172⟩, -, X172, ⟨Lc172, hQ172, l172, y172, z172⟩, st172⟩ := X168.specialBack hx (y := (⟨"com/example/stubwright/stubwright/idl/ConstValue$BooleanValue", "<init>", "(Z)V"⟩ : MethodName)) rfl hown (mvT hZ (hw _ (List.mem_of_getElem? (i := 3) rfl))) (mvT hZ (hw _ (List.mem_of_getElem? (i := 4) rfl))) (mvT hZ (hw _ (List.mem_of_getElem? (i := 5) rfl))) (by decide) (backOf (W := 1) (bvInit1 l Z a0 hw [] wC clC G b168 h168 n0 O168 (A168 : Exa Z h168 b168 "com/example/stubwright/stubwright/idl/ConstValue$BooleanValue") (i168_value : Fld Z h168 b168 "com/example/stubwright/stubwright/idl/ConstValue$BooleanValue" "value" "Z" (.int (0 : Int32))) (ge171 : n0 ≤ b168)) hZ (hw _ (List.mem_of_getElem? (i := 5) rfl)) (hw _ (List.mem_of_getElem? (i := 2) rfl)) (by decide) (by decide)) (g := (mkF m 36 #[iv p1, iv p2, iv (1 : Int32), iv (0 : Int32), iv (0 : Int32), .unset, .unset, .unset] [(.int (1 : Int32)), (.ref b168), (.ref b168)])) rfl (by rw [hml]; rfl) (Steps.refl _) (a := b168) (argsL := [(.int (1 : Int32))]) (rest := [(.ref b168)]) (lenOf pd_1 rfl) rfl (by show 2 * 0 + _ ≤ _; exact Nat.le_of_eq rfl) (hb hby at_36) (fun _ _ => ⟨rfl, e168, (by decide : 1 + 0 ≤ _), (by decide : 1 + 0 ≤ _)⟩)
        dsimp only [Pt.U, Pt.locs, Pt.cells, Pt.slots] at X172 l172 y172 z172 st172 hQ172
        subst l172 y172 z172
        obtain ⟨rfl, Nq172, Kq172, po172_0, po172_1⟩ := hQ172
        have N172 := Fr.app N0 Nq172
        have O172 := O168.keep Kq172 (allS ge171 all0)
        have k173 : Way p e below S0 T172 (mkF m 39 #[iv p1, iv p2, iv (1 : Int32), iv (0 : Int32), iv (0 : Int32), .unset, .unset, .unset] [(.ref b168)]) := fun t k => k170 t (st172.trans k)
        have k174 : Way p e below S0 T172 (mkF m 46 #[iv p1, iv p2, iv (1 : Int32), iv (0 : Int32), iv (0 : Int32), rv b168, .unset, .unset] []) := by
          intro t k
          refine k173 t ?_
          refine XS.astore X172.here hx rfl (hb hby at_39) rfl rfl (l' := #[iv p1, iv p2, iv (1 : Int32), iv (0 : Int32), iv (0 : Int32), rv b168, .unset, .unset]) rfl ?_
          show Steps p.tables e below (T172.setTop (mkF m 41 #[iv p1, iv p2, iv (1 : Int32), iv (0 : Int32), iv (0 : Int32), rv b168, .unset, .unset] [])) _
          refine XS.iload X172.here hx rfl (hb hby at_41) rfl ?_
          show Steps p.tables e below (T172.setTop (mkF m 43 #[iv p1, iv p2, iv (1 : Int32), iv (0 : Int32), iv (0 : Int32), rv b168, .unset, .unset] [(.int (0 : Int32))])) _
          refine XS.ifNo X172.here hx rfl (hb hby at_43) rfl ((if0 _ _).trans (teq ((by decide) : (0 : Int32) = (0 : Int32))).2) ?_
          show Steps p.tables e below (T172.setTop (mkF m 46 #[iv p1, iv p2, iv (1 : Int32), iv (0 : Int32), iv (0 : Int32), rv b168, .unset, .unset] [])) _
          exact k
        obtain ⟨T175, h175, X175, e175, E175, A175, D175, U175, st175⟩ := newO X172 hx hZ hown (hw _ (List.mem_of_getElem? (i := 0) rfl)) (hw _ (List.mem_of_getElem? (i := 1) rfl)) (hw _ (List.mem_of_getElem? (i := 2) rfl)) rfl (g := (mkF m 46 #[iv p1, iv p2, iv (1 : Int32), iv (0 : Int32), iv (0 : Int32), rv b168, .unset, .unset] [])) rfl (hb hby at_46) (by decide) (by decide)
        obtain ⟨b175, g175⟩ : ∃ z, z = T172.heap.size := ⟨_, rfl⟩
        rw [← g175] at A175 D175 U175 st175
        have O175 := O172.ext E175
        have i175_value : Fld Z h175 b175 "com/example/stubwright/stubwright/idl/ConstValue$BooleanValue" "value" "Z" (.int (0 : Int32)) := D175 (Or.inr (hw _ (List.mem_of_getElem? (i := 15) rfl))) (ty := .boolean) (by decide)
        have k176 : Way p e below S0 T175 (mkF m 49 #[iv p1, iv p2, iv (1 : Int32), iv (0 : Int32), iv (0 : Int32), rv b168, .unset, .unset] [(.ref b175)]) := fun t k => k174 t (st175 _ k)
        have k177 : Way p e below S0 T175 (mkF m 51 #[iv p1, iv p2, iv (1 : Int32), iv (0 : Int32), iv (0 : Int32), rv b168, .unset, .unset] [(.int (0 : Int32)), (.ref b175), (.ref b175)]) := by
          intro t k
          refine k176 t ?_
          refine XS.dup X175.here hx rfl (hb hby at_49) rfl rfl ?_
          show Steps p.tables e below (T175.setTop (mkF m 50 #[iv p1, iv p2, iv (1 : Int32), iv (0 : Int32), iv (0 : Int32), rv b168, .unset, .unset] [(.ref b175), (.ref b175)])) _
          refine XS.iloadN X175.here hx rfl (hb hby at_50) rfl ?_
          show Steps p.tables e below (T175.setTop (mkF m 51 #[iv p1, iv p2, iv (1 : Int32), iv (0 : Int32), iv (0 : Int32), rv b168, .unset, .unset] [(.int (0 : Int32)), (.ref b175), (.ref b175)])) _
          exact k
        have ge178 : n0 ≤ b175 := Nat.le_trans (own_old O172) (Nat.le_of_eq g175.symm)
        obtain ⟨_, _, ⟨T179, L179, kk179, nn179⟩, -, X179, ⟨Lc179, hQ179, l179, y179, z179⟩, st179⟩ := X175.specialBack hx (y := (⟨"com/example/stubwright/stubwright/idl/ConstValue$BooleanValue", "<init>", "(Z)V"⟩ : MethodName)) rfl hown (mvT hZ (hw _ (List.mem_of_getElem? (i := 3) rfl))) (mvT hZ (hw _ (List.mem_of_getElem? (i := 4) rfl))) (mvT hZ (hw _ (List.mem_of_getElem? (i := 5) rfl))) (by decide) (backOf (W := 1) (bvInit0 l Z a0 hw [] wC clC G b175 h175 n0 O175 (A175 : Exa Z h175 b175 "com/example/stubwright/stubwright/idl/ConstValue$BooleanValue") (i175_value : Fld Z h175 b175 "com/example/stubwright/stubwright/idl/ConstValue$BooleanValue" "value" "Z" (.int (0 : Int32))) (ge178 : n0 ≤ b175)) hZ (hw _ (List.mem_of_getElem? (i := 5) rfl)) (hw _ (List.mem_of_getElem? (i := 2) rfl)) (by decide) (by decide)) (g := (mkF m 51 #[iv p1, iv p2, iv (1 : Int32), iv (0 : Int32), iv (0 : Int32), rv b168, .unset, .unset] [(.int (0 : Int32)), (.ref b175), (.ref b175)])) rfl (by rw [hml]; rfl) (Steps.refl _) (a := b175) (argsL := [(.int (0 : Int32))]) (rest := [(.ref b175)]) (lenOf pd_1 rfl) rfl (by show 2 * 0 + _ ≤ _; exact Nat.le_of_eq rfl) (hb hby at_51) (fun _ _ => ⟨rfl, e175, (by decide : 2 + 0 ≤ _), (by decide : 2 + 0 ≤ _)⟩)
        dsimp only [Pt.U, Pt.locs, Pt.cells, Pt.slots] at X179 l179 y179 z179 st179 hQ179
        subst l179 y179 z179
        obtain ⟨rfl, Nq179, Kq179, po179_0, po179_1⟩ := hQ179
        have N179 := Fr.app N172 Nq179
        have O179 := O175.keep Kq179 (allS ge178 all0)
        have k180 : Way p e below S0 T179 (mkF m 54 #[iv p1, iv p2, iv (1 : Int32), iv (0 : Int32), iv (0 : Int32), rv b168, .unset, .unset] [(.ref b175)]) := fun t k => k177 t (st179.trans k)
        have k181 : Way p e below S0 T179 (mkF m 129 #[iv p1, iv p2, iv (1 : Int32), iv (0 : Int32), iv (0 : Int32), rv b168, rv b175, iv (0 : Int32)] [(.ref b175), (.ref b168)]) := by
          intro t k
          refine k180 t ?_
          refine XS.astore X179.here hx rfl (hb hby at_54) rfl rfl (l' := #[iv p1, iv p2, iv (1 : Int32), iv (0 : Int32), iv (0 : Int32), rv b168, rv b175, .unset]) rfl ?_
          show Steps p.tables e below (T179.setTop (mkF m 56 #[iv p1, iv p2, iv (1 : Int32), iv (0 : Int32), iv (0 : Int32), rv b168, rv b175, .unset] [])) _
          refine XS.goto X179.here hx rfl (pc0 := 56) (pc' := 108) rfl (hb hby at_56) (by decide) (by decide) ?_
          show Steps p.tables e below (T179.setTop (mkF m 108 #[iv p1, iv p2, iv (1 : Int32), iv (0 : Int32), iv (0 : Int32), rv b168, rv b175, .unset] [])) _
          refine XS.iload X179.here hx rfl (hb hby at_108) rfl ?_
          show Steps p.tables e below (T179.setTop (mkF m 110 #[iv p1, iv p2, iv (1 : Int32), iv (0 : Int32), iv (0 : Int32), rv b168, rv b175, .unset] [(.int (0 : Int32))])) _
          refine XS.ifNo X179.here hx rfl (hb hby at_110) rfl ((if0 _ _).trans (teq ((by decide) : (0 : Int32) = (0 : Int32))).2) ?_
          show Steps p.tables e below (T179.setTop (mkF m 113 #[iv p1, iv p2, iv (1 : Int32), iv (0 : Int32), iv (0 : Int32), rv b168, rv b175, .unset] [])) _
          refine XS.iloadN X179.here hx rfl (hb hby at_113) rfl ?_
          show Steps p.tables e below (T179.setTop (mkF m 114 #[iv p1, iv p2, iv (1 : Int32), iv (0 : Int32), iv (0 : Int32), rv b168, rv b175, .unset] [(.int (1 : Int32))])) _
          refine XS.iloadN X179.here hx rfl (hb hby at_114) rfl ?_
          show Steps p.tables e below (T179.setTop (mkF m 115 #[iv p1, iv p2, iv (1 : Int32), iv (0 : Int32), iv (0 : Int32), rv b168, rv b175, .unset] [(.int (0 : Int32)), (.int (1 : Int32))])) _
          refine XS.icmpYes X179.here hx rfl (pc0 := 115) (pc' := 122) rfl (hb hby at_115) rfl (feq ((by decide) : ¬ ((1 : Int32) = (0 : Int32)))).2 (by decide) (by decide) ?_
          show Steps p.tables e below (T179.setTop (mkF m 122 #[iv p1, iv p2, iv (1 : Int32), iv (0 : Int32), iv (0 : Int32), rv b168, rv b175, .unset] [])) _
          refine XS.iconst X179.here hx rfl (hb hby at_122) ?_
          show Steps p.tables e below (T179.setTop (mkF m 123 #[iv p1, iv p2, iv (1 : Int32), iv (0 : Int32), iv (0 : Int32), rv b168, rv b175, .unset] [(.int (0 : Int32))])) _
          refine XS.istore X179.here hx rfl (hb hby at_123) rfl (l' := #[iv p1, iv p2, iv (1 : Int32), iv (0 : Int32), iv (0 : Int32), rv b168, rv b175, iv (0 : Int32)]) rfl ?_
          show Steps p.tables e below (T179.setTop (mkF m 125 #[iv p1, iv p2, iv (1 : Int32), iv (0 : Int32), iv (0 : Int32), rv b168, rv b175, iv (0 : Int32)] [])) _
          refine XS.aload X179.here hx rfl (hb hby at_125) rfl rfl ?_
          show Steps p.tables e below (T179.setTop (mkF m 127 #[iv p1, iv p2, iv (1 : Int32), iv (0 : Int32), iv (0 : Int32), rv b168, rv b175, iv (0 : Int32)] [(.ref b168)])) _
          refine XS.aload X179.here hx rfl (hb hby at_127) rfl rfl ?_
          show Steps p.tables e below (T179.setTop (mkF m 129 #[iv p1, iv p2, iv (1 : Int32), iv (0 : Int32), iv (0 : Int32), rv b168, rv b175, iv (0 : Int32)] [(.ref b175), (.ref b168)])) _
          exact k
        have f182 : Fld Z T179.heap b168 "com/example/stubwright/stubwright/idl/ConstValue$BooleanValue" "value" "Z" (.int (1 : Int32)) := ((po172_1.ext E175).keep Kq179 (ninS (Nat.ne_of_lt (Nat.lt_of_lt_of_le po172_0.lt (Nat.le_of_eq g175.symm))) nin0))
        have f184 : Exa Z T179.heap b168 "com/example/stubwright/stubwright/idl/ConstValue$BooleanValue" := ((po172_0.ext E175).keep Kq179)
        obtain ⟨cq183, kq183, qq183a, qq183b, qq183c⟩ := isOf hZ rfl f184
        obtain ⟨_, _, ⟨T183, L183, kk183, nn183⟩, -, X183, ⟨Lc183, hQ183, l183, y183, z183⟩, st183⟩ := X179.virtualBack hx (y := (⟨"com/example/stubwright/stubwright/idl/ConstValue$BooleanValue", "equals", "(Ljava/lang/Object;)Z"⟩ : MethodName)) (z := (⟨"com/example/stubwright/stubwright/idl/ConstValue$BooleanValue", "equals", "(Ljava/lang/Object;)Z"⟩ : MethodName)) hown (mvT hZ (hw _ (List.mem_of_getElem? (i := 16) rfl))) (mvT hZ (hw _ (List.mem_of_getElem? (i := 17) rfl))) (notFace_of_selects (args := #[]) (mvT hZ (hw _ (List.mem_of_getElem? (i := 19) rfl)))) (mvT hZ (hw _ (List.mem_of_getElem? (i := 19) rfl))) (mvT hZ (hw _ (List.mem_of_getElem? (i := 18) rfl))) (by decide) (backOf (W := 0) (eq10 l Z a0 hw [] wC clC G b168 b175 T179.heap n0 O179 (po179_0 : Exa Z T179.heap b175 "com/example/stubwright/stubwright/idl/ConstValue$BooleanValue") (f182 : Fld Z T179.heap b168 "com/example/stubwright/stubwright/idl/ConstValue$BooleanValue" "value" "Z" (.int (1 : Int32))) (po179_1 : Fld Z T179.heap b175 "com/example/stubwright/stubwright/idl/ConstValue$BooleanValue" "value" "Z" (.int (0 : Int32)))) hZ (hw _ (List.mem_of_getElem? (i := 20) rfl)) (hw _ (List.mem_of_getElem? (i := 2) rfl)) (by decide) (by decide)) qq183a qq183c (g := (mkF m 129 #[iv p1, iv p2, iv (1 : Int32), iv (0 : Int32), iv (0 : Int32), rv b168, rv b175, iv (0 : Int32)] [(.ref b175), (.ref b168)])) rfl (by rw [hml]; rfl) (Steps.refl _) (argsL := [(.ref b175)]) (rest := []) (lenOf pd_2 rfl) rfl (by show 2 * 0 + _ ≤ _; exact Nat.le_of_eq rfl) (hb hby at_129) (fun _ _ => ⟨rfl, rfl, (by decide : 2 + 0 ≤ _), (by decide : 2 + 0 ≤ _)⟩)
        dsimp only [Pt.U, Pt.locs, Pt.cells, Pt.slots] at X183 l183 y183 z183 st183 hQ183
        subst l183 y183 z183
        obtain ⟨rfl, Nq183, e183⟩ := hQ183
        have N183 := Fr.app N179 Nq183
        have k185 : Way p e below S0 T183 (mkF m 132 #[iv p1, iv p2, iv (1 : Int32), iv (0 : Int32), iv (0 : Int32), rv b168, rv b175, iv (0 : Int32)] [(.int (0 : Int32))]) := fun t k => k181 t (st183.trans k)
        have k186 : Way p e below S0 T183 (mkF m 141 #[iv p1, iv p2, iv (1 : Int32), iv (0 : Int32), iv (0 : Int32), rv b168, rv b175, iv (0 : Int32)] [(.ref b168), (.ref b168)]) := by
          intro t k
          refine k185 t ?_
          refine XS.iload X183.here hx rfl (hb hby at_132) rfl ?_
          show Steps p.tables e below (T183.setTop (mkF m 134 #[iv p1, iv p2, iv (1 : Int32), iv (0 : Int32), iv (0 : Int32), rv b168, rv b175, iv (0 : Int32)] [(.int (0 : Int32)), (.int (0 : Int32))])) _
          refine XS.icmpNo X183.here hx rfl (hb hby at_134) rfl (teq ((by decide) : (0 : Int32) = (0 : Int32))).2 ?_
          show Steps p.tables e below (T183.setTop (mkF m 137 #[iv p1, iv p2, iv (1 : Int32), iv (0 : Int32), iv (0 : Int32), rv b168, rv b175, iv (0 : Int32)] [])) _
          refine XS.aload X183.here hx rfl (hb hby at_137) rfl rfl ?_
          show Steps p.tables e below (T183.setTop (mkF m 139 #[iv p1, iv p2, iv (1 : Int32), iv (0 : Int32), iv (0 : Int32), rv b168, rv b175, iv (0 : Int32)] [(.ref b168)])) _
          refine XS.aload X183.here hx rfl (hb hby at_139) rfl rfl ?_
          show Steps p.tables e below (T183.setTop (mkF m 141 #[iv p1, iv p2, iv (1 : Int32), iv (0 : Int32), iv (0 : Int32), rv b168, rv b175, iv (0 : Int32)] [(.ref b168), (.ref b168)])) _
          exact k
        obtain ⟨cq187, kq187, qq187a, qq187b, qq187c⟩ := isOf hZ e183 f184
        obtain ⟨_, _, ⟨T187, L187, kk187, nn187⟩, -, X187, ⟨Lc187, hQ187, l187, y187, z187⟩, st187⟩ := X183.virtualBack hx (y := (⟨"com/example/stubwright/stubwright/idl/ConstValue$BooleanValue", "equals", "(Ljava/lang/Object;)Z"⟩ : MethodName)) (z := (⟨"com/example/stubwright/stubwright/idl/ConstValue$BooleanValue", "equals", "(Ljava/lang/Object;)Z"⟩ : MethodName)) hown (mvT hZ (hw _ (List.mem_of_getElem? (i := 16) rfl))) (mvT hZ (hw _ (List.mem_of_getElem? (i := 17) rfl))) (notFace_of_selects (args := #[]) (mvT hZ (hw _ (List.mem_of_getElem? (i := 19) rfl)))) (mvT hZ (hw _ (List.mem_of_getElem? (i := 19) rfl))) (mvT hZ (hw _ (List.mem_of_getElem? (i := 18) rfl))) (by decide) (backOf (W := 0) (eq11 l Z a0 hw [] wC clC G b168 b168 T179.heap n0 O179 (f184 : Exa Z T179.heap b168 "com/example/stubwright/stubwright/idl/ConstValue$BooleanValue") (f182 : Fld Z T179.heap b168 "com/example/stubwright/stubwright/idl/ConstValue$BooleanValue" "value" "Z" (.int (1 : Int32))) (f182 : Fld Z T179.heap b168 "com/example/stubwright/stubwright/idl/ConstValue$BooleanValue" "value" "Z" (.int (1 : Int32)))) hZ (hw _ (List.mem_of_getElem? (i := 20) rfl)) (hw _ (List.mem_of_getElem? (i := 2) rfl)) (by decide) (by decide)) qq187a qq187c (g := (mkF m 141 #[iv p1, iv p2, iv (1 : Int32), iv (0 : Int32), iv (0 : Int32), rv b168, rv b175, iv (0 : Int32)] [(.ref b168), (.ref b168)])) rfl (by rw [hml]; rfl) (Steps.refl _) (argsL := [(.ref b168)]) (rest := []) (lenOf pd_2 rfl) rfl (by show 2 * 0 + _ ≤ _; exact Nat.le_of_eq rfl) (hb hby at_141) (fun _ _ => ⟨rfl, e183, (by decide : 2 + 0 ≤ _), (by decide : 2 + 0 ≤ _)⟩)
        dsimp only [Pt.U, Pt.locs, Pt.cells, Pt.slots] at X187 l187 y187 z187 st187 hQ187
        subst l187 y187 z187
        obtain ⟨rfl, Nq187, e187⟩ := hQ187
        have N187 := Fr.app N183 Nq187
        have k188 : Way p e below S0 T187 (mkF m 144 #[iv p1, iv p2, iv (1 : Int32), iv (0 : Int32), iv (0 : Int32), rv b168, rv b175, iv (0 : Int32)] [(.int (1 : Int32))]) := fun t k => k186 t (st187.trans k)
        have k189 : Way p e below S0 T187 (mkF m 152 #[iv p1, iv p2, iv (1 : Int32), iv (0 : Int32), iv (0 : Int32), rv b168, rv b175, iv (0 : Int32)] [(.int (1 : Int32))]) := by
          intro t k
          refine k188 t ?_
          refine XS.ifNo X187.here hx rfl (hb hby at_144) rfl ((if0 _ _).trans (feq ((by decide) : ¬ ((1 : Int32) = (0 : Int32)))).1) ?_
          show Steps p.tables e below (T187.setTop (mkF m 147 #[iv p1, iv p2, iv (1 : Int32), iv (0 : Int32), iv (0 : Int32), rv b168, rv b175, iv (0 : Int32)] [])) _
          refine XS.iconst X187.here hx rfl (hb hby at_147) ?_
          show Steps p.tables e below (T187.setTop (mkF m 148 #[iv p1, iv p2, iv (1 : Int32), iv (0 : Int32), iv (0 : Int32), rv b168, rv b175, iv (0 : Int32)] [(.int (1 : Int32))])) _
          refine XS.goto X187.here hx rfl (pc0 := 148) (pc' := 152) rfl (hb hby at_148) (by decide) (by decide) ?_
          show Steps p.tables e below (T187.setTop (mkF m 152 #[iv p1, iv p2, iv (1 : Int32), iv (0 : Int32), iv (0 : Int32), rv b168, rv b175, iv (0 : Int32)] [(.int (1 : Int32))])) _
          exact k
        obtain ⟨fs, hr, hrun, hended, hW, hsame⟩ := X187.leave (v := some (.int (1 : Int32))) (fun h => by rw [Bd.returns] at h; cases h)
        refine ⟨_, _, k189 _ (retN X187 hx (t := .boolean) Bd.returns (by simp) (hb hby at_152) hr), hrun, hended, _, _, rfl, ?_, ⟨_, rfl⟩, hW, hsame.mono (by decide) (by decide)⟩
        show Q_law_met Z wC clC p1 p2 h0 n0 _ T187.heap _
        rw [e187]
        exact ⟨rfl, N187⟩
      · have k190 : Way p e below S0 s₁ (mkF m 31 #[iv p1, iv p2, iv (1 : Int32), iv (0 : Int32), iv (1 : Int32), .unset, .unset, .unset] []) := by have q := k165; rw [hi166] at q; exact q
        obtain ⟨T191, h191, X191, e191, E191, A191, D191, U191, st191⟩ := newO X0 hx hZ hown (hw _ (List.mem_of_getElem? (i := 0) rfl)) (hw _ (List.mem_of_getElem? (i := 1) rfl)) (hw _ (List.mem_of_getElem? (i := 2) rfl)) e0 (g := (mkF m 31 #[iv p1, iv p2, iv (1 : Int32), iv (0 : Int32), iv (1 : Int32), .unset, .unset, .unset] [])) rfl (hb hby at_31) (by decide) (by decide)
        obtain ⟨b191, g191⟩ : ∃ z, z = h0.size := ⟨_, rfl⟩
        rw [← g191] at A191 D191 U191 st191
        have O191 := O0.ext E191
        have i191_value : Fld Z h191 b191 "com/example/stubwright/stubwright/idl/ConstValue$BooleanValue" "value" "Z" (.int (0 : Int32)) := D191 (Or.inr (hw _ (List.mem_of_getElem? (i := 15) rfl))) (ty := .boolean) (by decide)
        have k192 : Way p e below S0 T191 (mkF m 34 #[iv p1, iv p2, iv (1 : Int32), iv (0 : Int32), iv (1 : Int32), .unset, .unset, .unset] [(.ref b191)]) := fun t k => k190 t (st191 _ k)
        have k193 : Way p e below S0 T191 (mkF m 36 #[iv p1, iv p2, iv (1 : Int32), iv (0 : Int32), iv (1 : Int32), .unset, .unset, .unset] [(.int (1 : Int32)), (.ref b191), (.ref b191)]) := by
          intro t k
          refine k192 t ?_
          refine XS.dup X191.here hx rfl (hb hby at_34) rfl rfl ?_
          show Steps p.tables e below (T191.setTop (mkF m 35 #[iv p1, iv p2, iv (1 : Int32), iv (0 : Int32), iv (1 : Int32), .unset, .unset, .unset] [(.ref b191), (.ref b191)])) _
          refine XS.iloadN X191.here hx rfl (hb hby at_35) rfl ?_
          show Steps p.tables e below (T191.setTop (mkF m 36 #[iv p1, iv p2, iv (1 : Int32), iv (0 : Int32), iv (1 : Int32), .unset, .unset, .unset] [(.int (1 : Int32)), (.ref b191), (.ref b191)])) _
          exact k
        have ge194 : n0 ≤ b191 := Nat.le_trans (own_old O0) (Nat.le_of_eq g191.symm)
        obtain ⟨_, _, ⟨T195, L195, kk195, nn195⟩, -, X195, ⟨Lc195, hQ195, l195, y195, z195⟩, st195⟩ := X191.specialBack hx (y := (⟨"com/example/stubwright/stubwright/idl/ConstValue$BooleanValue", "<init>", "(Z)V"⟩ : MethodName)) rfl hown (mvT hZ (hw _ (List.mem_of_getElem? (i := 3) rfl))) (mvT hZ (hw _ (List.mem_of_getElem? (i := 4) rfl))) (mvT hZ (hw _ (List.mem_of_getElem? (i := 5) rfl))) (by decide) (backOf (W := 1) (bvInit1 l Z a0 hw [] wC clC G b191 h191 n0 O191 (A191 : Exa Z h191 b191 "com/example/stubwright/stubwright/idl/ConstValue$BooleanValue") (i191_value : Fld Z h191 b191 "com/example/stubwright/stubwright/idl/ConstValue$BooleanValue" "value" "Z" (.int (0 : Int32))) (ge194 : n0 ≤ b191)) hZ (hw _ (List.mem_of_getElem? (i := 5) rfl)) (hw _ (List.mem_of_getElem? (i := 2) rfl)) (by decide) (by decide)) (g := (mkF m 36 #[iv p1, iv p2, iv (1 : Int32), iv (0 : Int32), iv (1 : Int32), .unset, .unset, .unset] [(.int (1 : Int32)), (.ref b191), (.ref b191)])) rfl (by rw [hml]; rfl) (Steps.refl _) (a := b191) (argsL := [(.int (1 : Int32))]) (rest := [(.ref b191)]) (lenOf pd_1 rfl) rfl (by show 2 * 0 + _ ≤ _; exact Nat.le_of_eq rfl) (hb hby at_36) (fun _ _ => ⟨rfl, e191, (by decide : 1 + 0 ≤ _), (by decide : 1 + 0 ≤ _)⟩)
        dsimp only [Pt.U, Pt.locs, Pt.cells, Pt.slots] at X195 l195 y195 z195 st195 hQ195
        subst l195 y195 z195
        obtain ⟨rfl, Nq195, Kq195, po195_0, po195_1⟩ := hQ195
        have N195 := Fr.app N0 Nq195
        have O195 := O191.keep Kq195 (allS ge194 all0)
        have k196 : Way p e below S0 T195 (mkF m 39 #[iv p1, iv p2, iv (1 : Int32), iv (0 : Int32), iv (1 : Int32), .unset, .unset, .unset] [(.ref b191)]) := fun t k => k193 t (st195.trans k)
        have k197 : Way p e below S0 T195 (mkF m 129 #[iv p1, iv p2, iv (1 : Int32), iv (0 : Int32), iv (1 : Int32), rv b191, .val .null, iv (0 : Int32)] [.null, (.ref b191)]) := by
          intro t k
          refine k196 t ?_
          refine XS.astore X195.here hx rfl (hb hby at_39) rfl rfl (l' := #[iv p1, iv p2, iv (1 : Int32), iv (0 : Int32), iv (1 : Int32), rv b191, .unset, .unset]) rfl ?_
          show Steps p.tables e below (T195.setTop (mkF m 41 #[iv p1, iv p2, iv (1 : Int32), iv (0 : Int32), iv (1 : Int32), rv b191, .unset, .unset] [])) _
          refine XS.iload X195.here hx rfl (hb hby at_41) rfl ?_
          show Steps p.tables e below (T195.setTop (mkF m 43 #[iv p1, iv p2, iv (1 : Int32), iv (0 : Int32), iv (1 : Int32), rv b191, .unset, .unset] [(.int (1 : Int32))])) _
          refine XS.ifYes X195.here hx rfl (pc0 := 43) (pc' := 59) rfl (hb hby at_43) rfl ((if0 _ _).trans (feq ((by decide) : ¬ ((1 : Int32) = (0 : Int32)))).2) (by decide) (by decide) ?_
          show Steps p.tables e below (T195.setTop (mkF m 59 #[iv p1, iv p2, iv (1 : Int32), iv (0 : Int32), iv (1 : Int32), rv b191, .unset, .unset] [])) _
          refine XS.iload X195.here hx rfl (hb hby at_59) rfl ?_
          show Steps p.tables e below (T195.setTop (mkF m 61 #[iv p1, iv p2, iv (1 : Int32), iv (0 : Int32), iv (1 : Int32), rv b191, .unset, .unset] [(.int (1 : Int32))])) _
          refine XS.iconst X195.here hx rfl (hb hby at_61) ?_
          show Steps p.tables e below (T195.setTop (mkF m 62 #[iv p1, iv p2, iv (1 : Int32), iv (0 : Int32), iv (1 : Int32), rv b191, .unset, .unset] [(.int (1 : Int32)), (.int (1 : Int32))])) _
          refine XS.icmpNo X195.here hx rfl (hb hby at_62) rfl (teq ((by decide) : (1 : Int32) = (1 : Int32))).2 ?_
          show Steps p.tables e below (T195.setTop (mkF m 65 #[iv p1, iv p2, iv (1 : Int32), iv (0 : Int32), iv (1 : Int32), rv b191, .unset, .unset] [])) _
          refine XS.aconstNull X195.here hx rfl (hb hby at_65) ?_
          show Steps p.tables e below (T195.setTop (mkF m 66 #[iv p1, iv p2, iv (1 : Int32), iv (0 : Int32), iv (1 : Int32), rv b191, .unset, .unset] [.null])) _
          refine XS.astore X195.here hx rfl (hb hby at_66) rfl rfl (l' := #[iv p1, iv p2, iv (1 : Int32), iv (0 : Int32), iv (1 : Int32), rv b191, .val .null, .unset]) rfl ?_
          show Steps p.tables e below (T195.setTop (mkF m 68 #[iv p1, iv p2, iv (1 : Int32), iv (0 : Int32), iv (1 : Int32), rv b191, .val .null, .unset] [])) _
          refine XS.goto X195.here hx rfl (pc0 := 68) (pc' := 108) rfl (hb hby at_68) (by decide) (by decide) ?_
          show Steps p.tables e below (T195.setTop (mkF m 108 #[iv p1, iv p2, iv (1 : Int32), iv (0 : Int32), iv (1 : Int32), rv b191, .val .null, .unset] [])) _
          refine XS.iload X195.here hx rfl (hb hby at_108) rfl ?_
          show Steps p.tables e below (T195.setTop (mkF m 110 #[iv p1, iv p2, iv (1 : Int32), iv (0 : Int32), iv (1 : Int32), rv b191, .val .null, .unset] [(.int (1 : Int32))])) _
          refine XS.ifYes X195.here hx rfl (pc0 := 110) (pc' := 122) rfl (hb hby at_110) rfl ((if0 _ _).trans (feq ((by decide) : ¬ ((1 : Int32) = (0 : Int32)))).2) (by decide) (by decide) ?_
          show Steps p.tables e below (T195.setTop (mkF m 122 #[iv p1, iv p2, iv (1 : Int32), iv (0 : Int32), iv (1 : Int32), rv b191, .val .null, .unset] [])) _
          refine XS.iconst X195.here hx rfl (hb hby at_122) ?_
          show Steps p.tables e below (T195.setTop (mkF m 123 #[iv p1, iv p2, iv (1 : Int32), iv (0 : Int32), iv (1 : Int32), rv b191, .val .null, .unset] [(.int (0 : Int32))])) _
          refine XS.istore X195.here hx rfl (hb hby at_123) rfl (l' := #[iv p1, iv p2, iv (1 : Int32), iv (0 : Int32), iv (1 : Int32), rv b191, .val .null, iv (0 : Int32)]) rfl ?_
          show Steps p.tables e below (T195.setTop (mkF m 125 #[iv p1, iv p2, iv (1 : Int32), iv (0 : Int32), iv (1 : Int32), rv b191, .val .null, iv (0 : Int32)] [])) _
          refine XS.aload X195.here hx rfl (hb hby at_125) rfl rfl ?_
          show Steps p.tables e below (T195.setTop (mkF m 127 #[iv p1, iv p2, iv (1 : Int32), iv (0 : Int32), iv (1 : Int32), rv b191, .val .null, iv (0 : Int32)] [(.ref b191)])) _
          refine XS.aload X195.here hx rfl (hb hby at_127) rfl rfl ?_
          show Steps p.tables e below (T195.setTop (mkF m 129 #[iv p1, iv p2, iv (1 : Int32), iv (0 : Int32), iv (1 : Int32), rv b191, .val .null, iv (0 : Int32)] [.null, (.ref b191)])) _
          exact k
        obtain ⟨cq198, kq198, qq198a, qq198b, qq198c⟩ := isOf hZ rfl po195_0
        obtain ⟨_, _, ⟨T198, L198, kk198, nn198⟩, -, X198, ⟨Lc198, hQ198, l198, y198, z198⟩, st198⟩ := X195.virtualBack hx (y := (⟨"com/example/stubwright/stubwright/idl/ConstValue$BooleanValue", "equals", "(Ljava/lang/Object;)Z"⟩ : MethodName)) (z := (⟨"com/example/stubwright/stubwright/idl/ConstValue$BooleanValue", "equals", "(Ljava/lang/Object;)Z"⟩ : MethodName)) hown (mvT hZ (hw _ (List.mem_of_getElem? (i := 16) rfl))) (mvT hZ (hw _ (List.mem_of_getElem? (i := 17) rfl))) (notFace_of_selects (args := #[]) (mvT hZ (hw _ (List.mem_of_getElem? (i := 19) rfl)))) (mvT hZ (hw _ (List.mem_of_getElem? (i := 19) rfl))) (mvT hZ (hw _ (List.mem_of_getElem? (i := 18) rfl))) (by decide) (backOf (W := 0) (eqNull l Z a0 hw [] wC clC G b191 T195.heap n0 O195 ) hZ (hw _ (List.mem_of_getElem? (i := 20) rfl)) (hw _ (List.mem_of_getElem? (i := 2) rfl)) (by decide) (by decide)) qq198a qq198c (g := (mkF m 129 #[iv p1, iv p2, iv (1 : Int32), iv (0 : Int32), iv (1 : Int32), rv b191, .val .null, iv (0 : Int32)] [.null, (.ref b191)])) rfl (by rw [hml]; rfl) (Steps.refl _) (argsL := [.null]) (rest := []) (lenOf pd_2 rfl) rfl (by show 2 * 0 + _ ≤ _; exact Nat.le_of_eq rfl) (hb hby at_129) (fun _ _ => ⟨rfl, rfl, (by decide : 1 + 0 ≤ _), (by decide : 1 + 0 ≤ _)⟩)
        dsimp only [Pt.U, Pt.locs, Pt.cells, Pt.slots] at X198 l198 y198 z198 st198 hQ198
        subst l198 y198 z198
        obtain ⟨rfl, Nq198, e198⟩ := hQ198
        have N198 := Fr.app N195 Nq198
        have k199 : Way p e below S0 T198 (mkF m 132 #[iv p1, iv p2, iv (1 : Int32), iv (0 : Int32), iv (1 : Int32), rv b191, .val .null, iv (0 : Int32)] [(.int (0 : Int32))]) := fun t k => k197 t (st198.trans k)
        have k200 : Way p e below S0 T198 (mkF m 141 #[iv p1, iv p2, iv (1 : Int32), iv (0 : Int32), iv (1 : Int32), rv b191, .val .null, iv (0 : Int32)] [(.ref b191), (.ref b191)]) := by
          intro t k
          refine k199 t ?_
          refine XS.iload X198.here hx rfl (hb hby at_132) rfl ?_
          show Steps p.tables e below (T198.setTop (mkF m 134 #[iv p1, iv p2, iv (1 : Int32), iv (0 : Int32), iv (1 : Int32), rv b191, .val .null, iv (0 : Int32)] [(.int (0 : Int32)), (.int (0 : Int32))])) _
          refine XS.icmpNo X198.here hx rfl (hb hby at_134) rfl (teq ((by decide) : (0 : Int32) = (0 : Int32))).2 ?_
          show Steps p.tables e below (T198.setTop (mkF m 137 #[iv p1, iv p2, iv (1 : Int32), iv (0 : Int32), iv (1 : Int32), rv b191, .val .null, iv (0 : Int32)] [])) _
          refine XS.aload X198.here hx rfl (hb hby at_137) rfl rfl ?_
          show Steps p.tables e below (T198.setTop (mkF m 139 #[iv p1, iv p2, iv (1 : Int32), iv (0 : Int32), iv (1 : Int32), rv b191, .val .null, iv (0 : Int32)] [(.ref b191)])) _
          refine XS.aload X198.here hx rfl (hb hby at_139) rfl rfl ?_
          show Steps p.tables e below (T198.setTop (mkF m 141 #[iv p1, iv p2, iv (1 : Int32), iv (0 : Int32), iv (1 : Int32), rv b191, .val .null, iv (0 : Int32)] [(.ref b191), (.ref b191)])) _
          exact k
        obtain ⟨cq201, kq201, qq201a, qq201b, qq201c⟩ := isOf hZ e198 po195_0
        obtain ⟨_, _, ⟨T201, L201, kk201, nn201⟩, -, X201, ⟨Lc201, hQ201, l201, y201, z201⟩, st201⟩ := X198.virtualBack hx (y := (⟨"com/example/stubwright/stubwright/idl/ConstValue$BooleanValue", "equals", "(Ljava/lang/Object;)Z"⟩ : MethodName)) (z := (⟨"com/example/stubwright/stubwright/idl/ConstValue$BooleanValue", "equals", "(Ljava/lang/Object;)Z"⟩ : MethodName)) hown (mvT hZ (hw _ (List.mem_of_getElem? (i := 16) rfl))) (mvT hZ (hw _ (List.mem_of_getElem? (i := 17) rfl))) (notFace_of_selects (args := #[]) (mvT hZ (hw _ (List.mem_of_getElem? (i := 19) rfl)))) (mvT hZ (hw _ (List.mem_of_getElem? (i := 19) rfl))) (mvT hZ (hw _ (List.mem_of_getElem? (i := 18) rfl))) (by decide) (backOf (W := 0) (eq11 l Z a0 hw [] wC clC G b191 b191 T195.heap n0 O195 (po195_0 : Exa Z T195.heap b191 "com/example/stubwright/stubwright/idl/ConstValue$BooleanValue") (po195_1 : Fld Z T195.heap b191 "com/example/stubwright/stubwright/idl/ConstValue$BooleanValue" "value" "Z" (.int (1 : Int32))) (po195_1 : Fld Z T195.heap b191 "com/example/stubwright/stubwright/idl/ConstValue$BooleanValue" "value" "Z" (.int (1 : Int32)))) hZ (hw _ (List.mem_of_getElem? (i := 20) rfl)) (hw _ (List.mem_of_getElem? (i := 2) rfl)) (by decide) (by decide)) qq201a qq201c (g := (mkF m 141 #[iv p1, iv p2, iv (1 : Int32), iv (0 : Int32), iv (1 : Int32), rv b191, .val .null, iv (0 : Int32)] [(.ref b191), (.ref b191)])) rfl (by rw [hml]; rfl) (Steps.refl _) (argsL := [(.ref b191)]) (rest := []) (lenOf pd_2 rfl) rfl (by show 2 * 0 + _ ≤ _; exact Nat.le_of_eq rfl) (hb hby at_141) (fun _ _ => ⟨rfl, e198, (by decide : 1 + 0 ≤ _), (by decide : 1 + 0 ≤ _)⟩)
        dsimp only [Pt.U, Pt.locs, Pt.cells, Pt.slots] at X201 l201 y201 z201 st201 hQ201
        subst l201 y201 z201
        obtain ⟨rfl, Nq201, e201⟩ := hQ201
        have N201 := Fr.app N198 Nq201
        have k202 : Way p e below S0 T201 (mkF m 144 #[iv p1, iv p2, iv (1 : Int32), iv (0 : Int32), iv (1 : Int32), rv b191, .val .null, iv (0 : Int32)] [(.int (1 : Int32))]) := fun t k => k200 t (st201.trans k)
        have k203 : Way p e below S0 T201 (mkF m 152 #[iv p1, iv p2, iv (1 : Int32), iv (0 : Int32), iv (1 : Int32), rv b191, .val .null, iv (0 : Int32)] [(.int (1 : Int32))]) := by
          intro t k
          refine k202 t ?_
          refine XS.ifNo X201.here hx rfl (hb hby at_144) rfl ((if0 _ _).trans (feq ((by decide) : ¬ ((1 : Int32) = (0 : Int32)))).1) ?_
          show Steps p.tables e below (T201.setTop (mkF m 147 #[iv p1, iv p2, iv (1 : Int32), iv (0 : Int32), iv (1 : Int32), rv b191, .val .null, iv (0 : Int32)] [])) _
          refine XS.iconst X201.here hx rfl (hb hby at_147) ?_
          show Steps p.tables e below (T201.setTop (mkF m 148 #[iv p1, iv p2, iv (1 : Int32), iv (0 : Int32), iv (1 : Int32), rv b191, .val .null, iv (0 : Int32)] [(.int (1 : Int32))])) _
          refine XS.goto X201.here hx rfl (pc0 := 148) (pc' := 152) rfl (hb hby at_148) (by decide) (by decide) ?_
          show Steps p.tables e below (T201.setTop (mkF m 152 #[iv p1, iv p2, iv (1 : Int32), iv (0 : Int32), iv (1 : Int32), rv b191, .val .null, iv (0 : Int32)] [(.int (1 : Int32))])) _
          exact k
        obtain ⟨fs, hr, hrun, hended, hW, hsame⟩ := X201.leave (v := some (.int (1 : Int32))) (fun h => by rw [Bd.returns] at h; cases h)
        refine ⟨_, _, k203 _ (retN X201 hx (t := .boolean) Bd.returns (by simp) (hb hby at_152) hr), hrun, hended, _, _, rfl, ?_, ⟨_, rfl⟩, hW, hsame.mono (by decide) (by decide)⟩
        show Q_law_met Z wC clC p1 p2 h0 n0 _ T201.heap _
        rw [e201]
        exact ⟨rfl, N201⟩
      · have k204 : Way p e below S0 s₁ (mkF m 31 #[iv p1, iv p2, iv (1 : Int32), iv (0 : Int32), iv (2 : Int32), .unset, .unset, .unset] []) := by have q := k165; rw [hi166] at q; exact q
        obtain ⟨T205, h205, X205, e205, E205, A205, D205, U205, st205⟩ := newO X0 hx hZ hown (hw _ (List.mem_of_getElem? (i := 0) rfl)) (hw _ (List.mem_of_getElem? (i := 1) rfl)) (hw _ (List.mem_of_getElem? (i := 2) rfl)) e0 (g := (mkF m 31 #[iv p1, iv p2, iv (1 : Int32), iv (0 : Int32), iv (2 : Int32), .unset, .unset, .unset] [])) rfl (hb hby at_31) (by decide) (by decide)
        obtain ⟨b205, g205⟩ : ∃ z, z = h0.size := ⟨_, rfl⟩
        rw [← g205] at A205 D205 U205 st205
        have O205 := O0.ext E205
        have i205_value : Fld Z h205 b205 "com/example/stubwright/stubwright/idl/ConstValue$BooleanValue" "value" "Z" (.int (0 : Int32)) := D205 (Or.inr (hw _ (List.mem_of_getElem? (i := 15) rfl))) (ty := .boolean) (by decide)
        have k206 : Way p e below S0 T205 (mkF m 34 #[iv p1, iv p2, iv (1 : Int32), iv (0 : Int32), iv (2 : Int32), .unset, .unset, .unset] [(.ref b205)]) := fun t k => k204 t (st205 _ k)
        have k207 : Way p e below S0 T205 (mkF m 36 #[iv p1, iv p2, iv (1 : Int32), iv (0 : Int32), iv (2 : Int32), .unset, .unset, .unset] [(.int (1 : Int32)), (.ref b205), (.ref b205)]) := by
          intro t k
          refine k206 t ?_
          refine XS.dup X205.here hx rfl (hb hby at_34) rfl rfl ?_
          show Steps p.tables e below (T205.setTop (mkF m 35 #[iv p1, iv p2, iv (1 : Int32), iv (0 : Int32), iv (2 : Int32), .unset, .unset, .unset] [(.ref b205), (.ref b205)])) _
          refine XS.iloadN X205.here hx rfl (hb hby at_35) rfl ?_
          show Steps p.tables e below (T205.setTop (mkF m 36 #[iv p1, iv p2, iv (1 : Int32), iv (0 : Int32), iv (2 : Int32), .unset, .unset, .unset] [(.int (1 : Int32)), (.ref b205), (.ref b205)])) _
          exact k
        have ge208 : n0 ≤ b205 := Nat.le_trans (own_old O0) (Nat.le_of_eq g205.symm)
        obtain ⟨_, _, ⟨T209, L209, kk209, nn209⟩, -, X209, ⟨Lc209, hQ209, l209, y209, z209⟩, st209⟩ := X205.specialBack hx (y := (⟨"com/example/stubwright/stubwright/idl/ConstValue$BooleanValue", "<init>", "(Z)V"⟩ : MethodName)) rfl hown (mvT hZ (hw _ (List.mem_of_getElem? (i := 3) rfl))) (mvT hZ (hw _ (List.mem_of_getElem? (i := 4) rfl))) (mvT hZ (hw _ (List.mem_of_getElem? (i := 5) rfl))) (by decide) (backOf (W := 1) (bvInit1 l Z a0 hw [] wC clC G b205 h205 n0 O205 (A205 : Exa Z h205 b205 "com/example/stubwright/stubwright/idl/ConstValue$BooleanValue") (i205_value : Fld Z h205 b205 "com/example/stubwright/stubwright/idl/ConstValue$BooleanValue" "value" "Z" (.int (0 : Int32))) (ge208 : n0 ≤ b205)) hZ (hw _ (List.mem_of_getElem? (i := 5) rfl)) (hw _ (List.mem_of_getElem? (i := 2) rfl)) (by decide) (by decide)) (g := (mkF m 36 #[iv p1, iv p2, iv (1 : Int32), iv (0 : Int32), iv (2 : Int32), .unset, .unset, .unset] [(.int (1 : Int32)), (.ref b205), (.ref b205)])) rfl (by rw [hml]; rfl) (Steps.refl _) (a := b205) (argsL := [(.int (1 : Int32))]) (rest := [(.ref b205)]) (lenOf pd_1 rfl) rfl (by show 2 * 0 + _ ≤ _; exact Nat.le_of_eq rfl) (hb hby at_36) (fun _ _ => ⟨rfl, e205, (by decide : 1 + 0 ≤ _), (by decide : 1 + 0 ≤ _)⟩)
        dsimp only [Pt.U, Pt.locs, Pt.cells, Pt.slots] at X209 l209 y209 z209 st209 hQ209
        subst l209 y209 z209
        obtain ⟨rfl, Nq209, Kq209, po209_0, po209_1⟩ := hQ209
        have N209 := Fr.app N0 Nq209
        have O209 := O205.keep Kq209 (allS ge208 all0)
        have k210 : Way p e below S0 T209 (mkF m 39 #[iv p1, iv p2, iv (1 : Int32), iv (0 : Int32), iv (2 : Int32), .unset, .unset, .unset] [(.ref b205)]) := fun t k => k207 t (st209.trans k)
        have k211 : Way p e below S0 T209 (mkF m 77 #[iv p1, iv p2, iv (1 : Int32), iv (0 : Int32), iv (2 : Int32), rv b205, .unset, .unset] []) := by
          intro t k
          refine k210 t ?_
          refine XS.astore X209.here hx rfl (hb hby at_39) rfl rfl (l' := #[iv p1, iv p2, iv (1 : Int32), iv (0 : Int32), iv (2 : Int32), rv b205, .unset, .unset]) rfl ?_
          show Steps p.tables e below (T209.setTop (mkF m 41 #[iv p1, iv p2, iv (1 : Int32), iv (0 : Int32), iv (2 : Int32), rv b205, .unset, .unset] [])) _
          refine XS.iload X209.here hx rfl (hb hby at_41) rfl ?_
          show Steps p.tables e below (T209.setTop (mkF m 43 #[iv p1, iv p2, iv (1 : Int32), iv (0 : Int32), iv (2 : Int32), rv b205, .unset, .unset] [(.int (2 : Int32))])) _
          refine XS.ifYes X209.here hx rfl (pc0 := 43) (pc' := 59) rfl (hb hby at_43) rfl ((if0 _ _).trans (feq ((by decide) : ¬ ((2 : Int32) = (0 : Int32)))).2) (by decide) (by decide) ?_
          show Steps p.tables e below (T209.setTop (mkF m 59 #[iv p1, iv p2, iv (1 : Int32), iv (0 : Int32), iv (2 : Int32), rv b205, .unset, .unset] [])) _
          refine XS.iload X209.here hx rfl (hb hby at_59) rfl ?_
          show Steps p.tables e below (T209.setTop (mkF m 61 #[iv p1, iv p2, iv (1 : Int32), iv (0 : Int32), iv (2 : Int32), rv b205, .unset, .unset] [(.int (2 : Int32))])) _
          refine XS.iconst X209.here hx rfl (hb hby at_61) ?_
          show Steps p.tables e below (T209.setTop (mkF m 62 #[iv p1, iv p2, iv (1 : Int32), iv (0 : Int32), iv (2 : Int32), rv b205, .unset, .unset] [(.int (1 : Int32)), (.int (2 : Int32))])) _
          refine XS.icmpYes X209.here hx rfl (pc0 := 62) (pc' := 71) rfl (hb hby at_62) rfl (feq ((by decide) : ¬ ((2 : Int32) = (1 : Int32)))).2 (by decide) (by decide) ?_
          show Steps p.tables e below (T209.setTop (mkF m 71 #[iv p1, iv p2, iv (1 : Int32), iv (0 : Int32), iv (2 : Int32), rv b205, .unset, .unset] [])) _
          refine XS.iload X209.here hx rfl (hb hby at_71) rfl ?_
          show Steps p.tables e below (T209.setTop (mkF m 73 #[iv p1, iv p2, iv (1 : Int32), iv (0 : Int32), iv (2 : Int32), rv b205, .unset, .unset] [(.int (2 : Int32))])) _
          refine XS.iconst X209.here hx rfl (hb hby at_73) ?_
          show Steps p.tables e below (T209.setTop (mkF m 74 #[iv p1, iv p2, iv (1 : Int32), iv (0 : Int32), iv (2 : Int32), rv b205, .unset, .unset] [(.int (2 : Int32)), (.int (2 : Int32))])) _
          refine XS.icmpNo X209.here hx rfl (hb hby at_74) rfl (teq ((by decide) : (2 : Int32) = (2 : Int32))).2 ?_
          show Steps p.tables e below (T209.setTop (mkF m 77 #[iv p1, iv p2, iv (1 : Int32), iv (0 : Int32), iv (2 : Int32), rv b205, .unset, .unset] [])) _
          exact k
        obtain ⟨T212, h212, X212, e212, E212, A212, D212, U212, st212⟩ := newO X209 hx hZ hown (hw _ (List.mem_of_getElem? (i := 33) rfl)) (hw _ (List.mem_of_getElem? (i := 34) rfl)) (hw _ (List.mem_of_getElem? (i := 35) rfl)) rfl (g := (mkF m 77 #[iv p1, iv p2, iv (1 : Int32), iv (0 : Int32), iv (2 : Int32), rv b205, .unset, .unset] [])) rfl (hb hby at_77) (by decide) (by decide)
        obtain ⟨b212, g212⟩ : ∃ z, z = T209.heap.size := ⟨_, rfl⟩
        rw [← g212] at A212 D212 U212 st212
        have O212 := O209.ext E212
        have i212_value : Fld Z h212 b212 "com/example/stubwright/stubwright/idl/ConstValue$CharValue" "value" "C" (.int (0 : Int32)) := D212 (Or.inr (hw _ (List.mem_of_getElem? (i := 42) rfl))) (ty := .char) (by decide)
        have k213 : Way p e below S0 T212 (mkF m 80 #[iv p1, iv p2, iv (1 : Int32), iv (0 : Int32), iv (2 : Int32), rv b205, .unset, .unset] [(.ref b212)]) := fun t k => k211 t (st212 _ k)
        have k214 : Way p e below S0 T212 (mkF m 86 #[iv p1, iv p2, iv (1 : Int32), iv (0 : Int32), iv (2 : Int32), rv b205, .unset, .unset] [(.int ((p2 &&& (65535 : Int32)).toUInt32.toUInt16.toUInt32.toInt32)), (.ref b212), (.ref b212)]) := by
          intro t k
          refine k213 t ?_
          refine XS.dup X212.here hx rfl (hb hby at_80) rfl rfl ?_
          show Steps p.tables e below (T212.setTop (mkF m 81 #[iv p1, iv p2, iv (1 : Int32), iv (0 : Int32), iv (2 : Int32), rv b205, .unset, .unset] [(.ref b212), (.ref b212)])) _
          refine XS.iloadN X212.here hx rfl (hb hby at_81) rfl ?_
          show Steps p.tables e below (T212.setTop (mkF m 82 #[iv p1, iv p2, iv (1 : Int32), iv (0 : Int32), iv (2 : Int32), rv b205, .unset, .unset] [(.int p2), (.ref b212), (.ref b212)])) _
          refine X212.ldcInt hx hown (mvT hZ (hw _ (List.mem_of_getElem? (i := 36) rfl))) (g := (mkF m 82 #[iv p1, iv p2, iv (1 : Int32), iv (0 : Int32), iv (2 : Int32), rv b205, .unset, .unset] [(.int p2), (.ref b212), (.ref b212)])) rfl (hb hby at_82) _ ?_
          show Steps p.tables e below (T212.setTop (mkF m 84 #[iv p1, iv p2, iv (1 : Int32), iv (0 : Int32), iv (2 : Int32), rv b205, .unset, .unset] [(.int (65535 : Int32)), (.int p2), (.ref b212), (.ref b212)])) _
          refine XS.iand X212.here hx rfl (hb hby at_84) rfl ?_
          show Steps p.tables e below (T212.setTop (mkF m 85 #[iv p1, iv p2, iv (1 : Int32), iv (0 : Int32), iv (2 : Int32), rv b205, .unset, .unset] [(.int (p2 &&& (65535 : Int32))), (.ref b212), (.ref b212)])) _
          refine XS.i2c X212.here hx rfl (hb hby at_85) rfl ?_
          show Steps p.tables e below (T212.setTop (mkF m 86 #[iv p1, iv p2, iv (1 : Int32), iv (0 : Int32), iv (2 : Int32), rv b205, .unset, .unset] [(.int ((p2 &&& (65535 : Int32)).toUInt32.toUInt16.toUInt32.toInt32)), (.ref b212), (.ref b212)])) _
          exact k
        have ge215 : n0 ≤ b212 := Nat.le_trans (own_old O209) (Nat.le_of_eq g212.symm)
        obtain ⟨_, _, ⟨T216, L216, kk216, nn216⟩, -, X216, ⟨Lc216, hQ216, l216, y216, z216⟩, st216⟩ := X212.specialBack hx (y := (⟨"com/example/stubwright/stubwright/idl/ConstValue$CharValue", "<init>", "(C)V"⟩ : MethodName)) rfl hown (mvT hZ (hw _ (List.mem_of_getElem? (i := 37) rfl))) (mvT hZ (hw _ (List.mem_of_getElem? (i := 38) rfl))) (mvT hZ (hw _ (List.mem_of_getElem? (i := 39) rfl))) (by decide) (backOf (W := 1) (cvInit l Z a0 hw [] wC clC G b212 ((p2 &&& (65535 : Int32)).toUInt32.toUInt16.toUInt32.toInt32) h212 n0 O212 (A212 : Exa Z h212 b212 "com/example/stubwright/stubwright/idl/ConstValue$CharValue") (i212_value : Fld Z h212 b212 "com/example/stubwright/stubwright/idl/ConstValue$CharValue" "value" "C" (.int (0 : Int32))) (ge215 : n0 ≤ b212) (own_i2c _ : ((p2 &&& (65535 : Int32)).toUInt32.toUInt16.toUInt32.toInt32).toUInt32.toUInt16.toUInt32.toInt32 = ((p2 &&& (65535 : Int32)).toUInt32.toUInt16.toUInt32.toInt32))) hZ (hw _ (List.mem_of_getElem? (i := 39) rfl)) (hw _ (List.mem_of_getElem? (i := 35) rfl)) (by decide) (by decide)) (g := (mkF m 86 #[iv p1, iv p2, iv (1 : Int32), iv (0 : Int32), iv (2 : Int32), rv b205, .unset, .unset] [(.int ((p2 &&& (65535 : Int32)).toUInt32.toUInt16.toUInt32.toInt32)), (.ref b212), (.ref b212)])) rfl (by rw [hml]; rfl) (Steps.refl _) (a := b212) (argsL := [(.int ((p2 &&& (65535 : Int32)).toUInt32.toUInt16.toUInt32.toInt32))]) (rest := [(.ref b212)]) (lenOf pd_3 rfl) rfl (by show 2 * 0 + _ ≤ _; exact Nat.le_of_eq rfl) (hb hby at_86) (fun _ _ => ⟨rfl, e212, (by decide : 2 + 0 ≤ _), (by decide : 2 + 0 ≤ _)⟩)
        dsimp only [Pt.U, Pt.locs, Pt.cells, Pt.slots] at X216 l216 y216 z216 st216 hQ216
        subst l216 y216 z216
        obtain ⟨rfl, Nq216, Kq216, po216_0, po216_1⟩ := hQ216
        have N216 := Fr.app N209 Nq216
        have O216 := O212.keep Kq216 (allS ge215 all0)
        have k217 : Way p e below S0 T216 (mkF m 89 #[iv p1, iv p2, iv (1 : Int32), iv (0 : Int32), iv (2 : Int32), rv b205, .unset, .unset] [(.ref b212)]) := fun t k => k214 t (st216.trans k)
        have k218 : Way p e below S0 T216 (mkF m 129 #[iv p1, iv p2, iv (1 : Int32), iv (0 : Int32), iv (2 : Int32), rv b205, rv b212, iv (0 : Int32)] [(.ref b212), (.ref b205)]) := by
          intro t k
          refine k217 t ?_
          refine XS.astore X216.here hx rfl (hb hby at_89) rfl rfl (l' := #[iv p1, iv p2, iv (1 : Int32), iv (0 : Int32), iv (2 : Int32), rv b205, rv b212, .unset]) rfl ?_
          show Steps p.tables e below (T216.setTop (mkF m 91 #[iv p1, iv p2, iv (1 : Int32), iv (0 : Int32), iv (2 : Int32), rv b205, rv b212, .unset] [])) _
          refine XS.goto X216.here hx rfl (pc0 := 91) (pc' := 108) rfl (hb hby at_91) (by decide) (by decide) ?_
          show Steps p.tables e below (T216.setTop (mkF m 108 #[iv p1, iv p2, iv (1 : Int32), iv (0 : Int32), iv (2 : Int32), rv b205, rv b212, .unset] [])) _
          refine XS.iload X216.here hx rfl (hb hby at_108) rfl ?_
          show Steps p.tables e below (T216.setTop (mkF m 110 #[iv p1, iv p2, iv (1 : Int32), iv (0 : Int32), iv (2 : Int32), rv b205, rv b212, .unset] [(.int (2 : Int32))])) _
          refine XS.ifYes X216.here hx rfl (pc0 := 110) (pc' := 122) rfl (hb hby at_110) rfl ((if0 _ _).trans (feq ((by decide) : ¬ ((2 : Int32) = (0 : Int32)))).2) (by decide) (by decide) ?_
          show Steps p.tables e below (T216.setTop (mkF m 122 #[iv p1, iv p2, iv (1 : Int32), iv (0 : Int32), iv (2 : Int32), rv b205, rv b212, .unset] [])) _
          refine XS.iconst X216.here hx rfl (hb hby at_122) ?_
          show Steps p.tables e below (T216.setTop (mkF m 123 #[iv p1, iv p2, iv (1 : Int32), iv (0 : Int32), iv (2 : Int32), rv b205, rv b212, .unset] [(.int (0 : Int32))])) _
          refine XS.istore X216.here hx rfl (hb hby at_123) rfl (l' := #[iv p1, iv p2, iv (1 : Int32), iv (0 : Int32), iv (2 : Int32), rv b205, rv b212, iv (0 : Int32)]) rfl ?_
          show Steps p.tables e below (T216.setTop (mkF m 125 #[iv p1, iv p2, iv (1 : Int32), iv (0 : Int32), iv (2 : Int32), rv b205, rv b212, iv (0 : Int32)] [])) _
          refine XS.aload X216.here hx rfl (hb hby at_125) rfl rfl ?_
          show Steps p.tables e below (T216.setTop (mkF m 127 #[iv p1, iv p2, iv (1 : Int32), iv (0 : Int32), iv (2 : Int32), rv b205, rv b212, iv (0 : Int32)] [(.ref b205)])) _
          refine XS.aload X216.here hx rfl (hb hby at_127) rfl rfl ?_
          show Steps p.tables e below (T216.setTop (mkF m 129 #[iv p1, iv p2, iv (1 : Int32), iv (0 : Int32), iv (2 : Int32), rv b205, rv b212, iv (0 : Int32)] [(.ref b212), (.ref b205)])) _
          exact k
        have f220 : Exa Z T216.heap b205 "com/example/stubwright/stubwright/idl/ConstValue$BooleanValue" := ((po209_0.ext E212).keep Kq216)
        obtain ⟨cq219, kq219, qq219a, qq219b, qq219c⟩ := isOf hZ rfl f220
        obtain ⟨_, _, ⟨T219, L219, kk219, nn219⟩, -, X219, ⟨Lc219, hQ219, l219, y219, z219⟩, st219⟩ := X216.virtualBack hx (y := (⟨"com/example/stubwright/stubwright/idl/ConstValue$BooleanValue", "equals", "(Ljava/lang/Object;)Z"⟩ : MethodName)) (z := (⟨"com/example/stubwright/stubwright/idl/ConstValue$BooleanValue", "equals", "(Ljava/lang/Object;)Z"⟩ : MethodName)) hown (mvT hZ (hw _ (List.mem_of_getElem? (i := 16) rfl))) (mvT hZ (hw _ (List.mem_of_getElem? (i := 17) rfl))) (notFace_of_selects (args := #[]) (mvT hZ (hw _ (List.mem_of_getElem? (i := 19) rfl)))) (mvT hZ (hw _ (List.mem_of_getElem? (i := 19) rfl))) (mvT hZ (hw _ (List.mem_of_getElem? (i := 18) rfl))) (by decide) (backOf (W := 0) (eqOther0 l Z a0 hw [] wC clC G b205 b212 T216.heap n0 O216 (po216_0 : Exa Z T216.heap b212 "com/example/stubwright/stubwright/idl/ConstValue$CharValue")) hZ (hw _ (List.mem_of_getElem? (i := 20) rfl)) (hw _ (List.mem_of_getElem? (i := 2) rfl)) (by decide) (by decide)) qq219a qq219c (g := (mkF m 129 #[iv p1, iv p2, iv (1 : Int32), iv (0 : Int32), iv (2 : Int32), rv b205, rv b212, iv (0 : Int32)] [(.ref b212), (.ref b205)])) rfl (by rw [hml]; rfl) (Steps.refl _) (argsL := [(.ref b212)]) (rest := []) (lenOf pd_2 rfl) rfl (by show 2 * 0 + _ ≤ _; exact Nat.le_of_eq rfl) (hb hby at_129) (fun _ _ => ⟨rfl, rfl, (by decide : 2 + 0 ≤ _), (by decide : 2 + 0 ≤ _)⟩)
        dsimp only [Pt.U, Pt.locs, Pt.cells, Pt.slots] at X219 l219 y219 z219 st219 hQ219
        subst l219 y219 z219
        obtain ⟨rfl, Nq219, e219⟩ := hQ219
        have N219 := Fr.app N216 Nq219
        have k221 : Way p e below S0 T219 (mkF m 132 #[iv p1, iv p2, iv (1 : Int32), iv (0 : Int32), iv (2 : Int32), rv b205, rv b212, iv (0 : Int32)] [(.int (0 : Int32))]) := fun t k => k218 t (st219.trans k)
        have k222 : Way p e below S0 T219 (mkF m 141 #[iv p1, iv p2, iv (1 : Int32), iv (0 : Int32), iv (2 : Int32), rv b205, rv b212, iv (0 : Int32)] [(.ref b205), (.ref b205)]) := by
          intro t k
          refine k221 t ?_
          refine XS.iload X219.here hx rfl (hb hby at_132) rfl ?_
          show Steps p.tables e below (T219.setTop (mkF m 134 #[iv p1, iv p2, iv (1 : Int32), iv (0 : Int32), iv (2 : Int32), rv b205, rv b212, iv (0 : Int32)] [(.int (0 : Int32)), (.int (0 : Int32))])) _
          refine XS.icmpNo X219.here hx rfl (hb hby at_134) rfl (teq ((by decide) : (0 : Int32) = (0 : Int32))).2 ?_
          show Steps p.tables e below (T219.setTop (mkF m 137 #[iv p1, iv p2, iv (1 : Int32), iv (0 : Int32), iv (2 : Int32), rv b205, rv b212, iv (0 : Int32)] [])) _
          refine XS.aload X219.here hx rfl (hb hby at_137) rfl rfl ?_
          show Steps p.tables e below (T219.setTop (mkF m 139 #[iv p1, iv p2, iv (1 : Int32), iv (0 : Int32), iv (2 : Int32), rv b205, rv b212, iv (0 : Int32)] [(.ref b205)])) _
          refine XS.aload X219.here hx rfl (hb hby at_139) rfl rfl ?_
          show Steps p.tables e below (T219.setTop (mkF m 141 #[iv p1, iv p2, iv (1 : Int32), iv (0 : Int32), iv (2 : Int32), rv b205, rv b212, iv (0 : Int32)] [(.ref b205), (.ref b205)])) _
          exact k
        have f223 : Fld Z T216.heap b205 "com/example/stubwright/stubwright/idl/ConstValue$BooleanValue" "value" "Z" (.int (1 : Int32)) := ((po209_1.ext E212).keep Kq216 (ninS (Nat.ne_of_lt (Nat.lt_of_lt_of_le po209_1.lt (Nat.le_of_eq g212.symm))) nin0))
        obtain ⟨cq224, kq224, qq224a, qq224b, qq224c⟩ := isOf hZ e219 f220
        obtain ⟨_, _, ⟨T224, L224, kk224, nn224⟩, -, X224, ⟨Lc224, hQ224, l224, y224, z224⟩, st224⟩ := X219.virtualBack hx (y := (⟨"com/example/stubwright/stubwright/idl/ConstValue$BooleanValue", "equals", "(Ljava/lang/Object;)Z"⟩ : MethodName)) (z := (⟨"com/example/stubwright/stubwright/idl/ConstValue$BooleanValue", "equals", "(Ljava/lang/Object;)Z"⟩ : MethodName)) hown (mvT hZ (hw _ (List.mem_of_getElem? (i := 16) rfl))) (mvT hZ (hw _ (List.mem_of_getElem? (i := 17) rfl))) (notFace_of_selects (args := #[]) (mvT hZ (hw _ (List.mem_of_getElem? (i := 19) rfl)))) (mvT hZ (hw _ (List.mem_of_getElem? (i := 19) rfl))) (mvT hZ (hw _ (List.mem_of_getElem? (i := 18) rfl))) (by decide) (backOf (W := 0) (eq11 l Z a0 hw [] wC clC G b205 b205 T216.heap n0 O216 (f220 : Exa Z T216.heap b205 "com/example/stubwright/stubwright/idl/ConstValue$BooleanValue") (f223 : Fld Z T216.heap b205 "com/example/stubwright/stubwright/idl/ConstValue$BooleanValue" "value" "Z" (.int (1 : Int32))) (f223 : Fld Z T216.heap b205 "com/example/stubwright/stubwright/idl/ConstValue$BooleanValue" "value" "Z" (.int (1 : Int32)))) hZ (hw _ (List.mem_of_getElem? (i := 20) rfl)) (hw _ (List.mem_of_getElem? (i := 2) rfl)) (by decide) (by decide)) qq224a qq224c (g := (mkF m 141 #[iv p1, iv p2, iv (1 : Int32), iv (0 : Int32), iv (2 : Int32), rv b205, rv b212, iv (0 : Int32)] [(.ref b205), (.ref b205)])) rfl (by rw [hml]; rfl) (Steps.refl _) (argsL := [(.ref b205)]) (rest := []) (lenOf pd_2 rfl) rfl (by show 2 * 0 + _ ≤ _; exact Nat.le_of_eq rfl) (hb hby at_141) (fun _ _ => ⟨rfl, e219, (by decide : 2 + 0 ≤ _), (by decide : 2 + 0 ≤ _)⟩)
        dsimp only [Pt.U, Pt.locs, Pt.cells, Pt.slots] at X224 l224 y224 z224 st224 hQ224
        subst l224 y224 z224
        obtain ⟨rfl, Nq224, e224⟩ := hQ224
        have N224 := Fr.app N219 Nq224
        have k225 : Way p e below S0 T224 (mkF m 144 #[iv p1, iv p2, iv (1 : Int32), iv (0 : Int32), iv (2 : Int32), rv b205, rv b212, iv (0 : Int32)] [(.int (1 : Int32))]) := fun t k => k222 t (st224.trans k)
        have k226 : Way p e below S0 T224 (mkF m 152 #[iv p1, iv p2, iv (1 : Int32), iv (0 : Int32), iv (2 : Int32), rv b205, rv b212, iv (0 : Int32)] [(.int (1 : Int32))]) := by
          intro t k
          refine k225 t ?_
          refine XS.ifNo X224.here hx rfl (hb hby at_144) rfl ((if0 _ _).trans (feq ((by decide) : ¬ ((1 : Int32) = (0 : Int32)))).1) ?_
          show Steps p.tables e below (T224.setTop (mkF m 147 #[iv p1, iv p2, iv (1 : Int32), iv (0 : Int32), iv (2 : Int32), rv b205, rv b212, iv (0 : Int32)] [])) _
          refine XS.iconst X224.here hx rfl (hb hby at_147) ?_
          show Steps p.tables e below (T224.setTop (mkF m 148 #[iv p1, iv p2, iv (1 : Int32), iv (0 : Int32), iv (2 : Int32), rv b205, rv b212, iv (0 : Int32)] [(.int (1 : Int32))])) _
          refine XS.goto X224.here hx rfl (pc0 := 148) (pc' := 152) rfl (hb hby at_148) (by decide) (by decide) ?_
          show Steps p.tables e below (T224.setTop (mkF m 152 #[iv p1, iv p2, iv (1 : Int32), iv (0 : Int32), iv (2 : Int32), rv b205, rv b212, iv (0 : Int32)] [(.int (1 : Int32))])) _
          exact k
        obtain ⟨fs, hr, hrun, hended, hW, hsame⟩ := X224.leave (v := some (.int (1 : Int32))) (fun h => by rw [Bd.returns] at h; cases h)
        refine ⟨_, _, k226 _ (retN X224 hx (t := .boolean) Bd.returns (by simp) (hb hby at_152) hr), hrun, hended, _, _, rfl, ?_, ⟨_, rfl⟩, hW, hsame.mono (by decide) (by decide)⟩
        show Q_law_met Z wC clC p1 p2 h0 n0 _ T224.heap _
        rw [e224]
        exact ⟨rfl, N224⟩
      · have k227 : Way p e below S0 s₁ (mkF m 31 #[iv p1, iv p2, iv (1 : Int32), iv (0 : Int32), iv (3 : Int32), .unset, .unset, .unset] []) := by have q := k165; rw [hi166] at q; exact q
        obtain ⟨T228, h228, X228, e228, E228, A228, D228, U228, st228⟩ := newO X0 hx hZ hown (hw _ (List.mem_of_getElem? (i := 0) rfl)) (hw _ (List.mem_of_getElem? (i := 1) rfl)) (hw _ (List.mem_of_getElem? (i := 2) rfl)) e0 (g := (mkF m 31 #[iv p1, iv p2, iv (1 : Int32), iv (0 : Int32), iv (3 : Int32), .unset, .unset, .unset] [])) rfl (hb hby at_31) (by decide) (by decide)
        obtain ⟨b228, g228⟩ : ∃ z, z = h0.size := ⟨_, rfl⟩
        rw [← g228] at A228 D228 U228 st228
        have O228 := O0.ext E228
        have i228_value : Fld Z h228 b228 "com/example/stubwright/stubwright/idl/ConstValue$BooleanValue" "value" "Z" (.int (0 : Int32)) := D228 (Or.inr (hw _ (List.mem_of_getElem? (i := 15) rfl))) (ty := .boolean) (by decide)
        have k229 : Way p e below S0 T228 (mkF m 34 #[iv p1, iv p2, iv (1 : Int32), iv (0 : Int32), iv (3 : Int32), .unset, .unset, .unset] [(.ref b228)]) := fun t k => k227 t (st228 _ k)
        have k230 : Way p e below S0 T228 (mkF m 36 #[iv p1, iv p2, iv (1 : Int32), iv (0 : Int32), iv (3 : Int32), .unset, .unset, .unset] [(.int (1 : Int32)), (.ref b228), (.ref b228)]) := by
          intro t k
          refine k229 t ?_
          refine XS.dup X228.here hx rfl (hb hby at_34) rfl rfl ?_
          show Steps p.tables e below (T228.setTop (mkF m 35 #[iv p1, iv p2, iv (1 : Int32), iv (0 : Int32), iv (3 : Int32), .unset, .unset, .unset] [(.ref b228), (.ref b228)])) _
          refine XS.iloadN X228.here hx rfl (hb hby at_35) rfl ?_
          show Steps p.tables e below (T228.setTop (mkF m 36 #[iv p1, iv p2, iv (1 : Int32), iv (0 : Int32), iv (3 : Int32), .unset, .unset, .unset] [(.int (1 : Int32)), (.ref b228), (.ref b228)])) _
          exact k
        have ge231 : n0 ≤ b228 := Nat.le_trans (own_old O0) (Nat.le_of_eq g228.symm)
        obtain ⟨_, _, ⟨T232, L232, kk232, nn232⟩, -, X232, ⟨Lc232, hQ232, l232, y232, z232⟩, st232⟩ := X228.specialBack hx (y := (⟨"com/example/stubwright/stubwright/idl/ConstValue$BooleanValue", "<init>", "(Z)V"⟩ : MethodName)) rfl hown (mvT hZ (hw _ (List.mem_of_getElem? (i := 3) rfl))) (mvT hZ (hw _ (List.mem_of_getElem? (i := 4) rfl))) (mvT hZ (hw _ (List.mem_of_getElem? (i := 5) rfl))) (by decide) (backOf (W := 1) (bvInit1 l Z a0 hw [] wC clC G b228 h228 n0 O228 (A228 : Exa Z h228 b228 "com/example/stubwright/stubwright/idl/ConstValue$BooleanValue") (i228_value : Fld Z h228 b228 "com/example/stubwright/stubwright/idl/ConstValue$BooleanValue" "value" "Z" (.int (0 : Int32))) (ge231 : n0 ≤ b228)) hZ (hw _ (List.mem_of_getElem? (i := 5) rfl)) (hw _ (List.mem_of_getElem? (i := 2) rfl)) (by decide) (by decide)) (g := (mkF m 36 #[iv p1, iv p2, iv (1 : Int32), iv (0 : Int32), iv (3 : Int32), .unset, .unset, .unset] [(.int (1 : Int32)), (.ref b228), (.ref b228)])) rfl (by rw [hml]; rfl) (Steps.refl _) (a := b228) (argsL := [(.int (1 : Int32))]) (rest := [(.ref b228)]) (lenOf pd_1 rfl) rfl (by show 2 * 0 + _ ≤ _; exact Nat.le_of_eq rfl) (hb hby at_36) (fun _ _ => ⟨rfl, e228, (by decide : 1 + 0 ≤ _), (by decide : 1 + 0 ≤ _)⟩)
        dsimp only [Pt.U, Pt.locs, Pt.cells, Pt.slots] at X232 l232 y232 z232 st232 hQ232
        subst l232 y232 z232
        obtain ⟨rfl, Nq232, Kq232, po232_0, po232_1⟩ := hQ232
        have N232 := Fr.app N0 Nq232
        have O232 := O228.keep Kq232 (allS ge231 all0)
        have k233 : Way p e below S0 T232 (mkF m 39 #[iv p1, iv p2, iv (1 : Int32), iv (0 : Int32), iv (3 : Int32), .unset, .unset, .unset] [(.ref b228)]) := fun t k => k230 t (st232.trans k)
        have k234 : Way p e below S0 T232 (mkF m 103 #[iv p1, iv p2, iv (1 : Int32), iv (0 : Int32), iv (3 : Int32), rv b228, .unset, .unset] [(.int (0 : Int32))]) := by
          intro t k
          refine k233 t ?_
          refine XS.astore X232.here hx rfl (hb hby at_39) rfl rfl (l' := #[iv p1, iv p2, iv (1 : Int32), iv (0 : Int32), iv (3 : Int32), rv b228, .unset, .unset]) rfl ?_
          show Steps p.tables e below (T232.setTop (mkF m 41 #[iv p1, iv p2, iv (1 : Int32), iv (0 : Int32), iv (3 : Int32), rv b228, .unset, .unset] [])) _
          refine XS.iload X232.here hx rfl (hb hby at_41) rfl ?_
          show Steps p.tables e below (T232.setTop (mkF m 43 #[iv p1, iv p2, iv (1 : Int32), iv (0 : Int32), iv (3 : Int32), rv b228, .unset, .unset] [(.int (3 : Int32))])) _
          refine XS.ifYes X232.here hx rfl (pc0 := 43) (pc' := 59) rfl (hb hby at_43) rfl ((if0 _ _).trans (feq ((by decide) : ¬ ((3 : Int32) = (0 : Int32)))).2) (by decide) (by decide) ?_
          show Steps p.tables e below (T232.setTop (mkF m 59 #[iv p1, iv p2, iv (1 : Int32), iv (0 : Int32), iv (3 : Int32), rv b228, .unset, .unset] [])) _
          refine XS.iload X232.here hx rfl (hb hby at_59) rfl ?_
          show Steps p.tables e below (T232.setTop (mkF m 61 #[iv p1, iv p2, iv (1 : Int32), iv (0 : Int32), iv (3 : Int32), rv b228, .unset, .unset] [(.int (3 : Int32))])) _
          refine XS.iconst X232.here hx rfl (hb hby at_61) ?_
          show Steps p.tables e below (T232.setTop (mkF m 62 #[iv p1, iv p2, iv (1 : Int32), iv (0 : Int32), iv (3 : Int32), rv b228, .unset, .unset] [(.int (1 : Int32)), (.int (3 : Int32))])) _
          refine XS.icmpYes X232.here hx rfl (pc0 := 62) (pc' := 71) rfl (hb hby at_62) rfl (feq ((by decide) : ¬ ((3 : Int32) = (1 : Int32)))).2 (by decide) (by decide) ?_
          show Steps p.tables e below (T232.setTop (mkF m 71 #[iv p1, iv p2, iv (1 : Int32), iv (0 : Int32), iv (3 : Int32), rv b228, .unset, .unset] [])) _
          refine XS.iload X232.here hx rfl (hb hby at_71) rfl ?_
          show Steps p.tables e below (T232.setTop (mkF m 73 #[iv p1, iv p2, iv (1 : Int32), iv (0 : Int32), iv (3 : Int32), rv b228, .unset, .unset] [(.int (3 : Int32))])) _
          refine XS.iconst X232.here hx rfl (hb hby at_73) ?_
          show Steps p.tables e below (T232.setTop (mkF m 74 #[iv p1, iv p2, iv (1 : Int32), iv (0 : Int32), iv (3 : Int32), rv b228, .unset, .unset] [(.int (2 : Int32)), (.int (3 : Int32))])) _
          refine XS.icmpYes X232.here hx rfl (pc0 := 74) (pc' := 94) rfl (hb hby at_74) rfl (feq ((by decide) : ¬ ((3 : Int32) = (2 : Int32)))).2 (by decide) (by decide) ?_
          show Steps p.tables e below (T232.setTop (mkF m 94 #[iv p1, iv p2, iv (1 : Int32), iv (0 : Int32), iv (3 : Int32), rv b228, .unset, .unset] [])) _
          refine XS.iloadN X232.here hx rfl (hb hby at_94) rfl ?_
          show Steps p.tables e below (T232.setTop (mkF m 95 #[iv p1, iv p2, iv (1 : Int32), iv (0 : Int32), iv (3 : Int32), rv b228, .unset, .unset] [(.int (0 : Int32))])) _
          refine XS.ifYes X232.here hx rfl (pc0 := 95) (pc' := 102) rfl (hb hby at_95) rfl ((if0 _ _).trans (teq ((by decide) : (0 : Int32) = (0 : Int32))).1) (by decide) (by decide) ?_
          show Steps p.tables e below (T232.setTop (mkF m 102 #[iv p1, iv p2, iv (1 : Int32), iv (0 : Int32), iv (3 : Int32), rv b228, .unset, .unset] [])) _
          refine XS.iconst X232.here hx rfl (hb hby at_102) ?_
          show Steps p.tables e below (T232.setTop (mkF m 103 #[iv p1, iv p2, iv (1 : Int32), iv (0 : Int32), iv (3 : Int32), rv b228, .unset, .unset] [(.int (0 : Int32))])) _
          exact k
        obtain ⟨_, _, ⟨T235, L235, kk235, nn235⟩, -, X235, ⟨Lc235, hQ235, l235, y235, z235⟩, st235⟩ := Jvm.LawKit.callS X232 hx (y := (⟨"java/lang/Integer", "valueOf", "(I)Ljava/lang/Integer;"⟩ : MethodName)) hown (mvT hZ (hw _ (List.mem_of_getElem? (i := 23) rfl))) (mvT hZ (hw _ (List.mem_of_getElem? (i := 24) rfl))) (mvT hZ (hw _ (List.mem_of_getElem? (i := 25) rfl))) (mvT hZ (hw _ (List.mem_of_getElem? (i := 26) rfl))) (by decide) (backOf (W := 0) (vofOld l Z a0 hw [] wC clC G (0 : Int32) T232.heap n0 O232 (by decide : ¬ ((0 : Int32) < (-128 : Int32))) (by decide : ¬ ((127 : Int32) < (0 : Int32)))) hZ (hw _ (List.mem_of_getElem? (i := 26) rfl)) (hw _ (List.mem_of_getElem? (i := 25) rfl)) (by decide) (by decide)) (g := (mkF m 103 #[iv p1, iv p2, iv (1 : Int32), iv (0 : Int32), iv (3 : Int32), rv b228, .unset, .unset] [(.int (0 : Int32))])) rfl (by rw [hml]; rfl) (argsL := [(.int (0 : Int32))]) (rest := []) (lenOf pd_4 rfl) rfl (by show 2 * 0 + _ ≤ _; exact Nat.le_of_eq rfl) (hb hby at_103) (fun _ _ => ⟨rfl, rfl, (by decide : 1 + 0 ≤ _), (by decide : 1 + 0 ≤ _)⟩)
        dsimp only [Pt.U, Pt.locs, Pt.cells, Pt.slots] at X235 l235 y235 z235 st235 hQ235
        subst l235 y235 z235
        obtain ⟨y1_235, rfl, Nq235, e235, po235_0⟩ := hQ235
        have N235 := Fr.app N232 Nq235
        rw [e235] at po235_0
        have k236 : Way p e below S0 T235 (mkF m 106 #[iv p1, iv p2, iv (1 : Int32), iv (0 : Int32), iv (3 : Int32), rv b228, .unset, .unset] [(.ref y1_235)]) := fun t k => k234 t (st235 _ k)
        have k237 : Way p e below S0 T235 (mkF m 129 #[iv p1, iv p2, iv (1 : Int32), iv (0 : Int32), iv (3 : Int32), rv b228, rv y1_235, iv (0 : Int32)] [(.ref y1_235), (.ref b228)]) := by
          intro t k
          refine k236 t ?_
          refine XS.astore X235.here hx rfl (hb hby at_106) rfl rfl (l' := #[iv p1, iv p2, iv (1 : Int32), iv (0 : Int32), iv (3 : Int32), rv b228, rv y1_235, .unset]) rfl ?_
          show Steps p.tables e below (T235.setTop (mkF m 108 #[iv p1, iv p2, iv (1 : Int32), iv (0 : Int32), iv (3 : Int32), rv b228, rv y1_235, .unset] [])) _
          refine XS.iload X235.here hx rfl (hb hby at_108) rfl ?_
          show Steps p.tables e below (T235.setTop (mkF m 110 #[iv p1, iv p2, iv (1 : Int32), iv (0 : Int32), iv (3 : Int32), rv b228, rv y1_235, .unset] [(.int (3 : Int32))])) _
          refine XS.ifYes X235.here hx rfl (pc0 := 110) (pc' := 122) rfl (hb hby at_110) rfl ((if0 _ _).trans (feq ((by decide) : ¬ ((3 : Int32) = (0 : Int32)))).2) (by decide) (by decide) ?_
          show Steps p.tables e below (T235.setTop (mkF m 122 #[iv p1, iv p2, iv (1 : Int32), iv (0 : Int32), iv (3 : Int32), rv b228, rv y1_235, .unset] [])) _
          refine XS.iconst X235.here hx rfl (hb hby at_122) ?_
          show Steps p.tables e below (T235.setTop (mkF m 123 #[iv p1, iv p2, iv (1 : Int32), iv (0 : Int32), iv (3 : Int32), rv b228, rv y1_235, .unset] [(.int (0 : Int32))])) _
          refine XS.istore X235.here hx rfl (hb hby at_123) rfl (l' := #[iv p1, iv p2, iv (1 : Int32), iv (0 : Int32), iv (3 : Int32), rv b228, rv y1_235, iv (0 : Int32)]) rfl ?_
          show Steps p.tables e below (T235.setTop (mkF m 125 #[iv p1, iv p2, iv (1 : Int32), iv (0 : Int32), iv (3 : Int32), rv b228, rv y1_235, iv (0 : Int32)] [])) _
          refine XS.aload X235.here hx rfl (hb hby at_125) rfl rfl ?_
          show Steps p.tables e below (T235.setTop (mkF m 127 #[iv p1, iv p2, iv (1 : Int32), iv (0 : Int32), iv (3 : Int32), rv b228, rv y1_235, iv (0 : Int32)] [(.ref b228)])) _
          refine XS.aload X235.here hx rfl (hb hby at_127) rfl rfl ?_
          show Steps p.tables e below (T235.setTop (mkF m 129 #[iv p1, iv p2, iv (1 : Int32), iv (0 : Int32), iv (3 : Int32), rv b228, rv y1_235, iv (0 : Int32)] [(.ref y1_235), (.ref b228)])) _
          exact k
        obtain ⟨cq238, kq238, qq238a, qq238b, qq238c⟩ := isOf hZ e235 po232_0
        obtain ⟨_, _, ⟨T238, L238, kk238, nn238⟩, -, X238, ⟨Lc238, hQ238, l238, y238, z238⟩, st238⟩ := X235.virtualBack hx (y := (⟨"com/example/stubwright/stubwright/idl/ConstValue$BooleanValue", "equals", "(Ljava/lang/Object;)Z"⟩ : MethodName)) (z := (⟨"com/example/stubwright/stubwright/idl/ConstValue$BooleanValue", "equals", "(Ljava/lang/Object;)Z"⟩ : MethodName)) hown (mvT hZ (hw _ (List.mem_of_getElem? (i := 16) rfl))) (mvT hZ (hw _ (List.mem_of_getElem? (i := 17) rfl))) (notFace_of_selects (args := #[]) (mvT hZ (hw _ (List.mem_of_getElem? (i := 19) rfl)))) (mvT hZ (hw _ (List.mem_of_getElem? (i := 19) rfl))) (mvT hZ (hw _ (List.mem_of_getElem? (i := 18) rfl))) (by decide) (backOf (W := 0) (eqOther1 l Z a0 hw [] wC clC G b228 y1_235 T232.heap n0 O232 (po235_0 : Exa Z T232.heap y1_235 "java/lang/Integer")) hZ (hw _ (List.mem_of_getElem? (i := 20) rfl)) (hw _ (List.mem_of_getElem? (i := 2) rfl)) (by decide) (by decide)) qq238a qq238c (g := (mkF m 129 #[iv p1, iv p2, iv (1 : Int32), iv (0 : Int32), iv (3 : Int32), rv b228, rv y1_235, iv (0 : Int32)] [(.ref y1_235), (.ref b228)])) rfl (by rw [hml]; rfl) (Steps.refl _) (argsL := [(.ref y1_235)]) (rest := []) (lenOf pd_2 rfl) rfl (by show 2 * 0 + _ ≤ _; exact Nat.le_of_eq rfl) (hb hby at_129) (fun _ _ => ⟨rfl, e235, (by decide : 1 + 0 ≤ _), (by decide : 1 + 0 ≤ _)⟩)
        dsimp only [Pt.U, Pt.locs, Pt.cells, Pt.slots] at X238 l238 y238 z238 st238 hQ238
        subst l238 y238 z238
        obtain ⟨rfl, Nq238, e238⟩ := hQ238
        have N238 := Fr.app N235 Nq238
        have k239 : Way p e below S0 T238 (mkF m 132 #[iv p1, iv p2, iv (1 : Int32), iv (0 : Int32), iv (3 : Int32), rv b228, rv y1_235, iv (0 : Int32)] [(.int (0 : Int32))]) := fun t k => k237 t (st238.trans k)
        have k240 : Way p e below S0 T238 (mkF m 141 #[iv p1, iv p2, iv (1 : Int32), iv (0 : Int32), iv (3 : Int32), rv b228, rv y1_235, iv (0 : Int32)] [(.ref b228), (.ref b228)]) := by
          intro t k
          refine k239 t ?_
          refine XS.iload X238.here hx rfl (hb hby at_132) rfl ?_
          show Steps p.tables e below (T238.setTop (mkF m 134 #[iv p1, iv p2, iv (1 : Int32), iv (0 : Int32), iv (3 : Int32), rv b228, rv y1_235, iv (0 : Int32)] [(.int (0 : Int32)), (.int (0 : Int32))])) _
          refine XS.icmpNo X238.here hx rfl (hb hby at_134) rfl (teq ((by decide) : (0 : Int32) = (0 : Int32))).2 ?_
          show Steps p.tables e below (T238.setTop (mkF m 137 #[iv p1, iv p2, iv (1 : Int32), iv (0 : Int32), iv (3 : Int32), rv b228, rv y1_235, iv (0 : Int32)] [])) _
          refine XS.aload X238.here hx rfl (hb hby at_137) rfl rfl ?_
          show Steps p.tables e below (T238.setTop (mkF m 139 #[iv p1, iv p2, iv (1 : Int32), iv (0 : Int32), iv (3 : Int32), rv b228, rv y1_235, iv (0 : Int32)] [(.ref b228)])) _
          refine XS.aload X238.here hx rfl (hb hby at_139) rfl rfl ?_
          show Steps p.tables e below (T238.setTop (mkF m 141 #[iv p1, iv p2, iv (1 : Int32), iv (0 : Int32), iv (3 : Int32), rv b228, rv y1_235, iv (0 : Int32)] [(.ref b228), (.ref b228)])) _
          exact k
        obtain ⟨cq241, kq241, qq241a, qq241b, qq241c⟩ := isOf hZ e238 po232_0
        obtain ⟨_, _, ⟨T241, L241, kk241, nn241⟩, -, X241, ⟨Lc241, hQ241, l241, y241, z241⟩, st241⟩ := X238.virtualBack hx (y := (⟨"com/example/stubwright/stubwright/idl/ConstValue$BooleanValue", "equals", "(Ljava/lang/Object;)Z"⟩ : MethodName)) (z := (⟨"com/example/stubwright/stubwright/idl/ConstValue$BooleanValue", "equals", "(Ljava/lang/Object;)Z"⟩ : MethodName)) hown (mvT hZ (hw _ (List.mem_of_getElem? (i := 16) rfl))) (mvT hZ (hw _ (List.mem_of_getElem? (i := 17) rfl))) (notFace_of_selects (args := #[]) (mvT hZ (hw _ (List.mem_of_getElem? (i := 19) rfl)))) (mvT hZ (hw _ (List.mem_of_getElem? (i := 19) rfl))) (mvT hZ (hw _ (List.mem_of_getElem? (i := 18) rfl))) (by decide) (backOf (W := 0) (eq11 l Z a0 hw [] wC clC G b228 b228 T232.heap n0 O232 (po232_0 : Exa Z T232.heap b228 "com/example/stubwright/stubwright/idl/ConstValue$BooleanValue") (po232_1 : Fld Z T232.heap b228 "com/example/stubwright/stubwright/idl/ConstValue$BooleanValue" "value" "Z" (.int (1 : Int32))) (po232_1 : Fld Z T232.heap b228 "com/example/stubwright/stubwright/idl/ConstValue$BooleanValue" "value" "Z" (.int (1 : Int32)))) hZ (hw _ (List.mem_of_getElem? (i := 20) rfl)) (hw _ (List.mem_of_getElem? (i := 2) rfl)) (by decide) (by decide)) qq241a qq241c (g := (mkF m 141 #[iv p1, iv p2, iv (1 : Int32), iv (0 : Int32), iv (3 : Int32), rv b228, rv y1_235, iv (0 : Int32)] [(.ref b228), (.ref b228)])) rfl (by rw [hml]; rfl) (Steps.refl _) (argsL := [(.ref b228)]) (rest := []) (lenOf pd_2 rfl) rfl (by show 2 * 0 + _ ≤ _; exact Nat.le_of_eq rfl) (hb hby at_141) (fun _ _ => ⟨rfl, e238, (by decide : 1 + 0 ≤ _), (by decide : 1 + 0 ≤ _)⟩)
        dsimp only [Pt.U, Pt.locs, Pt.cells, Pt.slots] at X241 l241 y241 z241 st241 hQ241
        subst l241 y241 z241
        obtain ⟨rfl, Nq241, e241⟩ := hQ241
        have N241 := Fr.app N238 Nq241
        have k242 : Way p e below S0 T241 (mkF m 144 #[iv p1, iv p2, iv (1 : Int32), iv (0 : Int32), iv (3 : Int32), rv b228, rv y1_235, iv (0 : Int32)] [(.int (1 : Int32))]) := fun t k => k240 t (st241.trans k)
        have k243 : Way p e below S0 T241 (mkF m 152 #[iv p1, iv p2, iv (1 : Int32), iv (0 : Int32), iv (3 : Int32), rv b228, rv y1_235, iv (0 : Int32)] [(.int (1 : Int32))]) := by
          intro t k
          refine k242 t ?_
          refine XS.ifNo X241.here hx rfl (hb hby at_144) rfl ((if0 _ _).trans (feq ((by decide) : ¬ ((1 : Int32) = (0 : Int32)))).1) ?_
          show Steps p.tables e below (T241.setTop (mkF m 147 #[iv p1, iv p2, iv (1 : Int32), iv (0 : Int32), iv (3 : Int32), rv b228, rv y1_235, iv (0 : Int32)] [])) _
          refine XS.iconst X241.here hx rfl (hb hby at_147) ?_
          show Steps p.tables e below (T241.setTop (mkF m 148 #[iv p1, iv p2, iv (1 : Int32), iv (0 : Int32), iv (3 : Int32), rv b228, rv y1_235, iv (0 : Int32)] [(.int (1 : Int32))])) _
          refine XS.goto X241.here hx rfl (pc0 := 148) (pc' := 152) rfl (hb hby at_148) (by decide) (by decide) ?_
          show Steps p.tables e below (T241.setTop (mkF m 152 #[iv p1, iv p2, iv (1 : Int32), iv (0 : Int32), iv (3 : Int32), rv b228, rv y1_235, iv (0 : Int32)] [(.int (1 : Int32))])) _
          exact k
        obtain ⟨fs, hr, hrun, hended, hW, hsame⟩ := X241.leave (v := some (.int (1 : Int32))) (fun h => by rw [Bd.returns] at h; cases h)
        refine ⟨_, _, k243 _ (retN X241 hx (t := .boolean) Bd.returns (by simp) (hb hby at_152) hr), hrun, hended, _, _, rfl, ?_, ⟨_, rfl⟩, hW, hsame.mono (by decide) (by decide)⟩
        show Q_law_met Z wC clC p1 p2 h0 n0 _ T241.heap _
        rw [e241]
        exact ⟨rfl, N241⟩
    · have k244 : Way p e below S0 s₁ (mkF m 31 #[iv p1, iv p2, iv (1 : Int32), iv (1 : Int32), iv (((p1.toUInt32 >>> ((2 : Int32) &&& 31).toUInt32).toInt32) &&& (3 : Int32)), .unset, .unset, .unset] []) := by
        intro t k
        refine k164 t ?_
        refine XS.ifNo X0.here hx rfl (hb hby at_15) rfl ((if0 _ _).trans (feq (hc163 : ¬ ((p1 &&& (2 : Int32)) = (0 : Int32)))).1) ?_
        show Steps p.tables e below (s₁.setTop (mkF m 18 #[iv p1, iv p2, iv (1 : Int32), .unset, .unset, .unset, .unset, .unset] [])) _
        refine XS.iconst X0.here hx rfl (hb hby at_18) ?_
        show Steps p.tables e below (s₁.setTop (mkF m 19 #[iv p1, iv p2, iv (1 : Int32), .unset, .unset, .unset, .unset, .unset] [(.int (1 : Int32))])) _
        refine XS.goto X0.here hx rfl (pc0 := 19) (pc' := 23) rfl (hb hby at_19) (by decide) (by decide) ?_
        show Steps p.tables e below (s₁.setTop (mkF m 23 #[iv p1, iv p2, iv (1 : Int32), .unset, .unset, .unset, .unset, .unset] [(.int (1 : Int32))])) _
        refine XS.istoreN X0.here hx rfl (hb hby at_23) rfl (l' := #[iv p1, iv p2, iv (1 : Int32), iv (1 : Int32), .unset, .unset, .unset, .unset]) rfl ?_
        show Steps p.tables e below (s₁.setTop (mkF m 24 #[iv p1, iv p2, iv (1 : Int32), iv (1 : Int32), .unset, .unset, .unset, .unset] [])) _
        refine XS.iloadN X0.here hx rfl (hb hby at_24) rfl ?_
        show Steps p.tables e below (s₁.setTop (mkF m 25 #[iv p1, iv p2, iv (1 : Int32), iv (1 : Int32), .unset, .unset, .unset, .unset] [(.int p1)])) _
        refine XS.iconst X0.here hx rfl (hb hby at_25) ?_
        show Steps p.tables e below (s₁.setTop (mkF m 26 #[iv p1, iv p2, iv (1 : Int32), iv (1 : Int32), .unset, .unset, .unset, .unset] [(.int (2 : Int32)), (.int p1)])) _
        refine XS.iushr X0.here hx rfl (hb hby at_26) rfl ?_
        show Steps p.tables e below (s₁.setTop (mkF m 27 #[iv p1, iv p2, iv (1 : Int32), iv (1 : Int32), .unset, .unset, .unset, .unset] [(.int ((p1.toUInt32 >>> ((2 : Int32) &&& 31).toUInt32).toInt32))])) _
        refine XS.iconst X0.here hx rfl (hb hby at_27) ?_
        show Steps p.tables e below (s₁.setTop (mkF m 28 #[iv p1, iv p2, iv (1 : Int32), iv (1 : Int32), .unset, .unset, .unset, .unset] [(.int (3 : Int32)), (.int ((p1.toUInt32 >>> ((2 : Int32) &&& 31).toUInt32).toInt32))])) _
        refine XS.iand X0.here hx rfl (hb hby at_28) rfl ?_
        show Steps p.tables e below (s₁.setTop (mkF m 29 #[iv p1, iv p2, iv (1 : Int32), iv (1 : Int32), .unset, .unset, .unset, .unset] [(.int (((p1.toUInt32 >>> ((2 : Int32) &&& 31).toUInt32).toInt32) &&& (3 : Int32)))])) _
        refine XS.istore X0.here hx rfl (hb hby at_29) rfl (l' := #[iv p1, iv p2, iv (1 : Int32), iv (1 : Int32), iv (((p1.toUInt32 >>> ((2 : Int32) &&& 31).toUInt32).toInt32) &&& (3 : Int32)), .unset, .unset, .unset]) rfl ?_
        show Steps p.tables e below (s₁.setTop (mkF m 31 #[iv p1, iv p2, iv (1 : Int32), iv (1 : Int32), iv (((p1.toUInt32 >>> ((2 : Int32) &&& 31).toUInt32).toInt32) &&& (3 : Int32)), .unset, .unset, .unset] [])) _
        exact k
      have hr245 : (((p1.toUInt32 >>> ((2 : Int32) &&& 31).toUInt32).toInt32) &&& (3 : Int32)) = (0 : Int32) ∨ (((p1.toUInt32 >>> ((2 : Int32) &&& 31).toUInt32).toInt32) &&& (3 : Int32)) = (1 : Int32) ∨ (((p1.toUInt32 >>> ((2 : Int32) &&& 31).toUInt32).toInt32) &&& (3 : Int32)) = (2 : Int32) ∨ (((p1.toUInt32 >>> ((2 : Int32) &&& 31).toUInt32).toInt32) &&& (3 : Int32)) = (3 : Int32) := own_mask3 _
      rcases hr245 with hi245 | hi245 | hi245 | hi245
      · have k246 : Way p e below S0 s₁ (mkF m 31 #[iv p1, iv p2, iv (1 : Int32), iv (1 : Int32), iv (0 : Int32), .unset, .unset, .unset] []) := by have q := k244; rw [hi245] at q; exact q
        obtain ⟨T247, h247, X247, e247, E247, A247, D247, U247, st247⟩ := newO X0 hx hZ hown (hw _ (List.mem_of_getElem? (i := 0) rfl)) (hw _ (List.mem_of_getElem? (i := 1) rfl)) (hw _ (List.mem_of_getElem? (i := 2) rfl)) e0 (g := (mkF m 31 #[iv p1, iv p2, iv (1 : Int32), iv (1 : Int32), iv (0 : Int32), .unset, .unset, .unset] [])) rfl (hb hby at_31) (by decide) (by decide)
        obtain ⟨b247, g247⟩ : ∃ z, z = h0.size := ⟨_, rfl⟩
        rw [← g247] at A247 D247 U247 st247
        have O247 := O0.ext E247
        have i247_value : Fld Z h247 b247 "com/example/stubwright/stubwright/idl/ConstValue$BooleanValue" "value" "Z" (.int (0 : Int32)) := D247 (Or.inr (hw _ (List.mem_of_getElem? (i := 15) rfl))) (ty := .boolean) (by decide)
        have k248 : Way p e below S0 T247 (mkF m 34 #[iv p1, iv p2, iv (1 : Int32), iv (1 : Int32), iv (0 : Int32), .unset, .unset, .unset] [(.ref b247)]) := fun t k => k246 t (st247 _ k)
        have k249 : Way p e below S0 T247 (mkF m 36 #[iv p1, iv p2, iv (1 : Int32), iv (1 : Int32), iv (0 : Int32), .unset, .unset, .unset] [(.int (1 : Int32)), (.ref b247), (.ref b247)]) := by
          intro t k
          refine k248 t ?_
          refine XS.dup X247.here hx rfl (hb hby at_34) rfl rfl ?_
          show Steps p.tables e below (T247.setTop (mkF m 35 #[iv p1, iv p2, iv (1 : Int32), iv (1 : Int32), iv (0 : Int32), .unset, .unset, .unset] [(.ref b247), (.ref b247)])) _
          refine XS.iloadN X247.here hx rfl (hb hby at_35) rfl ?_
          show Steps p.tables e below (T247.setTop (mkF m 36 #[iv p1, iv p2, iv (1 : Int32), iv (1 : Int32), iv (0 : Int32), .unset, .unset, .unset] [(.int (1 : Int32)), (.ref b247), (.ref b247)])) _
          exact k
        have ge250 : n0 ≤ b247 := Nat.le_trans (own_old O0) (Nat.le_of_eq g247.symm)
        obtain ⟨_, _, ⟨T251, L251, kk251, nn251⟩, -, X251, ⟨Lc251, hQ251, l251, y251, z251⟩, st251⟩ := X247.specialBack hx (y := (⟨"com/example/stubwright/stubwright/idl/ConstValue$BooleanValue", "<init>", "(Z)V"⟩ : MethodName)) rfl hown (mvT hZ (hw _ (List.mem_of_getElem? (i := 3) rfl))) (mvT hZ (hw _ (List.mem_of_getElem? (i := 4) rfl))) (mvT hZ (hw _ (List.mem_of_getElem? (i := 5) rfl))) (by decide) (backOf (W := 1) (bvInit1 l Z a0 hw [] wC clC G b247 h247 n0 O247 (A247 : Exa Z h247 b247 "com/example/stubwright/stubwright/idl/ConstValue$BooleanValue") (i247_value : Fld Z h247 b247 "com/example/stubwright/stubwright/idl/ConstValue$BooleanValue" "value" "Z" (.int (0 : Int32))) (ge250 : n0 ≤ b247)) hZ (hw _ (List.mem_of_getElem? (i := 5) rfl)) (hw _ (List.mem_of_getElem? (i := 2) rfl)) (by decide) (by decide)) (g := (mkF m 36 #[iv p1, iv p2, iv (1 : Int32), iv (1 : Int32), iv (0 : Int32), .unset, .unset, .unset] [(.int (1 : Int32)), (.ref b247), (.ref b247)])) rfl (by rw [hml]; rfl) (Steps.refl _) (a := b247) (argsL := [(.int (1 : Int32))]) (rest := [(.ref b247)]) (lenOf pd_1 rfl) rfl (by show 2 * 0 + _ ≤ _; exact Nat.le_of_eq rfl) (hb hby at_36) (fun _ _ => ⟨rfl, e247, (by decide : 1 + 0 ≤ _), (by decide : 1 + 0 ≤ _)⟩)
        dsimp only [Pt.U, Pt.locs, Pt.cells, Pt.slots] at X251 l251 y251 z251 st251 hQ251
        subst l251 y251 z251
        obtain ⟨rfl, Nq251, Kq251, po251_0, po251_1⟩ := hQ251
        have N251 := Fr.app N0 Nq251
        have O251 := O247.keep Kq251 (allS ge250 all0)
        have k252 : Way p e below S0 T251 (mkF m 39 #[iv p1, iv p2, iv (1 : Int32), iv (1 : Int32), iv (0 : Int32), .unset, .unset, .unset] [(.ref b247)]) := fun t k => k249 t (st251.trans k)
        have k253 : Way p e below S0 T251 (mkF m 46 #[iv p1, iv p2, iv (1 : Int32), iv (1 : Int32), iv (0 : Int32), rv b247, .unset, .unset] []) := by
          intro t k
          refine k252 t ?_
          refine XS.astore X251.here hx rfl (hb hby at_39) rfl rfl (l' := #[iv p1, iv p2, iv (1 : Int32), iv (1 : Int32), iv (0 : Int32), rv b247, .unset, .unset]) rfl ?_
          show Steps p.tables e below (T251.setTop (mkF m 41 #[iv p1, iv p2, iv (1 : Int32), iv (1 : Int32), iv (0 : Int32), rv b247, .unset, .unset] [])) _
          refine XS.iload X251.here hx rfl (hb hby at_41) rfl ?_
          show Steps p.tables e below (T251.setTop (mkF m 43 #[iv p1, iv p2, iv (1 : Int32), iv (1 : Int32), iv (0 : Int32), rv b247, .unset, .unset] [(.int (0 : Int32))])) _
          refine XS.ifNo X251.here hx rfl (hb hby at_43) rfl ((if0 _ _).trans (teq ((by decide) : (0 : Int32) = (0 : Int32))).2) ?_
          show Steps p.tables e below (T251.setTop (mkF m 46 #[iv p1, iv p2, iv (1 : Int32), iv (1 : Int32), iv (0 : Int32), rv b247, .unset, .unset] [])) _
          exact k
        obtain ⟨T254, h254, X254, e254, E254, A254, D254, U254, st254⟩ := newO X251 hx hZ hown (hw _ (List.mem_of_getElem? (i := 0) rfl)) (hw _ (List.mem_of_getElem? (i := 1) rfl)) (hw _ (List.mem_of_getElem? (i := 2) rfl)) rfl (g := (mkF m 46 #[iv p1, iv p2, iv (1 : Int32), iv (1 : Int32), iv (0 : Int32), rv b247, .unset, .unset] [])) rfl (hb hby at_46) (by decide) (by decide)
        obtain ⟨b254, g254⟩ : ∃ z, z = T251.heap.size := ⟨_, rfl⟩
        rw [← g254] at A254 D254 U254 st254
        have O254 := O251.ext E254
        have i254_value : Fld Z h254 b254 "com/example/stubwright/stubwright/idl/ConstValue$BooleanValue" "value" "Z" (.int (0 : Int32)) := D254 (Or.inr (hw _ (List.mem_of_getElem? (i := 15) rfl))) (ty := .boolean) (by decide)
        have k255 : Way p e below S0 T254 (mkF m 49 #[iv p1, iv p2, iv (1 : Int32), iv (1 : Int32), iv (0 : Int32), rv b247, .unset, .unset] [(.ref b254)]) := fun t k => k253 t (st254 _ k)
        have k256 : Way p e below S0 T254 (mkF m 51 #[iv p1, iv p2, iv (1 : Int32), iv (1 : Int32), iv (0 : Int32), rv b247, .unset, .unset] [(.int (1 : Int32)), (.ref b254), (.ref b254)]) := by
          intro t k
          refine k255 t ?_
          refine XS.dup X254.here hx rfl (hb hby at_49) rfl rfl ?_
          show Steps p.tables e below (T254.setTop (mkF m 50 #[iv p1, iv p2, iv (1 : Int32), iv (1 : Int32), iv (0 : Int32), rv b247, .unset, .unset] [(.ref b254), (.ref b254)])) _
          refine XS.iloadN X254.here hx rfl (hb hby at_50) rfl ?_
          show Steps p.tables e below (T254.setTop (mkF m 51 #[iv p1, iv p2, iv (1 : Int32), iv (1 : Int32), iv (0 : Int32), rv b247, .unset, .unset] [(.int (1 : Int32)), (.ref b254), (.ref b254)])) _
          exact k
        have ge257 : n0 ≤ b254 := Nat.le_trans (own_old O251) (Nat.le_of_eq g254.symm)
        obtain ⟨_, _, ⟨T258, L258, kk258, nn258⟩, -, X258, ⟨Lc258, hQ258, l258, y258, z258⟩, st258⟩ := X254.specialBack hx (y := (⟨"com/example/stubwright/stubwright/idl/ConstValue$BooleanValue", "<init>", "(Z)V"⟩ : MethodName)) rfl hown (mvT hZ (hw _ (List.mem_of_getElem? (i := 3) rfl))) (mvT hZ (hw _ (List.mem_of_getElem? (i := 4) rfl))) (mvT hZ (hw _ (List.mem_of_getElem? (i := 5) rfl))) (by decide) (backOf (W := 1) (bvInit1 l Z a0 hw [] wC clC G b254 h254 n0 O254 (A254 : Exa Z h254 b254 "com/example/stubwright/stubwright/idl/ConstValue$BooleanValue") (i254_value : Fld Z h254 b254 "com/example/stubwright/stubwright/idl/ConstValue$BooleanValue" "value" "Z" (.int (0 : Int32))) (ge257 : n0 ≤ b254)) hZ (hw _ (List.mem_of_getElem? (i := 5) rfl)) (hw _ (List.mem_of_getElem? (i := 2) rfl)) (by decide) (by decide)) (g := (mkF m 51 #[iv p1, iv p2, iv (1 : Int32), iv (1 : Int32), iv (0 : Int32), rv b247, .unset, .unset] [(.int (1 : Int32)), (.ref b254), (.ref b254)])) rfl (by rw [hml]; rfl) (Steps.refl _) (a := b254) (argsL := [(.int (1 : Int32))]) (rest := [(.ref b254)]) (lenOf pd_1 rfl) rfl (by show 2 * 0 + _ ≤ _; exact Nat.le_of_eq rfl) (hb hby at_51) (fun _ _ => ⟨rfl, e254, (by decide : 2 + 0 ≤ _), (by decide : 2 + 0 ≤ _)⟩)
        dsimp only [Pt.U, Pt.locs, Pt.cells, Pt.slots] at X258 l258 y258 z258 st258 hQ258
        subst l258 y258 z258
        obtain ⟨rfl, Nq258, Kq258, po258_0, po258_1⟩ := hQ258
        have N258 := Fr.app N251 Nq258
        have O258 := O254.keep Kq258 (allS ge257 all0)
        have k259 : Way p e below S0 T258 (mkF m 54 #[iv p1, iv p2, iv (1 : Int32), iv (1 : Int32), iv (0 : Int32), rv b247, .unset, .unset] [(.ref b254)]) := fun t k => k256 t (st258.trans k)
        have k260 : Way p e below S0 T258 (mkF m 129 #[iv p1, iv p2, iv (1 : Int32), iv (1 : Int32), iv (0 : Int32), rv b247, rv b254, iv (1 : Int32)] [(.ref b254), (.ref b247)]) := by
          intro t k
          refine k259 t ?_
          refine XS.astore X258.here hx rfl (hb hby at_54) rfl rfl (l' := #[iv p1, iv p2, iv (1 : Int32), iv (1 : Int32), iv (0 : Int32), rv b247, rv b254, .unset]) rfl ?_
          show Steps p.tables e below (T258.setTop (mkF m 56 #[iv p1, iv p2, iv (1 : Int32), iv (1 : Int32), iv (0 : Int32), rv b247, rv b254, .unset] [])) _
          refine XS.goto X258.here hx rfl (pc0 := 56) (pc' := 108) rfl (hb hby at_56) (by decide) (by decide) ?_
          show Steps p.tables e below (T258.setTop (mkF m 108 #[iv p1, iv p2, iv (1 : Int32), iv (1 : Int32), iv (0 : Int32), rv b247, rv b254, .unset] [])) _
          refine XS.iload X258.here hx rfl (hb hby at_108) rfl ?_
          show Steps p.tables e below (T258.setTop (mkF m 110 #[iv p1, iv p2, iv (1 : Int32), iv (1 : Int32), iv (0 : Int32), rv b247, rv b254, .unset] [(.int (0 : Int32))])) _
          refine XS.ifNo X258.here hx rfl (hb hby at_110) rfl ((if0 _ _).trans (teq ((by decide) : (0 : Int32) = (0 : Int32))).2) ?_
          show Steps p.tables e below (T258.setTop (mkF m 113 #[iv p1, iv p2, iv (1 : Int32), iv (1 : Int32), iv (0 : Int32), rv b247, rv b254, .unset] [])) _
          refine XS.iloadN X258.here hx rfl (hb hby at_113) rfl ?_
          show Steps p.tables e below (T258.setTop (mkF m 114 #[iv p1, iv p2, iv (1 : Int32), iv (1 : Int32), iv (0 : Int32), rv b247, rv b254, .unset] [(.int (1 : Int32))])) _
          refine XS.iloadN X258.here hx rfl (hb hby at_114) rfl ?_
          show Steps p.tables e below (T258.setTop (mkF m 115 #[iv p1, iv p2, iv (1 : Int32), iv (1 : Int32), iv (0 : Int32), rv b247, rv b254, .unset] [(.int (1 : Int32)), (.int (1 : Int32))])) _
          refine XS.icmpNo X258.here hx rfl (hb hby at_115) rfl (teq ((by decide) : (1 : Int32) = (1 : Int32))).2 ?_
          show Steps p.tables e below (T258.setTop (mkF m 118 #[iv p1, iv p2, iv (1 : Int32), iv (1 : Int32), iv (0 : Int32), rv b247, rv b254, .unset] [])) _
          refine XS.iconst X258.here hx rfl (hb hby at_118) ?_
          show Steps p.tables e below (T258.setTop (mkF m 119 #[iv p1, iv p2, iv (1 : Int32), iv (1 : Int32), iv (0 : Int32), rv b247, rv b254, .unset] [(.int (1 : Int32))])) _
          refine XS.goto X258.here hx rfl (pc0 := 119) (pc' := 123) rfl (hb hby at_119) (by decide) (by decide) ?_
          show Steps p.tables e below (T258.setTop (mkF m 123 #[iv p1, iv p2, iv (1 : Int32), iv (1 : Int32), iv (0 : Int32), rv b247, rv b254, .unset] [(.int (1 : Int32))])) _
          refine XS.istore X258.here hx rfl (hb hby at_123) rfl (l' := #[iv p1, iv p2, iv (1 : Int32), iv (1 : Int32), iv (0 : Int32), rv b247, rv b254, iv (1 : Int32)]) rfl ?_
          show Steps p.tables e below (T258.setTop (mkF m 125 #[iv p1, iv p2, iv (1 : Int32), iv (1 : Int32), iv (0 : Int32), rv b247, rv b254, iv (1 : Int32)] [])) _
          refine XS.aload X258.here hx rfl (hb hby at_125) rfl rfl ?_
          show Steps p.tables e below (T258.setTop (mkF m 127 #[iv p1, iv p2, iv (1 : Int32), iv (1 : Int32), iv (0 : Int32), rv b247, rv b254, iv (1 : Int32)] [(.ref b247)])) _
          refine XS.aload X258.here hx rfl (hb hby at_127) rfl rfl ?_
          show Steps p.tables e below (T258.setTop (mkF m 129 #[iv p1, iv p2, iv (1 : Int32), iv (1 : Int32), iv (0 : Int32), rv b247, rv b254, iv (1 : Int32)] [(.ref b254), (.ref b247)])) _
          exact k
        have f261 : Fld Z T258.heap b247 "com/example/stubwright/stubwright/idl/ConstValue$BooleanValue" "value" "Z" (.int (1 : Int32)) := ((po251_1.ext E254).keep Kq258 (ninS (Nat.ne_of_lt (Nat.lt_of_lt_of_le po251_0.lt (Nat.le_of_eq g254.symm))) nin0))
        have f263 : Exa Z T258.heap b247 "com/example/stubwright/stubwright/idl/ConstValue$BooleanValue" := ((po251_0.ext E254).keep Kq258)
        obtain ⟨cq262, kq262, qq262a, qq262b, qq262c⟩ := isOf hZ rfl f263
        obtain ⟨_, _, ⟨T262, L262, kk262, nn262⟩, -, X262, ⟨Lc262, hQ262, l262, y262, z262⟩, st262⟩ := X258.virtualBack hx (y := (⟨"com/example/stubwright/stubwright/idl/ConstValue$BooleanValue", "equals", "(Ljava/lang/Object;)Z"⟩ : MethodName)) (z := (⟨"com/example/stubwright/stubwright/idl/ConstValue$BooleanValue", "equals", "(Ljava/lang/Object;)Z"⟩ : MethodName)) hown (mvT hZ (hw _ (List.mem_of_getElem? (i := 16) rfl))) (mvT hZ (hw _ (List.mem_of_getElem? (i := 17) rfl))) (notFace_of_selects (args := #[]) (mvT hZ (hw _ (List.mem_of_getElem? (i := 19) rfl)))) (mvT hZ (hw _ (List.mem_of_getElem? (i := 19) rfl))) (mvT hZ (hw _ (List.mem_of_getElem? (i := 18) rfl))) (by decide) (backOf (W := 0) (eq11 l Z a0 hw [] wC clC G b247 b254 T258.heap n0 O258 (po258_0 : Exa Z T258.heap b254 "com/example/stubwright/stubwright/idl/ConstValue$BooleanValue") (f261 : Fld Z T258.heap b247 "com/example/stubwright/stubwright/idl/ConstValue$BooleanValue" "value" "Z" (.int (1 : Int32))) (po258_1 : Fld Z T258.heap b254 "com/example/stubwright/stubwright/idl/ConstValue$BooleanValue" "value" "Z" (.int (1 : Int32)))) hZ (hw _ (List.mem_of_getElem? (i := 20) rfl)) (hw _ (List.mem_of_getElem? (i := 2) rfl)) (by decide) (by decide)) qq262a qq262c (g := (mkF m 129 #[iv p1, iv p2, iv (1 : Int32), iv (1 : Int32), iv (0 : Int32), rv b247, rv b254, iv (1 : Int32)] [(.ref b254), (.ref b247)])) rfl (by rw [hml]; rfl) (Steps.refl _) (argsL := [(.ref b254)]) (rest := []) (lenOf pd_2 rfl) rfl (by show 2 * 0 + _ ≤ _; exact Nat.le_of_eq rfl) (hb hby at_129) (fun _ _ => ⟨rfl, rfl, (by decide : 2 + 0 ≤ _), (by decide : 2 + 0 ≤ _)⟩)
        dsimp only [Pt.U, Pt.locs, Pt.cells, Pt.slots] at X262 l262 y262 z262 st262 hQ262
        subst l262 y262 z262
        obtain ⟨rfl, Nq262, e262⟩ := hQ262
        have N262 := Fr.app N258 Nq262
        have k264 : Way p e below S0 T262 (mkF m 132 #[iv p1, iv p2, iv (1 : Int32), iv (1 : Int32), iv (0 : Int32), rv b247, rv b254, iv (1 : Int32)] [(.int (1 : Int32))]) := fun t k => k260 t (st262.trans k)
        have k265 : Way p e below S0 T262 (mkF m 141 #[iv p1, iv p2, iv (1 : Int32), iv (1 : Int32), iv (0 : Int32), rv b247, rv b254, iv (1 : Int32)] [(.ref b247), (.ref b247)]) := by
          intro t k
          refine k264 t ?_
          refine XS.iload X262.here hx rfl (hb hby at_132) rfl ?_
          show Steps p.tables e below (T262.setTop (mkF m 134 #[iv p1, iv p2, iv (1 : Int32), iv (1 : Int32), iv (0 : Int32), rv b247, rv b254, iv (1 : Int32)] [(.int (1 : Int32)), (.int (1 : Int32))])) _
          refine XS.icmpNo X262.here hx rfl (hb hby at_134) rfl (teq ((by decide) : (1 : Int32) = (1 : Int32))).2 ?_
          show Steps p.tables e below (T262.setTop (mkF m 137 #[iv p1, iv p2, iv (1 : Int32), iv (1 : Int32), iv (0 : Int32), rv b247, rv b254, iv (1 : Int32)] [])) _
          refine XS.aload X262.here hx rfl (hb hby at_137) rfl rfl ?_
          show Steps p.tables e below (T262.setTop (mkF m 139 #[iv p1, iv p2, iv (1 : Int32), iv (1 : Int32), iv (0 : Int32), rv b247, rv b254, iv (1 : Int32)] [(.ref b247)])) _
          refine XS.aload X262.here hx rfl (hb hby at_139) rfl rfl ?_
          show Steps p.tables e below (T262.setTop (mkF m 141 #[iv p1, iv p2, iv (1 : Int32), iv (1 : Int32), iv (0 : Int32), rv b247, rv b254, iv (1 : Int32)] [(.ref b247), (.ref b247)])) _
          exact k
        obtain ⟨cq266, kq266, qq266a, qq266b, qq266c⟩ := isOf hZ e262 f263
        obtain ⟨_, _, ⟨T266, L266, kk266, nn266⟩, -, X266, ⟨Lc266, hQ266, l266, y266, z266⟩, st266⟩ := X262.virtualBack hx (y := (⟨"com/example/stubwright/stubwright/idl/ConstValue$BooleanValue", "equals", "(Ljava/lang/Object;)Z"⟩ : MethodName)) (z := (⟨"com/example/stubwright/stubwright/idl/ConstValue$BooleanValue", "equals", "(Ljava/lang/Object;)Z"⟩ : MethodName)) hown (mvT hZ (hw _ (List.mem_of_getElem? (i := 16) rfl))) (mvT hZ (hw _ (List.mem_of_getElem? (i := 17) rfl))) (notFace_of_selects (args := #[]) (mvT hZ (hw _ (List.mem_of_getElem? (i := 19) rfl)))) (mvT hZ (hw _ (List.mem_of_getElem? (i := 19) rfl))) (mvT hZ (hw _ (List.mem_of_getElem? (i := 18) rfl))) (by decide) (backOf (W := 0) (eq11 l Z a0 hw [] wC clC G b247 b247 T258.heap n0 O258 (f263 : Exa Z T258.heap b247 "com/example/stubwright/stubwright/idl/ConstValue$BooleanValue") (f261 : Fld Z T258.heap b247 "com/example/stubwright/stubwright/idl/ConstValue$BooleanValue" "value" "Z" (.int (1 : Int32))) (f261 : Fld Z T258.heap b247 "com/example/stubwright/stubwright/idl/ConstValue$BooleanValue" "value" "Z" (.int (1 : Int32)))) hZ (hw _ (List.mem_of_getElem? (i := 20) rfl)) (hw _ (List.mem_of_getElem? (i := 2) rfl)) (by decide) (by decide)) qq266a qq266c (g := (mkF m 141 #[iv p1, iv p2, iv (1 : Int32), iv (1 : Int32), iv (0 : Int32), rv b247, rv b254, iv (1 : Int32)] [(.ref b247), (.ref b247)])) rfl (by rw [hml]; rfl) (Steps.refl _) (argsL := [(.ref b247)]) (rest := []) (lenOf pd_2 rfl) rfl (by show 2 * 0 + _ ≤ _; exact Nat.le_of_eq rfl) (hb hby at_141) (fun _ _ => ⟨rfl, e262, (by decide : 2 + 0 ≤ _), (by decide : 2 + 0 ≤ _)⟩)
        dsimp only [Pt.U, Pt.locs, Pt.cells, Pt.slots] at X266 l266 y266 z266 st266 hQ266
        subst l266 y266 z266
        obtain ⟨rfl, Nq266, e266⟩ := hQ266
        have N266 := Fr.app N262 Nq266
        have k267 : Way p e below S0 T266 (mkF m 144 #[iv p1, iv p2, iv (1 : Int32), iv (1 : Int32), iv (0 : Int32), rv b247, rv b254, iv (1 : Int32)] [(.int (1 : Int32))]) := fun t k => k265 t (st266.trans k)
        have k268 : Way p e below S0 T266 (mkF m 152 #[iv p1, iv p2, iv (1 : Int32), iv (1 : Int32), iv (0 : Int32), rv b247, rv b254, iv (1 : Int32)] [(.int (1 : Int32))]) := by
          intro t k
          refine k267 t ?_
          refine XS.ifNo X266.here hx rfl (hb hby at_144) rfl ((if0 _ _).trans (feq ((by decide) : ¬ ((1 : Int32) = (0 : Int32)))).1) ?_
          show Steps p.tables e below (T266.setTop (mkF m 147 #[iv p1, iv p2, iv (1 : Int32), iv (1 : Int32), iv (0 : Int32), rv b247, rv b254, iv (1 : Int32)] [])) _
          refine XS.iconst X266.here hx rfl (hb hby at_147) ?_
          show Steps p.tables e below (T266.setTop (mkF m 148 #[iv p1, iv p2, iv (1 : Int32), iv (1 : Int32), iv (0 : Int32), rv b247, rv b254, iv (1 : Int32)] [(.int (1 : Int32))])) _
          refine XS.goto X266.here hx rfl (pc0 := 148) (pc' := 152) rfl (hb hby at_148) (by decide) (by decide) ?_
          show Steps p.tables e below (T266.setTop (mkF m 152 #[iv p1, iv p2, iv (1 : Int32), iv (1 : Int32), iv (0 : Int32), rv b247, rv b254, iv (1 : Int32)] [(.int (1 : Int32))])) _
          exact k
        obtain ⟨fs, hr, hrun, hended, hW, hsame⟩ := X266.leave (v := some (.int (1 : Int32))) (fun h => by rw [Bd.returns] at h; cases h)
        refine ⟨_, _, k268 _ (retN X266 hx (t := .boolean) Bd.returns (by simp) (hb hby at_152) hr), hrun, hended, _, _, rfl, ?_, ⟨_, rfl⟩, hW, hsame.mono (by decide) (by decide)⟩
        show Q_law_met Z wC clC p1 p2 h0 n0 _ T266.heap _
        rw [e266]
        exact ⟨rfl, N266⟩
      · have k269 : Way p e below S0 s₁ (mkF m 31 #[iv p1, iv p2, iv (1 : Int32), iv (1 : Int32), iv (1 : Int32), .unset, .unset, .unset] []) := by have q := k244; rw [hi245] at q; exact q
        obtain ⟨T270, h270, X270, e270, E270, A270, D270, U270, st270⟩ := newO X0 hx hZ hown (hw _ (List.mem_of_getElem? (i := 0) rfl)) (hw _ (List.mem_of_getElem? (i := 1) rfl)) (hw _ (List.mem_of_getElem? (i := 2) rfl)) e0 (g := (mkF m 31 #[iv p1, iv p2, iv (1 : Int32), iv (1 : Int32), iv (1 : Int32), .unset, .unset, .unset] [])) rfl (hb hby at_31) (by decide) (by decide)
        obtain ⟨b270, g270⟩ : ∃ z, z = h0.size := ⟨_, rfl⟩
        rw [← g270] at A270 D270 U270 st270
        have O270 := O0.ext E270
        have i270_value : Fld Z h270 b270 "com/example/stubwright/stubwright/idl/ConstValue$BooleanValue" "value" "Z" (.int (0 : Int32)) := D270 (Or.inr (hw _ (List.mem_of_getElem? (i := 15) rfl))) (ty := .boolean) (by decide)
        have k271 : Way p e below S0 T270 (mkF m 34 #[iv p1, iv p2, iv (1 : Int32), iv (1 : Int32), iv (1 : Int32), .unset, .unset, .unset] [(.ref b270)]) := fun t k => k269 t (st270 _ k)
        have k272 : Way p e below S0 T270 (mkF m 36 #[iv p1, iv p2, iv (1 : Int32), iv (1 : Int32), iv (1 : Int32), .unset, .unset, .unset] [(.int (1 : Int32)), (.ref b270), (.ref b270)]) := by
          intro t k
          refine k271 t ?_
          refine XS.dup X270.here hx rfl (hb hby at_34) rfl rfl ?_
          show Steps p.tables e below (T270.setTop (mkF m 35 #[iv p1, iv p2, iv (1 : Int32), iv (1 : Int32), iv (1 : Int32), .unset, .unset, .unset] [(.ref b270), (.ref b270)])) _
          refine XS.iloadN X270.here hx rfl (hb hby at_35) rfl ?_
          show Steps p.tables e below (T270.setTop (mkF m 36 #[iv p1, iv p2, iv (1 : Int32), iv (1 : Int32), iv (1 : Int32), .unset, .unset, .unset] [(.int (1 : Int32)), (.ref b270), (.ref b270)])) _
          exact k
        have ge273 : n0 ≤ b270 := Nat.le_trans (own_old O0) (Nat.le_of_eq g270.symm)
        obtain ⟨_, _, ⟨T274, L274, kk274, nn274⟩, -, X274, ⟨Lc274, hQ274, l274, y274, z274⟩, st274⟩ := X270.specialBack hx (y := (⟨"com/example/stubwright/stubwright/idl/ConstValue$BooleanValue", "<init>", "(Z)V"⟩ : MethodName)) rfl hown (mvT hZ (hw _ (List.mem_of_getElem? (i := 3) rfl))) (mvT hZ (hw _ (List.mem_of_getElem? (i := 4) rfl))) (mvT hZ (hw _ (List.mem_of_getElem? (i := 5) rfl))) (by decide) (backOf (W := 1) (bvInit1 l Z a0 hw [] wC clC G b270 h270 n0 O270 (A270 : Exa Z h270 b270 "com/example/stubwright/stubwright/idl/ConstValue$BooleanValue") (i270_value : Fld Z h270 b270 "com/example/stubwright/stubwright/idl/ConstValue$BooleanValue" "value" "Z" (.int (0 : Int32))) (ge273 : n0 ≤ b270)) hZ (hw _ (List.mem_of_getElem? (i := 5) rfl)) (hw _ (List.mem_of_getElem? (i := 2) rfl)) (by decide) (by decide)) (g := (mkF m 36 #[iv p1, iv p2, iv (1 : Int32), iv (1 : Int32), iv (1 : Int32), .unset, .unset, .unset] [(.int (1 : Int32)), (.ref b270), (.ref b270)])) rfl (by rw [hml]; rfl) (Steps.refl _) (a := b270) (argsL := [(.int (1 : Int32))]) (rest := [(.ref b270)]) (lenOf pd_1 rfl) rfl (by show 2 * 0 + _ ≤ _; exact Nat.le_of_eq rfl) (hb hby at_36) (fun _ _ => ⟨rfl, e270, (by decide : 1 + 0 ≤ _), (by decide : 1 + 0 ≤ _)⟩)
        dsimp only [Pt.U, Pt.locs, Pt.cells, Pt.slots] at X274 l274 y274 z274 st274 hQ274
        subst l274 y274 z274
        obtain ⟨rfl, Nq274, Kq274, po274_0, po274_1⟩ := hQ274
        have N274 := Fr.app N0 Nq274
        have O274 := O270.keep Kq274 (allS ge273 all0)
        have k275 : Way p e below S0 T274 (mkF m 39 #[iv p1, iv p2, iv (1 : Int32), iv (1 : Int32), iv (1 : Int32), .unset, .unset, .unset] [(.ref b270)]) := fun t k => k272 t (st274.trans k)
        have k276 : Way p e below S0 T274 (mkF m 129 #[iv p1, iv p2, iv (1 : Int32), iv (1 : Int32), iv (1 : Int32), rv b270, .val .null, iv (0 : Int32)] [.null, (.ref b270)]) := by
          intro t k
          refine k275 t ?_
          refine XS.astore X274.here hx rfl (hb hby at_39) rfl rfl (l' := #[iv p1, iv p2, iv (1 : Int32), iv (1 : Int32), iv (1 : Int32), rv b270, .unset, .unset]) rfl ?_
          show Steps p.tables e below (T274.setTop (mkF m 41 #[iv p1, iv p2, iv (1 : Int32), iv (1 : Int32), iv (1 : Int32), rv b270, .unset, .unset] [])) _
          refine XS.iload X274.here hx rfl (hb hby at_41) rfl ?_
          show Steps p.tables e below (T274.setTop (mkF m 43 #[iv p1, iv p2, iv (1 : Int32), iv (1 : Int32), iv (1 : Int32), rv b270, .unset, .unset] [(.int (1 : Int32))])) _
          refine XS.ifYes X274.here hx rfl (pc0 := 43) (pc' := 59) rfl (hb hby at_43) rfl ((if0 _ _).trans (feq ((by decide) : ¬ ((1 : Int32) = (0 : Int32)))).2) (by decide) (by decide) ?_
          show Steps p.tables e below (T274.setTop (mkF m 59 #[iv p1, iv p2, iv (1 : Int32), iv (1 : Int32), iv (1 : Int32), rv b270, .unset, .unset] [])) _
          refine XS.iload X274.here hx rfl (hb hby at_59) rfl ?_
          show Steps p.tables e below (T274.setTop (mkF m 61 #[iv p1, iv p2, iv (1 : Int32), iv (1 : Int32), iv (1 : Int32), rv b270, .unset, .unset] [(.int (1 : Int32))])) _
          refine XS.iconst X274.here hx rfl (hb hby at_61) ?_
          show Steps p.tables e below (T274.setTop (mkF m 62 #[iv p1, iv p2, iv (1 : Int32), iv (1 : Int32), iv (1 : Int32), rv b270, .unset, .unset] [(.int (1 : Int32)), (.int (1 : Int32))])) _
          refine XS.icmpNo X274.here hx rfl (hb hby at_62) rfl (teq ((by decide) : (1 : Int32) = (1 : Int32))).2 ?_
          show Steps p.tables e below (T274.setTop (mkF m 65 #[iv p1, iv p2, iv (1 : Int32), iv (1 : Int32), iv (1 : Int32), rv b270, .unset, .unset] [])) _
          refine XS.aconstNull X274.here hx rfl (hb hby at_65) ?_
          show Steps p.tables e below (T274.setTop (mkF m 66 #[iv p1, iv p2, iv (1 : Int32), iv (1 : Int32), iv (1 : Int32), rv b270, .unset, .unset] [.null])) _
          refine XS.astore X274.here hx rfl (hb hby at_66) rfl rfl (l' := #[iv p1, iv p2, iv (1 : Int32), iv (1 : Int32), iv (1 : Int32), rv b270, .val .null, .unset]) rfl ?_
          show Steps p.tables e below (T274.setTop (mkF m 68 #[iv p1, iv p2, iv (1 : Int32), iv (1 : Int32), iv (1 : Int32), rv b270, .val .null, .unset] [])) _
          refine XS.goto X274.here hx rfl (pc0 := 68) (pc' := 108) rfl (hb hby at_68) (by decide) (by decide) ?_
          show Steps p.tables e below (T274.setTop (mkF m 108 #[iv p1, iv p2, iv (1 : Int32), iv (1 : Int32), iv (1 : Int32), rv b270, .val .null, .unset] [])) _
          refine XS.iload X274.here hx rfl (hb hby at_108) rfl ?_
          show Steps p.tables e below (T274.setTop (mkF m 110 #[iv p1, iv p2, iv (1 : Int32), iv (1 : Int32), iv (1 : Int32), rv b270, .val .null, .unset] [(.int (1 : Int32))])) _
          refine XS.ifYes X274.here hx rfl (pc0 := 110) (pc' := 122) rfl (hb hby at_110) rfl ((if0 _ _).trans (feq ((by decide) : ¬ ((1 : Int32) = (0 : Int32)))).2) (by decide) (by decide) ?_
          show Steps p.tables e below (T274.setTop (mkF m 122 #[iv p1, iv p2, iv (1 : Int32), iv (1 : Int32), iv (1 : Int32), rv b270, .val .null, .unset] [])) _
          refine XS.iconst X274.here hx rfl (hb hby at_122) ?_
          show Steps p.tables e below (T274.setTop (mkF m 123 #[iv p1, iv p2, iv (1 : Int32), iv (1 : Int32), iv (1 : Int32), rv b270, .val .null, .unset] [(.int (0 : Int32))])) _
          refine XS.istore X274.here hx rfl (hb hby at_123) rfl (l' := #[iv p1, iv p2, iv (1 : Int32), iv (1 : Int32), iv (1 : Int32), rv b270, .val .null, iv (0 : Int32)]) rfl ?_
          show Steps p.tables e below (T274.setTop (mkF m 125 #[iv p1, iv p2, iv (1 : Int32), iv (1 : Int32), iv (1 : Int32), rv b270, .val .null, iv (0 : Int32)] [])) _
          refine XS.aload X274.here hx rfl (hb hby at_125) rfl rfl ?_
          show Steps p.tables e below (T274.setTop (mkF m 127 #[iv p1, iv p2, iv (1 : Int32), iv (1 : Int32), iv (1 : Int32), rv b270, .val .null, iv (0 : Int32)] [(.ref b270)])) _
          refine XS.aload X274.here hx rfl (hb hby at_127) rfl rfl ?_
          show Steps p.tables e below (T274.setTop (mkF m 129 #[iv p1, iv p2, iv (1 : Int32), iv (1 : Int32), iv (1 : Int32), rv b270, .val .null, iv (0 : Int32)] [.null, (.ref b270)])) _
          exact k
        obtain ⟨cq277, kq277, qq277a, qq277b, qq277c⟩ := isOf hZ rfl po274_0
        obtain ⟨_, _, ⟨T277, L277, kk277, nn277⟩, -, X277, ⟨Lc277, hQ277, l277, y277, z277⟩, st277⟩ := X274.virtualBack hx (y := (⟨"com/example/stubwright/stubwright/idl/ConstValue$BooleanValue", "equals", "(Ljava/lang/Object;)Z"⟩ : MethodName)) (z := (⟨"com/example/stubwright/stubwright/idl/ConstValue$BooleanValue", "equals", "(Ljava/lang/Object;)Z"⟩ : MethodName)) hown (mvT hZ (hw _ (List.mem_of_getElem? (i := 16) rfl))) (mvT hZ (hw _ (List.mem_of_getElem? (i := 17) rfl))) (notFace_of_selects (args := #[]) (mvT hZ (hw _ (List.mem_of_getElem? (i := 19) rfl)))) (mvT hZ (hw _ (List.mem_of_getElem? (i := 19) rfl))) (mvT hZ (hw _ (List.mem_of_getElem? (i := 18) rfl))) (by decide) (backOf (W := 0) (eqNull l Z a0 hw [] wC clC G b270 T274.heap n0 O274 ) hZ (hw _ (List.mem_of_getElem? (i := 20) rfl)) (hw _ (List.mem_of_getElem? (i := 2) rfl)) (by decide) (by decide)) qq277a qq277c (g := (mkF m 129 #[iv p1, iv p2, iv (1 : Int32), iv (1 : Int32), iv (1 : Int32), rv b270, .val .null, iv (0 : Int32)] [.null, (.ref b270)])) rfl (by rw [hml]; rfl) (Steps.refl _) (argsL := [.null]) (rest := []) (lenOf pd_2 rfl) rfl (by show 2 * 0 + _ ≤ _; exact Nat.le_of_eq rfl) (hb hby at_129) (fun _ _ => ⟨rfl, rfl, (by decide : 1 + 0 ≤ _), (by decide : 1 + 0 ≤ _)⟩)
        dsimp only [Pt.U, Pt.locs, Pt.cells, Pt.slots] at X277 l277 y277 z277 st277 hQ277
        subst l277 y277 z277
        obtain ⟨rfl, Nq277, e277⟩ := hQ277
        have N277 := Fr.app N274 Nq277
        have k278 : Way p e below S0 T277 (mkF m 132 #[iv p1, iv p2, iv (1 : Int32), iv (1 : Int32), iv (1 : Int32), rv b270, .val .null, iv (0 : Int32)] [(.int (0 : Int32))]) := fun t k => k276 t (st277.trans k)
        have k279 : Way p e below S0 T277 (mkF m 141 #[iv p1, iv p2, iv (1 : Int32), iv (1 : Int32), iv (1 : Int32), rv b270, .val .null, iv (0 : Int32)] [(.ref b270), (.ref b270)]) := by
          intro t k
          refine k278 t ?_
          refine XS.iload X277.here hx rfl (hb hby at_132) rfl ?_
          show Steps p.tables e below (T277.setTop (mkF m 134 #[iv p1, iv p2, iv (1 : Int32), iv (1 : Int32), iv (1 : Int32), rv b270, .val .null, iv (0 : Int32)] [(.int (0 : Int32)), (.int (0 : Int32))])) _
          refine XS.icmpNo X277.here hx rfl (hb hby at_134) rfl (teq ((by decide) : (0 : Int32) = (0 : Int32))).2 ?_
          show Steps p.tables e below (T277.setTop (mkF m 137 #[iv p1, iv p2, iv (1 : Int32), iv (1 : Int32), iv (1 : Int32), rv b270, .val .null, iv (0 : Int32)] [])) _
          refine XS.aload X277.here hx rfl (hb hby at_137) rfl rfl ?_
          show Steps p.tables e below (T277.setTop (mkF m 139 #[iv p1, iv p2, iv (1 : Int32), iv (1 : Int32), iv (1 : Int32), rv b270, .val .null, iv (0 : Int32)] [(.ref b270)])) _
          refine XS.aload X277.here hx rfl (hb hby at_139) rfl rfl ?_
          show Steps p.tables e below (T277.setTop (mkF m 141 #[iv p1, iv p2, iv (1 : Int32), iv (1 : Int32), iv (1 : Int32), rv b270, .val .null, iv (0 : Int32)] [(.ref b270), (.ref b270)])) _
          exact k
        obtain ⟨cq280, kq280, qq280a, qq280b, qq280c⟩ := isOf hZ e277 po274_0
        obtain ⟨_, _, ⟨T280, L280, kk280, nn280⟩, -, X280, ⟨Lc280, hQ280, l280, y280, z280⟩, st280⟩ := X277.virtualBack hx (y := (⟨"com/example/stubwright/stubwright/idl/ConstValue$BooleanValue", "equals", "(Ljava/lang/Object;)Z"⟩ : MethodName)) (z := (⟨"com/example/stubwright/stubwright/idl/ConstValue$BooleanValue", "equals", "(Ljava/lang/Object;)Z"⟩ : MethodName)) hown (mvT hZ (hw _ (List.mem_of_getElem? (i := 16) rfl))) (mvT hZ (hw _ (List.mem_of_getElem? (i := 17) rfl))) (notFace_of_selects (args := #[]) (mvT hZ (hw _ (List.mem_of_getElem? (i := 19) rfl)))) (mvT hZ (hw _ (List.mem_of_getElem? (i := 19) rfl))) (mvT hZ (hw _ (List.mem_of_getElem? (i := 18) rfl))) (by decide) (backOf (W := 0) (eq11 l Z a0 hw [] wC clC G b270 b270 T274.heap n0 O274 (po274_0 : Exa Z T274.heap b270 "com/example/stubwright/stubwright/idl/ConstValue$BooleanValue") (po274_1 : Fld Z T274.heap b270 "com/example/stubwright/stubwright/idl/ConstValue$BooleanValue" "value" "Z" (.int (1 : Int32))) (po274_1 : Fld Z T274.heap b270 "com/example/stubwright/stubwright/idl/ConstValue$BooleanValue" "value" "Z" (.int (1 : Int32)))) hZ (hw _ (List.mem_of_getElem? (i := 20) rfl)) (hw _ (List.mem_of_getElem? (i := 2) rfl)) (by decide) (by decide)) qq280a qq280c (g := (mkF m 141 #[iv p1, iv p2, iv (1 : Int32), iv (1 : Int32), iv (1 : Int32), rv b270, .val .null, iv (0 : Int32)] [(.ref b270), (.ref b270)])) rfl (by rw [hml]; rfl) (Steps.refl _) (argsL := [(.ref b270)]) (rest := []) (lenOf pd_2 rfl) rfl (by show 2 * 0 + _ ≤ _; exact Nat.le_of_eq rfl) (hb hby at_141) (fun _ _ => ⟨rfl, e277, (by decide : 1 + 0 ≤ _), (by decide : 1 + 0 ≤ _)⟩)
        dsimp only [Pt.U, Pt.locs, Pt.cells, Pt.slots] at X280 l280 y280 z280 st280 hQ280
        subst l280 y280 z280
        obtain ⟨rfl, Nq280, e280⟩ := hQ280
        have N280 := Fr.app N277 Nq280
        have k281 : Way p e below S0 T280 (mkF m 144 #[iv p1, iv p2, iv (1 : Int32), iv (1 : Int32), iv (1 : Int32), rv b270, .val .null, iv (0 : Int32)] [(.int (1 : Int32))]) := fun t k => k279 t (st280.trans k)
        have k282 : Way p e below S0 T280 (mkF m 152 #[iv p1, iv p2, iv (1 : Int32), iv (1 : Int32), iv (1 : Int32), rv b270, .val .null, iv (0 : Int32)] [(.int (1 : Int32))]) := by
          intro t k
          refine k281 t ?_
          refine XS.ifNo X280.here hx rfl (hb hby at_144) rfl ((if0 _ _).trans (feq ((by decide) : ¬ ((1 : Int32) = (0 : Int32)))).1) ?_
          show Steps p.tables e below (T280.setTop (mkF m 147 #[iv p1, iv p2, iv (1 : Int32), iv (1 : Int32), iv (1 : Int32), rv b270, .val .null, iv (0 : Int32)] [])) _
          refine XS.iconst X280.here hx rfl (hb hby at_147) ?_
          show Steps p.tables e below (T280.setTop (mkF m 148 #[iv p1, iv p2, iv (1 : Int32), iv (1 : Int32), iv (1 : Int32), rv b270, .val .null, iv (0 : Int32)] [(.int (1 : Int32))])) _
          refine XS.goto X280.here hx rfl (pc0 := 148) (pc' := 152) rfl (hb hby at_148) (by decide) (by decide) ?_
          show Steps p.tables e below (T280.setTop (mkF m 152 #[iv p1, iv p2, iv (1 : Int32), iv (1 : Int32), iv (1 : Int32), rv b270, .val .null, iv (0 : Int32)] [(.int (1 : Int32))])) _
          exact k
        obtain ⟨fs, hr, hrun, hended, hW, hsame⟩ := X280.leave (v := some (.int (1 : Int32))) (fun h => by rw [Bd.returns] at h; cases h)
        refine ⟨_, _, k282 _ (retN X280 hx (t := .boolean) Bd.returns (by simp) (hb hby at_152) hr), hrun, hended, _, _, rfl, ?_, ⟨_, rfl⟩, hW, hsame.mono (by decide) (by decide)⟩
        show Q_law_met Z wC clC p1 p2 h0 n0 _ T280.heap _
        rw [e280]
        exact ⟨rfl, N280⟩
      · have k283 : Way p e below S0 s₁ (mkF m 31 #[iv p1, iv p2, iv (1 : Int32), iv (1 : Int32), iv (2 : Int32), .unset, .unset, .unset] []) := by have q := k244; rw [hi245] at q; exact q
        obtain ⟨T284, h284, X284, e284, E284, A284, D284, U284, st284⟩ := newO X0 hx hZ hown (hw _ (List.mem_of_getElem? (i := 0) rfl)) (hw _ (List.mem_of_getElem? (i := 1) rfl)) (hw _ (List.mem_of_getElem? (i := 2) rfl)) e0 (g := (mkF m 31 #[iv p1, iv p2, iv (1 : Int32), iv (1 : Int32), iv (2 : Int32), .unset, .unset, .unset] [])) rfl (hb hby at_31) (by decide) (by decide)
        obtain ⟨b284, g284⟩ : ∃ z, z = h0.size := ⟨_, rfl⟩
        rw [← g284] at A284 D284 U284 st284
        have O284 := O0.ext E284
        have i284_value : Fld Z h284 b284 "com/example/stubwright/stubwright/idl/ConstValue$BooleanValue" "value" "Z" (.int (0 : Int32)) := D284 (Or.inr (hw _ (List.mem_of_getElem? (i := 15) rfl))) (ty := .boolean) (by decide)
        have k285 : Way p e below S0 T284 (mkF m 34 #[iv p1, iv p2, iv (1 : Int32), iv (1 : Int32), iv (2 : Int32), .unset, .unset, .unset] [(.ref b284)]) := fun t k => k283 t (st284 _ k)
        have k286 : Way p e below S0 T284 (mkF m 36 #[iv p1, iv p2, iv (1 : Int32), iv (1 : Int32), iv (2 : Int32), .unset, .unset, .unset] [(.int (1 : Int32)), (.ref b284), (.ref b284)]) := by
          intro t k
          refine k285 t ?_
          refine XS.dup X284.here hx rfl (hb hby at_34) rfl rfl ?_
          show Steps p.tables e below (T284.setTop (mkF m 35 #[iv p1, iv p2, iv (1 : Int32), iv (1 : Int32), iv (2 : Int32), .unset, .unset, .unset] [(.ref b284), (.ref b284)])) _
          refine XS.iloadN X284.here hx rfl (hb hby at_35) rfl ?_
          show Steps p.tables e below (T284.setTop (mkF m 36 #[iv p1, iv p2, iv (1 : Int32), iv (1 : Int32), iv (2 : Int32), .unset, .unset, .unset] [(.int (1 : Int32)), (.ref b284), (.ref b284)])) _
          exact k
        have ge287 : n0 ≤ b284 := Nat.le_trans (own_old O0) (Nat.le_of_eq g284.symm)
        obtain ⟨_, _, ⟨T288, L288, kk288, nn288⟩, -, X288, ⟨Lc288, hQ288, l288, y288, z288⟩, st288⟩ := X284.specialBack hx (y := (⟨"com/example/stubwright/stubwright/idl/ConstValue$BooleanValue", "<init>", "(Z)V"⟩ : MethodName)) rfl hown (mvT hZ (hw _ (List.mem_of_getElem? (i := 3) rfl))) (mvT hZ (hw _ (List.mem_of_getElem? (i := 4) rfl))) (mvT hZ (hw _ (List.mem_of_getElem? (i := 5) rfl))) (by decide) (backOf (W := 1) (bvInit1 l Z a0 hw [] wC clC G b284 h284 n0 O284 (A284 : Exa Z h284 b284 "com/example/stubwright/stubwright/idl/ConstValue$BooleanValue") (i284_value : Fld Z h284 b284 "com/example/stubwright/stubwright/idl/ConstValue$BooleanValue" "value" "Z" (.int (0 : Int32))) (ge287 : n0 ≤ b284)) hZ (hw _ (List.mem_of_getElem? (i := 5) rfl)) (hw _ (List.mem_of_getElem? (i := 2) rfl)) (by decide) (by decide)) (g := (mkF m 36 #[iv p1, iv p2, iv (1 : Int32), iv (1 : Int32), iv (2 : Int32), .unset, .unset, .unset] [(.int (1 : Int32)), (.ref b284), (.ref b284)])) rfl (by rw [hml]; rfl) (Steps.refl _) (a := b284) (argsL := [(.int (1 : Int32))]) (rest := [(.ref b284)]) (lenOf pd_1 rfl) rfl (by show 2 * 0 + _ ≤ _; exact Nat.le_of_eq rfl) (hb hby at_36) (fun _ _ => ⟨rfl, e284, (by decide : 1 + 0 ≤ _), (by decide : 1 + 0 ≤ _)⟩)
        dsimp only [Pt.U, Pt.locs, Pt.cells, Pt.slots] at X288 l288 y288 z288 st288 hQ288
        subst l288 y288 z288
        obtain ⟨rfl, Nq288, Kq288, po288_0, po288_1⟩ := hQ288
        have N288 := Fr.app N0 Nq288
        have O288 := O284.keep Kq288 (allS ge287 all0)
        have k289 : Way p e below S0 T288 (mkF m 39 #[iv p1, iv p2, iv (1 : Int32), iv (1 : Int32), iv (2 : Int32), .unset, .unset, .unset] [(.ref b284)]) := fun t k => k286 t (st288.trans k)
        have k290 : Way p e below S0 T288 (mkF m 77 #[iv p1, iv p2, iv (1 : Int32), iv (1 : Int32), iv (2 : Int32), rv b284, .unset, .unset] []) := by
          intro t k
          refine k289 t ?_
          refine XS.astore X288.here hx rfl (hb hby at_39) rfl rfl (l' := #[iv p1, iv p2, iv (1 : Int32), iv (1 : Int32), iv (2 : Int32), rv b284, .unset, .unset]) rfl ?_
          show Steps p.tables e below (T288.setTop (mkF m 41 #[iv p1, iv p2, iv (1 : Int32), iv (1 : Int32), iv (2 : Int32), rv b284, .unset, .unset] [])) _
          refine XS.iload X288.here hx rfl (hb hby at_41) rfl ?_
          show Steps p.tables e below (T288.setTop (mkF m 43 #[iv p1, iv p2, iv (1 : Int32), iv (1 : Int32), iv (2 : Int32), rv b284, .unset, .unset] [(.int (2 : Int32))])) _
          refine XS.ifYes X288.here hx rfl (pc0 := 43) (pc' := 59) rfl (hb hby at_43) rfl ((if0 _ _).trans (feq ((by decide) : ¬ ((2 : Int32) = (0 : Int32)))).2) (by decide) (by decide) ?_
          show Steps p.tables e below (T288.setTop (mkF m 59 #[iv p1, iv p2, iv (1 : Int32), iv (1 : Int32), iv (2 : Int32), rv b284, .unset, .unset] [])) _
          refine XS.iload X288.here hx rfl (hb hby at_59) rfl ?_
          show Steps p.tables e below (T288.setTop (mkF m 61 #[iv p1, iv p2, iv (1 : Int32), iv (1 : Int32), iv (2 : Int32), rv b284, .unset, .unset] [(.int (2 : Int32))])) _
          refine XS.iconst X288.here hx rfl (hb hby at_61) ?_
          show Steps p.tables e below (T288.setTop (mkF m 62 #[iv p1, iv p2, iv (1 : Int32), iv (1 : Int32), iv (2 : Int32), rv b284, .unset, .unset] [(.int (1 : Int32)), (.int (2 : Int32))])) _
          refine XS.icmpYes X288.here hx rfl (pc0 := 62) (pc' := 71) rfl (hb hby at_62) rfl (feq ((by decide) : ¬ ((2 : Int32) = (1 : Int32)))).2 (by decide) (by decide) ?_
          show Steps p.tables e below (T288.setTop (mkF m 71 #[iv p1, iv p2, iv (1 : Int32), iv (1 : Int32), iv (2 : Int32), rv b284, .unset, .unset] [])) _
          refine XS.iload X288.here hx rfl (hb hby at_71) rfl ?_
          show Steps p.tables e below (T288.setTop (mkF m 73 #[iv p1, iv p2, iv (1 : Int32), iv (1 : Int32), iv (2 : Int32), rv b284, .unset, .unset] [(.int (2 : Int32))])) _
          refine XS.iconst X288.here hx rfl (hb hby at_73) ?_
          show Steps p.tables e below (T288.setTop (mkF m 74 #[iv p1, iv p2, iv (1 : Int32), iv (1 : Int32), iv (2 : Int32), rv b284, .unset, .unset] [(.int (2 : Int32)), (.int (2 : Int32))])) _
          refine XS.icmpNo X288.here hx rfl (hb hby at_74) rfl (teq ((by decide) : (2 : Int32) = (2 : Int32))).2 ?_
          show Steps p.tables e below (T288.setTop (mkF m 77 #[iv p1, iv p2, iv (1 : Int32), iv (1 : Int32), iv (2 : Int32), rv b284, .unset, .unset] [])) _
          exact k
        obtain ⟨T291, h291, X291, e291, E291, A291, D291, U291, st291⟩ := newO X288 hx hZ hown (hw _ (List.mem_of_getElem? (i := 33) rfl)) (hw _ (List.mem_of_getElem? (i := 34) rfl)) (hw _ (List.mem_of_getElem? (i := 35) rfl)) rfl (g := (mkF m 77 #[iv p1, iv p2, iv (1 : Int32), iv (1 : Int32), iv (2 : Int32), rv b284, .unset, .unset] [])) rfl (hb hby at_77) (by decide) (by decide)
        obtain ⟨b291, g291⟩ : ∃ z, z = T288.heap.size := ⟨_, rfl⟩
        rw [← g291] at A291 D291 U291 st291
        have O291 := O288.ext E291
        have i291_value : Fld Z h291 b291 "com/example/stubwright/stubwright/idl/ConstValue$CharValue" "value" "C" (.int (0 : Int32)) := D291 (Or.inr (hw _ (List.mem_of_getElem? (i := 42) rfl))) (ty := .char) (by decide)
        have k292 : Way p e below S0 T291 (mkF m 80 #[iv p1, iv p2, iv (1 : Int32), iv (1 : Int32), iv (2 : Int32), rv b284, .unset, .unset] [(.ref b291)]) := fun t k => k290 t (st291 _ k)
        have k293 : Way p e below S0 T291 (mkF m 86 #[iv p1, iv p2, iv (1 : Int32), iv (1 : Int32), iv (2 : Int32), rv b284, .unset, .unset] [(.int ((p2 &&& (65535 : Int32)).toUInt32.toUInt16.toUInt32.toInt32)), (.ref b291), (.ref b291)]) := by
          intro t k
          refine k292 t ?_
          refine XS.dup X291.here hx rfl (hb hby at_80) rfl rfl ?_
          show Steps p.tables e below (T291.setTop (mkF m 81 #[iv p1, iv p2, iv (1 : Int32), iv (1 : Int32), iv (2 : Int32), rv b284, .unset, .unset] [(.ref b291), (.ref b291)])) _
          refine XS.iloadN X291.here hx rfl (hb hby at_81) rfl ?_
          show Steps p.tables e below (T291.setTop (mkF m 82 #[iv p1, iv p2, iv (1 : Int32), iv (1 : Int32), iv (2 : Int32), rv b284, .unset, .unset] [(.int p2), (.ref b291), (.ref b291)])) _
          refine X291.ldcInt hx hown (mvT hZ (hw _ (List.mem_of_getElem? (i := 36) rfl))) (g := (mkF m 82 #[iv p1, iv p2, iv (1 : Int32), iv (1 : Int32), iv (2 : Int32), rv b284, .unset, .unset] [(.int p2), (.ref b291), (.ref b291)])) rfl (hb hby at_82) _ ?_
          show Steps p.tables e below (T291.setTop (mkF m 84 #[iv p1, iv p2, iv (1 : Int32), iv (1 : Int32), iv (2 : Int32), rv b284, .unset, .unset] [(.int (65535 : Int32)), (.int p2), (.ref b291), (.ref b291)])) _
          refine XS.iand X291.here hx rfl (hb hby at_84) rfl ?_
          show Steps p.tables e below (T291.setTop (mkF m 85 #[iv p1, iv p2, iv (1 : Int32), iv (1 : Int32), iv (2 : Int32), rv b284, .unset, .unset] [(.int (p2 &&& (65535 : Int32))), (.ref b291), (.ref b291)])) _
          refine XS.i2c X291.here hx rfl (hb hby at_85) rfl ?_
          show Steps p.tables e below (T291.setTop (mkF m 86 #[iv p1, iv p2, iv (1 : Int32), iv (1 : Int32), iv (2 : Int32), rv b284, .unset, .unset] [(.int ((p2 &&& (65535 : Int32)).toUInt32.toUInt16.toUInt32.toInt32)), (.ref b291), (.ref b291)])) _
          exact k
        have ge294 : n0 ≤ b291 := Nat.le_trans (own_old O288) (Nat.le_of_eq g291.symm)
        obtain ⟨_, _, ⟨T295, L295, kk295, nn295⟩, -, X295, ⟨Lc295, hQ295, l295, y295, z295⟩, st295⟩ := X291.specialBack hx (y := (⟨"com/example/stubwright/stubwright/idl/ConstValue$CharValue", "<init>", "(C)V"⟩ : MethodName)) rfl hown (mvT hZ (hw _ (List.mem_of_getElem? (i := 37) rfl))) (mvT hZ (hw _ (List.mem_of_getElem? (i := 38) rfl))) (mvT hZ (hw _ (List.mem_of_getElem? (i := 39) rfl))) (by decide) (backOf (W := 1) (cvInit l Z a0 hw [] wC clC G b291 ((p2 &&& (65535 : Int32)).toUInt32.toUInt16.toUInt32.toInt32) h291 n0 O291 (A291 : Exa Z h291 b291 "com/example/stubwright/stubwright/idl/ConstValue$CharValue") (i291_value : Fld Z h291 b291 "com/example/stubwright/stubwright/idl/ConstValue$CharValue" "value" "C" (.int (0 : Int32))) (ge294 : n0 ≤ b291) (own_i2c _ : ((p2 &&& (65535 : Int32)).toUInt32.toUInt16.toUInt32.toInt32).toUInt32.toUInt16.toUInt32.toInt32 = ((p2 &&& (65535 : Int32)).toUInt32.toUInt16.toUInt32.toInt32))) hZ (hw _ (List.mem_of_getElem? (i := 39) rfl)) (hw _ (List.mem_of_getElem? (i := 35) rfl)) (by decide) (by decide)) (g := (mkF m 86 #[iv p1, iv p2, iv (1 : Int32), iv (1 : Int32), iv (2 : Int32), rv b284, .unset, .unset] [(.int ((p2 &&& (65535 : Int32)).toUInt32.toUInt16.toUInt32.toInt32)), (.ref b291), (.ref b291)])) rfl (by rw [hml]; rfl) (Steps.refl _) (a := b291) (argsL := [(.int ((p2 &&& (65535 : Int32)).toUInt32.toUInt16.toUInt32.toInt32))]) (rest := [(.ref b291)]) (lenOf pd_3 rfl) rfl (by show 2 * 0 + _ ≤ _; exact Nat.le_of_eq rfl) (hb hby at_86) (fun _ _ => ⟨rfl, e291, (by decide : 2 + 0 ≤ _), (by decide : 2 + 0 ≤ _)⟩)
        dsimp only [Pt.U, Pt.locs, Pt.cells, Pt.slots] at X295 l295 y295 z295 st295 hQ295
        subst l295 y295 z295
        obtain ⟨rfl, Nq295, Kq295, po295_0, po295_1⟩ := hQ295
        have N295 := Fr.app N288 Nq295
        have O295 := O291.keep Kq295 (allS ge294 all0)
        have k296 : Way p e below S0 T295 (mkF m 89 #[iv p1, iv p2, iv (1 : Int32), iv (1 : Int32), iv (2 : Int32), rv b284, .unset, .unset] [(.ref b291)]) := fun t k => k293 t (st295.trans k)
        have k297 : Way p e below S0 T295 (mkF m 129 #[iv p1, iv p2, iv (1 : Int32), iv (1 : Int32), iv (2 : Int32), rv b284, rv b291, iv (0 : Int32)] [(.ref b291), (.ref b284)]) := by
          intro t k
          refine k296 t ?_
          refine XS.astore X295.here hx rfl (hb hby at_89) rfl rfl (l' := #[iv p1, iv p2, iv (1 : Int32), iv (1 : Int32), iv (2 : Int32), rv b284, rv b291, .unset]) rfl ?_
          show Steps p.tables e below (T295.setTop (mkF m 91 #[iv p1, iv p2, iv (1 : Int32), iv (1 : Int32), iv (2 : Int32), rv b284, rv b291, .unset] [])) _
          refine XS.goto X295.here hx rfl (pc0 := 91) (pc' := 108) rfl (hb hby at_91) (by decide) (by decide) ?_
          show Steps p.tables e below (T295.setTop (mkF m 108 #[iv p1, iv p2, iv (1 : Int32), iv (1 : Int32), iv (2 : Int32), rv b284, rv b291, .unset] [])) _
          refine XS.iload X295.here hx rfl (hb hby at_108) rfl ?_
          show Steps p.tables e below (T295.setTop (mkF m 110 #[iv p1, iv p2, iv (1 : Int32), iv (1 : Int32), iv (2 : Int32), rv b284, rv b291, .unset] [(.int (2 : Int32))])) _
          refine XS.ifYes X295.here hx rfl (pc0 := 110) (pc' := 122) rfl (hb hby at_110) rfl ((if0 _ _).trans (feq ((by decide) : ¬ ((2 : Int32) = (0 : Int32)))).2) (by decide) (by decide) ?_
          show Steps p.tables e below (T295.setTop (mkF m 122 #[iv p1, iv p2, iv (1 : Int32), iv (1 : Int32), iv (2 : Int32), rv b284, rv b291, .unset] [])) _
          refine XS.iconst X295.here hx rfl (hb hby at_122) ?_
          show Steps p.tables e below (T295.setTop (mkF m 123 #[iv p1, iv p2, iv (1 : Int32), iv (1 : Int32), iv (2 : Int32), rv b284, rv b291, .unset] [(.int (0 : Int32))])) _
          refine XS.istore X295.here hx rfl (hb hby at_123) rfl (l' := #[iv p1, iv p2, iv (1 : Int32), iv (1 : Int32), iv (2 : Int32), rv b284, rv b291, iv (0 : Int32)]) rfl ?_
          show Steps p.tables e below (T295.setTop (mkF m 125 #[iv p1, iv p2, iv (1 : Int32), iv (1 : Int32), iv (2 : Int32), rv b284, rv b291, iv (0 : Int32)] [])) _
          refine XS.aload X295.here hx rfl (hb hby at_125) rfl rfl ?_
          show Steps p.tables e below (T295.setTop (mkF m 127 #[iv p1, iv p2, iv (1 : Int32), iv (1 : Int32), iv (2 : Int32), rv b284, rv b291, iv (0 : Int32)] [(.ref b284)])) _
          refine XS.aload X295.here hx rfl (hb hby at_127) rfl rfl ?_
          show Steps p.tables e below (T295.setTop (mkF m 129 #[iv p1, iv p2, iv (1 : Int32), iv (1 : Int32), iv (2 : Int32), rv b284, rv b291, iv (0 : Int32)] [(.ref b291), (.ref b284)])) _
          exact k
        have f299 : Exa Z T295.heap b284 "com/example/stubwright/stubwright/idl/ConstValue$BooleanValue" := ((po288_0.ext E291).keep Kq295)
        obtain ⟨cq298, kq298, qq298a, qq298b, qq298c⟩ := isOf hZ rfl f299
        obtain ⟨_, _, ⟨T298, L298, kk298, nn298⟩, -, X298, ⟨Lc298, hQ298, l298, y298, z298⟩, st298⟩ := X295.virtualBack hx (y := (⟨"com/example/stubwright/stubwright/idl/ConstValue$BooleanValue", "equals", "(Ljava/lang/Object;)Z"⟩ : MethodName)) (z := (⟨"com/example/stubwright/stubwright/idl/ConstValue$BooleanValue", "equals", "(Ljava/lang/Object;)Z"⟩ : MethodName)) hown (mvT hZ (hw _ (List.mem_of_getElem? (i := 16) rfl))) (mvT hZ (hw _ (List.mem_of_getElem? (i := 17) rfl))) (notFace_of_selects (args := #[]) (mvT hZ (hw _ (List.mem_of_getElem? (i := 19) rfl)))) (mvT hZ (hw _ (List.mem_of_getElem? (i := 19) rfl))) (mvT hZ (hw _ (List.mem_of_getElem? (i := 18) rfl))) (by decide) (backOf (W := 0) (eqOther0 l Z a0 hw [] wC clC G b284 b291 T295.heap n0 O295 (po295_0 : Exa Z T295.heap b291 "com/example/stubwright/stubwright/idl/ConstValue$CharValue")) hZ (hw _ (List.mem_of_getElem? (i := 20) rfl)) (hw _ (List.mem_of_getElem? (i := 2) rfl)) (by decide) (by decide)) qq298a qq298c (g := (mkF m 129 #[iv p1, iv p2, iv (1 : Int32), iv (1 : Int32), iv (2 : Int32), rv b284, rv b291, iv (0 : Int32)] [(.ref b291), (.ref b284)])) rfl (by rw [hml]; rfl) (Steps.refl _) (argsL := [(.ref b291)]) (rest := []) (lenOf pd_2 rfl) rfl (by show 2 * 0 + _ ≤ _; exact Nat.le_of_eq rfl) (hb hby at_129) (fun _ _ => ⟨rfl, rfl, (by decide : 2 + 0 ≤ _), (by decide : 2 + 0 ≤ _)⟩)
        dsimp only [Pt.U, Pt.locs, Pt.cells, Pt.slots] at X298 l298 y298 z298 st298 hQ298
        subst l298 y298 z298
        obtain ⟨rfl, Nq298, e298⟩ := hQ298
        have N298 := Fr.app N295 Nq298
        have k300 : Way p e below S0 T298 (mkF m 132 #[iv p1, iv p2, iv (1 : Int32), iv (1 : Int32), iv (2 : Int32), rv b284, rv b291, iv (0 : Int32)] [(.int (0 : Int32))]) := fun t k => k297 t (st298.trans k)
        have k301 : Way p e below S0 T298 (mkF m 141 #[iv p1, iv p2, iv (1 : Int32), iv (1 : Int32), iv (2 : Int32), rv b284, rv b291, iv (0 : Int32)] [(.ref b284), (.ref b284)]) := by
          intro t k
          refine k300 t ?_
          refine XS.iload X298.here hx rfl (hb hby at_132) rfl ?_
          show Steps p.tables e below (T298.setTop (mkF m 134 #[iv p1, iv p2, iv (1 : Int32), iv (1 : Int32), iv (2 : Int32), rv b284, rv b291, iv (0 : Int32)] [(.int (0 : Int32)), (.int (0 : Int32))])) _
          refine XS.icmpNo X298.here hx rfl (hb hby at_134) rfl (teq ((by decide) : (0 : Int32) = (0 : Int32))).2 ?_
          show Steps p.tables e below (T298.setTop (mkF m 137 #[iv p1, iv p2, iv (1 : Int32), iv (1 : Int32), iv (2 : Int32), rv b284, rv b291, iv (0 : Int32)] [])) _
          refine XS.aload X298.here hx rfl (hb hby at_137) rfl rfl ?_
          show Steps p.tables e below (T298.setTop (mkF m 139 #[iv p1, iv p2, iv (1 : Int32), iv (1 : Int32), iv (2 : Int32), rv b284, rv b291, iv (0 : Int32)] [(.ref b284)])) _
          refine XS.aload X298.here hx rfl (hb hby at_139) rfl rfl ?_
          show Steps p.tables e below (T298.setTop (mkF m 141 #[iv p1, iv p2, iv (1 : Int32), iv (1 : Int32), iv (2 : Int32), rv b284, rv b291, iv (0 : Int32)] [(.ref b284), (.ref b284)])) _
          exact k
        have f302 : Fld Z T295.heap b284 "com/example/stubwright/stubwright/idl/ConstValue$BooleanValue" "value" "Z" (.int (1 : Int32)) := ((po288_1.ext E291).keep Kq295 (ninS (Nat.ne_of_lt (Nat.lt_of_lt_of_le po288_1.lt (Nat.le_of_eq g291.symm))) nin0))
        obtain ⟨cq303, kq303, qq303a, qq303b, qq303c⟩ := isOf hZ e298 f299
        obtain ⟨_, _, ⟨T303, L303, kk303, nn303⟩, -, X303, ⟨Lc303, hQ303, l303, y303, z303⟩, st303⟩ := X298.virtualBack hx (y := (⟨"com/example/stubwright/stubwright/idl/ConstValue$BooleanValue", "equals", "(Ljava/lang/Object;)Z"⟩ : MethodName)) (z := (⟨"com/example/stubwright/stubwright/idl/ConstValue$BooleanValue", "equals", "(Ljava/lang/Object;)Z"⟩ : MethodName)) hown (mvT hZ (hw _ (List.mem_of_getElem? (i := 16) rfl))) (mvT hZ (hw _ (List.mem_of_getElem? (i := 17) rfl))) (notFace_of_selects (args := #[]) (mvT hZ (hw _ (List.mem_of_getElem? (i := 19) rfl)))) (mvT hZ (hw _ (List.mem_of_getElem? (i := 19) rfl))) (mvT hZ (hw _ (List.mem_of_getElem? (i := 18) rfl))) (by decide) (backOf (W := 0) (eq11 l Z a0 hw [] wC clC G b284 b284 T295.heap n0 O295 (f299 : Exa Z T295.heap b284 "com/example/stubwright/stubwright/idl/ConstValue$BooleanValue") (f302 : Fld Z T295.heap b284 "com/example/stubwright/stubwright/idl/ConstValue$BooleanValue" "value" "Z" (.int (1 : Int32))) (f302 : Fld Z T295.heap b284 "com/example/stubwright/stubwright/idl/ConstValue$BooleanValue" "value" "Z" (.int (1 : Int32)))) hZ (hw _ (List.mem_of_getElem? (i := 20) rfl)) (hw _ (List.mem_of_getElem? (i := 2) rfl)) (by decide) (by decide)) qq303a qq303c (g := (mkF m 141 #[iv p1, iv p2, iv (1 : Int32), iv (1 : Int32), iv (2 : Int32), rv b284, rv b291, iv (0 : Int32)] [(.ref b284), (.ref b284)])) rfl (by rw [hml]; rfl) (Steps.refl _) (argsL := [(.ref b284)]) (rest := []) (lenOf pd_2 rfl) rfl (by show 2 * 0 + _ ≤ _; exact Nat.le_of_eq rfl) (hb hby at_141) (fun _ _ => ⟨rfl, e298, (by decide : 2 + 0 ≤ _), (by decide : 2 + 0 ≤ _)⟩)
        dsimp only [Pt.U, Pt.locs, Pt.cells, Pt.slots] at X303 l303 y303 z303 st303 hQ303
        subst l303 y303 z303
        obtain ⟨rfl, Nq303, e303⟩ := hQ303
        have N303 := Fr.app N298 Nq303
        have k304 : Way p e below S0 T303 (mkF m 144 #[iv p1, iv p2, iv (1 : Int32), iv (1 : Int32), iv (2 : Int32), rv b284, rv b291, iv (0 : Int32)] [(.int (1 : Int32))]) := fun t k => k301 t (st303.trans k)
        have k305 : Way p e below S0 T303 (mkF m 152 #[iv p1, iv p2, iv (1 : Int32), iv (1 : Int32), iv (2 : Int32), rv b284, rv b291, iv (0 : Int32)] [(.int (1 : Int32))]) := by
          intro t k
          refine k304 t ?_
          refine XS.ifNo X303.here hx rfl (hb hby at_144) rfl ((if0 _ _).trans (feq ((by decide) : ¬ ((1 : Int32) = (0 : Int32)))).1) ?_
          show Steps p.tables e below (T303.setTop (mkF m 147 #[iv p1, iv p2, iv (1 : Int32), iv (1 : Int32), iv (2 : Int32), rv b284, rv b291, iv (0 : Int32)] [])) _
          refine XS.iconst X303.here hx rfl (hb hby at_147) ?_
          show Steps p.tables e below (T303.setTop (mkF m 148 #[iv p1, iv p2, iv (1 : Int32), iv (1 : Int32), iv (2 : Int32), rv b284, rv b291, iv (0 : Int32)] [(.int (1 : Int32))])) _
          refine XS.goto X303.here hx rfl (pc0 := 148) (pc' := 152) rfl (hb hby at_148) (by decide) (by decide) ?_
          show Steps p.tables e below (T303.setTop (mkF m 152 #[iv p1, iv p2, iv (1 : Int32), iv (1 : Int32), iv (2 : Int32), rv b284, rv b291, iv (0 : Int32)] [(.int (1 : Int32))])) _
          exact k
        obtain ⟨fs, hr, hrun, hended, hW, hsame⟩ := X303.leave (v := some (.int (1 : Int32))) (fun h => by rw [Bd.returns] at h; cases h)
        refine ⟨_, _, k305 _ (retN X303 hx (t := .boolean) Bd.returns (by simp) (hb hby at_152) hr), hrun, hended, _, _, rfl, ?_, ⟨_, rfl⟩, hW, hsame.mono (by decide) (by decide)⟩
        show Q_law_met Z wC clC p1 p2 h0 n0 _ T303.heap _
        rw [e303]
        exact ⟨rfl, N303⟩
      · have k306 : Way p e below S0 s₁ (mkF m 31 #[iv p1, iv p2, iv (1 : Int32), iv (1 : Int32), iv (3 : Int32), .unset, .unset, .unset] []) := by have q := k244; rw [hi245] at q; exact q
        obtain ⟨T307, h307, X307, e307, E307, A307, D307, U307, st307⟩ := newO X0 hx hZ hown (hw _ (List.mem_of_getElem? (i := 0) rfl)) (hw _ (List.mem_of_getElem? (i := 1) rfl)) (hw _ (List.mem_of_getElem? (i := 2) rfl)) e0 (g := (mkF m 31 #[iv p1, iv p2, iv (1 : Int32), iv (1 : Int32), iv (3 : Int32), .unset, .unset, .unset] [])) rfl (hb hby at_31) (by decide) (by decide)
        obtain ⟨b307, g307⟩ : ∃ z, z = h0.size := ⟨_, rfl⟩
        rw [← g307] at A307 D307 U307 st307
        have O307 := O0.ext E307
        have i307_value : Fld Z h307 b307 "com/example/stubwright/stubwright/idl/ConstValue$BooleanValue" "value" "Z" (.int (0 : Int32)) := D307 (Or.inr (hw _ (List.mem_of_getElem? (i := 15) rfl))) (ty := .boolean) (by decide)
        have k308 : Way p e below S0 T307 (mkF m 34 #[iv p1, iv p2, iv (1 : Int32), iv (1 : Int32), iv (3 : Int32), .unset, .unset, .unset] [(.ref b307)]) := fun t k => k306 t (st307 _ k)
        have k309 : Way p e below S0 T307 (mkF m 36 #[iv p1, iv p2, iv (1 : Int32), iv (1 : Int32), iv (3 : Int32), .unset, .unset, .unset] [(.int (1 : Int32)), (.ref b307), (.ref b307)]) := by
          intro t k
          refine k308 t ?_
          refine XS.dup X307.here hx rfl (hb hby at_34) rfl rfl ?_
          show Steps p.tables e below (T307.setTop (mkF m 35 #[iv p1, iv p2, iv (1 : Int32), iv (1 : Int32), iv (3 : Int32), .unset, .unset, .unset] [(.ref b307), (.ref b307)])) _
          refine XS.iloadN X307.here hx rfl (hb hby at_35) rfl ?_
          show Steps p.tables e below (T307.setTop (mkF m 36 #[iv p1, iv p2, iv (1 : Int32), iv (1 : Int32), iv (3 : Int32), .unset, .unset, .unset] [(.int (1 : Int32)), (.ref b307), (.ref b307)])) _
          exact k
        have ge310 : n0 ≤ b307 := Nat.le_trans (own_old O0) (Nat.le_of_eq g307.symm)
        obtain ⟨_, _, ⟨T311, L311, kk311, nn311⟩, -, X311, ⟨Lc311, hQ311, l311, y311, z311⟩, st311⟩ := X307.specialBack hx (y := (⟨"com/example/stubwright/stubwright/idl/ConstValue$BooleanValue", "<init>", "(Z)V"⟩ : MethodName)) rfl hown (mvT hZ (hw _ (List.mem_of_getElem? (i := 3) rfl))) (mvT hZ (hw _ (List.mem_of_getElem? (i := 4) rfl))) (mvT hZ (hw _ (List.mem_of_getElem? (i := 5) rfl))) (by decide) (backOf (W := 1) (bvInit1 l Z a0 hw [] wC clC G b307 h307 n0 O307 (A307 : Exa Z h307 b307 "com/example/stubwright/stubwright/idl/ConstValue$BooleanValue") (i307_value : Fld Z h307 b307 "com/example/stubwright/stubwright/idl/ConstValue$BooleanValue" "value" "Z" (.int (0 : Int32))) (ge310 : n0 ≤ b307)) hZ (hw _ (List.mem_of_getElem? (i := 5) rfl)) (hw _ (List.mem_of_getElem? (i := 2) rfl)) (by decide) (by decide)) (g := (mkF m 36 #[iv p1, iv p2, iv (1 : Int32), iv (1 : Int32), iv (3 : Int32), .unset, .unset, .unset] [(.int (1 : Int32)), (.ref b307), (.ref b307)])) rfl (by rw [hml]; rfl) (Steps.refl _) (a := b307) (argsL := [(.int (1 : Int32))]) (rest := [(.ref b307)]) (lenOf pd_1 rfl) rfl (by show 2 * 0 + _ ≤ _; exact Nat.le_of_eq rfl) (hb hby at_36) (fun _ _ => ⟨rfl, e307, (by decide : 1 + 0 ≤ _), (by decide : 1 + 0 ≤ _)⟩)
        dsimp only [Pt.U, Pt.locs, Pt.cells, Pt.slots] at X311 l311 y311 z311 st311 hQ311
        subst l311 y311 z311
        obtain ⟨rfl, Nq311, Kq311, po311_0, po311_1⟩ := hQ311
        have N311 := Fr.app N0 Nq311
        have O311 := O307.keep Kq311 (allS ge310 all0)
        have k312 : Way p e below S0 T311 (mkF m 39 #[iv p1, iv p2, iv (1 : Int32), iv (1 : Int32), iv (3 : Int32), .unset, .unset, .unset] [(.ref b307)]) := fun t k => k309 t (st311.trans k)
        have k313 : Way p e below S0 T311 (mkF m 103 #[iv p1, iv p2, iv (1 : Int32), iv (1 : Int32), iv (3 : Int32), rv b307, .unset, .unset] [(.int (1 : Int32))]) := by
          intro t k
          refine k312 t ?_
          refine XS.astore X311.here hx rfl (hb hby at_39) rfl rfl (l' := #[iv p1, iv p2, iv (1 : Int32), iv (1 : Int32), iv (3 : Int32), rv b307, .unset, .unset]) rfl ?_
          show Steps p.tables e below (T311.setTop (mkF m 41 #[iv p1, iv p2, iv (1 : Int32), iv (1 : Int32), iv (3 : Int32), rv b307, .unset, .unset] [])) _
          refine XS.iload X311.here hx rfl (hb hby at_41) rfl ?_
          show Steps p.tables e below (T311.setTop (mkF m 43 #[iv p1, iv p2, iv (1 : Int32), iv (1 : Int32), iv (3 : Int32), rv b307, .unset, .unset] [(.int (3 : Int32))])) _
          refine XS.ifYes X311.here hx rfl (pc0 := 43) (pc' := 59) rfl (hb hby at_43) rfl ((if0 _ _).trans (feq ((by decide) : ¬ ((3 : Int32) = (0 : Int32)))).2) (by decide) (by decide) ?_
          show Steps p.tables e below (T311.setTop (mkF m 59 #[iv p1, iv p2, iv (1 : Int32), iv (1 : Int32), iv (3 : Int32), rv b307, .unset, .unset] [])) _
          refine XS.iload X311.here hx rfl (hb hby at_59) rfl ?_
          show Steps p.tables e below (T311.setTop (mkF m 61 #[iv p1, iv p2, iv (1 : Int32), iv (1 : Int32), iv (3 : Int32), rv b307, .unset, .unset] [(.int (3 : Int32))])) _
          refine XS.iconst X311.here hx rfl (hb hby at_61) ?_
          show Steps p.tables e below (T311.setTop (mkF m 62 #[iv p1, iv p2, iv (1 : Int32), iv (1 : Int32), iv (3 : Int32), rv b307, .unset, .unset] [(.int (1 : Int32)), (.int (3 : Int32))])) _
          refine XS.icmpYes X311.here hx rfl (pc0 := 62) (pc' := 71) rfl (hb hby at_62) rfl (feq ((by decide) : ¬ ((3 : Int32) = (1 : Int32)))).2 (by decide) (by decide) ?_
          show Steps p.tables e below (T311.setTop (mkF m 71 #[iv p1, iv p2, iv (1 : Int32), iv (1 : Int32), iv (3 : Int32), rv b307, .unset, .unset] [])) _
          refine XS.iload X311.here hx rfl (hb hby at_71) rfl ?_
          show Steps p.tables e below (T311.setTop (mkF m 73 #[iv p1, iv p2, iv (1 : Int32), iv (1 : Int32), iv (3 : Int32), rv b307, .unset, .unset] [(.int (3 : Int32))])) _
          refine XS.iconst X311.here hx rfl (hb hby at_73) ?_
          show Steps p.tables e below (T311.setTop (mkF m 74 #[iv p1, iv p2, iv (1 : Int32), iv (1 : Int32), iv (3 : Int32), rv b307, .unset, .unset] [(.int (2 : Int32)), (.int (3 : Int32))])) _
          refine XS.icmpYes X311.here hx rfl (pc0 := 74) (pc' := 94) rfl (hb hby at_74) rfl (feq ((by decide) : ¬ ((3 : Int32) = (2 : Int32)))).2 (by decide) (by decide) ?_
          show Steps p.tables e below (T311.setTop (mkF m 94 #[iv p1, iv p2, iv (1 : Int32), iv (1 : Int32), iv (3 : Int32), rv b307, .unset, .unset] [])) _
          refine XS.iloadN X311.here hx rfl (hb hby at_94) rfl ?_
          show Steps p.tables e below (T311.setTop (mkF m 95 #[iv p1, iv p2, iv (1 : Int32), iv (1 : Int32), iv (3 : Int32), rv b307, .unset, .unset] [(.int (1 : Int32))])) _
          refine XS.ifNo X311.here hx rfl (hb hby at_95) rfl ((if0 _ _).trans (feq ((by decide) : ¬ ((1 : Int32) = (0 : Int32)))).1) ?_
          show Steps p.tables e below (T311.setTop (mkF m 98 #[iv p1, iv p2, iv (1 : Int32), iv (1 : Int32), iv (3 : Int32), rv b307, .unset, .unset] [])) _
          refine XS.iconst X311.here hx rfl (hb hby at_98) ?_
          show Steps p.tables e below (T311.setTop (mkF m 99 #[iv p1, iv p2, iv (1 : Int32), iv (1 : Int32), iv (3 : Int32), rv b307, .unset, .unset] [(.int (1 : Int32))])) _
          refine XS.goto X311.here hx rfl (pc0 := 99) (pc' := 103) rfl (hb hby at_99) (by decide) (by decide) ?_
          show Steps p.tables e below (T311.setTop (mkF m 103 #[iv p1, iv p2, iv (1 : Int32), iv (1 : Int32), iv (3 : Int32), rv b307, .unset, .unset] [(.int (1 : Int32))])) _
          exact k
        obtain ⟨_, _, ⟨T314, L314, kk314, nn314⟩, -, X314, ⟨Lc314, hQ314, l314, y314, z314⟩, st314⟩ := Jvm.LawKit.callS X311 hx (y := (⟨"java/lang/Integer", "valueOf", "(I)Ljava/lang/Integer;"⟩ : MethodName)) hown (mvT hZ (hw _ (List.mem_of_getElem? (i := 23) rfl))) (mvT hZ (hw _ (List.mem_of_getElem? (i := 24) rfl))) (mvT hZ (hw _ (List.mem_of_getElem? (i := 25) rfl))) (mvT hZ (hw _ (List.mem_of_getElem? (i := 26) rfl))) (by decide) (backOf (W := 0) (vofOld l Z a0 hw [] wC clC G (1 : Int32) T311.heap n0 O311 (by decide : ¬ ((1 : Int32) < (-128 : Int32))) (by decide : ¬ ((127 : Int32) < (1 : Int32)))) hZ (hw _ (List.mem_of_getElem? (i := 26) rfl)) (hw _ (List.mem_of_getElem? (i := 25) rfl)) (by decide) (by decide)) (g := (mkF m 103 #[iv p1, iv p2, iv (1 : Int32), iv (1 : Int32), iv (3 : Int32), rv b307, .unset, .unset] [(.int (1 : Int32))])) rfl (by rw [hml]; rfl) (argsL := [(.int (1 : Int32))]) (rest := []) (lenOf pd_4 rfl) rfl (by show 2 * 0 + _ ≤ _; exact Nat.le_of_eq rfl) (hb hby at_103) (fun _ _ => ⟨rfl, rfl, (by decide : 1 + 0 ≤ _), (by decide : 1 + 0 ≤ _)⟩)
        dsimp only [Pt.U, Pt.locs, Pt.cells, Pt.slots] at X314 l314 y314 z314 st314 hQ314
        subst l314 y314 z314
        obtain ⟨y1_314, rfl, Nq314, e314, po314_0⟩ := hQ314
        have N314 := Fr.app N311 Nq314
        rw [e314] at po314_0
        have k315 : Way p e below S0 T314 (mkF m 106 #[iv p1, iv p2, iv (1 : Int32), iv (1 : Int32), iv (3 : Int32), rv b307, .unset, .unset] [(.ref y1_314)]) := fun t k => k313 t (st314 _ k)
        have k316 : Way p e below S0 T314 (mkF m 129 #[iv p1, iv p2, iv (1 : Int32), iv (1 : Int32), iv (3 : Int32), rv b307, rv y1_314, iv (0 : Int32)] [(.ref y1_314), (.ref b307)]) := by
          intro t k
          refine k315 t ?_
          refine XS.astore X314.here hx rfl (hb hby at_106) rfl rfl (l' := #[iv p1, iv p2, iv (1 : Int32), iv (1 : Int32), iv (3 : Int32), rv b307, rv y1_314, .unset]) rfl ?_
          show Steps p.tables e below (T314.setTop (mkF m 108 #[iv p1, iv p2, iv (1 : Int32), iv (1 : Int32), iv (3 : Int32), rv b307, rv y1_314, .unset] [])) _
          refine XS.iload X314.here hx rfl (hb hby at_108) rfl ?_
          show Steps p.tables e below (T314.setTop (mkF m 110 #[iv p1, iv p2, iv (1 : Int32), iv (1 : Int32), iv (3 : Int32), rv b307, rv y1_314, .unset] [(.int (3 : Int32))])) _
          refine XS.ifYes X314.here hx rfl (pc0 := 110) (pc' := 122) rfl (hb hby at_110) rfl ((if0 _ _).trans (feq ((by decide) : ¬ ((3 : Int32) = (0 : Int32)))).2) (by decide) (by decide) ?_
          show Steps p.tables e below (T314.setTop (mkF m 122 #[iv p1, iv p2, iv (1 : Int32), iv (1 : Int32), iv (3 : Int32), rv b307, rv y1_314, .unset] [])) _
          refine XS.iconst X314.here hx rfl (hb hby at_122) ?_
          show Steps p.tables e below (T314.setTop (mkF m 123 #[iv p1, iv p2, iv (1 : Int32), iv (1 : Int32), iv (3 : Int32), rv b307, rv y1_314, .unset] [(.int (0 : Int32))])) _
          refine XS.istore X314.here hx rfl (hb hby at_123) rfl (l' := #[iv p1, iv p2, iv (1 : Int32), iv (1 : Int32), iv (3 : Int32), rv b307, rv y1_314, iv (0 : Int32)]) rfl ?_
          show Steps p.tables e below (T314.setTop (mkF m 125 #[iv p1, iv p2, iv (1 : Int32), iv (1 : Int32), iv (3 : Int32), rv b307, rv y1_314, iv (0 : Int32)] [])) _
          refine XS.aload X314.here hx rfl (hb hby at_125) rfl rfl ?_
          show Steps p.tables e below (T314.setTop (mkF m 127 #[iv p1, iv p2, iv (1 : Int32), iv (1 : Int32), iv (3 : Int32), rv b307, rv y1_314, iv (0 : Int32)] [(.ref b307)])) _
          refine XS.aload X314.here hx rfl (hb hby at_127) rfl rfl ?_
          show Steps p.tables e below (T314.setTop (mkF m 129 #[iv p1, iv p2, iv (1 : Int32), iv (1 : Int32), iv (3 : Int32), rv b307, rv y1_314, iv (0 : Int32)] [(.ref y1_314), (.ref b307)])) _
          exact k
        obtain ⟨cq317, kq317, qq317a, qq317b, qq317c⟩ := isOf hZ e314 po311_0
        obtain ⟨_, _, ⟨T317, L317, kk317, nn317⟩, -, X317, ⟨Lc317, hQ317, l317, y317, z317⟩, st317⟩ := X314.virtualBack hx (y := (⟨"com/example/stubwright/stubwright/idl/ConstValue$BooleanValue", "equals", "(Ljava/lang/Object;)Z"⟩ : MethodName)) (z := (⟨"com/example/stubwright/stubwright/idl/ConstValue$BooleanValue", "equals", "(Ljava/lang/Object;)Z"⟩ : MethodName)) hown (mvT hZ (hw _ (List.mem_of_getElem? (i := 16) rfl))) (mvT hZ (hw _ (List.mem_of_getElem? (i := 17) rfl))) (notFace_of_selects (args := #[]) (mvT hZ (hw _ (List.mem_of_getElem? (i := 19) rfl)))) (mvT hZ (hw _ (List.mem_of_getElem? (i := 19) rfl))) (mvT hZ (hw _ (List.mem_of_getElem? (i := 18) rfl))) (by decide) (backOf (W := 0) (eqOther1 l Z a0 hw [] wC clC G b307 y1_314 T311.heap n0 O311 (po314_0 : Exa Z T311.heap y1_314 "java/lang/Integer")) hZ (hw _ (List.mem_of_getElem? (i := 20) rfl)) (hw _ (List.mem_of_getElem? (i := 2) rfl)) (by decide) (by decide)) qq317a qq317c (g := (mkF m 129 #[iv p1, iv p2, iv (1 : Int32), iv (1 : Int32), iv (3 : Int32), rv b307, rv y1_314, iv (0 : Int32)] [(.ref y1_314), (.ref b307)])) rfl (by rw [hml]; rfl) (Steps.refl _) (argsL := [(.ref y1_314)]) (rest := []) (lenOf pd_2 rfl) rfl (by show 2 * 0 + _ ≤ _; exact Nat.le_of_eq rfl) (hb hby at_129) (fun _ _ => ⟨rfl, e314, (by decide : 1 + 0 ≤ _), (by decide : 1 + 0 ≤ _)⟩)
        dsimp only [Pt.U, Pt.locs, Pt.cells, Pt.slots] at X317 l317 y317 z317 st317 hQ317
        subst l317 y317 z317
        obtain ⟨rfl, Nq317, e317⟩ := hQ317
        have N317 := Fr.app N314 Nq317
        have k318 : Way p e below S0 T317 (mkF m 132 #[iv p1, iv p2, iv (1 : Int32), iv (1 : Int32), iv (3 : Int32), rv b307, rv y1_314, iv (0 : Int32)] [(.int (0 : Int32))]) := fun t k => k316 t (st317.trans k)
        have k319 : Way p e below S0 T317 (mkF m 141 #[iv p1, iv p2, iv (1 : Int32), iv (1 : Int32), iv (3 : Int32), rv b307, rv y1_314, iv (0 : Int32)] [(.ref b307), (.ref b307)]) := by
          intro t k
          refine k318 t ?_
          refine XS.iload X317.here hx rfl (hb hby at_132) rfl ?_
          show Steps p.tables e below (T317.setTop (mkF m 134 #[iv p1, iv p2, iv (1 : Int32), iv (1 : Int32), iv (3 : Int32), rv b307, rv y1_314, iv (0 : Int32)] [(.int (0 : Int32)), (.int (0 : Int32))])) _
          refine XS.icmpNo X317.here hx rfl (hb hby at_134) rfl (teq ((by decide) : (0 : Int32) = (0 : Int32))).2 ?_
          show Steps p.tables e below (T317.setTop (mkF m 137 #[iv p1, iv p2, iv (1 : Int32), iv (1 : Int32), iv (3 : Int32), rv b307, rv y1_314, iv (0 : Int32)] [])) _
          refine XS.aload X317.here hx rfl (hb hby at_137) rfl rfl ?_
          show Steps p.tables e below (T317.setTop (mkF m 139 #[iv p1, iv p2, iv (1 : Int32), iv (1 : Int32), iv (3 : Int32), rv b307, rv y1_314, iv (0 : Int32)] [(.ref b307)])) _
          refine XS.aload X317.here hx rfl (hb hby at_139) rfl rfl ?_
          show Steps p.tables e below (T317.setTop (mkF m 141 #[iv p1, iv p2, iv (1 : Int32), iv (1 : Int32), iv (3 : Int32), rv b307, rv y1_314, iv (0 : Int32)] [(.ref b307), (.ref b307)])) _
          exact k
        obtain ⟨cq320, kq320, qq320a, qq320b, qq320c⟩ := isOf hZ e317 po311_0
        obtain ⟨_, _, ⟨T320, L320, kk320, nn320⟩, -, X320, ⟨Lc320, hQ320, l320, y320, z320⟩, st320⟩ := X317.virtualBack hx (y := (⟨"com/example/stubwright/stubwright/idl/ConstValue$BooleanValue", "equals", "(Ljava/lang/Object;)Z"⟩ : MethodName)) (z := (⟨"com/example/stubwright/stubwright/idl/ConstValue$BooleanValue", "equals", "(Ljava/lang/Object;)Z"⟩ : MethodName)) hown (mvT hZ (hw _ (List.mem_of_getElem? (i := 16) rfl))) (mvT hZ (hw _ (List.mem_of_getElem? (i := 17) rfl))) (notFace_of_selects (args := #[]) (mvT hZ (hw _ (List.mem_of_getElem? (i := 19) rfl)))) (mvT hZ (hw _ (List.mem_of_getElem? (i := 19) rfl))) (mvT hZ (hw _ (List.mem_of_getElem? (i := 18) rfl))) (by decide) (backOf (W := 0) (eq11 l Z a0 hw [] wC clC G b307 b307 T311.heap n0 O311 (po311_0 : Exa Z T311.heap b307 "com/example/stubwright/stubwright/idl/ConstValue$BooleanValue") (po311_1 : Fld Z T311.heap b307 "com/example/stubwright/stubwright/idl/ConstValue$BooleanValue" "value" "Z" (.int (1 : Int32))) (po311_1 : Fld Z T311.heap b307 "com/example/stubwright/stubwright/idl/ConstValue$BooleanValue" "value" "Z" (.int (1 : Int32)))) hZ (hw _ (List.mem_of_getElem? (i := 20) rfl)) (hw _ (List.mem_of_getElem? (i := 2) rfl)) (by decide) (by decide)) qq320a qq320c (g := (mkF m 141 #[iv p1, iv p2, iv (1 : Int32), iv (1 : Int32), iv (3 : Int32), rv b307, rv y1_314, iv (0 : Int32)] [(.ref b307), (.ref b307)])) rfl (by rw [hml]; rfl) (Steps.refl _) (argsL := [(.ref b307)]) (rest := []) (lenOf pd_2 rfl) rfl (by show 2 * 0 + _ ≤ _; exact Nat.le_of_eq rfl) (hb hby at_141) (fun _ _ => ⟨rfl, e317, (by decide : 1 + 0 ≤ _), (by decide : 1 + 0 ≤ _)⟩)
        dsimp only [Pt.U, Pt.locs, Pt.cells, Pt.slots] at X320 l320 y320 z320 st320 hQ320
        subst l320 y320 z320
        obtain ⟨rfl, Nq320, e320⟩ := hQ320
        have N320 := Fr.app N317 Nq320
        have k321 : Way p e below S0 T320 (mkF m 144 #[iv p1, iv p2, iv (1 : Int32), iv (1 : Int32), iv (3 : Int32), rv b307, rv y1_314, iv (0 : Int32)] [(.int (1 : Int32))]) := fun t k => k319 t (st320.trans k)
        have k322 : Way p e below S0 T320 (mkF m 152 #[iv p1, iv p2, iv (1 : Int32), iv (1 : Int32), iv (3 : Int32), rv b307, rv y1_314, iv (0 : Int32)] [(.int (1 : Int32))]) := by
          intro t k
          refine k321 t ?_
          refine XS.ifNo X320.here hx rfl (hb hby at_144) rfl ((if0 _ _).trans (feq ((by decide) : ¬ ((1 : Int32) = (0 : Int32)))).1) ?_
          show Steps p.tables e below (T320.setTop (mkF m 147 #[iv p1, iv p2, iv (1 : Int32), iv (1 : Int32), iv (3 : Int32), rv b307, rv y1_314, iv (0 : Int32)] [])) _
          refine XS.iconst X320.here hx rfl (hb hby at_147) ?_
          show Steps p.tables e below (T320.setTop (mkF m 148 #[iv p1, iv p2, iv (1 : Int32), iv (1 : Int32), iv (3 : Int32), rv b307, rv y1_314, iv (0 : Int32)] [(.int (1 : Int32))])) _
          refine XS.goto X320.here hx rfl (pc0 := 148) (pc' := 152) rfl (hb hby at_148) (by decide) (by decide) ?_
          show Steps p.tables e below (T320.setTop (mkF m 152 #[iv p1, iv p2, iv (1 : Int32), iv (1 : Int32), iv (3 : Int32), rv b307, rv y1_314, iv (0 : Int32)] [(.int (1 : Int32))])) _
          exact k
        obtain ⟨fs, hr, hrun, hended, hW, hsame⟩ := X320.leave (v := some (.int (1 : Int32))) (fun h => by rw [Bd.returns] at h; cases h)
        refine ⟨_, _, k322 _ (retN X320 hx (t := .boolean) Bd.returns (by simp) (hb hby at_152) hr), hrun, hended, _, _, rfl, ?_, ⟨_, rfl⟩, hW, hsame.mono (by decide) (by decide)⟩
        show Q_law_met Z wC clC p1 p2 h0 n0 _ T320.heap _
        rw [e320]
        exact ⟨rfl, N320⟩
set_option maxRecDepth 65536 in
set_option maxHeartbeats 40000000 in
theorem comes_1 {Post : Tables → Env → Array Value → State → Outcome → State → Prop} (hpost : ∀ tb e args s v u, (limb_1_1.after args s (.returned v) u = true ∧ limb_1_2.after args s (.returned v) u = true ∧ True) → FrameEnd s (.returned v) u (Jvm.fieldLocs frame_1_writes args s ++ Jvm.arrayLocs frame_1_arrays args s ++ Jvm.staticLocs frame_1_statics s) 16 128 → Post tb e args s (.returned v) u) :
    ArmFor flags0 classFile x code maxLocals ret World_1 tables_1 room_1 Calls_1 rest_1 Pre_1 Post := by
  intro l hfl _ _ p e ha hc hk s m args below hf hA hF happ hP
  obtain ⟨hcalls, hrest, hpre⟩ := hP
  obtain ⟨-, -, -, hnamed, -, -, -, hat⟩ := (Spec.applies_iff hf).mp happ
  obtain ⟨hg, hn⟩ := and_e (Cond.before_iff.mp (show (Jvm.Cond.and given_1 narrow_1).before args s = true from hpre))
  obtain ⟨g1a, g1b⟩ := and_e hg
  obtain ⟨g2a, g2b⟩ := and_e g1b
  obtain ⟨w0, w1, rfl⟩ : ∃ w0 w1 : Value, args = #[w0, w1] := by
    have hs : args.size = 2 := by simpa [Cond.value, given_1] using g1a
    obtain ⟨L⟩ := args
    match L, hs with
    | [w0, w1], _ => exact ⟨w0, w1, rfl⟩
  have hw := fun d (hd : d ∈ tables_1) => atoms_spec (ws := Jvm.Cond.code x code maxLocals ret :: tables_1) hat d (List.mem_cons_of_mem _ hd)
  have hfit : Fit s := fun {y c} hc i hi => by
    obtain ⟨ha, rfl⟩ := Array.getElem?_eq_some_iff.mp hc
    have q := List.all_eq_true.mp ((Array.all_eq_true_iff_forall_mem.mp hF) _ (Array.getElem_mem ha)) i (List.mem_range.mpr hi)
    simpa [Array.getElem?_eq_getElem hi] using q
  obtain ⟨hsets, hown0⟩ := atoms_of _ (rest_1_c_eq ▸ (show rest_1_c.before _ s = true from hrest))
  have hr0 := Cond.before_iff.mp hown0
  obtain ⟨i0, ei0⟩ := is_v g2a
  obtain rfl : w0 = (.int i0) := Option.some.inj ei0
  obtain ⟨i1, ei1⟩ := is_v g2b
  obtain rfl : w1 = (.int i1) := Option.some.inj ei1
  have S_high := Sta.start (v := .int (127 : Int32)) (Cond.eq_int (hsets _ (List.mem_of_getElem? (i := 3) rfl)) rfl) (Or.inl (hsets _ (List.mem_of_getElem? (i := 1) rfl)))
  obtain ⟨wC, ev_C⟩ := arr_v (Cond.before_iff.mp (hsets _ (List.mem_of_getElem? (i := 4) rfl)))
  have S_cache := Sta.start ev_C (Or.inr ⟨(hw _ (List.mem_of_getElem? (i := 28) rfl)), (hsets _ (List.mem_of_getElem? (i := 2) rfl))⟩)
  obtain ⟨clC, A_C, z_C, e_C⟩ := own_cache ev_C (Cond.before_iff.mp (hsets _ (List.mem_of_getElem? (i := 4) rfl))) (Cond.before_iff.mp (hsets _ (List.mem_of_getElem? (i := 6) rfl))) (Cond.before_iff.mp (hsets _ (List.mem_of_getElem? (i := 7) rfl)))
  have G : Gst s wC clC := ⟨S_high, S_cache, A_C, z_C, e_C⟩
  obtain ⟨n, o, h1, h2, h3, _, L, rfl, ⟨rfl, N⟩, hq⟩ := law_met l s _ hw tables_1 wC clC G i0 i1 s.heap s.heap.size (Old.start s)  p e ha hc hk s m _ below hf ((Spec.applies_iff_loose hf).mp happ).1 ⟨rfl, State.Warmed39.refl s, rfl⟩ trivial
  refine ⟨n, _, h1, h2, h3, hpost _ _ _ _ _ _ ⟨Cond.after_iff.mpr rfl, Cond.after_iff.mpr (eq_i res_at (Term.int_eval (1)) rfl), trivial⟩ ⟨hq.1, hq.2.1, (hq.2.2.sift fun y hy => Or.inr (N y hy)).mono (by decide) (by decide)⟩⟩
theorem main_1_1 : Claimed_1_1 := comes_1 fun _ _ _ _ _ _ h hF => ⟨h.1, hF⟩
theorem main_1_2 : Claimed_1_2 := comes_1 fun _ _ _ _ _ _ h hF => ⟨h.2.1, hF⟩
end Jvm.Pilot.@@N@@
namespace Jvm.Pilot.@@N@@
open Jvm Jvm.ClassFile Sem Op Lib Jvm.Free Jvm.Stand Jvm.Pilot.@@N@@.Jvm.D
/-! MADE BY PROGRAM (witnessworld.py) out of the Statement's table words and the real class files: 19 classes; the members and pool entries that the words name. The judged class is class 1, her method 1. -/
namespace start1
open Jvm.ClassFile
def u (s : String) : CpInfo := .utf8 (stringToUtf16 s)
/-- a pool by its gaps: so many unusable entries, then the entry; so many at the end -/
def gap : Nat → List CpInfo → List CpInfo
  | 0, r => r
  | n + 1, r => .unusable :: gap n r
def poolList (es : List (Nat × CpInfo)) (last : Nat) : List CpInfo := es.foldr (fun e r => gap e.1 (e.2 :: r)) (gap last [])
def pool (es : List (Nat × CpInfo)) (last : Nat) : Array CpInfo := ⟨poolList es last⟩
def fileOf (pool : Array CpInfo) (this : Nat) (attrs : Array Attribute := #[]) (ms : Array MethodInfo := #[]) (fl : Nat := 33) (sup : Nat := 0) (ifs : Array Nat := #[]) (fds : Array FieldInfo := #[]) : ClassFile where
  minorVersion := 0
  majorVersion := 65
  constantPool := pool
  accessFlags := fl
  thisClass := this
  superClass := sup
  interfaces := ifs
  fields := fds
  methods := ms
  attributes := attrs
def plain (name : String) (sup : Option ClassId) : Class where
  name := name
  kind := .ordinary
  loader := none
  accessFlags := 33
  super := sup
  interfaces := #[]
  cf := none
  fields := #[]
  methods := #[]
  instanceTypes := #[]
  staticTypes := #[]
  resolved := #[]
  callSites := []
  init := .initialized
  statics := none
  mirror := none

def pool0 : Array CpInfo := pool [(5, u "<init>"), (0, u "()V"), (1, .class_ 10), (1, u "java/lang/Object")] 113

def k0c0 : Code := { maxStack := 0, maxLocals := 1, code := object_method_1_code, exceptionTable := #[], attributes := #[] }
def k0m0 : Method := { name := "<init>", desc := "()V", sig := { parameters := [], returnType := none }, accessFlags := 1, code := some k0c0 }
/-- java/lang/Object -/
def k0 : Class := { plain "java/lang/Object" none with
  accessFlags := 33
  interfaces := #[]
  cf := some (fileOf pool0 8 #[] #[{ accessFlags := 1, nameIndex := 5, descriptorIndex := 6, attributes := #[] }] 33 0 #[] #[])
  fields := #[]
  methods := #[k0m0]
  instanceTypes := #[]
  staticTypes := #[]
  resolved := Array.replicate 124 none
  statics := none }

def pool1 : Array CpInfo := pool [(2, .class_ 4), (1, u "java/lang/Object"), (0, u "<init>"), (0, u "()V"), (0, .class_ 8), (0, u "com/example/stubwright/stubwright/idl/ConstValue$BooleanValue"), (0, .methodref 7 10), (0, .nameAndType 5 11), (0, u "(Z)V"), (0, .class_ 13), (0, u "com/example/stubwright/stubwright/idl/ConstValue$CharValue"), (0, .integer 65535), (0, .methodref 12 16), (0, .nameAndType 5 17), (0, u "(C)V"), (0, .methodref 19 20), (0, .class_ 21), (0, .nameAndType 22 23), (0, u "java/lang/Integer"), (0, u "valueOf"), (0, u "(I)Ljava/lang/Integer;"), (0, .methodref 7 25), (0, .nameAndType 26 27), (0, u "equals"), (0, u "(Ljava/lang/Object;)Z"), (0, .class_ 29), (0, u "com/example/stubwright/stubwright/idl/BooleanValueEqualsPinLaw"), (2, u "law"), (0, u "(II)Z")] 8

def k1m0 : Method := { name := "<init>", desc := "()V", sig := { parameters := [], returnType := none }, accessFlags := 1, code := none }
def k1c1 : Code := { maxStack := 4, maxLocals := 8, code := code, exceptionTable := #[], attributes := #[] }
def k1m1 : Method := { name := "law", desc := "(II)Z", sig := { parameters := [.int, .int], returnType := some .boolean }, accessFlags := 9, code := some k1c1 }
/-- com/example/stubwright/stubwright/idl/BooleanValueEqualsPinLaw -/
def k1 : Class := { plain "com/example/stubwright/stubwright/idl/BooleanValueEqualsPinLaw" (some 0) with
  accessFlags := 49
  interfaces := #[]
  cf := some (fileOf pool1 28 #[] #[{ accessFlags := 1, nameIndex := 5, descriptorIndex := 6, attributes := #[] }, { accessFlags := 9, nameIndex := 32, descriptorIndex := 33, attributes := #[] }] 49 2 #[] #[])
  fields := #[]
  methods := #[k1m0, k1m1]
  instanceTypes := #[]
  staticTypes := #[]
  resolved := Array.replicate 42 none
  statics := none }

def pool2 : Array CpInfo := pool [(1, .methodref 2 3), (0, .class_ 4), (0, .nameAndType 5 6), (0, u "java/lang/Object"), (0, u "<init>"), (0, u "()V"), (0, .class_ 8), (0, u "java/lang/Record")] 13

def k2c0 : Code := { maxStack := 1, maxLocals := 1, code := jdk_30_method_1_code, exceptionTable := #[], attributes := #[] }
def k2m0 : Method := { name := "<init>", desc := "()V", sig := { parameters := [], returnType := none }, accessFlags := 4, code := some k2c0 }
/-- java/lang/Record -/
def k2 : Class := { plain "java/lang/Record" (some 0) with
  accessFlags := 1057
  interfaces := #[]
  cf := some (fileOf pool2 7 #[] #[{ accessFlags := 4, nameIndex := 5, descriptorIndex := 6, attributes := #[] }] 1057 2 #[] #[])
  fields := #[]
  methods := #[k2m0]
  instanceTypes := #[]
  staticTypes := #[]
  resolved := Array.replicate 22 none
  statics := none }

def pool3 : Array CpInfo := pool [(1, .class_ 2), (0, u "com/example/stubwright/stubwright/idl/ConstValue"), (0, .class_ 4), (0, u "java/lang/Object"), (3, .class_ 9), (0, u "com/example/stubwright/stubwright/idl/ConstValue$EnumeratorValue"), (0, .class_ 11), (0, u "com/example/stubwright/stubwright/idl/ConstValue$BooleanValue"), (0, .class_ 13), (0, u "com/example/stubwright/stubwright/idl/ConstValue$StringValue"), (0, .class_ 15), (0, u "com/example/stubwright/stubwright/idl/ConstValue$CharValue"), (0, .class_ 17), (0, u "com/example/stubwright/stubwright/idl/ConstValue$FixedValue"), (0, .class_ 19), (0, u "com/example/stubwright/stubwright/idl/ConstValue$FloatingValue"), (0, .class_ 21), (0, u "com/example/stubwright/stubwright/idl/ConstValue$IntegerValue")] 9

/-- com/example/stubwright/stubwright/idl/ConstValue -/
def k3 : Class := { plain "com/example/stubwright/stubwright/idl/ConstValue" (some 0) with
  accessFlags := 1537
  interfaces := #[]
  cf := some (fileOf pool3 1 #[.nestMembers #[8, 10, 12, 14, 16, 18, 20]] #[] 1537 3 #[] #[])
  fields := #[]
  methods := #[]
  instanceTypes := #[]
  staticTypes := #[]
  resolved := Array.replicate 31 none
  statics := none }

def pool4 : Array CpInfo := pool [(1, .methodref 2 3), (0, .class_ 4), (0, .nameAndType 5 6), (0, u "java/lang/Record"), (0, u "<init>"), (0, u "()V"), (0, .fieldref 8 9), (0, .class_ 10), (0, .nameAndType 11 12), (0, u "com/example/stubwright/stubwright/idl/ConstValue$BooleanValue"), (0, u "value"), (0, u "Z"), (10, .class_ 24), (0, u "com/example/stubwright/stubwright/idl/ConstValue"), (0, u "(Z)V"), (3, u "equals"), (0, u "(Ljava/lang/Object;)Z")] 25

def k4c0 : Code := { maxStack := 2, maxLocals := 2, code := prog_19_method_1_code, exceptionTable := #[], attributes := #[] }
def k4m0 : Method := { name := "<init>", desc := "(Z)V", sig := { parameters := [.boolean], returnType := none }, accessFlags := 1, code := some k4c0 }
def k4c1 : Code := { maxStack := 2, maxLocals := 3, code := prog_19_method_2_code, exceptionTable := #[], attributes := #[] }
def k4m1 : Method := { name := "equals", desc := "(Ljava/lang/Object;)Z", sig := { parameters := [(.object "java/lang/Object")], returnType := some .boolean }, accessFlags := 1, code := some k4c1 }
/-- com/example/stubwright/stubwright/idl/ConstValue$BooleanValue -/
def k4 : Class := { plain "com/example/stubwright/stubwright/idl/ConstValue$BooleanValue" (some 2) with
  accessFlags := 49
  interfaces := #[3]
  cf := some (fileOf pool4 8 #[.nestHost 23] #[{ accessFlags := 1, nameIndex := 5, descriptorIndex := 25, attributes := #[] }, { accessFlags := 1, nameIndex := 29, descriptorIndex := 30, attributes := #[] }] 49 2 #[23] #[{ accessFlags := 18, nameIndex := 11, descriptorIndex := 12, attributes := #[] }])
  fields := #[{ name := "value", type := .boolean, accessFlags := 18, slot := 0, constantValue := 0 }]
  methods := #[k4m0, k4m1]
  instanceTypes := #[.boolean]
  staticTypes := #[]
  resolved := Array.replicate 56 none
  statics := none }

def pool5 : Array CpInfo := pool [(1, .class_ 2), (0, u "java/io/Serializable"), (0, .class_ 4), (0, u "java/lang/Object")] 2

/-- java/io/Serializable -/
def k5 : Class := { plain "java/io/Serializable" (some 0) with
  accessFlags := 1537
  interfaces := #[]
  cf := some (fileOf pool5 1 #[] #[] 1537 3 #[] #[])
  fields := #[]
  methods := #[]
  instanceTypes := #[]
  staticTypes := #[]
  resolved := Array.replicate 7 none
  statics := none }

def pool6 : Array CpInfo := pool [(2, .class_ 4), (1, u "java/lang/Object"), (0, u "<init>"), (0, u "()V"), (1, .class_ 10), (1, u "java/lang/Number"), (2, .class_ 14), (0, u "java/io/Serializable"), (0, u "serialVersionUID"), (0, u "J")] 20

def k6m0 : Method := { name := "<init>", desc := "()V", sig := { parameters := [], returnType := none }, accessFlags := 1, code := none }
/-- java/lang/Number -/
def k6 : Class := { plain "java/lang/Number" (some 0) with
  accessFlags := 1057
  interfaces := #[5]
  cf := some (fileOf pool6 8 #[] #[{ accessFlags := 1, nameIndex := 5, descriptorIndex := 6, attributes := #[] }] 1057 2 #[13] #[{ accessFlags := 26, nameIndex := 15, descriptorIndex := 16, attributes := #[] }])
  fields := #[{ name := "serialVersionUID", type := .long, accessFlags := 26, slot := 0, constantValue := 0 }]
  methods := #[k6m0]
  instanceTypes := #[]
  staticTypes := #[.long]
  resolved := Array.replicate 37 none
  statics := none }

def pool7 : Array CpInfo := pool [(1, .class_ 2), (0, u "java/lang/Comparable"), (0, .class_ 4), (0, u "java/lang/Object")] 7

/-- java/lang/Comparable -/
def k7 : Class := { plain "java/lang/Comparable" (some 0) with
  accessFlags := 1537
  interfaces := #[]
  cf := some (fileOf pool7 1 #[] #[] 1537 3 #[] #[])
  fields := #[]
  methods := #[]
  instanceTypes := #[]
  staticTypes := #[]
  resolved := Array.replicate 12 none
  statics := none }

def pool8 : Array CpInfo := pool [(1, .class_ 2), (0, u "java/lang/constant/Constable"), (0, .class_ 4), (0, u "java/lang/Object")] 6

/-- java/lang/constant/Constable -/
def k8 : Class := { plain "java/lang/constant/Constable" (some 0) with
  accessFlags := 1537
  interfaces := #[]
  cf := some (fileOf pool8 1 #[] #[] 1537 3 #[] #[])
  fields := #[]
  methods := #[]
  instanceTypes := #[]
  staticTypes := #[]
  resolved := Array.replicate 11 none
  statics := none }

def pool9 : Array CpInfo := pool [(1, .class_ 2), (0, u "java/lang/constant/ConstantDesc"), (0, .class_ 4), (0, u "java/lang/Object")] 32

/-- java/lang/constant/ConstantDesc -/
def k9 : Class := { plain "java/lang/constant/ConstantDesc" (some 0) with
  accessFlags := 1537
  interfaces := #[]
  cf := some (fileOf pool9 1 #[] #[] 1537 3 #[] #[])
  fields := #[]
  methods := #[]
  instanceTypes := #[]
  staticTypes := #[]
  resolved := Array.replicate 37 none
  statics := none }

def pool10 : Array CpInfo := pool [(1, .class_ 2), (0, u "java/lang/Integer"), (16, u "digits"), (0, u "[C"), (64, u "DigitOnes"), (0, u "[B"), (2, u "DigitTens"), (97, u "valueOf"), (0, u "(I)Ljava/lang/Integer;"), (0, .class_ 190), (0, u "java/lang/Integer$IntegerCache"), (0, .fieldref 189 192), (0, .nameAndType 193 194), (0, u "high"), (0, u "I"), (0, .fieldref 189 196), (0, .nameAndType 197 198), (0, u "cache"), (0, u "[Ljava/lang/Integer;"), (4, .class_ 204), (0, u "java/lang/Number"), (2, u "value"), (94, u "TYPE"), (0, u "Ljava/lang/Class;"), (0, .class_ 305), (0, u "java/lang/Comparable"), (0, .class_ 307), (0, u "java/lang/constant/Constable"), (0, .class_ 309), (0, u "java/lang/constant/ConstantDesc"), (0, u "MIN_VALUE"), (1, u "MAX_VALUE"), (3, u "SIZE"), (1, u "BYTES"), (1, u "serialVersionUID"), (0, u "J")] 131

def k10c0 : Code := { maxStack := 3, maxLocals := 1, code := jdk_33_method_22_code, exceptionTable := #[], attributes := #[] }
def k10m0 : Method := { name := "valueOf", desc := "(I)Ljava/lang/Integer;", sig := { parameters := [.int], returnType := some (.object "java/lang/Integer") }, accessFlags := 9, code := some k10c0 }
/-- java/lang/Integer -/
def k10 : Class := { plain "java/lang/Integer" (some 6) with
  accessFlags := 49
  interfaces := #[7, 8, 9]
  cf := some (fileOf pool10 1 #[.nestMembers #[189]] #[{ accessFlags := 9, nameIndex := 187, descriptorIndex := 188, attributes := #[] }] 49 203 #[304, 306, 308] #[{ accessFlags := 25, nameIndex := 310, descriptorIndex := 194, attributes := #[] }, { accessFlags := 25, nameIndex := 312, descriptorIndex := 194, attributes := #[] }, { accessFlags := 25, nameIndex := 302, descriptorIndex := 303, attributes := #[] }, { accessFlags := 24, nameIndex := 19, descriptorIndex := 20, attributes := #[] }, { accessFlags := 24, nameIndex := 89, descriptorIndex := 86, attributes := #[] }, { accessFlags := 24, nameIndex := 85, descriptorIndex := 86, attributes := #[] }, { accessFlags := 18, nameIndex := 207, descriptorIndex := 194, attributes := #[] }, { accessFlags := 25, nameIndex := 316, descriptorIndex := 194, attributes := #[] }, { accessFlags := 25, nameIndex := 318, descriptorIndex := 194, attributes := #[] }, { accessFlags := 26, nameIndex := 320, descriptorIndex := 321, attributes := #[] }])
  fields := #[{ name := "MIN_VALUE", type := .int, accessFlags := 25, slot := 0, constantValue := 0 }, { name := "MAX_VALUE", type := .int, accessFlags := 25, slot := 1, constantValue := 0 }, { name := "TYPE", type := (.object "java/lang/Class"), accessFlags := 25, slot := 2, constantValue := 0 }, { name := "digits", type := (.array .char), accessFlags := 24, slot := 3, constantValue := 0 }, { name := "DigitTens", type := (.array .byte), accessFlags := 24, slot := 4, constantValue := 0 }, { name := "DigitOnes", type := (.array .byte), accessFlags := 24, slot := 5, constantValue := 0 }, { name := "value", type := .int, accessFlags := 18, slot := 0, constantValue := 0 }, { name := "SIZE", type := .int, accessFlags := 25, slot := 6, constantValue := 0 }, { name := "BYTES", type := .int, accessFlags := 25, slot := 7, constantValue := 0 }, { name := "serialVersionUID", type := .long, accessFlags := 26, slot := 8, constantValue := 0 }]
  methods := #[k10m0]
  instanceTypes := #[.int]
  staticTypes := #[.int, .int, (.object "java/lang/Class"), (.array .char), (.array .byte), (.array .byte), .int, .int, .long]
  resolved := Array.replicate 453 none
  statics := none }

def pool11 : Array CpInfo := pool [(2, .class_ 4), (1, u "java/lang/Object"), (0, u "<init>"), (0, u "()V"), (0, .class_ 8), (0, u "java/lang/Integer"), (7, .class_ 18), (1, u "java/lang/Integer$IntegerCache"), (0, u "$assertionsDisabled"), (0, u "Z"), (26, u "high"), (0, u "I"), (8, u "archivedCache"), (0, u "[Ljava/lang/Integer;"), (12, u "cache"), (0, u "low")] 27

def k11m0 : Method := { name := "<init>", desc := "()V", sig := { parameters := [], returnType := none }, accessFlags := 2, code := none }
/-- java/lang/Integer$IntegerCache -/
def k11 : Class := { plain "java/lang/Integer$IntegerCache" (some 0) with
  accessFlags := 48
  interfaces := #[]
  cf := some (fileOf pool11 16 #[.nestHost 7] #[{ accessFlags := 2, nameIndex := 5, descriptorIndex := 6, attributes := #[] }] 48 2 #[] #[{ accessFlags := 24, nameIndex := 72, descriptorIndex := 48, attributes := #[] }, { accessFlags := 24, nameIndex := 47, descriptorIndex := 48, attributes := #[] }, { accessFlags := 24, nameIndex := 71, descriptorIndex := 58, attributes := #[] }, { accessFlags := 8, nameIndex := 57, descriptorIndex := 58, attributes := #[] }, { accessFlags := 4120, nameIndex := 19, descriptorIndex := 20, attributes := #[] }])
  fields := #[{ name := "low", type := .int, accessFlags := 24, slot := 0, constantValue := 0 }, { name := "high", type := .int, accessFlags := 24, slot := 1, constantValue := 0 }, { name := "cache", type := (.array (.object "java/lang/Integer")), accessFlags := 24, slot := 2, constantValue := 0 }, { name := "archivedCache", type := (.array (.object "java/lang/Integer")), accessFlags := 8, slot := 3, constantValue := 0 }, { name := "$assertionsDisabled", type := .boolean, accessFlags := 4120, slot := 4, constantValue := 0 }]
  methods := #[k11m0]
  instanceTypes := #[]
  staticTypes := #[.int, .int, (.array (.object "java/lang/Integer")), (.array (.object "java/lang/Integer")), .boolean]
  resolved := Array.replicate 100 none
  statics := some 0 }

def pool12 : Array CpInfo := pool [(1, .methodref 2 3), (0, .class_ 4), (0, .nameAndType 5 6), (0, u "java/lang/Record"), (0, u "<init>"), (0, u "()V"), (0, .fieldref 8 9), (0, .class_ 10), (0, .nameAndType 11 12), (0, u "com/example/stubwright/stubwright/idl/ConstValue$CharValue"), (0, u "value"), (0, u "C"), (4, .class_ 18), (0, u "com/example/stubwright/stubwright/idl/ConstValue"), (0, u "(C)V")] 31

def k12c0 : Code := { maxStack := 2, maxLocals := 2, code := prog_20_method_1_code, exceptionTable := #[], attributes := #[] }
def k12m0 : Method := { name := "<init>", desc := "(C)V", sig := { parameters := [.char], returnType := none }, accessFlags := 1, code := some k12c0 }
/-- com/example/stubwright/stubwright/idl/ConstValue$CharValue -/
def k12 : Class := { plain "com/example/stubwright/stubwright/idl/ConstValue$CharValue" (some 2) with
  accessFlags := 49
  interfaces := #[3]
  cf := some (fileOf pool12 8 #[.nestHost 17] #[{ accessFlags := 1, nameIndex := 5, descriptorIndex := 19, attributes := #[] }] 49 2 #[17] #[{ accessFlags := 18, nameIndex := 11, descriptorIndex := 12, attributes := #[] }])
  fields := #[{ name := "value", type := .char, accessFlags := 18, slot := 0, constantValue := 0 }]
  methods := #[k12m0]
  instanceTypes := #[.char]
  staticTypes := #[]
  resolved := Array.replicate 51 none
  statics := none }

def pool13 : Array CpInfo := pool [(1, u "java/lang/Cloneable"), (0, .class_ 1), (0, u "java/lang/Object"), (0, .class_ 3)] 3

/-- java/lang/Cloneable -/
def k13 : Class := { plain "java/lang/Cloneable" (some 0) with
  accessFlags := 1537
  interfaces := #[]
  cf := some (fileOf pool13 2 #[] #[] 1537 4 #[] #[])
  fields := #[]
  methods := #[]
  instanceTypes := #[]
  staticTypes := #[]
  resolved := Array.replicate 8 none
  statics := none }

/-- the primitive byte -/
def k14 : Class := { plain "byte" none with kind := .primitive 'B', accessFlags := 0x411 }
/-- [B -/
def k15 : Class := { plain "[B" (some 0) with kind := .array 14 .byte, interfaces := #[13, 5], accessFlags := 1041 }

/-- the primitive int -/
def k16 : Class := { plain "int" none with kind := .primitive 'I', accessFlags := 0x411 }
/-- [I -/
def k17 : Class := { plain "[I" (some 0) with kind := .array 16 .int, interfaces := #[13, 5], accessFlags := 1041 }

/-- [Ljava/lang/Integer; -/
def k18 : Class := { plain "[Ljava/lang/Integer;" (some 0) with kind := .array 10 (.object "java/lang/Integer"), interfaces := #[13, 5], accessFlags := 1041 }

def heap : Heap := #[{ cls := 11, slots := #[.int 0, .int 127, .ref 1, .null, .int 0], vm := .statics 11 },
  { cls := 18, slots := #[.ref 2, .ref 3, .ref 4, .ref 5, .ref 6, .ref 7, .ref 8, .ref 9, .ref 10, .ref 11, .ref 12, .ref 13, .ref 14, .ref 15, .ref 16, .ref 17, .ref 18, .ref 19, .ref 20, .ref 21, .ref 22, .ref 23, .ref 24, .ref 25, .ref 26, .ref 27, .ref 28, .ref 29, .ref 30, .ref 31, .ref 32, .ref 33, .ref 34, .ref 35, .ref 36, .ref 37, .ref 38, .ref 39, .ref 40, .ref 41, .ref 42, .ref 43, .ref 44, .ref 45, .ref 46, .ref 47, .ref 48, .ref 49, .ref 50, .ref 51, .ref 52, .ref 53, .ref 54, .ref 55, .ref 56, .ref 57, .ref 58, .ref 59, .ref 60, .ref 61, .ref 62, .ref 63, .ref 64, .ref 65, .ref 66, .ref 67, .ref 68, .ref 69, .ref 70, .ref 71, .ref 72, .ref 73, .ref 74, .ref 75, .ref 76, .ref 77, .ref 78, .ref 79, .ref 80, .ref 81, .ref 82, .ref 83, .ref 84, .ref 85, .ref 86, .ref 87, .ref 88, .ref 89, .ref 90, .ref 91, .ref 92, .ref 93, .ref 94, .ref 95, .ref 96, .ref 97, .ref 98, .ref 99, .ref 100, .ref 101, .ref 102, .ref 103, .ref 104, .ref 105, .ref 106, .ref 107, .ref 108, .ref 109, .ref 110, .ref 111, .ref 112, .ref 113, .ref 114, .ref 115, .ref 116, .ref 117, .ref 118, .ref 119, .ref 120, .ref 121, .ref 122, .ref 123, .ref 124, .ref 125, .ref 126, .ref 127, .ref 128, .ref 129, .ref 130, .ref 131, .ref 132, .ref 133, .ref 134, .ref 135, .ref 136, .ref 137, .ref 138, .ref 139, .ref 140, .ref 141, .ref 142, .ref 143, .ref 144, .ref 145, .ref 146, .ref 147, .ref 148, .ref 149, .ref 150, .ref 151, .ref 152, .ref 153, .ref 154, .ref 155, .ref 156, .ref 157, .ref 158, .ref 159, .ref 160, .ref 161, .ref 162, .ref 163, .ref 164, .ref 165, .ref 166, .ref 167, .ref 168, .ref 169, .ref 170, .ref 171, .ref 172, .ref 173, .ref 174, .ref 175, .ref 176, .ref 177, .ref 178, .ref 179, .ref 180, .ref 181, .ref 182, .ref 183, .ref 184, .ref 185, .ref 186, .ref 187, .ref 188, .ref 189, .ref 190, .ref 191, .ref 192, .ref 193, .ref 194, .ref 195, .ref 196, .ref 197, .ref 198, .ref 199, .ref 200, .ref 201, .ref 202, .ref 203, .ref 204, .ref 205, .ref 206, .ref 207, .ref 208, .ref 209, .ref 210, .ref 211, .ref 212, .ref 213, .ref 214, .ref 215, .ref 216, .ref 217, .ref 218, .ref 219, .ref 220, .ref 221, .ref 222, .ref 223, .ref 224, .ref 225, .ref 226, .ref 227, .ref 228, .ref 229, .ref 230, .ref 231, .ref 232, .ref 233, .ref 234, .ref 235, .ref 236, .ref 237, .ref 238, .ref 239, .ref 240, .ref 241, .ref 242, .ref 243, .ref 244, .ref 245, .ref 246, .ref 247, .ref 248, .ref 249, .ref 250, .ref 251, .ref 252, .ref 253, .ref 254, .ref 255, .ref 256, .ref 257], vm := .none },
  { cls := 10, slots := #[.int (-128)], vm := .none },
  { cls := 10, slots := #[.int (-127)], vm := .none },
  { cls := 10, slots := #[.int (-126)], vm := .none },
  { cls := 10, slots := #[.int (-125)], vm := .none },
  { cls := 10, slots := #[.int (-124)], vm := .none },
  { cls := 10, slots := #[.int (-123)], vm := .none },
  { cls := 10, slots := #[.int (-122)], vm := .none },
  { cls := 10, slots := #[.int (-121)], vm := .none },
  { cls := 10, slots := #[.int (-120)], vm := .none },
  { cls := 10, slots := #[.int (-119)], vm := .none },
  { cls := 10, slots := #[.int (-118)], vm := .none },
  { cls := 10, slots := #[.int (-117)], vm := .none },
  { cls := 10, slots := #[.int (-116)], vm := .none },
  { cls := 10, slots := #[.int (-115)], vm := .none },
  { cls := 10, slots := #[.int (-114)], vm := .none },
  { cls := 10, slots := #[.int (-113)], vm := .none },
  { cls := 10, slots := #[.int (-112)], vm := .none },
  { cls := 10, slots := #[.int (-111)], vm := .none },
  { cls := 10, slots := #[.int (-110)], vm := .none },
  { cls := 10, slots := #[.int (-109)], vm := .none },
  { cls := 10, slots := #[.int (-108)], vm := .none },
  { cls := 10, slots := #[.int (-107)], vm := .none },
  { cls := 10, slots := #[.int (-106)], vm := .none },
  { cls := 10, slots := #[.int (-105)], vm := .none },
  { cls := 10, slots := #[.int (-104)], vm := .none },
  { cls := 10, slots := #[.int (-103)], vm := .none },
  { cls := 10, slots := #[.int (-102)], vm := .none },
  { cls := 10, slots := #[.int (-101)], vm := .none },
  { cls := 10, slots := #[.int (-100)], vm := .none },
  { cls := 10, slots := #[.int (-99)], vm := .none },
  { cls := 10, slots := #[.int (-98)], vm := .none },
  { cls := 10, slots := #[.int (-97)], vm := .none },
  { cls := 10, slots := #[.int (-96)], vm := .none },
  { cls := 10, slots := #[.int (-95)], vm := .none },
  { cls := 10, slots := #[.int (-94)], vm := .none },
  { cls := 10, slots := #[.int (-93)], vm := .none },
  { cls := 10, slots := #[.int (-92)], vm := .none },
  { cls := 10, slots := #[.int (-91)], vm := .none },
  { cls := 10, slots := #[.int (-90)], vm := .none },
  { cls := 10, slots := #[.int (-89)], vm := .none },
  { cls := 10, slots := #[.int (-88)], vm := .none },
  { cls := 10, slots := #[.int (-87)], vm := .none },
  { cls := 10, slots := #[.int (-86)], vm := .none },
  { cls := 10, slots := #[.int (-85)], vm := .none },
  { cls := 10, slots := #[.int (-84)], vm := .none },
  { cls := 10, slots := #[.int (-83)], vm := .none },
  { cls := 10, slots := #[.int (-82)], vm := .none },
  { cls := 10, slots := #[.int (-81)], vm := .none },
  { cls := 10, slots := #[.int (-80)], vm := .none },
  { cls := 10, slots := #[.int (-79)], vm := .none },
  { cls := 10, slots := #[.int (-78)], vm := .none },
  { cls := 10, slots := #[.int (-77)], vm := .none },
  { cls := 10, slots := #[.int (-76)], vm := .none },
  { cls := 10, slots := #[.int (-75)], vm := .none },
  { cls := 10, slots := #[.int (-74)], vm := .none },
  { cls := 10, slots := #[.int (-73)], vm := .none },
  { cls := 10, slots := #[.int (-72)], vm := .none },
  { cls := 10, slots := #[.int (-71)], vm := .none },
  { cls := 10, slots := #[.int (-70)], vm := .none },
  { cls := 10, slots := #[.int (-69)], vm := .none },
  { cls := 10, slots := #[.int (-68)], vm := .none },
  { cls := 10, slots := #[.int (-67)], vm := .none },
  { cls := 10, slots := #[.int (-66)], vm := .none },
  { cls := 10, slots := #[.int (-65)], vm := .none },
  { cls := 10, slots := #[.int (-64)], vm := .none },
  { cls := 10, slots := #[.int (-63)], vm := .none },
  { cls := 10, slots := #[.int (-62)], vm := .none },
  { cls := 10, slots := #[.int (-61)], vm := .none },
  { cls := 10, slots := #[.int (-60)], vm := .none },
  { cls := 10, slots := #[.int (-59)], vm := .none },
  { cls := 10, slots := #[.int (-58)], vm := .none },
  { cls := 10, slots := #[.int (-57)], vm := .none },
  { cls := 10, slots := #[.int (-56)], vm := .none },
  { cls := 10, slots := #[.int (-55)], vm := .none },
  { cls := 10, slots := #[.int (-54)], vm := .none },
  { cls := 10, slots := #[.int (-53)], vm := .none },
  { cls := 10, slots := #[.int (-52)], vm := .none },
  { cls := 10, slots := #[.int (-51)], vm := .none },
  { cls := 10, slots := #[.int (-50)], vm := .none },
  { cls := 10, slots := #[.int (-49)], vm := .none },
  { cls := 10, slots := #[.int (-48)], vm := .none },
  { cls := 10, slots := #[.int (-47)], vm := .none },
  { cls := 10, slots := #[.int (-46)], vm := .none },
  { cls := 10, slots := #[.int (-45)], vm := .none },
  { cls := 10, slots := #[.int (-44)], vm := .none },
  { cls := 10, slots := #[.int (-43)], vm := .none },
  { cls := 10, slots := #[.int (-42)], vm := .none },
  { cls := 10, slots := #[.int (-41)], vm := .none },
  { cls := 10, slots := #[.int (-40)], vm := .none },
  { cls := 10, slots := #[.int (-39)], vm := .none },
  { cls := 10, slots := #[.int (-38)], vm := .none },
  { cls := 10, slots := #[.int (-37)], vm := .none },
  { cls := 10, slots := #[.int (-36)], vm := .none },
  { cls := 10, slots := #[.int (-35)], vm := .none },
  { cls := 10, slots := #[.int (-34)], vm := .none },
  { cls := 10, slots := #[.int (-33)], vm := .none },
  { cls := 10, slots := #[.int (-32)], vm := .none },
  { cls := 10, slots := #[.int (-31)], vm := .none },
  { cls := 10, slots := #[.int (-30)], vm := .none },
  { cls := 10, slots := #[.int (-29)], vm := .none },
  { cls := 10, slots := #[.int (-28)], vm := .none },
  { cls := 10, slots := #[.int (-27)], vm := .none },
  { cls := 10, slots := #[.int (-26)], vm := .none },
  { cls := 10, slots := #[.int (-25)], vm := .none },
  { cls := 10, slots := #[.int (-24)], vm := .none },
  { cls := 10, slots := #[.int (-23)], vm := .none },
  { cls := 10, slots := #[.int (-22)], vm := .none },
  { cls := 10, slots := #[.int (-21)], vm := .none },
  { cls := 10, slots := #[.int (-20)], vm := .none },
  { cls := 10, slots := #[.int (-19)], vm := .none },
  { cls := 10, slots := #[.int (-18)], vm := .none },
  { cls := 10, slots := #[.int (-17)], vm := .none },
  { cls := 10, slots := #[.int (-16)], vm := .none },
  { cls := 10, slots := #[.int (-15)], vm := .none },
  { cls := 10, slots := #[.int (-14)], vm := .none },
  { cls := 10, slots := #[.int (-13)], vm := .none },
  { cls := 10, slots := #[.int (-12)], vm := .none },
  { cls := 10, slots := #[.int (-11)], vm := .none },
  { cls := 10, slots := #[.int (-10)], vm := .none },
  { cls := 10, slots := #[.int (-9)], vm := .none },
  { cls := 10, slots := #[.int (-8)], vm := .none },
  { cls := 10, slots := #[.int (-7)], vm := .none },
  { cls := 10, slots := #[.int (-6)], vm := .none },
  { cls := 10, slots := #[.int (-5)], vm := .none },
  { cls := 10, slots := #[.int (-4)], vm := .none },
  { cls := 10, slots := #[.int (-3)], vm := .none },
  { cls := 10, slots := #[.int (-2)], vm := .none },
  { cls := 10, slots := #[.int (-1)], vm := .none },
  { cls := 10, slots := #[.int 0], vm := .none },
  { cls := 10, slots := #[.int 1], vm := .none },
  { cls := 10, slots := #[.int 2], vm := .none },
  { cls := 10, slots := #[.int 3], vm := .none },
  { cls := 10, slots := #[.int 4], vm := .none },
  { cls := 10, slots := #[.int 5], vm := .none },
  { cls := 10, slots := #[.int 6], vm := .none },
  { cls := 10, slots := #[.int 7], vm := .none },
  { cls := 10, slots := #[.int 8], vm := .none },
  { cls := 10, slots := #[.int 9], vm := .none },
  { cls := 10, slots := #[.int 10], vm := .none },
  { cls := 10, slots := #[.int 11], vm := .none },
  { cls := 10, slots := #[.int 12], vm := .none },
  { cls := 10, slots := #[.int 13], vm := .none },
  { cls := 10, slots := #[.int 14], vm := .none },
  { cls := 10, slots := #[.int 15], vm := .none },
  { cls := 10, slots := #[.int 16], vm := .none },
  { cls := 10, slots := #[.int 17], vm := .none },
  { cls := 10, slots := #[.int 18], vm := .none },
  { cls := 10, slots := #[.int 19], vm := .none },
  { cls := 10, slots := #[.int 20], vm := .none },
  { cls := 10, slots := #[.int 21], vm := .none },
  { cls := 10, slots := #[.int 22], vm := .none },
  { cls := 10, slots := #[.int 23], vm := .none },
  { cls := 10, slots := #[.int 24], vm := .none },
  { cls := 10, slots := #[.int 25], vm := .none },
  { cls := 10, slots := #[.int 26], vm := .none },
  { cls := 10, slots := #[.int 27], vm := .none },
  { cls := 10, slots := #[.int 28], vm := .none },
  { cls := 10, slots := #[.int 29], vm := .none },
  { cls := 10, slots := #[.int 30], vm := .none },
  { cls := 10, slots := #[.int 31], vm := .none },
  { cls := 10, slots := #[.int 32], vm := .none },
  { cls := 10, slots := #[.int 33], vm := .none },
  { cls := 10, slots := #[.int 34], vm := .none },
  { cls := 10, slots := #[.int 35], vm := .none },
  { cls := 10, slots := #[.int 36], vm := .none },
  { cls := 10, slots := #[.int 37], vm := .none },
  { cls := 10, slots := #[.int 38], vm := .none },
  { cls := 10, slots := #[.int 39], vm := .none },
  { cls := 10, slots := #[.int 40], vm := .none },
  { cls := 10, slots := #[.int 41], vm := .none },
  { cls := 10, slots := #[.int 42], vm := .none },
  { cls := 10, slots := #[.int 43], vm := .none },
  { cls := 10, slots := #[.int 44], vm := .none },
  { cls := 10, slots := #[.int 45], vm := .none },
  { cls := 10, slots := #[.int 46], vm := .none },
  { cls := 10, slots := #[.int 47], vm := .none },
  { cls := 10, slots := #[.int 48], vm := .none },
  { cls := 10, slots := #[.int 49], vm := .none },
  { cls := 10, slots := #[.int 50], vm := .none },
  { cls := 10, slots := #[.int 51], vm := .none },
  { cls := 10, slots := #[.int 52], vm := .none },
  { cls := 10, slots := #[.int 53], vm := .none },
  { cls := 10, slots := #[.int 54], vm := .none },
  { cls := 10, slots := #[.int 55], vm := .none },
  { cls := 10, slots := #[.int 56], vm := .none },
  { cls := 10, slots := #[.int 57], vm := .none },
  { cls := 10, slots := #[.int 58], vm := .none },
  { cls := 10, slots := #[.int 59], vm := .none },
  { cls := 10, slots := #[.int 60], vm := .none },
  { cls := 10, slots := #[.int 61], vm := .none },
  { cls := 10, slots := #[.int 62], vm := .none },
  { cls := 10, slots := #[.int 63], vm := .none },
  { cls := 10, slots := #[.int 64], vm := .none },
  { cls := 10, slots := #[.int 65], vm := .none },
  { cls := 10, slots := #[.int 66], vm := .none },
  { cls := 10, slots := #[.int 67], vm := .none },
  { cls := 10, slots := #[.int 68], vm := .none },
  { cls := 10, slots := #[.int 69], vm := .none },
  { cls := 10, slots := #[.int 70], vm := .none },
  { cls := 10, slots := #[.int 71], vm := .none },
  { cls := 10, slots := #[.int 72], vm := .none },
  { cls := 10, slots := #[.int 73], vm := .none },
  { cls := 10, slots := #[.int 74], vm := .none },
  { cls := 10, slots := #[.int 75], vm := .none },
  { cls := 10, slots := #[.int 76], vm := .none },
  { cls := 10, slots := #[.int 77], vm := .none },
  { cls := 10, slots := #[.int 78], vm := .none },
  { cls := 10, slots := #[.int 79], vm := .none },
  { cls := 10, slots := #[.int 80], vm := .none },
  { cls := 10, slots := #[.int 81], vm := .none },
  { cls := 10, slots := #[.int 82], vm := .none },
  { cls := 10, slots := #[.int 83], vm := .none },
  { cls := 10, slots := #[.int 84], vm := .none },
  { cls := 10, slots := #[.int 85], vm := .none },
  { cls := 10, slots := #[.int 86], vm := .none },
  { cls := 10, slots := #[.int 87], vm := .none },
  { cls := 10, slots := #[.int 88], vm := .none },
  { cls := 10, slots := #[.int 89], vm := .none },
  { cls := 10, slots := #[.int 90], vm := .none },
  { cls := 10, slots := #[.int 91], vm := .none },
  { cls := 10, slots := #[.int 92], vm := .none },
  { cls := 10, slots := #[.int 93], vm := .none },
  { cls := 10, slots := #[.int 94], vm := .none },
  { cls := 10, slots := #[.int 95], vm := .none },
  { cls := 10, slots := #[.int 96], vm := .none },
  { cls := 10, slots := #[.int 97], vm := .none },
  { cls := 10, slots := #[.int 98], vm := .none },
  { cls := 10, slots := #[.int 99], vm := .none },
  { cls := 10, slots := #[.int 100], vm := .none },
  { cls := 10, slots := #[.int 101], vm := .none },
  { cls := 10, slots := #[.int 102], vm := .none },
  { cls := 10, slots := #[.int 103], vm := .none },
  { cls := 10, slots := #[.int 104], vm := .none },
  { cls := 10, slots := #[.int 105], vm := .none },
  { cls := 10, slots := #[.int 106], vm := .none },
  { cls := 10, slots := #[.int 107], vm := .none },
  { cls := 10, slots := #[.int 108], vm := .none },
  { cls := 10, slots := #[.int 109], vm := .none },
  { cls := 10, slots := #[.int 110], vm := .none },
  { cls := 10, slots := #[.int 111], vm := .none },
  { cls := 10, slots := #[.int 112], vm := .none },
  { cls := 10, slots := #[.int 113], vm := .none },
  { cls := 10, slots := #[.int 114], vm := .none },
  { cls := 10, slots := #[.int 115], vm := .none },
  { cls := 10, slots := #[.int 116], vm := .none },
  { cls := 10, slots := #[.int 117], vm := .none },
  { cls := 10, slots := #[.int 118], vm := .none },
  { cls := 10, slots := #[.int 119], vm := .none },
  { cls := 10, slots := #[.int 120], vm := .none },
  { cls := 10, slots := #[.int 121], vm := .none },
  { cls := 10, slots := #[.int 122], vm := .none },
  { cls := 10, slots := #[.int 123], vm := .none },
  { cls := 10, slots := #[.int 124], vm := .none },
  { cls := 10, slots := #[.int 125], vm := .none },
  { cls := 10, slots := #[.int 126], vm := .none },
  { cls := 10, slots := #[.int 127], vm := .none }]
def classes : Array Class := #[k0, k1, k2, k3, k4, k5, k6, k7, k8, k9, k10, k11, k12, k13, k14, k15, k16, k17, k18]
def interned : List (Array UInt16 × Addr) := []
def slotsUsed : Nat := 517
def theMethod : MethodId := ⟨1, 1⟩
def args0 : Array Value := #[.int 5, .int 7]
def aboutOver (below : List Frame) : State where
  vm := { classes := classes, interned := interned.toArray }
  heap := heap
  slotsUsed := slotsUsed
  threads := #[{ frames := .invoking theMethod args0 :: below }]
def below0 : List Frame := [.native { method := ⟨0, 0⟩, args := #[] }]
def about1 : State := aboutOver below0
def p0 : Program := .bare "" "" ""
def e0 : Env := launch0.env 0 0 0
theorem w_frames : about1.frames = Frame.invoking theMethod args0 :: below0 := rfl
set_option maxRecDepth 65536 in
theorem w_args : argsFit about1.vm theMethod args0 = true := by decide +kernel
set_option maxRecDepth 65536 in
theorem w_heap : heapFits about1 = true := by decide +kernel
set_option maxRecDepth 65536 in
theorem w_runnable : about1.curStatus? = some .runnable := by decide +kernel
set_option maxRecDepth 65536 in
theorem w_alone : about1.alone = true := by decide +kernel
set_option maxRecDepth 65536 in
theorem w_named : about1.methodNamed? x = some theMethod := by decide +kernel
set_option maxRecDepth 65536 in
theorem w_hears : about1.hears theMethod below0 = true := by decide +kernel
set_option maxRecDepth 65536 in
theorem w_ripe : about1.ripe theMethod args0 below0 = true := by decide +kernel
theorem w_running : about1.status = .running := rfl
set_option maxRecDepth 65536 in
theorem w_room : about1.hasRoom e0.platform room_1 = true :=
  launch0.hasRoom_least _ room_1 (by decide +kernel) (by decide +kernel) (by decide +kernel) (by decide +kernel) (by decide +kernel) (by decide +kernel)
theorem allAtoms_all (ts : List Jvm.Cond) (a : Array Jvm.Value) (st : Jvm.State) : (allAtoms ts).before a st = ts.all (fun c => c.before a st) := by
  induction ts with
  | nil => rfl
  | cons c t ih =>
    show (Jvm.Cond.and c (allAtoms t)).before a st = _
    rw [Jvm.Cond.before_and, ih, List.all_cons]
def words1 : List Jvm.Cond := Jvm.Cond.code x code maxLocals ret :: tables_1
/-- a 'code' word, met by the world's own term for the bytes: nothing is compared byte by byte -/
theorem code_word {y : MethodName} {bytes : ByteArray} {mx : Nat} {rt : Option FieldType} {a : Array Value} {s : State} {m : MethodId} {meth : Method} {c : Code} (h1 : s.methodNamed? y = some m) (h2 : s.vm.method? m = some meth) (h3 : meth.code = some c) (h4 : c.code = bytes)
    (h5 : (c.maxLocals == mx && c.exceptionTable.isEmpty && decide (c.maxStack ≤ mostOperands) && decide (meth.sig.returnType = rt) && !meth.locks && decide (parseMethodDescriptor y.desc = some meth.sig)) = true) : (Jvm.Cond.code y bytes mx rt).before a s = true := by
  simp only [Bool.and_eq_true, beq_iff_eq, Bool.not_eq_true', decide_eq_true_eq] at h5
  obtain ⟨⟨⟨⟨⟨g1, g2⟩, g3⟩, g4⟩, g5⟩, g6⟩ := h5
  simp [Cond.before, Cond.holds, Cond.value, h1, h2, h3, h4, g1, g2, g3, g4, g5, g6]
def isCode : Jvm.Cond → Bool
  | .code _ _ _ _ => true
  | _ => false
theorem all_split {L : List Jvm.Cond} {P : Jvm.Cond → Bool} (h1 : L.all (fun c => isCode c || P c) = true) (h2 : ∀ c ∈ L.filter isCode, P c = true) : L.all P = true := by
  refine List.all_eq_true.mpr fun c hc => ?_
  have h := List.all_eq_true.mp h1 c hc
  rcases Bool.eq_false_or_eq_true (isCode c) with hi | hi
  · exact h2 c (List.mem_filter.mpr ⟨hc, hi⟩)
  · simpa [hi] using h
set_option maxRecDepth 65536 in
theorem w_c0 : (Jvm.Cond.code x code maxLocals ret).before args0 about1 = true := code_word (m := ⟨1, 1⟩) (meth := k1m1) (c := k1c1) (by decide +kernel) rfl rfl rfl (by decide +kernel)
set_option maxRecDepth 65536 in
theorem w_c1 : (Jvm.Cond.code ({ cls := "com/example/stubwright/stubwright/idl/ConstValue$BooleanValue", name := "<init>", desc := "(Z)V" } : Jvm.MethodName) prog_19_method_1_code (2 : Nat) (Option.none : Option Jvm.ClassFile.FieldType)).before args0 about1 = true := code_word (m := ⟨4, 0⟩) (meth := k4m0) (c := k4c0) (by decide +kernel) rfl rfl rfl (by decide +kernel)
set_option maxRecDepth 65536 in
theorem w_c2 : (Jvm.Cond.code ({ cls := "java/lang/Record", name := "<init>", desc := "()V" } : Jvm.MethodName) jdk_30_method_1_code (1 : Nat) (Option.none : Option Jvm.ClassFile.FieldType)).before args0 about1 = true := code_word (m := ⟨2, 0⟩) (meth := k2m0) (c := k2c0) (by decide +kernel) rfl rfl rfl (by decide +kernel)
set_option maxRecDepth 65536 in
theorem w_c3 : (Jvm.Cond.code ({ cls := "java/lang/Object", name := "<init>", desc := "()V" } : Jvm.MethodName) object_method_1_code (1 : Nat) (Option.none : Option Jvm.ClassFile.FieldType)).before args0 about1 = true := code_word (m := ⟨0, 0⟩) (meth := k0m0) (c := k0c0) (by decide +kernel) rfl rfl rfl (by decide +kernel)
set_option maxRecDepth 65536 in
theorem w_c4 : (Jvm.Cond.code ({ cls := "com/example/stubwright/stubwright/idl/ConstValue$BooleanValue", name := "equals", desc := "(Ljava/lang/Object;)Z" } : Jvm.MethodName) prog_19_method_2_code (3 : Nat) (Option.some Jvm.ClassFile.FieldType.boolean)).before args0 about1 = true := code_word (m := ⟨4, 1⟩) (meth := k4m1) (c := k4c1) (by decide +kernel) rfl rfl rfl (by decide +kernel)
set_option maxRecDepth 65536 in
theorem w_c5 : (Jvm.Cond.code ({ cls := "java/lang/Integer", name := "valueOf", desc := "(I)Ljava/lang/Integer;" } : Jvm.MethodName) jdk_33_method_22_code (1 : Nat) (Option.some (Jvm.ClassFile.FieldType.object "java/lang/Integer"))).before args0 about1 = true := code_word (m := ⟨10, 0⟩) (meth := k10m0) (c := k10c0) (by decide +kernel) rfl rfl rfl (by decide +kernel)
set_option maxRecDepth 65536 in
theorem w_c6 : (Jvm.Cond.code ({ cls := "com/example/stubwright/stubwright/idl/ConstValue$CharValue", name := "<init>", desc := "(C)V" } : Jvm.MethodName) prog_20_method_1_code (2 : Nat) (Option.none : Option Jvm.ClassFile.FieldType)).before args0 about1 = true := code_word (m := ⟨12, 0⟩) (meth := k12m0) (c := k12c0) (by decide +kernel) rfl rfl rfl (by decide +kernel)
def codes1 : List Jvm.Cond := [Jvm.Cond.code x code maxLocals ret, Jvm.Cond.code ({ cls := "com/example/stubwright/stubwright/idl/ConstValue$BooleanValue", name := "<init>", desc := "(Z)V" } : Jvm.MethodName) prog_19_method_1_code (2 : Nat) (Option.none : Option Jvm.ClassFile.FieldType), Jvm.Cond.code ({ cls := "java/lang/Record", name := "<init>", desc := "()V" } : Jvm.MethodName) jdk_30_method_1_code (1 : Nat) (Option.none : Option Jvm.ClassFile.FieldType), Jvm.Cond.code ({ cls := "java/lang/Object", name := "<init>", desc := "()V" } : Jvm.MethodName) object_method_1_code (1 : Nat) (Option.none : Option Jvm.ClassFile.FieldType), Jvm.Cond.code ({ cls := "com/example/stubwright/stubwright/idl/ConstValue$BooleanValue", name := "equals", desc := "(Ljava/lang/Object;)Z" } : Jvm.MethodName) prog_19_method_2_code (3 : Nat) (Option.some Jvm.ClassFile.FieldType.boolean), Jvm.Cond.code ({ cls := "java/lang/Integer", name := "valueOf", desc := "(I)Ljava/lang/Integer;" } : Jvm.MethodName) jdk_33_method_22_code (1 : Nat) (Option.some (Jvm.ClassFile.FieldType.object "java/lang/Integer")), Jvm.Cond.code ({ cls := "com/example/stubwright/stubwright/idl/ConstValue$CharValue", name := "<init>", desc := "(C)V" } : Jvm.MethodName) prog_20_method_1_code (2 : Nat) (Option.none : Option Jvm.ClassFile.FieldType)]
set_option maxRecDepth 65536 in
theorem codes_eq : words1.filter isCode = codes1 := rfl
theorem w_codes : ∀ c ∈ words1.filter isCode, c.before args0 about1 = true := by
  rw [codes_eq]
  intro c hc
  simp only [codes1, List.mem_cons, List.not_mem_nil, or_false] at hc
  rcases hc with rfl | rfl | rfl | rfl | rfl | rfl | rfl
  · exact w_c0
  · exact w_c1
  · exact w_c2
  · exact w_c3
  · exact w_c4
  · exact w_c5
  · exact w_c6
set_option maxRecDepth 65536 in
theorem w_t1 : (words1.take 24).all (fun c => isCode c || c.before args0 about1) = true := by decide +kernel
set_option maxRecDepth 65536 in
theorem w_t2 : (words1.drop 24).all (fun c => isCode c || c.before args0 about1) = true := by decide +kernel
theorem w_tables : (allAtoms (Jvm.Cond.code x code maxLocals ret :: tables_1)).before args0 about1 = true := by
  rw [allAtoms_all]
  show words1.all (fun c => c.before args0 about1) = true
  refine all_split ?_ w_codes
  rw [← List.take_append_drop 24 words1, List.all_append, w_t1, w_t2]
  rfl
set_option maxRecDepth 65536 in
theorem w_rest : rest_1_c.before args0 about1 = true := by decide +kernel
set_option maxRecDepth 65536 in
theorem w_case : (Jvm.Cond.and given_1 narrow_1).before args0 about1 = true := by decide +kernel
theorem w_applies : (headSpec (Jvm.Cond.code x code maxLocals ret :: tables_1) room_1).applies x e0.platform about1 = true :=
  (Spec.applies_iff w_frames).mpr ⟨w_running, w_runnable, w_alone, w_named, w_hears, w_ripe, w_room, w_tables⟩
theorem atStart : AtStart classFile x code maxLocals ret World_1 tables_1 room_1 Calls_1 rest_1 Pre_1 launch0 p0 e0 about1 theMethod args0 below0 :=
  ⟨lists_1, trivial, launch0.admits_env _ _ _, launch0.least_env, fairChoices_fair.cas, fairChoices_fair.clock, w_frames, w_args, w_heap, w_applies, trivial, w_rest, w_case⟩
end start1
theorem witness_1 : WitnessClaimed_1 := ⟨start1.p0, start1.e0, start1.about1, start1.theMethod, start1.args0, start1.below0, start1.atStart⟩
end Jvm.Pilot.@@N@@
