import JvmDerived
import JvmDerived.Pilot.@@N@@Statement
import JvmDerived.Pilot.@@N@@Code
set_option linter.unusedVariables false
set_option linter.unusedSimpArgs false
namespace Jvm.Pilot.@@N@@
open Jvm Jvm.ClassFile Sem Op Lib Jvm.Free Jvm.Stand Jvm.LawKit Jvm.RoadKit Bundle Jvm.Pilot.@@N@@.Jvm.D
abbrev Way (p : Program) (e : Env) (below : List Frame) (S0 T : State) (g : JFrame) : Prop := ∀ t, Steps p.tables e below (T.setTop g) t → Steps p.tables e below S0 t
theorem own_old {Z : State} {n0 : Nat} {h : Heap} (O : Old Z n0 h) : n0 ≤ h.size := O.1 ▸ O.2.1
theorem own_eqF {args : Array Value} {s : State} {t : Term} {x : Addr} {C n d : String} {k : Int32} (ht : t.eval args s none [] s = some (.ref x)) (h : (Jvm.Cond.eq (.field t C n d) (.int k)).value args s none s [] = some true) : s.fieldOf? x C n d = some (.int k) :=
  (fld_at ht).symm.trans (Cond.eq_int (Cond.before_iff.mpr h) rfl)
theorem own_mask3 (x : Int32) : (x &&& (3 : Int32)) = (0 : Int32) ∨ (x &&& (3 : Int32)) = (1 : Int32) ∨ (x &&& (3 : Int32)) = (2 : Int32) ∨ (x &&& (3 : Int32)) = (3 : Int32) := by
  have h1 : (x &&& (3 : Int32)).toInt = x.toInt % (2 ^ 2 : Nat) := c_mask x 3 2 (by decide) (by decide)
  have h3 : (x &&& (3 : Int32)).toInt = 0 ∨ (x &&& (3 : Int32)).toInt = 1 ∨ (x &&& (3 : Int32)).toInt = 2 ∨ (x &&& (3 : Int32)).toInt = 3 := by omega
  rcases h3 with h | h | h | h
  · exact Or.inl (Int32.toInt_inj.mp h)
  · exact Or.inr (Or.inl (Int32.toInt_inj.mp h))
  · exact Or.inr (Or.inr (Or.inl (Int32.toInt_inj.mp h)))
  · exact Or.inr (Or.inr (Or.inr ((Int32.toInt_inj.mp h))))
theorem own_root {Z : State} {a0 : Array Value} {O K : String} {n : Nat} (w : (Jvm.Cond.noSuperclass O).before a0 Z = true) (wk : (Jvm.Cond.instantiable K n).before a0 Z = true) (hn : O ≠ K) : NS Z O K := by
  obtain ⟨c, k, a1, a2, a3, -, -⟩ := Cond.noSuperclass_spec w
  obtain ⟨t, kt, b1, -⟩ := Cond.instantiable_spec wk
  refine ⟨c, t, a1, b1, fun f => ?_⟩
  have hne := ids_ne a1 b1 hn
  cases f
  · rfl
  · simp [Vm.isSubclassAux, hne, a2, a3]
theorem own_nosub {Z : State} {a0 : Array Value} {C S K : String} {n : Nat} (w : (Jvm.Cond.superclass C S).before a0 Z = true) (wk : (Jvm.Cond.instantiable K n).before a0 Z = true) (ns : NS Z C K) (hn : C ≠ K) : ∃ c t, Z.vm.findClass C = some c ∧ Z.vm.findClass K = some t ∧ Z.vm.assignable c t = false := by
  obtain ⟨c, t, a1, b1, hs⟩ := ns
  obtain ⟨p, k, kp, -, a2, -, -, a5, -, -⟩ := Cond.superclass_spec a1 w
  obtain ⟨t', kt, b1', b2, b3, b4, -⟩ := Cond.instantiable_spec wk
  cases b1.symm.trans b1'
  have hne := ids_ne a1 b1 hn
  have b4' : kt.isInterface = false := (Bool.or_eq_false_iff.mp b4).1
  refine ⟨c, t, a1, b1, ?_⟩
  show Z.vm.assignableAux (255 + 1) c t = false
  simp [Vm.assignableAux, Vm.isSubclass, hne, a2, b2, a5, b3, b4', hs]
theorem own_cache {args : Array Value} {s : State} {wC : Addr} {C f d : String} (ev : (Term.static C f d).eval args s none [] s = some (.ref wC)) (h4 : (Jvm.Cond.arrayOf (.static C f d) (.object "java/lang/Integer")).value args s none s [] = some true)
    (h6 : (Jvm.Cond.eq (.length (.static C f d)) (.int (256 : Int32))).value args s none s [] = some true) {c2 : Jvm.Cond} (h7 : (Jvm.Cond.all (.static C f d) (.and (.exactly (.elem (.static C f d) (.index 0)) "java/lang/Integer") c2)).value args s none s [] = some true) :
    ∃ cl, Arr s s.heap wC cl (.object "java/lang/Integer") ∧ cl.slots.size = 256 ∧ ∀ j, j < 256 → ∃ y, cl.slots[j]? = some (.ref y) ∧ Exa s s.heap y "java/lang/Integer" := by
  obtain ⟨cl, A⟩ := Arr.start ev h4
  have hat : s.arrayAt? wC = some cl := A.fin (Vm.Alike.refl _)
  have hlen := Cond.eq_int (Cond.before_iff.mpr h6) rfl
  have h31 := SBG.length_lt ev hat hlen
  have hsz : cl.slots.size = 256 := by
    have e := len_f ev hat h31
    have h2 : cl.slots.size.toInt32 = (256 : Int32) := by simpa using Option.some.inj (e.symm.trans hlen)
    have h3 := congrArg Int32.toInt h2
    rw [len_toInt h31] at h3
    have h4 : (256 : Int32).toInt = 256 := by decide
    omega
  refine ⟨cl, A, hsz, fun j hj => ?_⟩
  have hall := (and_e (Cond.all_elim ev hat h7 j (by omega))).1
  obtain ⟨y, ey⟩ := exa_v hall
  have ej := elem_in ey (x := wC) (j := j.toInt32) (by simpa [Term.eval] using ev) (Term.index_eval _) A.1
  have e1 : (Nat.toInt32 j).toNatClampNeg = j := by simp only [Int32.toNatClampNeg, len_toInt (show j < 2 ^ 31 by omega)]; rfl
  exact ⟨y, by rw [← e1]; exact ej.2, exa_at ey hall⟩
theorem own_cidx {x : Int32} (lo : ¬ (x < (-128 : Int32))) (hi : ¬ ((127 : Int32) < x)) : ¬ (x + (128 : Int32) < 0) ∧ (x + (128 : Int32)).toNatClampNeg < 256 := by
  have h1 := c_iadd x (128 : Int32)
  have h2 : (128 : Int32).toInt = 128 := by decide
  have h3 : (-128 : Int32).toInt = -128 := by decide
  have h4 : (127 : Int32).toInt = 127 := by decide
  have h5 : (0 : Int32).toInt = 0 := by decide
  have r1 := rng32 (x + (128 : Int32))
  rw [Int32.lt_iff_toInt_lt] at lo hi
  rw [Int32.lt_iff_toInt_lt, Int32.toNatClampNeg]
  constructor <;> omega
theorem own_i2c (x : Int32) : x.toUInt32.toUInt16.toUInt32.toInt32.toUInt32.toUInt16.toUInt32.toInt32 = x.toUInt32.toUInt16.toUInt32.toInt32 := by
  rw [UInt32.toUInt32_toInt32, UInt16.toUInt16_toUInt32]
theorem own_i2c_lo (x : Int32) : ¬ (x.toUInt32.toUInt16.toUInt32.toInt32 < (-128 : Int32)) := by
  have h := c_i2c x
  have h3 : (-128 : Int32).toInt = -128 := by decide
  rw [Int32.lt_iff_toInt_lt]
  omega
def Gst (Z : State) (wC : Addr) (clC : Cell) : Prop := (Sta Z Z.heap "java/lang/Integer$IntegerCache" "high" "I" (.int (127 : Int32))) ∧ (Sta Z Z.heap "java/lang/Integer$IntegerCache" "cache" "[Ljava/lang/Integer;" (.ref wC)) ∧ (Arr Z Z.heap wC clC (.object "java/lang/Integer")) ∧ (clC.slots.size = 256) ∧ (∀ j, j < 256 → ∃ y, clC.slots[j]? = some (.ref y) ∧ Exa Z Z.heap y "java/lang/Integer")
theorem d_jdk_30_method_1_code_0 : decode jdk_30_method_1_code 0 = .ok (.aload_n 0, 1) := by decide +kernel
theorem d_jdk_30_method_1_code_1 : decode jdk_30_method_1_code 1 = .ok (.invokespecial 1, 3) := by decide +kernel
theorem d_jdk_30_method_1_code_4 : decode jdk_30_method_1_code 4 = .ok (.return_, 1) := by decide +kernel
theorem pn_0 : plainName "java/lang/Record" = true := by first | (simp [plainName, overriddenIn]; done) | decide +kernel
theorem d_prog_19_method_1_code_0 : decode prog_19_method_1_code 0 = .ok (.aload_n 0, 1) := by decide +kernel
theorem d_prog_19_method_1_code_1 : decode prog_19_method_1_code 1 = .ok (.invokespecial 1, 3) := by decide +kernel
theorem pd_0 : parseMethodDescriptor "()V" = some ⟨[], none⟩ := by decide +kernel
theorem d_prog_19_method_1_code_4 : decode prog_19_method_1_code 4 = .ok (.aload_n 0, 1) := by decide +kernel
theorem d_prog_19_method_1_code_5 : decode prog_19_method_1_code 5 = .ok (.iload_n 1, 1) := by decide +kernel
theorem d_prog_19_method_1_code_6 : decode prog_19_method_1_code 6 = .ok (.putfield 7, 3) := by decide +kernel
theorem d_prog_19_method_1_code_9 : decode prog_19_method_1_code 9 = .ok (.return_, 1) := by decide +kernel
theorem pn_1 : plainName "com/example/stubwright/stubwright/idl/ConstValue$BooleanValue" = true := by first | (simp [plainName, overriddenIn]; done) | decide +kernel
theorem d_prog_20_method_1_code_0 : decode prog_20_method_1_code 0 = .ok (.aload_n 0, 1) := by decide +kernel
theorem d_prog_20_method_1_code_1 : decode prog_20_method_1_code 1 = .ok (.invokespecial 1, 3) := by decide +kernel
theorem d_prog_20_method_1_code_4 : decode prog_20_method_1_code 4 = .ok (.aload_n 0, 1) := by decide +kernel
theorem d_prog_20_method_1_code_5 : decode prog_20_method_1_code 5 = .ok (.iload_n 1, 1) := by decide +kernel
theorem d_prog_20_method_1_code_6 : decode prog_20_method_1_code 6 = .ok (.putfield 7, 3) := by decide +kernel
theorem d_prog_20_method_1_code_9 : decode prog_20_method_1_code 9 = .ok (.return_, 1) := by decide +kernel
theorem pn_2 : plainName "com/example/stubwright/stubwright/idl/ConstValue$CharValue" = true := by first | (simp [plainName, overriddenIn]; done) | decide +kernel
theorem d_jdk_33_method_22_code_0 : decode jdk_33_method_22_code 0 = .ok (.iload_n 0, 1) := by decide +kernel
theorem d_jdk_33_method_22_code_1 : decode jdk_33_method_22_code 1 = .ok (.bipush (-128), 2) := by decide +kernel
theorem d_jdk_33_method_22_code_3 : decode jdk_33_method_22_code 3 = .ok (.if_icmp .lt 20, 3) := by decide +kernel
theorem d_jdk_33_method_22_code_6 : decode jdk_33_method_22_code 6 = .ok (.iload_n 0, 1) := by decide +kernel
theorem d_jdk_33_method_22_code_7 : decode jdk_33_method_22_code 7 = .ok (.getstatic 191, 3) := by decide +kernel
theorem d_jdk_33_method_22_code_10 : decode jdk_33_method_22_code 10 = .ok (.if_icmp .gt 13, 3) := by decide +kernel
theorem d_jdk_33_method_22_code_13 : decode jdk_33_method_22_code 13 = .ok (.getstatic 195, 3) := by decide +kernel
theorem d_jdk_33_method_22_code_16 : decode jdk_33_method_22_code 16 = .ok (.iload_n 0, 1) := by decide +kernel
theorem d_jdk_33_method_22_code_17 : decode jdk_33_method_22_code 17 = .ok (.sipush 128, 3) := by decide +kernel
theorem d_jdk_33_method_22_code_20 : decode jdk_33_method_22_code 20 = .ok (.iadd, 1) := by decide +kernel
theorem d_jdk_33_method_22_code_21 : decode jdk_33_method_22_code 21 = .ok (.aaload, 1) := by decide +kernel
theorem d_jdk_33_method_22_code_22 : decode jdk_33_method_22_code 22 = .ok (.areturn, 1) := by decide +kernel
theorem pn_3 : plainName "java/lang/Integer" = true := by first | (simp [plainName, overriddenIn]; done) | decide +kernel
theorem d_jdk_18_method_1_code_0 : decode jdk_18_method_1_code 0 = .ok (.aload_n 0, 1) := by decide +kernel
theorem d_jdk_18_method_1_code_1 : decode jdk_18_method_1_code 1 = .ok (.invokespecial 1, 3) := by decide +kernel
theorem d_jdk_18_method_1_code_4 : decode jdk_18_method_1_code 4 = .ok (.return_, 1) := by decide +kernel
theorem pn_4 : plainName "java/lang/Number" = true := by first | (simp [plainName, overriddenIn]; done) | decide +kernel
theorem d_jdk_33_method_23_code_0 : decode jdk_33_method_23_code 0 = .ok (.aload_n 0, 1) := by decide +kernel
theorem d_jdk_33_method_23_code_1 : decode jdk_33_method_23_code 1 = .ok (.invokespecial 202, 3) := by decide +kernel
theorem d_jdk_33_method_23_code_4 : decode jdk_33_method_23_code 4 = .ok (.aload_n 0, 1) := by decide +kernel
theorem d_jdk_33_method_23_code_5 : decode jdk_33_method_23_code 5 = .ok (.iload_n 1, 1) := by decide +kernel
theorem d_jdk_33_method_23_code_6 : decode jdk_33_method_23_code 6 = .ok (.putfield 205, 3) := by decide +kernel
theorem d_jdk_33_method_23_code_9 : decode jdk_33_method_23_code 9 = .ok (.return_, 1) := by decide +kernel
theorem d_jdk_33_method_22_code_23 : decode jdk_33_method_22_code 23 = .ok (.new 1, 3) := by decide +kernel
theorem d_jdk_33_method_22_code_26 : decode jdk_33_method_22_code 26 = .ok (.dup, 1) := by decide +kernel
theorem d_jdk_33_method_22_code_27 : decode jdk_33_method_22_code 27 = .ok (.iload_n 0, 1) := by decide +kernel
theorem d_jdk_33_method_22_code_28 : decode jdk_33_method_22_code 28 = .ok (.invokespecial 199, 3) := by decide +kernel
theorem pd_1 : parseMethodDescriptor "(I)V" = some ⟨[.int], none⟩ := by decide +kernel
theorem d_jdk_33_method_22_code_31 : decode jdk_33_method_22_code 31 = .ok (.areturn, 1) := by decide +kernel
theorem d_prog_20_method_2_code_0 : decode prog_20_method_2_code 0 = .ok (.aload_n 1, 1) := by decide +kernel
theorem d_prog_20_method_2_code_1 : decode prog_20_method_2_code 1 = .ok (.instanceof 8, 3) := by decide +kernel
theorem d_prog_20_method_2_code_4 : decode prog_20_method_2_code 4 = .ok (.ifCond .eq 23, 3) := by decide +kernel
theorem d_prog_20_method_2_code_7 : decode prog_20_method_2_code 7 = .ok (.aload_n 1, 1) := by decide +kernel
theorem d_prog_20_method_2_code_8 : decode prog_20_method_2_code 8 = .ok (.checkcast 8, 3) := by decide +kernel
theorem d_prog_20_method_2_code_11 : decode prog_20_method_2_code 11 = .ok (.astore_n 2, 1) := by decide +kernel
theorem d_prog_20_method_2_code_12 : decode prog_20_method_2_code 12 = .ok (.aload_n 0, 1) := by decide +kernel
theorem d_prog_20_method_2_code_13 : decode prog_20_method_2_code 13 = .ok (.getfield 7, 3) := by decide +kernel
theorem d_prog_20_method_2_code_16 : decode prog_20_method_2_code 16 = .ok (.aload_n 2, 1) := by decide +kernel
theorem d_prog_20_method_2_code_17 : decode prog_20_method_2_code 17 = .ok (.getfield 7, 3) := by decide +kernel
theorem d_prog_20_method_2_code_20 : decode prog_20_method_2_code 20 = .ok (.if_icmp .ne 7, 3) := by decide +kernel
theorem d_prog_20_method_2_code_23 : decode prog_20_method_2_code 23 = .ok (.iconst 1, 1) := by decide +kernel
theorem d_prog_20_method_2_code_24 : decode prog_20_method_2_code 24 = .ok (.goto 4, 3) := by decide +kernel
theorem d_prog_20_method_2_code_28 : decode prog_20_method_2_code 28 = .ok (.ireturn, 1) := by decide +kernel
theorem d_prog_20_method_2_code_27 : decode prog_20_method_2_code 27 = .ok (.iconst 0, 1) := by decide +kernel
theorem pd_2 : parseMethodDescriptor "(C)V" = some ⟨[.char], none⟩ := by decide +kernel
theorem pd_3 : parseMethodDescriptor "(Ljava/lang/Object;)Z" = some ⟨[(.object "java/lang/Object")], some .boolean⟩ := by decide +kernel
theorem pd_4 : parseMethodDescriptor "(I)Ljava/lang/Integer;" = some ⟨[.int], some (.object "java/lang/Integer")⟩ := by decide +kernel
theorem pd_5 : parseMethodDescriptor "(Z)V" = some ⟨[.boolean], none⟩ := by decide +kernel
theorem pn_5 : plainName "com/example/stubwright/stubwright/idl/CharValueEqualsPinLaw" = true := by first | (simp [plainName, overriddenIn]; done) | decide +kernel
def Q_recInit (Z : State) (wC : Addr) (clC : Cell) (a1 : Addr) (h0 : Heap) (n0 : Nat) (v : Option Value) (h : Heap) (L : List Loc) : Prop := (v = none) ∧ (Fr n0 L) ∧ (h = h0)
set_option maxRecDepth 65536 in
set_option maxHeartbeats 40000000 in
theorem recInit (l : Launch) (Z : State) (a0 : Array Value) (hw : ∀ d ∈ tables_1, d.before a0 Z = true) (ws : List Jvm.Cond) (wC : Addr) (clC : Cell) (G : Gst Z wC clC) (a1 : Addr) (h0 : Heap) (n0 : Nat) (O0 : Old Z n0 h0) :
    MetFree l (⟨"java/lang/Record", "<init>", "()V"⟩ : MethodName) (head1 (Jvm.Cond.code (⟨"java/lang/Record", "<init>", "()V"⟩ : MethodName) jdk_30_method_1_code 1 none :: ws) ({ frames := 1, cells := 0, slots := 0, locals := 12 } : Room)) (fun a U => a = #[(.ref a1)] ∧ Z.Warmed39 U.vm ∧ U.heap = h0) (fun _ _ _ _ _ => True) (fun _ U o U' => ∃ v L, o = .returned v ∧ Q_recInit Z wC clC a1 h0 n0 v U'.heap L ∧ FrameEnd U o U' L ({ frames := 1, cells := 0, slots := 0, locals := 12 } : Room).cells ({ frames := 1, cells := 0, slots := 0, locals := 12 } : Room).slots) := by
  refine MetFree.of_bodySF (plainFor_of_name pn_0) hisR ?_
  intro p e s m args below meth c s₁ Bd hml0 hP hK
  obtain ⟨rfl, hZ, hh⟩ := hP
  have hx := Bd.exec
  have hby := Bd.bytes
  have hml : c.maxLocals = 1 := hml0
  have hown : s.vm.findClass "java/lang/Record" = some m.cls := findClass_of_methodNamed Bd.named
  have hnm := (name_of_methodNamed Bd.named Bd.method).1
  have X0 : Stand p l e ({ frames := 1, cells := 0, slots := 0, locals := 12 } : Room) s m #[(.ref a1)] below meth c s₁ [] 0 0 := Stand.of_body Bd
  have e0 : s₁.heap = h0 := by rw [← hh, Bd.state]; rfl
  have N0 := Fr.nil n0
  obtain ⟨S_high, S_cache, A_C, z_C, e_C⟩ := id G
  have k0 : Way p e below (s₁.setTop (entryFrame m #[(.ref a1)] 1)) s₁ (mkF m 0 #[rv a1] []) := fun t k => castTop (by first | (simp [entryFrame, mkF, argsToLocals, Value.category]; done) | rfl) k
  generalize s₁.setTop (entryFrame m #[(.ref a1)] 1) = S0 at k0 ⊢
  have k1 : Way p e below S0 s₁ (mkF m 1 #[rv a1] [(.ref a1)]) := by
    intro t k
    refine k0 t ?_
    refine XS.aloadN X0.here hx rfl (hb hby d_jdk_30_method_1_code_0) rfl rfl ?_
    show Steps p.tables e below (s₁.setTop (mkF m 1 #[rv a1] [(.ref a1)])) _
    exact k
  obtain ⟨T2, X2, e2, st2⟩ := initO X0 hx hZ hown (hw _ (List.mem_of_getElem? (i := 12) rfl)) (hw _ (List.mem_of_getElem? (i := 13) rfl)) (hw _ (List.mem_of_getElem? (i := 14) rfl)) e0 (g := (mkF m 1 #[rv a1] [(.ref a1)])) rfl (by rw [hml]; rfl) rfl (hb hby d_jdk_30_method_1_code_1) (by decide) (W := 0) (by show 2 * 0 + _ ≤ _; exact Nat.le_of_eq rfl) (by decide)
  have k3 : Way p e below S0 T2 (mkF m 4 #[rv a1] []) := fun t k => k1 t (st2 _ k)
  obtain ⟨fs, hr, hrun, hended, hW, hsame⟩ := X2.leave (v := none) (fun _ => rfl)
  refine ⟨_, _, k3 _ (X2.returnOut hx Bd.returns (hb hby d_jdk_30_method_1_code_4) hr), hrun, hended, _, _, rfl, ?_, ⟨_, rfl⟩, hW, hsame.mono (by decide) (by decide)⟩
  show Q_recInit Z wC clC a1 h0 n0 _ T2.heap _
  rw [e2]
  exact ⟨rfl, N0, rfl⟩
def Q_bvInit0 (Z : State) (wC : Addr) (clC : Cell) (a1 : Addr) (h0 : Heap) (n0 : Nat) (v : Option Value) (h : Heap) (L : List Loc) : Prop := (v = none) ∧ (Fr n0 L) ∧ (Keep h0 h [a1]) ∧ (Exa Z h a1 "com/example/stubwright/stubwright/idl/ConstValue$BooleanValue") ∧ (Fld Z h a1 "com/example/stubwright/stubwright/idl/ConstValue$BooleanValue" "value" "Z" (.int (0 : Int32)))
set_option maxRecDepth 65536 in
set_option maxHeartbeats 40000000 in
theorem bvInit0 (l : Launch) (Z : State) (a0 : Array Value) (hw : ∀ d ∈ tables_1, d.before a0 Z = true) (ws : List Jvm.Cond) (wC : Addr) (clC : Cell) (G : Gst Z wC clC) (a1 : Addr) (h0 : Heap) (n0 : Nat) (O0 : Old Z n0 h0) (a_0 : Exa Z h0 a1 "com/example/stubwright/stubwright/idl/ConstValue$BooleanValue") (a_1 : Fld Z h0 a1 "com/example/stubwright/stubwright/idl/ConstValue$BooleanValue" "value" "Z" (.int (0 : Int32))) (ga1 : n0 ≤ a1) :
    MetFree l (⟨"com/example/stubwright/stubwright/idl/ConstValue$BooleanValue", "<init>", "(Z)V"⟩ : MethodName) (head1 (Jvm.Cond.code (⟨"com/example/stubwright/stubwright/idl/ConstValue$BooleanValue", "<init>", "(Z)V"⟩ : MethodName) prog_19_method_1_code 2 none :: ws) ({ frames := 2, cells := 0, slots := 0, locals := 24 } : Room)) (fun a U => a = #[(.ref a1), (.int (0 : Int32))] ∧ Z.Warmed39 U.vm ∧ U.heap = h0) (fun _ _ _ _ _ => True) (fun _ U o U' => ∃ v L, o = .returned v ∧ Q_bvInit0 Z wC clC a1 h0 n0 v U'.heap L ∧ FrameEnd U o U' L ({ frames := 2, cells := 0, slots := 0, locals := 24 } : Room).cells ({ frames := 2, cells := 0, slots := 0, locals := 24 } : Room).slots) := by
  refine MetFree.of_bodySF (plainFor_of_name pn_1) hisR ?_
  intro p e s m args below meth c s₁ Bd hml0 hP hK
  obtain ⟨rfl, hZ, hh⟩ := hP
  have hx := Bd.exec
  have hby := Bd.bytes
  have hml : c.maxLocals = 2 := hml0
  have hown : s.vm.findClass "com/example/stubwright/stubwright/idl/ConstValue$BooleanValue" = some m.cls := findClass_of_methodNamed Bd.named
  have hnm := (name_of_methodNamed Bd.named Bd.method).1
  have X0 : Stand p l e ({ frames := 2, cells := 0, slots := 0, locals := 24 } : Room) s m #[(.ref a1), (.int (0 : Int32))] below meth c s₁ [] 0 0 := Stand.of_body Bd
  have e0 : s₁.heap = h0 := by rw [← hh, Bd.state]; rfl
  have N0 := Fr.nil n0
  obtain ⟨S_high, S_cache, A_C, z_C, e_C⟩ := id G
  have k0 : Way p e below (s₁.setTop (entryFrame m #[(.ref a1), (.int (0 : Int32))] 2)) s₁ (mkF m 0 #[rv a1, iv (0 : Int32)] []) := fun t k => castTop (by first | (simp [entryFrame, mkF, argsToLocals, Value.category]; done) | rfl) k
  generalize s₁.setTop (entryFrame m #[(.ref a1), (.int (0 : Int32))] 2) = S0 at k0 ⊢
  have k1 : Way p e below S0 s₁ (mkF m 1 #[rv a1, iv (0 : Int32)] [(.ref a1)]) := by
    intro t k
    refine k0 t ?_
    refine XS.aloadN X0.here hx rfl (hb hby d_prog_19_method_1_code_0) rfl rfl ?_
    show Steps p.tables e below (s₁.setTop (mkF m 1 #[rv a1, iv (0 : Int32)] [(.ref a1)])) _
    exact k
  obtain ⟨_, _, ⟨T2, L2, kk2, nn2⟩, -, X2, ⟨Lc2, hQ2, l2, y2, z2⟩, st2⟩ := X0.specialBack hx (y := (⟨"java/lang/Record", "<init>", "()V"⟩ : MethodName)) rfl hown (mvT hZ (hw _ (List.mem_of_getElem? (i := 40) rfl))) (mvT hZ (hw _ (List.mem_of_getElem? (i := 8) rfl))) (mvT hZ (hw _ (List.mem_of_getElem? (i := 11) rfl))) (by decide) (backOf (W := 0) (recInit l Z a0 hw [] wC clC G a1 h0 n0 O0 ) hZ (hw _ (List.mem_of_getElem? (i := 11) rfl)) (hw _ (List.mem_of_getElem? (i := 10) rfl)) (by decide) (by decide)) (g := (mkF m 1 #[rv a1, iv (0 : Int32)] [(.ref a1)])) rfl (by rw [hml]; rfl) (Steps.refl _) (a := a1) (argsL := []) (rest := []) (lenOf pd_0 rfl) rfl (by show 2 * 0 + _ ≤ _; exact Nat.le_of_eq rfl) (hb hby d_prog_19_method_1_code_1) (fun _ _ => ⟨rfl, e0, (by decide : 0 + 0 ≤ _), (by decide : 0 + 0 ≤ _)⟩)
  dsimp only [Pt.U, Pt.locs, Pt.cells, Pt.slots] at X2 l2 y2 z2 st2 hQ2
  subst l2 y2 z2
  obtain ⟨rfl, Nq2, e2⟩ := hQ2
  have N2 := Fr.app N0 Nq2
  have k3 : Way p e below S0 T2 (mkF m 4 #[rv a1, iv (0 : Int32)] []) := fun t k => k1 t (st2.trans k)
  have k4 : Way p e below S0 T2 (mkF m 6 #[rv a1, iv (0 : Int32)] [(.int (0 : Int32)), (.ref a1)]) := by
    intro t k
    refine k3 t ?_
    refine XS.aloadN X2.here hx rfl (hb hby d_prog_19_method_1_code_4) rfl rfl ?_
    show Steps p.tables e below (T2.setTop (mkF m 5 #[rv a1, iv (0 : Int32)] [(.ref a1)])) _
    refine XS.iloadN X2.here hx rfl (hb hby d_prog_19_method_1_code_5) rfl ?_
    show Steps p.tables e below (T2.setTop (mkF m 6 #[rv a1, iv (0 : Int32)] [(.int (0 : Int32)), (.ref a1)])) _
    exact k
  obtain ⟨T5, h5, X5, e5, W5, st5⟩ := putFN X2 hx hZ hown (hw _ (List.mem_of_getElem? (i := 41) rfl)) Via.refl e2 a_1 a_0 (Or.inr ⟨(hw _ (List.mem_of_getElem? (i := 42) rfl)), rfl, hnm⟩) (hw _ (List.mem_of_getElem? (i := 35) rfl)) (ty := .boolean) (v' := (.int (0 : Int32))) (by decide) rfl rfl (g := (mkF m 6 #[rv a1, iv (0 : Int32)] [(.int (0 : Int32)), (.ref a1)])) rfl rfl (hb hby d_prog_19_method_1_code_6)
  have O5 := O0.wr W5 ga1
  have N5 := Fr.snoc X5 N2 ga1
  have K5 : Keep h0 h5 [a1] := (Keep.refl h0 [a1]).wr W5 (Or.inl (List.mem_of_getElem? (i := 0) rfl))
  have fw5 : Fld Z h5 a1 "com/example/stubwright/stubwright/idl/ConstValue$BooleanValue" "value" "Z" (.int (0 : Int32)) := a_1.same W5
  have k6 : Way p e below S0 T5 (mkF m 9 #[rv a1, iv (0 : Int32)] []) := fun t k => k4 t (st5 _ k)
  obtain ⟨fs, hr, hrun, hended, hW, hsame⟩ := X5.leave (v := none) (fun _ => rfl)
  have f7 : Exa Z h5 a1 "com/example/stubwright/stubwright/idl/ConstValue$BooleanValue" := (a_0.wr W5)
  refine ⟨_, _, k6 _ (X5.returnOut hx Bd.returns (hb hby d_prog_19_method_1_code_9) hr), hrun, hended, _, _, rfl, ?_, ⟨_, rfl⟩, hW, hsame.mono (by decide) (by decide)⟩
  show Q_bvInit0 Z wC clC a1 h0 n0 _ T5.heap _
  rw [e5]
  exact ⟨rfl, N5, K5, f7, fw5⟩
def Q_bvInit1 (Z : State) (wC : Addr) (clC : Cell) (a1 : Addr) (h0 : Heap) (n0 : Nat) (v : Option Value) (h : Heap) (L : List Loc) : Prop := (v = none) ∧ (Fr n0 L) ∧ (Keep h0 h [a1]) ∧ (Exa Z h a1 "com/example/stubwright/stubwright/idl/ConstValue$BooleanValue") ∧ (Fld Z h a1 "com/example/stubwright/stubwright/idl/ConstValue$BooleanValue" "value" "Z" (.int (1 : Int32)))
set_option maxRecDepth 65536 in
set_option maxHeartbeats 40000000 in
theorem bvInit1 (l : Launch) (Z : State) (a0 : Array Value) (hw : ∀ d ∈ tables_1, d.before a0 Z = true) (ws : List Jvm.Cond) (wC : Addr) (clC : Cell) (G : Gst Z wC clC) (a1 : Addr) (h0 : Heap) (n0 : Nat) (O0 : Old Z n0 h0) (a_0 : Exa Z h0 a1 "com/example/stubwright/stubwright/idl/ConstValue$BooleanValue") (a_1 : Fld Z h0 a1 "com/example/stubwright/stubwright/idl/ConstValue$BooleanValue" "value" "Z" (.int (0 : Int32))) (ga1 : n0 ≤ a1) :
    MetFree l (⟨"com/example/stubwright/stubwright/idl/ConstValue$BooleanValue", "<init>", "(Z)V"⟩ : MethodName) (head1 (Jvm.Cond.code (⟨"com/example/stubwright/stubwright/idl/ConstValue$BooleanValue", "<init>", "(Z)V"⟩ : MethodName) prog_19_method_1_code 2 none :: ws) ({ frames := 2, cells := 0, slots := 0, locals := 24 } : Room)) (fun a U => a = #[(.ref a1), (.int (1 : Int32))] ∧ Z.Warmed39 U.vm ∧ U.heap = h0) (fun _ _ _ _ _ => True) (fun _ U o U' => ∃ v L, o = .returned v ∧ Q_bvInit1 Z wC clC a1 h0 n0 v U'.heap L ∧ FrameEnd U o U' L ({ frames := 2, cells := 0, slots := 0, locals := 24 } : Room).cells ({ frames := 2, cells := 0, slots := 0, locals := 24 } : Room).slots) := by
  refine MetFree.of_bodySF (plainFor_of_name pn_1) hisR ?_
  intro p e s m args below meth c s₁ Bd hml0 hP hK
  obtain ⟨rfl, hZ, hh⟩ := hP
  have hx := Bd.exec
  have hby := Bd.bytes
  have hml : c.maxLocals = 2 := hml0
  have hown : s.vm.findClass "com/example/stubwright/stubwright/idl/ConstValue$BooleanValue" = some m.cls := findClass_of_methodNamed Bd.named
  have hnm := (name_of_methodNamed Bd.named Bd.method).1
  have X0 : Stand p l e ({ frames := 2, cells := 0, slots := 0, locals := 24 } : Room) s m #[(.ref a1), (.int (1 : Int32))] below meth c s₁ [] 0 0 := Stand.of_body Bd
  have e0 : s₁.heap = h0 := by rw [← hh, Bd.state]; rfl
  have N0 := Fr.nil n0
  obtain ⟨S_high, S_cache, A_C, z_C, e_C⟩ := id G
  have k0 : Way p e below (s₁.setTop (entryFrame m #[(.ref a1), (.int (1 : Int32))] 2)) s₁ (mkF m 0 #[rv a1, iv (1 : Int32)] []) := fun t k => castTop (by first | (simp [entryFrame, mkF, argsToLocals, Value.category]; done) | rfl) k
  generalize s₁.setTop (entryFrame m #[(.ref a1), (.int (1 : Int32))] 2) = S0 at k0 ⊢
  have k1 : Way p e below S0 s₁ (mkF m 1 #[rv a1, iv (1 : Int32)] [(.ref a1)]) := by
    intro t k
    refine k0 t ?_
    refine XS.aloadN X0.here hx rfl (hb hby d_prog_19_method_1_code_0) rfl rfl ?_
    show Steps p.tables e below (s₁.setTop (mkF m 1 #[rv a1, iv (1 : Int32)] [(.ref a1)])) _
    exact k
  obtain ⟨_, _, ⟨T2, L2, kk2, nn2⟩, -, X2, ⟨Lc2, hQ2, l2, y2, z2⟩, st2⟩ := X0.specialBack hx (y := (⟨"java/lang/Record", "<init>", "()V"⟩ : MethodName)) rfl hown (mvT hZ (hw _ (List.mem_of_getElem? (i := 40) rfl))) (mvT hZ (hw _ (List.mem_of_getElem? (i := 8) rfl))) (mvT hZ (hw _ (List.mem_of_getElem? (i := 11) rfl))) (by decide) (backOf (W := 0) (recInit l Z a0 hw [] wC clC G a1 h0 n0 O0 ) hZ (hw _ (List.mem_of_getElem? (i := 11) rfl)) (hw _ (List.mem_of_getElem? (i := 10) rfl)) (by decide) (by decide)) (g := (mkF m 1 #[rv a1, iv (1 : Int32)] [(.ref a1)])) rfl (by rw [hml]; rfl) (Steps.refl _) (a := a1) (argsL := []) (rest := []) (lenOf pd_0 rfl) rfl (by show 2 * 0 + _ ≤ _; exact Nat.le_of_eq rfl) (hb hby d_prog_19_method_1_code_1) (fun _ _ => ⟨rfl, e0, (by decide : 0 + 0 ≤ _), (by decide : 0 + 0 ≤ _)⟩)
  dsimp only [Pt.U, Pt.locs, Pt.cells, Pt.slots] at X2 l2 y2 z2 st2 hQ2
  subst l2 y2 z2
  obtain ⟨rfl, Nq2, e2⟩ := hQ2
  have N2 := Fr.app N0 Nq2
  have k3 : Way p e below S0 T2 (mkF m 4 #[rv a1, iv (1 : Int32)] []) := fun t k => k1 t (st2.trans k)
  have k4 : Way p e below S0 T2 (mkF m 6 #[rv a1, iv (1 : Int32)] [(.int (1 : Int32)), (.ref a1)]) := by
    intro t k
    refine k3 t ?_
    refine XS.aloadN X2.here hx rfl (hb hby d_prog_19_method_1_code_4) rfl rfl ?_
    show Steps p.tables e below (T2.setTop (mkF m 5 #[rv a1, iv (1 : Int32)] [(.ref a1)])) _
    refine XS.iloadN X2.here hx rfl (hb hby d_prog_19_method_1_code_5) rfl ?_
    show Steps p.tables e below (T2.setTop (mkF m 6 #[rv a1, iv (1 : Int32)] [(.int (1 : Int32)), (.ref a1)])) _
    exact k
  obtain ⟨T5, h5, X5, e5, W5, st5⟩ := putFN X2 hx hZ hown (hw _ (List.mem_of_getElem? (i := 41) rfl)) Via.refl e2 a_1 a_0 (Or.inr ⟨(hw _ (List.mem_of_getElem? (i := 42) rfl)), rfl, hnm⟩) (hw _ (List.mem_of_getElem? (i := 35) rfl)) (ty := .boolean) (v' := (.int (1 : Int32))) (by decide) rfl rfl (g := (mkF m 6 #[rv a1, iv (1 : Int32)] [(.int (1 : Int32)), (.ref a1)])) rfl rfl (hb hby d_prog_19_method_1_code_6)
  have O5 := O0.wr W5 ga1
  have N5 := Fr.snoc X5 N2 ga1
  have K5 : Keep h0 h5 [a1] := (Keep.refl h0 [a1]).wr W5 (Or.inl (List.mem_of_getElem? (i := 0) rfl))
  have fw5 : Fld Z h5 a1 "com/example/stubwright/stubwright/idl/ConstValue$BooleanValue" "value" "Z" (.int (1 : Int32)) := a_1.same W5
  have k6 : Way p e below S0 T5 (mkF m 9 #[rv a1, iv (1 : Int32)] []) := fun t k => k4 t (st5 _ k)
  obtain ⟨fs, hr, hrun, hended, hW, hsame⟩ := X5.leave (v := none) (fun _ => rfl)
  have f7 : Exa Z h5 a1 "com/example/stubwright/stubwright/idl/ConstValue$BooleanValue" := (a_0.wr W5)
  refine ⟨_, _, k6 _ (X5.returnOut hx Bd.returns (hb hby d_prog_19_method_1_code_9) hr), hrun, hended, _, _, rfl, ?_, ⟨_, rfl⟩, hW, hsame.mono (by decide) (by decide)⟩
  show Q_bvInit1 Z wC clC a1 h0 n0 _ T5.heap _
  rw [e5]
  exact ⟨rfl, N5, K5, f7, fw5⟩
def Q_cvInit (Z : State) (wC : Addr) (clC : Cell) (a1 : Addr) (p2 : Int32) (h0 : Heap) (n0 : Nat) (v : Option Value) (h : Heap) (L : List Loc) : Prop := (v = none) ∧ (Fr n0 L) ∧ (Keep h0 h [a1]) ∧ (Exa Z h a1 "com/example/stubwright/stubwright/idl/ConstValue$CharValue") ∧ (Fld Z h a1 "com/example/stubwright/stubwright/idl/ConstValue$CharValue" "value" "C" (.int p2))
set_option maxRecDepth 65536 in
set_option maxHeartbeats 40000000 in
theorem cvInit (l : Launch) (Z : State) (a0 : Array Value) (hw : ∀ d ∈ tables_1, d.before a0 Z = true) (ws : List Jvm.Cond) (wC : Addr) (clC : Cell) (G : Gst Z wC clC) (a1 : Addr) (p2 : Int32) (h0 : Heap) (n0 : Nat) (O0 : Old Z n0 h0) (a_0 : Exa Z h0 a1 "com/example/stubwright/stubwright/idl/ConstValue$CharValue") (a_1 : Fld Z h0 a1 "com/example/stubwright/stubwright/idl/ConstValue$CharValue" "value" "C" (.int (0 : Int32))) (ga1 : n0 ≤ a1) (hnar : p2.toUInt32.toUInt16.toUInt32.toInt32 = p2) :
    MetFree l (⟨"com/example/stubwright/stubwright/idl/ConstValue$CharValue", "<init>", "(C)V"⟩ : MethodName) (head1 (Jvm.Cond.code (⟨"com/example/stubwright/stubwright/idl/ConstValue$CharValue", "<init>", "(C)V"⟩ : MethodName) prog_20_method_1_code 2 none :: ws) ({ frames := 2, cells := 0, slots := 0, locals := 24 } : Room)) (fun a U => a = #[(.ref a1), (.int p2)] ∧ Z.Warmed39 U.vm ∧ U.heap = h0) (fun _ _ _ _ _ => True) (fun _ U o U' => ∃ v L, o = .returned v ∧ Q_cvInit Z wC clC a1 p2 h0 n0 v U'.heap L ∧ FrameEnd U o U' L ({ frames := 2, cells := 0, slots := 0, locals := 24 } : Room).cells ({ frames := 2, cells := 0, slots := 0, locals := 24 } : Room).slots) := by
  refine MetFree.of_bodySF (plainFor_of_name pn_2) hisR ?_
  intro p e s m args below meth c s₁ Bd hml0 hP hK
  obtain ⟨rfl, hZ, hh⟩ := hP
  have hx := Bd.exec
  have hby := Bd.bytes
  have hml : c.maxLocals = 2 := hml0
  have hown : s.vm.findClass "com/example/stubwright/stubwright/idl/ConstValue$CharValue" = some m.cls := findClass_of_methodNamed Bd.named
  have hnm := (name_of_methodNamed Bd.named Bd.method).1
  have X0 : Stand p l e ({ frames := 2, cells := 0, slots := 0, locals := 24 } : Room) s m #[(.ref a1), (.int p2)] below meth c s₁ [] 0 0 := Stand.of_body Bd
  have e0 : s₁.heap = h0 := by rw [← hh, Bd.state]; rfl
  have N0 := Fr.nil n0
  obtain ⟨S_high, S_cache, A_C, z_C, e_C⟩ := id G
  have k0 : Way p e below (s₁.setTop (entryFrame m #[(.ref a1), (.int p2)] 2)) s₁ (mkF m 0 #[rv a1, iv p2] []) := fun t k => castTop (by first | (simp [entryFrame, mkF, argsToLocals, Value.category]; done) | rfl) k
  generalize s₁.setTop (entryFrame m #[(.ref a1), (.int p2)] 2) = S0 at k0 ⊢
  have k1 : Way p e below S0 s₁ (mkF m 1 #[rv a1, iv p2] [(.ref a1)]) := by
    intro t k
    refine k0 t ?_
    refine XS.aloadN X0.here hx rfl (hb hby d_prog_20_method_1_code_0) rfl rfl ?_
    show Steps p.tables e below (s₁.setTop (mkF m 1 #[rv a1, iv p2] [(.ref a1)])) _
    exact k
  obtain ⟨_, _, ⟨T2, L2, kk2, nn2⟩, -, X2, ⟨Lc2, hQ2, l2, y2, z2⟩, st2⟩ := X0.specialBack hx (y := (⟨"java/lang/Record", "<init>", "()V"⟩ : MethodName)) rfl hown (mvT hZ (hw _ (List.mem_of_getElem? (i := 7) rfl))) (mvT hZ (hw _ (List.mem_of_getElem? (i := 8) rfl))) (mvT hZ (hw _ (List.mem_of_getElem? (i := 11) rfl))) (by decide) (backOf (W := 0) (recInit l Z a0 hw [] wC clC G a1 h0 n0 O0 ) hZ (hw _ (List.mem_of_getElem? (i := 11) rfl)) (hw _ (List.mem_of_getElem? (i := 10) rfl)) (by decide) (by decide)) (g := (mkF m 1 #[rv a1, iv p2] [(.ref a1)])) rfl (by rw [hml]; rfl) (Steps.refl _) (a := a1) (argsL := []) (rest := []) (lenOf pd_0 rfl) rfl (by show 2 * 0 + _ ≤ _; exact Nat.le_of_eq rfl) (hb hby d_prog_20_method_1_code_1) (fun _ _ => ⟨rfl, e0, (by decide : 0 + 0 ≤ _), (by decide : 0 + 0 ≤ _)⟩)
  dsimp only [Pt.U, Pt.locs, Pt.cells, Pt.slots] at X2 l2 y2 z2 st2 hQ2
  subst l2 y2 z2
  obtain ⟨rfl, Nq2, e2⟩ := hQ2
  have N2 := Fr.app N0 Nq2
  have k3 : Way p e below S0 T2 (mkF m 4 #[rv a1, iv p2] []) := fun t k => k1 t (st2.trans k)
  have k4 : Way p e below S0 T2 (mkF m 6 #[rv a1, iv p2] [(.int p2), (.ref a1)]) := by
    intro t k
    refine k3 t ?_
    refine XS.aloadN X2.here hx rfl (hb hby d_prog_20_method_1_code_4) rfl rfl ?_
    show Steps p.tables e below (T2.setTop (mkF m 5 #[rv a1, iv p2] [(.ref a1)])) _
    refine XS.iloadN X2.here hx rfl (hb hby d_prog_20_method_1_code_5) rfl ?_
    show Steps p.tables e below (T2.setTop (mkF m 6 #[rv a1, iv p2] [(.int p2), (.ref a1)])) _
    exact k
  obtain ⟨T5, h5, X5, e5, W5, st5⟩ := putFN X2 hx hZ hown (hw _ (List.mem_of_getElem? (i := 15) rfl)) Via.refl e2 a_1 a_0 (Or.inr ⟨(hw _ (List.mem_of_getElem? (i := 16) rfl)), rfl, hnm⟩) (hw _ (List.mem_of_getElem? (i := 2) rfl)) (ty := .char) (v' := (.int p2)) (by decide) (show narrow .char (.int p2) = .int p2 from congrArg Value.int hnar) (hnar ▸ fits_nar_char p2) (g := (mkF m 6 #[rv a1, iv p2] [(.int p2), (.ref a1)])) rfl rfl (hb hby d_prog_20_method_1_code_6)
  have O5 := O0.wr W5 ga1
  have N5 := Fr.snoc X5 N2 ga1
  have K5 : Keep h0 h5 [a1] := (Keep.refl h0 [a1]).wr W5 (Or.inl (List.mem_of_getElem? (i := 0) rfl))
  have fw5 : Fld Z h5 a1 "com/example/stubwright/stubwright/idl/ConstValue$CharValue" "value" "C" (.int p2) := a_1.same W5
  have k6 : Way p e below S0 T5 (mkF m 9 #[rv a1, iv p2] []) := fun t k => k4 t (st5 _ k)
  obtain ⟨fs, hr, hrun, hended, hW, hsame⟩ := X5.leave (v := none) (fun _ => rfl)
  have f7 : Exa Z h5 a1 "com/example/stubwright/stubwright/idl/ConstValue$CharValue" := (a_0.wr W5)
  refine ⟨_, _, k6 _ (X5.returnOut hx Bd.returns (hb hby d_prog_20_method_1_code_9) hr), hrun, hended, _, _, rfl, ?_, ⟨_, rfl⟩, hW, hsame.mono (by decide) (by decide)⟩
  show Q_cvInit Z wC clC a1 p2 h0 n0 _ T5.heap _
  rw [e5]
  exact ⟨rfl, N5, K5, f7, fw5⟩
def Q_vofOld (Z : State) (wC : Addr) (clC : Cell) (p1 : Int32) (h0 : Heap) (n0 : Nat) (v : Option Value) (h : Heap) (L : List Loc) : Prop := ∃ y1 : Addr, (v = some (.ref y1)) ∧ (Fr n0 L) ∧ (h = h0) ∧ (Exa Z h y1 "java/lang/Integer")
set_option maxRecDepth 65536 in
set_option maxHeartbeats 40000000 in
theorem vofOld (l : Launch) (Z : State) (a0 : Array Value) (hw : ∀ d ∈ tables_1, d.before a0 Z = true) (ws : List Jvm.Cond) (wC : Addr) (clC : Cell) (G : Gst Z wC clC) (p1 : Int32) (h0 : Heap) (n0 : Nat) (O0 : Old Z n0 h0) (lo : ¬ (p1 < (-128 : Int32))) (hi : ¬ ((127 : Int32) < p1)) :
    MetFree l (⟨"java/lang/Integer", "valueOf", "(I)Ljava/lang/Integer;"⟩ : MethodName) (head1 (Jvm.Cond.code (⟨"java/lang/Integer", "valueOf", "(I)Ljava/lang/Integer;"⟩ : MethodName) jdk_33_method_22_code 1 (some (.object "java/lang/Integer")) :: ws) ({ frames := 0, cells := 0, slots := 0, locals := 0 } : Room)) (fun a U => a = #[(.int p1)] ∧ Z.Warmed39 U.vm ∧ U.heap = h0) (fun _ _ _ _ _ => True) (fun _ U o U' => ∃ v L, o = .returned v ∧ Q_vofOld Z wC clC p1 h0 n0 v U'.heap L ∧ FrameEnd U o U' L ({ frames := 0, cells := 0, slots := 0, locals := 0 } : Room).cells ({ frames := 0, cells := 0, slots := 0, locals := 0 } : Room).slots) := by
  refine MetFree.of_bodySF (plainFor_of_name pn_3) hisR ?_
  intro p e s m args below meth c s₁ Bd hml0 hP hK
  obtain ⟨rfl, hZ, hh⟩ := hP
  have hx := Bd.exec
  have hby := Bd.bytes
  have hml : c.maxLocals = 1 := hml0
  have hown : s.vm.findClass "java/lang/Integer" = some m.cls := findClass_of_methodNamed Bd.named
  have hnm := (name_of_methodNamed Bd.named Bd.method).1
  have X0 : Stand p l e ({ frames := 0, cells := 0, slots := 0, locals := 0 } : Room) s m #[(.int p1)] below meth c s₁ [] 0 0 := Stand.of_body Bd
  have e0 : s₁.heap = h0 := by rw [← hh, Bd.state]; rfl
  have N0 := Fr.nil n0
  obtain ⟨S_high, S_cache, A_C, z_C, e_C⟩ := id G
  have k0 : Way p e below (s₁.setTop (entryFrame m #[(.int p1)] 1)) s₁ (mkF m 0 #[iv p1] []) := fun t k => castTop (by first | (simp [entryFrame, mkF, argsToLocals, Value.category]; done) | rfl) k
  generalize s₁.setTop (entryFrame m #[(.int p1)] 1) = S0 at k0 ⊢
  have k1 : Way p e below S0 s₁ (mkF m 7 #[iv p1] [(.int p1)]) := by
    intro t k
    refine k0 t ?_
    refine XS.iloadN X0.here hx rfl (hb hby d_jdk_33_method_22_code_0) rfl ?_
    show Steps p.tables e below (s₁.setTop (mkF m 1 #[iv p1] [(.int p1)])) _
    refine XS.bipush X0.here hx rfl (hb hby d_jdk_33_method_22_code_1) ?_
    show Steps p.tables e below (s₁.setTop (mkF m 3 #[iv p1] [(.int (-128 : Int32)), (.int p1)])) _
    refine XS.icmpNo X0.here hx rfl (hb hby d_jdk_33_method_22_code_3) rfl (flt (lo : ¬ (p1 < (-128 : Int32)))).1 ?_
    show Steps p.tables e below (s₁.setTop (mkF m 6 #[iv p1] [])) _
    refine XS.iloadN X0.here hx rfl (hb hby d_jdk_33_method_22_code_6) rfl ?_
    show Steps p.tables e below (s₁.setTop (mkF m 7 #[iv p1] [(.int p1)])) _
    exact k
  obtain ⟨T2, X2, e2, st2⟩ := getS2 X0 hx hZ hown (host := "") (Or.inl (hw _ (List.mem_of_getElem? (i := 28) rfl))) Via.refl e0 (S_high.ext O0.2) (g := (mkF m 7 #[iv p1] [(.int p1)])) rfl (hb hby d_jdk_33_method_22_code_7)
  have k3 : Way p e below S0 T2 (mkF m 10 #[iv p1] [(.int (127 : Int32)), (.int p1)]) := fun t k => k1 t (st2 _ k)
  have k4 : Way p e below S0 T2 (mkF m 13 #[iv p1] []) := by
    intro t k
    refine k3 t ?_
    refine XS.icmpNo X2.here hx rfl (hb hby d_jdk_33_method_22_code_10) rfl (flt (hi : ¬ ((127 : Int32) < p1))).2.2.1 ?_
    show Steps p.tables e below (T2.setTop (mkF m 13 #[iv p1] [])) _
    exact k
  obtain ⟨T5, X5, e5, st5⟩ := getS2 X2 hx hZ hown (host := "") (Or.inl (hw _ (List.mem_of_getElem? (i := 30) rfl))) Via.refl e2 (S_cache.ext O0.2) (g := (mkF m 13 #[iv p1] [])) rfl (hb hby d_jdk_33_method_22_code_13)
  have k6 : Way p e below S0 T5 (mkF m 16 #[iv p1] [(.ref wC)]) := fun t k => k4 t (st5 _ k)
  have k7 : Way p e below S0 T5 (mkF m 21 #[iv p1] [(.int (p1 + (128 : Int32))), (.ref wC)]) := by
    intro t k
    refine k6 t ?_
    refine XS.iloadN X5.here hx rfl (hb hby d_jdk_33_method_22_code_16) rfl ?_
    show Steps p.tables e below (T5.setTop (mkF m 17 #[iv p1] [(.int p1), (.ref wC)])) _
    refine XS.sipush X5.here hx rfl (hb hby d_jdk_33_method_22_code_17) ?_
    show Steps p.tables e below (T5.setTop (mkF m 20 #[iv p1] [(.int (128 : Int32)), (.int p1), (.ref wC)])) _
    refine XS.iadd X5.here hx rfl (hb hby d_jdk_33_method_22_code_20) rfl ?_
    show Steps p.tables e below (T5.setTop (mkF m 21 #[iv p1] [(.int (p1 + (128 : Int32))), (.ref wC)])) _
    exact k
  obtain ⟨y8, hy8, Ey8⟩ := e_C ((p1 + (128 : Int32))).toNatClampNeg (own_cidx lo hi).2
  have Ar8 := A_C.ext O0.2
  have hin8 : ¬ ((p1 + (128 : Int32)) < 0 ∨ clC.slots.size ≤ ((p1 + (128 : Int32))).toNatClampNeg) := fun q => q.elim (own_cidx lo hi).1 (fun r => Nat.not_le.mpr (own_cidx lo hi).2 (z_C ▸ r))
  have Ex8 := Ey8.ext O0.2
  have k9 : ∀ t, Steps p.tables e below (T5.setTop (mkF m 22 #[iv p1] [(.ref y8)])) t → Steps p.tables e below S0 t := fun t k => k7 t (X5.aaload hx (j := (p1 + (128 : Int32))) (v := (.ref y8)) (by rw [e5]; exact Ar8.1) (State.isArrayOf_alike hZ.alike Ar8.2.1) rfl Ar8.2.2 hin8 hy8 (g := (mkF m 21 #[iv p1] [(.int (p1 + (128 : Int32))), (.ref wC)])) rfl rfl (hb hby d_jdk_33_method_22_code_21) _ k)
  obtain ⟨fs, hr, hrun, hended, hW, hsame⟩ := X5.leave (v := some (.ref y8)) (fun h => by rw [Bd.returns] at h; cases h)
  refine ⟨_, _, k9 _ (retOut X5 hx Bd.returns rfl (Or.inr (Or.inr (Or.inr (Or.inr ⟨rfl, rfl, rfl⟩)))) (hb hby d_jdk_33_method_22_code_22) hr), hrun, hended, _, _, rfl, ?_, ⟨_, rfl⟩, hW, hsame.mono (by decide) (by decide)⟩
  show Q_vofOld Z wC clC p1 h0 n0 _ T5.heap _
  rw [e5]
  exact ⟨y8, rfl, N0, rfl, Ex8⟩
def Q_numInit (Z : State) (wC : Addr) (clC : Cell) (a1 : Addr) (h0 : Heap) (n0 : Nat) (v : Option Value) (h : Heap) (L : List Loc) : Prop := (v = none) ∧ (Fr n0 L) ∧ (h = h0)
set_option maxRecDepth 65536 in
set_option maxHeartbeats 40000000 in
theorem numInit (l : Launch) (Z : State) (a0 : Array Value) (hw : ∀ d ∈ tables_1, d.before a0 Z = true) (ws : List Jvm.Cond) (wC : Addr) (clC : Cell) (G : Gst Z wC clC) (a1 : Addr) (h0 : Heap) (n0 : Nat) (O0 : Old Z n0 h0) :
    MetFree l (⟨"java/lang/Number", "<init>", "()V"⟩ : MethodName) (head1 (Jvm.Cond.code (⟨"java/lang/Number", "<init>", "()V"⟩ : MethodName) jdk_18_method_1_code 1 none :: ws) ({ frames := 1, cells := 0, slots := 0, locals := 12 } : Room)) (fun a U => a = #[(.ref a1)] ∧ Z.Warmed39 U.vm ∧ U.heap = h0) (fun _ _ _ _ _ => True) (fun _ U o U' => ∃ v L, o = .returned v ∧ Q_numInit Z wC clC a1 h0 n0 v U'.heap L ∧ FrameEnd U o U' L ({ frames := 1, cells := 0, slots := 0, locals := 12 } : Room).cells ({ frames := 1, cells := 0, slots := 0, locals := 12 } : Room).slots) := by
  refine MetFree.of_bodySF (plainFor_of_name pn_4) hisR ?_
  intro p e s m args below meth c s₁ Bd hml0 hP hK
  obtain ⟨rfl, hZ, hh⟩ := hP
  have hx := Bd.exec
  have hby := Bd.bytes
  have hml : c.maxLocals = 1 := hml0
  have hown : s.vm.findClass "java/lang/Number" = some m.cls := findClass_of_methodNamed Bd.named
  have hnm := (name_of_methodNamed Bd.named Bd.method).1
  have X0 : Stand p l e ({ frames := 1, cells := 0, slots := 0, locals := 12 } : Room) s m #[(.ref a1)] below meth c s₁ [] 0 0 := Stand.of_body Bd
  have e0 : s₁.heap = h0 := by rw [← hh, Bd.state]; rfl
  have N0 := Fr.nil n0
  obtain ⟨S_high, S_cache, A_C, z_C, e_C⟩ := id G
  have k0 : Way p e below (s₁.setTop (entryFrame m #[(.ref a1)] 1)) s₁ (mkF m 0 #[rv a1] []) := fun t k => castTop (by first | (simp [entryFrame, mkF, argsToLocals, Value.category]; done) | rfl) k
  generalize s₁.setTop (entryFrame m #[(.ref a1)] 1) = S0 at k0 ⊢
  have k1 : Way p e below S0 s₁ (mkF m 1 #[rv a1] [(.ref a1)]) := by
    intro t k
    refine k0 t ?_
    refine XS.aloadN X0.here hx rfl (hb hby d_jdk_18_method_1_code_0) rfl rfl ?_
    show Steps p.tables e below (s₁.setTop (mkF m 1 #[rv a1] [(.ref a1)])) _
    exact k
  obtain ⟨T2, X2, e2, st2⟩ := initO X0 hx hZ hown (hw _ (List.mem_of_getElem? (i := 57) rfl)) (hw _ (List.mem_of_getElem? (i := 13) rfl)) (hw _ (List.mem_of_getElem? (i := 14) rfl)) e0 (g := (mkF m 1 #[rv a1] [(.ref a1)])) rfl (by rw [hml]; rfl) rfl (hb hby d_jdk_18_method_1_code_1) (by decide) (W := 0) (by show 2 * 0 + _ ≤ _; exact Nat.le_of_eq rfl) (by decide)
  have k3 : Way p e below S0 T2 (mkF m 4 #[rv a1] []) := fun t k => k1 t (st2 _ k)
  obtain ⟨fs, hr, hrun, hended, hW, hsame⟩ := X2.leave (v := none) (fun _ => rfl)
  refine ⟨_, _, k3 _ (X2.returnOut hx Bd.returns (hb hby d_jdk_18_method_1_code_4) hr), hrun, hended, _, _, rfl, ?_, ⟨_, rfl⟩, hW, hsame.mono (by decide) (by decide)⟩
  show Q_numInit Z wC clC a1 h0 n0 _ T2.heap _
  rw [e2]
  exact ⟨rfl, N0, rfl⟩
def Q_intInit (Z : State) (wC : Addr) (clC : Cell) (a1 : Addr) (p2 : Int32) (h0 : Heap) (n0 : Nat) (v : Option Value) (h : Heap) (L : List Loc) : Prop := (v = none) ∧ (Fr n0 L) ∧ (Keep h0 h [a1]) ∧ (Exa Z h a1 "java/lang/Integer")
set_option maxRecDepth 65536 in
set_option maxHeartbeats 40000000 in
theorem intInit (l : Launch) (Z : State) (a0 : Array Value) (hw : ∀ d ∈ tables_1, d.before a0 Z = true) (ws : List Jvm.Cond) (wC : Addr) (clC : Cell) (G : Gst Z wC clC) (a1 : Addr) (p2 : Int32) (h0 : Heap) (n0 : Nat) (O0 : Old Z n0 h0) (a_0 : Exa Z h0 a1 "java/lang/Integer") (a_1 : Fld Z h0 a1 "java/lang/Integer" "value" "I" (.int (0 : Int32))) (ga1 : n0 ≤ a1) :
    MetFree l (⟨"java/lang/Integer", "<init>", "(I)V"⟩ : MethodName) (head1 (Jvm.Cond.code (⟨"java/lang/Integer", "<init>", "(I)V"⟩ : MethodName) jdk_33_method_23_code 2 none :: ws) ({ frames := 2, cells := 0, slots := 0, locals := 24 } : Room)) (fun a U => a = #[(.ref a1), (.int p2)] ∧ Z.Warmed39 U.vm ∧ U.heap = h0) (fun _ _ _ _ _ => True) (fun _ U o U' => ∃ v L, o = .returned v ∧ Q_intInit Z wC clC a1 p2 h0 n0 v U'.heap L ∧ FrameEnd U o U' L ({ frames := 2, cells := 0, slots := 0, locals := 24 } : Room).cells ({ frames := 2, cells := 0, slots := 0, locals := 24 } : Room).slots) := by
  refine MetFree.of_bodySF (plainFor_of_name pn_3) hisR ?_
  intro p e s m args below meth c s₁ Bd hml0 hP hK
  obtain ⟨rfl, hZ, hh⟩ := hP
  have hx := Bd.exec
  have hby := Bd.bytes
  have hml : c.maxLocals = 2 := hml0
  have hown : s.vm.findClass "java/lang/Integer" = some m.cls := findClass_of_methodNamed Bd.named
  have hnm := (name_of_methodNamed Bd.named Bd.method).1
  have X0 : Stand p l e ({ frames := 2, cells := 0, slots := 0, locals := 24 } : Room) s m #[(.ref a1), (.int p2)] below meth c s₁ [] 0 0 := Stand.of_body Bd
  have e0 : s₁.heap = h0 := by rw [← hh, Bd.state]; rfl
  have N0 := Fr.nil n0
  obtain ⟨S_high, S_cache, A_C, z_C, e_C⟩ := id G
  have k0 : Way p e below (s₁.setTop (entryFrame m #[(.ref a1), (.int p2)] 2)) s₁ (mkF m 0 #[rv a1, iv p2] []) := fun t k => castTop (by first | (simp [entryFrame, mkF, argsToLocals, Value.category]; done) | rfl) k
  generalize s₁.setTop (entryFrame m #[(.ref a1), (.int p2)] 2) = S0 at k0 ⊢
  have k1 : Way p e below S0 s₁ (mkF m 1 #[rv a1, iv p2] [(.ref a1)]) := by
    intro t k
    refine k0 t ?_
    refine XS.aloadN X0.here hx rfl (hb hby d_jdk_33_method_23_code_0) rfl rfl ?_
    show Steps p.tables e below (s₁.setTop (mkF m 1 #[rv a1, iv p2] [(.ref a1)])) _
    exact k
  obtain ⟨_, _, ⟨T2, L2, kk2, nn2⟩, -, X2, ⟨Lc2, hQ2, l2, y2, z2⟩, st2⟩ := X0.specialBack hx (y := (⟨"java/lang/Number", "<init>", "()V"⟩ : MethodName)) rfl hown (mvT hZ (hw _ (List.mem_of_getElem? (i := 51) rfl))) (mvT hZ (hw _ (List.mem_of_getElem? (i := 52) rfl))) (mvT hZ (hw _ (List.mem_of_getElem? (i := 56) rfl))) (by decide) (backOf (W := 0) (numInit l Z a0 hw [] wC clC G a1 h0 n0 O0 ) hZ (hw _ (List.mem_of_getElem? (i := 56) rfl)) (hw _ (List.mem_of_getElem? (i := 55) rfl)) (by decide) (by decide)) (g := (mkF m 1 #[rv a1, iv p2] [(.ref a1)])) rfl (by rw [hml]; rfl) (Steps.refl _) (a := a1) (argsL := []) (rest := []) (lenOf pd_0 rfl) rfl (by show 2 * 0 + _ ≤ _; exact Nat.le_of_eq rfl) (hb hby d_jdk_33_method_23_code_1) (fun _ _ => ⟨rfl, e0, (by decide : 0 + 0 ≤ _), (by decide : 0 + 0 ≤ _)⟩)
  dsimp only [Pt.U, Pt.locs, Pt.cells, Pt.slots] at X2 l2 y2 z2 st2 hQ2
  subst l2 y2 z2
  obtain ⟨rfl, Nq2, e2⟩ := hQ2
  have N2 := Fr.app N0 Nq2
  have k3 : Way p e below S0 T2 (mkF m 4 #[rv a1, iv p2] []) := fun t k => k1 t (st2.trans k)
  have k4 : Way p e below S0 T2 (mkF m 6 #[rv a1, iv p2] [(.int p2), (.ref a1)]) := by
    intro t k
    refine k3 t ?_
    refine XS.aloadN X2.here hx rfl (hb hby d_jdk_33_method_23_code_4) rfl rfl ?_
    show Steps p.tables e below (T2.setTop (mkF m 5 #[rv a1, iv p2] [(.ref a1)])) _
    refine XS.iloadN X2.here hx rfl (hb hby d_jdk_33_method_23_code_5) rfl ?_
    show Steps p.tables e below (T2.setTop (mkF m 6 #[rv a1, iv p2] [(.int p2), (.ref a1)])) _
    exact k
  obtain ⟨T5, h5, X5, e5, W5, st5⟩ := putF X2 hx hZ hown (host := "") (Or.inl (hw _ (List.mem_of_getElem? (i := 58) rfl))) Via.refl e2 a_1 a_0 (Or.inr ⟨(hw _ (List.mem_of_getElem? (i := 59) rfl)), rfl, hnm⟩) (hw _ (List.mem_of_getElem? (i := 46) rfl)) (ty := .int) (by decide) rfl rfl (g := (mkF m 6 #[rv a1, iv p2] [(.int p2), (.ref a1)])) rfl rfl (hb hby d_jdk_33_method_23_code_6)
  have O5 := O0.wr W5 ga1
  have N5 := Fr.snoc X5 N2 ga1
  have K5 : Keep h0 h5 [a1] := (Keep.refl h0 [a1]).wr W5 (Or.inl (List.mem_of_getElem? (i := 0) rfl))
  have fw5 : Fld Z h5 a1 "java/lang/Integer" "value" "I" (.int p2) := a_1.same W5
  have k6 : Way p e below S0 T5 (mkF m 9 #[rv a1, iv p2] []) := fun t k => k4 t (st5 _ k)
  obtain ⟨fs, hr, hrun, hended, hW, hsame⟩ := X5.leave (v := none) (fun _ => rfl)
  have f7 : Exa Z h5 a1 "java/lang/Integer" := (a_0.wr W5)
  refine ⟨_, _, k6 _ (X5.returnOut hx Bd.returns (hb hby d_jdk_33_method_23_code_9) hr), hrun, hended, _, _, rfl, ?_, ⟨_, rfl⟩, hW, hsame.mono (by decide) (by decide)⟩
  show Q_intInit Z wC clC a1 p2 h0 n0 _ T5.heap _
  rw [e5]
  exact ⟨rfl, N5, K5, f7⟩
def Q_vofNew (Z : State) (wC : Addr) (clC : Cell) (p1 : Int32) (h0 : Heap) (n0 : Nat) (v : Option Value) (h : Heap) (L : List Loc) : Prop := ∃ y1 : Addr, (v = some (.ref y1)) ∧ (Fr n0 L) ∧ (Keep h0 h []) ∧ (h0.size ≤ y1) ∧ (Exa Z h y1 "java/lang/Integer")
set_option maxRecDepth 65536 in
set_option maxHeartbeats 40000000 in
theorem vofNew (l : Launch) (Z : State) (a0 : Array Value) (hw : ∀ d ∈ tables_1, d.before a0 Z = true) (ws : List Jvm.Cond) (wC : Addr) (clC : Cell) (G : Gst Z wC clC) (p1 : Int32) (h0 : Heap) (n0 : Nat) (O0 : Old Z n0 h0) (lo : ¬ (p1 < (-128 : Int32))) (hi : (127 : Int32) < p1) :
    MetFree l (⟨"java/lang/Integer", "valueOf", "(I)Ljava/lang/Integer;"⟩ : MethodName) (head1 (Jvm.Cond.code (⟨"java/lang/Integer", "valueOf", "(I)Ljava/lang/Integer;"⟩ : MethodName) jdk_33_method_22_code 1 (some (.object "java/lang/Integer")) :: ws) ({ frames := 3, cells := 1, slots := 1, locals := 38 } : Room)) (fun a U => a = #[(.int p1)] ∧ Z.Warmed39 U.vm ∧ U.heap = h0) (fun _ _ _ _ _ => True) (fun _ U o U' => ∃ v L, o = .returned v ∧ Q_vofNew Z wC clC p1 h0 n0 v U'.heap L ∧ FrameEnd U o U' L ({ frames := 3, cells := 1, slots := 1, locals := 38 } : Room).cells ({ frames := 3, cells := 1, slots := 1, locals := 38 } : Room).slots) := by
  refine MetFree.of_bodySF (plainFor_of_name pn_3) hisR ?_
  intro p e s m args below meth c s₁ Bd hml0 hP hK
  obtain ⟨rfl, hZ, hh⟩ := hP
  have hx := Bd.exec
  have hby := Bd.bytes
  have hml : c.maxLocals = 1 := hml0
  have hown : s.vm.findClass "java/lang/Integer" = some m.cls := findClass_of_methodNamed Bd.named
  have hnm := (name_of_methodNamed Bd.named Bd.method).1
  have X0 : Stand p l e ({ frames := 3, cells := 1, slots := 1, locals := 38 } : Room) s m #[(.int p1)] below meth c s₁ [] 0 0 := Stand.of_body Bd
  have e0 : s₁.heap = h0 := by rw [← hh, Bd.state]; rfl
  have N0 := Fr.nil n0
  obtain ⟨S_high, S_cache, A_C, z_C, e_C⟩ := id G
  have k0 : Way p e below (s₁.setTop (entryFrame m #[(.int p1)] 1)) s₁ (mkF m 0 #[iv p1] []) := fun t k => castTop (by first | (simp [entryFrame, mkF, argsToLocals, Value.category]; done) | rfl) k
  generalize s₁.setTop (entryFrame m #[(.int p1)] 1) = S0 at k0 ⊢
  have k1 : Way p e below S0 s₁ (mkF m 7 #[iv p1] [(.int p1)]) := by
    intro t k
    refine k0 t ?_
    refine XS.iloadN X0.here hx rfl (hb hby d_jdk_33_method_22_code_0) rfl ?_
    show Steps p.tables e below (s₁.setTop (mkF m 1 #[iv p1] [(.int p1)])) _
    refine XS.bipush X0.here hx rfl (hb hby d_jdk_33_method_22_code_1) ?_
    show Steps p.tables e below (s₁.setTop (mkF m 3 #[iv p1] [(.int (-128 : Int32)), (.int p1)])) _
    refine XS.icmpNo X0.here hx rfl (hb hby d_jdk_33_method_22_code_3) rfl (flt (lo : ¬ (p1 < (-128 : Int32)))).1 ?_
    show Steps p.tables e below (s₁.setTop (mkF m 6 #[iv p1] [])) _
    refine XS.iloadN X0.here hx rfl (hb hby d_jdk_33_method_22_code_6) rfl ?_
    show Steps p.tables e below (s₁.setTop (mkF m 7 #[iv p1] [(.int p1)])) _
    exact k
  obtain ⟨T2, X2, e2, st2⟩ := getS2 X0 hx hZ hown (host := "") (Or.inl (hw _ (List.mem_of_getElem? (i := 28) rfl))) Via.refl e0 (S_high.ext O0.2) (g := (mkF m 7 #[iv p1] [(.int p1)])) rfl (hb hby d_jdk_33_method_22_code_7)
  have k3 : Way p e below S0 T2 (mkF m 10 #[iv p1] [(.int (127 : Int32)), (.int p1)]) := fun t k => k1 t (st2 _ k)
  have k4 : Way p e below S0 T2 (mkF m 23 #[iv p1] []) := by
    intro t k
    refine k3 t ?_
    refine XS.icmpYes X2.here hx rfl (pc0 := 10) (pc' := 23) rfl (hb hby d_jdk_33_method_22_code_10) rfl (tlt (hi : (127 : Int32) < p1)).2.2.1 (by decide) (by decide) ?_
    show Steps p.tables e below (T2.setTop (mkF m 23 #[iv p1] [])) _
    exact k
  obtain ⟨T5, h5, X5, e5, E5, A5, D5, U5, st5⟩ := newO X2 hx hZ hown (hw _ (List.mem_of_getElem? (i := 45) rfl)) (hw _ (List.mem_of_getElem? (i := 46) rfl)) (hw _ (List.mem_of_getElem? (i := 26) rfl)) e2 (g := (mkF m 23 #[iv p1] [])) rfl (hb hby d_jdk_33_method_22_code_23) (by decide) (by decide)
  obtain ⟨b5, g5⟩ : ∃ z, z = h0.size := ⟨_, rfl⟩
  rw [← g5] at A5 D5 U5 st5
  have O5 := O0.ext E5
  have K5 : Keep h0 h5 [] := (Keep.refl h0 []).ext E5
  have i5_value : Fld Z h5 b5 "java/lang/Integer" "value" "I" (.int (0 : Int32)) := D5 (Or.inr (hw _ (List.mem_of_getElem? (i := 59) rfl))) (ty := .int) (by decide)
  have k6 : Way p e below S0 T5 (mkF m 26 #[iv p1] [(.ref b5)]) := fun t k => k4 t (st5 _ k)
  have k7 : Way p e below S0 T5 (mkF m 28 #[iv p1] [(.int p1), (.ref b5), (.ref b5)]) := by
    intro t k
    refine k6 t ?_
    refine XS.dup X5.here hx rfl (hb hby d_jdk_33_method_22_code_26) rfl rfl ?_
    show Steps p.tables e below (T5.setTop (mkF m 27 #[iv p1] [(.ref b5), (.ref b5)])) _
    refine XS.iloadN X5.here hx rfl (hb hby d_jdk_33_method_22_code_27) rfl ?_
    show Steps p.tables e below (T5.setTop (mkF m 28 #[iv p1] [(.int p1), (.ref b5), (.ref b5)])) _
    exact k
  have ge8 : n0 ≤ b5 := Nat.le_trans (own_old O0) (Nat.le_of_eq g5.symm)
  obtain ⟨_, _, ⟨T9, L9, kk9, nn9⟩, -, X9, ⟨Lc9, hQ9, l9, y9, z9⟩, st9⟩ := X5.specialBack hx (y := (⟨"java/lang/Integer", "<init>", "(I)V"⟩ : MethodName)) rfl hown (mvT hZ (hw _ (List.mem_of_getElem? (i := 47) rfl))) (mvT hZ (hw _ (List.mem_of_getElem? (i := 48) rfl))) (mvT hZ (hw _ (List.mem_of_getElem? (i := 50) rfl))) (by decide) (backOf (W := 1) (intInit l Z a0 hw [] wC clC G b5 p1 h5 n0 O5 (A5 : Exa Z h5 b5 "java/lang/Integer") (i5_value : Fld Z h5 b5 "java/lang/Integer" "value" "I" (.int (0 : Int32))) (ge8 : n0 ≤ b5)) hZ (hw _ (List.mem_of_getElem? (i := 50) rfl)) (hw _ (List.mem_of_getElem? (i := 26) rfl)) (by decide) (by decide)) (g := (mkF m 28 #[iv p1] [(.int p1), (.ref b5), (.ref b5)])) rfl (by rw [hml]; rfl) (Steps.refl _) (a := b5) (argsL := [(.int p1)]) (rest := [(.ref b5)]) (lenOf pd_1 rfl) rfl (by show 2 * 0 + _ ≤ _; exact Nat.le_of_eq rfl) (hb hby d_jdk_33_method_22_code_28) (fun _ _ => ⟨rfl, e5, (by decide : 1 + 0 ≤ _), (by decide : 1 + 0 ≤ _)⟩)
  dsimp only [Pt.U, Pt.locs, Pt.cells, Pt.slots] at X9 l9 y9 z9 st9 hQ9
  subst l9 y9 z9
  obtain ⟨rfl, Nq9, Kq9, po9_0⟩ := hQ9
  have N9 := Fr.app N0 Nq9
  have O9 := O5.keep Kq9 (allS ge8 all0)
  have gz10 : h0.size ≤ b5 := Nat.le_trans (Keep.refl h0 []).1 (Nat.le_of_eq g5.symm)
  have K9 : Keep h0 T9.heap [] := K5.trans Kq9 (allS (Or.inr gz10) all0)
  have k11 : Way p e below S0 T9 (mkF m 31 #[iv p1] [(.ref b5)]) := fun t k => k7 t (st9.trans k)
  obtain ⟨fs, hr, hrun, hended, hW, hsame⟩ := X9.leave (v := some (.ref b5)) (fun h => by rw [Bd.returns] at h; cases h)
  refine ⟨_, _, k11 _ (retOut X9 hx Bd.returns rfl (Or.inr (Or.inr (Or.inr (Or.inr ⟨rfl, rfl, rfl⟩)))) (hb hby d_jdk_33_method_22_code_31) hr), hrun, hended, _, _, rfl, ?_, ⟨_, rfl⟩, hW, hsame.mono (by decide) (by decide)⟩
  show Q_vofNew Z wC clC p1 h0 n0 _ T9.heap _
  exact ⟨b5, rfl, N9, K9, gz10, po9_0⟩
def Q_eqT (Z : State) (wC : Addr) (clC : Cell) (a1 : Addr) (a2 : Addr) (q1 : Int32) (q2 : Int32) (h0 : Heap) (n0 : Nat) (v : Option Value) (h : Heap) (L : List Loc) : Prop := (v = some (.int (1 : Int32))) ∧ (Fr n0 L) ∧ (h = h0)
set_option maxRecDepth 65536 in
set_option maxHeartbeats 40000000 in
theorem eqT (l : Launch) (Z : State) (a0 : Array Value) (hw : ∀ d ∈ tables_1, d.before a0 Z = true) (ws : List Jvm.Cond) (wC : Addr) (clC : Cell) (G : Gst Z wC clC) (a1 : Addr) (a2 : Addr) (q1 : Int32) (q2 : Int32) (h0 : Heap) (n0 : Nat) (O0 : Old Z n0 h0) (a_0 : Exa Z h0 a2 "com/example/stubwright/stubwright/idl/ConstValue$CharValue") (a_1 : Fld Z h0 a1 "com/example/stubwright/stubwright/idl/ConstValue$CharValue" "value" "C" (.int q1)) (a_2 : Fld Z h0 a2 "com/example/stubwright/stubwright/idl/ConstValue$CharValue" "value" "C" (.int q2)) (heq : q1 = q2) :
    MetFree l (⟨"com/example/stubwright/stubwright/idl/ConstValue$CharValue", "equals", "(Ljava/lang/Object;)Z"⟩ : MethodName) (head1 (Jvm.Cond.code (⟨"com/example/stubwright/stubwright/idl/ConstValue$CharValue", "equals", "(Ljava/lang/Object;)Z"⟩ : MethodName) prog_20_method_2_code 3 (some .boolean) :: ws) ({ frames := 0, cells := 0, slots := 0, locals := 0 } : Room)) (fun a U => a = #[(.ref a1), (.ref a2)] ∧ Z.Warmed39 U.vm ∧ U.heap = h0) (fun _ _ _ _ _ => True) (fun _ U o U' => ∃ v L, o = .returned v ∧ Q_eqT Z wC clC a1 a2 q1 q2 h0 n0 v U'.heap L ∧ FrameEnd U o U' L ({ frames := 0, cells := 0, slots := 0, locals := 0 } : Room).cells ({ frames := 0, cells := 0, slots := 0, locals := 0 } : Room).slots) := by
  refine MetFree.of_bodySF (plainFor_of_name pn_2) hisR ?_
  intro p e s m args below meth c s₁ Bd hml0 hP hK
  obtain ⟨rfl, hZ, hh⟩ := hP
  have hx := Bd.exec
  have hby := Bd.bytes
  have hml : c.maxLocals = 3 := hml0
  have hown : s.vm.findClass "com/example/stubwright/stubwright/idl/ConstValue$CharValue" = some m.cls := findClass_of_methodNamed Bd.named
  have hnm := (name_of_methodNamed Bd.named Bd.method).1
  have X0 : Stand p l e ({ frames := 0, cells := 0, slots := 0, locals := 0 } : Room) s m #[(.ref a1), (.ref a2)] below meth c s₁ [] 0 0 := Stand.of_body Bd
  have e0 : s₁.heap = h0 := by rw [← hh, Bd.state]; rfl
  have N0 := Fr.nil n0
  obtain ⟨S_high, S_cache, A_C, z_C, e_C⟩ := id G
  have k0 : Way p e below (s₁.setTop (entryFrame m #[(.ref a1), (.ref a2)] 3)) s₁ (mkF m 0 #[rv a1, rv a2, .unset] []) := fun t k => castTop (by first | (simp [entryFrame, mkF, argsToLocals, Value.category]; done) | rfl) k
  generalize s₁.setTop (entryFrame m #[(.ref a1), (.ref a2)] 3) = S0 at k0 ⊢
  have k1 : Way p e below S0 s₁ (mkF m 1 #[rv a1, rv a2, .unset] [(.ref a2)]) := by
    intro t k
    refine k0 t ?_
    refine XS.aloadN X0.here hx rfl (hb hby d_prog_20_method_2_code_0) rfl rfl ?_
    show Steps p.tables e below (s₁.setTop (mkF m 1 #[rv a1, rv a2, .unset] [(.ref a2)])) _
    exact k
  obtain ⟨T2, X2, e2, st2⟩ := instY X0 hx hZ hown (hw _ (List.mem_of_getElem? (i := 22) rfl)) e0 (Ins.self a_0) (g := (mkF m 1 #[rv a1, rv a2, .unset] [(.ref a2)])) rfl rfl (hb hby d_prog_20_method_2_code_1)
  have k3 : Way p e below S0 T2 (mkF m 4 #[rv a1, rv a2, .unset] [(.int (1 : Int32))]) := fun t k => k1 t (st2 _ k)
  have k4 : Way p e below S0 T2 (mkF m 8 #[rv a1, rv a2, .unset] [(.ref a2)]) := by
    intro t k
    refine k3 t ?_
    refine XS.ifNo X2.here hx rfl (hb hby d_prog_20_method_2_code_4) rfl ((if0 _ _).trans (feq ((by decide) : ¬ ((1 : Int32) = (0 : Int32)))).1) ?_
    show Steps p.tables e below (T2.setTop (mkF m 7 #[rv a1, rv a2, .unset] [])) _
    refine XS.aloadN X2.here hx rfl (hb hby d_prog_20_method_2_code_7) rfl rfl ?_
    show Steps p.tables e below (T2.setTop (mkF m 8 #[rv a1, rv a2, .unset] [(.ref a2)])) _
    exact k
  obtain ⟨T5, X5, e5, st5⟩ := castY X2 hx hZ hown (hw _ (List.mem_of_getElem? (i := 22) rfl)) e2 (Ins.self a_0) (g := (mkF m 8 #[rv a1, rv a2, .unset] [(.ref a2)])) rfl rfl (hb hby d_prog_20_method_2_code_8)
  have k6 : Way p e below S0 T5 (mkF m 11 #[rv a1, rv a2, .unset] [(.ref a2)]) := fun t k => k4 t (st5 _ k)
  have k7 : Way p e below S0 T5 (mkF m 13 #[rv a1, rv a2, rv a2] [(.ref a1)]) := by
    intro t k
    refine k6 t ?_
    refine XS.astoreN X5.here hx rfl (hb hby d_prog_20_method_2_code_11) rfl rfl (l' := #[rv a1, rv a2, rv a2]) rfl ?_
    show Steps p.tables e below (T5.setTop (mkF m 12 #[rv a1, rv a2, rv a2] [])) _
    refine XS.aloadN X5.here hx rfl (hb hby d_prog_20_method_2_code_12) rfl rfl ?_
    show Steps p.tables e below (T5.setTop (mkF m 13 #[rv a1, rv a2, rv a2] [(.ref a1)])) _
    exact k
  obtain ⟨T8, X8, e8, st8⟩ := getF X5 hx hZ hown (host := "") (Or.inl (hw _ (List.mem_of_getElem? (i := 15) rfl))) Via.refl e5 a_1 (g := (mkF m 13 #[rv a1, rv a2, rv a2] [(.ref a1)])) rfl rfl (hb hby d_prog_20_method_2_code_13)
  have k9 : Way p e below S0 T8 (mkF m 16 #[rv a1, rv a2, rv a2] [(.int q1)]) := fun t k => k7 t (st8 _ k)
  have k10 : Way p e below S0 T8 (mkF m 17 #[rv a1, rv a2, rv a2] [(.ref a2), (.int q1)]) := by
    intro t k
    refine k9 t ?_
    refine XS.aloadN X8.here hx rfl (hb hby d_prog_20_method_2_code_16) rfl rfl ?_
    show Steps p.tables e below (T8.setTop (mkF m 17 #[rv a1, rv a2, rv a2] [(.ref a2), (.int q1)])) _
    exact k
  obtain ⟨T11, X11, e11, st11⟩ := getF X8 hx hZ hown (host := "") (Or.inl (hw _ (List.mem_of_getElem? (i := 15) rfl))) Via.refl e8 a_2 (g := (mkF m 17 #[rv a1, rv a2, rv a2] [(.ref a2), (.int q1)])) rfl rfl (hb hby d_prog_20_method_2_code_17)
  have k12 : Way p e below S0 T11 (mkF m 20 #[rv a1, rv a2, rv a2] [(.int q2), (.int q1)]) := fun t k => k10 t (st11 _ k)
  have k13 : Way p e below S0 T11 (mkF m 28 #[rv a1, rv a2, rv a2] [(.int (1 : Int32))]) := by
    intro t k
    refine k12 t ?_
    refine XS.icmpNo X11.here hx rfl (hb hby d_prog_20_method_2_code_20) rfl (teq (heq : q1 = q2)).2 ?_
    show Steps p.tables e below (T11.setTop (mkF m 23 #[rv a1, rv a2, rv a2] [])) _
    refine XS.iconst X11.here hx rfl (hb hby d_prog_20_method_2_code_23) ?_
    show Steps p.tables e below (T11.setTop (mkF m 24 #[rv a1, rv a2, rv a2] [(.int (1 : Int32))])) _
    refine XS.goto X11.here hx rfl (pc0 := 24) (pc' := 28) rfl (hb hby d_prog_20_method_2_code_24) (by decide) (by decide) ?_
    show Steps p.tables e below (T11.setTop (mkF m 28 #[rv a1, rv a2, rv a2] [(.int (1 : Int32))])) _
    exact k
  obtain ⟨fs, hr, hrun, hended, hW, hsame⟩ := X11.leave (v := some (.int (1 : Int32))) (fun h => by rw [Bd.returns] at h; cases h)
  refine ⟨_, _, k13 _ (retN X11 hx (t := .boolean) Bd.returns (by simp) (hb hby d_prog_20_method_2_code_28) hr), hrun, hended, _, _, rfl, ?_, ⟨_, rfl⟩, hW, hsame.mono (by decide) (by decide)⟩
  show Q_eqT Z wC clC a1 a2 q1 q2 h0 n0 _ T11.heap _
  rw [e11]
  exact ⟨rfl, N0, rfl⟩
def Q_eqF (Z : State) (wC : Addr) (clC : Cell) (a1 : Addr) (a2 : Addr) (q1 : Int32) (q2 : Int32) (h0 : Heap) (n0 : Nat) (v : Option Value) (h : Heap) (L : List Loc) : Prop := (v = some (.int (0 : Int32))) ∧ (Fr n0 L) ∧ (h = h0)
set_option maxRecDepth 65536 in
set_option maxHeartbeats 40000000 in
theorem eqF (l : Launch) (Z : State) (a0 : Array Value) (hw : ∀ d ∈ tables_1, d.before a0 Z = true) (ws : List Jvm.Cond) (wC : Addr) (clC : Cell) (G : Gst Z wC clC) (a1 : Addr) (a2 : Addr) (q1 : Int32) (q2 : Int32) (h0 : Heap) (n0 : Nat) (O0 : Old Z n0 h0) (a_0 : Exa Z h0 a2 "com/example/stubwright/stubwright/idl/ConstValue$CharValue") (a_1 : Fld Z h0 a1 "com/example/stubwright/stubwright/idl/ConstValue$CharValue" "value" "C" (.int q1)) (a_2 : Fld Z h0 a2 "com/example/stubwright/stubwright/idl/ConstValue$CharValue" "value" "C" (.int q2)) (heq : ¬ (q1 = q2)) :
    MetFree l (⟨"com/example/stubwright/stubwright/idl/ConstValue$CharValue", "equals", "(Ljava/lang/Object;)Z"⟩ : MethodName) (head1 (Jvm.Cond.code (⟨"com/example/stubwright/stubwright/idl/ConstValue$CharValue", "equals", "(Ljava/lang/Object;)Z"⟩ : MethodName) prog_20_method_2_code 3 (some .boolean) :: ws) ({ frames := 0, cells := 0, slots := 0, locals := 0 } : Room)) (fun a U => a = #[(.ref a1), (.ref a2)] ∧ Z.Warmed39 U.vm ∧ U.heap = h0) (fun _ _ _ _ _ => True) (fun _ U o U' => ∃ v L, o = .returned v ∧ Q_eqF Z wC clC a1 a2 q1 q2 h0 n0 v U'.heap L ∧ FrameEnd U o U' L ({ frames := 0, cells := 0, slots := 0, locals := 0 } : Room).cells ({ frames := 0, cells := 0, slots := 0, locals := 0 } : Room).slots) := by
  refine MetFree.of_bodySF (plainFor_of_name pn_2) hisR ?_
  intro p e s m args below meth c s₁ Bd hml0 hP hK
  obtain ⟨rfl, hZ, hh⟩ := hP
  have hx := Bd.exec
  have hby := Bd.bytes
  have hml : c.maxLocals = 3 := hml0
  have hown : s.vm.findClass "com/example/stubwright/stubwright/idl/ConstValue$CharValue" = some m.cls := findClass_of_methodNamed Bd.named
  have hnm := (name_of_methodNamed Bd.named Bd.method).1
  have X0 : Stand p l e ({ frames := 0, cells := 0, slots := 0, locals := 0 } : Room) s m #[(.ref a1), (.ref a2)] below meth c s₁ [] 0 0 := Stand.of_body Bd
  have e0 : s₁.heap = h0 := by rw [← hh, Bd.state]; rfl
  have N0 := Fr.nil n0
  obtain ⟨S_high, S_cache, A_C, z_C, e_C⟩ := id G
  have k0 : Way p e below (s₁.setTop (entryFrame m #[(.ref a1), (.ref a2)] 3)) s₁ (mkF m 0 #[rv a1, rv a2, .unset] []) := fun t k => castTop (by first | (simp [entryFrame, mkF, argsToLocals, Value.category]; done) | rfl) k
  generalize s₁.setTop (entryFrame m #[(.ref a1), (.ref a2)] 3) = S0 at k0 ⊢
  have k1 : Way p e below S0 s₁ (mkF m 1 #[rv a1, rv a2, .unset] [(.ref a2)]) := by
    intro t k
    refine k0 t ?_
    refine XS.aloadN X0.here hx rfl (hb hby d_prog_20_method_2_code_0) rfl rfl ?_
    show Steps p.tables e below (s₁.setTop (mkF m 1 #[rv a1, rv a2, .unset] [(.ref a2)])) _
    exact k
  obtain ⟨T2, X2, e2, st2⟩ := instY X0 hx hZ hown (hw _ (List.mem_of_getElem? (i := 22) rfl)) e0 (Ins.self a_0) (g := (mkF m 1 #[rv a1, rv a2, .unset] [(.ref a2)])) rfl rfl (hb hby d_prog_20_method_2_code_1)
  have k3 : Way p e below S0 T2 (mkF m 4 #[rv a1, rv a2, .unset] [(.int (1 : Int32))]) := fun t k => k1 t (st2 _ k)
  have k4 : Way p e below S0 T2 (mkF m 8 #[rv a1, rv a2, .unset] [(.ref a2)]) := by
    intro t k
    refine k3 t ?_
    refine XS.ifNo X2.here hx rfl (hb hby d_prog_20_method_2_code_4) rfl ((if0 _ _).trans (feq ((by decide) : ¬ ((1 : Int32) = (0 : Int32)))).1) ?_
    show Steps p.tables e below (T2.setTop (mkF m 7 #[rv a1, rv a2, .unset] [])) _
    refine XS.aloadN X2.here hx rfl (hb hby d_prog_20_method_2_code_7) rfl rfl ?_
    show Steps p.tables e below (T2.setTop (mkF m 8 #[rv a1, rv a2, .unset] [(.ref a2)])) _
    exact k
  obtain ⟨T5, X5, e5, st5⟩ := castY X2 hx hZ hown (hw _ (List.mem_of_getElem? (i := 22) rfl)) e2 (Ins.self a_0) (g := (mkF m 8 #[rv a1, rv a2, .unset] [(.ref a2)])) rfl rfl (hb hby d_prog_20_method_2_code_8)
  have k6 : Way p e below S0 T5 (mkF m 11 #[rv a1, rv a2, .unset] [(.ref a2)]) := fun t k => k4 t (st5 _ k)
  have k7 : Way p e below S0 T5 (mkF m 13 #[rv a1, rv a2, rv a2] [(.ref a1)]) := by
    intro t k
    refine k6 t ?_
    refine XS.astoreN X5.here hx rfl (hb hby d_prog_20_method_2_code_11) rfl rfl (l' := #[rv a1, rv a2, rv a2]) rfl ?_
    show Steps p.tables e below (T5.setTop (mkF m 12 #[rv a1, rv a2, rv a2] [])) _
    refine XS.aloadN X5.here hx rfl (hb hby d_prog_20_method_2_code_12) rfl rfl ?_
    show Steps p.tables e below (T5.setTop (mkF m 13 #[rv a1, rv a2, rv a2] [(.ref a1)])) _
    exact k
  obtain ⟨T8, X8, e8, st8⟩ := getF X5 hx hZ hown (host := "") (Or.inl (hw _ (List.mem_of_getElem? (i := 15) rfl))) Via.refl e5 a_1 (g := (mkF m 13 #[rv a1, rv a2, rv a2] [(.ref a1)])) rfl rfl (hb hby d_prog_20_method_2_code_13)
  have k9 : Way p e below S0 T8 (mkF m 16 #[rv a1, rv a2, rv a2] [(.int q1)]) := fun t k => k7 t (st8 _ k)
  have k10 : Way p e below S0 T8 (mkF m 17 #[rv a1, rv a2, rv a2] [(.ref a2), (.int q1)]) := by
    intro t k
    refine k9 t ?_
    refine XS.aloadN X8.here hx rfl (hb hby d_prog_20_method_2_code_16) rfl rfl ?_
    show Steps p.tables e below (T8.setTop (mkF m 17 #[rv a1, rv a2, rv a2] [(.ref a2), (.int q1)])) _
    exact k
  obtain ⟨T11, X11, e11, st11⟩ := getF X8 hx hZ hown (host := "") (Or.inl (hw _ (List.mem_of_getElem? (i := 15) rfl))) Via.refl e8 a_2 (g := (mkF m 17 #[rv a1, rv a2, rv a2] [(.ref a2), (.int q1)])) rfl rfl (hb hby d_prog_20_method_2_code_17)
  have k12 : Way p e below S0 T11 (mkF m 20 #[rv a1, rv a2, rv a2] [(.int q2), (.int q1)]) := fun t k => k10 t (st11 _ k)
  have k13 : Way p e below S0 T11 (mkF m 28 #[rv a1, rv a2, rv a2] [(.int (0 : Int32))]) := by
    intro t k
    refine k12 t ?_
    refine XS.icmpYes X11.here hx rfl (pc0 := 20) (pc' := 27) rfl (hb hby d_prog_20_method_2_code_20) rfl (feq (heq : ¬ (q1 = q2))).2 (by decide) (by decide) ?_
    show Steps p.tables e below (T11.setTop (mkF m 27 #[rv a1, rv a2, rv a2] [])) _
    refine XS.iconst X11.here hx rfl (hb hby d_prog_20_method_2_code_27) ?_
    show Steps p.tables e below (T11.setTop (mkF m 28 #[rv a1, rv a2, rv a2] [(.int (0 : Int32))])) _
    exact k
  obtain ⟨fs, hr, hrun, hended, hW, hsame⟩ := X11.leave (v := some (.int (0 : Int32))) (fun h => by rw [Bd.returns] at h; cases h)
  refine ⟨_, _, k13 _ (retN X11 hx (t := .boolean) Bd.returns (by simp) (hb hby d_prog_20_method_2_code_28) hr), hrun, hended, _, _, rfl, ?_, ⟨_, rfl⟩, hW, hsame.mono (by decide) (by decide)⟩
  show Q_eqF Z wC clC a1 a2 q1 q2 h0 n0 _ T11.heap _
  rw [e11]
  exact ⟨rfl, N0, rfl⟩
def Q_eqNull (Z : State) (wC : Addr) (clC : Cell) (a1 : Addr) (h0 : Heap) (n0 : Nat) (v : Option Value) (h : Heap) (L : List Loc) : Prop := (v = some (.int (0 : Int32))) ∧ (Fr n0 L) ∧ (h = h0)
set_option maxRecDepth 65536 in
set_option maxHeartbeats 40000000 in
theorem eqNull (l : Launch) (Z : State) (a0 : Array Value) (hw : ∀ d ∈ tables_1, d.before a0 Z = true) (ws : List Jvm.Cond) (wC : Addr) (clC : Cell) (G : Gst Z wC clC) (a1 : Addr) (h0 : Heap) (n0 : Nat) (O0 : Old Z n0 h0) :
    MetFree l (⟨"com/example/stubwright/stubwright/idl/ConstValue$CharValue", "equals", "(Ljava/lang/Object;)Z"⟩ : MethodName) (head1 (Jvm.Cond.code (⟨"com/example/stubwright/stubwright/idl/ConstValue$CharValue", "equals", "(Ljava/lang/Object;)Z"⟩ : MethodName) prog_20_method_2_code 3 (some .boolean) :: ws) ({ frames := 0, cells := 0, slots := 0, locals := 0 } : Room)) (fun a U => a = #[(.ref a1), .null] ∧ Z.Warmed39 U.vm ∧ U.heap = h0) (fun _ _ _ _ _ => True) (fun _ U o U' => ∃ v L, o = .returned v ∧ Q_eqNull Z wC clC a1 h0 n0 v U'.heap L ∧ FrameEnd U o U' L ({ frames := 0, cells := 0, slots := 0, locals := 0 } : Room).cells ({ frames := 0, cells := 0, slots := 0, locals := 0 } : Room).slots) := by
  refine MetFree.of_bodySF (plainFor_of_name pn_2) hisR ?_
  intro p e s m args below meth c s₁ Bd hml0 hP hK
  obtain ⟨rfl, hZ, hh⟩ := hP
  have hx := Bd.exec
  have hby := Bd.bytes
  have hml : c.maxLocals = 3 := hml0
  have hown : s.vm.findClass "com/example/stubwright/stubwright/idl/ConstValue$CharValue" = some m.cls := findClass_of_methodNamed Bd.named
  have hnm := (name_of_methodNamed Bd.named Bd.method).1
  have X0 : Stand p l e ({ frames := 0, cells := 0, slots := 0, locals := 0 } : Room) s m #[(.ref a1), .null] below meth c s₁ [] 0 0 := Stand.of_body Bd
  have e0 : s₁.heap = h0 := by rw [← hh, Bd.state]; rfl
  have N0 := Fr.nil n0
  obtain ⟨S_high, S_cache, A_C, z_C, e_C⟩ := id G
  have k0 : Way p e below (s₁.setTop (entryFrame m #[(.ref a1), .null] 3)) s₁ (mkF m 0 #[rv a1, .val .null, .unset] []) := fun t k => castTop (by first | (simp [entryFrame, mkF, argsToLocals, Value.category]; done) | rfl) k
  generalize s₁.setTop (entryFrame m #[(.ref a1), .null] 3) = S0 at k0 ⊢
  have k1 : Way p e below S0 s₁ (mkF m 1 #[rv a1, .val .null, .unset] [.null]) := by
    intro t k
    refine k0 t ?_
    refine XS.aloadN X0.here hx rfl (hb hby d_prog_20_method_2_code_0) rfl rfl ?_
    show Steps p.tables e below (s₁.setTop (mkF m 1 #[rv a1, .val .null, .unset] [.null])) _
    exact k
  have k2 : Way p e below S0 s₁ (mkF m 28 #[rv a1, .val .null, .unset] [(.int (0 : Int32))]) := by
    intro t k
    refine k1 t ?_
    refine X0.instanceofNull hx (g := (mkF m 1 #[rv a1, .val .null, .unset] [.null])) rfl rfl (hb hby d_prog_20_method_2_code_1) _ ?_
    show Steps p.tables e below (s₁.setTop (mkF m 4 #[rv a1, .val .null, .unset] [(.int (0 : Int32))])) _
    refine XS.ifYes X0.here hx rfl (pc0 := 4) (pc' := 27) rfl (hb hby d_prog_20_method_2_code_4) rfl ((if0 _ _).trans (teq ((by decide) : (0 : Int32) = (0 : Int32))).1) (by decide) (by decide) ?_
    show Steps p.tables e below (s₁.setTop (mkF m 27 #[rv a1, .val .null, .unset] [])) _
    refine XS.iconst X0.here hx rfl (hb hby d_prog_20_method_2_code_27) ?_
    show Steps p.tables e below (s₁.setTop (mkF m 28 #[rv a1, .val .null, .unset] [(.int (0 : Int32))])) _
    exact k
  obtain ⟨fs, hr, hrun, hended, hW, hsame⟩ := X0.leave (v := some (.int (0 : Int32))) (fun h => by rw [Bd.returns] at h; cases h)
  refine ⟨_, _, k2 _ (retN X0 hx (t := .boolean) Bd.returns (by simp) (hb hby d_prog_20_method_2_code_28) hr), hrun, hended, _, _, rfl, ?_, ⟨_, rfl⟩, hW, hsame.mono (by decide) (by decide)⟩
  show Q_eqNull Z wC clC a1 h0 n0 _ s₁.heap _
  rw [e0]
  exact ⟨rfl, N0, rfl⟩
def Q_eqOther0 (Z : State) (wC : Addr) (clC : Cell) (a1 : Addr) (a2 : Addr) (h0 : Heap) (n0 : Nat) (v : Option Value) (h : Heap) (L : List Loc) : Prop := (v = some (.int (0 : Int32))) ∧ (Fr n0 L) ∧ (h = h0)
set_option maxRecDepth 65536 in
set_option maxHeartbeats 40000000 in
theorem eqOther0 (l : Launch) (Z : State) (a0 : Array Value) (hw : ∀ d ∈ tables_1, d.before a0 Z = true) (ws : List Jvm.Cond) (wC : Addr) (clC : Cell) (G : Gst Z wC clC) (a1 : Addr) (a2 : Addr) (h0 : Heap) (n0 : Nat) (O0 : Old Z n0 h0) (a_0 : Exa Z h0 a2 "com/example/stubwright/stubwright/idl/ConstValue$BooleanValue") :
    MetFree l (⟨"com/example/stubwright/stubwright/idl/ConstValue$CharValue", "equals", "(Ljava/lang/Object;)Z"⟩ : MethodName) (head1 (Jvm.Cond.code (⟨"com/example/stubwright/stubwright/idl/ConstValue$CharValue", "equals", "(Ljava/lang/Object;)Z"⟩ : MethodName) prog_20_method_2_code 3 (some .boolean) :: ws) ({ frames := 0, cells := 0, slots := 0, locals := 0 } : Room)) (fun a U => a = #[(.ref a1), (.ref a2)] ∧ Z.Warmed39 U.vm ∧ U.heap = h0) (fun _ _ _ _ _ => True) (fun _ U o U' => ∃ v L, o = .returned v ∧ Q_eqOther0 Z wC clC a1 a2 h0 n0 v U'.heap L ∧ FrameEnd U o U' L ({ frames := 0, cells := 0, slots := 0, locals := 0 } : Room).cells ({ frames := 0, cells := 0, slots := 0, locals := 0 } : Room).slots) := by
  refine MetFree.of_bodySF (plainFor_of_name pn_2) hisR ?_
  intro p e s m args below meth c s₁ Bd hml0 hP hK
  obtain ⟨rfl, hZ, hh⟩ := hP
  have hx := Bd.exec
  have hby := Bd.bytes
  have hml : c.maxLocals = 3 := hml0
  have hown : s.vm.findClass "com/example/stubwright/stubwright/idl/ConstValue$CharValue" = some m.cls := findClass_of_methodNamed Bd.named
  have hnm := (name_of_methodNamed Bd.named Bd.method).1
  have X0 : Stand p l e ({ frames := 0, cells := 0, slots := 0, locals := 0 } : Room) s m #[(.ref a1), (.ref a2)] below meth c s₁ [] 0 0 := Stand.of_body Bd
  have e0 : s₁.heap = h0 := by rw [← hh, Bd.state]; rfl
  have N0 := Fr.nil n0
  obtain ⟨S_high, S_cache, A_C, z_C, e_C⟩ := id G
  have k0 : Way p e below (s₁.setTop (entryFrame m #[(.ref a1), (.ref a2)] 3)) s₁ (mkF m 0 #[rv a1, rv a2, .unset] []) := fun t k => castTop (by first | (simp [entryFrame, mkF, argsToLocals, Value.category]; done) | rfl) k
  generalize s₁.setTop (entryFrame m #[(.ref a1), (.ref a2)] 3) = S0 at k0 ⊢
  have k1 : Way p e below S0 s₁ (mkF m 1 #[rv a1, rv a2, .unset] [(.ref a2)]) := by
    intro t k
    refine k0 t ?_
    refine XS.aloadN X0.here hx rfl (hb hby d_prog_20_method_2_code_0) rfl rfl ?_
    show Steps p.tables e below (s₁.setTop (mkF m 1 #[rv a1, rv a2, .unset] [(.ref a2)])) _
    exact k
  obtain ⟨T2, X2, e2, st2⟩ := instNo X0 hx hZ hown (hw _ (List.mem_of_getElem? (i := 22) rfl)) e0 a_0 (own_nosub (hw _ (List.mem_of_getElem? (i := 43) rfl)) (hw _ (List.mem_of_getElem? (i := 2) rfl)) (NS.step (hw _ (List.mem_of_getElem? (i := 43) rfl)) (NS.step (hw _ (List.mem_of_getElem? (i := 44) rfl)) (own_root (hw _ (List.mem_of_getElem? (i := 33) rfl)) (hw _ (List.mem_of_getElem? (i := 2) rfl)) (by decide)) (by decide)) (by decide)) (by decide)) (g := (mkF m 1 #[rv a1, rv a2, .unset] [(.ref a2)])) rfl rfl (hb hby d_prog_20_method_2_code_1)
  have k3 : Way p e below S0 T2 (mkF m 4 #[rv a1, rv a2, .unset] [(.int (0 : Int32))]) := fun t k => k1 t (st2 _ k)
  have k4 : Way p e below S0 T2 (mkF m 28 #[rv a1, rv a2, .unset] [(.int (0 : Int32))]) := by
    intro t k
    refine k3 t ?_
    refine XS.ifYes X2.here hx rfl (pc0 := 4) (pc' := 27) rfl (hb hby d_prog_20_method_2_code_4) rfl ((if0 _ _).trans (teq ((by decide) : (0 : Int32) = (0 : Int32))).1) (by decide) (by decide) ?_
    show Steps p.tables e below (T2.setTop (mkF m 27 #[rv a1, rv a2, .unset] [])) _
    refine XS.iconst X2.here hx rfl (hb hby d_prog_20_method_2_code_27) ?_
    show Steps p.tables e below (T2.setTop (mkF m 28 #[rv a1, rv a2, .unset] [(.int (0 : Int32))])) _
    exact k
  obtain ⟨fs, hr, hrun, hended, hW, hsame⟩ := X2.leave (v := some (.int (0 : Int32))) (fun h => by rw [Bd.returns] at h; cases h)
  refine ⟨_, _, k4 _ (retN X2 hx (t := .boolean) Bd.returns (by simp) (hb hby d_prog_20_method_2_code_28) hr), hrun, hended, _, _, rfl, ?_, ⟨_, rfl⟩, hW, hsame.mono (by decide) (by decide)⟩
  show Q_eqOther0 Z wC clC a1 a2 h0 n0 _ T2.heap _
  rw [e2]
  exact ⟨rfl, N0, rfl⟩
def Q_eqOther1 (Z : State) (wC : Addr) (clC : Cell) (a1 : Addr) (a2 : Addr) (h0 : Heap) (n0 : Nat) (v : Option Value) (h : Heap) (L : List Loc) : Prop := (v = some (.int (0 : Int32))) ∧ (Fr n0 L) ∧ (h = h0)
set_option maxRecDepth 65536 in
set_option maxHeartbeats 40000000 in
theorem eqOther1 (l : Launch) (Z : State) (a0 : Array Value) (hw : ∀ d ∈ tables_1, d.before a0 Z = true) (ws : List Jvm.Cond) (wC : Addr) (clC : Cell) (G : Gst Z wC clC) (a1 : Addr) (a2 : Addr) (h0 : Heap) (n0 : Nat) (O0 : Old Z n0 h0) (a_0 : Exa Z h0 a2 "java/lang/Integer") :
    MetFree l (⟨"com/example/stubwright/stubwright/idl/ConstValue$CharValue", "equals", "(Ljava/lang/Object;)Z"⟩ : MethodName) (head1 (Jvm.Cond.code (⟨"com/example/stubwright/stubwright/idl/ConstValue$CharValue", "equals", "(Ljava/lang/Object;)Z"⟩ : MethodName) prog_20_method_2_code 3 (some .boolean) :: ws) ({ frames := 0, cells := 0, slots := 0, locals := 0 } : Room)) (fun a U => a = #[(.ref a1), (.ref a2)] ∧ Z.Warmed39 U.vm ∧ U.heap = h0) (fun _ _ _ _ _ => True) (fun _ U o U' => ∃ v L, o = .returned v ∧ Q_eqOther1 Z wC clC a1 a2 h0 n0 v U'.heap L ∧ FrameEnd U o U' L ({ frames := 0, cells := 0, slots := 0, locals := 0 } : Room).cells ({ frames := 0, cells := 0, slots := 0, locals := 0 } : Room).slots) := by
  refine MetFree.of_bodySF (plainFor_of_name pn_2) hisR ?_
  intro p e s m args below meth c s₁ Bd hml0 hP hK
  obtain ⟨rfl, hZ, hh⟩ := hP
  have hx := Bd.exec
  have hby := Bd.bytes
  have hml : c.maxLocals = 3 := hml0
  have hown : s.vm.findClass "com/example/stubwright/stubwright/idl/ConstValue$CharValue" = some m.cls := findClass_of_methodNamed Bd.named
  have hnm := (name_of_methodNamed Bd.named Bd.method).1
  have X0 : Stand p l e ({ frames := 0, cells := 0, slots := 0, locals := 0 } : Room) s m #[(.ref a1), (.ref a2)] below meth c s₁ [] 0 0 := Stand.of_body Bd
  have e0 : s₁.heap = h0 := by rw [← hh, Bd.state]; rfl
  have N0 := Fr.nil n0
  obtain ⟨S_high, S_cache, A_C, z_C, e_C⟩ := id G
  have k0 : Way p e below (s₁.setTop (entryFrame m #[(.ref a1), (.ref a2)] 3)) s₁ (mkF m 0 #[rv a1, rv a2, .unset] []) := fun t k => castTop (by first | (simp [entryFrame, mkF, argsToLocals, Value.category]; done) | rfl) k
  generalize s₁.setTop (entryFrame m #[(.ref a1), (.ref a2)] 3) = S0 at k0 ⊢
  have k1 : Way p e below S0 s₁ (mkF m 1 #[rv a1, rv a2, .unset] [(.ref a2)]) := by
    intro t k
    refine k0 t ?_
    refine XS.aloadN X0.here hx rfl (hb hby d_prog_20_method_2_code_0) rfl rfl ?_
    show Steps p.tables e below (s₁.setTop (mkF m 1 #[rv a1, rv a2, .unset] [(.ref a2)])) _
    exact k
  obtain ⟨T2, X2, e2, st2⟩ := instNo X0 hx hZ hown (hw _ (List.mem_of_getElem? (i := 22) rfl)) e0 a_0 (own_nosub (hw _ (List.mem_of_getElem? (i := 31) rfl)) (hw _ (List.mem_of_getElem? (i := 2) rfl)) (NS.step (hw _ (List.mem_of_getElem? (i := 31) rfl)) (NS.step (hw _ (List.mem_of_getElem? (i := 32) rfl)) (own_root (hw _ (List.mem_of_getElem? (i := 33) rfl)) (hw _ (List.mem_of_getElem? (i := 2) rfl)) (by decide)) (by decide)) (by decide)) (by decide)) (g := (mkF m 1 #[rv a1, rv a2, .unset] [(.ref a2)])) rfl rfl (hb hby d_prog_20_method_2_code_1)
  have k3 : Way p e below S0 T2 (mkF m 4 #[rv a1, rv a2, .unset] [(.int (0 : Int32))]) := fun t k => k1 t (st2 _ k)
  have k4 : Way p e below S0 T2 (mkF m 28 #[rv a1, rv a2, .unset] [(.int (0 : Int32))]) := by
    intro t k
    refine k3 t ?_
    refine XS.ifYes X2.here hx rfl (pc0 := 4) (pc' := 27) rfl (hb hby d_prog_20_method_2_code_4) rfl ((if0 _ _).trans (teq ((by decide) : (0 : Int32) = (0 : Int32))).1) (by decide) (by decide) ?_
    show Steps p.tables e below (T2.setTop (mkF m 27 #[rv a1, rv a2, .unset] [])) _
    refine XS.iconst X2.here hx rfl (hb hby d_prog_20_method_2_code_27) ?_
    show Steps p.tables e below (T2.setTop (mkF m 28 #[rv a1, rv a2, .unset] [(.int (0 : Int32))])) _
    exact k
  obtain ⟨fs, hr, hrun, hended, hW, hsame⟩ := X2.leave (v := some (.int (0 : Int32))) (fun h => by rw [Bd.returns] at h; cases h)
  refine ⟨_, _, k4 _ (retN X2 hx (t := .boolean) Bd.returns (by simp) (hb hby d_prog_20_method_2_code_28) hr), hrun, hended, _, _, rfl, ?_, ⟨_, rfl⟩, hW, hsame.mono (by decide) (by decide)⟩
  show Q_eqOther1 Z wC clC a1 a2 h0 n0 _ T2.heap _
  rw [e2]
  exact ⟨rfl, N0, rfl⟩
def Q_law_met (Z : State) (wC : Addr) (clC : Cell) (p1 : Int32) (p2 : Int32) (p3 : Int32) (h0 : Heap) (n0 : Nat) (v : Option Value) (h : Heap) (L : List Loc) : Prop := (v = some (.int (1 : Int32))) ∧ (Fr n0 L)
set_option maxRecDepth 65536 in
set_option maxHeartbeats 40000000 in
theorem law_met (l : Launch) (Z : State) (a0 : Array Value) (hw : ∀ d ∈ tables_1, d.before a0 Z = true) (ws : List Jvm.Cond) (wC : Addr) (clC : Cell) (G : Gst Z wC clC) (p1 : Int32) (p2 : Int32) (p3 : Int32) (h0 : Heap) (n0 : Nat) (O0 : Old Z n0 h0) :
    MetFree l x (head1 (Jvm.Cond.code x code maxLocals ret :: ws) room_1) (fun a U => a = #[(.int p1), (.int p2), (.int p3)] ∧ Z.Warmed39 U.vm ∧ U.heap = h0) (fun _ _ _ _ _ => True) (fun _ U o U' => ∃ v L, o = .returned v ∧ Q_law_met Z wC clC p1 p2 p3 h0 n0 v U'.heap L ∧ FrameEnd U o U' L 16 128) := by
  refine MetFree.of_bodySF (plainFor_of_name pn_5) hisR ?_
  intro p e s m args below meth c s₁ Bd hml0 hP hK
  obtain ⟨rfl, hZ, hh⟩ := hP
  have hx := Bd.exec
  have hby := Bd.bytes
  have hml : c.maxLocals = 10 := hml0
  have hown : s.vm.findClass "com/example/stubwright/stubwright/idl/CharValueEqualsPinLaw" = some m.cls := findClass_of_methodNamed Bd.named
  have hnm := (name_of_methodNamed Bd.named Bd.method).1
  have X0 : Stand p l e room_1 s m #[(.int p1), (.int p2), (.int p3)] below meth c s₁ [] 0 0 := Stand.of_body Bd
  have e0 : s₁.heap = h0 := by rw [← hh, Bd.state]; rfl
  have N0 := Fr.nil n0
  obtain ⟨S_high, S_cache, A_C, z_C, e_C⟩ := id G
  have k0 : Way p e below (s₁.setTop (entryFrame m #[(.int p1), (.int p2), (.int p3)] maxLocals)) s₁ (mkF m 0 #[iv p1, iv p2, iv p3, .unset, .unset, .unset, .unset, .unset, .unset, .unset] []) := fun t k => castTop (by first | (simp [entryFrame, mkF, argsToLocals, Value.category, maxLocals]; done) | rfl) k
  generalize s₁.setTop (entryFrame m #[(.int p1), (.int p2), (.int p3)] maxLocals) = S0 at k0 ⊢
  have k1 : Way p e below S0 s₁ (mkF m 11 #[iv p1, iv p2, iv p3, iv ((p1 &&& (65535 : Int32)).toUInt32.toUInt16.toUInt32.toInt32), iv (p3 &&& (3 : Int32)), .unset, .unset, .unset, .unset, .unset] []) := by
    intro t k
    refine k0 t ?_
    refine XS.iloadN X0.here hx rfl (hb hby at_0) rfl ?_
    show Steps p.tables e below (s₁.setTop (mkF m 1 #[iv p1, iv p2, iv p3, .unset, .unset, .unset, .unset, .unset, .unset, .unset] [(.int p1)])) _
    refine X0.ldcInt hx hown (mvT hZ (hw _ (List.mem_of_getElem? (i := 0) rfl))) (g := (mkF m 1 #[iv p1, iv p2, iv p3, .unset, .unset, .unset, .unset, .unset, .unset, .unset] [(.int p1)])) rfl (hb hby at_1) _ ?_
    show Steps p.tables e below (s₁.setTop (mkF m 3 #[iv p1, iv p2, iv p3, .unset, .unset, .unset, .unset, .unset, .unset, .unset] [(.int (65535 : Int32)), (.int p1)])) _
    refine XS.iand X0.here hx rfl (hb hby at_3) rfl ?_
    show Steps p.tables e below (s₁.setTop (mkF m 4 #[iv p1, iv p2, iv p3, .unset, .unset, .unset, .unset, .unset, .unset, .unset] [(.int (p1 &&& (65535 : Int32)))])) _
    refine XS.i2c X0.here hx rfl (hb hby at_4) rfl ?_
    show Steps p.tables e below (s₁.setTop (mkF m 5 #[iv p1, iv p2, iv p3, .unset, .unset, .unset, .unset, .unset, .unset, .unset] [(.int ((p1 &&& (65535 : Int32)).toUInt32.toUInt16.toUInt32.toInt32))])) _
    refine XS.istoreN X0.here hx rfl (hb hby at_5) rfl (l' := #[iv p1, iv p2, iv p3, iv ((p1 &&& (65535 : Int32)).toUInt32.toUInt16.toUInt32.toInt32), .unset, .unset, .unset, .unset, .unset, .unset]) rfl ?_
    show Steps p.tables e below (s₁.setTop (mkF m 6 #[iv p1, iv p2, iv p3, iv ((p1 &&& (65535 : Int32)).toUInt32.toUInt16.toUInt32.toInt32), .unset, .unset, .unset, .unset, .unset, .unset] [])) _
    refine XS.iloadN X0.here hx rfl (hb hby at_6) rfl ?_
    show Steps p.tables e below (s₁.setTop (mkF m 7 #[iv p1, iv p2, iv p3, iv ((p1 &&& (65535 : Int32)).toUInt32.toUInt16.toUInt32.toInt32), .unset, .unset, .unset, .unset, .unset, .unset] [(.int p3)])) _
    refine XS.iconst X0.here hx rfl (hb hby at_7) ?_
    show Steps p.tables e below (s₁.setTop (mkF m 8 #[iv p1, iv p2, iv p3, iv ((p1 &&& (65535 : Int32)).toUInt32.toUInt16.toUInt32.toInt32), .unset, .unset, .unset, .unset, .unset, .unset] [(.int (3 : Int32)), (.int p3)])) _
    refine XS.iand X0.here hx rfl (hb hby at_8) rfl ?_
    show Steps p.tables e below (s₁.setTop (mkF m 9 #[iv p1, iv p2, iv p3, iv ((p1 &&& (65535 : Int32)).toUInt32.toUInt16.toUInt32.toInt32), .unset, .unset, .unset, .unset, .unset, .unset] [(.int (p3 &&& (3 : Int32)))])) _
    refine XS.istore X0.here hx rfl (hb hby at_9) rfl (l' := #[iv p1, iv p2, iv p3, iv ((p1 &&& (65535 : Int32)).toUInt32.toUInt16.toUInt32.toInt32), iv (p3 &&& (3 : Int32)), .unset, .unset, .unset, .unset, .unset]) rfl ?_
    show Steps p.tables e below (s₁.setTop (mkF m 11 #[iv p1, iv p2, iv p3, iv ((p1 &&& (65535 : Int32)).toUInt32.toUInt16.toUInt32.toInt32), iv (p3 &&& (3 : Int32)), .unset, .unset, .unset, .unset, .unset] [])) _
    exact k
  have hr2 : (p3 &&& (3 : Int32)) = (0 : Int32) ∨ (p3 &&& (3 : Int32)) = (1 : Int32) ∨ (p3 &&& (3 : Int32)) = (2 : Int32) ∨ (p3 &&& (3 : Int32)) = (3 : Int32) := own_mask3 _
  rcases hr2 with hi2 | hi2 | hi2 | hi2
  · have k3 : Way p e below S0 s₁ (mkF m 11 #[iv p1, iv p2, iv p3, iv ((p1 &&& (65535 : Int32)).toUInt32.toUInt16.toUInt32.toInt32), iv (0 : Int32), .unset, .unset, .unset, .unset, .unset] []) := by have q := k1; rw [hi2] at q; exact q
    have k4 : Way p e below S0 s₁ (mkF m 52 #[iv p1, iv p2, iv p3, iv ((p1 &&& (65535 : Int32)).toUInt32.toUInt16.toUInt32.toInt32), iv (0 : Int32), iv ((p1 &&& (65535 : Int32)).toUInt32.toUInt16.toUInt32.toInt32), .unset, .unset, .unset, .unset] []) := by
      intro t k
      refine k3 t ?_
      refine XS.iload X0.here hx rfl (hb hby at_11) rfl ?_
      show Steps p.tables e below (s₁.setTop (mkF m 13 #[iv p1, iv p2, iv p3, iv ((p1 &&& (65535 : Int32)).toUInt32.toUInt16.toUInt32.toInt32), iv (0 : Int32), .unset, .unset, .unset, .unset, .unset] [(.int (0 : Int32))])) _
      refine XS.ifNo X0.here hx rfl (hb hby at_13) rfl ((if0 _ _).trans (teq ((by decide) : (0 : Int32) = (0 : Int32))).2) ?_
      show Steps p.tables e below (s₁.setTop (mkF m 16 #[iv p1, iv p2, iv p3, iv ((p1 &&& (65535 : Int32)).toUInt32.toUInt16.toUInt32.toInt32), iv (0 : Int32), .unset, .unset, .unset, .unset, .unset] [])) _
      refine XS.iloadN X0.here hx rfl (hb hby at_16) rfl ?_
      show Steps p.tables e below (s₁.setTop (mkF m 17 #[iv p1, iv p2, iv p3, iv ((p1 &&& (65535 : Int32)).toUInt32.toUInt16.toUInt32.toInt32), iv (0 : Int32), .unset, .unset, .unset, .unset, .unset] [(.int ((p1 &&& (65535 : Int32)).toUInt32.toUInt16.toUInt32.toInt32))])) _
      refine XS.istore X0.here hx rfl (hb hby at_17) rfl (l' := #[iv p1, iv p2, iv p3, iv ((p1 &&& (65535 : Int32)).toUInt32.toUInt16.toUInt32.toInt32), iv (0 : Int32), iv ((p1 &&& (65535 : Int32)).toUInt32.toUInt16.toUInt32.toInt32), .unset, .unset, .unset, .unset]) rfl ?_
      show Steps p.tables e below (s₁.setTop (mkF m 19 #[iv p1, iv p2, iv p3, iv ((p1 &&& (65535 : Int32)).toUInt32.toUInt16.toUInt32.toInt32), iv (0 : Int32), iv ((p1 &&& (65535 : Int32)).toUInt32.toUInt16.toUInt32.toInt32), .unset, .unset, .unset, .unset] [])) _
      refine XS.goto X0.here hx rfl (pc0 := 19) (pc' := 52) rfl (hb hby at_19) (by decide) (by decide) ?_
      show Steps p.tables e below (s₁.setTop (mkF m 52 #[iv p1, iv p2, iv p3, iv ((p1 &&& (65535 : Int32)).toUInt32.toUInt16.toUInt32.toInt32), iv (0 : Int32), iv ((p1 &&& (65535 : Int32)).toUInt32.toUInt16.toUInt32.toInt32), .unset, .unset, .unset, .unset] [])) _
      exact k
    obtain ⟨T5, h5, X5, e5, E5, A5, D5, U5, st5⟩ := newO X0 hx hZ hown (hw _ (List.mem_of_getElem? (i := 1) rfl)) (hw _ (List.mem_of_getElem? (i := 2) rfl)) (hw _ (List.mem_of_getElem? (i := 3) rfl)) e0 (g := (mkF m 52 #[iv p1, iv p2, iv p3, iv ((p1 &&& (65535 : Int32)).toUInt32.toUInt16.toUInt32.toInt32), iv (0 : Int32), iv ((p1 &&& (65535 : Int32)).toUInt32.toUInt16.toUInt32.toInt32), .unset, .unset, .unset, .unset] [])) rfl (hb hby at_52) (by decide) (by decide)
    obtain ⟨b5, g5⟩ : ∃ z, z = h0.size := ⟨_, rfl⟩
    rw [← g5] at A5 D5 U5 st5
    have O5 := O0.ext E5
    have i5_value : Fld Z h5 b5 "com/example/stubwright/stubwright/idl/ConstValue$CharValue" "value" "C" (.int (0 : Int32)) := D5 (Or.inr (hw _ (List.mem_of_getElem? (i := 16) rfl))) (ty := .char) (by decide)
    have k6 : Way p e below S0 T5 (mkF m 55 #[iv p1, iv p2, iv p3, iv ((p1 &&& (65535 : Int32)).toUInt32.toUInt16.toUInt32.toInt32), iv (0 : Int32), iv ((p1 &&& (65535 : Int32)).toUInt32.toUInt16.toUInt32.toInt32), .unset, .unset, .unset, .unset] [(.ref b5)]) := fun t k => k4 t (st5 _ k)
    have k7 : Way p e below S0 T5 (mkF m 57 #[iv p1, iv p2, iv p3, iv ((p1 &&& (65535 : Int32)).toUInt32.toUInt16.toUInt32.toInt32), iv (0 : Int32), iv ((p1 &&& (65535 : Int32)).toUInt32.toUInt16.toUInt32.toInt32), .unset, .unset, .unset, .unset] [(.int ((p1 &&& (65535 : Int32)).toUInt32.toUInt16.toUInt32.toInt32)), (.ref b5), (.ref b5)]) := by
      intro t k
      refine k6 t ?_
      refine XS.dup X5.here hx rfl (hb hby at_55) rfl rfl ?_
      show Steps p.tables e below (T5.setTop (mkF m 56 #[iv p1, iv p2, iv p3, iv ((p1 &&& (65535 : Int32)).toUInt32.toUInt16.toUInt32.toInt32), iv (0 : Int32), iv ((p1 &&& (65535 : Int32)).toUInt32.toUInt16.toUInt32.toInt32), .unset, .unset, .unset, .unset] [(.ref b5), (.ref b5)])) _
      refine XS.iloadN X5.here hx rfl (hb hby at_56) rfl ?_
      show Steps p.tables e below (T5.setTop (mkF m 57 #[iv p1, iv p2, iv p3, iv ((p1 &&& (65535 : Int32)).toUInt32.toUInt16.toUInt32.toInt32), iv (0 : Int32), iv ((p1 &&& (65535 : Int32)).toUInt32.toUInt16.toUInt32.toInt32), .unset, .unset, .unset, .unset] [(.int ((p1 &&& (65535 : Int32)).toUInt32.toUInt16.toUInt32.toInt32)), (.ref b5), (.ref b5)])) _
      exact k
    have ge8 : n0 ≤ b5 := Nat.le_trans (own_old O0) (Nat.le_of_eq g5.symm)
    obtain ⟨_, _, ⟨T9, L9, kk9, nn9⟩, -, X9, ⟨Lc9, hQ9, l9, y9, z9⟩, st9⟩ := X5.specialBack hx (y := (⟨"com/example/stubwright/stubwright/idl/ConstValue$CharValue", "<init>", "(C)V"⟩ : MethodName)) rfl hown (mvT hZ (hw _ (List.mem_of_getElem? (i := 4) rfl))) (mvT hZ (hw _ (List.mem_of_getElem? (i := 5) rfl))) (mvT hZ (hw _ (List.mem_of_getElem? (i := 6) rfl))) (by decide) (backOf (W := 1) (cvInit l Z a0 hw [] wC clC G b5 ((p1 &&& (65535 : Int32)).toUInt32.toUInt16.toUInt32.toInt32) h5 n0 O5 (A5 : Exa Z h5 b5 "com/example/stubwright/stubwright/idl/ConstValue$CharValue") (i5_value : Fld Z h5 b5 "com/example/stubwright/stubwright/idl/ConstValue$CharValue" "value" "C" (.int (0 : Int32))) (ge8 : n0 ≤ b5) (own_i2c _ : ((p1 &&& (65535 : Int32)).toUInt32.toUInt16.toUInt32.toInt32).toUInt32.toUInt16.toUInt32.toInt32 = ((p1 &&& (65535 : Int32)).toUInt32.toUInt16.toUInt32.toInt32))) hZ (hw _ (List.mem_of_getElem? (i := 6) rfl)) (hw _ (List.mem_of_getElem? (i := 3) rfl)) (by decide) (by decide)) (g := (mkF m 57 #[iv p1, iv p2, iv p3, iv ((p1 &&& (65535 : Int32)).toUInt32.toUInt16.toUInt32.toInt32), iv (0 : Int32), iv ((p1 &&& (65535 : Int32)).toUInt32.toUInt16.toUInt32.toInt32), .unset, .unset, .unset, .unset] [(.int ((p1 &&& (65535 : Int32)).toUInt32.toUInt16.toUInt32.toInt32)), (.ref b5), (.ref b5)])) rfl (by rw [hml]; rfl) (Steps.refl _) (a := b5) (argsL := [(.int ((p1 &&& (65535 : Int32)).toUInt32.toUInt16.toUInt32.toInt32))]) (rest := [(.ref b5)]) (lenOf pd_2 rfl) rfl (by show 2 * 0 + _ ≤ _; exact Nat.le_of_eq rfl) (hb hby at_57) (fun _ _ => ⟨rfl, e5, (by decide : 1 + 0 ≤ _), (by decide : 1 + 0 ≤ _)⟩)
    dsimp only [Pt.U, Pt.locs, Pt.cells, Pt.slots] at X9 l9 y9 z9 st9 hQ9
    subst l9 y9 z9
    obtain ⟨rfl, Nq9, Kq9, po9_0, po9_1⟩ := hQ9
    have N9 := Fr.app N0 Nq9
    have O9 := O5.keep Kq9 (allS ge8 all0)
    have k10 : Way p e below S0 T9 (mkF m 60 #[iv p1, iv p2, iv p3, iv ((p1 &&& (65535 : Int32)).toUInt32.toUInt16.toUInt32.toInt32), iv (0 : Int32), iv ((p1 &&& (65535 : Int32)).toUInt32.toUInt16.toUInt32.toInt32), .unset, .unset, .unset, .unset] [(.ref b5)]) := fun t k => k7 t (st9.trans k)
    have k11 : Way p e below S0 T9 (mkF m 62 #[iv p1, iv p2, iv p3, iv ((p1 &&& (65535 : Int32)).toUInt32.toUInt16.toUInt32.toInt32), iv (0 : Int32), iv ((p1 &&& (65535 : Int32)).toUInt32.toUInt16.toUInt32.toInt32), rv b5, .unset, .unset, .unset] []) := by
      intro t k
      refine k10 t ?_
      refine XS.astore X9.here hx rfl (hb hby at_60) rfl rfl (l' := #[iv p1, iv p2, iv p3, iv ((p1 &&& (65535 : Int32)).toUInt32.toUInt16.toUInt32.toInt32), iv (0 : Int32), iv ((p1 &&& (65535 : Int32)).toUInt32.toUInt16.toUInt32.toInt32), rv b5, .unset, .unset, .unset]) rfl ?_
      show Steps p.tables e below (T9.setTop (mkF m 62 #[iv p1, iv p2, iv p3, iv ((p1 &&& (65535 : Int32)).toUInt32.toUInt16.toUInt32.toInt32), iv (0 : Int32), iv ((p1 &&& (65535 : Int32)).toUInt32.toUInt16.toUInt32.toInt32), rv b5, .unset, .unset, .unset] [])) _
      exact k
    obtain ⟨T12, h12, X12, e12, E12, A12, D12, U12, st12⟩ := newO X9 hx hZ hown (hw _ (List.mem_of_getElem? (i := 1) rfl)) (hw _ (List.mem_of_getElem? (i := 2) rfl)) (hw _ (List.mem_of_getElem? (i := 3) rfl)) rfl (g := (mkF m 62 #[iv p1, iv p2, iv p3, iv ((p1 &&& (65535 : Int32)).toUInt32.toUInt16.toUInt32.toInt32), iv (0 : Int32), iv ((p1 &&& (65535 : Int32)).toUInt32.toUInt16.toUInt32.toInt32), rv b5, .unset, .unset, .unset] [])) rfl (hb hby at_62) (by decide) (by decide)
    obtain ⟨b12, g12⟩ : ∃ z, z = T9.heap.size := ⟨_, rfl⟩
    rw [← g12] at A12 D12 U12 st12
    have O12 := O9.ext E12
    have i12_value : Fld Z h12 b12 "com/example/stubwright/stubwright/idl/ConstValue$CharValue" "value" "C" (.int (0 : Int32)) := D12 (Or.inr (hw _ (List.mem_of_getElem? (i := 16) rfl))) (ty := .char) (by decide)
    have k13 : Way p e below S0 T12 (mkF m 65 #[iv p1, iv p2, iv p3, iv ((p1 &&& (65535 : Int32)).toUInt32.toUInt16.toUInt32.toInt32), iv (0 : Int32), iv ((p1 &&& (65535 : Int32)).toUInt32.toUInt16.toUInt32.toInt32), rv b5, .unset, .unset, .unset] [(.ref b12)]) := fun t k => k11 t (st12 _ k)
    have k14 : Way p e below S0 T12 (mkF m 68 #[iv p1, iv p2, iv p3, iv ((p1 &&& (65535 : Int32)).toUInt32.toUInt16.toUInt32.toInt32), iv (0 : Int32), iv ((p1 &&& (65535 : Int32)).toUInt32.toUInt16.toUInt32.toInt32), rv b5, .unset, .unset, .unset] [(.int ((p1 &&& (65535 : Int32)).toUInt32.toUInt16.toUInt32.toInt32)), (.ref b12), (.ref b12)]) := by
      intro t k
      refine k13 t ?_
      refine XS.dup X12.here hx rfl (hb hby at_65) rfl rfl ?_
      show Steps p.tables e below (T12.setTop (mkF m 66 #[iv p1, iv p2, iv p3, iv ((p1 &&& (65535 : Int32)).toUInt32.toUInt16.toUInt32.toInt32), iv (0 : Int32), iv ((p1 &&& (65535 : Int32)).toUInt32.toUInt16.toUInt32.toInt32), rv b5, .unset, .unset, .unset] [(.ref b12), (.ref b12)])) _
      refine XS.iload X12.here hx rfl (hb hby at_66) rfl ?_
      show Steps p.tables e below (T12.setTop (mkF m 68 #[iv p1, iv p2, iv p3, iv ((p1 &&& (65535 : Int32)).toUInt32.toUInt16.toUInt32.toInt32), iv (0 : Int32), iv ((p1 &&& (65535 : Int32)).toUInt32.toUInt16.toUInt32.toInt32), rv b5, .unset, .unset, .unset] [(.int ((p1 &&& (65535 : Int32)).toUInt32.toUInt16.toUInt32.toInt32)), (.ref b12), (.ref b12)])) _
      exact k
    have ge15 : n0 ≤ b12 := Nat.le_trans (own_old O9) (Nat.le_of_eq g12.symm)
    obtain ⟨_, _, ⟨T16, L16, kk16, nn16⟩, -, X16, ⟨Lc16, hQ16, l16, y16, z16⟩, st16⟩ := X12.specialBack hx (y := (⟨"com/example/stubwright/stubwright/idl/ConstValue$CharValue", "<init>", "(C)V"⟩ : MethodName)) rfl hown (mvT hZ (hw _ (List.mem_of_getElem? (i := 4) rfl))) (mvT hZ (hw _ (List.mem_of_getElem? (i := 5) rfl))) (mvT hZ (hw _ (List.mem_of_getElem? (i := 6) rfl))) (by decide) (backOf (W := 1) (cvInit l Z a0 hw [] wC clC G b12 ((p1 &&& (65535 : Int32)).toUInt32.toUInt16.toUInt32.toInt32) h12 n0 O12 (A12 : Exa Z h12 b12 "com/example/stubwright/stubwright/idl/ConstValue$CharValue") (i12_value : Fld Z h12 b12 "com/example/stubwright/stubwright/idl/ConstValue$CharValue" "value" "C" (.int (0 : Int32))) (ge15 : n0 ≤ b12) (own_i2c _ : ((p1 &&& (65535 : Int32)).toUInt32.toUInt16.toUInt32.toInt32).toUInt32.toUInt16.toUInt32.toInt32 = ((p1 &&& (65535 : Int32)).toUInt32.toUInt16.toUInt32.toInt32))) hZ (hw _ (List.mem_of_getElem? (i := 6) rfl)) (hw _ (List.mem_of_getElem? (i := 3) rfl)) (by decide) (by decide)) (g := (mkF m 68 #[iv p1, iv p2, iv p3, iv ((p1 &&& (65535 : Int32)).toUInt32.toUInt16.toUInt32.toInt32), iv (0 : Int32), iv ((p1 &&& (65535 : Int32)).toUInt32.toUInt16.toUInt32.toInt32), rv b5, .unset, .unset, .unset] [(.int ((p1 &&& (65535 : Int32)).toUInt32.toUInt16.toUInt32.toInt32)), (.ref b12), (.ref b12)])) rfl (by rw [hml]; rfl) (Steps.refl _) (a := b12) (argsL := [(.int ((p1 &&& (65535 : Int32)).toUInt32.toUInt16.toUInt32.toInt32))]) (rest := [(.ref b12)]) (lenOf pd_2 rfl) rfl (by show 2 * 0 + _ ≤ _; exact Nat.le_of_eq rfl) (hb hby at_68) (fun _ _ => ⟨rfl, e12, (by decide : 2 + 0 ≤ _), (by decide : 2 + 0 ≤ _)⟩)
    dsimp only [Pt.U, Pt.locs, Pt.cells, Pt.slots] at X16 l16 y16 z16 st16 hQ16
    subst l16 y16 z16
    obtain ⟨rfl, Nq16, Kq16, po16_0, po16_1⟩ := hQ16
    have N16 := Fr.app N9 Nq16
    have O16 := O12.keep Kq16 (allS ge15 all0)
    have k17 : Way p e below S0 T16 (mkF m 71 #[iv p1, iv p2, iv p3, iv ((p1 &&& (65535 : Int32)).toUInt32.toUInt16.toUInt32.toInt32), iv (0 : Int32), iv ((p1 &&& (65535 : Int32)).toUInt32.toUInt16.toUInt32.toInt32), rv b5, .unset, .unset, .unset] [(.ref b12)]) := fun t k => k14 t (st16.trans k)
    have k18 : Way p e below S0 T16 (mkF m 90 #[iv p1, iv p2, iv p3, iv ((p1 &&& (65535 : Int32)).toUInt32.toUInt16.toUInt32.toInt32), iv (0 : Int32), iv ((p1 &&& (65535 : Int32)).toUInt32.toUInt16.toUInt32.toInt32), rv b5, rv b12, iv (1 : Int32), .unset] [(.ref b12), (.ref b5)]) := by
      intro t k
      refine k17 t ?_
      refine XS.astore X16.here hx rfl (hb hby at_71) rfl rfl (l' := #[iv p1, iv p2, iv p3, iv ((p1 &&& (65535 : Int32)).toUInt32.toUInt16.toUInt32.toInt32), iv (0 : Int32), iv ((p1 &&& (65535 : Int32)).toUInt32.toUInt16.toUInt32.toInt32), rv b5, rv b12, .unset, .unset]) rfl ?_
      show Steps p.tables e below (T16.setTop (mkF m 73 #[iv p1, iv p2, iv p3, iv ((p1 &&& (65535 : Int32)).toUInt32.toUInt16.toUInt32.toInt32), iv (0 : Int32), iv ((p1 &&& (65535 : Int32)).toUInt32.toUInt16.toUInt32.toInt32), rv b5, rv b12, .unset, .unset] [])) _
      refine XS.iloadN X16.here hx rfl (hb hby at_73) rfl ?_
      show Steps p.tables e below (T16.setTop (mkF m 74 #[iv p1, iv p2, iv p3, iv ((p1 &&& (65535 : Int32)).toUInt32.toUInt16.toUInt32.toInt32), iv (0 : Int32), iv ((p1 &&& (65535 : Int32)).toUInt32.toUInt16.toUInt32.toInt32), rv b5, rv b12, .unset, .unset] [(.int ((p1 &&& (65535 : Int32)).toUInt32.toUInt16.toUInt32.toInt32))])) _
      refine XS.iload X16.here hx rfl (hb hby at_74) rfl ?_
      show Steps p.tables e below (T16.setTop (mkF m 76 #[iv p1, iv p2, iv p3, iv ((p1 &&& (65535 : Int32)).toUInt32.toUInt16.toUInt32.toInt32), iv (0 : Int32), iv ((p1 &&& (65535 : Int32)).toUInt32.toUInt16.toUInt32.toInt32), rv b5, rv b12, .unset, .unset] [(.int ((p1 &&& (65535 : Int32)).toUInt32.toUInt16.toUInt32.toInt32)), (.int ((p1 &&& (65535 : Int32)).toUInt32.toUInt16.toUInt32.toInt32))])) _
      refine XS.icmpNo X16.here hx rfl (hb hby at_76) rfl (teq (rfl : ((p1 &&& (65535 : Int32)).toUInt32.toUInt16.toUInt32.toInt32) = ((p1 &&& (65535 : Int32)).toUInt32.toUInt16.toUInt32.toInt32))).2 ?_
      show Steps p.tables e below (T16.setTop (mkF m 79 #[iv p1, iv p2, iv p3, iv ((p1 &&& (65535 : Int32)).toUInt32.toUInt16.toUInt32.toInt32), iv (0 : Int32), iv ((p1 &&& (65535 : Int32)).toUInt32.toUInt16.toUInt32.toInt32), rv b5, rv b12, .unset, .unset] [])) _
      refine XS.iconst X16.here hx rfl (hb hby at_79) ?_
      show Steps p.tables e below (T16.setTop (mkF m 80 #[iv p1, iv p2, iv p3, iv ((p1 &&& (65535 : Int32)).toUInt32.toUInt16.toUInt32.toInt32), iv (0 : Int32), iv ((p1 &&& (65535 : Int32)).toUInt32.toUInt16.toUInt32.toInt32), rv b5, rv b12, .unset, .unset] [(.int (1 : Int32))])) _
      refine XS.goto X16.here hx rfl (pc0 := 80) (pc' := 84) rfl (hb hby at_80) (by decide) (by decide) ?_
      show Steps p.tables e below (T16.setTop (mkF m 84 #[iv p1, iv p2, iv p3, iv ((p1 &&& (65535 : Int32)).toUInt32.toUInt16.toUInt32.toInt32), iv (0 : Int32), iv ((p1 &&& (65535 : Int32)).toUInt32.toUInt16.toUInt32.toInt32), rv b5, rv b12, .unset, .unset] [(.int (1 : Int32))])) _
      refine XS.istore X16.here hx rfl (hb hby at_84) rfl (l' := #[iv p1, iv p2, iv p3, iv ((p1 &&& (65535 : Int32)).toUInt32.toUInt16.toUInt32.toInt32), iv (0 : Int32), iv ((p1 &&& (65535 : Int32)).toUInt32.toUInt16.toUInt32.toInt32), rv b5, rv b12, iv (1 : Int32), .unset]) rfl ?_
      show Steps p.tables e below (T16.setTop (mkF m 86 #[iv p1, iv p2, iv p3, iv ((p1 &&& (65535 : Int32)).toUInt32.toUInt16.toUInt32.toInt32), iv (0 : Int32), iv ((p1 &&& (65535 : Int32)).toUInt32.toUInt16.toUInt32.toInt32), rv b5, rv b12, iv (1 : Int32), .unset] [])) _
      refine XS.aload X16.here hx rfl (hb hby at_86) rfl rfl ?_
      show Steps p.tables e below (T16.setTop (mkF m 88 #[iv p1, iv p2, iv p3, iv ((p1 &&& (65535 : Int32)).toUInt32.toUInt16.toUInt32.toInt32), iv (0 : Int32), iv ((p1 &&& (65535 : Int32)).toUInt32.toUInt16.toUInt32.toInt32), rv b5, rv b12, iv (1 : Int32), .unset] [(.ref b5)])) _
      refine XS.aload X16.here hx rfl (hb hby at_88) rfl rfl ?_
      show Steps p.tables e below (T16.setTop (mkF m 90 #[iv p1, iv p2, iv p3, iv ((p1 &&& (65535 : Int32)).toUInt32.toUInt16.toUInt32.toInt32), iv (0 : Int32), iv ((p1 &&& (65535 : Int32)).toUInt32.toUInt16.toUInt32.toInt32), rv b5, rv b12, iv (1 : Int32), .unset] [(.ref b12), (.ref b5)])) _
      exact k
    have f19 : Fld Z T16.heap b5 "com/example/stubwright/stubwright/idl/ConstValue$CharValue" "value" "C" (.int ((p1 &&& (65535 : Int32)).toUInt32.toUInt16.toUInt32.toInt32)) := ((po9_1.ext E12).keep Kq16 (ninS (Nat.ne_of_lt (Nat.lt_of_lt_of_le po9_0.lt (Nat.le_of_eq g12.symm))) nin0))
    have f21 : Exa Z T16.heap b5 "com/example/stubwright/stubwright/idl/ConstValue$CharValue" := ((po9_0.ext E12).keep Kq16)
    obtain ⟨cq20, kq20, qq20a, qq20b, qq20c⟩ := isOf hZ rfl f21
    obtain ⟨_, _, ⟨T20, L20, kk20, nn20⟩, -, X20, ⟨Lc20, hQ20, l20, y20, z20⟩, st20⟩ := X16.virtualBack hx (y := (⟨"com/example/stubwright/stubwright/idl/ConstValue$CharValue", "equals", "(Ljava/lang/Object;)Z"⟩ : MethodName)) (z := (⟨"com/example/stubwright/stubwright/idl/ConstValue$CharValue", "equals", "(Ljava/lang/Object;)Z"⟩ : MethodName)) hown (mvT hZ (hw _ (List.mem_of_getElem? (i := 17) rfl))) (mvT hZ (hw _ (List.mem_of_getElem? (i := 18) rfl))) (notFace_of_selects (args := #[]) (mvT hZ (hw _ (List.mem_of_getElem? (i := 20) rfl)))) (mvT hZ (hw _ (List.mem_of_getElem? (i := 20) rfl))) (mvT hZ (hw _ (List.mem_of_getElem? (i := 19) rfl))) (by decide) (backOf (W := 0) (eqT l Z a0 hw [] wC clC G b5 b12 ((p1 &&& (65535 : Int32)).toUInt32.toUInt16.toUInt32.toInt32) ((p1 &&& (65535 : Int32)).toUInt32.toUInt16.toUInt32.toInt32) T16.heap n0 O16 (po16_0 : Exa Z T16.heap b12 "com/example/stubwright/stubwright/idl/ConstValue$CharValue") (f19 : Fld Z T16.heap b5 "com/example/stubwright/stubwright/idl/ConstValue$CharValue" "value" "C" (.int ((p1 &&& (65535 : Int32)).toUInt32.toUInt16.toUInt32.toInt32))) (po16_1 : Fld Z T16.heap b12 "com/example/stubwright/stubwright/idl/ConstValue$CharValue" "value" "C" (.int ((p1 &&& (65535 : Int32)).toUInt32.toUInt16.toUInt32.toInt32))) (rfl : ((p1 &&& (65535 : Int32)).toUInt32.toUInt16.toUInt32.toInt32) = ((p1 &&& (65535 : Int32)).toUInt32.toUInt16.toUInt32.toInt32))) hZ (hw _ (List.mem_of_getElem? (i := 21) rfl)) (hw _ (List.mem_of_getElem? (i := 3) rfl)) (by decide) (by decide)) qq20a qq20c (g := (mkF m 90 #[iv p1, iv p2, iv p3, iv ((p1 &&& (65535 : Int32)).toUInt32.toUInt16.toUInt32.toInt32), iv (0 : Int32), iv ((p1 &&& (65535 : Int32)).toUInt32.toUInt16.toUInt32.toInt32), rv b5, rv b12, iv (1 : Int32), .unset] [(.ref b12), (.ref b5)])) rfl (by rw [hml]; rfl) (Steps.refl _) (argsL := [(.ref b12)]) (rest := []) (lenOf pd_3 rfl) rfl (by show 2 * 0 + _ ≤ _; exact Nat.le_of_eq rfl) (hb hby at_90) (fun _ _ => ⟨rfl, rfl, (by decide : 2 + 0 ≤ _), (by decide : 2 + 0 ≤ _)⟩)
    dsimp only [Pt.U, Pt.locs, Pt.cells, Pt.slots] at X20 l20 y20 z20 st20 hQ20
    subst l20 y20 z20
    obtain ⟨rfl, Nq20, e20⟩ := hQ20
    have N20 := Fr.app N16 Nq20
    have k22 : Way p e below S0 T20 (mkF m 93 #[iv p1, iv p2, iv p3, iv ((p1 &&& (65535 : Int32)).toUInt32.toUInt16.toUInt32.toInt32), iv (0 : Int32), iv ((p1 &&& (65535 : Int32)).toUInt32.toUInt16.toUInt32.toInt32), rv b5, rv b12, iv (1 : Int32), .unset] [(.int (1 : Int32))]) := fun t k => k18 t (st20.trans k)
    have k23 : Way p e below S0 T20 (mkF m 104 #[iv p1, iv p2, iv p3, iv ((p1 &&& (65535 : Int32)).toUInt32.toUInt16.toUInt32.toInt32), iv (0 : Int32), iv ((p1 &&& (65535 : Int32)).toUInt32.toUInt16.toUInt32.toInt32), rv b5, rv b12, iv (1 : Int32), .unset] [(.ref b5), (.ref b12)]) := by
      intro t k
      refine k22 t ?_
      refine XS.iload X20.here hx rfl (hb hby at_93) rfl ?_
      show Steps p.tables e below (T20.setTop (mkF m 95 #[iv p1, iv p2, iv p3, iv ((p1 &&& (65535 : Int32)).toUInt32.toUInt16.toUInt32.toInt32), iv (0 : Int32), iv ((p1 &&& (65535 : Int32)).toUInt32.toUInt16.toUInt32.toInt32), rv b5, rv b12, iv (1 : Int32), .unset] [(.int (1 : Int32)), (.int (1 : Int32))])) _
      refine XS.icmpYes X20.here hx rfl (pc0 := 95) (pc' := 100) rfl (hb hby at_95) rfl (teq ((by decide) : (1 : Int32) = (1 : Int32))).1 (by decide) (by decide) ?_
      show Steps p.tables e below (T20.setTop (mkF m 100 #[iv p1, iv p2, iv p3, iv ((p1 &&& (65535 : Int32)).toUInt32.toUInt16.toUInt32.toInt32), iv (0 : Int32), iv ((p1 &&& (65535 : Int32)).toUInt32.toUInt16.toUInt32.toInt32), rv b5, rv b12, iv (1 : Int32), .unset] [])) _
      refine XS.aload X20.here hx rfl (hb hby at_100) rfl rfl ?_
      show Steps p.tables e below (T20.setTop (mkF m 102 #[iv p1, iv p2, iv p3, iv ((p1 &&& (65535 : Int32)).toUInt32.toUInt16.toUInt32.toInt32), iv (0 : Int32), iv ((p1 &&& (65535 : Int32)).toUInt32.toUInt16.toUInt32.toInt32), rv b5, rv b12, iv (1 : Int32), .unset] [(.ref b12)])) _
      refine XS.aload X20.here hx rfl (hb hby at_102) rfl rfl ?_
      show Steps p.tables e below (T20.setTop (mkF m 104 #[iv p1, iv p2, iv p3, iv ((p1 &&& (65535 : Int32)).toUInt32.toUInt16.toUInt32.toInt32), iv (0 : Int32), iv ((p1 &&& (65535 : Int32)).toUInt32.toUInt16.toUInt32.toInt32), rv b5, rv b12, iv (1 : Int32), .unset] [(.ref b5), (.ref b12)])) _
      exact k
    obtain ⟨cq24, kq24, qq24a, qq24b, qq24c⟩ := isOf hZ e20 po16_0
    obtain ⟨_, _, ⟨T24, L24, kk24, nn24⟩, -, X24, ⟨Lc24, hQ24, l24, y24, z24⟩, st24⟩ := X20.virtualBack hx (y := (⟨"com/example/stubwright/stubwright/idl/ConstValue$CharValue", "equals", "(Ljava/lang/Object;)Z"⟩ : MethodName)) (z := (⟨"com/example/stubwright/stubwright/idl/ConstValue$CharValue", "equals", "(Ljava/lang/Object;)Z"⟩ : MethodName)) hown (mvT hZ (hw _ (List.mem_of_getElem? (i := 17) rfl))) (mvT hZ (hw _ (List.mem_of_getElem? (i := 18) rfl))) (notFace_of_selects (args := #[]) (mvT hZ (hw _ (List.mem_of_getElem? (i := 20) rfl)))) (mvT hZ (hw _ (List.mem_of_getElem? (i := 20) rfl))) (mvT hZ (hw _ (List.mem_of_getElem? (i := 19) rfl))) (by decide) (backOf (W := 0) (eqT l Z a0 hw [] wC clC G b12 b5 ((p1 &&& (65535 : Int32)).toUInt32.toUInt16.toUInt32.toInt32) ((p1 &&& (65535 : Int32)).toUInt32.toUInt16.toUInt32.toInt32) T16.heap n0 O16 (f21 : Exa Z T16.heap b5 "com/example/stubwright/stubwright/idl/ConstValue$CharValue") (po16_1 : Fld Z T16.heap b12 "com/example/stubwright/stubwright/idl/ConstValue$CharValue" "value" "C" (.int ((p1 &&& (65535 : Int32)).toUInt32.toUInt16.toUInt32.toInt32))) (f19 : Fld Z T16.heap b5 "com/example/stubwright/stubwright/idl/ConstValue$CharValue" "value" "C" (.int ((p1 &&& (65535 : Int32)).toUInt32.toUInt16.toUInt32.toInt32))) (rfl : ((p1 &&& (65535 : Int32)).toUInt32.toUInt16.toUInt32.toInt32) = ((p1 &&& (65535 : Int32)).toUInt32.toUInt16.toUInt32.toInt32))) hZ (hw _ (List.mem_of_getElem? (i := 21) rfl)) (hw _ (List.mem_of_getElem? (i := 3) rfl)) (by decide) (by decide)) qq24a qq24c (g := (mkF m 104 #[iv p1, iv p2, iv p3, iv ((p1 &&& (65535 : Int32)).toUInt32.toUInt16.toUInt32.toInt32), iv (0 : Int32), iv ((p1 &&& (65535 : Int32)).toUInt32.toUInt16.toUInt32.toInt32), rv b5, rv b12, iv (1 : Int32), .unset] [(.ref b5), (.ref b12)])) rfl (by rw [hml]; rfl) (Steps.refl _) (argsL := [(.ref b5)]) (rest := []) (lenOf pd_3 rfl) rfl (by show 2 * 0 + _ ≤ _; exact Nat.le_of_eq rfl) (hb hby at_104) (fun _ _ => ⟨rfl, e20, (by decide : 2 + 0 ≤ _), (by decide : 2 + 0 ≤ _)⟩)
    dsimp only [Pt.U, Pt.locs, Pt.cells, Pt.slots] at X24 l24 y24 z24 st24 hQ24
    subst l24 y24 z24
    obtain ⟨rfl, Nq24, e24⟩ := hQ24
    have N24 := Fr.app N20 Nq24
    have k25 : Way p e below S0 T24 (mkF m 107 #[iv p1, iv p2, iv p3, iv ((p1 &&& (65535 : Int32)).toUInt32.toUInt16.toUInt32.toInt32), iv (0 : Int32), iv ((p1 &&& (65535 : Int32)).toUInt32.toUInt16.toUInt32.toInt32), rv b5, rv b12, iv (1 : Int32), .unset] [(.int (1 : Int32))]) := fun t k => k23 t (st24.trans k)
    have k26 : Way p e below S0 T24 (mkF m 118 #[iv p1, iv p2, iv p3, iv ((p1 &&& (65535 : Int32)).toUInt32.toUInt16.toUInt32.toInt32), iv (0 : Int32), iv ((p1 &&& (65535 : Int32)).toUInt32.toUInt16.toUInt32.toInt32), rv b5, rv b12, iv (1 : Int32), .unset] [(.ref b5), (.ref b5)]) := by
      intro t k
      refine k25 t ?_
      refine XS.iload X24.here hx rfl (hb hby at_107) rfl ?_
      show Steps p.tables e below (T24.setTop (mkF m 109 #[iv p1, iv p2, iv p3, iv ((p1 &&& (65535 : Int32)).toUInt32.toUInt16.toUInt32.toInt32), iv (0 : Int32), iv ((p1 &&& (65535 : Int32)).toUInt32.toUInt16.toUInt32.toInt32), rv b5, rv b12, iv (1 : Int32), .unset] [(.int (1 : Int32)), (.int (1 : Int32))])) _
      refine XS.icmpYes X24.here hx rfl (pc0 := 109) (pc' := 114) rfl (hb hby at_109) rfl (teq ((by decide) : (1 : Int32) = (1 : Int32))).1 (by decide) (by decide) ?_
      show Steps p.tables e below (T24.setTop (mkF m 114 #[iv p1, iv p2, iv p3, iv ((p1 &&& (65535 : Int32)).toUInt32.toUInt16.toUInt32.toInt32), iv (0 : Int32), iv ((p1 &&& (65535 : Int32)).toUInt32.toUInt16.toUInt32.toInt32), rv b5, rv b12, iv (1 : Int32), .unset] [])) _
      refine XS.aload X24.here hx rfl (hb hby at_114) rfl rfl ?_
      show Steps p.tables e below (T24.setTop (mkF m 116 #[iv p1, iv p2, iv p3, iv ((p1 &&& (65535 : Int32)).toUInt32.toUInt16.toUInt32.toInt32), iv (0 : Int32), iv ((p1 &&& (65535 : Int32)).toUInt32.toUInt16.toUInt32.toInt32), rv b5, rv b12, iv (1 : Int32), .unset] [(.ref b5)])) _
      refine XS.aload X24.here hx rfl (hb hby at_116) rfl rfl ?_
      show Steps p.tables e below (T24.setTop (mkF m 118 #[iv p1, iv p2, iv p3, iv ((p1 &&& (65535 : Int32)).toUInt32.toUInt16.toUInt32.toInt32), iv (0 : Int32), iv ((p1 &&& (65535 : Int32)).toUInt32.toUInt16.toUInt32.toInt32), rv b5, rv b12, iv (1 : Int32), .unset] [(.ref b5), (.ref b5)])) _
      exact k
    obtain ⟨cq27, kq27, qq27a, qq27b, qq27c⟩ := isOf hZ e24 f21
    obtain ⟨_, _, ⟨T27, L27, kk27, nn27⟩, -, X27, ⟨Lc27, hQ27, l27, y27, z27⟩, st27⟩ := X24.virtualBack hx (y := (⟨"com/example/stubwright/stubwright/idl/ConstValue$CharValue", "equals", "(Ljava/lang/Object;)Z"⟩ : MethodName)) (z := (⟨"com/example/stubwright/stubwright/idl/ConstValue$CharValue", "equals", "(Ljava/lang/Object;)Z"⟩ : MethodName)) hown (mvT hZ (hw _ (List.mem_of_getElem? (i := 17) rfl))) (mvT hZ (hw _ (List.mem_of_getElem? (i := 18) rfl))) (notFace_of_selects (args := #[]) (mvT hZ (hw _ (List.mem_of_getElem? (i := 20) rfl)))) (mvT hZ (hw _ (List.mem_of_getElem? (i := 20) rfl))) (mvT hZ (hw _ (List.mem_of_getElem? (i := 19) rfl))) (by decide) (backOf (W := 0) (eqT l Z a0 hw [] wC clC G b5 b5 ((p1 &&& (65535 : Int32)).toUInt32.toUInt16.toUInt32.toInt32) ((p1 &&& (65535 : Int32)).toUInt32.toUInt16.toUInt32.toInt32) T16.heap n0 O16 (f21 : Exa Z T16.heap b5 "com/example/stubwright/stubwright/idl/ConstValue$CharValue") (f19 : Fld Z T16.heap b5 "com/example/stubwright/stubwright/idl/ConstValue$CharValue" "value" "C" (.int ((p1 &&& (65535 : Int32)).toUInt32.toUInt16.toUInt32.toInt32))) (f19 : Fld Z T16.heap b5 "com/example/stubwright/stubwright/idl/ConstValue$CharValue" "value" "C" (.int ((p1 &&& (65535 : Int32)).toUInt32.toUInt16.toUInt32.toInt32))) (rfl : ((p1 &&& (65535 : Int32)).toUInt32.toUInt16.toUInt32.toInt32) = ((p1 &&& (65535 : Int32)).toUInt32.toUInt16.toUInt32.toInt32))) hZ (hw _ (List.mem_of_getElem? (i := 21) rfl)) (hw _ (List.mem_of_getElem? (i := 3) rfl)) (by decide) (by decide)) qq27a qq27c (g := (mkF m 118 #[iv p1, iv p2, iv p3, iv ((p1 &&& (65535 : Int32)).toUInt32.toUInt16.toUInt32.toInt32), iv (0 : Int32), iv ((p1 &&& (65535 : Int32)).toUInt32.toUInt16.toUInt32.toInt32), rv b5, rv b12, iv (1 : Int32), .unset] [(.ref b5), (.ref b5)])) rfl (by rw [hml]; rfl) (Steps.refl _) (argsL := [(.ref b5)]) (rest := []) (lenOf pd_3 rfl) rfl (by show 2 * 0 + _ ≤ _; exact Nat.le_of_eq rfl) (hb hby at_118) (fun _ _ => ⟨rfl, e24, (by decide : 2 + 0 ≤ _), (by decide : 2 + 0 ≤ _)⟩)
    dsimp only [Pt.U, Pt.locs, Pt.cells, Pt.slots] at X27 l27 y27 z27 st27 hQ27
    subst l27 y27 z27
    obtain ⟨rfl, Nq27, e27⟩ := hQ27
    have N27 := Fr.app N24 Nq27
    have k28 : Way p e below S0 T27 (mkF m 121 #[iv p1, iv p2, iv p3, iv ((p1 &&& (65535 : Int32)).toUInt32.toUInt16.toUInt32.toInt32), iv (0 : Int32), iv ((p1 &&& (65535 : Int32)).toUInt32.toUInt16.toUInt32.toInt32), rv b5, rv b12, iv (1 : Int32), .unset] [(.int (1 : Int32))]) := fun t k => k26 t (st27.trans k)
    have k29 : Way p e below S0 T27 (mkF m 129 #[iv p1, iv p2, iv p3, iv ((p1 &&& (65535 : Int32)).toUInt32.toUInt16.toUInt32.toInt32), iv (0 : Int32), iv ((p1 &&& (65535 : Int32)).toUInt32.toUInt16.toUInt32.toInt32), rv b5, rv b12, iv (1 : Int32), .unset] [.null, (.ref b5)]) := by
      intro t k
      refine k28 t ?_
      refine XS.ifYes X27.here hx rfl (pc0 := 121) (pc' := 126) rfl (hb hby at_121) rfl ((if0 _ _).trans (feq ((by decide) : ¬ ((1 : Int32) = (0 : Int32)))).2) (by decide) (by decide) ?_
      show Steps p.tables e below (T27.setTop (mkF m 126 #[iv p1, iv p2, iv p3, iv ((p1 &&& (65535 : Int32)).toUInt32.toUInt16.toUInt32.toInt32), iv (0 : Int32), iv ((p1 &&& (65535 : Int32)).toUInt32.toUInt16.toUInt32.toInt32), rv b5, rv b12, iv (1 : Int32), .unset] [])) _
      refine XS.aload X27.here hx rfl (hb hby at_126) rfl rfl ?_
      show Steps p.tables e below (T27.setTop (mkF m 128 #[iv p1, iv p2, iv p3, iv ((p1 &&& (65535 : Int32)).toUInt32.toUInt16.toUInt32.toInt32), iv (0 : Int32), iv ((p1 &&& (65535 : Int32)).toUInt32.toUInt16.toUInt32.toInt32), rv b5, rv b12, iv (1 : Int32), .unset] [(.ref b5)])) _
      refine XS.aconstNull X27.here hx rfl (hb hby at_128) ?_
      show Steps p.tables e below (T27.setTop (mkF m 129 #[iv p1, iv p2, iv p3, iv ((p1 &&& (65535 : Int32)).toUInt32.toUInt16.toUInt32.toInt32), iv (0 : Int32), iv ((p1 &&& (65535 : Int32)).toUInt32.toUInt16.toUInt32.toInt32), rv b5, rv b12, iv (1 : Int32), .unset] [.null, (.ref b5)])) _
      exact k
    obtain ⟨cq30, kq30, qq30a, qq30b, qq30c⟩ := isOf hZ e27 f21
    obtain ⟨_, _, ⟨T30, L30, kk30, nn30⟩, -, X30, ⟨Lc30, hQ30, l30, y30, z30⟩, st30⟩ := X27.virtualBack hx (y := (⟨"com/example/stubwright/stubwright/idl/ConstValue$CharValue", "equals", "(Ljava/lang/Object;)Z"⟩ : MethodName)) (z := (⟨"com/example/stubwright/stubwright/idl/ConstValue$CharValue", "equals", "(Ljava/lang/Object;)Z"⟩ : MethodName)) hown (mvT hZ (hw _ (List.mem_of_getElem? (i := 17) rfl))) (mvT hZ (hw _ (List.mem_of_getElem? (i := 18) rfl))) (notFace_of_selects (args := #[]) (mvT hZ (hw _ (List.mem_of_getElem? (i := 20) rfl)))) (mvT hZ (hw _ (List.mem_of_getElem? (i := 20) rfl))) (mvT hZ (hw _ (List.mem_of_getElem? (i := 19) rfl))) (by decide) (backOf (W := 0) (eqNull l Z a0 hw [] wC clC G b5 T16.heap n0 O16 ) hZ (hw _ (List.mem_of_getElem? (i := 21) rfl)) (hw _ (List.mem_of_getElem? (i := 3) rfl)) (by decide) (by decide)) qq30a qq30c (g := (mkF m 129 #[iv p1, iv p2, iv p3, iv ((p1 &&& (65535 : Int32)).toUInt32.toUInt16.toUInt32.toInt32), iv (0 : Int32), iv ((p1 &&& (65535 : Int32)).toUInt32.toUInt16.toUInt32.toInt32), rv b5, rv b12, iv (1 : Int32), .unset] [.null, (.ref b5)])) rfl (by rw [hml]; rfl) (Steps.refl _) (argsL := [.null]) (rest := []) (lenOf pd_3 rfl) rfl (by show 2 * 0 + _ ≤ _; exact Nat.le_of_eq rfl) (hb hby at_129) (fun _ _ => ⟨rfl, e27, (by decide : 2 + 0 ≤ _), (by decide : 2 + 0 ≤ _)⟩)
    dsimp only [Pt.U, Pt.locs, Pt.cells, Pt.slots] at X30 l30 y30 z30 st30 hQ30
    subst l30 y30 z30
    obtain ⟨rfl, Nq30, e30⟩ := hQ30
    have N30 := Fr.app N27 Nq30
    have k31 : Way p e below S0 T30 (mkF m 132 #[iv p1, iv p2, iv p3, iv ((p1 &&& (65535 : Int32)).toUInt32.toUInt16.toUInt32.toInt32), iv (0 : Int32), iv ((p1 &&& (65535 : Int32)).toUInt32.toUInt16.toUInt32.toInt32), rv b5, rv b12, iv (1 : Int32), .unset] [(.int (0 : Int32))]) := fun t k => k29 t (st30.trans k)
    have k33 : Way p e below S0 T30 (mkF m 167 #[iv p1, iv p2, iv p3, iv ((p1 &&& (65535 : Int32)).toUInt32.toUInt16.toUInt32.toInt32), iv (0 : Int32), iv ((p1 &&& (65535 : Int32)).toUInt32.toUInt16.toUInt32.toInt32), rv b5, rv b12, iv (1 : Int32), .unset] [(.int ((p1 &&& (65535 : Int32)).toUInt32.toUInt16.toUInt32.toInt32))]) := by
      intro t k
      refine k31 t ?_
      refine XS.ifYes X30.here hx rfl (pc0 := 132) (pc' := 137) rfl (hb hby at_132) rfl ((if0 _ _).trans (teq ((by decide) : (0 : Int32) = (0 : Int32))).1) (by decide) (by decide) ?_
      show Steps p.tables e below (T30.setTop (mkF m 137 #[iv p1, iv p2, iv p3, iv ((p1 &&& (65535 : Int32)).toUInt32.toUInt16.toUInt32.toInt32), iv (0 : Int32), iv ((p1 &&& (65535 : Int32)).toUInt32.toUInt16.toUInt32.toInt32), rv b5, rv b12, iv (1 : Int32), .unset] [])) _
      refine XS.iload X30.here hx rfl (hb hby at_137) rfl ?_
      show Steps p.tables e below (T30.setTop (mkF m 139 #[iv p1, iv p2, iv p3, iv ((p1 &&& (65535 : Int32)).toUInt32.toUInt16.toUInt32.toInt32), iv (0 : Int32), iv ((p1 &&& (65535 : Int32)).toUInt32.toUInt16.toUInt32.toInt32), rv b5, rv b12, iv (1 : Int32), .unset] [(.int (0 : Int32))])) _
      refine XS.iconst X30.here hx rfl (hb hby at_139) ?_
      show Steps p.tables e below (T30.setTop (mkF m 140 #[iv p1, iv p2, iv p3, iv ((p1 &&& (65535 : Int32)).toUInt32.toUInt16.toUInt32.toInt32), iv (0 : Int32), iv ((p1 &&& (65535 : Int32)).toUInt32.toUInt16.toUInt32.toInt32), rv b5, rv b12, iv (1 : Int32), .unset] [(.int (3 : Int32)), (.int (0 : Int32))])) _
      refine XS.icmpYes X30.here hx rfl (pc0 := 140) (pc' := 166) rfl (hb hby at_140) rfl (feq ((by decide) : ¬ ((0 : Int32) = (3 : Int32)))).2 (by decide) (by decide) ?_
      show Steps p.tables e below (T30.setTop (mkF m 166 #[iv p1, iv p2, iv p3, iv ((p1 &&& (65535 : Int32)).toUInt32.toUInt16.toUInt32.toInt32), iv (0 : Int32), iv ((p1 &&& (65535 : Int32)).toUInt32.toUInt16.toUInt32.toInt32), rv b5, rv b12, iv (1 : Int32), .unset] [])) _
      refine XS.iloadN X30.here hx rfl (hb hby at_166) rfl ?_
      show Steps p.tables e below (T30.setTop (mkF m 167 #[iv p1, iv p2, iv p3, iv ((p1 &&& (65535 : Int32)).toUInt32.toUInt16.toUInt32.toInt32), iv (0 : Int32), iv ((p1 &&& (65535 : Int32)).toUInt32.toUInt16.toUInt32.toInt32), rv b5, rv b12, iv (1 : Int32), .unset] [(.int ((p1 &&& (65535 : Int32)).toUInt32.toUInt16.toUInt32.toInt32))])) _
      exact k
    by_cases hc32 : (127 : Int32) < ((p1 &&& (65535 : Int32)).toUInt32.toUInt16.toUInt32.toInt32)
    · obtain ⟨_, _, ⟨T34, L34, kk34, nn34⟩, -, X34, ⟨Lc34, hQ34, l34, y34, z34⟩, st34⟩ := Jvm.LawKit.callS X30 hx (y := (⟨"java/lang/Integer", "valueOf", "(I)Ljava/lang/Integer;"⟩ : MethodName)) hown (mvT hZ (hw _ (List.mem_of_getElem? (i := 24) rfl))) (mvT hZ (hw _ (List.mem_of_getElem? (i := 25) rfl))) (mvT hZ (hw _ (List.mem_of_getElem? (i := 26) rfl))) (mvT hZ (hw _ (List.mem_of_getElem? (i := 27) rfl))) (by decide) (backOf (W := 0) (vofNew l Z a0 hw [] wC clC G ((p1 &&& (65535 : Int32)).toUInt32.toUInt16.toUInt32.toInt32) T16.heap n0 O16 (own_i2c_lo _ : ¬ (((p1 &&& (65535 : Int32)).toUInt32.toUInt16.toUInt32.toInt32) < (-128 : Int32))) (hc32 : (127 : Int32) < ((p1 &&& (65535 : Int32)).toUInt32.toUInt16.toUInt32.toInt32))) hZ (hw _ (List.mem_of_getElem? (i := 27) rfl)) (hw _ (List.mem_of_getElem? (i := 26) rfl)) (by decide) (by decide)) (g := (mkF m 167 #[iv p1, iv p2, iv p3, iv ((p1 &&& (65535 : Int32)).toUInt32.toUInt16.toUInt32.toInt32), iv (0 : Int32), iv ((p1 &&& (65535 : Int32)).toUInt32.toUInt16.toUInt32.toInt32), rv b5, rv b12, iv (1 : Int32), .unset] [(.int ((p1 &&& (65535 : Int32)).toUInt32.toUInt16.toUInt32.toInt32))])) rfl (by rw [hml]; rfl) (argsL := [(.int ((p1 &&& (65535 : Int32)).toUInt32.toUInt16.toUInt32.toInt32))]) (rest := []) (lenOf pd_4 rfl) rfl (by show 2 * 0 + _ ≤ _; exact Nat.le_of_eq rfl) (hb hby at_167) (fun _ _ => ⟨rfl, e30, (by decide : 2 + 1 ≤ _), (by decide : 2 + 1 ≤ _)⟩)
      dsimp only [Pt.U, Pt.locs, Pt.cells, Pt.slots] at X34 l34 y34 z34 st34 hQ34
      subst l34 y34 z34
      obtain ⟨y1_34, rfl, Nq34, Kq34, po34_0, po34_1⟩ := hQ34
      have N34 := Fr.app N30 Nq34
      have O34 := O16.keep Kq34 all0
      have k35 : Way p e below S0 T34 (mkF m 170 #[iv p1, iv p2, iv p3, iv ((p1 &&& (65535 : Int32)).toUInt32.toUInt16.toUInt32.toInt32), iv (0 : Int32), iv ((p1 &&& (65535 : Int32)).toUInt32.toUInt16.toUInt32.toInt32), rv b5, rv b12, iv (1 : Int32), .unset] [(.ref y1_34)]) := fun t k => k33 t (st34 _ k)
      have k36 : Way p e below S0 T34 (mkF m 176 #[iv p1, iv p2, iv p3, iv ((p1 &&& (65535 : Int32)).toUInt32.toUInt16.toUInt32.toInt32), iv (0 : Int32), iv ((p1 &&& (65535 : Int32)).toUInt32.toUInt16.toUInt32.toInt32), rv b5, rv b12, iv (1 : Int32), rv y1_34] [(.ref y1_34), (.ref b5)]) := by
        intro t k
        refine k35 t ?_
        refine XS.astore X34.here hx rfl (hb hby at_170) rfl rfl (l' := #[iv p1, iv p2, iv p3, iv ((p1 &&& (65535 : Int32)).toUInt32.toUInt16.toUInt32.toInt32), iv (0 : Int32), iv ((p1 &&& (65535 : Int32)).toUInt32.toUInt16.toUInt32.toInt32), rv b5, rv b12, iv (1 : Int32), rv y1_34]) rfl ?_
        show Steps p.tables e below (T34.setTop (mkF m 172 #[iv p1, iv p2, iv p3, iv ((p1 &&& (65535 : Int32)).toUInt32.toUInt16.toUInt32.toInt32), iv (0 : Int32), iv ((p1 &&& (65535 : Int32)).toUInt32.toUInt16.toUInt32.toInt32), rv b5, rv b12, iv (1 : Int32), rv y1_34] [])) _
        refine XS.aload X34.here hx rfl (hb hby at_172) rfl rfl ?_
        show Steps p.tables e below (T34.setTop (mkF m 174 #[iv p1, iv p2, iv p3, iv ((p1 &&& (65535 : Int32)).toUInt32.toUInt16.toUInt32.toInt32), iv (0 : Int32), iv ((p1 &&& (65535 : Int32)).toUInt32.toUInt16.toUInt32.toInt32), rv b5, rv b12, iv (1 : Int32), rv y1_34] [(.ref b5)])) _
        refine XS.aload X34.here hx rfl (hb hby at_174) rfl rfl ?_
        show Steps p.tables e below (T34.setTop (mkF m 176 #[iv p1, iv p2, iv p3, iv ((p1 &&& (65535 : Int32)).toUInt32.toUInt16.toUInt32.toInt32), iv (0 : Int32), iv ((p1 &&& (65535 : Int32)).toUInt32.toUInt16.toUInt32.toInt32), rv b5, rv b12, iv (1 : Int32), rv y1_34] [(.ref y1_34), (.ref b5)])) _
        exact k
      have f38 : Exa Z T34.heap b5 "com/example/stubwright/stubwright/idl/ConstValue$CharValue" := (f21.keep Kq34)
      obtain ⟨cq37, kq37, qq37a, qq37b, qq37c⟩ := isOf hZ rfl f38
      obtain ⟨_, _, ⟨T37, L37, kk37, nn37⟩, -, X37, ⟨Lc37, hQ37, l37, y37, z37⟩, st37⟩ := X34.virtualBack hx (y := (⟨"com/example/stubwright/stubwright/idl/ConstValue$CharValue", "equals", "(Ljava/lang/Object;)Z"⟩ : MethodName)) (z := (⟨"com/example/stubwright/stubwright/idl/ConstValue$CharValue", "equals", "(Ljava/lang/Object;)Z"⟩ : MethodName)) hown (mvT hZ (hw _ (List.mem_of_getElem? (i := 17) rfl))) (mvT hZ (hw _ (List.mem_of_getElem? (i := 18) rfl))) (notFace_of_selects (args := #[]) (mvT hZ (hw _ (List.mem_of_getElem? (i := 20) rfl)))) (mvT hZ (hw _ (List.mem_of_getElem? (i := 20) rfl))) (mvT hZ (hw _ (List.mem_of_getElem? (i := 19) rfl))) (by decide) (backOf (W := 0) (eqOther1 l Z a0 hw [] wC clC G b5 y1_34 T34.heap n0 O34 (po34_1 : Exa Z T34.heap y1_34 "java/lang/Integer")) hZ (hw _ (List.mem_of_getElem? (i := 21) rfl)) (hw _ (List.mem_of_getElem? (i := 3) rfl)) (by decide) (by decide)) qq37a qq37c (g := (mkF m 176 #[iv p1, iv p2, iv p3, iv ((p1 &&& (65535 : Int32)).toUInt32.toUInt16.toUInt32.toInt32), iv (0 : Int32), iv ((p1 &&& (65535 : Int32)).toUInt32.toUInt16.toUInt32.toInt32), rv b5, rv b12, iv (1 : Int32), rv y1_34] [(.ref y1_34), (.ref b5)])) rfl (by rw [hml]; rfl) (Steps.refl _) (argsL := [(.ref y1_34)]) (rest := []) (lenOf pd_3 rfl) rfl (by show 2 * 0 + _ ≤ _; exact Nat.le_of_eq rfl) (hb hby at_176) (fun _ _ => ⟨rfl, rfl, (by decide : 3 + 0 ≤ _), (by decide : 3 + 0 ≤ _)⟩)
      dsimp only [Pt.U, Pt.locs, Pt.cells, Pt.slots] at X37 l37 y37 z37 st37 hQ37
      subst l37 y37 z37
      obtain ⟨rfl, Nq37, e37⟩ := hQ37
      have N37 := Fr.app N34 Nq37
      have k39 : Way p e below S0 T37 (mkF m 179 #[iv p1, iv p2, iv p3, iv ((p1 &&& (65535 : Int32)).toUInt32.toUInt16.toUInt32.toInt32), iv (0 : Int32), iv ((p1 &&& (65535 : Int32)).toUInt32.toUInt16.toUInt32.toInt32), rv b5, rv b12, iv (1 : Int32), rv y1_34] [(.int (0 : Int32))]) := fun t k => k36 t (st37.trans k)
      have k40 : Way p e below S0 T37 (mkF m 185 #[iv p1, iv p2, iv p3, iv ((p1 &&& (65535 : Int32)).toUInt32.toUInt16.toUInt32.toInt32), iv (0 : Int32), iv ((p1 &&& (65535 : Int32)).toUInt32.toUInt16.toUInt32.toInt32), rv b5, rv b12, iv (1 : Int32), rv y1_34] [(.int (1 : Int32))]) := by
        intro t k
        refine k39 t ?_
        refine XS.ifYes X37.here hx rfl (pc0 := 179) (pc' := 184) rfl (hb hby at_179) rfl ((if0 _ _).trans (teq ((by decide) : (0 : Int32) = (0 : Int32))).1) (by decide) (by decide) ?_
        show Steps p.tables e below (T37.setTop (mkF m 184 #[iv p1, iv p2, iv p3, iv ((p1 &&& (65535 : Int32)).toUInt32.toUInt16.toUInt32.toInt32), iv (0 : Int32), iv ((p1 &&& (65535 : Int32)).toUInt32.toUInt16.toUInt32.toInt32), rv b5, rv b12, iv (1 : Int32), rv y1_34] [])) _
        refine XS.iconst X37.here hx rfl (hb hby at_184) ?_
        show Steps p.tables e below (T37.setTop (mkF m 185 #[iv p1, iv p2, iv p3, iv ((p1 &&& (65535 : Int32)).toUInt32.toUInt16.toUInt32.toInt32), iv (0 : Int32), iv ((p1 &&& (65535 : Int32)).toUInt32.toUInt16.toUInt32.toInt32), rv b5, rv b12, iv (1 : Int32), rv y1_34] [(.int (1 : Int32))])) _
        exact k
      obtain ⟨fs, hr, hrun, hended, hW, hsame⟩ := X37.leave (v := some (.int (1 : Int32))) (fun h => by rw [Bd.returns] at h; cases h)
      refine ⟨_, _, k40 _ (retN X37 hx (t := .boolean) Bd.returns (by simp) (hb hby at_185) hr), hrun, hended, _, _, rfl, ?_, ⟨_, rfl⟩, hW, hsame.mono (by decide) (by decide)⟩
      show Q_law_met Z wC clC p1 p2 p3 h0 n0 _ T37.heap _
      rw [e37]
      exact ⟨rfl, N37⟩
    · obtain ⟨_, _, ⟨T41, L41, kk41, nn41⟩, -, X41, ⟨Lc41, hQ41, l41, y41, z41⟩, st41⟩ := Jvm.LawKit.callS X30 hx (y := (⟨"java/lang/Integer", "valueOf", "(I)Ljava/lang/Integer;"⟩ : MethodName)) hown (mvT hZ (hw _ (List.mem_of_getElem? (i := 24) rfl))) (mvT hZ (hw _ (List.mem_of_getElem? (i := 25) rfl))) (mvT hZ (hw _ (List.mem_of_getElem? (i := 26) rfl))) (mvT hZ (hw _ (List.mem_of_getElem? (i := 27) rfl))) (by decide) (backOf (W := 0) (vofOld l Z a0 hw [] wC clC G ((p1 &&& (65535 : Int32)).toUInt32.toUInt16.toUInt32.toInt32) T16.heap n0 O16 (own_i2c_lo _ : ¬ (((p1 &&& (65535 : Int32)).toUInt32.toUInt16.toUInt32.toInt32) < (-128 : Int32))) (hc32 : ¬ ((127 : Int32) < ((p1 &&& (65535 : Int32)).toUInt32.toUInt16.toUInt32.toInt32)))) hZ (hw _ (List.mem_of_getElem? (i := 27) rfl)) (hw _ (List.mem_of_getElem? (i := 26) rfl)) (by decide) (by decide)) (g := (mkF m 167 #[iv p1, iv p2, iv p3, iv ((p1 &&& (65535 : Int32)).toUInt32.toUInt16.toUInt32.toInt32), iv (0 : Int32), iv ((p1 &&& (65535 : Int32)).toUInt32.toUInt16.toUInt32.toInt32), rv b5, rv b12, iv (1 : Int32), .unset] [(.int ((p1 &&& (65535 : Int32)).toUInt32.toUInt16.toUInt32.toInt32))])) rfl (by rw [hml]; rfl) (argsL := [(.int ((p1 &&& (65535 : Int32)).toUInt32.toUInt16.toUInt32.toInt32))]) (rest := []) (lenOf pd_4 rfl) rfl (by show 2 * 0 + _ ≤ _; exact Nat.le_of_eq rfl) (hb hby at_167) (fun _ _ => ⟨rfl, e30, (by decide : 2 + 0 ≤ _), (by decide : 2 + 0 ≤ _)⟩)
      dsimp only [Pt.U, Pt.locs, Pt.cells, Pt.slots] at X41 l41 y41 z41 st41 hQ41
      subst l41 y41 z41
      obtain ⟨y1_41, rfl, Nq41, e41, po41_0⟩ := hQ41
      have N41 := Fr.app N30 Nq41
      rw [e41] at po41_0
      have k42 : Way p e below S0 T41 (mkF m 170 #[iv p1, iv p2, iv p3, iv ((p1 &&& (65535 : Int32)).toUInt32.toUInt16.toUInt32.toInt32), iv (0 : Int32), iv ((p1 &&& (65535 : Int32)).toUInt32.toUInt16.toUInt32.toInt32), rv b5, rv b12, iv (1 : Int32), .unset] [(.ref y1_41)]) := fun t k => k33 t (st41 _ k)
      have k43 : Way p e below S0 T41 (mkF m 176 #[iv p1, iv p2, iv p3, iv ((p1 &&& (65535 : Int32)).toUInt32.toUInt16.toUInt32.toInt32), iv (0 : Int32), iv ((p1 &&& (65535 : Int32)).toUInt32.toUInt16.toUInt32.toInt32), rv b5, rv b12, iv (1 : Int32), rv y1_41] [(.ref y1_41), (.ref b5)]) := by
        intro t k
        refine k42 t ?_
        refine XS.astore X41.here hx rfl (hb hby at_170) rfl rfl (l' := #[iv p1, iv p2, iv p3, iv ((p1 &&& (65535 : Int32)).toUInt32.toUInt16.toUInt32.toInt32), iv (0 : Int32), iv ((p1 &&& (65535 : Int32)).toUInt32.toUInt16.toUInt32.toInt32), rv b5, rv b12, iv (1 : Int32), rv y1_41]) rfl ?_
        show Steps p.tables e below (T41.setTop (mkF m 172 #[iv p1, iv p2, iv p3, iv ((p1 &&& (65535 : Int32)).toUInt32.toUInt16.toUInt32.toInt32), iv (0 : Int32), iv ((p1 &&& (65535 : Int32)).toUInt32.toUInt16.toUInt32.toInt32), rv b5, rv b12, iv (1 : Int32), rv y1_41] [])) _
        refine XS.aload X41.here hx rfl (hb hby at_172) rfl rfl ?_
        show Steps p.tables e below (T41.setTop (mkF m 174 #[iv p1, iv p2, iv p3, iv ((p1 &&& (65535 : Int32)).toUInt32.toUInt16.toUInt32.toInt32), iv (0 : Int32), iv ((p1 &&& (65535 : Int32)).toUInt32.toUInt16.toUInt32.toInt32), rv b5, rv b12, iv (1 : Int32), rv y1_41] [(.ref b5)])) _
        refine XS.aload X41.here hx rfl (hb hby at_174) rfl rfl ?_
        show Steps p.tables e below (T41.setTop (mkF m 176 #[iv p1, iv p2, iv p3, iv ((p1 &&& (65535 : Int32)).toUInt32.toUInt16.toUInt32.toInt32), iv (0 : Int32), iv ((p1 &&& (65535 : Int32)).toUInt32.toUInt16.toUInt32.toInt32), rv b5, rv b12, iv (1 : Int32), rv y1_41] [(.ref y1_41), (.ref b5)])) _
        exact k
      obtain ⟨cq44, kq44, qq44a, qq44b, qq44c⟩ := isOf hZ e41 f21
      obtain ⟨_, _, ⟨T44, L44, kk44, nn44⟩, -, X44, ⟨Lc44, hQ44, l44, y44, z44⟩, st44⟩ := X41.virtualBack hx (y := (⟨"com/example/stubwright/stubwright/idl/ConstValue$CharValue", "equals", "(Ljava/lang/Object;)Z"⟩ : MethodName)) (z := (⟨"com/example/stubwright/stubwright/idl/ConstValue$CharValue", "equals", "(Ljava/lang/Object;)Z"⟩ : MethodName)) hown (mvT hZ (hw _ (List.mem_of_getElem? (i := 17) rfl))) (mvT hZ (hw _ (List.mem_of_getElem? (i := 18) rfl))) (notFace_of_selects (args := #[]) (mvT hZ (hw _ (List.mem_of_getElem? (i := 20) rfl)))) (mvT hZ (hw _ (List.mem_of_getElem? (i := 20) rfl))) (mvT hZ (hw _ (List.mem_of_getElem? (i := 19) rfl))) (by decide) (backOf (W := 0) (eqOther1 l Z a0 hw [] wC clC G b5 y1_41 T16.heap n0 O16 (po41_0 : Exa Z T16.heap y1_41 "java/lang/Integer")) hZ (hw _ (List.mem_of_getElem? (i := 21) rfl)) (hw _ (List.mem_of_getElem? (i := 3) rfl)) (by decide) (by decide)) qq44a qq44c (g := (mkF m 176 #[iv p1, iv p2, iv p3, iv ((p1 &&& (65535 : Int32)).toUInt32.toUInt16.toUInt32.toInt32), iv (0 : Int32), iv ((p1 &&& (65535 : Int32)).toUInt32.toUInt16.toUInt32.toInt32), rv b5, rv b12, iv (1 : Int32), rv y1_41] [(.ref y1_41), (.ref b5)])) rfl (by rw [hml]; rfl) (Steps.refl _) (argsL := [(.ref y1_41)]) (rest := []) (lenOf pd_3 rfl) rfl (by show 2 * 0 + _ ≤ _; exact Nat.le_of_eq rfl) (hb hby at_176) (fun _ _ => ⟨rfl, e41, (by decide : 2 + 0 ≤ _), (by decide : 2 + 0 ≤ _)⟩)
      dsimp only [Pt.U, Pt.locs, Pt.cells, Pt.slots] at X44 l44 y44 z44 st44 hQ44
      subst l44 y44 z44
      obtain ⟨rfl, Nq44, e44⟩ := hQ44
      have N44 := Fr.app N41 Nq44
      have k45 : Way p e below S0 T44 (mkF m 179 #[iv p1, iv p2, iv p3, iv ((p1 &&& (65535 : Int32)).toUInt32.toUInt16.toUInt32.toInt32), iv (0 : Int32), iv ((p1 &&& (65535 : Int32)).toUInt32.toUInt16.toUInt32.toInt32), rv b5, rv b12, iv (1 : Int32), rv y1_41] [(.int (0 : Int32))]) := fun t k => k43 t (st44.trans k)
      have k46 : Way p e below S0 T44 (mkF m 185 #[iv p1, iv p2, iv p3, iv ((p1 &&& (65535 : Int32)).toUInt32.toUInt16.toUInt32.toInt32), iv (0 : Int32), iv ((p1 &&& (65535 : Int32)).toUInt32.toUInt16.toUInt32.toInt32), rv b5, rv b12, iv (1 : Int32), rv y1_41] [(.int (1 : Int32))]) := by
        intro t k
        refine k45 t ?_
        refine XS.ifYes X44.here hx rfl (pc0 := 179) (pc' := 184) rfl (hb hby at_179) rfl ((if0 _ _).trans (teq ((by decide) : (0 : Int32) = (0 : Int32))).1) (by decide) (by decide) ?_
        show Steps p.tables e below (T44.setTop (mkF m 184 #[iv p1, iv p2, iv p3, iv ((p1 &&& (65535 : Int32)).toUInt32.toUInt16.toUInt32.toInt32), iv (0 : Int32), iv ((p1 &&& (65535 : Int32)).toUInt32.toUInt16.toUInt32.toInt32), rv b5, rv b12, iv (1 : Int32), rv y1_41] [])) _
        refine XS.iconst X44.here hx rfl (hb hby at_184) ?_
        show Steps p.tables e below (T44.setTop (mkF m 185 #[iv p1, iv p2, iv p3, iv ((p1 &&& (65535 : Int32)).toUInt32.toUInt16.toUInt32.toInt32), iv (0 : Int32), iv ((p1 &&& (65535 : Int32)).toUInt32.toUInt16.toUInt32.toInt32), rv b5, rv b12, iv (1 : Int32), rv y1_41] [(.int (1 : Int32))])) _
        exact k
      obtain ⟨fs, hr, hrun, hended, hW, hsame⟩ := X44.leave (v := some (.int (1 : Int32))) (fun h => by rw [Bd.returns] at h; cases h)
      refine ⟨_, _, k46 _ (retN X44 hx (t := .boolean) Bd.returns (by simp) (hb hby at_185) hr), hrun, hended, _, _, rfl, ?_, ⟨_, rfl⟩, hW, hsame.mono (by decide) (by decide)⟩
      show Q_law_met Z wC clC p1 p2 p3 h0 n0 _ T44.heap _
      rw [e44]
      exact ⟨rfl, N44⟩
  · have k47 : Way p e below S0 s₁ (mkF m 11 #[iv p1, iv p2, iv p3, iv ((p1 &&& (65535 : Int32)).toUInt32.toUInt16.toUInt32.toInt32), iv (1 : Int32), .unset, .unset, .unset, .unset, .unset] []) := by have q := k1; rw [hi2] at q; exact q
    have k48 : Way p e below S0 s₁ (mkF m 52 #[iv p1, iv p2, iv p3, iv ((p1 &&& (65535 : Int32)).toUInt32.toUInt16.toUInt32.toInt32), iv (1 : Int32), iv (((((p1 &&& (65535 : Int32)).toUInt32.toUInt16.toUInt32.toInt32) ^^^ ((1 : Int32) <<< ((p2 &&& (15 : Int32)) &&& 31))) &&& (65535 : Int32)).toUInt32.toUInt16.toUInt32.toInt32), .unset, .unset, .unset, .unset] []) := by
      intro t k
      refine k47 t ?_
      refine XS.iload X0.here hx rfl (hb hby at_11) rfl ?_
      show Steps p.tables e below (s₁.setTop (mkF m 13 #[iv p1, iv p2, iv p3, iv ((p1 &&& (65535 : Int32)).toUInt32.toUInt16.toUInt32.toInt32), iv (1 : Int32), .unset, .unset, .unset, .unset, .unset] [(.int (1 : Int32))])) _
      refine XS.ifYes X0.here hx rfl (pc0 := 13) (pc' := 22) rfl (hb hby at_13) rfl ((if0 _ _).trans (feq ((by decide) : ¬ ((1 : Int32) = (0 : Int32)))).2) (by decide) (by decide) ?_
      show Steps p.tables e below (s₁.setTop (mkF m 22 #[iv p1, iv p2, iv p3, iv ((p1 &&& (65535 : Int32)).toUInt32.toUInt16.toUInt32.toInt32), iv (1 : Int32), .unset, .unset, .unset, .unset, .unset] [])) _
      refine XS.iload X0.here hx rfl (hb hby at_22) rfl ?_
      show Steps p.tables e below (s₁.setTop (mkF m 24 #[iv p1, iv p2, iv p3, iv ((p1 &&& (65535 : Int32)).toUInt32.toUInt16.toUInt32.toInt32), iv (1 : Int32), .unset, .unset, .unset, .unset, .unset] [(.int (1 : Int32))])) _
      refine XS.iconst X0.here hx rfl (hb hby at_24) ?_
      show Steps p.tables e below (s₁.setTop (mkF m 25 #[iv p1, iv p2, iv p3, iv ((p1 &&& (65535 : Int32)).toUInt32.toUInt16.toUInt32.toInt32), iv (1 : Int32), .unset, .unset, .unset, .unset, .unset] [(.int (1 : Int32)), (.int (1 : Int32))])) _
      refine XS.icmpNo X0.here hx rfl (hb hby at_25) rfl (teq ((by decide) : (1 : Int32) = (1 : Int32))).2 ?_
      show Steps p.tables e below (s₁.setTop (mkF m 28 #[iv p1, iv p2, iv p3, iv ((p1 &&& (65535 : Int32)).toUInt32.toUInt16.toUInt32.toInt32), iv (1 : Int32), .unset, .unset, .unset, .unset, .unset] [])) _
      refine XS.iloadN X0.here hx rfl (hb hby at_28) rfl ?_
      show Steps p.tables e below (s₁.setTop (mkF m 29 #[iv p1, iv p2, iv p3, iv ((p1 &&& (65535 : Int32)).toUInt32.toUInt16.toUInt32.toInt32), iv (1 : Int32), .unset, .unset, .unset, .unset, .unset] [(.int ((p1 &&& (65535 : Int32)).toUInt32.toUInt16.toUInt32.toInt32))])) _
      refine XS.iconst X0.here hx rfl (hb hby at_29) ?_
      show Steps p.tables e below (s₁.setTop (mkF m 30 #[iv p1, iv p2, iv p3, iv ((p1 &&& (65535 : Int32)).toUInt32.toUInt16.toUInt32.toInt32), iv (1 : Int32), .unset, .unset, .unset, .unset, .unset] [(.int (1 : Int32)), (.int ((p1 &&& (65535 : Int32)).toUInt32.toUInt16.toUInt32.toInt32))])) _
      refine XS.iloadN X0.here hx rfl (hb hby at_30) rfl ?_
      show Steps p.tables e below (s₁.setTop (mkF m 31 #[iv p1, iv p2, iv p3, iv ((p1 &&& (65535 : Int32)).toUInt32.toUInt16.toUInt32.toInt32), iv (1 : Int32), .unset, .unset, .unset, .unset, .unset] [(.int p2), (.int (1 : Int32)), (.int ((p1 &&& (65535 : Int32)).toUInt32.toUInt16.toUInt32.toInt32))])) _
      refine XS.bipush X0.here hx rfl (hb hby at_31) ?_
      show Steps p.tables e below (s₁.setTop (mkF m 33 #[iv p1, iv p2, iv p3, iv ((p1 &&& (65535 : Int32)).toUInt32.toUInt16.toUInt32.toInt32), iv (1 : Int32), .unset, .unset, .unset, .unset, .unset] [(.int (15 : Int32)), (.int p2), (.int (1 : Int32)), (.int ((p1 &&& (65535 : Int32)).toUInt32.toUInt16.toUInt32.toInt32))])) _
      refine XS.iand X0.here hx rfl (hb hby at_33) rfl ?_
      show Steps p.tables e below (s₁.setTop (mkF m 34 #[iv p1, iv p2, iv p3, iv ((p1 &&& (65535 : Int32)).toUInt32.toUInt16.toUInt32.toInt32), iv (1 : Int32), .unset, .unset, .unset, .unset, .unset] [(.int (p2 &&& (15 : Int32))), (.int (1 : Int32)), (.int ((p1 &&& (65535 : Int32)).toUInt32.toUInt16.toUInt32.toInt32))])) _
      refine XS.ishl X0.here hx rfl (hb hby at_34) rfl ?_
      show Steps p.tables e below (s₁.setTop (mkF m 35 #[iv p1, iv p2, iv p3, iv ((p1 &&& (65535 : Int32)).toUInt32.toUInt16.toUInt32.toInt32), iv (1 : Int32), .unset, .unset, .unset, .unset, .unset] [(.int ((1 : Int32) <<< ((p2 &&& (15 : Int32)) &&& 31))), (.int ((p1 &&& (65535 : Int32)).toUInt32.toUInt16.toUInt32.toInt32))])) _
      refine XS.ixor X0.here hx rfl (hb hby at_35) rfl ?_
      show Steps p.tables e below (s₁.setTop (mkF m 36 #[iv p1, iv p2, iv p3, iv ((p1 &&& (65535 : Int32)).toUInt32.toUInt16.toUInt32.toInt32), iv (1 : Int32), .unset, .unset, .unset, .unset, .unset] [(.int (((p1 &&& (65535 : Int32)).toUInt32.toUInt16.toUInt32.toInt32) ^^^ ((1 : Int32) <<< ((p2 &&& (15 : Int32)) &&& 31))))])) _
      refine X0.ldcInt hx hown (mvT hZ (hw _ (List.mem_of_getElem? (i := 0) rfl))) (g := (mkF m 36 #[iv p1, iv p2, iv p3, iv ((p1 &&& (65535 : Int32)).toUInt32.toUInt16.toUInt32.toInt32), iv (1 : Int32), .unset, .unset, .unset, .unset, .unset] [(.int (((p1 &&& (65535 : Int32)).toUInt32.toUInt16.toUInt32.toInt32) ^^^ ((1 : Int32) <<< ((p2 &&& (15 : Int32)) &&& 31))))])) rfl (hb hby at_36) _ ?_
      show Steps p.tables e below (s₁.setTop (mkF m 38 #[iv p1, iv p2, iv p3, iv ((p1 &&& (65535 : Int32)).toUInt32.toUInt16.toUInt32.toInt32), iv (1 : Int32), .unset, .unset, .unset, .unset, .unset] [(.int (65535 : Int32)), (.int (((p1 &&& (65535 : Int32)).toUInt32.toUInt16.toUInt32.toInt32) ^^^ ((1 : Int32) <<< ((p2 &&& (15 : Int32)) &&& 31))))])) _
      refine XS.iand X0.here hx rfl (hb hby at_38) rfl ?_
      show Steps p.tables e below (s₁.setTop (mkF m 39 #[iv p1, iv p2, iv p3, iv ((p1 &&& (65535 : Int32)).toUInt32.toUInt16.toUInt32.toInt32), iv (1 : Int32), .unset, .unset, .unset, .unset, .unset] [(.int ((((p1 &&& (65535 : Int32)).toUInt32.toUInt16.toUInt32.toInt32) ^^^ ((1 : Int32) <<< ((p2 &&& (15 : Int32)) &&& 31))) &&& (65535 : Int32)))])) _
      refine XS.i2c X0.here hx rfl (hb hby at_39) rfl ?_
      show Steps p.tables e below (s₁.setTop (mkF m 40 #[iv p1, iv p2, iv p3, iv ((p1 &&& (65535 : Int32)).toUInt32.toUInt16.toUInt32.toInt32), iv (1 : Int32), .unset, .unset, .unset, .unset, .unset] [(.int (((((p1 &&& (65535 : Int32)).toUInt32.toUInt16.toUInt32.toInt32) ^^^ ((1 : Int32) <<< ((p2 &&& (15 : Int32)) &&& 31))) &&& (65535 : Int32)).toUInt32.toUInt16.toUInt32.toInt32))])) _
      refine XS.istore X0.here hx rfl (hb hby at_40) rfl (l' := #[iv p1, iv p2, iv p3, iv ((p1 &&& (65535 : Int32)).toUInt32.toUInt16.toUInt32.toInt32), iv (1 : Int32), iv (((((p1 &&& (65535 : Int32)).toUInt32.toUInt16.toUInt32.toInt32) ^^^ ((1 : Int32) <<< ((p2 &&& (15 : Int32)) &&& 31))) &&& (65535 : Int32)).toUInt32.toUInt16.toUInt32.toInt32), .unset, .unset, .unset, .unset]) rfl ?_
      show Steps p.tables e below (s₁.setTop (mkF m 42 #[iv p1, iv p2, iv p3, iv ((p1 &&& (65535 : Int32)).toUInt32.toUInt16.toUInt32.toInt32), iv (1 : Int32), iv (((((p1 &&& (65535 : Int32)).toUInt32.toUInt16.toUInt32.toInt32) ^^^ ((1 : Int32) <<< ((p2 &&& (15 : Int32)) &&& 31))) &&& (65535 : Int32)).toUInt32.toUInt16.toUInt32.toInt32), .unset, .unset, .unset, .unset] [])) _
      refine XS.goto X0.here hx rfl (pc0 := 42) (pc' := 52) rfl (hb hby at_42) (by decide) (by decide) ?_
      show Steps p.tables e below (s₁.setTop (mkF m 52 #[iv p1, iv p2, iv p3, iv ((p1 &&& (65535 : Int32)).toUInt32.toUInt16.toUInt32.toInt32), iv (1 : Int32), iv (((((p1 &&& (65535 : Int32)).toUInt32.toUInt16.toUInt32.toInt32) ^^^ ((1 : Int32) <<< ((p2 &&& (15 : Int32)) &&& 31))) &&& (65535 : Int32)).toUInt32.toUInt16.toUInt32.toInt32), .unset, .unset, .unset, .unset] [])) _
      exact k
    obtain ⟨T49, h49, X49, e49, E49, A49, D49, U49, st49⟩ := newO X0 hx hZ hown (hw _ (List.mem_of_getElem? (i := 1) rfl)) (hw _ (List.mem_of_getElem? (i := 2) rfl)) (hw _ (List.mem_of_getElem? (i := 3) rfl)) e0 (g := (mkF m 52 #[iv p1, iv p2, iv p3, iv ((p1 &&& (65535 : Int32)).toUInt32.toUInt16.toUInt32.toInt32), iv (1 : Int32), iv (((((p1 &&& (65535 : Int32)).toUInt32.toUInt16.toUInt32.toInt32) ^^^ ((1 : Int32) <<< ((p2 &&& (15 : Int32)) &&& 31))) &&& (65535 : Int32)).toUInt32.toUInt16.toUInt32.toInt32), .unset, .unset, .unset, .unset] [])) rfl (hb hby at_52) (by decide) (by decide)
    obtain ⟨b49, g49⟩ : ∃ z, z = h0.size := ⟨_, rfl⟩
    rw [← g49] at A49 D49 U49 st49
    have O49 := O0.ext E49
    have i49_value : Fld Z h49 b49 "com/example/stubwright/stubwright/idl/ConstValue$CharValue" "value" "C" (.int (0 : Int32)) := D49 (Or.inr (hw _ (List.mem_of_getElem? (i := 16) rfl))) (ty := .char) (by decide)
    have k50 : Way p e below S0 T49 (mkF m 55 #[iv p1, iv p2, iv p3, iv ((p1 &&& (65535 : Int32)).toUInt32.toUInt16.toUInt32.toInt32), iv (1 : Int32), iv (((((p1 &&& (65535 : Int32)).toUInt32.toUInt16.toUInt32.toInt32) ^^^ ((1 : Int32) <<< ((p2 &&& (15 : Int32)) &&& 31))) &&& (65535 : Int32)).toUInt32.toUInt16.toUInt32.toInt32), .unset, .unset, .unset, .unset] [(.ref b49)]) := fun t k => k48 t (st49 _ k)
    have k51 : Way p e below S0 T49 (mkF m 57 #[iv p1, iv p2, iv p3, iv ((p1 &&& (65535 : Int32)).toUInt32.toUInt16.toUInt32.toInt32), iv (1 : Int32), iv (((((p1 &&& (65535 : Int32)).toUInt32.toUInt16.toUInt32.toInt32) ^^^ ((1 : Int32) <<< ((p2 &&& (15 : Int32)) &&& 31))) &&& (65535 : Int32)).toUInt32.toUInt16.toUInt32.toInt32), .unset, .unset, .unset, .unset] [(.int ((p1 &&& (65535 : Int32)).toUInt32.toUInt16.toUInt32.toInt32)), (.ref b49), (.ref b49)]) := by
      intro t k
      refine k50 t ?_
      refine XS.dup X49.here hx rfl (hb hby at_55) rfl rfl ?_
      show Steps p.tables e below (T49.setTop (mkF m 56 #[iv p1, iv p2, iv p3, iv ((p1 &&& (65535 : Int32)).toUInt32.toUInt16.toUInt32.toInt32), iv (1 : Int32), iv (((((p1 &&& (65535 : Int32)).toUInt32.toUInt16.toUInt32.toInt32) ^^^ ((1 : Int32) <<< ((p2 &&& (15 : Int32)) &&& 31))) &&& (65535 : Int32)).toUInt32.toUInt16.toUInt32.toInt32), .unset, .unset, .unset, .unset] [(.ref b49), (.ref b49)])) _
      refine XS.iloadN X49.here hx rfl (hb hby at_56) rfl ?_
      show Steps p.tables e below (T49.setTop (mkF m 57 #[iv p1, iv p2, iv p3, iv ((p1 &&& (65535 : Int32)).toUInt32.toUInt16.toUInt32.toInt32), iv (1 : Int32), iv (((((p1 &&& (65535 : Int32)).toUInt32.toUInt16.toUInt32.toInt32) ^^^ ((1 : Int32) <<< ((p2 &&& (15 : Int32)) &&& 31))) &&& (65535 : Int32)).toUInt32.toUInt16.toUInt32.toInt32), .unset, .unset, .unset, .unset] [(.int ((p1 &&& (65535 : Int32)).toUInt32.toUInt16.toUInt32.toInt32)), (.ref b49), (.ref b49)])) _
      exact k
    have ge52 : n0 ≤ b49 := Nat.le_trans (own_old O0) (Nat.le_of_eq g49.symm)
    obtain ⟨_, _, ⟨T53, L53, kk53, nn53⟩, -, X53, ⟨Lc53, hQ53, l53, y53, z53⟩, st53⟩ := X49.specialBack hx (y := (⟨"com/example/stubwright/stubwright/idl/ConstValue$CharValue", "<init>", "(C)V"⟩ : MethodName)) rfl hown (mvT hZ (hw _ (List.mem_of_getElem? (i := 4) rfl))) (mvT hZ (hw _ (List.mem_of_getElem? (i := 5) rfl))) (mvT hZ (hw _ (List.mem_of_getElem? (i := 6) rfl))) (by decide) (backOf (W := 1) (cvInit l Z a0 hw [] wC clC G b49 ((p1 &&& (65535 : Int32)).toUInt32.toUInt16.toUInt32.toInt32) h49 n0 O49 (A49 : Exa Z h49 b49 "com/example/stubwright/stubwright/idl/ConstValue$CharValue") (i49_value : Fld Z h49 b49 "com/example/stubwright/stubwright/idl/ConstValue$CharValue" "value" "C" (.int (0 : Int32))) (ge52 : n0 ≤ b49) (own_i2c _ : ((p1 &&& (65535 : Int32)).toUInt32.toUInt16.toUInt32.toInt32).toUInt32.toUInt16.toUInt32.toInt32 = ((p1 &&& (65535 : Int32)).toUInt32.toUInt16.toUInt32.toInt32))) hZ (hw _ (List.mem_of_getElem? (i := 6) rfl)) (hw _ (List.mem_of_getElem? (i := 3) rfl)) (by decide) (by decide)) (g := (mkF m 57 #[iv p1, iv p2, iv p3, iv ((p1 &&& (65535 : Int32)).toUInt32.toUInt16.toUInt32.toInt32), iv (1 : Int32), iv (((((p1 &&& (65535 : Int32)).toUInt32.toUInt16.toUInt32.toInt32) ^^^ ((1 : Int32) <<< ((p2 &&& (15 : Int32)) &&& 31))) &&& (65535 : Int32)).toUInt32.toUInt16.toUInt32.toInt32), .unset, .unset, .unset, .unset] [(.int ((p1 &&& (65535 : Int32)).toUInt32.toUInt16.toUInt32.toInt32)), (.ref b49), (.ref b49)])) rfl (by rw [hml]; rfl) (Steps.refl _) (a := b49) (argsL := [(.int ((p1 &&& (65535 : Int32)).toUInt32.toUInt16.toUInt32.toInt32))]) (rest := [(.ref b49)]) (lenOf pd_2 rfl) rfl (by show 2 * 0 + _ ≤ _; exact Nat.le_of_eq rfl) (hb hby at_57) (fun _ _ => ⟨rfl, e49, (by decide : 1 + 0 ≤ _), (by decide : 1 + 0 ≤ _)⟩)
    dsimp only [Pt.U, Pt.locs, Pt.cells, Pt.slots] at X53 l53 y53 z53 st53 hQ53
    subst l53 y53 z53
    obtain ⟨rfl, Nq53, Kq53, po53_0, po53_1⟩ := hQ53
    have N53 := Fr.app N0 Nq53
    have O53 := O49.keep Kq53 (allS ge52 all0)
    have k54 : Way p e below S0 T53 (mkF m 60 #[iv p1, iv p2, iv p3, iv ((p1 &&& (65535 : Int32)).toUInt32.toUInt16.toUInt32.toInt32), iv (1 : Int32), iv (((((p1 &&& (65535 : Int32)).toUInt32.toUInt16.toUInt32.toInt32) ^^^ ((1 : Int32) <<< ((p2 &&& (15 : Int32)) &&& 31))) &&& (65535 : Int32)).toUInt32.toUInt16.toUInt32.toInt32), .unset, .unset, .unset, .unset] [(.ref b49)]) := fun t k => k51 t (st53.trans k)
    have k55 : Way p e below S0 T53 (mkF m 62 #[iv p1, iv p2, iv p3, iv ((p1 &&& (65535 : Int32)).toUInt32.toUInt16.toUInt32.toInt32), iv (1 : Int32), iv (((((p1 &&& (65535 : Int32)).toUInt32.toUInt16.toUInt32.toInt32) ^^^ ((1 : Int32) <<< ((p2 &&& (15 : Int32)) &&& 31))) &&& (65535 : Int32)).toUInt32.toUInt16.toUInt32.toInt32), rv b49, .unset, .unset, .unset] []) := by
      intro t k
      refine k54 t ?_
      refine XS.astore X53.here hx rfl (hb hby at_60) rfl rfl (l' := #[iv p1, iv p2, iv p3, iv ((p1 &&& (65535 : Int32)).toUInt32.toUInt16.toUInt32.toInt32), iv (1 : Int32), iv (((((p1 &&& (65535 : Int32)).toUInt32.toUInt16.toUInt32.toInt32) ^^^ ((1 : Int32) <<< ((p2 &&& (15 : Int32)) &&& 31))) &&& (65535 : Int32)).toUInt32.toUInt16.toUInt32.toInt32), rv b49, .unset, .unset, .unset]) rfl ?_
      show Steps p.tables e below (T53.setTop (mkF m 62 #[iv p1, iv p2, iv p3, iv ((p1 &&& (65535 : Int32)).toUInt32.toUInt16.toUInt32.toInt32), iv (1 : Int32), iv (((((p1 &&& (65535 : Int32)).toUInt32.toUInt16.toUInt32.toInt32) ^^^ ((1 : Int32) <<< ((p2 &&& (15 : Int32)) &&& 31))) &&& (65535 : Int32)).toUInt32.toUInt16.toUInt32.toInt32), rv b49, .unset, .unset, .unset] [])) _
      exact k
    obtain ⟨T56, h56, X56, e56, E56, A56, D56, U56, st56⟩ := newO X53 hx hZ hown (hw _ (List.mem_of_getElem? (i := 1) rfl)) (hw _ (List.mem_of_getElem? (i := 2) rfl)) (hw _ (List.mem_of_getElem? (i := 3) rfl)) rfl (g := (mkF m 62 #[iv p1, iv p2, iv p3, iv ((p1 &&& (65535 : Int32)).toUInt32.toUInt16.toUInt32.toInt32), iv (1 : Int32), iv (((((p1 &&& (65535 : Int32)).toUInt32.toUInt16.toUInt32.toInt32) ^^^ ((1 : Int32) <<< ((p2 &&& (15 : Int32)) &&& 31))) &&& (65535 : Int32)).toUInt32.toUInt16.toUInt32.toInt32), rv b49, .unset, .unset, .unset] [])) rfl (hb hby at_62) (by decide) (by decide)
    obtain ⟨b56, g56⟩ : ∃ z, z = T53.heap.size := ⟨_, rfl⟩
    rw [← g56] at A56 D56 U56 st56
    have O56 := O53.ext E56
    have i56_value : Fld Z h56 b56 "com/example/stubwright/stubwright/idl/ConstValue$CharValue" "value" "C" (.int (0 : Int32)) := D56 (Or.inr (hw _ (List.mem_of_getElem? (i := 16) rfl))) (ty := .char) (by decide)
    have k57 : Way p e below S0 T56 (mkF m 65 #[iv p1, iv p2, iv p3, iv ((p1 &&& (65535 : Int32)).toUInt32.toUInt16.toUInt32.toInt32), iv (1 : Int32), iv (((((p1 &&& (65535 : Int32)).toUInt32.toUInt16.toUInt32.toInt32) ^^^ ((1 : Int32) <<< ((p2 &&& (15 : Int32)) &&& 31))) &&& (65535 : Int32)).toUInt32.toUInt16.toUInt32.toInt32), rv b49, .unset, .unset, .unset] [(.ref b56)]) := fun t k => k55 t (st56 _ k)
    have k58 : Way p e below S0 T56 (mkF m 68 #[iv p1, iv p2, iv p3, iv ((p1 &&& (65535 : Int32)).toUInt32.toUInt16.toUInt32.toInt32), iv (1 : Int32), iv (((((p1 &&& (65535 : Int32)).toUInt32.toUInt16.toUInt32.toInt32) ^^^ ((1 : Int32) <<< ((p2 &&& (15 : Int32)) &&& 31))) &&& (65535 : Int32)).toUInt32.toUInt16.toUInt32.toInt32), rv b49, .unset, .unset, .unset] [(.int (((((p1 &&& (65535 : Int32)).toUInt32.toUInt16.toUInt32.toInt32) ^^^ ((1 : Int32) <<< ((p2 &&& (15 : Int32)) &&& 31))) &&& (65535 : Int32)).toUInt32.toUInt16.toUInt32.toInt32)), (.ref b56), (.ref b56)]) := by
      intro t k
      refine k57 t ?_
      refine XS.dup X56.here hx rfl (hb hby at_65) rfl rfl ?_
      show Steps p.tables e below (T56.setTop (mkF m 66 #[iv p1, iv p2, iv p3, iv ((p1 &&& (65535 : Int32)).toUInt32.toUInt16.toUInt32.toInt32), iv (1 : Int32), iv (((((p1 &&& (65535 : Int32)).toUInt32.toUInt16.toUInt32.toInt32) ^^^ ((1 : Int32) <<< ((p2 &&& (15 : Int32)) &&& 31))) &&& (65535 : Int32)).toUInt32.toUInt16.toUInt32.toInt32), rv b49, .unset, .unset, .unset] [(.ref b56), (.ref b56)])) _
      refine XS.iload X56.here hx rfl (hb hby at_66) rfl ?_
      show Steps p.tables e below (T56.setTop (mkF m 68 #[iv p1, iv p2, iv p3, iv ((p1 &&& (65535 : Int32)).toUInt32.toUInt16.toUInt32.toInt32), iv (1 : Int32), iv (((((p1 &&& (65535 : Int32)).toUInt32.toUInt16.toUInt32.toInt32) ^^^ ((1 : Int32) <<< ((p2 &&& (15 : Int32)) &&& 31))) &&& (65535 : Int32)).toUInt32.toUInt16.toUInt32.toInt32), rv b49, .unset, .unset, .unset] [(.int (((((p1 &&& (65535 : Int32)).toUInt32.toUInt16.toUInt32.toInt32) ^^^ ((1 : Int32) <<< ((p2 &&& (15 : Int32)) &&& 31))) &&& (65535 : Int32)).toUInt32.toUInt16.toUInt32.toInt32)), (.ref b56), (.ref b56)])) _
      exact k
    have ge59 : n0 ≤ b56 := Nat.le_trans (own_old O53) (Nat.le_of_eq g56.symm)
    obtain ⟨_, _, ⟨T60, L60, kk60, nn60⟩, -, X60, ⟨Lc60, hQ60, l60, y60, z60⟩, st60⟩ := X56.specialBack hx (y := (⟨"com/example/stubwright/stubwright/idl/ConstValue$CharValue", "<init>", "(C)V"⟩ : MethodName)) rfl hown (mvT hZ (hw _ (List.mem_of_getElem? (i := 4) rfl))) (mvT hZ (hw _ (List.mem_of_getElem? (i := 5) rfl))) (mvT hZ (hw _ (List.mem_of_getElem? (i := 6) rfl))) (by decide) (backOf (W := 1) (cvInit l Z a0 hw [] wC clC G b56 (((((p1 &&& (65535 : Int32)).toUInt32.toUInt16.toUInt32.toInt32) ^^^ ((1 : Int32) <<< ((p2 &&& (15 : Int32)) &&& 31))) &&& (65535 : Int32)).toUInt32.toUInt16.toUInt32.toInt32) h56 n0 O56 (A56 : Exa Z h56 b56 "com/example/stubwright/stubwright/idl/ConstValue$CharValue") (i56_value : Fld Z h56 b56 "com/example/stubwright/stubwright/idl/ConstValue$CharValue" "value" "C" (.int (0 : Int32))) (ge59 : n0 ≤ b56) (own_i2c _ : (((((p1 &&& (65535 : Int32)).toUInt32.toUInt16.toUInt32.toInt32) ^^^ ((1 : Int32) <<< ((p2 &&& (15 : Int32)) &&& 31))) &&& (65535 : Int32)).toUInt32.toUInt16.toUInt32.toInt32).toUInt32.toUInt16.toUInt32.toInt32 = (((((p1 &&& (65535 : Int32)).toUInt32.toUInt16.toUInt32.toInt32) ^^^ ((1 : Int32) <<< ((p2 &&& (15 : Int32)) &&& 31))) &&& (65535 : Int32)).toUInt32.toUInt16.toUInt32.toInt32))) hZ (hw _ (List.mem_of_getElem? (i := 6) rfl)) (hw _ (List.mem_of_getElem? (i := 3) rfl)) (by decide) (by decide)) (g := (mkF m 68 #[iv p1, iv p2, iv p3, iv ((p1 &&& (65535 : Int32)).toUInt32.toUInt16.toUInt32.toInt32), iv (1 : Int32), iv (((((p1 &&& (65535 : Int32)).toUInt32.toUInt16.toUInt32.toInt32) ^^^ ((1 : Int32) <<< ((p2 &&& (15 : Int32)) &&& 31))) &&& (65535 : Int32)).toUInt32.toUInt16.toUInt32.toInt32), rv b49, .unset, .unset, .unset] [(.int (((((p1 &&& (65535 : Int32)).toUInt32.toUInt16.toUInt32.toInt32) ^^^ ((1 : Int32) <<< ((p2 &&& (15 : Int32)) &&& 31))) &&& (65535 : Int32)).toUInt32.toUInt16.toUInt32.toInt32)), (.ref b56), (.ref b56)])) rfl (by rw [hml]; rfl) (Steps.refl _) (a := b56) (argsL := [(.int (((((p1 &&& (65535 : Int32)).toUInt32.toUInt16.toUInt32.toInt32) ^^^ ((1 : Int32) <<< ((p2 &&& (15 : Int32)) &&& 31))) &&& (65535 : Int32)).toUInt32.toUInt16.toUInt32.toInt32))]) (rest := [(.ref b56)]) (lenOf pd_2 rfl) rfl (by show 2 * 0 + _ ≤ _; exact Nat.le_of_eq rfl) (hb hby at_68) (fun _ _ => ⟨rfl, e56, (by decide : 2 + 0 ≤ _), (by decide : 2 + 0 ≤ _)⟩)
    dsimp only [Pt.U, Pt.locs, Pt.cells, Pt.slots] at X60 l60 y60 z60 st60 hQ60
    subst l60 y60 z60
    obtain ⟨rfl, Nq60, Kq60, po60_0, po60_1⟩ := hQ60
    have N60 := Fr.app N53 Nq60
    have O60 := O56.keep Kq60 (allS ge59 all0)
    have k61 : Way p e below S0 T60 (mkF m 71 #[iv p1, iv p2, iv p3, iv ((p1 &&& (65535 : Int32)).toUInt32.toUInt16.toUInt32.toInt32), iv (1 : Int32), iv (((((p1 &&& (65535 : Int32)).toUInt32.toUInt16.toUInt32.toInt32) ^^^ ((1 : Int32) <<< ((p2 &&& (15 : Int32)) &&& 31))) &&& (65535 : Int32)).toUInt32.toUInt16.toUInt32.toInt32), rv b49, .unset, .unset, .unset] [(.ref b56)]) := fun t k => k58 t (st60.trans k)
    have k63 : Way p e below S0 T60 (mkF m 76 #[iv p1, iv p2, iv p3, iv ((p1 &&& (65535 : Int32)).toUInt32.toUInt16.toUInt32.toInt32), iv (1 : Int32), iv (((((p1 &&& (65535 : Int32)).toUInt32.toUInt16.toUInt32.toInt32) ^^^ ((1 : Int32) <<< ((p2 &&& (15 : Int32)) &&& 31))) &&& (65535 : Int32)).toUInt32.toUInt16.toUInt32.toInt32), rv b49, rv b56, .unset, .unset] [(.int (((((p1 &&& (65535 : Int32)).toUInt32.toUInt16.toUInt32.toInt32) ^^^ ((1 : Int32) <<< ((p2 &&& (15 : Int32)) &&& 31))) &&& (65535 : Int32)).toUInt32.toUInt16.toUInt32.toInt32)), (.int ((p1 &&& (65535 : Int32)).toUInt32.toUInt16.toUInt32.toInt32))]) := by
      intro t k
      refine k61 t ?_
      refine XS.astore X60.here hx rfl (hb hby at_71) rfl rfl (l' := #[iv p1, iv p2, iv p3, iv ((p1 &&& (65535 : Int32)).toUInt32.toUInt16.toUInt32.toInt32), iv (1 : Int32), iv (((((p1 &&& (65535 : Int32)).toUInt32.toUInt16.toUInt32.toInt32) ^^^ ((1 : Int32) <<< ((p2 &&& (15 : Int32)) &&& 31))) &&& (65535 : Int32)).toUInt32.toUInt16.toUInt32.toInt32), rv b49, rv b56, .unset, .unset]) rfl ?_
      show Steps p.tables e below (T60.setTop (mkF m 73 #[iv p1, iv p2, iv p3, iv ((p1 &&& (65535 : Int32)).toUInt32.toUInt16.toUInt32.toInt32), iv (1 : Int32), iv (((((p1 &&& (65535 : Int32)).toUInt32.toUInt16.toUInt32.toInt32) ^^^ ((1 : Int32) <<< ((p2 &&& (15 : Int32)) &&& 31))) &&& (65535 : Int32)).toUInt32.toUInt16.toUInt32.toInt32), rv b49, rv b56, .unset, .unset] [])) _
      refine XS.iloadN X60.here hx rfl (hb hby at_73) rfl ?_
      show Steps p.tables e below (T60.setTop (mkF m 74 #[iv p1, iv p2, iv p3, iv ((p1 &&& (65535 : Int32)).toUInt32.toUInt16.toUInt32.toInt32), iv (1 : Int32), iv (((((p1 &&& (65535 : Int32)).toUInt32.toUInt16.toUInt32.toInt32) ^^^ ((1 : Int32) <<< ((p2 &&& (15 : Int32)) &&& 31))) &&& (65535 : Int32)).toUInt32.toUInt16.toUInt32.toInt32), rv b49, rv b56, .unset, .unset] [(.int ((p1 &&& (65535 : Int32)).toUInt32.toUInt16.toUInt32.toInt32))])) _
      refine XS.iload X60.here hx rfl (hb hby at_74) rfl ?_
      show Steps p.tables e below (T60.setTop (mkF m 76 #[iv p1, iv p2, iv p3, iv ((p1 &&& (65535 : Int32)).toUInt32.toUInt16.toUInt32.toInt32), iv (1 : Int32), iv (((((p1 &&& (65535 : Int32)).toUInt32.toUInt16.toUInt32.toInt32) ^^^ ((1 : Int32) <<< ((p2 &&& (15 : Int32)) &&& 31))) &&& (65535 : Int32)).toUInt32.toUInt16.toUInt32.toInt32), rv b49, rv b56, .unset, .unset] [(.int (((((p1 &&& (65535 : Int32)).toUInt32.toUInt16.toUInt32.toInt32) ^^^ ((1 : Int32) <<< ((p2 &&& (15 : Int32)) &&& 31))) &&& (65535 : Int32)).toUInt32.toUInt16.toUInt32.toInt32)), (.int ((p1 &&& (65535 : Int32)).toUInt32.toUInt16.toUInt32.toInt32))])) _
      exact k
    by_cases hc62 : ((p1 &&& (65535 : Int32)).toUInt32.toUInt16.toUInt32.toInt32) = (((((p1 &&& (65535 : Int32)).toUInt32.toUInt16.toUInt32.toInt32) ^^^ ((1 : Int32) <<< ((p2 &&& (15 : Int32)) &&& 31))) &&& (65535 : Int32)).toUInt32.toUInt16.toUInt32.toInt32)
    · have k64 : Way p e below S0 T60 (mkF m 90 #[iv p1, iv p2, iv p3, iv ((p1 &&& (65535 : Int32)).toUInt32.toUInt16.toUInt32.toInt32), iv (1 : Int32), iv (((((p1 &&& (65535 : Int32)).toUInt32.toUInt16.toUInt32.toInt32) ^^^ ((1 : Int32) <<< ((p2 &&& (15 : Int32)) &&& 31))) &&& (65535 : Int32)).toUInt32.toUInt16.toUInt32.toInt32), rv b49, rv b56, iv (1 : Int32), .unset] [(.ref b56), (.ref b49)]) := by
        intro t k
        refine k63 t ?_
        refine XS.icmpNo X60.here hx rfl (hb hby at_76) rfl (teq (hc62 : ((p1 &&& (65535 : Int32)).toUInt32.toUInt16.toUInt32.toInt32) = (((((p1 &&& (65535 : Int32)).toUInt32.toUInt16.toUInt32.toInt32) ^^^ ((1 : Int32) <<< ((p2 &&& (15 : Int32)) &&& 31))) &&& (65535 : Int32)).toUInt32.toUInt16.toUInt32.toInt32))).2 ?_
        show Steps p.tables e below (T60.setTop (mkF m 79 #[iv p1, iv p2, iv p3, iv ((p1 &&& (65535 : Int32)).toUInt32.toUInt16.toUInt32.toInt32), iv (1 : Int32), iv (((((p1 &&& (65535 : Int32)).toUInt32.toUInt16.toUInt32.toInt32) ^^^ ((1 : Int32) <<< ((p2 &&& (15 : Int32)) &&& 31))) &&& (65535 : Int32)).toUInt32.toUInt16.toUInt32.toInt32), rv b49, rv b56, .unset, .unset] [])) _
        refine XS.iconst X60.here hx rfl (hb hby at_79) ?_
        show Steps p.tables e below (T60.setTop (mkF m 80 #[iv p1, iv p2, iv p3, iv ((p1 &&& (65535 : Int32)).toUInt32.toUInt16.toUInt32.toInt32), iv (1 : Int32), iv (((((p1 &&& (65535 : Int32)).toUInt32.toUInt16.toUInt32.toInt32) ^^^ ((1 : Int32) <<< ((p2 &&& (15 : Int32)) &&& 31))) &&& (65535 : Int32)).toUInt32.toUInt16.toUInt32.toInt32), rv b49, rv b56, .unset, .unset] [(.int (1 : Int32))])) _
        refine XS.goto X60.here hx rfl (pc0 := 80) (pc' := 84) rfl (hb hby at_80) (by decide) (by decide) ?_
        show Steps p.tables e below (T60.setTop (mkF m 84 #[iv p1, iv p2, iv p3, iv ((p1 &&& (65535 : Int32)).toUInt32.toUInt16.toUInt32.toInt32), iv (1 : Int32), iv (((((p1 &&& (65535 : Int32)).toUInt32.toUInt16.toUInt32.toInt32) ^^^ ((1 : Int32) <<< ((p2 &&& (15 : Int32)) &&& 31))) &&& (65535 : Int32)).toUInt32.toUInt16.toUInt32.toInt32), rv b49, rv b56, .unset, .unset] [(.int (1 : Int32))])) _
        refine XS.istore X60.here hx rfl (hb hby at_84) rfl (l' := #[iv p1, iv p2, iv p3, iv ((p1 &&& (65535 : Int32)).toUInt32.toUInt16.toUInt32.toInt32), iv (1 : Int32), iv (((((p1 &&& (65535 : Int32)).toUInt32.toUInt16.toUInt32.toInt32) ^^^ ((1 : Int32) <<< ((p2 &&& (15 : Int32)) &&& 31))) &&& (65535 : Int32)).toUInt32.toUInt16.toUInt32.toInt32), rv b49, rv b56, iv (1 : Int32), .unset]) rfl ?_
        show Steps p.tables e below (T60.setTop (mkF m 86 #[iv p1, iv p2, iv p3, iv ((p1 &&& (65535 : Int32)).toUInt32.toUInt16.toUInt32.toInt32), iv (1 : Int32), iv (((((p1 &&& (65535 : Int32)).toUInt32.toUInt16.toUInt32.toInt32) ^^^ ((1 : Int32) <<< ((p2 &&& (15 : Int32)) &&& 31))) &&& (65535 : Int32)).toUInt32.toUInt16.toUInt32.toInt32), rv b49, rv b56, iv (1 : Int32), .unset] [])) _
        refine XS.aload X60.here hx rfl (hb hby at_86) rfl rfl ?_
        show Steps p.tables e below (T60.setTop (mkF m 88 #[iv p1, iv p2, iv p3, iv ((p1 &&& (65535 : Int32)).toUInt32.toUInt16.toUInt32.toInt32), iv (1 : Int32), iv (((((p1 &&& (65535 : Int32)).toUInt32.toUInt16.toUInt32.toInt32) ^^^ ((1 : Int32) <<< ((p2 &&& (15 : Int32)) &&& 31))) &&& (65535 : Int32)).toUInt32.toUInt16.toUInt32.toInt32), rv b49, rv b56, iv (1 : Int32), .unset] [(.ref b49)])) _
        refine XS.aload X60.here hx rfl (hb hby at_88) rfl rfl ?_
        show Steps p.tables e below (T60.setTop (mkF m 90 #[iv p1, iv p2, iv p3, iv ((p1 &&& (65535 : Int32)).toUInt32.toUInt16.toUInt32.toInt32), iv (1 : Int32), iv (((((p1 &&& (65535 : Int32)).toUInt32.toUInt16.toUInt32.toInt32) ^^^ ((1 : Int32) <<< ((p2 &&& (15 : Int32)) &&& 31))) &&& (65535 : Int32)).toUInt32.toUInt16.toUInt32.toInt32), rv b49, rv b56, iv (1 : Int32), .unset] [(.ref b56), (.ref b49)])) _
        exact k
      have f65 : Fld Z T60.heap b49 "com/example/stubwright/stubwright/idl/ConstValue$CharValue" "value" "C" (.int ((p1 &&& (65535 : Int32)).toUInt32.toUInt16.toUInt32.toInt32)) := ((po53_1.ext E56).keep Kq60 (ninS (Nat.ne_of_lt (Nat.lt_of_lt_of_le po53_0.lt (Nat.le_of_eq g56.symm))) nin0))
      have f67 : Exa Z T60.heap b49 "com/example/stubwright/stubwright/idl/ConstValue$CharValue" := ((po53_0.ext E56).keep Kq60)
      obtain ⟨cq66, kq66, qq66a, qq66b, qq66c⟩ := isOf hZ rfl f67
      obtain ⟨_, _, ⟨T66, L66, kk66, nn66⟩, -, X66, ⟨Lc66, hQ66, l66, y66, z66⟩, st66⟩ := X60.virtualBack hx (y := (⟨"com/example/stubwright/stubwright/idl/ConstValue$CharValue", "equals", "(Ljava/lang/Object;)Z"⟩ : MethodName)) (z := (⟨"com/example/stubwright/stubwright/idl/ConstValue$CharValue", "equals", "(Ljava/lang/Object;)Z"⟩ : MethodName)) hown (mvT hZ (hw _ (List.mem_of_getElem? (i := 17) rfl))) (mvT hZ (hw _ (List.mem_of_getElem? (i := 18) rfl))) (notFace_of_selects (args := #[]) (mvT hZ (hw _ (List.mem_of_getElem? (i := 20) rfl)))) (mvT hZ (hw _ (List.mem_of_getElem? (i := 20) rfl))) (mvT hZ (hw _ (List.mem_of_getElem? (i := 19) rfl))) (by decide) (backOf (W := 0) (eqT l Z a0 hw [] wC clC G b49 b56 ((p1 &&& (65535 : Int32)).toUInt32.toUInt16.toUInt32.toInt32) (((((p1 &&& (65535 : Int32)).toUInt32.toUInt16.toUInt32.toInt32) ^^^ ((1 : Int32) <<< ((p2 &&& (15 : Int32)) &&& 31))) &&& (65535 : Int32)).toUInt32.toUInt16.toUInt32.toInt32) T60.heap n0 O60 (po60_0 : Exa Z T60.heap b56 "com/example/stubwright/stubwright/idl/ConstValue$CharValue") (f65 : Fld Z T60.heap b49 "com/example/stubwright/stubwright/idl/ConstValue$CharValue" "value" "C" (.int ((p1 &&& (65535 : Int32)).toUInt32.toUInt16.toUInt32.toInt32))) (po60_1 : Fld Z T60.heap b56 "com/example/stubwright/stubwright/idl/ConstValue$CharValue" "value" "C" (.int (((((p1 &&& (65535 : Int32)).toUInt32.toUInt16.toUInt32.toInt32) ^^^ ((1 : Int32) <<< ((p2 &&& (15 : Int32)) &&& 31))) &&& (65535 : Int32)).toUInt32.toUInt16.toUInt32.toInt32))) (hc62 : ((p1 &&& (65535 : Int32)).toUInt32.toUInt16.toUInt32.toInt32) = (((((p1 &&& (65535 : Int32)).toUInt32.toUInt16.toUInt32.toInt32) ^^^ ((1 : Int32) <<< ((p2 &&& (15 : Int32)) &&& 31))) &&& (65535 : Int32)).toUInt32.toUInt16.toUInt32.toInt32))) hZ (hw _ (List.mem_of_getElem? (i := 21) rfl)) (hw _ (List.mem_of_getElem? (i := 3) rfl)) (by decide) (by decide)) qq66a qq66c (g := (mkF m 90 #[iv p1, iv p2, iv p3, iv ((p1 &&& (65535 : Int32)).toUInt32.toUInt16.toUInt32.toInt32), iv (1 : Int32), iv (((((p1 &&& (65535 : Int32)).toUInt32.toUInt16.toUInt32.toInt32) ^^^ ((1 : Int32) <<< ((p2 &&& (15 : Int32)) &&& 31))) &&& (65535 : Int32)).toUInt32.toUInt16.toUInt32.toInt32), rv b49, rv b56, iv (1 : Int32), .unset] [(.ref b56), (.ref b49)])) rfl (by rw [hml]; rfl) (Steps.refl _) (argsL := [(.ref b56)]) (rest := []) (lenOf pd_3 rfl) rfl (by show 2 * 0 + _ ≤ _; exact Nat.le_of_eq rfl) (hb hby at_90) (fun _ _ => ⟨rfl, rfl, (by decide : 2 + 0 ≤ _), (by decide : 2 + 0 ≤ _)⟩)
      dsimp only [Pt.U, Pt.locs, Pt.cells, Pt.slots] at X66 l66 y66 z66 st66 hQ66
      subst l66 y66 z66
      obtain ⟨rfl, Nq66, e66⟩ := hQ66
      have N66 := Fr.app N60 Nq66
      have k68 : Way p e below S0 T66 (mkF m 93 #[iv p1, iv p2, iv p3, iv ((p1 &&& (65535 : Int32)).toUInt32.toUInt16.toUInt32.toInt32), iv (1 : Int32), iv (((((p1 &&& (65535 : Int32)).toUInt32.toUInt16.toUInt32.toInt32) ^^^ ((1 : Int32) <<< ((p2 &&& (15 : Int32)) &&& 31))) &&& (65535 : Int32)).toUInt32.toUInt16.toUInt32.toInt32), rv b49, rv b56, iv (1 : Int32), .unset] [(.int (1 : Int32))]) := fun t k => k64 t (st66.trans k)
      have k69 : Way p e below S0 T66 (mkF m 104 #[iv p1, iv p2, iv p3, iv ((p1 &&& (65535 : Int32)).toUInt32.toUInt16.toUInt32.toInt32), iv (1 : Int32), iv (((((p1 &&& (65535 : Int32)).toUInt32.toUInt16.toUInt32.toInt32) ^^^ ((1 : Int32) <<< ((p2 &&& (15 : Int32)) &&& 31))) &&& (65535 : Int32)).toUInt32.toUInt16.toUInt32.toInt32), rv b49, rv b56, iv (1 : Int32), .unset] [(.ref b49), (.ref b56)]) := by
        intro t k
        refine k68 t ?_
        refine XS.iload X66.here hx rfl (hb hby at_93) rfl ?_
        show Steps p.tables e below (T66.setTop (mkF m 95 #[iv p1, iv p2, iv p3, iv ((p1 &&& (65535 : Int32)).toUInt32.toUInt16.toUInt32.toInt32), iv (1 : Int32), iv (((((p1 &&& (65535 : Int32)).toUInt32.toUInt16.toUInt32.toInt32) ^^^ ((1 : Int32) <<< ((p2 &&& (15 : Int32)) &&& 31))) &&& (65535 : Int32)).toUInt32.toUInt16.toUInt32.toInt32), rv b49, rv b56, iv (1 : Int32), .unset] [(.int (1 : Int32)), (.int (1 : Int32))])) _
        refine XS.icmpYes X66.here hx rfl (pc0 := 95) (pc' := 100) rfl (hb hby at_95) rfl (teq ((by decide) : (1 : Int32) = (1 : Int32))).1 (by decide) (by decide) ?_
        show Steps p.tables e below (T66.setTop (mkF m 100 #[iv p1, iv p2, iv p3, iv ((p1 &&& (65535 : Int32)).toUInt32.toUInt16.toUInt32.toInt32), iv (1 : Int32), iv (((((p1 &&& (65535 : Int32)).toUInt32.toUInt16.toUInt32.toInt32) ^^^ ((1 : Int32) <<< ((p2 &&& (15 : Int32)) &&& 31))) &&& (65535 : Int32)).toUInt32.toUInt16.toUInt32.toInt32), rv b49, rv b56, iv (1 : Int32), .unset] [])) _
        refine XS.aload X66.here hx rfl (hb hby at_100) rfl rfl ?_
        show Steps p.tables e below (T66.setTop (mkF m 102 #[iv p1, iv p2, iv p3, iv ((p1 &&& (65535 : Int32)).toUInt32.toUInt16.toUInt32.toInt32), iv (1 : Int32), iv (((((p1 &&& (65535 : Int32)).toUInt32.toUInt16.toUInt32.toInt32) ^^^ ((1 : Int32) <<< ((p2 &&& (15 : Int32)) &&& 31))) &&& (65535 : Int32)).toUInt32.toUInt16.toUInt32.toInt32), rv b49, rv b56, iv (1 : Int32), .unset] [(.ref b56)])) _
        refine XS.aload X66.here hx rfl (hb hby at_102) rfl rfl ?_
        show Steps p.tables e below (T66.setTop (mkF m 104 #[iv p1, iv p2, iv p3, iv ((p1 &&& (65535 : Int32)).toUInt32.toUInt16.toUInt32.toInt32), iv (1 : Int32), iv (((((p1 &&& (65535 : Int32)).toUInt32.toUInt16.toUInt32.toInt32) ^^^ ((1 : Int32) <<< ((p2 &&& (15 : Int32)) &&& 31))) &&& (65535 : Int32)).toUInt32.toUInt16.toUInt32.toInt32), rv b49, rv b56, iv (1 : Int32), .unset] [(.ref b49), (.ref b56)])) _
        exact k
      obtain ⟨cq70, kq70, qq70a, qq70b, qq70c⟩ := isOf hZ e66 po60_0
      obtain ⟨_, _, ⟨T70, L70, kk70, nn70⟩, -, X70, ⟨Lc70, hQ70, l70, y70, z70⟩, st70⟩ := X66.virtualBack hx (y := (⟨"com/example/stubwright/stubwright/idl/ConstValue$CharValue", "equals", "(Ljava/lang/Object;)Z"⟩ : MethodName)) (z := (⟨"com/example/stubwright/stubwright/idl/ConstValue$CharValue", "equals", "(Ljava/lang/Object;)Z"⟩ : MethodName)) hown (mvT hZ (hw _ (List.mem_of_getElem? (i := 17) rfl))) (mvT hZ (hw _ (List.mem_of_getElem? (i := 18) rfl))) (notFace_of_selects (args := #[]) (mvT hZ (hw _ (List.mem_of_getElem? (i := 20) rfl)))) (mvT hZ (hw _ (List.mem_of_getElem? (i := 20) rfl))) (mvT hZ (hw _ (List.mem_of_getElem? (i := 19) rfl))) (by decide) (backOf (W := 0) (eqT l Z a0 hw [] wC clC G b56 b49 (((((p1 &&& (65535 : Int32)).toUInt32.toUInt16.toUInt32.toInt32) ^^^ ((1 : Int32) <<< ((p2 &&& (15 : Int32)) &&& 31))) &&& (65535 : Int32)).toUInt32.toUInt16.toUInt32.toInt32) ((p1 &&& (65535 : Int32)).toUInt32.toUInt16.toUInt32.toInt32) T60.heap n0 O60 (f67 : Exa Z T60.heap b49 "com/example/stubwright/stubwright/idl/ConstValue$CharValue") (po60_1 : Fld Z T60.heap b56 "com/example/stubwright/stubwright/idl/ConstValue$CharValue" "value" "C" (.int (((((p1 &&& (65535 : Int32)).toUInt32.toUInt16.toUInt32.toInt32) ^^^ ((1 : Int32) <<< ((p2 &&& (15 : Int32)) &&& 31))) &&& (65535 : Int32)).toUInt32.toUInt16.toUInt32.toInt32))) (f65 : Fld Z T60.heap b49 "com/example/stubwright/stubwright/idl/ConstValue$CharValue" "value" "C" (.int ((p1 &&& (65535 : Int32)).toUInt32.toUInt16.toUInt32.toInt32))) (Eq.symm hc62 : (((((p1 &&& (65535 : Int32)).toUInt32.toUInt16.toUInt32.toInt32) ^^^ ((1 : Int32) <<< ((p2 &&& (15 : Int32)) &&& 31))) &&& (65535 : Int32)).toUInt32.toUInt16.toUInt32.toInt32) = ((p1 &&& (65535 : Int32)).toUInt32.toUInt16.toUInt32.toInt32))) hZ (hw _ (List.mem_of_getElem? (i := 21) rfl)) (hw _ (List.mem_of_getElem? (i := 3) rfl)) (by decide) (by decide)) qq70a qq70c (g := (mkF m 104 #[iv p1, iv p2, iv p3, iv ((p1 &&& (65535 : Int32)).toUInt32.toUInt16.toUInt32.toInt32), iv (1 : Int32), iv (((((p1 &&& (65535 : Int32)).toUInt32.toUInt16.toUInt32.toInt32) ^^^ ((1 : Int32) <<< ((p2 &&& (15 : Int32)) &&& 31))) &&& (65535 : Int32)).toUInt32.toUInt16.toUInt32.toInt32), rv b49, rv b56, iv (1 : Int32), .unset] [(.ref b49), (.ref b56)])) rfl (by rw [hml]; rfl) (Steps.refl _) (argsL := [(.ref b49)]) (rest := []) (lenOf pd_3 rfl) rfl (by show 2 * 0 + _ ≤ _; exact Nat.le_of_eq rfl) (hb hby at_104) (fun _ _ => ⟨rfl, e66, (by decide : 2 + 0 ≤ _), (by decide : 2 + 0 ≤ _)⟩)
      dsimp only [Pt.U, Pt.locs, Pt.cells, Pt.slots] at X70 l70 y70 z70 st70 hQ70
      subst l70 y70 z70
      obtain ⟨rfl, Nq70, e70⟩ := hQ70
      have N70 := Fr.app N66 Nq70
      have k71 : Way p e below S0 T70 (mkF m 107 #[iv p1, iv p2, iv p3, iv ((p1 &&& (65535 : Int32)).toUInt32.toUInt16.toUInt32.toInt32), iv (1 : Int32), iv (((((p1 &&& (65535 : Int32)).toUInt32.toUInt16.toUInt32.toInt32) ^^^ ((1 : Int32) <<< ((p2 &&& (15 : Int32)) &&& 31))) &&& (65535 : Int32)).toUInt32.toUInt16.toUInt32.toInt32), rv b49, rv b56, iv (1 : Int32), .unset] [(.int (1 : Int32))]) := fun t k => k69 t (st70.trans k)
      have k72 : Way p e below S0 T70 (mkF m 118 #[iv p1, iv p2, iv p3, iv ((p1 &&& (65535 : Int32)).toUInt32.toUInt16.toUInt32.toInt32), iv (1 : Int32), iv (((((p1 &&& (65535 : Int32)).toUInt32.toUInt16.toUInt32.toInt32) ^^^ ((1 : Int32) <<< ((p2 &&& (15 : Int32)) &&& 31))) &&& (65535 : Int32)).toUInt32.toUInt16.toUInt32.toInt32), rv b49, rv b56, iv (1 : Int32), .unset] [(.ref b49), (.ref b49)]) := by
        intro t k
        refine k71 t ?_
        refine XS.iload X70.here hx rfl (hb hby at_107) rfl ?_
        show Steps p.tables e below (T70.setTop (mkF m 109 #[iv p1, iv p2, iv p3, iv ((p1 &&& (65535 : Int32)).toUInt32.toUInt16.toUInt32.toInt32), iv (1 : Int32), iv (((((p1 &&& (65535 : Int32)).toUInt32.toUInt16.toUInt32.toInt32) ^^^ ((1 : Int32) <<< ((p2 &&& (15 : Int32)) &&& 31))) &&& (65535 : Int32)).toUInt32.toUInt16.toUInt32.toInt32), rv b49, rv b56, iv (1 : Int32), .unset] [(.int (1 : Int32)), (.int (1 : Int32))])) _
        refine XS.icmpYes X70.here hx rfl (pc0 := 109) (pc' := 114) rfl (hb hby at_109) rfl (teq ((by decide) : (1 : Int32) = (1 : Int32))).1 (by decide) (by decide) ?_
        show Steps p.tables e below (T70.setTop (mkF m 114 #[iv p1, iv p2, iv p3, iv ((p1 &&& (65535 : Int32)).toUInt32.toUInt16.toUInt32.toInt32), iv (1 : Int32), iv (((((p1 &&& (65535 : Int32)).toUInt32.toUInt16.toUInt32.toInt32) ^^^ ((1 : Int32) <<< ((p2 &&& (15 : Int32)) &&& 31))) &&& (65535 : Int32)).toUInt32.toUInt16.toUInt32.toInt32), rv b49, rv b56, iv (1 : Int32), .unset] [])) _
        refine XS.aload X70.here hx rfl (hb hby at_114) rfl rfl ?_
        show Steps p.tables e below (T70.setTop (mkF m 116 #[iv p1, iv p2, iv p3, iv ((p1 &&& (65535 : Int32)).toUInt32.toUInt16.toUInt32.toInt32), iv (1 : Int32), iv (((((p1 &&& (65535 : Int32)).toUInt32.toUInt16.toUInt32.toInt32) ^^^ ((1 : Int32) <<< ((p2 &&& (15 : Int32)) &&& 31))) &&& (65535 : Int32)).toUInt32.toUInt16.toUInt32.toInt32), rv b49, rv b56, iv (1 : Int32), .unset] [(.ref b49)])) _
        refine XS.aload X70.here hx rfl (hb hby at_116) rfl rfl ?_
        show Steps p.tables e below (T70.setTop (mkF m 118 #[iv p1, iv p2, iv p3, iv ((p1 &&& (65535 : Int32)).toUInt32.toUInt16.toUInt32.toInt32), iv (1 : Int32), iv (((((p1 &&& (65535 : Int32)).toUInt32.toUInt16.toUInt32.toInt32) ^^^ ((1 : Int32) <<< ((p2 &&& (15 : Int32)) &&& 31))) &&& (65535 : Int32)).toUInt32.toUInt16.toUInt32.toInt32), rv b49, rv b56, iv (1 : Int32), .unset] [(.ref b49), (.ref b49)])) _
        exact k
      obtain ⟨cq73, kq73, qq73a, qq73b, qq73c⟩ := isOf hZ e70 f67
      obtain ⟨_, _, ⟨T73, L73, kk73, nn73⟩, -, X73, ⟨Lc73, hQ73, l73, y73, z73⟩, st73⟩ := X70.virtualBack hx (y := (⟨"com/example/stubwright/stubwright/idl/ConstValue$CharValue", "equals", "(Ljava/lang/Object;)Z"⟩ : MethodName)) (z := (⟨"com/example/stubwright/stubwright/idl/ConstValue$CharValue", "equals", "(Ljava/lang/Object;)Z"⟩ : MethodName)) hown (mvT hZ (hw _ (List.mem_of_getElem? (i := 17) rfl))) (mvT hZ (hw _ (List.mem_of_getElem? (i := 18) rfl))) (notFace_of_selects (args := #[]) (mvT hZ (hw _ (List.mem_of_getElem? (i := 20) rfl)))) (mvT hZ (hw _ (List.mem_of_getElem? (i := 20) rfl))) (mvT hZ (hw _ (List.mem_of_getElem? (i := 19) rfl))) (by decide) (backOf (W := 0) (eqT l Z a0 hw [] wC clC G b49 b49 ((p1 &&& (65535 : Int32)).toUInt32.toUInt16.toUInt32.toInt32) ((p1 &&& (65535 : Int32)).toUInt32.toUInt16.toUInt32.toInt32) T60.heap n0 O60 (f67 : Exa Z T60.heap b49 "com/example/stubwright/stubwright/idl/ConstValue$CharValue") (f65 : Fld Z T60.heap b49 "com/example/stubwright/stubwright/idl/ConstValue$CharValue" "value" "C" (.int ((p1 &&& (65535 : Int32)).toUInt32.toUInt16.toUInt32.toInt32))) (f65 : Fld Z T60.heap b49 "com/example/stubwright/stubwright/idl/ConstValue$CharValue" "value" "C" (.int ((p1 &&& (65535 : Int32)).toUInt32.toUInt16.toUInt32.toInt32))) (rfl : ((p1 &&& (65535 : Int32)).toUInt32.toUInt16.toUInt32.toInt32) = ((p1 &&& (65535 : Int32)).toUInt32.toUInt16.toUInt32.toInt32))) hZ (hw _ (List.mem_of_getElem? (i := 21) rfl)) (hw _ (List.mem_of_getElem? (i := 3) rfl)) (by decide) (by decide)) qq73a qq73c (g := (mkF m 118 #[iv p1, iv p2, iv p3, iv ((p1 &&& (65535 : Int32)).toUInt32.toUInt16.toUInt32.toInt32), iv (1 : Int32), iv (((((p1 &&& (65535 : Int32)).toUInt32.toUInt16.toUInt32.toInt32) ^^^ ((1 : Int32) <<< ((p2 &&& (15 : Int32)) &&& 31))) &&& (65535 : Int32)).toUInt32.toUInt16.toUInt32.toInt32), rv b49, rv b56, iv (1 : Int32), .unset] [(.ref b49), (.ref b49)])) rfl (by rw [hml]; rfl) (Steps.refl _) (argsL := [(.ref b49)]) (rest := []) (lenOf pd_3 rfl) rfl (by show 2 * 0 + _ ≤ _; exact Nat.le_of_eq rfl) (hb hby at_118) (fun _ _ => ⟨rfl, e70, (by decide : 2 + 0 ≤ _), (by decide : 2 + 0 ≤ _)⟩)
      dsimp only [Pt.U, Pt.locs, Pt.cells, Pt.slots] at X73 l73 y73 z73 st73 hQ73
      subst l73 y73 z73
      obtain ⟨rfl, Nq73, e73⟩ := hQ73
      have N73 := Fr.app N70 Nq73
      have k74 : Way p e below S0 T73 (mkF m 121 #[iv p1, iv p2, iv p3, iv ((p1 &&& (65535 : Int32)).toUInt32.toUInt16.toUInt32.toInt32), iv (1 : Int32), iv (((((p1 &&& (65535 : Int32)).toUInt32.toUInt16.toUInt32.toInt32) ^^^ ((1 : Int32) <<< ((p2 &&& (15 : Int32)) &&& 31))) &&& (65535 : Int32)).toUInt32.toUInt16.toUInt32.toInt32), rv b49, rv b56, iv (1 : Int32), .unset] [(.int (1 : Int32))]) := fun t k => k72 t (st73.trans k)
      have k75 : Way p e below S0 T73 (mkF m 129 #[iv p1, iv p2, iv p3, iv ((p1 &&& (65535 : Int32)).toUInt32.toUInt16.toUInt32.toInt32), iv (1 : Int32), iv (((((p1 &&& (65535 : Int32)).toUInt32.toUInt16.toUInt32.toInt32) ^^^ ((1 : Int32) <<< ((p2 &&& (15 : Int32)) &&& 31))) &&& (65535 : Int32)).toUInt32.toUInt16.toUInt32.toInt32), rv b49, rv b56, iv (1 : Int32), .unset] [.null, (.ref b49)]) := by
        intro t k
        refine k74 t ?_
        refine XS.ifYes X73.here hx rfl (pc0 := 121) (pc' := 126) rfl (hb hby at_121) rfl ((if0 _ _).trans (feq ((by decide) : ¬ ((1 : Int32) = (0 : Int32)))).2) (by decide) (by decide) ?_
        show Steps p.tables e below (T73.setTop (mkF m 126 #[iv p1, iv p2, iv p3, iv ((p1 &&& (65535 : Int32)).toUInt32.toUInt16.toUInt32.toInt32), iv (1 : Int32), iv (((((p1 &&& (65535 : Int32)).toUInt32.toUInt16.toUInt32.toInt32) ^^^ ((1 : Int32) <<< ((p2 &&& (15 : Int32)) &&& 31))) &&& (65535 : Int32)).toUInt32.toUInt16.toUInt32.toInt32), rv b49, rv b56, iv (1 : Int32), .unset] [])) _
        refine XS.aload X73.here hx rfl (hb hby at_126) rfl rfl ?_
        show Steps p.tables e below (T73.setTop (mkF m 128 #[iv p1, iv p2, iv p3, iv ((p1 &&& (65535 : Int32)).toUInt32.toUInt16.toUInt32.toInt32), iv (1 : Int32), iv (((((p1 &&& (65535 : Int32)).toUInt32.toUInt16.toUInt32.toInt32) ^^^ ((1 : Int32) <<< ((p2 &&& (15 : Int32)) &&& 31))) &&& (65535 : Int32)).toUInt32.toUInt16.toUInt32.toInt32), rv b49, rv b56, iv (1 : Int32), .unset] [(.ref b49)])) _
        refine XS.aconstNull X73.here hx rfl (hb hby at_128) ?_
        show Steps p.tables e below (T73.setTop (mkF m 129 #[iv p1, iv p2, iv p3, iv ((p1 &&& (65535 : Int32)).toUInt32.toUInt16.toUInt32.toInt32), iv (1 : Int32), iv (((((p1 &&& (65535 : Int32)).toUInt32.toUInt16.toUInt32.toInt32) ^^^ ((1 : Int32) <<< ((p2 &&& (15 : Int32)) &&& 31))) &&& (65535 : Int32)).toUInt32.toUInt16.toUInt32.toInt32), rv b49, rv b56, iv (1 : Int32), .unset] [.null, (.ref b49)])) _
        exact k
      obtain ⟨cq76, kq76, qq76a, qq76b, qq76c⟩ := isOf hZ e73 f67
      obtain ⟨_, _, ⟨T76, L76, kk76, nn76⟩, -, X76, ⟨Lc76, hQ76, l76, y76, z76⟩, st76⟩ := X73.virtualBack hx (y := (⟨"com/example/stubwright/stubwright/idl/ConstValue$CharValue", "equals", "(Ljava/lang/Object;)Z"⟩ : MethodName)) (z := (⟨"com/example/stubwright/stubwright/idl/ConstValue$CharValue", "equals", "(Ljava/lang/Object;)Z"⟩ : MethodName)) hown (mvT hZ (hw _ (List.mem_of_getElem? (i := 17) rfl))) (mvT hZ (hw _ (List.mem_of_getElem? (i := 18) rfl))) (notFace_of_selects (args := #[]) (mvT hZ (hw _ (List.mem_of_getElem? (i := 20) rfl)))) (mvT hZ (hw _ (List.mem_of_getElem? (i := 20) rfl))) (mvT hZ (hw _ (List.mem_of_getElem? (i := 19) rfl))) (by decide) (backOf (W := 0) (eqNull l Z a0 hw [] wC clC G b49 T60.heap n0 O60 ) hZ (hw _ (List.mem_of_getElem? (i := 21) rfl)) (hw _ (List.mem_of_getElem? (i := 3) rfl)) (by decide) (by decide)) qq76a qq76c (g := (mkF m 129 #[iv p1, iv p2, iv p3, iv ((p1 &&& (65535 : Int32)).toUInt32.toUInt16.toUInt32.toInt32), iv (1 : Int32), iv (((((p1 &&& (65535 : Int32)).toUInt32.toUInt16.toUInt32.toInt32) ^^^ ((1 : Int32) <<< ((p2 &&& (15 : Int32)) &&& 31))) &&& (65535 : Int32)).toUInt32.toUInt16.toUInt32.toInt32), rv b49, rv b56, iv (1 : Int32), .unset] [.null, (.ref b49)])) rfl (by rw [hml]; rfl) (Steps.refl _) (argsL := [.null]) (rest := []) (lenOf pd_3 rfl) rfl (by show 2 * 0 + _ ≤ _; exact Nat.le_of_eq rfl) (hb hby at_129) (fun _ _ => ⟨rfl, e73, (by decide : 2 + 0 ≤ _), (by decide : 2 + 0 ≤ _)⟩)
      dsimp only [Pt.U, Pt.locs, Pt.cells, Pt.slots] at X76 l76 y76 z76 st76 hQ76
      subst l76 y76 z76
      obtain ⟨rfl, Nq76, e76⟩ := hQ76
      have N76 := Fr.app N73 Nq76
      have k77 : Way p e below S0 T76 (mkF m 132 #[iv p1, iv p2, iv p3, iv ((p1 &&& (65535 : Int32)).toUInt32.toUInt16.toUInt32.toInt32), iv (1 : Int32), iv (((((p1 &&& (65535 : Int32)).toUInt32.toUInt16.toUInt32.toInt32) ^^^ ((1 : Int32) <<< ((p2 &&& (15 : Int32)) &&& 31))) &&& (65535 : Int32)).toUInt32.toUInt16.toUInt32.toInt32), rv b49, rv b56, iv (1 : Int32), .unset] [(.int (0 : Int32))]) := fun t k => k75 t (st76.trans k)
      have k79 : Way p e below S0 T76 (mkF m 167 #[iv p1, iv p2, iv p3, iv ((p1 &&& (65535 : Int32)).toUInt32.toUInt16.toUInt32.toInt32), iv (1 : Int32), iv (((((p1 &&& (65535 : Int32)).toUInt32.toUInt16.toUInt32.toInt32) ^^^ ((1 : Int32) <<< ((p2 &&& (15 : Int32)) &&& 31))) &&& (65535 : Int32)).toUInt32.toUInt16.toUInt32.toInt32), rv b49, rv b56, iv (1 : Int32), .unset] [(.int ((p1 &&& (65535 : Int32)).toUInt32.toUInt16.toUInt32.toInt32))]) := by
        intro t k
        refine k77 t ?_
        refine XS.ifYes X76.here hx rfl (pc0 := 132) (pc' := 137) rfl (hb hby at_132) rfl ((if0 _ _).trans (teq ((by decide) : (0 : Int32) = (0 : Int32))).1) (by decide) (by decide) ?_
        show Steps p.tables e below (T76.setTop (mkF m 137 #[iv p1, iv p2, iv p3, iv ((p1 &&& (65535 : Int32)).toUInt32.toUInt16.toUInt32.toInt32), iv (1 : Int32), iv (((((p1 &&& (65535 : Int32)).toUInt32.toUInt16.toUInt32.toInt32) ^^^ ((1 : Int32) <<< ((p2 &&& (15 : Int32)) &&& 31))) &&& (65535 : Int32)).toUInt32.toUInt16.toUInt32.toInt32), rv b49, rv b56, iv (1 : Int32), .unset] [])) _
        refine XS.iload X76.here hx rfl (hb hby at_137) rfl ?_
        show Steps p.tables e below (T76.setTop (mkF m 139 #[iv p1, iv p2, iv p3, iv ((p1 &&& (65535 : Int32)).toUInt32.toUInt16.toUInt32.toInt32), iv (1 : Int32), iv (((((p1 &&& (65535 : Int32)).toUInt32.toUInt16.toUInt32.toInt32) ^^^ ((1 : Int32) <<< ((p2 &&& (15 : Int32)) &&& 31))) &&& (65535 : Int32)).toUInt32.toUInt16.toUInt32.toInt32), rv b49, rv b56, iv (1 : Int32), .unset] [(.int (1 : Int32))])) _
        refine XS.iconst X76.here hx rfl (hb hby at_139) ?_
        show Steps p.tables e below (T76.setTop (mkF m 140 #[iv p1, iv p2, iv p3, iv ((p1 &&& (65535 : Int32)).toUInt32.toUInt16.toUInt32.toInt32), iv (1 : Int32), iv (((((p1 &&& (65535 : Int32)).toUInt32.toUInt16.toUInt32.toInt32) ^^^ ((1 : Int32) <<< ((p2 &&& (15 : Int32)) &&& 31))) &&& (65535 : Int32)).toUInt32.toUInt16.toUInt32.toInt32), rv b49, rv b56, iv (1 : Int32), .unset] [(.int (3 : Int32)), (.int (1 : Int32))])) _
        refine XS.icmpYes X76.here hx rfl (pc0 := 140) (pc' := 166) rfl (hb hby at_140) rfl (feq ((by decide) : ¬ ((1 : Int32) = (3 : Int32)))).2 (by decide) (by decide) ?_
        show Steps p.tables e below (T76.setTop (mkF m 166 #[iv p1, iv p2, iv p3, iv ((p1 &&& (65535 : Int32)).toUInt32.toUInt16.toUInt32.toInt32), iv (1 : Int32), iv (((((p1 &&& (65535 : Int32)).toUInt32.toUInt16.toUInt32.toInt32) ^^^ ((1 : Int32) <<< ((p2 &&& (15 : Int32)) &&& 31))) &&& (65535 : Int32)).toUInt32.toUInt16.toUInt32.toInt32), rv b49, rv b56, iv (1 : Int32), .unset] [])) _
        refine XS.iloadN X76.here hx rfl (hb hby at_166) rfl ?_
        show Steps p.tables e below (T76.setTop (mkF m 167 #[iv p1, iv p2, iv p3, iv ((p1 &&& (65535 : Int32)).toUInt32.toUInt16.toUInt32.toInt32), iv (1 : Int32), iv (((((p1 &&& (65535 : Int32)).toUInt32.toUInt16.toUInt32.toInt32) ^^^ ((1 : Int32) <<< ((p2 &&& (15 : Int32)) &&& 31))) &&& (65535 : Int32)).toUInt32.toUInt16.toUInt32.toInt32), rv b49, rv b56, iv (1 : Int32), .unset] [(.int ((p1 &&& (65535 : Int32)).toUInt32.toUInt16.toUInt32.toInt32))])) _
        exact k
      by_cases hc78 : (127 : Int32) < ((p1 &&& (65535 : Int32)).toUInt32.toUInt16.toUInt32.toInt32)
      · obtain ⟨_, _, ⟨T80, L80, kk80, nn80⟩, -, X80, ⟨Lc80, hQ80, l80, y80, z80⟩, st80⟩ := Jvm.LawKit.callS X76 hx (y := (⟨"java/lang/Integer", "valueOf", "(I)Ljava/lang/Integer;"⟩ : MethodName)) hown (mvT hZ (hw _ (List.mem_of_getElem? (i := 24) rfl))) (mvT hZ (hw _ (List.mem_of_getElem? (i := 25) rfl))) (mvT hZ (hw _ (List.mem_of_getElem? (i := 26) rfl))) (mvT hZ (hw _ (List.mem_of_getElem? (i := 27) rfl))) (by decide) (backOf (W := 0) (vofNew l Z a0 hw [] wC clC G ((p1 &&& (65535 : Int32)).toUInt32.toUInt16.toUInt32.toInt32) T60.heap n0 O60 (own_i2c_lo _ : ¬ (((p1 &&& (65535 : Int32)).toUInt32.toUInt16.toUInt32.toInt32) < (-128 : Int32))) (hc78 : (127 : Int32) < ((p1 &&& (65535 : Int32)).toUInt32.toUInt16.toUInt32.toInt32))) hZ (hw _ (List.mem_of_getElem? (i := 27) rfl)) (hw _ (List.mem_of_getElem? (i := 26) rfl)) (by decide) (by decide)) (g := (mkF m 167 #[iv p1, iv p2, iv p3, iv ((p1 &&& (65535 : Int32)).toUInt32.toUInt16.toUInt32.toInt32), iv (1 : Int32), iv (((((p1 &&& (65535 : Int32)).toUInt32.toUInt16.toUInt32.toInt32) ^^^ ((1 : Int32) <<< ((p2 &&& (15 : Int32)) &&& 31))) &&& (65535 : Int32)).toUInt32.toUInt16.toUInt32.toInt32), rv b49, rv b56, iv (1 : Int32), .unset] [(.int ((p1 &&& (65535 : Int32)).toUInt32.toUInt16.toUInt32.toInt32))])) rfl (by rw [hml]; rfl) (argsL := [(.int ((p1 &&& (65535 : Int32)).toUInt32.toUInt16.toUInt32.toInt32))]) (rest := []) (lenOf pd_4 rfl) rfl (by show 2 * 0 + _ ≤ _; exact Nat.le_of_eq rfl) (hb hby at_167) (fun _ _ => ⟨rfl, e76, (by decide : 2 + 1 ≤ _), (by decide : 2 + 1 ≤ _)⟩)
        dsimp only [Pt.U, Pt.locs, Pt.cells, Pt.slots] at X80 l80 y80 z80 st80 hQ80
        subst l80 y80 z80
        obtain ⟨y1_80, rfl, Nq80, Kq80, po80_0, po80_1⟩ := hQ80
        have N80 := Fr.app N76 Nq80
        have O80 := O60.keep Kq80 all0
        have k81 : Way p e below S0 T80 (mkF m 170 #[iv p1, iv p2, iv p3, iv ((p1 &&& (65535 : Int32)).toUInt32.toUInt16.toUInt32.toInt32), iv (1 : Int32), iv (((((p1 &&& (65535 : Int32)).toUInt32.toUInt16.toUInt32.toInt32) ^^^ ((1 : Int32) <<< ((p2 &&& (15 : Int32)) &&& 31))) &&& (65535 : Int32)).toUInt32.toUInt16.toUInt32.toInt32), rv b49, rv b56, iv (1 : Int32), .unset] [(.ref y1_80)]) := fun t k => k79 t (st80 _ k)
        have k82 : Way p e below S0 T80 (mkF m 176 #[iv p1, iv p2, iv p3, iv ((p1 &&& (65535 : Int32)).toUInt32.toUInt16.toUInt32.toInt32), iv (1 : Int32), iv (((((p1 &&& (65535 : Int32)).toUInt32.toUInt16.toUInt32.toInt32) ^^^ ((1 : Int32) <<< ((p2 &&& (15 : Int32)) &&& 31))) &&& (65535 : Int32)).toUInt32.toUInt16.toUInt32.toInt32), rv b49, rv b56, iv (1 : Int32), rv y1_80] [(.ref y1_80), (.ref b49)]) := by
          intro t k
          refine k81 t ?_
          refine XS.astore X80.here hx rfl (hb hby at_170) rfl rfl (l' := #[iv p1, iv p2, iv p3, iv ((p1 &&& (65535 : Int32)).toUInt32.toUInt16.toUInt32.toInt32), iv (1 : Int32), iv (((((p1 &&& (65535 : Int32)).toUInt32.toUInt16.toUInt32.toInt32) ^^^ ((1 : Int32) <<< ((p2 &&& (15 : Int32)) &&& 31))) &&& (65535 : Int32)).toUInt32.toUInt16.toUInt32.toInt32), rv b49, rv b56, iv (1 : Int32), rv y1_80]) rfl ?_
          show Steps p.tables e below (T80.setTop (mkF m 172 #[iv p1, iv p2, iv p3, iv ((p1 &&& (65535 : Int32)).toUInt32.toUInt16.toUInt32.toInt32), iv (1 : Int32), iv (((((p1 &&& (65535 : Int32)).toUInt32.toUInt16.toUInt32.toInt32) ^^^ ((1 : Int32) <<< ((p2 &&& (15 : Int32)) &&& 31))) &&& (65535 : Int32)).toUInt32.toUInt16.toUInt32.toInt32), rv b49, rv b56, iv (1 : Int32), rv y1_80] [])) _
          refine XS.aload X80.here hx rfl (hb hby at_172) rfl rfl ?_
          show Steps p.tables e below (T80.setTop (mkF m 174 #[iv p1, iv p2, iv p3, iv ((p1 &&& (65535 : Int32)).toUInt32.toUInt16.toUInt32.toInt32), iv (1 : Int32), iv (((((p1 &&& (65535 : Int32)).toUInt32.toUInt16.toUInt32.toInt32) ^^^ ((1 : Int32) <<< ((p2 &&& (15 : Int32)) &&& 31))) &&& (65535 : Int32)).toUInt32.toUInt16.toUInt32.toInt32), rv b49, rv b56, iv (1 : Int32), rv y1_80] [(.ref b49)])) _
          refine XS.aload X80.here hx rfl (hb hby at_174) rfl rfl ?_
          show Steps p.tables e below (T80.setTop (mkF m 176 #[iv p1, iv p2, iv p3, iv ((p1 &&& (65535 : Int32)).toUInt32.toUInt16.toUInt32.toInt32), iv (1 : Int32), iv (((((p1 &&& (65535 : Int32)).toUInt32.toUInt16.toUInt32.toInt32) ^^^ ((1 : Int32) <<< ((p2 &&& (15 : Int32)) &&& 31))) &&& (65535 : Int32)).toUInt32.toUInt16.toUInt32.toInt32), rv b49, rv b56, iv (1 : Int32), rv y1_80] [(.ref y1_80), (.ref b49)])) _
          exact k
        have f84 : Exa Z T80.heap b49 "com/example/stubwright/stubwright/idl/ConstValue$CharValue" := (f67.keep Kq80)
        obtain ⟨cq83, kq83, qq83a, qq83b, qq83c⟩ := isOf hZ rfl f84
        obtain ⟨_, _, ⟨T83, L83, kk83, nn83⟩, -, X83, ⟨Lc83, hQ83, l83, y83, z83⟩, st83⟩ := X80.virtualBack hx (y := (⟨"com/example/stubwright/stubwright/idl/ConstValue$CharValue", "equals", "(Ljava/lang/Object;)Z"⟩ : MethodName)) (z := (⟨"com/example/stubwright/stubwright/idl/ConstValue$CharValue", "equals", "(Ljava/lang/Object;)Z"⟩ : MethodName)) hown (mvT hZ (hw _ (List.mem_of_getElem? (i := 17) rfl))) (mvT hZ (hw _ (List.mem_of_getElem? (i := 18) rfl))) (notFace_of_selects (args := #[]) (mvT hZ (hw _ (List.mem_of_getElem? (i := 20) rfl)))) (mvT hZ (hw _ (List.mem_of_getElem? (i := 20) rfl))) (mvT hZ (hw _ (List.mem_of_getElem? (i := 19) rfl))) (by decide) (backOf (W := 0) (eqOther1 l Z a0 hw [] wC clC G b49 y1_80 T80.heap n0 O80 (po80_1 : Exa Z T80.heap y1_80 "java/lang/Integer")) hZ (hw _ (List.mem_of_getElem? (i := 21) rfl)) (hw _ (List.mem_of_getElem? (i := 3) rfl)) (by decide) (by decide)) qq83a qq83c (g := (mkF m 176 #[iv p1, iv p2, iv p3, iv ((p1 &&& (65535 : Int32)).toUInt32.toUInt16.toUInt32.toInt32), iv (1 : Int32), iv (((((p1 &&& (65535 : Int32)).toUInt32.toUInt16.toUInt32.toInt32) ^^^ ((1 : Int32) <<< ((p2 &&& (15 : Int32)) &&& 31))) &&& (65535 : Int32)).toUInt32.toUInt16.toUInt32.toInt32), rv b49, rv b56, iv (1 : Int32), rv y1_80] [(.ref y1_80), (.ref b49)])) rfl (by rw [hml]; rfl) (Steps.refl _) (argsL := [(.ref y1_80)]) (rest := []) (lenOf pd_3 rfl) rfl (by show 2 * 0 + _ ≤ _; exact Nat.le_of_eq rfl) (hb hby at_176) (fun _ _ => ⟨rfl, rfl, (by decide : 3 + 0 ≤ _), (by decide : 3 + 0 ≤ _)⟩)
        dsimp only [Pt.U, Pt.locs, Pt.cells, Pt.slots] at X83 l83 y83 z83 st83 hQ83
        subst l83 y83 z83
        obtain ⟨rfl, Nq83, e83⟩ := hQ83
        have N83 := Fr.app N80 Nq83
        have k85 : Way p e below S0 T83 (mkF m 179 #[iv p1, iv p2, iv p3, iv ((p1 &&& (65535 : Int32)).toUInt32.toUInt16.toUInt32.toInt32), iv (1 : Int32), iv (((((p1 &&& (65535 : Int32)).toUInt32.toUInt16.toUInt32.toInt32) ^^^ ((1 : Int32) <<< ((p2 &&& (15 : Int32)) &&& 31))) &&& (65535 : Int32)).toUInt32.toUInt16.toUInt32.toInt32), rv b49, rv b56, iv (1 : Int32), rv y1_80] [(.int (0 : Int32))]) := fun t k => k82 t (st83.trans k)
        have k86 : Way p e below S0 T83 (mkF m 185 #[iv p1, iv p2, iv p3, iv ((p1 &&& (65535 : Int32)).toUInt32.toUInt16.toUInt32.toInt32), iv (1 : Int32), iv (((((p1 &&& (65535 : Int32)).toUInt32.toUInt16.toUInt32.toInt32) ^^^ ((1 : Int32) <<< ((p2 &&& (15 : Int32)) &&& 31))) &&& (65535 : Int32)).toUInt32.toUInt16.toUInt32.toInt32), rv b49, rv b56, iv (1 : Int32), rv y1_80] [(.int (1 : Int32))]) := by
          intro t k
          refine k85 t ?_
          refine XS.ifYes X83.here hx rfl (pc0 := 179) (pc' := 184) rfl (hb hby at_179) rfl ((if0 _ _).trans (teq ((by decide) : (0 : Int32) = (0 : Int32))).1) (by decide) (by decide) ?_
          show Steps p.tables e below (T83.setTop (mkF m 184 #[iv p1, iv p2, iv p3, iv ((p1 &&& (65535 : Int32)).toUInt32.toUInt16.toUInt32.toInt32), iv (1 : Int32), iv (((((p1 &&& (65535 : Int32)).toUInt32.toUInt16.toUInt32.toInt32) ^^^ ((1 : Int32) <<< ((p2 &&& (15 : Int32)) &&& 31))) &&& (65535 : Int32)).toUInt32.toUInt16.toUInt32.toInt32), rv b49, rv b56, iv (1 : Int32), rv y1_80] [])) _
          refine XS.iconst X83.here hx rfl (hb hby at_184) ?_
          show Steps p.tables e below (T83.setTop (mkF m 185 #[iv p1, iv p2, iv p3, iv ((p1 &&& (65535 : Int32)).toUInt32.toUInt16.toUInt32.toInt32), iv (1 : Int32), iv (((((p1 &&& (65535 : Int32)).toUInt32.toUInt16.toUInt32.toInt32) ^^^ ((1 : Int32) <<< ((p2 &&& (15 : Int32)) &&& 31))) &&& (65535 : Int32)).toUInt32.toUInt16.toUInt32.toInt32), rv b49, rv b56, iv (1 : Int32), rv y1_80] [(.int (1 : Int32))])) _
          exact k
        obtain ⟨fs, hr, hrun, hended, hW, hsame⟩ := X83.leave (v := some (.int (1 : Int32))) (fun h => by rw [Bd.returns] at h; cases h)
        refine ⟨_, _, k86 _ (retN X83 hx (t := .boolean) Bd.returns (by simp) (hb hby at_185) hr), hrun, hended, _, _, rfl, ?_, ⟨_, rfl⟩, hW, hsame.mono (by decide) (by decide)⟩
        show Q_law_met Z wC clC p1 p2 p3 h0 n0 _ T83.heap _
        rw [e83]
        exact ⟨rfl, N83⟩
      · obtain ⟨_, _, ⟨T87, L87, kk87, nn87⟩, -, X87, ⟨Lc87, hQ87, l87, y87, z87⟩, st87⟩ := Jvm.LawKit.callS X76 hx (y := (⟨"java/lang/Integer", "valueOf", "(I)Ljava/lang/Integer;"⟩ : MethodName)) hown (mvT hZ (hw _ (List.mem_of_getElem? (i := 24) rfl))) (mvT hZ (hw _ (List.mem_of_getElem? (i := 25) rfl))) (mvT hZ (hw _ (List.mem_of_getElem? (i := 26) rfl))) (mvT hZ (hw _ (List.mem_of_getElem? (i := 27) rfl))) (by decide) (backOf (W := 0) (vofOld l Z a0 hw [] wC clC G ((p1 &&& (65535 : Int32)).toUInt32.toUInt16.toUInt32.toInt32) T60.heap n0 O60 (own_i2c_lo _ : ¬ (((p1 &&& (65535 : Int32)).toUInt32.toUInt16.toUInt32.toInt32) < (-128 : Int32))) (hc78 : ¬ ((127 : Int32) < ((p1 &&& (65535 : Int32)).toUInt32.toUInt16.toUInt32.toInt32)))) hZ (hw _ (List.mem_of_getElem? (i := 27) rfl)) (hw _ (List.mem_of_getElem? (i := 26) rfl)) (by decide) (by decide)) (g := (mkF m 167 #[iv p1, iv p2, iv p3, iv ((p1 &&& (65535 : Int32)).toUInt32.toUInt16.toUInt32.toInt32), iv (1 : Int32), iv (((((p1 &&& (65535 : Int32)).toUInt32.toUInt16.toUInt32.toInt32) ^^^ ((1 : Int32) <<< ((p2 &&& (15 : Int32)) &&& 31))) &&& (65535 : Int32)).toUInt32.toUInt16.toUInt32.toInt32), rv b49, rv b56, iv (1 : Int32), .unset] [(.int ((p1 &&& (65535 : Int32)).toUInt32.toUInt16.toUInt32.toInt32))])) rfl (by rw [hml]; rfl) (argsL := [(.int ((p1 &&& (65535 : Int32)).toUInt32.toUInt16.toUInt32.toInt32))]) (rest := []) (lenOf pd_4 rfl) rfl (by show 2 * 0 + _ ≤ _; exact Nat.le_of_eq rfl) (hb hby at_167) (fun _ _ => ⟨rfl, e76, (by decide : 2 + 0 ≤ _), (by decide : 2 + 0 ≤ _)⟩)
        dsimp only [Pt.U, Pt.locs, Pt.cells, Pt.slots] at X87 l87 y87 z87 st87 hQ87
        subst l87 y87 z87
        obtain ⟨y1_87, rfl, Nq87, e87, po87_0⟩ := hQ87
        have N87 := Fr.app N76 Nq87
        rw [e87] at po87_0
        have k88 : Way p e below S0 T87 (mkF m 170 #[iv p1, iv p2, iv p3, iv ((p1 &&& (65535 : Int32)).toUInt32.toUInt16.toUInt32.toInt32), iv (1 : Int32), iv (((((p1 &&& (65535 : Int32)).toUInt32.toUInt16.toUInt32.toInt32) ^^^ ((1 : Int32) <<< ((p2 &&& (15 : Int32)) &&& 31))) &&& (65535 : Int32)).toUInt32.toUInt16.toUInt32.toInt32), rv b49, rv b56, iv (1 : Int32), .unset] [(.ref y1_87)]) := fun t k => k79 t (st87 _ k)
        have k89 : Way p e below S0 T87 (mkF m 176 #[iv p1, iv p2, iv p3, iv ((p1 &&& (65535 : Int32)).toUInt32.toUInt16.toUInt32.toInt32), iv (1 : Int32), iv (((((p1 &&& (65535 : Int32)).toUInt32.toUInt16.toUInt32.toInt32) ^^^ ((1 : Int32) <<< ((p2 &&& (15 : Int32)) &&& 31))) &&& (65535 : Int32)).toUInt32.toUInt16.toUInt32.toInt32), rv b49, rv b56, iv (1 : Int32), rv y1_87] [(.ref y1_87), (.ref b49)]) := by
          intro t k
          refine k88 t ?_
          refine XS.astore X87.here hx rfl (hb hby at_170) rfl rfl (l' := #[iv p1, iv p2, iv p3, iv ((p1 &&& (65535 : Int32)).toUInt32.toUInt16.toUInt32.toInt32), iv (1 : Int32), iv (((((p1 &&& (65535 : Int32)).toUInt32.toUInt16.toUInt32.toInt32) ^^^ ((1 : Int32) <<< ((p2 &&& (15 : Int32)) &&& 31))) &&& (65535 : Int32)).toUInt32.toUInt16.toUInt32.toInt32), rv b49, rv b56, iv (1 : Int32), rv y1_87]) rfl ?_
          show Steps p.tables e below (T87.setTop (mkF m 172 #[iv p1, iv p2, iv p3, iv ((p1 &&& (65535 : Int32)).toUInt32.toUInt16.toUInt32.toInt32), iv (1 : Int32), iv (((((p1 &&& (65535 : Int32)).toUInt32.toUInt16.toUInt32.toInt32) ^^^ ((1 : Int32) <<< ((p2 &&& (15 : Int32)) &&& 31))) &&& (65535 : Int32)).toUInt32.toUInt16.toUInt32.toInt32), rv b49, rv b56, iv (1 : Int32), rv y1_87] [])) _
          refine XS.aload X87.here hx rfl (hb hby at_172) rfl rfl ?_
          show Steps p.tables e below (T87.setTop (mkF m 174 #[iv p1, iv p2, iv p3, iv ((p1 &&& (65535 : Int32)).toUInt32.toUInt16.toUInt32.toInt32), iv (1 : Int32), iv (((((p1 &&& (65535 : Int32)).toUInt32.toUInt16.toUInt32.toInt32) ^^^ ((1 : Int32) <<< ((p2 &&& (15 : Int32)) &&& 31))) &&& (65535 : Int32)).toUInt32.toUInt16.toUInt32.toInt32), rv b49, rv b56, iv (1 : Int32), rv y1_87] [(.ref b49)])) _
          refine XS.aload X87.here hx rfl (hb hby at_174) rfl rfl ?_
          show Steps p.tables e below (T87.setTop (mkF m 176 #[iv p1, iv p2, iv p3, iv ((p1 &&& (65535 : Int32)).toUInt32.toUInt16.toUInt32.toInt32), iv (1 : Int32), iv (((((p1 &&& (65535 : Int32)).toUInt32.toUInt16.toUInt32.toInt32) ^^^ ((1 : Int32) <<< ((p2 &&& (15 : Int32)) &&& 31))) &&& (65535 : Int32)).toUInt32.toUInt16.toUInt32.toInt32), rv b49, rv b56, iv (1 : Int32), rv y1_87] [(.ref y1_87), (.ref b49)])) _
          exact k
        obtain ⟨cq90, kq90, qq90a, qq90b, qq90c⟩ := isOf hZ e87 f67
        obtain ⟨_, _, ⟨T90, L90, kk90, nn90⟩, -, X90, ⟨Lc90, hQ90, l90, y90, z90⟩, st90⟩ := X87.virtualBack hx (y := (⟨"com/example/stubwright/stubwright/idl/ConstValue$CharValue", "equals", "(Ljava/lang/Object;)Z"⟩ : MethodName)) (z := (⟨"com/example/stubwright/stubwright/idl/ConstValue$CharValue", "equals", "(Ljava/lang/Object;)Z"⟩ : MethodName)) hown (mvT hZ (hw _ (List.mem_of_getElem? (i := 17) rfl))) (mvT hZ (hw _ (List.mem_of_getElem? (i := 18) rfl))) (notFace_of_selects (args := #[]) (mvT hZ (hw _ (List.mem_of_getElem? (i := 20) rfl)))) (mvT hZ (hw _ (List.mem_of_getElem? (i := 20) rfl))) (mvT hZ (hw _ (List.mem_of_getElem? (i := 19) rfl))) (by decide) (backOf (W := 0) (eqOther1 l Z a0 hw [] wC clC G b49 y1_87 T60.heap n0 O60 (po87_0 : Exa Z T60.heap y1_87 "java/lang/Integer")) hZ (hw _ (List.mem_of_getElem? (i := 21) rfl)) (hw _ (List.mem_of_getElem? (i := 3) rfl)) (by decide) (by decide)) qq90a qq90c (g := (mkF m 176 #[iv p1, iv p2, iv p3, iv ((p1 &&& (65535 : Int32)).toUInt32.toUInt16.toUInt32.toInt32), iv (1 : Int32), iv (((((p1 &&& (65535 : Int32)).toUInt32.toUInt16.toUInt32.toInt32) ^^^ ((1 : Int32) <<< ((p2 &&& (15 : Int32)) &&& 31))) &&& (65535 : Int32)).toUInt32.toUInt16.toUInt32.toInt32), rv b49, rv b56, iv (1 : Int32), rv y1_87] [(.ref y1_87), (.ref b49)])) rfl (by rw [hml]; rfl) (Steps.refl _) (argsL := [(.ref y1_87)]) (rest := []) (lenOf pd_3 rfl) rfl (by show 2 * 0 + _ ≤ _; exact Nat.le_of_eq rfl) (hb hby at_176) (fun _ _ => ⟨rfl, e87, (by decide : 2 + 0 ≤ _), (by decide : 2 + 0 ≤ _)⟩)
        dsimp only [Pt.U, Pt.locs, Pt.cells, Pt.slots] at X90 l90 y90 z90 st90 hQ90
        subst l90 y90 z90
        obtain ⟨rfl, Nq90, e90⟩ := hQ90
        have N90 := Fr.app N87 Nq90
        have k91 : Way p e below S0 T90 (mkF m 179 #[iv p1, iv p2, iv p3, iv ((p1 &&& (65535 : Int32)).toUInt32.toUInt16.toUInt32.toInt32), iv (1 : Int32), iv (((((p1 &&& (65535 : Int32)).toUInt32.toUInt16.toUInt32.toInt32) ^^^ ((1 : Int32) <<< ((p2 &&& (15 : Int32)) &&& 31))) &&& (65535 : Int32)).toUInt32.toUInt16.toUInt32.toInt32), rv b49, rv b56, iv (1 : Int32), rv y1_87] [(.int (0 : Int32))]) := fun t k => k89 t (st90.trans k)
        have k92 : Way p e below S0 T90 (mkF m 185 #[iv p1, iv p2, iv p3, iv ((p1 &&& (65535 : Int32)).toUInt32.toUInt16.toUInt32.toInt32), iv (1 : Int32), iv (((((p1 &&& (65535 : Int32)).toUInt32.toUInt16.toUInt32.toInt32) ^^^ ((1 : Int32) <<< ((p2 &&& (15 : Int32)) &&& 31))) &&& (65535 : Int32)).toUInt32.toUInt16.toUInt32.toInt32), rv b49, rv b56, iv (1 : Int32), rv y1_87] [(.int (1 : Int32))]) := by
          intro t k
          refine k91 t ?_
          refine XS.ifYes X90.here hx rfl (pc0 := 179) (pc' := 184) rfl (hb hby at_179) rfl ((if0 _ _).trans (teq ((by decide) : (0 : Int32) = (0 : Int32))).1) (by decide) (by decide) ?_
          show Steps p.tables e below (T90.setTop (mkF m 184 #[iv p1, iv p2, iv p3, iv ((p1 &&& (65535 : Int32)).toUInt32.toUInt16.toUInt32.toInt32), iv (1 : Int32), iv (((((p1 &&& (65535 : Int32)).toUInt32.toUInt16.toUInt32.toInt32) ^^^ ((1 : Int32) <<< ((p2 &&& (15 : Int32)) &&& 31))) &&& (65535 : Int32)).toUInt32.toUInt16.toUInt32.toInt32), rv b49, rv b56, iv (1 : Int32), rv y1_87] [])) _
          refine XS.iconst X90.here hx rfl (hb hby at_184) ?_
          show Steps p.tables e below (T90.setTop (mkF m 185 #[iv p1, iv p2, iv p3, iv ((p1 &&& (65535 : Int32)).toUInt32.toUInt16.toUInt32.toInt32), iv (1 : Int32), iv (((((p1 &&& (65535 : Int32)).toUInt32.toUInt16.toUInt32.toInt32) ^^^ ((1 : Int32) <<< ((p2 &&& (15 : Int32)) &&& 31))) &&& (65535 : Int32)).toUInt32.toUInt16.toUInt32.toInt32), rv b49, rv b56, iv (1 : Int32), rv y1_87] [(.int (1 : Int32))])) _
          exact k
        obtain ⟨fs, hr, hrun, hended, hW, hsame⟩ := X90.leave (v := some (.int (1 : Int32))) (fun h => by rw [Bd.returns] at h; cases h)
        refine ⟨_, _, k92 _ (retN X90 hx (t := .boolean) Bd.returns (by simp) (hb hby at_185) hr), hrun, hended, _, _, rfl, ?_, ⟨_, rfl⟩, hW, hsame.mono (by decide) (by decide)⟩
        show Q_law_met Z wC clC p1 p2 p3 h0 n0 _ T90.heap _
        rw [e90]
        exact ⟨rfl, N90⟩
    · have k93 : Way p e below S0 T60 (mkF m 90 #[iv p1, iv p2, iv p3, iv ((p1 &&& (65535 : Int32)).toUInt32.toUInt16.toUInt32.toInt32), iv (1 : Int32), iv (((((p1 &&& (65535 : Int32)).toUInt32.toUInt16.toUInt32.toInt32) ^^^ ((1 : Int32) <<< ((p2 &&& (15 : Int32)) &&& 31))) &&& (65535 : Int32)).toUInt32.toUInt16.toUInt32.toInt32), rv b49, rv b56, iv (0 : Int32), .unset] [(.ref b56), (.ref b49)]) := by
        intro t k
        refine k63 t ?_
        refine XS.icmpYes X60.here hx rfl (pc0 := 76) (pc' := 83) rfl (hb hby at_76) rfl (feq (hc62 : ¬ (((p1 &&& (65535 : Int32)).toUInt32.toUInt16.toUInt32.toInt32) = (((((p1 &&& (65535 : Int32)).toUInt32.toUInt16.toUInt32.toInt32) ^^^ ((1 : Int32) <<< ((p2 &&& (15 : Int32)) &&& 31))) &&& (65535 : Int32)).toUInt32.toUInt16.toUInt32.toInt32)))).2 (by decide) (by decide) ?_
        show Steps p.tables e below (T60.setTop (mkF m 83 #[iv p1, iv p2, iv p3, iv ((p1 &&& (65535 : Int32)).toUInt32.toUInt16.toUInt32.toInt32), iv (1 : Int32), iv (((((p1 &&& (65535 : Int32)).toUInt32.toUInt16.toUInt32.toInt32) ^^^ ((1 : Int32) <<< ((p2 &&& (15 : Int32)) &&& 31))) &&& (65535 : Int32)).toUInt32.toUInt16.toUInt32.toInt32), rv b49, rv b56, .unset, .unset] [])) _
        refine XS.iconst X60.here hx rfl (hb hby at_83) ?_
        show Steps p.tables e below (T60.setTop (mkF m 84 #[iv p1, iv p2, iv p3, iv ((p1 &&& (65535 : Int32)).toUInt32.toUInt16.toUInt32.toInt32), iv (1 : Int32), iv (((((p1 &&& (65535 : Int32)).toUInt32.toUInt16.toUInt32.toInt32) ^^^ ((1 : Int32) <<< ((p2 &&& (15 : Int32)) &&& 31))) &&& (65535 : Int32)).toUInt32.toUInt16.toUInt32.toInt32), rv b49, rv b56, .unset, .unset] [(.int (0 : Int32))])) _
        refine XS.istore X60.here hx rfl (hb hby at_84) rfl (l' := #[iv p1, iv p2, iv p3, iv ((p1 &&& (65535 : Int32)).toUInt32.toUInt16.toUInt32.toInt32), iv (1 : Int32), iv (((((p1 &&& (65535 : Int32)).toUInt32.toUInt16.toUInt32.toInt32) ^^^ ((1 : Int32) <<< ((p2 &&& (15 : Int32)) &&& 31))) &&& (65535 : Int32)).toUInt32.toUInt16.toUInt32.toInt32), rv b49, rv b56, iv (0 : Int32), .unset]) rfl ?_
        show Steps p.tables e below (T60.setTop (mkF m 86 #[iv p1, iv p2, iv p3, iv ((p1 &&& (65535 : Int32)).toUInt32.toUInt16.toUInt32.toInt32), iv (1 : Int32), iv (((((p1 &&& (65535 : Int32)).toUInt32.toUInt16.toUInt32.toInt32) ^^^ ((1 : Int32) <<< ((p2 &&& (15 : Int32)) &&& 31))) &&& (65535 : Int32)).toUInt32.toUInt16.toUInt32.toInt32), rv b49, rv b56, iv (0 : Int32), .unset] [])) _
        refine XS.aload X60.here hx rfl (hb hby at_86) rfl rfl ?_
        show Steps p.tables e below (T60.setTop (mkF m 88 #[iv p1, iv p2, iv p3, iv ((p1 &&& (65535 : Int32)).toUInt32.toUInt16.toUInt32.toInt32), iv (1 : Int32), iv (((((p1 &&& (65535 : Int32)).toUInt32.toUInt16.toUInt32.toInt32) ^^^ ((1 : Int32) <<< ((p2 &&& (15 : Int32)) &&& 31))) &&& (65535 : Int32)).toUInt32.toUInt16.toUInt32.toInt32), rv b49, rv b56, iv (0 : Int32), .unset] [(.ref b49)])) _
        refine XS.aload X60.here hx rfl (hb hby at_88) rfl rfl ?_
        show Steps p.tables e below (T60.setTop (mkF m 90 #[iv p1, iv p2, iv p3, iv ((p1 &&& (65535 : Int32)).toUInt32.toUInt16.toUInt32.toInt32), iv (1 : Int32), iv (((((p1 &&& (65535 : Int32)).toUInt32.toUInt16.toUInt32.toInt32) ^^^ ((1 : Int32) <<< ((p2 &&& (15 : Int32)) &&& 31))) &&& (65535 : Int32)).toUInt32.toUInt16.toUInt32.toInt32), rv b49, rv b56, iv (0 : Int32), .unset] [(.ref b56), (.ref b49)])) _
        exact k
      have f94 : Fld Z T60.heap b49 "com/example/stubwright/stubwright/idl/ConstValue$CharValue" "value" "C" (.int ((p1 &&& (65535 : Int32)).toUInt32.toUInt16.toUInt32.toInt32)) := ((po53_1.ext E56).keep Kq60 (ninS (Nat.ne_of_lt (Nat.lt_of_lt_of_le po53_0.lt (Nat.le_of_eq g56.symm))) nin0))
      have f96 : Exa Z T60.heap b49 "com/example/stubwright/stubwright/idl/ConstValue$CharValue" := ((po53_0.ext E56).keep Kq60)
      obtain ⟨cq95, kq95, qq95a, qq95b, qq95c⟩ := isOf hZ rfl f96
      obtain ⟨_, _, ⟨T95, L95, kk95, nn95⟩, -, X95, ⟨Lc95, hQ95, l95, y95, z95⟩, st95⟩ := X60.virtualBack hx (y := (⟨"com/example/stubwright/stubwright/idl/ConstValue$CharValue", "equals", "(Ljava/lang/Object;)Z"⟩ : MethodName)) (z := (⟨"com/example/stubwright/stubwright/idl/ConstValue$CharValue", "equals", "(Ljava/lang/Object;)Z"⟩ : MethodName)) hown (mvT hZ (hw _ (List.mem_of_getElem? (i := 17) rfl))) (mvT hZ (hw _ (List.mem_of_getElem? (i := 18) rfl))) (notFace_of_selects (args := #[]) (mvT hZ (hw _ (List.mem_of_getElem? (i := 20) rfl)))) (mvT hZ (hw _ (List.mem_of_getElem? (i := 20) rfl))) (mvT hZ (hw _ (List.mem_of_getElem? (i := 19) rfl))) (by decide) (backOf (W := 0) (eqF l Z a0 hw [] wC clC G b49 b56 ((p1 &&& (65535 : Int32)).toUInt32.toUInt16.toUInt32.toInt32) (((((p1 &&& (65535 : Int32)).toUInt32.toUInt16.toUInt32.toInt32) ^^^ ((1 : Int32) <<< ((p2 &&& (15 : Int32)) &&& 31))) &&& (65535 : Int32)).toUInt32.toUInt16.toUInt32.toInt32) T60.heap n0 O60 (po60_0 : Exa Z T60.heap b56 "com/example/stubwright/stubwright/idl/ConstValue$CharValue") (f94 : Fld Z T60.heap b49 "com/example/stubwright/stubwright/idl/ConstValue$CharValue" "value" "C" (.int ((p1 &&& (65535 : Int32)).toUInt32.toUInt16.toUInt32.toInt32))) (po60_1 : Fld Z T60.heap b56 "com/example/stubwright/stubwright/idl/ConstValue$CharValue" "value" "C" (.int (((((p1 &&& (65535 : Int32)).toUInt32.toUInt16.toUInt32.toInt32) ^^^ ((1 : Int32) <<< ((p2 &&& (15 : Int32)) &&& 31))) &&& (65535 : Int32)).toUInt32.toUInt16.toUInt32.toInt32))) (hc62 : ¬ (((p1 &&& (65535 : Int32)).toUInt32.toUInt16.toUInt32.toInt32) = (((((p1 &&& (65535 : Int32)).toUInt32.toUInt16.toUInt32.toInt32) ^^^ ((1 : Int32) <<< ((p2 &&& (15 : Int32)) &&& 31))) &&& (65535 : Int32)).toUInt32.toUInt16.toUInt32.toInt32)))) hZ (hw _ (List.mem_of_getElem? (i := 21) rfl)) (hw _ (List.mem_of_getElem? (i := 3) rfl)) (by decide) (by decide)) qq95a qq95c (g := (mkF m 90 #[iv p1, iv p2, iv p3, iv ((p1 &&& (65535 : Int32)).toUInt32.toUInt16.toUInt32.toInt32), iv (1 : Int32), iv (((((p1 &&& (65535 : Int32)).toUInt32.toUInt16.toUInt32.toInt32) ^^^ ((1 : Int32) <<< ((p2 &&& (15 : Int32)) &&& 31))) &&& (65535 : Int32)).toUInt32.toUInt16.toUInt32.toInt32), rv b49, rv b56, iv (0 : Int32), .unset] [(.ref b56), (.ref b49)])) rfl (by rw [hml]; rfl) (Steps.refl _) (argsL := [(.ref b56)]) (rest := []) (lenOf pd_3 rfl) rfl (by show 2 * 0 + _ ≤ _; exact Nat.le_of_eq rfl) (hb hby at_90) (fun _ _ => ⟨rfl, rfl, (by decide : 2 + 0 ≤ _), (by decide : 2 + 0 ≤ _)⟩)
      dsimp only [Pt.U, Pt.locs, Pt.cells, Pt.slots] at X95 l95 y95 z95 st95 hQ95
      subst l95 y95 z95
      obtain ⟨rfl, Nq95, e95⟩ := hQ95
      have N95 := Fr.app N60 Nq95
      have k97 : Way p e below S0 T95 (mkF m 93 #[iv p1, iv p2, iv p3, iv ((p1 &&& (65535 : Int32)).toUInt32.toUInt16.toUInt32.toInt32), iv (1 : Int32), iv (((((p1 &&& (65535 : Int32)).toUInt32.toUInt16.toUInt32.toInt32) ^^^ ((1 : Int32) <<< ((p2 &&& (15 : Int32)) &&& 31))) &&& (65535 : Int32)).toUInt32.toUInt16.toUInt32.toInt32), rv b49, rv b56, iv (0 : Int32), .unset] [(.int (0 : Int32))]) := fun t k => k93 t (st95.trans k)
      have k98 : Way p e below S0 T95 (mkF m 104 #[iv p1, iv p2, iv p3, iv ((p1 &&& (65535 : Int32)).toUInt32.toUInt16.toUInt32.toInt32), iv (1 : Int32), iv (((((p1 &&& (65535 : Int32)).toUInt32.toUInt16.toUInt32.toInt32) ^^^ ((1 : Int32) <<< ((p2 &&& (15 : Int32)) &&& 31))) &&& (65535 : Int32)).toUInt32.toUInt16.toUInt32.toInt32), rv b49, rv b56, iv (0 : Int32), .unset] [(.ref b49), (.ref b56)]) := by
        intro t k
        refine k97 t ?_
        refine XS.iload X95.here hx rfl (hb hby at_93) rfl ?_
        show Steps p.tables e below (T95.setTop (mkF m 95 #[iv p1, iv p2, iv p3, iv ((p1 &&& (65535 : Int32)).toUInt32.toUInt16.toUInt32.toInt32), iv (1 : Int32), iv (((((p1 &&& (65535 : Int32)).toUInt32.toUInt16.toUInt32.toInt32) ^^^ ((1 : Int32) <<< ((p2 &&& (15 : Int32)) &&& 31))) &&& (65535 : Int32)).toUInt32.toUInt16.toUInt32.toInt32), rv b49, rv b56, iv (0 : Int32), .unset] [(.int (0 : Int32)), (.int (0 : Int32))])) _
        refine XS.icmpYes X95.here hx rfl (pc0 := 95) (pc' := 100) rfl (hb hby at_95) rfl (teq ((by decide) : (0 : Int32) = (0 : Int32))).1 (by decide) (by decide) ?_
        show Steps p.tables e below (T95.setTop (mkF m 100 #[iv p1, iv p2, iv p3, iv ((p1 &&& (65535 : Int32)).toUInt32.toUInt16.toUInt32.toInt32), iv (1 : Int32), iv (((((p1 &&& (65535 : Int32)).toUInt32.toUInt16.toUInt32.toInt32) ^^^ ((1 : Int32) <<< ((p2 &&& (15 : Int32)) &&& 31))) &&& (65535 : Int32)).toUInt32.toUInt16.toUInt32.toInt32), rv b49, rv b56, iv (0 : Int32), .unset] [])) _
        refine XS.aload X95.here hx rfl (hb hby at_100) rfl rfl ?_
        show Steps p.tables e below (T95.setTop (mkF m 102 #[iv p1, iv p2, iv p3, iv ((p1 &&& (65535 : Int32)).toUInt32.toUInt16.toUInt32.toInt32), iv (1 : Int32), iv (((((p1 &&& (65535 : Int32)).toUInt32.toUInt16.toUInt32.toInt32) ^^^ ((1 : Int32) <<< ((p2 &&& (15 : Int32)) &&& 31))) &&& (65535 : Int32)).toUInt32.toUInt16.toUInt32.toInt32), rv b49, rv b56, iv (0 : Int32), .unset] [(.ref b56)])) _
        refine XS.aload X95.here hx rfl (hb hby at_102) rfl rfl ?_
        show Steps p.tables e below (T95.setTop (mkF m 104 #[iv p1, iv p2, iv p3, iv ((p1 &&& (65535 : Int32)).toUInt32.toUInt16.toUInt32.toInt32), iv (1 : Int32), iv (((((p1 &&& (65535 : Int32)).toUInt32.toUInt16.toUInt32.toInt32) ^^^ ((1 : Int32) <<< ((p2 &&& (15 : Int32)) &&& 31))) &&& (65535 : Int32)).toUInt32.toUInt16.toUInt32.toInt32), rv b49, rv b56, iv (0 : Int32), .unset] [(.ref b49), (.ref b56)])) _
        exact k
      obtain ⟨cq99, kq99, qq99a, qq99b, qq99c⟩ := isOf hZ e95 po60_0
      obtain ⟨_, _, ⟨T99, L99, kk99, nn99⟩, -, X99, ⟨Lc99, hQ99, l99, y99, z99⟩, st99⟩ := X95.virtualBack hx (y := (⟨"com/example/stubwright/stubwright/idl/ConstValue$CharValue", "equals", "(Ljava/lang/Object;)Z"⟩ : MethodName)) (z := (⟨"com/example/stubwright/stubwright/idl/ConstValue$CharValue", "equals", "(Ljava/lang/Object;)Z"⟩ : MethodName)) hown (mvT hZ (hw _ (List.mem_of_getElem? (i := 17) rfl))) (mvT hZ (hw _ (List.mem_of_getElem? (i := 18) rfl))) (notFace_of_selects (args := #[]) (mvT hZ (hw _ (List.mem_of_getElem? (i := 20) rfl)))) (mvT hZ (hw _ (List.mem_of_getElem? (i := 20) rfl))) (mvT hZ (hw _ (List.mem_of_getElem? (i := 19) rfl))) (by decide) (backOf (W := 0) (eqF l Z a0 hw [] wC clC G b56 b49 (((((p1 &&& (65535 : Int32)).toUInt32.toUInt16.toUInt32.toInt32) ^^^ ((1 : Int32) <<< ((p2 &&& (15 : Int32)) &&& 31))) &&& (65535 : Int32)).toUInt32.toUInt16.toUInt32.toInt32) ((p1 &&& (65535 : Int32)).toUInt32.toUInt16.toUInt32.toInt32) T60.heap n0 O60 (f96 : Exa Z T60.heap b49 "com/example/stubwright/stubwright/idl/ConstValue$CharValue") (po60_1 : Fld Z T60.heap b56 "com/example/stubwright/stubwright/idl/ConstValue$CharValue" "value" "C" (.int (((((p1 &&& (65535 : Int32)).toUInt32.toUInt16.toUInt32.toInt32) ^^^ ((1 : Int32) <<< ((p2 &&& (15 : Int32)) &&& 31))) &&& (65535 : Int32)).toUInt32.toUInt16.toUInt32.toInt32))) (f94 : Fld Z T60.heap b49 "com/example/stubwright/stubwright/idl/ConstValue$CharValue" "value" "C" (.int ((p1 &&& (65535 : Int32)).toUInt32.toUInt16.toUInt32.toInt32))) (fun q => hc62 q.symm : ¬ ((((((p1 &&& (65535 : Int32)).toUInt32.toUInt16.toUInt32.toInt32) ^^^ ((1 : Int32) <<< ((p2 &&& (15 : Int32)) &&& 31))) &&& (65535 : Int32)).toUInt32.toUInt16.toUInt32.toInt32) = ((p1 &&& (65535 : Int32)).toUInt32.toUInt16.toUInt32.toInt32)))) hZ (hw _ (List.mem_of_getElem? (i := 21) rfl)) (hw _ (List.mem_of_getElem? (i := 3) rfl)) (by decide) (by decide)) qq99a qq99c (g := (mkF m 104 #[iv p1, iv p2, iv p3, iv ((p1 &&& (65535 : Int32)).toUInt32.toUInt16.toUInt32.toInt32), iv (1 : Int32), iv (((((p1 &&& (65535 : Int32)).toUInt32.toUInt16.toUInt32.toInt32) ^^^ ((1 : Int32) <<< ((p2 &&& (15 : Int32)) &&& 31))) &&& (65535 : Int32)).toUInt32.toUInt16.toUInt32.toInt32), rv b49, rv b56, iv (0 : Int32), .unset] [(.ref b49), (.ref b56)])) rfl (by rw [hml]; rfl) (Steps.refl _) (argsL := [(.ref b49)]) (rest := []) (lenOf pd_3 rfl) rfl (by show 2 * 0 + _ ≤ _; exact Nat.le_of_eq rfl) (hb hby at_104) (fun _ _ => ⟨rfl, e95, (by decide : 2 + 0 ≤ _), (by decide : 2 + 0 ≤ _)⟩)
      dsimp only [Pt.U, Pt.locs, Pt.cells, Pt.slots] at X99 l99 y99 z99 st99 hQ99
      subst l99 y99 z99
      obtain ⟨rfl, Nq99, e99⟩ := hQ99
      have N99 := Fr.app N95 Nq99
      have k100 : Way p e below S0 T99 (mkF m 107 #[iv p1, iv p2, iv p3, iv ((p1 &&& (65535 : Int32)).toUInt32.toUInt16.toUInt32.toInt32), iv (1 : Int32), iv (((((p1 &&& (65535 : Int32)).toUInt32.toUInt16.toUInt32.toInt32) ^^^ ((1 : Int32) <<< ((p2 &&& (15 : Int32)) &&& 31))) &&& (65535 : Int32)).toUInt32.toUInt16.toUInt32.toInt32), rv b49, rv b56, iv (0 : Int32), .unset] [(.int (0 : Int32))]) := fun t k => k98 t (st99.trans k)
      have k101 : Way p e below S0 T99 (mkF m 118 #[iv p1, iv p2, iv p3, iv ((p1 &&& (65535 : Int32)).toUInt32.toUInt16.toUInt32.toInt32), iv (1 : Int32), iv (((((p1 &&& (65535 : Int32)).toUInt32.toUInt16.toUInt32.toInt32) ^^^ ((1 : Int32) <<< ((p2 &&& (15 : Int32)) &&& 31))) &&& (65535 : Int32)).toUInt32.toUInt16.toUInt32.toInt32), rv b49, rv b56, iv (0 : Int32), .unset] [(.ref b49), (.ref b49)]) := by
        intro t k
        refine k100 t ?_
        refine XS.iload X99.here hx rfl (hb hby at_107) rfl ?_
        show Steps p.tables e below (T99.setTop (mkF m 109 #[iv p1, iv p2, iv p3, iv ((p1 &&& (65535 : Int32)).toUInt32.toUInt16.toUInt32.toInt32), iv (1 : Int32), iv (((((p1 &&& (65535 : Int32)).toUInt32.toUInt16.toUInt32.toInt32) ^^^ ((1 : Int32) <<< ((p2 &&& (15 : Int32)) &&& 31))) &&& (65535 : Int32)).toUInt32.toUInt16.toUInt32.toInt32), rv b49, rv b56, iv (0 : Int32), .unset] [(.int (0 : Int32)), (.int (0 : Int32))])) _
        refine XS.icmpYes X99.here hx rfl (pc0 := 109) (pc' := 114) rfl (hb hby at_109) rfl (teq ((by decide) : (0 : Int32) = (0 : Int32))).1 (by decide) (by decide) ?_
        show Steps p.tables e below (T99.setTop (mkF m 114 #[iv p1, iv p2, iv p3, iv ((p1 &&& (65535 : Int32)).toUInt32.toUInt16.toUInt32.toInt32), iv (1 : Int32), iv (((((p1 &&& (65535 : Int32)).toUInt32.toUInt16.toUInt32.toInt32) ^^^ ((1 : Int32) <<< ((p2 &&& (15 : Int32)) &&& 31))) &&& (65535 : Int32)).toUInt32.toUInt16.toUInt32.toInt32), rv b49, rv b56, iv (0 : Int32), .unset] [])) _
        refine XS.aload X99.here hx rfl (hb hby at_114) rfl rfl ?_
        show Steps p.tables e below (T99.setTop (mkF m 116 #[iv p1, iv p2, iv p3, iv ((p1 &&& (65535 : Int32)).toUInt32.toUInt16.toUInt32.toInt32), iv (1 : Int32), iv (((((p1 &&& (65535 : Int32)).toUInt32.toUInt16.toUInt32.toInt32) ^^^ ((1 : Int32) <<< ((p2 &&& (15 : Int32)) &&& 31))) &&& (65535 : Int32)).toUInt32.toUInt16.toUInt32.toInt32), rv b49, rv b56, iv (0 : Int32), .unset] [(.ref b49)])) _
        refine XS.aload X99.here hx rfl (hb hby at_116) rfl rfl ?_
        show Steps p.tables e below (T99.setTop (mkF m 118 #[iv p1, iv p2, iv p3, iv ((p1 &&& (65535 : Int32)).toUInt32.toUInt16.toUInt32.toInt32), iv (1 : Int32), iv (((((p1 &&& (65535 : Int32)).toUInt32.toUInt16.toUInt32.toInt32) ^^^ ((1 : Int32) <<< ((p2 &&& (15 : Int32)) &&& 31))) &&& (65535 : Int32)).toUInt32.toUInt16.toUInt32.toInt32), rv b49, rv b56, iv (0 : Int32), .unset] [(.ref b49), (.ref b49)])) _
        exact k
      obtain ⟨cq102, kq102, qq102a, qq102b, qq102c⟩ := isOf hZ e99 f96
      obtain ⟨_, _, ⟨T102, L102, kk102, nn102⟩, -, X102, ⟨Lc102, hQ102, l102, y102, z102⟩, st102⟩ := X99.virtualBack hx (y := (⟨"com/example/stubwright/stubwright/idl/ConstValue$CharValue", "equals", "(Ljava/lang/Object;)Z"⟩ : MethodName)) (z := (⟨"com/example/stubwright/stubwright/idl/ConstValue$CharValue", "equals", "(Ljava/lang/Object;)Z"⟩ : MethodName)) hown (mvT hZ (hw _ (List.mem_of_getElem? (i := 17) rfl))) (mvT hZ (hw _ (List.mem_of_getElem? (i := 18) rfl))) (notFace_of_selects (args := #[]) (mvT hZ (hw _ (List.mem_of_getElem? (i := 20) rfl)))) (mvT hZ (hw _ (List.mem_of_getElem? (i := 20) rfl))) (mvT hZ (hw _ (List.mem_of_getElem? (i := 19) rfl))) (by decide) (backOf (W := 0) (eqT l Z a0 hw [] wC clC G b49 b49 ((p1 &&& (65535 : Int32)).toUInt32.toUInt16.toUInt32.toInt32) ((p1 &&& (65535 : Int32)).toUInt32.toUInt16.toUInt32.toInt32) T60.heap n0 O60 (f96 : Exa Z T60.heap b49 "com/example/stubwright/stubwright/idl/ConstValue$CharValue") (f94 : Fld Z T60.heap b49 "com/example/stubwright/stubwright/idl/ConstValue$CharValue" "value" "C" (.int ((p1 &&& (65535 : Int32)).toUInt32.toUInt16.toUInt32.toInt32))) (f94 : Fld Z T60.heap b49 "com/example/stubwright/stubwright/idl/ConstValue$CharValue" "value" "C" (.int ((p1 &&& (65535 : Int32)).toUInt32.toUInt16.toUInt32.toInt32))) (rfl : ((p1 &&& (65535 : Int32)).toUInt32.toUInt16.toUInt32.toInt32) = ((p1 &&& (65535 : Int32)).toUInt32.toUInt16.toUInt32.toInt32))) hZ (hw _ (List.mem_of_getElem? (i := 21) rfl)) (hw _ (List.mem_of_getElem? (i := 3) rfl)) (by decide) (by decide)) qq102a qq102c (g := (mkF m 118 #[iv p1, iv p2, iv p3, iv ((p1 &&& (65535 : Int32)).toUInt32.toUInt16.toUInt32.toInt32), iv (1 : Int32), iv (((((p1 &&& (65535 : Int32)).toUInt32.toUInt16.toUInt32.toInt32) ^^^ ((1 : Int32) <<< ((p2 &&& (15 : Int32)) &&& 31))) &&& (65535 : Int32)).toUInt32.toUInt16.toUInt32.toInt32), rv b49, rv b56, iv (0 : Int32), .unset] [(.ref b49), (.ref b49)])) rfl (by rw [hml]; rfl) (Steps.refl _) (argsL := [(.ref b49)]) (rest := []) (lenOf pd_3 rfl) rfl (by show 2 * 0 + _ ≤ _; exact Nat.le_of_eq rfl) (hb hby at_118) (fun _ _ => ⟨rfl, e99, (by decide : 2 + 0 ≤ _), (by decide : 2 + 0 ≤ _)⟩)
      dsimp only [Pt.U, Pt.locs, Pt.cells, Pt.slots] at X102 l102 y102 z102 st102 hQ102
      subst l102 y102 z102
      obtain ⟨rfl, Nq102, e102⟩ := hQ102
      have N102 := Fr.app N99 Nq102
      have k103 : Way p e below S0 T102 (mkF m 121 #[iv p1, iv p2, iv p3, iv ((p1 &&& (65535 : Int32)).toUInt32.toUInt16.toUInt32.toInt32), iv (1 : Int32), iv (((((p1 &&& (65535 : Int32)).toUInt32.toUInt16.toUInt32.toInt32) ^^^ ((1 : Int32) <<< ((p2 &&& (15 : Int32)) &&& 31))) &&& (65535 : Int32)).toUInt32.toUInt16.toUInt32.toInt32), rv b49, rv b56, iv (0 : Int32), .unset] [(.int (1 : Int32))]) := fun t k => k101 t (st102.trans k)
      have k104 : Way p e below S0 T102 (mkF m 129 #[iv p1, iv p2, iv p3, iv ((p1 &&& (65535 : Int32)).toUInt32.toUInt16.toUInt32.toInt32), iv (1 : Int32), iv (((((p1 &&& (65535 : Int32)).toUInt32.toUInt16.toUInt32.toInt32) ^^^ ((1 : Int32) <<< ((p2 &&& (15 : Int32)) &&& 31))) &&& (65535 : Int32)).toUInt32.toUInt16.toUInt32.toInt32), rv b49, rv b56, iv (0 : Int32), .unset] [.null, (.ref b49)]) := by
        intro t k
        refine k103 t ?_
        refine XS.ifYes X102.here hx rfl (pc0 := 121) (pc' := 126) rfl (hb hby at_121) rfl ((if0 _ _).trans (feq ((by decide) : ¬ ((1 : Int32) = (0 : Int32)))).2) (by decide) (by decide) ?_
        show Steps p.tables e below (T102.setTop (mkF m 126 #[iv p1, iv p2, iv p3, iv ((p1 &&& (65535 : Int32)).toUInt32.toUInt16.toUInt32.toInt32), iv (1 : Int32), iv (((((p1 &&& (65535 : Int32)).toUInt32.toUInt16.toUInt32.toInt32) ^^^ ((1 : Int32) <<< ((p2 &&& (15 : Int32)) &&& 31))) &&& (65535 : Int32)).toUInt32.toUInt16.toUInt32.toInt32), rv b49, rv b56, iv (0 : Int32), .unset] [])) _
        refine XS.aload X102.here hx rfl (hb hby at_126) rfl rfl ?_
        show Steps p.tables e below (T102.setTop (mkF m 128 #[iv p1, iv p2, iv p3, iv ((p1 &&& (65535 : Int32)).toUInt32.toUInt16.toUInt32.toInt32), iv (1 : Int32), iv (((((p1 &&& (65535 : Int32)).toUInt32.toUInt16.toUInt32.toInt32) ^^^ ((1 : Int32) <<< ((p2 &&& (15 : Int32)) &&& 31))) &&& (65535 : Int32)).toUInt32.toUInt16.toUInt32.toInt32), rv b49, rv b56, iv (0 : Int32), .unset] [(.ref b49)])) _
        refine XS.aconstNull X102.here hx rfl (hb hby at_128) ?_
        show Steps p.tables e below (T102.setTop (mkF m 129 #[iv p1, iv p2, iv p3, iv ((p1 &&& (65535 : Int32)).toUInt32.toUInt16.toUInt32.toInt32), iv (1 : Int32), iv (((((p1 &&& (65535 : Int32)).toUInt32.toUInt16.toUInt32.toInt32) ^^^ ((1 : Int32) <<< ((p2 &&& (15 : Int32)) &&& 31))) &&& (65535 : Int32)).toUInt32.toUInt16.toUInt32.toInt32), rv b49, rv b56, iv (0 : Int32), .unset] [.null, (.ref b49)])) _
        exact k
      obtain ⟨cq105, kq105, qq105a, qq105b, qq105c⟩ := isOf hZ e102 f96
      obtain ⟨_, _, ⟨T105, L105, kk105, nn105⟩, -, X105, ⟨Lc105, hQ105, l105, y105, z105⟩, st105⟩ := X102.virtualBack hx (y := (⟨"com/example/stubwright/stubwright/idl/ConstValue$CharValue", "equals", "(Ljava/lang/Object;)Z"⟩ : MethodName)) (z := (⟨"com/example/stubwright/stubwright/idl/ConstValue$CharValue", "equals", "(Ljava/lang/Object;)Z"⟩ : MethodName)) hown (mvT hZ (hw _ (List.mem_of_getElem? (i := 17) rfl))) (mvT hZ (hw _ (List.mem_of_getElem? (i := 18) rfl))) (notFace_of_selects (args := #[]) (mvT hZ (hw _ (List.mem_of_getElem? (i := 20) rfl)))) (mvT hZ (hw _ (List.mem_of_getElem? (i := 20) rfl))) (mvT hZ (hw _ (List.mem_of_getElem? (i := 19) rfl))) (by decide) (backOf (W := 0) (eqNull l Z a0 hw [] wC clC G b49 T60.heap n0 O60 ) hZ (hw _ (List.mem_of_getElem? (i := 21) rfl)) (hw _ (List.mem_of_getElem? (i := 3) rfl)) (by decide) (by decide)) qq105a qq105c (g := (mkF m 129 #[iv p1, iv p2, iv p3, iv ((p1 &&& (65535 : Int32)).toUInt32.toUInt16.toUInt32.toInt32), iv (1 : Int32), iv (((((p1 &&& (65535 : Int32)).toUInt32.toUInt16.toUInt32.toInt32) ^^^ ((1 : Int32) <<< ((p2 &&& (15 : Int32)) &&& 31))) &&& (65535 : Int32)).toUInt32.toUInt16.toUInt32.toInt32), rv b49, rv b56, iv (0 : Int32), .unset] [.null, (.ref b49)])) rfl (by rw [hml]; rfl) (Steps.refl _) (argsL := [.null]) (rest := []) (lenOf pd_3 rfl) rfl (by show 2 * 0 + _ ≤ _; exact Nat.le_of_eq rfl) (hb hby at_129) (fun _ _ => ⟨rfl, e102, (by decide : 2 + 0 ≤ _), (by decide : 2 + 0 ≤ _)⟩)
      dsimp only [Pt.U, Pt.locs, Pt.cells, Pt.slots] at X105 l105 y105 z105 st105 hQ105
      subst l105 y105 z105
      obtain ⟨rfl, Nq105, e105⟩ := hQ105
      have N105 := Fr.app N102 Nq105
      have k106 : Way p e below S0 T105 (mkF m 132 #[iv p1, iv p2, iv p3, iv ((p1 &&& (65535 : Int32)).toUInt32.toUInt16.toUInt32.toInt32), iv (1 : Int32), iv (((((p1 &&& (65535 : Int32)).toUInt32.toUInt16.toUInt32.toInt32) ^^^ ((1 : Int32) <<< ((p2 &&& (15 : Int32)) &&& 31))) &&& (65535 : Int32)).toUInt32.toUInt16.toUInt32.toInt32), rv b49, rv b56, iv (0 : Int32), .unset] [(.int (0 : Int32))]) := fun t k => k104 t (st105.trans k)
      have k108 : Way p e below S0 T105 (mkF m 167 #[iv p1, iv p2, iv p3, iv ((p1 &&& (65535 : Int32)).toUInt32.toUInt16.toUInt32.toInt32), iv (1 : Int32), iv (((((p1 &&& (65535 : Int32)).toUInt32.toUInt16.toUInt32.toInt32) ^^^ ((1 : Int32) <<< ((p2 &&& (15 : Int32)) &&& 31))) &&& (65535 : Int32)).toUInt32.toUInt16.toUInt32.toInt32), rv b49, rv b56, iv (0 : Int32), .unset] [(.int ((p1 &&& (65535 : Int32)).toUInt32.toUInt16.toUInt32.toInt32))]) := by
        intro t k
        refine k106 t ?_
        refine XS.ifYes X105.here hx rfl (pc0 := 132) (pc' := 137) rfl (hb hby at_132) rfl ((if0 _ _).trans (teq ((by decide) : (0 : Int32) = (0 : Int32))).1) (by decide) (by decide) ?_
        show Steps p.tables e below (T105.setTop (mkF m 137 #[iv p1, iv p2, iv p3, iv ((p1 &&& (65535 : Int32)).toUInt32.toUInt16.toUInt32.toInt32), iv (1 : Int32), iv (((((p1 &&& (65535 : Int32)).toUInt32.toUInt16.toUInt32.toInt32) ^^^ ((1 : Int32) <<< ((p2 &&& (15 : Int32)) &&& 31))) &&& (65535 : Int32)).toUInt32.toUInt16.toUInt32.toInt32), rv b49, rv b56, iv (0 : Int32), .unset] [])) _
        refine XS.iload X105.here hx rfl (hb hby at_137) rfl ?_
        show Steps p.tables e below (T105.setTop (mkF m 139 #[iv p1, iv p2, iv p3, iv ((p1 &&& (65535 : Int32)).toUInt32.toUInt16.toUInt32.toInt32), iv (1 : Int32), iv (((((p1 &&& (65535 : Int32)).toUInt32.toUInt16.toUInt32.toInt32) ^^^ ((1 : Int32) <<< ((p2 &&& (15 : Int32)) &&& 31))) &&& (65535 : Int32)).toUInt32.toUInt16.toUInt32.toInt32), rv b49, rv b56, iv (0 : Int32), .unset] [(.int (1 : Int32))])) _
        refine XS.iconst X105.here hx rfl (hb hby at_139) ?_
        show Steps p.tables e below (T105.setTop (mkF m 140 #[iv p1, iv p2, iv p3, iv ((p1 &&& (65535 : Int32)).toUInt32.toUInt16.toUInt32.toInt32), iv (1 : Int32), iv (((((p1 &&& (65535 : Int32)).toUInt32.toUInt16.toUInt32.toInt32) ^^^ ((1 : Int32) <<< ((p2 &&& (15 : Int32)) &&& 31))) &&& (65535 : Int32)).toUInt32.toUInt16.toUInt32.toInt32), rv b49, rv b56, iv (0 : Int32), .unset] [(.int (3 : Int32)), (.int (1 : Int32))])) _
        refine XS.icmpYes X105.here hx rfl (pc0 := 140) (pc' := 166) rfl (hb hby at_140) rfl (feq ((by decide) : ¬ ((1 : Int32) = (3 : Int32)))).2 (by decide) (by decide) ?_
        show Steps p.tables e below (T105.setTop (mkF m 166 #[iv p1, iv p2, iv p3, iv ((p1 &&& (65535 : Int32)).toUInt32.toUInt16.toUInt32.toInt32), iv (1 : Int32), iv (((((p1 &&& (65535 : Int32)).toUInt32.toUInt16.toUInt32.toInt32) ^^^ ((1 : Int32) <<< ((p2 &&& (15 : Int32)) &&& 31))) &&& (65535 : Int32)).toUInt32.toUInt16.toUInt32.toInt32), rv b49, rv b56, iv (0 : Int32), .unset] [])) _
        refine XS.iloadN X105.here hx rfl (hb hby at_166) rfl ?_
        show Steps p.tables e below (T105.setTop (mkF m 167 #[iv p1, iv p2, iv p3, iv ((p1 &&& (65535 : Int32)).toUInt32.toUInt16.toUInt32.toInt32), iv (1 : Int32), iv (((((p1 &&& (65535 : Int32)).toUInt32.toUInt16.toUInt32.toInt32) ^^^ ((1 : Int32) <<< ((p2 &&& (15 : Int32)) &&& 31))) &&& (65535 : Int32)).toUInt32.toUInt16.toUInt32.toInt32), rv b49, rv b56, iv (0 : Int32), .unset] [(.int ((p1 &&& (65535 : Int32)).toUInt32.toUInt16.toUInt32.toInt32))])) _
        exact k
      by_cases hc107 : (127 : Int32) < ((p1 &&& (65535 : Int32)).toUInt32.toUInt16.toUInt32.toInt32)
      · obtain ⟨_, _, ⟨T109, L109, kk109, nn109⟩, -, X109, ⟨Lc109, hQ109, l109, y109, z109⟩, st109⟩ := Jvm.LawKit.callS X105 hx (y := (⟨"java/lang/Integer", "valueOf", "(I)Ljava/lang/Integer;"⟩ : MethodName)) hown (mvT hZ (hw _ (List.mem_of_getElem? (i := 24) rfl))) (mvT hZ (hw _ (List.mem_of_getElem? (i := 25) rfl))) (mvT hZ (hw _ (List.mem_of_getElem? (i := 26) rfl))) (mvT hZ (hw _ (List.mem_of_getElem? (i := 27) rfl))) (by decide) (backOf (W := 0) (vofNew l Z a0 hw [] wC clC G ((p1 &&& (65535 : Int32)).toUInt32.toUInt16.toUInt32.toInt32) T60.heap n0 O60 (own_i2c_lo _ : ¬ (((p1 &&& (65535 : Int32)).toUInt32.toUInt16.toUInt32.toInt32) < (-128 : Int32))) (hc107 : (127 : Int32) < ((p1 &&& (65535 : Int32)).toUInt32.toUInt16.toUInt32.toInt32))) hZ (hw _ (List.mem_of_getElem? (i := 27) rfl)) (hw _ (List.mem_of_getElem? (i := 26) rfl)) (by decide) (by decide)) (g := (mkF m 167 #[iv p1, iv p2, iv p3, iv ((p1 &&& (65535 : Int32)).toUInt32.toUInt16.toUInt32.toInt32), iv (1 : Int32), iv (((((p1 &&& (65535 : Int32)).toUInt32.toUInt16.toUInt32.toInt32) ^^^ ((1 : Int32) <<< ((p2 &&& (15 : Int32)) &&& 31))) &&& (65535 : Int32)).toUInt32.toUInt16.toUInt32.toInt32), rv b49, rv b56, iv (0 : Int32), .unset] [(.int ((p1 &&& (65535 : Int32)).toUInt32.toUInt16.toUInt32.toInt32))])) rfl (by rw [hml]; rfl) (argsL := [(.int ((p1 &&& (65535 : Int32)).toUInt32.toUInt16.toUInt32.toInt32))]) (rest := []) (lenOf pd_4 rfl) rfl (by show 2 * 0 + _ ≤ _; exact Nat.le_of_eq rfl) (hb hby at_167) (fun _ _ => ⟨rfl, e105, (by decide : 2 + 1 ≤ _), (by decide : 2 + 1 ≤ _)⟩)
        dsimp only [Pt.U, Pt.locs, Pt.cells, Pt.slots] at X109 l109 y109 z109 st109 hQ109
        subst l109 y109 z109
        obtain ⟨y1_109, rfl, Nq109, Kq109, po109_0, po109_1⟩ := hQ109
        have N109 := Fr.app N105 Nq109
        have O109 := O60.keep Kq109 all0
        have k110 : Way p e below S0 T109 (mkF m 170 #[iv p1, iv p2, iv p3, iv ((p1 &&& (65535 : Int32)).toUInt32.toUInt16.toUInt32.toInt32), iv (1 : Int32), iv (((((p1 &&& (65535 : Int32)).toUInt32.toUInt16.toUInt32.toInt32) ^^^ ((1 : Int32) <<< ((p2 &&& (15 : Int32)) &&& 31))) &&& (65535 : Int32)).toUInt32.toUInt16.toUInt32.toInt32), rv b49, rv b56, iv (0 : Int32), .unset] [(.ref y1_109)]) := fun t k => k108 t (st109 _ k)
        have k111 : Way p e below S0 T109 (mkF m 176 #[iv p1, iv p2, iv p3, iv ((p1 &&& (65535 : Int32)).toUInt32.toUInt16.toUInt32.toInt32), iv (1 : Int32), iv (((((p1 &&& (65535 : Int32)).toUInt32.toUInt16.toUInt32.toInt32) ^^^ ((1 : Int32) <<< ((p2 &&& (15 : Int32)) &&& 31))) &&& (65535 : Int32)).toUInt32.toUInt16.toUInt32.toInt32), rv b49, rv b56, iv (0 : Int32), rv y1_109] [(.ref y1_109), (.ref b49)]) := by
          intro t k
          refine k110 t ?_
          refine XS.astore X109.here hx rfl (hb hby at_170) rfl rfl (l' := #[iv p1, iv p2, iv p3, iv ((p1 &&& (65535 : Int32)).toUInt32.toUInt16.toUInt32.toInt32), iv (1 : Int32), iv (((((p1 &&& (65535 : Int32)).toUInt32.toUInt16.toUInt32.toInt32) ^^^ ((1 : Int32) <<< ((p2 &&& (15 : Int32)) &&& 31))) &&& (65535 : Int32)).toUInt32.toUInt16.toUInt32.toInt32), rv b49, rv b56, iv (0 : Int32), rv y1_109]) rfl ?_
          show Steps p.tables e below (T109.setTop (mkF m 172 #[iv p1, iv p2, iv p3, iv ((p1 &&& (65535 : Int32)).toUInt32.toUInt16.toUInt32.toInt32), iv (1 : Int32), iv (((((p1 &&& (65535 : Int32)).toUInt32.toUInt16.toUInt32.toInt32) ^^^ ((1 : Int32) <<< ((p2 &&& (15 : Int32)) &&& 31))) &&& (65535 : Int32)).toUInt32.toUInt16.toUInt32.toInt32), rv b49, rv b56, iv (0 : Int32), rv y1_109] [])) _
          refine XS.aload X109.here hx rfl (hb hby at_172) rfl rfl ?_
          show Steps p.tables e below (T109.setTop (mkF m 174 #[iv p1, iv p2, iv p3, iv ((p1 &&& (65535 : Int32)).toUInt32.toUInt16.toUInt32.toInt32), iv (1 : Int32), iv (((((p1 &&& (65535 : Int32)).toUInt32.toUInt16.toUInt32.toInt32) ^^^ ((1 : Int32) <<< ((p2 &&& (15 : Int32)) &&& 31))) &&& (65535 : Int32)).toUInt32.toUInt16.toUInt32.toInt32), rv b49, rv b56, iv (0 : Int32), rv y1_109] [(.ref b49)])) _
          refine XS.aload X109.here hx rfl (hb hby at_174) rfl rfl ?_
          show Steps p.tables e below (T109.setTop (mkF m 176 #[iv p1, iv p2, iv p3, iv ((p1 &&& (65535 : Int32)).toUInt32.toUInt16.toUInt32.toInt32), iv (1 : Int32), iv (((((p1 &&& (65535 : Int32)).toUInt32.toUInt16.toUInt32.toInt32) ^^^ ((1 : Int32) <<< ((p2 &&& (15 : Int32)) &&& 31))) &&& (65535 : Int32)).toUInt32.toUInt16.toUInt32.toInt32), rv b49, rv b56, iv (0 : Int32), rv y1_109] [(.ref y1_109), (.ref b49)])) _
          exact k
        have f113 : Exa Z T109.heap b49 "com/example/stubwright/stubwright/idl/ConstValue$CharValue" := (f96.keep Kq109)
        obtain ⟨cq112, kq112, qq112a, qq112b, qq112c⟩ := isOf hZ rfl f113
        obtain ⟨_, _, ⟨T112, L112, kk112, nn112⟩, -, X112, ⟨Lc112, hQ112, l112, y112, z112⟩, st112⟩ := X109.virtualBack hx (y := (⟨"com/example/stubwright/stubwright/idl/ConstValue$CharValue", "equals", "(Ljava/lang/Object;)Z"⟩ : MethodName)) (z := (⟨"com/example/stubwright/stubwright/idl/ConstValue$CharValue", "equals", "(Ljava/lang/Object;)Z"⟩ : MethodName)) hown (mvT hZ (hw _ (List.mem_of_getElem? (i := 17) rfl))) (mvT hZ (hw _ (List.mem_of_getElem? (i := 18) rfl))) (notFace_of_selects (args := #[]) (mvT hZ (hw _ (List.mem_of_getElem? (i := 20) rfl)))) (mvT hZ (hw _ (List.mem_of_getElem? (i := 20) rfl))) (mvT hZ (hw _ (List.mem_of_getElem? (i := 19) rfl))) (by decide) (backOf (W := 0) (eqOther1 l Z a0 hw [] wC clC G b49 y1_109 T109.heap n0 O109 (po109_1 : Exa Z T109.heap y1_109 "java/lang/Integer")) hZ (hw _ (List.mem_of_getElem? (i := 21) rfl)) (hw _ (List.mem_of_getElem? (i := 3) rfl)) (by decide) (by decide)) qq112a qq112c (g := (mkF m 176 #[iv p1, iv p2, iv p3, iv ((p1 &&& (65535 : Int32)).toUInt32.toUInt16.toUInt32.toInt32), iv (1 : Int32), iv (((((p1 &&& (65535 : Int32)).toUInt32.toUInt16.toUInt32.toInt32) ^^^ ((1 : Int32) <<< ((p2 &&& (15 : Int32)) &&& 31))) &&& (65535 : Int32)).toUInt32.toUInt16.toUInt32.toInt32), rv b49, rv b56, iv (0 : Int32), rv y1_109] [(.ref y1_109), (.ref b49)])) rfl (by rw [hml]; rfl) (Steps.refl _) (argsL := [(.ref y1_109)]) (rest := []) (lenOf pd_3 rfl) rfl (by show 2 * 0 + _ ≤ _; exact Nat.le_of_eq rfl) (hb hby at_176) (fun _ _ => ⟨rfl, rfl, (by decide : 3 + 0 ≤ _), (by decide : 3 + 0 ≤ _)⟩)
        dsimp only [Pt.U, Pt.locs, Pt.cells, Pt.slots] at X112 l112 y112 z112 st112 hQ112
        subst l112 y112 z112
        obtain ⟨rfl, Nq112, e112⟩ := hQ112
        have N112 := Fr.app N109 Nq112
        have k114 : Way p e below S0 T112 (mkF m 179 #[iv p1, iv p2, iv p3, iv ((p1 &&& (65535 : Int32)).toUInt32.toUInt16.toUInt32.toInt32), iv (1 : Int32), iv (((((p1 &&& (65535 : Int32)).toUInt32.toUInt16.toUInt32.toInt32) ^^^ ((1 : Int32) <<< ((p2 &&& (15 : Int32)) &&& 31))) &&& (65535 : Int32)).toUInt32.toUInt16.toUInt32.toInt32), rv b49, rv b56, iv (0 : Int32), rv y1_109] [(.int (0 : Int32))]) := fun t k => k111 t (st112.trans k)
        have k115 : Way p e below S0 T112 (mkF m 185 #[iv p1, iv p2, iv p3, iv ((p1 &&& (65535 : Int32)).toUInt32.toUInt16.toUInt32.toInt32), iv (1 : Int32), iv (((((p1 &&& (65535 : Int32)).toUInt32.toUInt16.toUInt32.toInt32) ^^^ ((1 : Int32) <<< ((p2 &&& (15 : Int32)) &&& 31))) &&& (65535 : Int32)).toUInt32.toUInt16.toUInt32.toInt32), rv b49, rv b56, iv (0 : Int32), rv y1_109] [(.int (1 : Int32))]) := by
          intro t k
          refine k114 t ?_
          refine XS.ifYes X112.here hx rfl (pc0 := 179) (pc' := 184) rfl (hb hby at_179) rfl ((if0 _ _).trans (teq ((by decide) : (0 : Int32) = (0 : Int32))).1) (by decide) (by decide) ?_
          show Steps p.tables e below (T112.setTop (mkF m 184 #[iv p1, iv p2, iv p3, iv ((p1 &&& (65535 : Int32)).toUInt32.toUInt16.toUInt32.toInt32), iv (1 : Int32), iv (((((p1 &&& (65535 : Int32)).toUInt32.toUInt16.toUInt32.toInt32) ^^^ ((1 : Int32) <<< ((p2 &&& (15 : Int32)) &&& 31))) &&& (65535 : Int32)).toUInt32.toUInt16.toUInt32.toInt32), rv b49, rv b56, iv (0 : Int32), rv y1_109] [])) _
          refine XS.iconst X112.here hx rfl (hb hby at_184) ?_
          show Steps p.tables e below (T112.setTop (mkF m 185 #[iv p1, iv p2, iv p3, iv ((p1 &&& (65535 : Int32)).toUInt32.toUInt16.toUInt32.toInt32), iv (1 : Int32), iv (((((p1 &&& (65535 : Int32)).toUInt32.toUInt16.toUInt32.toInt32) ^^^ ((1 : Int32) <<< ((p2 &&& (15 : Int32)) &&& 31))) &&& (65535 : Int32)).toUInt32.toUInt16.toUInt32.toInt32), rv b49, rv b56, iv (0 : Int32), rv y1_109] [(.int (1 : Int32))])) _
          exact k
        obtain ⟨fs, hr, hrun, hended, hW, hsame⟩ := X112.leave (v := some (.int (1 : Int32))) (fun h => by rw [Bd.returns] at h; cases h)
        refine ⟨_, _, k115 _ (retN X112 hx (t := .boolean) Bd.returns (by simp) (hb hby at_185) hr), hrun, hended, _, _, rfl, ?_, ⟨_, rfl⟩, hW, hsame.mono (by decide) (by decide)⟩
        show Q_law_met Z wC clC p1 p2 p3 h0 n0 _ T112.heap _
        rw [e112]
        exact ⟨rfl, N112⟩
      · obtain ⟨_, _, ⟨T116, L116, kk116, nn116⟩, -, X116, ⟨Lc116, hQ116, l116, y116, z116⟩, st116⟩ := Jvm.LawKit.callS X105 hx (y := (⟨"java/lang/Integer", "valueOf", "(I)Ljava/lang/Integer;"⟩ : MethodName)) hown (mvT hZ (hw _ (List.mem_of_getElem? (i := 24) rfl))) (mvT hZ (hw _ (List.mem_of_getElem? (i := 25) rfl))) (mvT hZ (hw _ (List.mem_of_getElem? (i := 26) rfl))) (mvT hZ (hw _ (List.mem_of_getElem? (i := 27) rfl))) (by decide) (backOf (W := 0) (vofOld l Z a0 hw [] wC clC G ((p1 &&& (65535 : Int32)).toUInt32.toUInt16.toUInt32.toInt32) T60.heap n0 O60 (own_i2c_lo _ : ¬ (((p1 &&& (65535 : Int32)).toUInt32.toUInt16.toUInt32.toInt32) < (-128 : Int32))) (hc107 : ¬ ((127 : Int32) < ((p1 &&& (65535 : Int32)).toUInt32.toUInt16.toUInt32.toInt32)))) hZ (hw _ (List.mem_of_getElem? (i := 27) rfl)) (hw _ (List.mem_of_getElem? (i := 26) rfl)) (by decide) (by decide)) (g := (mkF m 167 #[iv p1, iv p2, iv p3, iv ((p1 &&& (65535 : Int32)).toUInt32.toUInt16.toUInt32.toInt32), iv (1 : Int32), iv (((((p1 &&& (65535 : Int32)).toUInt32.toUInt16.toUInt32.toInt32) ^^^ ((1 : Int32) <<< ((p2 &&& (15 : Int32)) &&& 31))) &&& (65535 : Int32)).toUInt32.toUInt16.toUInt32.toInt32), rv b49, rv b56, iv (0 : Int32), .unset] [(.int ((p1 &&& (65535 : Int32)).toUInt32.toUInt16.toUInt32.toInt32))])) rfl (by rw [hml]; rfl) (argsL := [(.int ((p1 &&& (65535 : Int32)).toUInt32.toUInt16.toUInt32.toInt32))]) (rest := []) (lenOf pd_4 rfl) rfl (by show 2 * 0 + _ ≤ _; exact Nat.le_of_eq rfl) (hb hby at_167) (fun _ _ => ⟨rfl, e105, (by decide : 2 + 0 ≤ _), (by decide : 2 + 0 ≤ _)⟩)
        dsimp only [Pt.U, Pt.locs, Pt.cells, Pt.slots] at X116 l116 y116 z116 st116 hQ116
        subst l116 y116 z116
        obtain ⟨y1_116, rfl, Nq116, e116, po116_0⟩ := hQ116
        have N116 := Fr.app N105 Nq116
        rw [e116] at po116_0
        have k117 : Way p e below S0 T116 (mkF m 170 #[iv p1, iv p2, iv p3, iv ((p1 &&& (65535 : Int32)).toUInt32.toUInt16.toUInt32.toInt32), iv (1 : Int32), iv (((((p1 &&& (65535 : Int32)).toUInt32.toUInt16.toUInt32.toInt32) ^^^ ((1 : Int32) <<< ((p2 &&& (15 : Int32)) &&& 31))) &&& (65535 : Int32)).toUInt32.toUInt16.toUInt32.toInt32), rv b49, rv b56, iv (0 : Int32), .unset] [(.ref y1_116)]) := fun t k => k108 t (st116 _ k)
        have k118 : Way p e below S0 T116 (mkF m 176 #[iv p1, iv p2, iv p3, iv ((p1 &&& (65535 : Int32)).toUInt32.toUInt16.toUInt32.toInt32), iv (1 : Int32), iv (((((p1 &&& (65535 : Int32)).toUInt32.toUInt16.toUInt32.toInt32) ^^^ ((1 : Int32) <<< ((p2 &&& (15 : Int32)) &&& 31))) &&& (65535 : Int32)).toUInt32.toUInt16.toUInt32.toInt32), rv b49, rv b56, iv (0 : Int32), rv y1_116] [(.ref y1_116), (.ref b49)]) := by
          intro t k
          refine k117 t ?_
          refine XS.astore X116.here hx rfl (hb hby at_170) rfl rfl (l' := #[iv p1, iv p2, iv p3, iv ((p1 &&& (65535 : Int32)).toUInt32.toUInt16.toUInt32.toInt32), iv (1 : Int32), iv (((((p1 &&& (65535 : Int32)).toUInt32.toUInt16.toUInt32.toInt32) ^^^ ((1 : Int32) <<< ((p2 &&& (15 : Int32)) &&& 31))) &&& (65535 : Int32)).toUInt32.toUInt16.toUInt32.toInt32), rv b49, rv b56, iv (0 : Int32), rv y1_116]) rfl ?_
          show Steps p.tables e below (T116.setTop (mkF m 172 #[iv p1, iv p2, iv p3, iv ((p1 &&& (65535 : Int32)).toUInt32.toUInt16.toUInt32.toInt32), iv (1 : Int32), iv (((((p1 &&& (65535 : Int32)).toUInt32.toUInt16.toUInt32.toInt32) ^^^ ((1 : Int32) <<< ((p2 &&& (15 : Int32)) &&& 31))) &&& (65535 : Int32)).toUInt32.toUInt16.toUInt32.toInt32), rv b49, rv b56, iv (0 : Int32), rv y1_116] [])) _
          refine XS.aload X116.here hx rfl (hb hby at_172) rfl rfl ?_
          show Steps p.tables e below (T116.setTop (mkF m 174 #[iv p1, iv p2, iv p3, iv ((p1 &&& (65535 : Int32)).toUInt32.toUInt16.toUInt32.toInt32), iv (1 : Int32), iv (((((p1 &&& (65535 : Int32)).toUInt32.toUInt16.toUInt32.toInt32) ^^^ ((1 : Int32) <<< ((p2 &&& (15 : Int32)) &&& 31))) &&& (65535 : Int32)).toUInt32.toUInt16.toUInt32.toInt32), rv b49, rv b56, iv (0 : Int32), rv y1_116] [(.ref b49)])) _
          refine XS.aload X116.here hx rfl (hb hby at_174) rfl rfl ?_
          show Steps p.tables e below (T116.setTop (mkF m 176 #[iv p1, iv p2, iv p3, iv ((p1 &&& (65535 : Int32)).toUInt32.toUInt16.toUInt32.toInt32), iv (1 : Int32), iv (((((p1 &&& (65535 : Int32)).toUInt32.toUInt16.toUInt32.toInt32) ^^^ ((1 : Int32) <<< ((p2 &&& (15 : Int32)) &&& 31))) &&& (65535 : Int32)).toUInt32.toUInt16.toUInt32.toInt32), rv b49, rv b56, iv (0 : Int32), rv y1_116] [(.ref y1_116), (.ref b49)])) _
          exact k
        obtain ⟨cq119, kq119, qq119a, qq119b, qq119c⟩ := isOf hZ e116 f96
        obtain ⟨_, _, ⟨T119, L119, kk119, nn119⟩, -, X119, ⟨Lc119, hQ119, l119, y119, z119⟩, st119⟩ := X116.virtualBack hx (y := (⟨"com/example/stubwright/stubwright/idl/ConstValue$CharValue", "equals", "(Ljava/lang/Object;)Z"⟩ : MethodName)) (z := (⟨"com/example/stubwright/stubwright/idl/ConstValue$CharValue", "equals", "(Ljava/lang/Object;)Z"⟩ : MethodName)) hown (mvT hZ (hw _ (List.mem_of_getElem? (i := 17) rfl))) (mvT hZ (hw _ (List.mem_of_getElem? (i := 18) rfl))) (notFace_of_selects (args := #[]) (mvT hZ (hw _ (List.mem_of_getElem? (i := 20) rfl)))) (mvT hZ (hw _ (List.mem_of_getElem? (i := 20) rfl))) (mvT hZ (hw _ (List.mem_of_getElem? (i := 19) rfl))) (by decide) (backOf (W := 0) (eqOther1 l Z a0 hw [] wC clC G b49 y1_116 T60.heap n0 O60 (po116_0 : Exa Z T60.heap y1_116 "java/lang/Integer")) hZ (hw _ (List.mem_of_getElem? (i := 21) rfl)) (hw _ (List.mem_of_getElem? (i := 3) rfl)) (by decide) (by decide)) qq119a qq119c (g := (mkF m 176 #[iv p1, iv p2, iv p3, iv ((p1 &&& (65535 : Int32)).toUInt32.toUInt16.toUInt32.toInt32), iv (1 : Int32), iv (((((p1 &&& (65535 : Int32)).toUInt32.toUInt16.toUInt32.toInt32) ^^^ ((1 : Int32) <<< ((p2 &&& (15 : Int32)) &&& 31))) &&& (65535 : Int32)).toUInt32.toUInt16.toUInt32.toInt32), rv b49, rv b56, iv (0 : Int32), rv y1_116] [(.ref y1_116), (.ref b49)])) rfl (by rw [hml]; rfl) (Steps.refl _) (argsL := [(.ref y1_116)]) (rest := []) (lenOf pd_3 rfl) rfl (by show 2 * 0 + _ ≤ _; exact Nat.le_of_eq rfl) (hb hby at_176) (fun _ _ => ⟨rfl, e116, (by decide : 2 + 0 ≤ _), (by decide : 2 + 0 ≤ _)⟩)
        dsimp only [Pt.U, Pt.locs, Pt.cells, Pt.slots] at X119 l119 y119 z119 st119 hQ119
        subst l119 y119 z119
        obtain ⟨rfl, Nq119, e119⟩ := hQ119
        have N119 := Fr.app N116 Nq119
        have k120 : Way p e below S0 T119 (mkF m 179 #[iv p1, iv p2, iv p3, iv ((p1 &&& (65535 : Int32)).toUInt32.toUInt16.toUInt32.toInt32), iv (1 : Int32), iv (((((p1 &&& (65535 : Int32)).toUInt32.toUInt16.toUInt32.toInt32) ^^^ ((1 : Int32) <<< ((p2 &&& (15 : Int32)) &&& 31))) &&& (65535 : Int32)).toUInt32.toUInt16.toUInt32.toInt32), rv b49, rv b56, iv (0 : Int32), rv y1_116] [(.int (0 : Int32))]) := fun t k => k118 t (st119.trans k)
        have k121 : Way p e below S0 T119 (mkF m 185 #[iv p1, iv p2, iv p3, iv ((p1 &&& (65535 : Int32)).toUInt32.toUInt16.toUInt32.toInt32), iv (1 : Int32), iv (((((p1 &&& (65535 : Int32)).toUInt32.toUInt16.toUInt32.toInt32) ^^^ ((1 : Int32) <<< ((p2 &&& (15 : Int32)) &&& 31))) &&& (65535 : Int32)).toUInt32.toUInt16.toUInt32.toInt32), rv b49, rv b56, iv (0 : Int32), rv y1_116] [(.int (1 : Int32))]) := by
          intro t k
          refine k120 t ?_
          refine XS.ifYes X119.here hx rfl (pc0 := 179) (pc' := 184) rfl (hb hby at_179) rfl ((if0 _ _).trans (teq ((by decide) : (0 : Int32) = (0 : Int32))).1) (by decide) (by decide) ?_
          show Steps p.tables e below (T119.setTop (mkF m 184 #[iv p1, iv p2, iv p3, iv ((p1 &&& (65535 : Int32)).toUInt32.toUInt16.toUInt32.toInt32), iv (1 : Int32), iv (((((p1 &&& (65535 : Int32)).toUInt32.toUInt16.toUInt32.toInt32) ^^^ ((1 : Int32) <<< ((p2 &&& (15 : Int32)) &&& 31))) &&& (65535 : Int32)).toUInt32.toUInt16.toUInt32.toInt32), rv b49, rv b56, iv (0 : Int32), rv y1_116] [])) _
          refine XS.iconst X119.here hx rfl (hb hby at_184) ?_
          show Steps p.tables e below (T119.setTop (mkF m 185 #[iv p1, iv p2, iv p3, iv ((p1 &&& (65535 : Int32)).toUInt32.toUInt16.toUInt32.toInt32), iv (1 : Int32), iv (((((p1 &&& (65535 : Int32)).toUInt32.toUInt16.toUInt32.toInt32) ^^^ ((1 : Int32) <<< ((p2 &&& (15 : Int32)) &&& 31))) &&& (65535 : Int32)).toUInt32.toUInt16.toUInt32.toInt32), rv b49, rv b56, iv (0 : Int32), rv y1_116] [(.int (1 : Int32))])) _
          exact k
        obtain ⟨fs, hr, hrun, hended, hW, hsame⟩ := X119.leave (v := some (.int (1 : Int32))) (fun h => by rw [Bd.returns] at h; cases h)
        refine ⟨_, _, k121 _ (retN X119 hx (t := .boolean) Bd.returns (by simp) (hb hby at_185) hr), hrun, hended, _, _, rfl, ?_, ⟨_, rfl⟩, hW, hsame.mono (by decide) (by decide)⟩
        show Q_law_met Z wC clC p1 p2 p3 h0 n0 _ T119.heap _
        rw [e119]
        exact ⟨rfl, N119⟩
  · have k122 : Way p e below S0 s₁ (mkF m 11 #[iv p1, iv p2, iv p3, iv ((p1 &&& (65535 : Int32)).toUInt32.toUInt16.toUInt32.toInt32), iv (2 : Int32), .unset, .unset, .unset, .unset, .unset] []) := by have q := k1; rw [hi2] at q; exact q
    have k123 : Way p e below S0 s₁ (mkF m 52 #[iv p1, iv p2, iv p3, iv ((p1 &&& (65535 : Int32)).toUInt32.toUInt16.toUInt32.toInt32), iv (2 : Int32), iv ((p2 &&& (65535 : Int32)).toUInt32.toUInt16.toUInt32.toInt32), .unset, .unset, .unset, .unset] []) := by
      intro t k
      refine k122 t ?_
      refine XS.iload X0.here hx rfl (hb hby at_11) rfl ?_
      show Steps p.tables e below (s₁.setTop (mkF m 13 #[iv p1, iv p2, iv p3, iv ((p1 &&& (65535 : Int32)).toUInt32.toUInt16.toUInt32.toInt32), iv (2 : Int32), .unset, .unset, .unset, .unset, .unset] [(.int (2 : Int32))])) _
      refine XS.ifYes X0.here hx rfl (pc0 := 13) (pc' := 22) rfl (hb hby at_13) rfl ((if0 _ _).trans (feq ((by decide) : ¬ ((2 : Int32) = (0 : Int32)))).2) (by decide) (by decide) ?_
      show Steps p.tables e below (s₁.setTop (mkF m 22 #[iv p1, iv p2, iv p3, iv ((p1 &&& (65535 : Int32)).toUInt32.toUInt16.toUInt32.toInt32), iv (2 : Int32), .unset, .unset, .unset, .unset, .unset] [])) _
      refine XS.iload X0.here hx rfl (hb hby at_22) rfl ?_
      show Steps p.tables e below (s₁.setTop (mkF m 24 #[iv p1, iv p2, iv p3, iv ((p1 &&& (65535 : Int32)).toUInt32.toUInt16.toUInt32.toInt32), iv (2 : Int32), .unset, .unset, .unset, .unset, .unset] [(.int (2 : Int32))])) _
      refine XS.iconst X0.here hx rfl (hb hby at_24) ?_
      show Steps p.tables e below (s₁.setTop (mkF m 25 #[iv p1, iv p2, iv p3, iv ((p1 &&& (65535 : Int32)).toUInt32.toUInt16.toUInt32.toInt32), iv (2 : Int32), .unset, .unset, .unset, .unset, .unset] [(.int (1 : Int32)), (.int (2 : Int32))])) _
      refine XS.icmpYes X0.here hx rfl (pc0 := 25) (pc' := 45) rfl (hb hby at_25) rfl (feq ((by decide) : ¬ ((2 : Int32) = (1 : Int32)))).2 (by decide) (by decide) ?_
      show Steps p.tables e below (s₁.setTop (mkF m 45 #[iv p1, iv p2, iv p3, iv ((p1 &&& (65535 : Int32)).toUInt32.toUInt16.toUInt32.toInt32), iv (2 : Int32), .unset, .unset, .unset, .unset, .unset] [])) _
      refine XS.iloadN X0.here hx rfl (hb hby at_45) rfl ?_
      show Steps p.tables e below (s₁.setTop (mkF m 46 #[iv p1, iv p2, iv p3, iv ((p1 &&& (65535 : Int32)).toUInt32.toUInt16.toUInt32.toInt32), iv (2 : Int32), .unset, .unset, .unset, .unset, .unset] [(.int p2)])) _
      refine X0.ldcInt hx hown (mvT hZ (hw _ (List.mem_of_getElem? (i := 0) rfl))) (g := (mkF m 46 #[iv p1, iv p2, iv p3, iv ((p1 &&& (65535 : Int32)).toUInt32.toUInt16.toUInt32.toInt32), iv (2 : Int32), .unset, .unset, .unset, .unset, .unset] [(.int p2)])) rfl (hb hby at_46) _ ?_
      show Steps p.tables e below (s₁.setTop (mkF m 48 #[iv p1, iv p2, iv p3, iv ((p1 &&& (65535 : Int32)).toUInt32.toUInt16.toUInt32.toInt32), iv (2 : Int32), .unset, .unset, .unset, .unset, .unset] [(.int (65535 : Int32)), (.int p2)])) _
      refine XS.iand X0.here hx rfl (hb hby at_48) rfl ?_
      show Steps p.tables e below (s₁.setTop (mkF m 49 #[iv p1, iv p2, iv p3, iv ((p1 &&& (65535 : Int32)).toUInt32.toUInt16.toUInt32.toInt32), iv (2 : Int32), .unset, .unset, .unset, .unset, .unset] [(.int (p2 &&& (65535 : Int32)))])) _
      refine XS.i2c X0.here hx rfl (hb hby at_49) rfl ?_
      show Steps p.tables e below (s₁.setTop (mkF m 50 #[iv p1, iv p2, iv p3, iv ((p1 &&& (65535 : Int32)).toUInt32.toUInt16.toUInt32.toInt32), iv (2 : Int32), .unset, .unset, .unset, .unset, .unset] [(.int ((p2 &&& (65535 : Int32)).toUInt32.toUInt16.toUInt32.toInt32))])) _
      refine XS.istore X0.here hx rfl (hb hby at_50) rfl (l' := #[iv p1, iv p2, iv p3, iv ((p1 &&& (65535 : Int32)).toUInt32.toUInt16.toUInt32.toInt32), iv (2 : Int32), iv ((p2 &&& (65535 : Int32)).toUInt32.toUInt16.toUInt32.toInt32), .unset, .unset, .unset, .unset]) rfl ?_
      show Steps p.tables e below (s₁.setTop (mkF m 52 #[iv p1, iv p2, iv p3, iv ((p1 &&& (65535 : Int32)).toUInt32.toUInt16.toUInt32.toInt32), iv (2 : Int32), iv ((p2 &&& (65535 : Int32)).toUInt32.toUInt16.toUInt32.toInt32), .unset, .unset, .unset, .unset] [])) _
      exact k
    obtain ⟨T124, h124, X124, e124, E124, A124, D124, U124, st124⟩ := newO X0 hx hZ hown (hw _ (List.mem_of_getElem? (i := 1) rfl)) (hw _ (List.mem_of_getElem? (i := 2) rfl)) (hw _ (List.mem_of_getElem? (i := 3) rfl)) e0 (g := (mkF m 52 #[iv p1, iv p2, iv p3, iv ((p1 &&& (65535 : Int32)).toUInt32.toUInt16.toUInt32.toInt32), iv (2 : Int32), iv ((p2 &&& (65535 : Int32)).toUInt32.toUInt16.toUInt32.toInt32), .unset, .unset, .unset, .unset] [])) rfl (hb hby at_52) (by decide) (by decide)
    obtain ⟨b124, g124⟩ : ∃ z, z = h0.size := ⟨_, rfl⟩
    rw [← g124] at A124 D124 U124 st124
    have O124 := O0.ext E124
    have i124_value : Fld Z h124 b124 "com/example/stubwright/stubwright/idl/ConstValue$CharValue" "value" "C" (.int (0 : Int32)) := D124 (Or.inr (hw _ (List.mem_of_getElem? (i := 16) rfl))) (ty := .char) (by decide)
    have k125 : Way p e below S0 T124 (mkF m 55 #[iv p1, iv p2, iv p3, iv ((p1 &&& (65535 : Int32)).toUInt32.toUInt16.toUInt32.toInt32), iv (2 : Int32), iv ((p2 &&& (65535 : Int32)).toUInt32.toUInt16.toUInt32.toInt32), .unset, .unset, .unset, .unset] [(.ref b124)]) := fun t k => k123 t (st124 _ k)
    have k126 : Way p e below S0 T124 (mkF m 57 #[iv p1, iv p2, iv p3, iv ((p1 &&& (65535 : Int32)).toUInt32.toUInt16.toUInt32.toInt32), iv (2 : Int32), iv ((p2 &&& (65535 : Int32)).toUInt32.toUInt16.toUInt32.toInt32), .unset, .unset, .unset, .unset] [(.int ((p1 &&& (65535 : Int32)).toUInt32.toUInt16.toUInt32.toInt32)), (.ref b124), (.ref b124)]) := by
      intro t k
      refine k125 t ?_
      refine XS.dup X124.here hx rfl (hb hby at_55) rfl rfl ?_
      show Steps p.tables e below (T124.setTop (mkF m 56 #[iv p1, iv p2, iv p3, iv ((p1 &&& (65535 : Int32)).toUInt32.toUInt16.toUInt32.toInt32), iv (2 : Int32), iv ((p2 &&& (65535 : Int32)).toUInt32.toUInt16.toUInt32.toInt32), .unset, .unset, .unset, .unset] [(.ref b124), (.ref b124)])) _
      refine XS.iloadN X124.here hx rfl (hb hby at_56) rfl ?_
      show Steps p.tables e below (T124.setTop (mkF m 57 #[iv p1, iv p2, iv p3, iv ((p1 &&& (65535 : Int32)).toUInt32.toUInt16.toUInt32.toInt32), iv (2 : Int32), iv ((p2 &&& (65535 : Int32)).toUInt32.toUInt16.toUInt32.toInt32), .unset, .unset, .unset, .unset] [(.int ((p1 &&& (65535 : Int32)).toUInt32.toUInt16.toUInt32.toInt32)), (.ref b124), (.ref b124)])) _
      exact k
    have ge127 : n0 ≤ b124 := Nat.le_trans (own_old O0) (Nat.le_of_eq g124.symm)
    obtain ⟨_, _, ⟨T128, L128, kk128, nn128⟩, -, X128, ⟨Lc128, hQ128, l128, y128, z128⟩, st128⟩ := X124.specialBack hx (y := (⟨"com/example/stubwright/stubwright/idl/ConstValue$CharValue", "<init>", "(C)V"⟩ : MethodName)) rfl hown (mvT hZ (hw _ (List.mem_of_getElem? (i := 4) rfl))) (mvT hZ (hw _ (List.mem_of_getElem? (i := 5) rfl))) (mvT hZ (hw _ (List.mem_of_getElem? (i := 6) rfl))) (by decide) (backOf (W := 1) (cvInit l Z a0 hw [] wC clC G b124 ((p1 &&& (65535 : Int32)).toUInt32.toUInt16.toUInt32.toInt32) h124 n0 O124 (A124 : Exa Z h124 b124 "com/example/stubwright/stubwright/idl/ConstValue$CharValue") (i124_value : Fld Z h124 b124 "com/example/stubwright/stubwright/idl/ConstValue$CharValue" "value" "C" (.int (0 : Int32))) (ge127 : n0 ≤ b124) (own_i2c _ : ((p1 &&& (65535 : Int32)).toUInt32.toUInt16.toUInt32.toInt32).toUInt32.toUInt16.toUInt32.toInt32 = ((p1 &&& (65535 : Int32)).toUInt32.toUInt16.toUInt32.toInt32))) hZ (hw _ (List.mem_of_getElem? (i := 6) rfl)) (hw _ (List.mem_of_getElem? (i := 3) rfl)) (by decide) (by decide)) (g := (mkF m 57 #[iv p1, iv p2, iv p3, iv ((p1 &&& (65535 : Int32)).toUInt32.toUInt16.toUInt32.toInt32), iv (2 : Int32), iv ((p2 &&& (65535 : Int32)).toUInt32.toUInt16.toUInt32.toInt32), .unset, .unset, .unset, .unset] [(.int ((p1 &&& (65535 : Int32)).toUInt32.toUInt16.toUInt32.toInt32)), (.ref b124), (.ref b124)])) rfl (by rw [hml]; rfl) (Steps.refl _) (a := b124) (argsL := [(.int ((p1 &&& (65535 : Int32)).toUInt32.toUInt16.toUInt32.toInt32))]) (rest := [(.ref b124)]) (lenOf pd_2 rfl) rfl (by show 2 * 0 + _ ≤ _; exact Nat.le_of_eq rfl) (hb hby at_57) (fun _ _ => ⟨rfl, e124, (by decide : 1 + 0 ≤ _), (by decide : 1 + 0 ≤ _)⟩)
    dsimp only [Pt.U, Pt.locs, Pt.cells, Pt.slots] at X128 l128 y128 z128 st128 hQ128
    subst l128 y128 z128
    obtain ⟨rfl, Nq128, Kq128, po128_0, po128_1⟩ := hQ128
    have N128 := Fr.app N0 Nq128
    have O128 := O124.keep Kq128 (allS ge127 all0)
    have k129 : Way p e below S0 T128 (mkF m 60 #[iv p1, iv p2, iv p3, iv ((p1 &&& (65535 : Int32)).toUInt32.toUInt16.toUInt32.toInt32), iv (2 : Int32), iv ((p2 &&& (65535 : Int32)).toUInt32.toUInt16.toUInt32.toInt32), .unset, .unset, .unset, .unset] [(.ref b124)]) := fun t k => k126 t (st128.trans k)
    have k130 : Way p e below S0 T128 (mkF m 62 #[iv p1, iv p2, iv p3, iv ((p1 &&& (65535 : Int32)).toUInt32.toUInt16.toUInt32.toInt32), iv (2 : Int32), iv ((p2 &&& (65535 : Int32)).toUInt32.toUInt16.toUInt32.toInt32), rv b124, .unset, .unset, .unset] []) := by
      intro t k
      refine k129 t ?_
      refine XS.astore X128.here hx rfl (hb hby at_60) rfl rfl (l' := #[iv p1, iv p2, iv p3, iv ((p1 &&& (65535 : Int32)).toUInt32.toUInt16.toUInt32.toInt32), iv (2 : Int32), iv ((p2 &&& (65535 : Int32)).toUInt32.toUInt16.toUInt32.toInt32), rv b124, .unset, .unset, .unset]) rfl ?_
      show Steps p.tables e below (T128.setTop (mkF m 62 #[iv p1, iv p2, iv p3, iv ((p1 &&& (65535 : Int32)).toUInt32.toUInt16.toUInt32.toInt32), iv (2 : Int32), iv ((p2 &&& (65535 : Int32)).toUInt32.toUInt16.toUInt32.toInt32), rv b124, .unset, .unset, .unset] [])) _
      exact k
    obtain ⟨T131, h131, X131, e131, E131, A131, D131, U131, st131⟩ := newO X128 hx hZ hown (hw _ (List.mem_of_getElem? (i := 1) rfl)) (hw _ (List.mem_of_getElem? (i := 2) rfl)) (hw _ (List.mem_of_getElem? (i := 3) rfl)) rfl (g := (mkF m 62 #[iv p1, iv p2, iv p3, iv ((p1 &&& (65535 : Int32)).toUInt32.toUInt16.toUInt32.toInt32), iv (2 : Int32), iv ((p2 &&& (65535 : Int32)).toUInt32.toUInt16.toUInt32.toInt32), rv b124, .unset, .unset, .unset] [])) rfl (hb hby at_62) (by decide) (by decide)
    obtain ⟨b131, g131⟩ : ∃ z, z = T128.heap.size := ⟨_, rfl⟩
    rw [← g131] at A131 D131 U131 st131
    have O131 := O128.ext E131
    have i131_value : Fld Z h131 b131 "com/example/stubwright/stubwright/idl/ConstValue$CharValue" "value" "C" (.int (0 : Int32)) := D131 (Or.inr (hw _ (List.mem_of_getElem? (i := 16) rfl))) (ty := .char) (by decide)
    have k132 : Way p e below S0 T131 (mkF m 65 #[iv p1, iv p2, iv p3, iv ((p1 &&& (65535 : Int32)).toUInt32.toUInt16.toUInt32.toInt32), iv (2 : Int32), iv ((p2 &&& (65535 : Int32)).toUInt32.toUInt16.toUInt32.toInt32), rv b124, .unset, .unset, .unset] [(.ref b131)]) := fun t k => k130 t (st131 _ k)
    have k133 : Way p e below S0 T131 (mkF m 68 #[iv p1, iv p2, iv p3, iv ((p1 &&& (65535 : Int32)).toUInt32.toUInt16.toUInt32.toInt32), iv (2 : Int32), iv ((p2 &&& (65535 : Int32)).toUInt32.toUInt16.toUInt32.toInt32), rv b124, .unset, .unset, .unset] [(.int ((p2 &&& (65535 : Int32)).toUInt32.toUInt16.toUInt32.toInt32)), (.ref b131), (.ref b131)]) := by
      intro t k
      refine k132 t ?_
      refine XS.dup X131.here hx rfl (hb hby at_65) rfl rfl ?_
      show Steps p.tables e below (T131.setTop (mkF m 66 #[iv p1, iv p2, iv p3, iv ((p1 &&& (65535 : Int32)).toUInt32.toUInt16.toUInt32.toInt32), iv (2 : Int32), iv ((p2 &&& (65535 : Int32)).toUInt32.toUInt16.toUInt32.toInt32), rv b124, .unset, .unset, .unset] [(.ref b131), (.ref b131)])) _
      refine XS.iload X131.here hx rfl (hb hby at_66) rfl ?_
      show Steps p.tables e below (T131.setTop (mkF m 68 #[iv p1, iv p2, iv p3, iv ((p1 &&& (65535 : Int32)).toUInt32.toUInt16.toUInt32.toInt32), iv (2 : Int32), iv ((p2 &&& (65535 : Int32)).toUInt32.toUInt16.toUInt32.toInt32), rv b124, .unset, .unset, .unset] [(.int ((p2 &&& (65535 : Int32)).toUInt32.toUInt16.toUInt32.toInt32)), (.ref b131), (.ref b131)])) _
      exact k
    have ge134 : n0 ≤ b131 := Nat.le_trans (own_old O128) (Nat.le_of_eq g131.symm)
    obtain ⟨_, _, ⟨T135, L135, kk135, nn135⟩, -, X135, ⟨Lc135, hQ135, l135, y135, z135⟩, st135⟩ := X131.specialBack hx (y := (⟨"com/example/stubwright/stubwright/idl/ConstValue$CharValue", "<init>", "(C)V"⟩ : MethodName)) rfl hown (mvT hZ (hw _ (List.mem_of_getElem? (i := 4) rfl))) (mvT hZ (hw _ (List.mem_of_getElem? (i := 5) rfl))) (mvT hZ (hw _ (List.mem_of_getElem? (i := 6) rfl))) (by decide) (backOf (W := 1) (cvInit l Z a0 hw [] wC clC G b131 ((p2 &&& (65535 : Int32)).toUInt32.toUInt16.toUInt32.toInt32) h131 n0 O131 (A131 : Exa Z h131 b131 "com/example/stubwright/stubwright/idl/ConstValue$CharValue") (i131_value : Fld Z h131 b131 "com/example/stubwright/stubwright/idl/ConstValue$CharValue" "value" "C" (.int (0 : Int32))) (ge134 : n0 ≤ b131) (own_i2c _ : ((p2 &&& (65535 : Int32)).toUInt32.toUInt16.toUInt32.toInt32).toUInt32.toUInt16.toUInt32.toInt32 = ((p2 &&& (65535 : Int32)).toUInt32.toUInt16.toUInt32.toInt32))) hZ (hw _ (List.mem_of_getElem? (i := 6) rfl)) (hw _ (List.mem_of_getElem? (i := 3) rfl)) (by decide) (by decide)) (g := (mkF m 68 #[iv p1, iv p2, iv p3, iv ((p1 &&& (65535 : Int32)).toUInt32.toUInt16.toUInt32.toInt32), iv (2 : Int32), iv ((p2 &&& (65535 : Int32)).toUInt32.toUInt16.toUInt32.toInt32), rv b124, .unset, .unset, .unset] [(.int ((p2 &&& (65535 : Int32)).toUInt32.toUInt16.toUInt32.toInt32)), (.ref b131), (.ref b131)])) rfl (by rw [hml]; rfl) (Steps.refl _) (a := b131) (argsL := [(.int ((p2 &&& (65535 : Int32)).toUInt32.toUInt16.toUInt32.toInt32))]) (rest := [(.ref b131)]) (lenOf pd_2 rfl) rfl (by show 2 * 0 + _ ≤ _; exact Nat.le_of_eq rfl) (hb hby at_68) (fun _ _ => ⟨rfl, e131, (by decide : 2 + 0 ≤ _), (by decide : 2 + 0 ≤ _)⟩)
    dsimp only [Pt.U, Pt.locs, Pt.cells, Pt.slots] at X135 l135 y135 z135 st135 hQ135
    subst l135 y135 z135
    obtain ⟨rfl, Nq135, Kq135, po135_0, po135_1⟩ := hQ135
    have N135 := Fr.app N128 Nq135
    have O135 := O131.keep Kq135 (allS ge134 all0)
    have k136 : Way p e below S0 T135 (mkF m 71 #[iv p1, iv p2, iv p3, iv ((p1 &&& (65535 : Int32)).toUInt32.toUInt16.toUInt32.toInt32), iv (2 : Int32), iv ((p2 &&& (65535 : Int32)).toUInt32.toUInt16.toUInt32.toInt32), rv b124, .unset, .unset, .unset] [(.ref b131)]) := fun t k => k133 t (st135.trans k)
    have k138 : Way p e below S0 T135 (mkF m 76 #[iv p1, iv p2, iv p3, iv ((p1 &&& (65535 : Int32)).toUInt32.toUInt16.toUInt32.toInt32), iv (2 : Int32), iv ((p2 &&& (65535 : Int32)).toUInt32.toUInt16.toUInt32.toInt32), rv b124, rv b131, .unset, .unset] [(.int ((p2 &&& (65535 : Int32)).toUInt32.toUInt16.toUInt32.toInt32)), (.int ((p1 &&& (65535 : Int32)).toUInt32.toUInt16.toUInt32.toInt32))]) := by
      intro t k
      refine k136 t ?_
      refine XS.astore X135.here hx rfl (hb hby at_71) rfl rfl (l' := #[iv p1, iv p2, iv p3, iv ((p1 &&& (65535 : Int32)).toUInt32.toUInt16.toUInt32.toInt32), iv (2 : Int32), iv ((p2 &&& (65535 : Int32)).toUInt32.toUInt16.toUInt32.toInt32), rv b124, rv b131, .unset, .unset]) rfl ?_
      show Steps p.tables e below (T135.setTop (mkF m 73 #[iv p1, iv p2, iv p3, iv ((p1 &&& (65535 : Int32)).toUInt32.toUInt16.toUInt32.toInt32), iv (2 : Int32), iv ((p2 &&& (65535 : Int32)).toUInt32.toUInt16.toUInt32.toInt32), rv b124, rv b131, .unset, .unset] [])) _
      refine XS.iloadN X135.here hx rfl (hb hby at_73) rfl ?_
      show Steps p.tables e below (T135.setTop (mkF m 74 #[iv p1, iv p2, iv p3, iv ((p1 &&& (65535 : Int32)).toUInt32.toUInt16.toUInt32.toInt32), iv (2 : Int32), iv ((p2 &&& (65535 : Int32)).toUInt32.toUInt16.toUInt32.toInt32), rv b124, rv b131, .unset, .unset] [(.int ((p1 &&& (65535 : Int32)).toUInt32.toUInt16.toUInt32.toInt32))])) _
      refine XS.iload X135.here hx rfl (hb hby at_74) rfl ?_
      show Steps p.tables e below (T135.setTop (mkF m 76 #[iv p1, iv p2, iv p3, iv ((p1 &&& (65535 : Int32)).toUInt32.toUInt16.toUInt32.toInt32), iv (2 : Int32), iv ((p2 &&& (65535 : Int32)).toUInt32.toUInt16.toUInt32.toInt32), rv b124, rv b131, .unset, .unset] [(.int ((p2 &&& (65535 : Int32)).toUInt32.toUInt16.toUInt32.toInt32)), (.int ((p1 &&& (65535 : Int32)).toUInt32.toUInt16.toUInt32.toInt32))])) _
      exact k
    by_cases hc137 : ((p1 &&& (65535 : Int32)).toUInt32.toUInt16.toUInt32.toInt32) = ((p2 &&& (65535 : Int32)).toUInt32.toUInt16.toUInt32.toInt32)
    · have k139 : Way p e below S0 T135 (mkF m 90 #[iv p1, iv p2, iv p3, iv ((p1 &&& (65535 : Int32)).toUInt32.toUInt16.toUInt32.toInt32), iv (2 : Int32), iv ((p2 &&& (65535 : Int32)).toUInt32.toUInt16.toUInt32.toInt32), rv b124, rv b131, iv (1 : Int32), .unset] [(.ref b131), (.ref b124)]) := by
        intro t k
        refine k138 t ?_
        refine XS.icmpNo X135.here hx rfl (hb hby at_76) rfl (teq (hc137 : ((p1 &&& (65535 : Int32)).toUInt32.toUInt16.toUInt32.toInt32) = ((p2 &&& (65535 : Int32)).toUInt32.toUInt16.toUInt32.toInt32))).2 ?_
        show Steps p.tables e below (T135.setTop (mkF m 79 #[iv p1, iv p2, iv p3, iv ((p1 &&& (65535 : Int32)).toUInt32.toUInt16.toUInt32.toInt32), iv (2 : Int32), iv ((p2 &&& (65535 : Int32)).toUInt32.toUInt16.toUInt32.toInt32), rv b124, rv b131, .unset, .unset] [])) _
        refine XS.iconst X135.here hx rfl (hb hby at_79) ?_
        show Steps p.tables e below (T135.setTop (mkF m 80 #[iv p1, iv p2, iv p3, iv ((p1 &&& (65535 : Int32)).toUInt32.toUInt16.toUInt32.toInt32), iv (2 : Int32), iv ((p2 &&& (65535 : Int32)).toUInt32.toUInt16.toUInt32.toInt32), rv b124, rv b131, .unset, .unset] [(.int (1 : Int32))])) _
        refine XS.goto X135.here hx rfl (pc0 := 80) (pc' := 84) rfl (hb hby at_80) (by decide) (by decide) ?_
        show Steps p.tables e below (T135.setTop (mkF m 84 #[iv p1, iv p2, iv p3, iv ((p1 &&& (65535 : Int32)).toUInt32.toUInt16.toUInt32.toInt32), iv (2 : Int32), iv ((p2 &&& (65535 : Int32)).toUInt32.toUInt16.toUInt32.toInt32), rv b124, rv b131, .unset, .unset] [(.int (1 : Int32))])) _
        refine XS.istore X135.here hx rfl (hb hby at_84) rfl (l' := #[iv p1, iv p2, iv p3, iv ((p1 &&& (65535 : Int32)).toUInt32.toUInt16.toUInt32.toInt32), iv (2 : Int32), iv ((p2 &&& (65535 : Int32)).toUInt32.toUInt16.toUInt32.toInt32), rv b124, rv b131, iv (1 : Int32), .unset]) rfl ?_
        show Steps p.tables e below (T135.setTop (mkF m 86 #[iv p1, iv p2, iv p3, iv ((p1 &&& (65535 : Int32)).toUInt32.toUInt16.toUInt32.toInt32), iv (2 : Int32), iv ((p2 &&& (65535 : Int32)).toUInt32.toUInt16.toUInt32.toInt32), rv b124, rv b131, iv (1 : Int32), .unset] [])) _
        refine XS.aload X135.here hx rfl (hb hby at_86) rfl rfl ?_
        show Steps p.tables e below (T135.setTop (mkF m 88 #[iv p1, iv p2, iv p3, iv ((p1 &&& (65535 : Int32)).toUInt32.toUInt16.toUInt32.toInt32), iv (2 : Int32), iv ((p2 &&& (65535 : Int32)).toUInt32.toUInt16.toUInt32.toInt32), rv b124, rv b131, iv (1 : Int32), .unset] [(.ref b124)])) _
        refine XS.aload X135.here hx rfl (hb hby at_88) rfl rfl ?_
        show Steps p.tables e below (T135.setTop (mkF m 90 #[iv p1, iv p2, iv p3, iv ((p1 &&& (65535 : Int32)).toUInt32.toUInt16.toUInt32.toInt32), iv (2 : Int32), iv ((p2 &&& (65535 : Int32)).toUInt32.toUInt16.toUInt32.toInt32), rv b124, rv b131, iv (1 : Int32), .unset] [(.ref b131), (.ref b124)])) _
        exact k
      have f140 : Fld Z T135.heap b124 "com/example/stubwright/stubwright/idl/ConstValue$CharValue" "value" "C" (.int ((p1 &&& (65535 : Int32)).toUInt32.toUInt16.toUInt32.toInt32)) := ((po128_1.ext E131).keep Kq135 (ninS (Nat.ne_of_lt (Nat.lt_of_lt_of_le po128_0.lt (Nat.le_of_eq g131.symm))) nin0))
      have f142 : Exa Z T135.heap b124 "com/example/stubwright/stubwright/idl/ConstValue$CharValue" := ((po128_0.ext E131).keep Kq135)
      obtain ⟨cq141, kq141, qq141a, qq141b, qq141c⟩ := isOf hZ rfl f142
      obtain ⟨_, _, ⟨T141, L141, kk141, nn141⟩, -, X141, ⟨Lc141, hQ141, l141, y141, z141⟩, st141⟩ := X135.virtualBack hx (y := (⟨"com/example/stubwright/stubwright/idl/ConstValue$CharValue", "equals", "(Ljava/lang/Object;)Z"⟩ : MethodName)) (z := (⟨"com/example/stubwright/stubwright/idl/ConstValue$CharValue", "equals", "(Ljava/lang/Object;)Z"⟩ : MethodName)) hown (mvT hZ (hw _ (List.mem_of_getElem? (i := 17) rfl))) (mvT hZ (hw _ (List.mem_of_getElem? (i := 18) rfl))) (notFace_of_selects (args := #[]) (mvT hZ (hw _ (List.mem_of_getElem? (i := 20) rfl)))) (mvT hZ (hw _ (List.mem_of_getElem? (i := 20) rfl))) (mvT hZ (hw _ (List.mem_of_getElem? (i := 19) rfl))) (by decide) (backOf (W := 0) (eqT l Z a0 hw [] wC clC G b124 b131 ((p1 &&& (65535 : Int32)).toUInt32.toUInt16.toUInt32.toInt32) ((p2 &&& (65535 : Int32)).toUInt32.toUInt16.toUInt32.toInt32) T135.heap n0 O135 (po135_0 : Exa Z T135.heap b131 "com/example/stubwright/stubwright/idl/ConstValue$CharValue") (f140 : Fld Z T135.heap b124 "com/example/stubwright/stubwright/idl/ConstValue$CharValue" "value" "C" (.int ((p1 &&& (65535 : Int32)).toUInt32.toUInt16.toUInt32.toInt32))) (po135_1 : Fld Z T135.heap b131 "com/example/stubwright/stubwright/idl/ConstValue$CharValue" "value" "C" (.int ((p2 &&& (65535 : Int32)).toUInt32.toUInt16.toUInt32.toInt32))) (hc137 : ((p1 &&& (65535 : Int32)).toUInt32.toUInt16.toUInt32.toInt32) = ((p2 &&& (65535 : Int32)).toUInt32.toUInt16.toUInt32.toInt32))) hZ (hw _ (List.mem_of_getElem? (i := 21) rfl)) (hw _ (List.mem_of_getElem? (i := 3) rfl)) (by decide) (by decide)) qq141a qq141c (g := (mkF m 90 #[iv p1, iv p2, iv p3, iv ((p1 &&& (65535 : Int32)).toUInt32.toUInt16.toUInt32.toInt32), iv (2 : Int32), iv ((p2 &&& (65535 : Int32)).toUInt32.toUInt16.toUInt32.toInt32), rv b124, rv b131, iv (1 : Int32), .unset] [(.ref b131), (.ref b124)])) rfl (by rw [hml]; rfl) (Steps.refl _) (argsL := [(.ref b131)]) (rest := []) (lenOf pd_3 rfl) rfl (by show 2 * 0 + _ ≤ _; exact Nat.le_of_eq rfl) (hb hby at_90) (fun _ _ => ⟨rfl, rfl, (by decide : 2 + 0 ≤ _), (by decide : 2 + 0 ≤ _)⟩)
      dsimp only [Pt.U, Pt.locs, Pt.cells, Pt.slots] at X141 l141 y141 z141 st141 hQ141
      subst l141 y141 z141
      obtain ⟨rfl, Nq141, e141⟩ := hQ141
      have N141 := Fr.app N135 Nq141
      have k143 : Way p e below S0 T141 (mkF m 93 #[iv p1, iv p2, iv p3, iv ((p1 &&& (65535 : Int32)).toUInt32.toUInt16.toUInt32.toInt32), iv (2 : Int32), iv ((p2 &&& (65535 : Int32)).toUInt32.toUInt16.toUInt32.toInt32), rv b124, rv b131, iv (1 : Int32), .unset] [(.int (1 : Int32))]) := fun t k => k139 t (st141.trans k)
      have k144 : Way p e below S0 T141 (mkF m 104 #[iv p1, iv p2, iv p3, iv ((p1 &&& (65535 : Int32)).toUInt32.toUInt16.toUInt32.toInt32), iv (2 : Int32), iv ((p2 &&& (65535 : Int32)).toUInt32.toUInt16.toUInt32.toInt32), rv b124, rv b131, iv (1 : Int32), .unset] [(.ref b124), (.ref b131)]) := by
        intro t k
        refine k143 t ?_
        refine XS.iload X141.here hx rfl (hb hby at_93) rfl ?_
        show Steps p.tables e below (T141.setTop (mkF m 95 #[iv p1, iv p2, iv p3, iv ((p1 &&& (65535 : Int32)).toUInt32.toUInt16.toUInt32.toInt32), iv (2 : Int32), iv ((p2 &&& (65535 : Int32)).toUInt32.toUInt16.toUInt32.toInt32), rv b124, rv b131, iv (1 : Int32), .unset] [(.int (1 : Int32)), (.int (1 : Int32))])) _
        refine XS.icmpYes X141.here hx rfl (pc0 := 95) (pc' := 100) rfl (hb hby at_95) rfl (teq ((by decide) : (1 : Int32) = (1 : Int32))).1 (by decide) (by decide) ?_
        show Steps p.tables e below (T141.setTop (mkF m 100 #[iv p1, iv p2, iv p3, iv ((p1 &&& (65535 : Int32)).toUInt32.toUInt16.toUInt32.toInt32), iv (2 : Int32), iv ((p2 &&& (65535 : Int32)).toUInt32.toUInt16.toUInt32.toInt32), rv b124, rv b131, iv (1 : Int32), .unset] [])) _
        refine XS.aload X141.here hx rfl (hb hby at_100) rfl rfl ?_
        show Steps p.tables e below (T141.setTop (mkF m 102 #[iv p1, iv p2, iv p3, iv ((p1 &&& (65535 : Int32)).toUInt32.toUInt16.toUInt32.toInt32), iv (2 : Int32), iv ((p2 &&& (65535 : Int32)).toUInt32.toUInt16.toUInt32.toInt32), rv b124, rv b131, iv (1 : Int32), .unset] [(.ref b131)])) _
        refine XS.aload X141.here hx rfl (hb hby at_102) rfl rfl ?_
        show Steps p.tables e below (T141.setTop (mkF m 104 #[iv p1, iv p2, iv p3, iv ((p1 &&& (65535 : Int32)).toUInt32.toUInt16.toUInt32.toInt32), iv (2 : Int32), iv ((p2 &&& (65535 : Int32)).toUInt32.toUInt16.toUInt32.toInt32), rv b124, rv b131, iv (1 : Int32), .unset] [(.ref b124), (.ref b131)])) _
        exact k
      obtain ⟨cq145, kq145, qq145a, qq145b, qq145c⟩ := isOf hZ e141 po135_0
      obtain ⟨_, _, ⟨T145, L145, kk145, nn145⟩, -, X145, ⟨Lc145, hQ145, l145, y145, z145⟩, st145⟩ := X141.virtualBack hx (y := (⟨"com/example/stubwright/stubwright/idl/ConstValue$CharValue", "equals", "(Ljava/lang/Object;)Z"⟩ : MethodName)) (z := (⟨"com/example/stubwright/stubwright/idl/ConstValue$CharValue", "equals", "(Ljava/lang/Object;)Z"⟩ : MethodName)) hown (mvT hZ (hw _ (List.mem_of_getElem? (i := 17) rfl))) (mvT hZ (hw _ (List.mem_of_getElem? (i := 18) rfl))) (notFace_of_selects (args := #[]) (mvT hZ (hw _ (List.mem_of_getElem? (i := 20) rfl)))) (mvT hZ (hw _ (List.mem_of_getElem? (i := 20) rfl))) (mvT hZ (hw _ (List.mem_of_getElem? (i := 19) rfl))) (by decide) (backOf (W := 0) (eqT l Z a0 hw [] wC clC G b131 b124 ((p2 &&& (65535 : Int32)).toUInt32.toUInt16.toUInt32.toInt32) ((p1 &&& (65535 : Int32)).toUInt32.toUInt16.toUInt32.toInt32) T135.heap n0 O135 (f142 : Exa Z T135.heap b124 "com/example/stubwright/stubwright/idl/ConstValue$CharValue") (po135_1 : Fld Z T135.heap b131 "com/example/stubwright/stubwright/idl/ConstValue$CharValue" "value" "C" (.int ((p2 &&& (65535 : Int32)).toUInt32.toUInt16.toUInt32.toInt32))) (f140 : Fld Z T135.heap b124 "com/example/stubwright/stubwright/idl/ConstValue$CharValue" "value" "C" (.int ((p1 &&& (65535 : Int32)).toUInt32.toUInt16.toUInt32.toInt32))) (Eq.symm hc137 : ((p2 &&& (65535 : Int32)).toUInt32.toUInt16.toUInt32.toInt32) = ((p1 &&& (65535 : Int32)).toUInt32.toUInt16.toUInt32.toInt32))) hZ (hw _ (List.mem_of_getElem? (i := 21) rfl)) (hw _ (List.mem_of_getElem? (i := 3) rfl)) (by decide) (by decide)) qq145a qq145c (g := (mkF m 104 #[iv p1, iv p2, iv p3, iv ((p1 &&& (65535 : Int32)).toUInt32.toUInt16.toUInt32.toInt32), iv (2 : Int32), iv ((p2 &&& (65535 : Int32)).toUInt32.toUInt16.toUInt32.toInt32), rv b124, rv b131, iv (1 : Int32), .unset] [(.ref b124), (.ref b131)])) rfl (by rw [hml]; rfl) (Steps.refl _) (argsL := [(.ref b124)]) (rest := []) (lenOf pd_3 rfl) rfl (by show 2 * 0 + _ ≤ _; exact Nat.le_of_eq rfl) (hb hby at_104) (fun _ _ => ⟨rfl, e141, (by decide : 2 + 0 ≤ _), (by decide : 2 + 0 ≤ _)⟩)
      dsimp only [Pt.U, Pt.locs, Pt.cells, Pt.slots] at X145 l145 y145 z145 st145 hQ145
      subst l145 y145 z145
      obtain ⟨rfl, Nq145, e145⟩ := hQ145
      have N145 := Fr.app N141 Nq145
      have k146 : Way p e below S0 T145 (mkF m 107 #[iv p1, iv p2, iv p3, iv ((p1 &&& (65535 : Int32)).toUInt32.toUInt16.toUInt32.toInt32), iv (2 : Int32), iv ((p2 &&& (65535 : Int32)).toUInt32.toUInt16.toUInt32.toInt32), rv b124, rv b131, iv (1 : Int32), .unset] [(.int (1 : Int32))]) := fun t k => k144 t (st145.trans k)
      have k147 : Way p e below S0 T145 (mkF m 118 #[iv p1, iv p2, iv p3, iv ((p1 &&& (65535 : Int32)).toUInt32.toUInt16.toUInt32.toInt32), iv (2 : Int32), iv ((p2 &&& (65535 : Int32)).toUInt32.toUInt16.toUInt32.toInt32), rv b124, rv b131, iv (1 : Int32), .unset] [(.ref b124), (.ref b124)]) := by
        intro t k
        refine k146 t ?_
        refine XS.iload X145.here hx rfl (hb hby at_107) rfl ?_
        show Steps p.tables e below (T145.setTop (mkF m 109 #[iv p1, iv p2, iv p3, iv ((p1 &&& (65535 : Int32)).toUInt32.toUInt16.toUInt32.toInt32), iv (2 : Int32), iv ((p2 &&& (65535 : Int32)).toUInt32.toUInt16.toUInt32.toInt32), rv b124, rv b131, iv (1 : Int32), .unset] [(.int (1 : Int32)), (.int (1 : Int32))])) _
        refine XS.icmpYes X145.here hx rfl (pc0 := 109) (pc' := 114) rfl (hb hby at_109) rfl (teq ((by decide) : (1 : Int32) = (1 : Int32))).1 (by decide) (by decide) ?_
        show Steps p.tables e below (T145.setTop (mkF m 114 #[iv p1, iv p2, iv p3, iv ((p1 &&& (65535 : Int32)).toUInt32.toUInt16.toUInt32.toInt32), iv (2 : Int32), iv ((p2 &&& (65535 : Int32)).toUInt32.toUInt16.toUInt32.toInt32), rv b124, rv b131, iv (1 : Int32), .unset] [])) _
        refine XS.aload X145.here hx rfl (hb hby at_114) rfl rfl ?_
        show Steps p.tables e below (T145.setTop (mkF m 116 #[iv p1, iv p2, iv p3, iv ((p1 &&& (65535 : Int32)).toUInt32.toUInt16.toUInt32.toInt32), iv (2 : Int32), iv ((p2 &&& (65535 : Int32)).toUInt32.toUInt16.toUInt32.toInt32), rv b124, rv b131, iv (1 : Int32), .unset] [(.ref b124)])) _
        refine XS.aload X145.here hx rfl (hb hby at_116) rfl rfl ?_
        show Steps p.tables e below (T145.setTop (mkF m 118 #[iv p1, iv p2, iv p3, iv ((p1 &&& (65535 : Int32)).toUInt32.toUInt16.toUInt32.toInt32), iv (2 : Int32), iv ((p2 &&& (65535 : Int32)).toUInt32.toUInt16.toUInt32.toInt32), rv b124, rv b131, iv (1 : Int32), .unset] [(.ref b124), (.ref b124)])) _
        exact k
      obtain ⟨cq148, kq148, qq148a, qq148b, qq148c⟩ := isOf hZ e145 f142
      obtain ⟨_, _, ⟨T148, L148, kk148, nn148⟩, -, X148, ⟨Lc148, hQ148, l148, y148, z148⟩, st148⟩ := X145.virtualBack hx (y := (⟨"com/example/stubwright/stubwright/idl/ConstValue$CharValue", "equals", "(Ljava/lang/Object;)Z"⟩ : MethodName)) (z := (⟨"com/example/stubwright/stubwright/idl/ConstValue$CharValue", "equals", "(Ljava/lang/Object;)Z"⟩ : MethodName)) hown (mvT hZ (hw _ (List.mem_of_getElem? (i := 17) rfl))) (mvT hZ (hw _ (List.mem_of_getElem? (i := 18) rfl))) (notFace_of_selects (args := #[]) (mvT hZ (hw _ (List.mem_of_getElem? (i := 20) rfl)))) (mvT hZ (hw _ (List.mem_of_getElem? (i := 20) rfl))) (mvT hZ (hw _ (List.mem_of_getElem? (i := 19) rfl))) (by decide) (backOf (W := 0) (eqT l Z a0 hw [] wC clC G b124 b124 ((p1 &&& (65535 : Int32)).toUInt32.toUInt16.toUInt32.toInt32) ((p1 &&& (65535 : Int32)).toUInt32.toUInt16.toUInt32.toInt32) T135.heap n0 O135 (f142 : Exa Z T135.heap b124 "com/example/stubwright/stubwright/idl/ConstValue$CharValue") (f140 : Fld Z T135.heap b124 "com/example/stubwright/stubwright/idl/ConstValue$CharValue" "value" "C" (.int ((p1 &&& (65535 : Int32)).toUInt32.toUInt16.toUInt32.toInt32))) (f140 : Fld Z T135.heap b124 "com/example/stubwright/stubwright/idl/ConstValue$CharValue" "value" "C" (.int ((p1 &&& (65535 : Int32)).toUInt32.toUInt16.toUInt32.toInt32))) (rfl : ((p1 &&& (65535 : Int32)).toUInt32.toUInt16.toUInt32.toInt32) = ((p1 &&& (65535 : Int32)).toUInt32.toUInt16.toUInt32.toInt32))) hZ (hw _ (List.mem_of_getElem? (i := 21) rfl)) (hw _ (List.mem_of_getElem? (i := 3) rfl)) (by decide) (by decide)) qq148a qq148c (g := (mkF m 118 #[iv p1, iv p2, iv p3, iv ((p1 &&& (65535 : Int32)).toUInt32.toUInt16.toUInt32.toInt32), iv (2 : Int32), iv ((p2 &&& (65535 : Int32)).toUInt32.toUInt16.toUInt32.toInt32), rv b124, rv b131, iv (1 : Int32), .unset] [(.ref b124), (.ref b124)])) rfl (by rw [hml]; rfl) (Steps.refl _) (argsL := [(.ref b124)]) (rest := []) (lenOf pd_3 rfl) rfl (by show 2 * 0 + _ ≤ _; exact Nat.le_of_eq rfl) (hb hby at_118) (fun _ _ => ⟨rfl, e145, (by decide : 2 + 0 ≤ _), (by decide : 2 + 0 ≤ _)⟩)
      dsimp only [Pt.U, Pt.locs, Pt.cells, Pt.slots] at X148 l148 y148 z148 st148 hQ148
      subst l148 y148 z148
      obtain ⟨rfl, Nq148, e148⟩ := hQ148
      have N148 := Fr.app N145 Nq148
      have k149 : Way p e below S0 T148 (mkF m 121 #[iv p1, iv p2, iv p3, iv ((p1 &&& (65535 : Int32)).toUInt32.toUInt16.toUInt32.toInt32), iv (2 : Int32), iv ((p2 &&& (65535 : Int32)).toUInt32.toUInt16.toUInt32.toInt32), rv b124, rv b131, iv (1 : Int32), .unset] [(.int (1 : Int32))]) := fun t k => k147 t (st148.trans k)
      have k150 : Way p e below S0 T148 (mkF m 129 #[iv p1, iv p2, iv p3, iv ((p1 &&& (65535 : Int32)).toUInt32.toUInt16.toUInt32.toInt32), iv (2 : Int32), iv ((p2 &&& (65535 : Int32)).toUInt32.toUInt16.toUInt32.toInt32), rv b124, rv b131, iv (1 : Int32), .unset] [.null, (.ref b124)]) := by
        intro t k
        refine k149 t ?_
        refine XS.ifYes X148.here hx rfl (pc0 := 121) (pc' := 126) rfl (hb hby at_121) rfl ((if0 _ _).trans (feq ((by decide) : ¬ ((1 : Int32) = (0 : Int32)))).2) (by decide) (by decide) ?_
        show Steps p.tables e below (T148.setTop (mkF m 126 #[iv p1, iv p2, iv p3, iv ((p1 &&& (65535 : Int32)).toUInt32.toUInt16.toUInt32.toInt32), iv (2 : Int32), iv ((p2 &&& (65535 : Int32)).toUInt32.toUInt16.toUInt32.toInt32), rv b124, rv b131, iv (1 : Int32), .unset] [])) _
        refine XS.aload X148.here hx rfl (hb hby at_126) rfl rfl ?_
        show Steps p.tables e below (T148.setTop (mkF m 128 #[iv p1, iv p2, iv p3, iv ((p1 &&& (65535 : Int32)).toUInt32.toUInt16.toUInt32.toInt32), iv (2 : Int32), iv ((p2 &&& (65535 : Int32)).toUInt32.toUInt16.toUInt32.toInt32), rv b124, rv b131, iv (1 : Int32), .unset] [(.ref b124)])) _
        refine XS.aconstNull X148.here hx rfl (hb hby at_128) ?_
        show Steps p.tables e below (T148.setTop (mkF m 129 #[iv p1, iv p2, iv p3, iv ((p1 &&& (65535 : Int32)).toUInt32.toUInt16.toUInt32.toInt32), iv (2 : Int32), iv ((p2 &&& (65535 : Int32)).toUInt32.toUInt16.toUInt32.toInt32), rv b124, rv b131, iv (1 : Int32), .unset] [.null, (.ref b124)])) _
        exact k
      obtain ⟨cq151, kq151, qq151a, qq151b, qq151c⟩ := isOf hZ e148 f142
      obtain ⟨_, _, ⟨T151, L151, kk151, nn151⟩, -, X151, ⟨Lc151, hQ151, l151, y151, z151⟩, st151⟩ := X148.virtualBack hx (y := (⟨"com/example/stubwright/stubwright/idl/ConstValue$CharValue", "equals", "(Ljava/lang/Object;)Z"⟩ : MethodName)) (z := (⟨"com/example/stubwright/stubwright/idl/ConstValue$CharValue", "equals", "(Ljava/lang/Object;)Z"⟩ : MethodName)) hown (mvT hZ (hw _ (List.mem_of_getElem? (i := 17) rfl))) (mvT hZ (hw _ (List.mem_of_getElem? (i := 18) rfl))) (notFace_of_selects (args := #[]) (mvT hZ (hw _ (List.mem_of_getElem? (i := 20) rfl)))) (mvT hZ (hw _ (List.mem_of_getElem? (i := 20) rfl))) (mvT hZ (hw _ (List.mem_of_getElem? (i := 19) rfl))) (by decide) (backOf (W := 0) (eqNull l Z a0 hw [] wC clC G b124 T135.heap n0 O135 ) hZ (hw _ (List.mem_of_getElem? (i := 21) rfl)) (hw _ (List.mem_of_getElem? (i := 3) rfl)) (by decide) (by decide)) qq151a qq151c (g := (mkF m 129 #[iv p1, iv p2, iv p3, iv ((p1 &&& (65535 : Int32)).toUInt32.toUInt16.toUInt32.toInt32), iv (2 : Int32), iv ((p2 &&& (65535 : Int32)).toUInt32.toUInt16.toUInt32.toInt32), rv b124, rv b131, iv (1 : Int32), .unset] [.null, (.ref b124)])) rfl (by rw [hml]; rfl) (Steps.refl _) (argsL := [.null]) (rest := []) (lenOf pd_3 rfl) rfl (by show 2 * 0 + _ ≤ _; exact Nat.le_of_eq rfl) (hb hby at_129) (fun _ _ => ⟨rfl, e148, (by decide : 2 + 0 ≤ _), (by decide : 2 + 0 ≤ _)⟩)
      dsimp only [Pt.U, Pt.locs, Pt.cells, Pt.slots] at X151 l151 y151 z151 st151 hQ151
      subst l151 y151 z151
      obtain ⟨rfl, Nq151, e151⟩ := hQ151
      have N151 := Fr.app N148 Nq151
      have k152 : Way p e below S0 T151 (mkF m 132 #[iv p1, iv p2, iv p3, iv ((p1 &&& (65535 : Int32)).toUInt32.toUInt16.toUInt32.toInt32), iv (2 : Int32), iv ((p2 &&& (65535 : Int32)).toUInt32.toUInt16.toUInt32.toInt32), rv b124, rv b131, iv (1 : Int32), .unset] [(.int (0 : Int32))]) := fun t k => k150 t (st151.trans k)
      have k154 : Way p e below S0 T151 (mkF m 167 #[iv p1, iv p2, iv p3, iv ((p1 &&& (65535 : Int32)).toUInt32.toUInt16.toUInt32.toInt32), iv (2 : Int32), iv ((p2 &&& (65535 : Int32)).toUInt32.toUInt16.toUInt32.toInt32), rv b124, rv b131, iv (1 : Int32), .unset] [(.int ((p1 &&& (65535 : Int32)).toUInt32.toUInt16.toUInt32.toInt32))]) := by
        intro t k
        refine k152 t ?_
        refine XS.ifYes X151.here hx rfl (pc0 := 132) (pc' := 137) rfl (hb hby at_132) rfl ((if0 _ _).trans (teq ((by decide) : (0 : Int32) = (0 : Int32))).1) (by decide) (by decide) ?_
        show Steps p.tables e below (T151.setTop (mkF m 137 #[iv p1, iv p2, iv p3, iv ((p1 &&& (65535 : Int32)).toUInt32.toUInt16.toUInt32.toInt32), iv (2 : Int32), iv ((p2 &&& (65535 : Int32)).toUInt32.toUInt16.toUInt32.toInt32), rv b124, rv b131, iv (1 : Int32), .unset] [])) _
        refine XS.iload X151.here hx rfl (hb hby at_137) rfl ?_
        show Steps p.tables e below (T151.setTop (mkF m 139 #[iv p1, iv p2, iv p3, iv ((p1 &&& (65535 : Int32)).toUInt32.toUInt16.toUInt32.toInt32), iv (2 : Int32), iv ((p2 &&& (65535 : Int32)).toUInt32.toUInt16.toUInt32.toInt32), rv b124, rv b131, iv (1 : Int32), .unset] [(.int (2 : Int32))])) _
        refine XS.iconst X151.here hx rfl (hb hby at_139) ?_
        show Steps p.tables e below (T151.setTop (mkF m 140 #[iv p1, iv p2, iv p3, iv ((p1 &&& (65535 : Int32)).toUInt32.toUInt16.toUInt32.toInt32), iv (2 : Int32), iv ((p2 &&& (65535 : Int32)).toUInt32.toUInt16.toUInt32.toInt32), rv b124, rv b131, iv (1 : Int32), .unset] [(.int (3 : Int32)), (.int (2 : Int32))])) _
        refine XS.icmpYes X151.here hx rfl (pc0 := 140) (pc' := 166) rfl (hb hby at_140) rfl (feq ((by decide) : ¬ ((2 : Int32) = (3 : Int32)))).2 (by decide) (by decide) ?_
        show Steps p.tables e below (T151.setTop (mkF m 166 #[iv p1, iv p2, iv p3, iv ((p1 &&& (65535 : Int32)).toUInt32.toUInt16.toUInt32.toInt32), iv (2 : Int32), iv ((p2 &&& (65535 : Int32)).toUInt32.toUInt16.toUInt32.toInt32), rv b124, rv b131, iv (1 : Int32), .unset] [])) _
        refine XS.iloadN X151.here hx rfl (hb hby at_166) rfl ?_
        show Steps p.tables e below (T151.setTop (mkF m 167 #[iv p1, iv p2, iv p3, iv ((p1 &&& (65535 : Int32)).toUInt32.toUInt16.toUInt32.toInt32), iv (2 : Int32), iv ((p2 &&& (65535 : Int32)).toUInt32.toUInt16.toUInt32.toInt32), rv b124, rv b131, iv (1 : Int32), .unset] [(.int ((p1 &&& (65535 : Int32)).toUInt32.toUInt16.toUInt32.toInt32))])) _
        exact k
      by_cases hc153 : (127 : Int32) < ((p1 &&& (65535 : Int32)).toUInt32.toUInt16.toUInt32.toInt32)
      · obtain ⟨_, _, ⟨T155, L155, kk155, nn155⟩, -, X155, ⟨Lc155, hQ155, l155, y155, z155⟩, st155⟩ := Jvm.LawKit.callS X151 hx (y := (⟨"java/lang/Integer", "valueOf", "(I)Ljava/lang/Integer;"⟩ : MethodName)) hown (mvT hZ (hw _ (List.mem_of_getElem? (i := 24) rfl))) (mvT hZ (hw _ (List.mem_of_getElem? (i := 25) rfl))) (mvT hZ (hw _ (List.mem_of_getElem? (i := 26) rfl))) (mvT hZ (hw _ (List.mem_of_getElem? (i := 27) rfl))) (by decide) (backOf (W := 0) (vofNew l Z a0 hw [] wC clC G ((p1 &&& (65535 : Int32)).toUInt32.toUInt16.toUInt32.toInt32) T135.heap n0 O135 (own_i2c_lo _ : ¬ (((p1 &&& (65535 : Int32)).toUInt32.toUInt16.toUInt32.toInt32) < (-128 : Int32))) (hc153 : (127 : Int32) < ((p1 &&& (65535 : Int32)).toUInt32.toUInt16.toUInt32.toInt32))) hZ (hw _ (List.mem_of_getElem? (i := 27) rfl)) (hw _ (List.mem_of_getElem? (i := 26) rfl)) (by decide) (by decide)) (g := (mkF m 167 #[iv p1, iv p2, iv p3, iv ((p1 &&& (65535 : Int32)).toUInt32.toUInt16.toUInt32.toInt32), iv (2 : Int32), iv ((p2 &&& (65535 : Int32)).toUInt32.toUInt16.toUInt32.toInt32), rv b124, rv b131, iv (1 : Int32), .unset] [(.int ((p1 &&& (65535 : Int32)).toUInt32.toUInt16.toUInt32.toInt32))])) rfl (by rw [hml]; rfl) (argsL := [(.int ((p1 &&& (65535 : Int32)).toUInt32.toUInt16.toUInt32.toInt32))]) (rest := []) (lenOf pd_4 rfl) rfl (by show 2 * 0 + _ ≤ _; exact Nat.le_of_eq rfl) (hb hby at_167) (fun _ _ => ⟨rfl, e151, (by decide : 2 + 1 ≤ _), (by decide : 2 + 1 ≤ _)⟩)
        dsimp only [Pt.U, Pt.locs, Pt.cells, Pt.slots] at X155 l155 y155 z155 st155 hQ155
        subst l155 y155 z155
        obtain ⟨y1_155, rfl, Nq155, Kq155, po155_0, po155_1⟩ := hQ155
        have N155 := Fr.app N151 Nq155
        have O155 := O135.keep Kq155 all0
        have k156 : Way p e below S0 T155 (mkF m 170 #[iv p1, iv p2, iv p3, iv ((p1 &&& (65535 : Int32)).toUInt32.toUInt16.toUInt32.toInt32), iv (2 : Int32), iv ((p2 &&& (65535 : Int32)).toUInt32.toUInt16.toUInt32.toInt32), rv b124, rv b131, iv (1 : Int32), .unset] [(.ref y1_155)]) := fun t k => k154 t (st155 _ k)
        have k157 : Way p e below S0 T155 (mkF m 176 #[iv p1, iv p2, iv p3, iv ((p1 &&& (65535 : Int32)).toUInt32.toUInt16.toUInt32.toInt32), iv (2 : Int32), iv ((p2 &&& (65535 : Int32)).toUInt32.toUInt16.toUInt32.toInt32), rv b124, rv b131, iv (1 : Int32), rv y1_155] [(.ref y1_155), (.ref b124)]) := by
          intro t k
          refine k156 t ?_
          refine XS.astore X155.here hx rfl (hb hby at_170) rfl rfl (l' := #[iv p1, iv p2, iv p3, iv ((p1 &&& (65535 : Int32)).toUInt32.toUInt16.toUInt32.toInt32), iv (2 : Int32), iv ((p2 &&& (65535 : Int32)).toUInt32.toUInt16.toUInt32.toInt32), rv b124, rv b131, iv (1 : Int32), rv y1_155]) rfl ?_
          show Steps p.tables e below (T155.setTop (mkF m 172 #[iv p1, iv p2, iv p3, iv ((p1 &&& (65535 : Int32)).toUInt32.toUInt16.toUInt32.toInt32), iv (2 : Int32), iv ((p2 &&& (65535 : Int32)).toUInt32.toUInt16.toUInt32.toInt32), rv b124, rv b131, iv (1 : Int32), rv y1_155] [])) _
          refine XS.aload X155.here hx rfl (hb hby at_172) rfl rfl ?_
          show Steps p.tables e below (T155.setTop (mkF m 174 #[iv p1, iv p2, iv p3, iv ((p1 &&& (65535 : Int32)).toUInt32.toUInt16.toUInt32.toInt32), iv (2 : Int32), iv ((p2 &&& (65535 : Int32)).toUInt32.toUInt16.toUInt32.toInt32), rv b124, rv b131, iv (1 : Int32), rv y1_155] [(.ref b124)])) _
          refine XS.aload X155.here hx rfl (hb hby at_174) rfl rfl ?_
          show Steps p.tables e below (T155.setTop (mkF m 176 #[iv p1, iv p2, iv p3, iv ((p1 &&& (65535 : Int32)).toUInt32.toUInt16.toUInt32.toInt32), iv (2 : Int32), iv ((p2 &&& (65535 : Int32)).toUInt32.toUInt16.toUInt32.toInt32), rv b124, rv b131, iv (1 : Int32), rv y1_155] [(.ref y1_155), (.ref b124)])) _
          exact k
        have f159 : Exa Z T155.heap b124 "com/example/stubwright/stubwright/idl/ConstValue$CharValue" := (f142.keep Kq155)
        obtain ⟨cq158, kq158, qq158a, qq158b, qq158c⟩ := isOf hZ rfl f159
        obtain ⟨_, _, ⟨T158, L158, kk158, nn158⟩, -, X158, ⟨Lc158, hQ158, l158, y158, z158⟩, st158⟩ := X155.virtualBack hx (y := (⟨"com/example/stubwright/stubwright/idl/ConstValue$CharValue", "equals", "(Ljava/lang/Object;)Z"⟩ : MethodName)) (z := (⟨"com/example/stubwright/stubwright/idl/ConstValue$CharValue", "equals", "(Ljava/lang/Object;)Z"⟩ : MethodName)) hown (mvT hZ (hw _ (List.mem_of_getElem? (i := 17) rfl))) (mvT hZ (hw _ (List.mem_of_getElem? (i := 18) rfl))) (notFace_of_selects (args := #[]) (mvT hZ (hw _ (List.mem_of_getElem? (i := 20) rfl)))) (mvT hZ (hw _ (List.mem_of_getElem? (i := 20) rfl))) (mvT hZ (hw _ (List.mem_of_getElem? (i := 19) rfl))) (by decide) (backOf (W := 0) (eqOther1 l Z a0 hw [] wC clC G b124 y1_155 T155.heap n0 O155 (po155_1 : Exa Z T155.heap y1_155 "java/lang/Integer")) hZ (hw _ (List.mem_of_getElem? (i := 21) rfl)) (hw _ (List.mem_of_getElem? (i := 3) rfl)) (by decide) (by decide)) qq158a qq158c (g := (mkF m 176 #[iv p1, iv p2, iv p3, iv ((p1 &&& (65535 : Int32)).toUInt32.toUInt16.toUInt32.toInt32), iv (2 : Int32), iv ((p2 &&& (65535 : Int32)).toUInt32.toUInt16.toUInt32.toInt32), rv b124, rv b131, iv (1 : Int32), rv y1_155] [(.ref y1_155), (.ref b124)])) rfl (by rw [hml]; rfl) (Steps.refl _) (argsL := [(.ref y1_155)]) (rest := []) (lenOf pd_3 rfl) rfl (by show 2 * 0 + _ ≤ _; exact Nat.le_of_eq rfl) (hb hby at_176) (fun _ _ => ⟨rfl, rfl, (by decide : 3 + 0 ≤ _), (by decide : 3 + 0 ≤ _)⟩)
        dsimp only [Pt.U, Pt.locs, Pt.cells, Pt.slots] at X158 l158 y158 z158 st158 hQ158
        subst l158 y158 z158
        obtain ⟨rfl, Nq158, e158⟩ := hQ158
        have N158 := Fr.app N155 Nq158
        have k160 : Way p e below S0 T158 (mkF m 179 #[iv p1, iv p2, iv p3, iv ((p1 &&& (65535 : Int32)).toUInt32.toUInt16.toUInt32.toInt32), iv (2 : Int32), iv ((p2 &&& (65535 : Int32)).toUInt32.toUInt16.toUInt32.toInt32), rv b124, rv b131, iv (1 : Int32), rv y1_155] [(.int (0 : Int32))]) := fun t k => k157 t (st158.trans k)
        have k161 : Way p e below S0 T158 (mkF m 185 #[iv p1, iv p2, iv p3, iv ((p1 &&& (65535 : Int32)).toUInt32.toUInt16.toUInt32.toInt32), iv (2 : Int32), iv ((p2 &&& (65535 : Int32)).toUInt32.toUInt16.toUInt32.toInt32), rv b124, rv b131, iv (1 : Int32), rv y1_155] [(.int (1 : Int32))]) := by
          intro t k
          refine k160 t ?_
          refine XS.ifYes X158.here hx rfl (pc0 := 179) (pc' := 184) rfl (hb hby at_179) rfl ((if0 _ _).trans (teq ((by decide) : (0 : Int32) = (0 : Int32))).1) (by decide) (by decide) ?_
          show Steps p.tables e below (T158.setTop (mkF m 184 #[iv p1, iv p2, iv p3, iv ((p1 &&& (65535 : Int32)).toUInt32.toUInt16.toUInt32.toInt32), iv (2 : Int32), iv ((p2 &&& (65535 : Int32)).toUInt32.toUInt16.toUInt32.toInt32), rv b124, rv b131, iv (1 : Int32), rv y1_155] [])) _
          refine XS.iconst X158.here hx rfl (hb hby at_184) ?_
          show Steps p.tables e below (T158.setTop (mkF m 185 #[iv p1, iv p2, iv p3, iv ((p1 &&& (65535 : Int32)).toUInt32.toUInt16.toUInt32.toInt32), iv (2 : Int32), iv ((p2 &&& (65535 : Int32)).toUInt32.toUInt16.toUInt32.toInt32), rv b124, rv b131, iv (1 : Int32), rv y1_155] [(.int (1 : Int32))])) _
          exact k
        obtain ⟨fs, hr, hrun, hended, hW, hsame⟩ := X158.leave (v := some (.int (1 : Int32))) (fun h => by rw [Bd.returns] at h; cases h)
        refine ⟨_, _, k161 _ (retN X158 hx (t := .boolean) Bd.returns (by simp) (hb hby at_185) hr), hrun, hended, _, _, rfl, ?_, ⟨_, rfl⟩, hW, hsame.mono (by decide) (by decide)⟩
        show Q_law_met Z wC clC p1 p2 p3 h0 n0 _ T158.heap _
        rw [e158]
        exact ⟨rfl, N158⟩
      · obtain ⟨_, _, ⟨T162, L162, kk162, nn162⟩, -, X162, ⟨Lc162, hQ162, l162, y162, z162⟩, st162⟩ := Jvm.LawKit.callS X151 hx (y := (⟨"java/lang/Integer", "valueOf", "(I)Ljava/lang/Integer;"⟩ : MethodName)) hown (mvT hZ (hw _ (List.mem_of_getElem? (i := 24) rfl))) (mvT hZ (hw _ (List.mem_of_getElem? (i := 25) rfl))) (mvT hZ (hw _ (List.mem_of_getElem? (i := 26) rfl))) (mvT hZ (hw _ (List.mem_of_getElem? (i := 27) rfl))) (by decide) (backOf (W := 0) (vofOld l Z a0 hw [] wC clC G ((p1 &&& (65535 : Int32)).toUInt32.toUInt16.toUInt32.toInt32) T135.heap n0 O135 (own_i2c_lo _ : ¬ (((p1 &&& (65535 : Int32)).toUInt32.toUInt16.toUInt32.toInt32) < (-128 : Int32))) (hc153 : ¬ ((127 : Int32) < ((p1 &&& (65535 : Int32)).toUInt32.toUInt16.toUInt32.toInt32)))) hZ (hw _ (List.mem_of_getElem? (i := 27) rfl)) (hw _ (List.mem_of_getElem? (i := 26) rfl)) (by decide) (by decide)) (g := (mkF m 167 #[iv p1, iv p2, iv p3, iv ((p1 &&& (65535 : Int32)).toUInt32.toUInt16.toUInt32.toInt32), iv (2 : Int32), iv ((p2 &&& (65535 : Int32)).toUInt32.toUInt16.toUInt32.toInt32), rv b124, rv b131, iv (1 : Int32), .unset] [(.int ((p1 &&& (65535 : Int32)).toUInt32.toUInt16.toUInt32.toInt32))])) rfl (by rw [hml]; rfl) (argsL := [(.int ((p1 &&& (65535 : Int32)).toUInt32.toUInt16.toUInt32.toInt32))]) (rest := []) (lenOf pd_4 rfl) rfl (by show 2 * 0 + _ ≤ _; exact Nat.le_of_eq rfl) (hb hby at_167) (fun _ _ => ⟨rfl, e151, (by decide : 2 + 0 ≤ _), (by decide : 2 + 0 ≤ _)⟩)
        dsimp only [Pt.U, Pt.locs, Pt.cells, Pt.slots] at X162 l162 y162 z162 st162 hQ162
        subst l162 y162 z162
        obtain ⟨y1_162, rfl, Nq162, e162, po162_0⟩ := hQ162
        have N162 := Fr.app N151 Nq162
        rw [e162] at po162_0
        have k163 : Way p e below S0 T162 (mkF m 170 #[iv p1, iv p2, iv p3, iv ((p1 &&& (65535 : Int32)).toUInt32.toUInt16.toUInt32.toInt32), iv (2 : Int32), iv ((p2 &&& (65535 : Int32)).toUInt32.toUInt16.toUInt32.toInt32), rv b124, rv b131, iv (1 : Int32), .unset] [(.ref y1_162)]) := fun t k => k154 t (st162 _ k)
        have k164 : Way p e below S0 T162 (mkF m 176 #[iv p1, iv p2, iv p3, iv ((p1 &&& (65535 : Int32)).toUInt32.toUInt16.toUInt32.toInt32), iv (2 : Int32), iv ((p2 &&& (65535 : Int32)).toUInt32.toUInt16.toUInt32.toInt32), rv b124, rv b131, iv (1 : Int32), rv y1_162] [(.ref y1_162), (.ref b124)]) := by
          intro t k
          refine k163 t ?_
          refine XS.astore X162.here hx rfl (hb hby at_170) rfl rfl (l' := #[iv p1, iv p2, iv p3, iv ((p1 &&& (65535 : Int32)).toUInt32.toUInt16.toUInt32.toInt32), iv (2 : Int32), iv ((p2 &&& (65535 : Int32)).toUInt32.toUInt16.toUInt32.toInt32), rv b124, rv b131, iv (1 : Int32), rv y1_162]) rfl ?_
          show Steps p.tables e below (T162.setTop (mkF m 172 #[iv p1, iv p2, iv p3, iv ((p1 &&& (65535 : Int32)).toUInt32.toUInt16.toUInt32.toInt32), iv (2 : Int32), iv ((p2 &&& (65535 : Int32)).toUInt32.toUInt16.toUInt32.toInt32), rv b124, rv b131, iv (1 : Int32), rv y1_162] [])) _
          refine XS.aload X162.here hx rfl (hb hby at_172) rfl rfl ?_
          show Steps p.tables e below (T162.setTop (mkF m 174 #[iv p1, iv p2, iv p3, iv ((p1 &&& (65535 : Int32)).toUInt32.toUInt16.toUInt32.toInt32), iv (2 : Int32), iv ((p2 &&& (65535 : Int32)).toUInt32.toUInt16.toUInt32.toInt32), rv b124, rv b131, iv (1 : Int32), rv y1_162] [(.ref b124)])) _
          refine XS.aload X162.here hx rfl (hb hby at_174) rfl rfl ?_
          show Steps p.tables e below (T162.setTop (mkF m 176 #[iv p1, iv p2, iv p3, iv ((p1 &&& (65535 : Int32)).toUInt32.toUInt16.toUInt32.toInt32), iv (2 : Int32), iv ((p2 &&& (65535 : Int32)).toUInt32.toUInt16.toUInt32.toInt32), rv b124, rv b131, iv (1 : Int32), rv y1_162] [(.ref y1_162), (.ref b124)])) _
          exact k
        obtain ⟨cq165, kq165, qq165a, qq165b, qq165c⟩ := isOf hZ e162 f142
        obtain ⟨_, _, ⟨T165, L165, kk165, nn165⟩, -, X165, ⟨Lc165, hQ165, l165, y165, z165⟩, st165⟩ := X162.virtualBack hx (y := (⟨"com/example/stubwright/stubwright/idl/ConstValue$CharValue", "equals", "(Ljava/lang/Object;)Z"⟩ : MethodName)) (z := (⟨"com/example/stubwright/stubwright/idl/ConstValue$CharValue", "equals", "(Ljava/lang/Object;)Z"⟩ : MethodName)) hown (mvT hZ (hw _ (List.mem_of_getElem? (i := 17) rfl))) (mvT hZ (hw _ (List.mem_of_getElem? (i := 18) rfl))) (notFace_of_selects (args := #[]) (mvT hZ (hw _ (List.mem_of_getElem? (i := 20) rfl)))) (mvT hZ (hw _ (List.mem_of_getElem? (i := 20) rfl))) (mvT hZ (hw _ (List.mem_of_getElem? (i := 19) rfl))) (by decide) (backOf (W := 0) (eqOther1 l Z a0 hw [] wC clC G b124 y1_162 T135.heap n0 O135 (po162_0 : Exa Z T135.heap y1_162 "java/lang/Integer")) hZ (hw _ (List.mem_of_getElem? (i := 21) rfl)) (hw _ (List.mem_of_getElem? (i := 3) rfl)) (by decide) (by decide)) qq165a qq165c (g := (mkF m 176 #[iv p1, iv p2, iv p3, iv ((p1 &&& (65535 : Int32)).toUInt32.toUInt16.toUInt32.toInt32), iv (2 : Int32), iv ((p2 &&& (65535 : Int32)).toUInt32.toUInt16.toUInt32.toInt32), rv b124, rv b131, iv (1 : Int32), rv y1_162] [(.ref y1_162), (.ref b124)])) rfl (by rw [hml]; rfl) (Steps.refl _) (argsL := [(.ref y1_162)]) (rest := []) (lenOf pd_3 rfl) rfl (by show 2 * 0 + _ ≤ _; exact Nat.le_of_eq rfl) (hb hby at_176) (fun _ _ => ⟨rfl, e162, (by decide : 2 + 0 ≤ _), (by decide : 2 + 0 ≤ _)⟩)
        dsimp only [Pt.U, Pt.locs, Pt.cells, Pt.slots] at X165 l165 y165 z165 st165 hQ165
        subst l165 y165 z165
        obtain ⟨rfl, Nq165, e165⟩ := hQ165
        have N165 := Fr.app N162 Nq165
        have k166 : Way p e below S0 T165 (mkF m 179 #[iv p1, iv p2, iv p3, iv ((p1 &&& (65535 : Int32)).toUInt32.toUInt16.toUInt32.toInt32), iv (2 : Int32), iv ((p2 &&& (65535 : Int32)).toUInt32.toUInt16.toUInt32.toInt32), rv b124, rv b131, iv (1 : Int32), rv y1_162] [(.int (0 : Int32))]) := fun t k => k164 t (st165.trans k)
        have k167 : Way p e below S0 T165 (mkF m 185 #[iv p1, iv p2, iv p3, iv ((p1 &&& (65535 : Int32)).toUInt32.toUInt16.toUInt32.toInt32), iv (2 : Int32), iv ((p2 &&& (65535 : Int32)).toUInt32.toUInt16.toUInt32.toInt32), rv b124, rv b131, iv (1 : Int32), rv y1_162] [(.int (1 : Int32))]) := by
          intro t k
          refine k166 t ?_
          refine XS.ifYes X165.here hx rfl (pc0 := 179) (pc' := 184) rfl (hb hby at_179) rfl ((if0 _ _).trans (teq ((by decide) : (0 : Int32) = (0 : Int32))).1) (by decide) (by decide) ?_
          show Steps p.tables e below (T165.setTop (mkF m 184 #[iv p1, iv p2, iv p3, iv ((p1 &&& (65535 : Int32)).toUInt32.toUInt16.toUInt32.toInt32), iv (2 : Int32), iv ((p2 &&& (65535 : Int32)).toUInt32.toUInt16.toUInt32.toInt32), rv b124, rv b131, iv (1 : Int32), rv y1_162] [])) _
          refine XS.iconst X165.here hx rfl (hb hby at_184) ?_
          show Steps p.tables e below (T165.setTop (mkF m 185 #[iv p1, iv p2, iv p3, iv ((p1 &&& (65535 : Int32)).toUInt32.toUInt16.toUInt32.toInt32), iv (2 : Int32), iv ((p2 &&& (65535 : Int32)).toUInt32.toUInt16.toUInt32.toInt32), rv b124, rv b131, iv (1 : Int32), rv y1_162] [(.int (1 : Int32))])) _
          exact k
        obtain ⟨fs, hr, hrun, hended, hW, hsame⟩ := X165.leave (v := some (.int (1 : Int32))) (fun h => by rw [Bd.returns] at h; cases h)
        refine ⟨_, _, k167 _ (retN X165 hx (t := .boolean) Bd.returns (by simp) (hb hby at_185) hr), hrun, hended, _, _, rfl, ?_, ⟨_, rfl⟩, hW, hsame.mono (by decide) (by decide)⟩
        show Q_law_met Z wC clC p1 p2 p3 h0 n0 _ T165.heap _
        rw [e165]
        exact ⟨rfl, N165⟩
    · have k168 : Way p e below S0 T135 (mkF m 90 #[iv p1, iv p2, iv p3, iv ((p1 &&& (65535 : Int32)).toUInt32.toUInt16.toUInt32.toInt32), iv (2 : Int32), iv ((p2 &&& (65535 : Int32)).toUInt32.toUInt16.toUInt32.toInt32), rv b124, rv b131, iv (0 : Int32), .unset] [(.ref b131), (.ref b124)]) := by
        intro t k
        refine k138 t ?_
        refine XS.icmpYes X135.here hx rfl (pc0 := 76) (pc' := 83) rfl (hb hby at_76) rfl (feq (hc137 : ¬ (((p1 &&& (65535 : Int32)).toUInt32.toUInt16.toUInt32.toInt32) = ((p2 &&& (65535 : Int32)).toUInt32.toUInt16.toUInt32.toInt32)))).2 (by decide) (by decide) ?_
        show Steps p.tables e below (T135.setTop (mkF m 83 #[iv p1, iv p2, iv p3, iv ((p1 &&& (65535 : Int32)).toUInt32.toUInt16.toUInt32.toInt32), iv (2 : Int32), iv ((p2 &&& (65535 : Int32)).toUInt32.toUInt16.toUInt32.toInt32), rv b124, rv b131, .unset, .unset] [])) _
        refine XS.iconst X135.here hx rfl (hb hby at_83) ?_
        show Steps p.tables e below (T135.setTop (mkF m 84 #[iv p1, iv p2, iv p3, iv ((p1 &&& (65535 : Int32)).toUInt32.toUInt16.toUInt32.toInt32), iv (2 : Int32), iv ((p2 &&& (65535 : Int32)).toUInt32.toUInt16.toUInt32.toInt32), rv b124, rv b131, .unset, .unset] [(.int (0 : Int32))])) _
        refine XS.istore X135.here hx rfl (hb hby at_84) rfl (l' := #[iv p1, iv p2, iv p3, iv ((p1 &&& (65535 : Int32)).toUInt32.toUInt16.toUInt32.toInt32), iv (2 : Int32), iv ((p2 &&& (65535 : Int32)).toUInt32.toUInt16.toUInt32.toInt32), rv b124, rv b131, iv (0 : Int32), .unset]) rfl ?_
        show Steps p.tables e below (T135.setTop (mkF m 86 #[iv p1, iv p2, iv p3, iv ((p1 &&& (65535 : Int32)).toUInt32.toUInt16.toUInt32.toInt32), iv (2 : Int32), iv ((p2 &&& (65535 : Int32)).toUInt32.toUInt16.toUInt32.toInt32), rv b124, rv b131, iv (0 : Int32), .unset] [])) _
        refine XS.aload X135.here hx rfl (hb hby at_86) rfl rfl ?_
        show Steps p.tables e below (T135.setTop (mkF m 88 #[iv p1, iv p2, iv p3, iv ((p1 &&& (65535 : Int32)).toUInt32.toUInt16.toUInt32.toInt32), iv (2 : Int32), iv ((p2 &&& (65535 : Int32)).toUInt32.toUInt16.toUInt32.toInt32), rv b124, rv b131, iv (0 : Int32), .unset] [(.ref b124)])) _
        refine XS.aload X135.here hx rfl (hb hby at_88) rfl rfl ?_
        show Steps p.tables e below (T135.setTop (mkF m 90 #[iv p1, iv p2, iv p3, iv ((p1 &&& (65535 : Int32)).toUInt32.toUInt16.toUInt32.toInt32), iv (2 : Int32), iv ((p2 &&& (65535 : Int32)).toUInt32.toUInt16.toUInt32.toInt32), rv b124, rv b131, iv (0 : Int32), .unset] [(.ref b131), (.ref b124)])) _
        exact k
      have f169 : Fld Z T135.heap b124 "com/example/stubwright/stubwright/idl/ConstValue$CharValue" "value" "C" (.int ((p1 &&& (65535 : Int32)).toUInt32.toUInt16.toUInt32.toInt32)) := ((po128_1.ext E131).keep Kq135 (ninS (Nat.ne_of_lt (Nat.lt_of_lt_of_le po128_0.lt (Nat.le_of_eq g131.symm))) nin0))
      have f171 : Exa Z T135.heap b124 "com/example/stubwright/stubwright/idl/ConstValue$CharValue" := ((po128_0.ext E131).keep Kq135)
      obtain ⟨cq170, kq170, qq170a, qq170b, qq170c⟩ := isOf hZ rfl f171
      obtain ⟨_, _, ⟨T170, L170, kk170, nn170⟩, -, X170, ⟨Lc170, hQ170, l170, y170, z170⟩, st170⟩ := X135.virtualBack hx (y := (⟨"com/example/stubwright/stubwright/idl/ConstValue$CharValue", "equals", "(Ljava/lang/Object;)Z"⟩ : MethodName)) (z := (⟨"com/example/stubwright/stubwright/idl/ConstValue$CharValue", "equals", "(Ljava/lang/Object;)Z"⟩ : MethodName)) hown (mvT hZ (hw _ (List.mem_of_getElem? (i := 17) rfl))) (mvT hZ (hw _ (List.mem_of_getElem? (i := 18) rfl))) (notFace_of_selects (args := #[]) (mvT hZ (hw _ (List.mem_of_getElem? (i := 20) rfl)))) (mvT hZ (hw _ (List.mem_of_getElem? (i := 20) rfl))) (mvT hZ (hw _ (List.mem_of_getElem? (i := 19) rfl))) (by decide) (backOf (W := 0) (eqF l Z a0 hw [] wC clC G b124 b131 ((p1 &&& (65535 : Int32)).toUInt32.toUInt16.toUInt32.toInt32) ((p2 &&& (65535 : Int32)).toUInt32.toUInt16.toUInt32.toInt32) T135.heap n0 O135 (po135_0 : Exa Z T135.heap b131 "com/example/stubwright/stubwright/idl/ConstValue$CharValue") (f169 : Fld Z T135.heap b124 "com/example/stubwright/stubwright/idl/ConstValue$CharValue" "value" "C" (.int ((p1 &&& (65535 : Int32)).toUInt32.toUInt16.toUInt32.toInt32))) (po135_1 : Fld Z T135.heap b131 "com/example/stubwright/stubwright/idl/ConstValue$CharValue" "value" "C" (.int ((p2 &&& (65535 : Int32)).toUInt32.toUInt16.toUInt32.toInt32))) (hc137 : ¬ (((p1 &&& (65535 : Int32)).toUInt32.toUInt16.toUInt32.toInt32) = ((p2 &&& (65535 : Int32)).toUInt32.toUInt16.toUInt32.toInt32)))) hZ (hw _ (List.mem_of_getElem? (i := 21) rfl)) (hw _ (List.mem_of_getElem? (i := 3) rfl)) (by decide) (by decide)) qq170a qq170c (g := (mkF m 90 #[iv p1, iv p2, iv p3, iv ((p1 &&& (65535 : Int32)).toUInt32.toUInt16.toUInt32.toInt32), iv (2 : Int32), iv ((p2 &&& (65535 : Int32)).toUInt32.toUInt16.toUInt32.toInt32), rv b124, rv b131, iv (0 : Int32), .unset] [(.ref b131), (.ref b124)])) rfl (by rw [hml]; rfl) (Steps.refl _) (argsL := [(.ref b131)]) (rest := []) (lenOf pd_3 rfl) rfl (by show 2 * 0 + _ ≤ _; exact Nat.le_of_eq rfl) (hb hby at_90) (fun _ _ => ⟨rfl, rfl, (by decide : 2 + 0 ≤ _), (by decide : 2 + 0 ≤ _)⟩)
      dsimp only [Pt.U, Pt.locs, Pt.cells, Pt.slots] at X170 l170 y170 z170 st170 hQ170
      subst l170 y170 z170
      obtain ⟨rfl, Nq170, e170⟩ := hQ170
      have N170 := Fr.app N135 Nq170
      have k172 : Way p e below S0 T170 (mkF m 93 #[iv p1, iv p2, iv p3, iv ((p1 &&& (65535 : Int32)).toUInt32.toUInt16.toUInt32.toInt32), iv (2 : Int32), iv ((p2 &&& (65535 : Int32)).toUInt32.toUInt16.toUInt32.toInt32), rv b124, rv b131, iv (0 : Int32), .unset] [(.int (0 : Int32))]) := fun t k => k168 t (st170.trans k)
      have k173 : Way p e below S0 T170 (mkF m 104 #[iv p1, iv p2, iv p3, iv ((p1 &&& (65535 : Int32)).toUInt32.toUInt16.toUInt32.toInt32), iv (2 : Int32), iv ((p2 &&& (65535 : Int32)).toUInt32.toUInt16.toUInt32.toInt32), rv b124, rv b131, iv (0 : Int32), .unset] [(.ref b124), (.ref b131)]) := by
        intro t k
        refine k172 t ?_
        refine XS.iload X170.here hx rfl (hb hby at_93) rfl ?_
        show Steps p.tables e below (T170.setTop (mkF m 95 #[iv p1, iv p2, iv p3, iv ((p1 &&& (65535 : Int32)).toUInt32.toUInt16.toUInt32.toInt32), iv (2 : Int32), iv ((p2 &&& (65535 : Int32)).toUInt32.toUInt16.toUInt32.toInt32), rv b124, rv b131, iv (0 : Int32), .unset] [(.int (0 : Int32)), (.int (0 : Int32))])) _
        refine XS.icmpYes X170.here hx rfl (pc0 := 95) (pc' := 100) rfl (hb hby at_95) rfl (teq ((by decide) : (0 : Int32) = (0 : Int32))).1 (by decide) (by decide) ?_
        show Steps p.tables e below (T170.setTop (mkF m 100 #[iv p1, iv p2, iv p3, iv ((p1 &&& (65535 : Int32)).toUInt32.toUInt16.toUInt32.toInt32), iv (2 : Int32), iv ((p2 &&& (65535 : Int32)).toUInt32.toUInt16.toUInt32.toInt32), rv b124, rv b131, iv (0 : Int32), .unset] [])) _
        refine XS.aload X170.here hx rfl (hb hby at_100) rfl rfl ?_
        show Steps p.tables e below (T170.setTop (mkF m 102 #[iv p1, iv p2, iv p3, iv ((p1 &&& (65535 : Int32)).toUInt32.toUInt16.toUInt32.toInt32), iv (2 : Int32), iv ((p2 &&& (65535 : Int32)).toUInt32.toUInt16.toUInt32.toInt32), rv b124, rv b131, iv (0 : Int32), .unset] [(.ref b131)])) _
        refine XS.aload X170.here hx rfl (hb hby at_102) rfl rfl ?_
        show Steps p.tables e below (T170.setTop (mkF m 104 #[iv p1, iv p2, iv p3, iv ((p1 &&& (65535 : Int32)).toUInt32.toUInt16.toUInt32.toInt32), iv (2 : Int32), iv ((p2 &&& (65535 : Int32)).toUInt32.toUInt16.toUInt32.toInt32), rv b124, rv b131, iv (0 : Int32), .unset] [(.ref b124), (.ref b131)])) _
        exact k
      obtain ⟨cq174, kq174, qq174a, qq174b, qq174c⟩ := isOf hZ e170 po135_0
      obtain ⟨_, _, ⟨T174, L174, kk174, nn174⟩, -, X174, ⟨Lc174, hQ174, l174, y174, z174⟩, st174⟩ := X170.virtualBack hx (y := (⟨"com/example/stubwright/stubwright/idl/ConstValue$CharValue", "equals", "(Ljava/lang/Object;)Z"⟩ : MethodName)) (z := (⟨"com/example/stubwright/stubwright/idl/ConstValue$CharValue", "equals", "(Ljava/lang/Object;)Z"⟩ : MethodName)) hown (mvT hZ (hw _ (List.mem_of_getElem? (i := 17) rfl))) (mvT hZ (hw _ (List.mem_of_getElem? (i := 18) rfl))) (notFace_of_selects (args := #[]) (mvT hZ (hw _ (List.mem_of_getElem? (i := 20) rfl)))) (mvT hZ (hw _ (List.mem_of_getElem? (i := 20) rfl))) (mvT hZ (hw _ (List.mem_of_getElem? (i := 19) rfl))) (by decide) (backOf (W := 0) (eqF l Z a0 hw [] wC clC G b131 b124 ((p2 &&& (65535 : Int32)).toUInt32.toUInt16.toUInt32.toInt32) ((p1 &&& (65535 : Int32)).toUInt32.toUInt16.toUInt32.toInt32) T135.heap n0 O135 (f171 : Exa Z T135.heap b124 "com/example/stubwright/stubwright/idl/ConstValue$CharValue") (po135_1 : Fld Z T135.heap b131 "com/example/stubwright/stubwright/idl/ConstValue$CharValue" "value" "C" (.int ((p2 &&& (65535 : Int32)).toUInt32.toUInt16.toUInt32.toInt32))) (f169 : Fld Z T135.heap b124 "com/example/stubwright/stubwright/idl/ConstValue$CharValue" "value" "C" (.int ((p1 &&& (65535 : Int32)).toUInt32.toUInt16.toUInt32.toInt32))) (fun q => hc137 q.symm : ¬ (((p2 &&& (65535 : Int32)).toUInt32.toUInt16.toUInt32.toInt32) = ((p1 &&& (65535 : Int32)).toUInt32.toUInt16.toUInt32.toInt32)))) hZ (hw _ (List.mem_of_getElem? (i := 21) rfl)) (hw _ (List.mem_of_getElem? (i := 3) rfl)) (by decide) (by decide)) qq174a qq174c (g := (mkF m 104 #[iv p1, iv p2, iv p3, iv ((p1 &&& (65535 : Int32)).toUInt32.toUInt16.toUInt32.toInt32), iv (2 : Int32), iv ((p2 &&& (65535 : Int32)).toUInt32.toUInt16.toUInt32.toInt32), rv b124, rv b131, iv (0 : Int32), .unset] [(.ref b124), (.ref b131)])) rfl (by rw [hml]; rfl) (Steps.refl _) (argsL := [(.ref b124)]) (rest := []) (lenOf pd_3 rfl) rfl (by show 2 * 0 + _ ≤ _; exact Nat.le_of_eq rfl) (hb hby at_104) (fun _ _ => ⟨rfl, e170, (by decide : 2 + 0 ≤ _), (by decide : 2 + 0 ≤ _)⟩)
      dsimp only [Pt.U, Pt.locs, Pt.cells, Pt.slots] at X174 l174 y174 z174 st174 hQ174
      subst l174 y174 z174
      obtain ⟨rfl, Nq174, e174⟩ := hQ174
      have N174 := Fr.app N170 Nq174
      have k175 : Way p e below S0 T174 (mkF m 107 #[iv p1, iv p2, iv p3, iv ((p1 &&& (65535 : Int32)).toUInt32.toUInt16.toUInt32.toInt32), iv (2 : Int32), iv ((p2 &&& (65535 : Int32)).toUInt32.toUInt16.toUInt32.toInt32), rv b124, rv b131, iv (0 : Int32), .unset] [(.int (0 : Int32))]) := fun t k => k173 t (st174.trans k)
      have k176 : Way p e below S0 T174 (mkF m 118 #[iv p1, iv p2, iv p3, iv ((p1 &&& (65535 : Int32)).toUInt32.toUInt16.toUInt32.toInt32), iv (2 : Int32), iv ((p2 &&& (65535 : Int32)).toUInt32.toUInt16.toUInt32.toInt32), rv b124, rv b131, iv (0 : Int32), .unset] [(.ref b124), (.ref b124)]) := by
        intro t k
        refine k175 t ?_
        refine XS.iload X174.here hx rfl (hb hby at_107) rfl ?_
        show Steps p.tables e below (T174.setTop (mkF m 109 #[iv p1, iv p2, iv p3, iv ((p1 &&& (65535 : Int32)).toUInt32.toUInt16.toUInt32.toInt32), iv (2 : Int32), iv ((p2 &&& (65535 : Int32)).toUInt32.toUInt16.toUInt32.toInt32), rv b124, rv b131, iv (0 : Int32), .unset] [(.int (0 : Int32)), (.int (0 : Int32))])) _
        refine XS.icmpYes X174.here hx rfl (pc0 := 109) (pc' := 114) rfl (hb hby at_109) rfl (teq ((by decide) : (0 : Int32) = (0 : Int32))).1 (by decide) (by decide) ?_
        show Steps p.tables e below (T174.setTop (mkF m 114 #[iv p1, iv p2, iv p3, iv ((p1 &&& (65535 : Int32)).toUInt32.toUInt16.toUInt32.toInt32), iv (2 : Int32), iv ((p2 &&& (65535 : Int32)).toUInt32.toUInt16.toUInt32.toInt32), rv b124, rv b131, iv (0 : Int32), .unset] [])) _
        refine XS.aload X174.here hx rfl (hb hby at_114) rfl rfl ?_
        show Steps p.tables e below (T174.setTop (mkF m 116 #[iv p1, iv p2, iv p3, iv ((p1 &&& (65535 : Int32)).toUInt32.toUInt16.toUInt32.toInt32), iv (2 : Int32), iv ((p2 &&& (65535 : Int32)).toUInt32.toUInt16.toUInt32.toInt32), rv b124, rv b131, iv (0 : Int32), .unset] [(.ref b124)])) _
        refine XS.aload X174.here hx rfl (hb hby at_116) rfl rfl ?_
        show Steps p.tables e below (T174.setTop (mkF m 118 #[iv p1, iv p2, iv p3, iv ((p1 &&& (65535 : Int32)).toUInt32.toUInt16.toUInt32.toInt32), iv (2 : Int32), iv ((p2 &&& (65535 : Int32)).toUInt32.toUInt16.toUInt32.toInt32), rv b124, rv b131, iv (0 : Int32), .unset] [(.ref b124), (.ref b124)])) _
        exact k
      obtain ⟨cq177, kq177, qq177a, qq177b, qq177c⟩ := isOf hZ e174 f171
      obtain ⟨_, _, ⟨T177, L177, kk177, nn177⟩, -, X177, ⟨Lc177, hQ177, l177, y177, z177⟩, st177⟩ := X174.virtualBack hx (y := (⟨"com/example/stubwright/stubwright/idl/ConstValue$CharValue", "equals", "(Ljava/lang/Object;)Z"⟩ : MethodName)) (z := (⟨"com/example/stubwright/stubwright/idl/ConstValue$CharValue", "equals", "(Ljava/lang/Object;)Z"⟩ : MethodName)) hown (mvT hZ (hw _ (List.mem_of_getElem? (i := 17) rfl))) (mvT hZ (hw _ (List.mem_of_getElem? (i := 18) rfl))) (notFace_of_selects (args := #[]) (mvT hZ (hw _ (List.mem_of_getElem? (i := 20) rfl)))) (mvT hZ (hw _ (List.mem_of_getElem? (i := 20) rfl))) (mvT hZ (hw _ (List.mem_of_getElem? (i := 19) rfl))) (by decide) (backOf (W := 0) (eqT l Z a0 hw [] wC clC G b124 b124 ((p1 &&& (65535 : Int32)).toUInt32.toUInt16.toUInt32.toInt32) ((p1 &&& (65535 : Int32)).toUInt32.toUInt16.toUInt32.toInt32) T135.heap n0 O135 (f171 : Exa Z T135.heap b124 "com/example/stubwright/stubwright/idl/ConstValue$CharValue") (f169 : Fld Z T135.heap b124 "com/example/stubwright/stubwright/idl/ConstValue$CharValue" "value" "C" (.int ((p1 &&& (65535 : Int32)).toUInt32.toUInt16.toUInt32.toInt32))) (f169 : Fld Z T135.heap b124 "com/example/stubwright/stubwright/idl/ConstValue$CharValue" "value" "C" (.int ((p1 &&& (65535 : Int32)).toUInt32.toUInt16.toUInt32.toInt32))) (rfl : ((p1 &&& (65535 : Int32)).toUInt32.toUInt16.toUInt32.toInt32) = ((p1 &&& (65535 : Int32)).toUInt32.toUInt16.toUInt32.toInt32))) hZ (hw _ (List.mem_of_getElem? (i := 21) rfl)) (hw _ (List.mem_of_getElem? (i := 3) rfl)) (by decide) (by decide)) qq177a qq177c (g := (mkF m 118 #[iv p1, iv p2, iv p3, iv ((p1 &&& (65535 : Int32)).toUInt32.toUInt16.toUInt32.toInt32), iv (2 : Int32), iv ((p2 &&& (65535 : Int32)).toUInt32.toUInt16.toUInt32.toInt32), rv b124, rv b131, iv (0 : Int32), .unset] [(.ref b124), (.ref b124)])) rfl (by rw [hml]; rfl) (Steps.refl _) (argsL := [(.ref b124)]) (rest := []) (lenOf pd_3 rfl) rfl (by show 2 * 0 + _ ≤ _; exact Nat.le_of_eq rfl) (hb hby at_118) (fun _ _ => ⟨rfl, e174, (by decide : 2 + 0 ≤ _), (by decide : 2 + 0 ≤ _)⟩)
      dsimp only [Pt.U, Pt.locs, Pt.cells, Pt.slots] at X177 l177 y177 z177 st177 hQ177
      subst l177 y177 z177
      obtain ⟨rfl, Nq177, e177⟩ := hQ177
      have N177 := Fr.app N174 Nq177
      have k178 : Way p e below S0 T177 (mkF m 121 #[iv p1, iv p2, iv p3, iv ((p1 &&& (65535 : Int32)).toUInt32.toUInt16.toUInt32.toInt32), iv (2 : Int32), iv ((p2 &&& (65535 : Int32)).toUInt32.toUInt16.toUInt32.toInt32), rv b124, rv b131, iv (0 : Int32), .unset] [(.int (1 : Int32))]) := fun t k => k176 t (st177.trans k)
      have k179 : Way p e below S0 T177 (mkF m 129 #[iv p1, iv p2, iv p3, iv ((p1 &&& (65535 : Int32)).toUInt32.toUInt16.toUInt32.toInt32), iv (2 : Int32), iv ((p2 &&& (65535 : Int32)).toUInt32.toUInt16.toUInt32.toInt32), rv b124, rv b131, iv (0 : Int32), .unset] [.null, (.ref b124)]) := by
        intro t k
        refine k178 t ?_
        refine XS.ifYes X177.here hx rfl (pc0 := 121) (pc' := 126) rfl (hb hby at_121) rfl ((if0 _ _).trans (feq ((by decide) : ¬ ((1 : Int32) = (0 : Int32)))).2) (by decide) (by decide) ?_
        show Steps p.tables e below (T177.setTop (mkF m 126 #[iv p1, iv p2, iv p3, iv ((p1 &&& (65535 : Int32)).toUInt32.toUInt16.toUInt32.toInt32), iv (2 : Int32), iv ((p2 &&& (65535 : Int32)).toUInt32.toUInt16.toUInt32.toInt32), rv b124, rv b131, iv (0 : Int32), .unset] [])) _
        refine XS.aload X177.here hx rfl (hb hby at_126) rfl rfl ?_
        show Steps p.tables e below (T177.setTop (mkF m 128 #[iv p1, iv p2, iv p3, iv ((p1 &&& (65535 : Int32)).toUInt32.toUInt16.toUInt32.toInt32), iv (2 : Int32), iv ((p2 &&& (65535 : Int32)).toUInt32.toUInt16.toUInt32.toInt32), rv b124, rv b131, iv (0 : Int32), .unset] [(.ref b124)])) _
        refine XS.aconstNull X177.here hx rfl (hb hby at_128) ?_
        show Steps p.tables e below (T177.setTop (mkF m 129 #[iv p1, iv p2, iv p3, iv ((p1 &&& (65535 : Int32)).toUInt32.toUInt16.toUInt32.toInt32), iv (2 : Int32), iv ((p2 &&& (65535 : Int32)).toUInt32.toUInt16.toUInt32.toInt32), rv b124, rv b131, iv (0 : Int32), .unset] [.null, (.ref b124)])) _
        exact k
      obtain ⟨cq180, kq180, qq180a, qq180b, qq180c⟩ := isOf hZ e177 f171
      obtain ⟨_, _, ⟨T180, L180, kk180, nn180⟩, -, X180, ⟨Lc180, hQ180, l180, y180, z180⟩, st180⟩ := X177.virtualBack hx (y := (⟨"com/example/stubwright/stubwright/idl/ConstValue$CharValue", "equals", "(Ljava/lang/Object;)Z"⟩ : MethodName)) (z := (⟨"com/example/stubwright/stubwright/idl/ConstValue$CharValue", "equals", "(Ljava/lang/Object;)Z"⟩ : MethodName)) hown (mvT hZ (hw _ (List.mem_of_getElem? (i := 17) rfl))) (mvT hZ (hw _ (List.mem_of_getElem? (i := 18) rfl))) (notFace_of_selects (args := #[]) (mvT hZ (hw _ (List.mem_of_getElem? (i := 20) rfl)))) (mvT hZ (hw _ (List.mem_of_getElem? (i := 20) rfl))) (mvT hZ (hw _ (List.mem_of_getElem? (i := 19) rfl))) (by decide) (backOf (W := 0) (eqNull l Z a0 hw [] wC clC G b124 T135.heap n0 O135 ) hZ (hw _ (List.mem_of_getElem? (i := 21) rfl)) (hw _ (List.mem_of_getElem? (i := 3) rfl)) (by decide) (by decide)) qq180a qq180c (g := (mkF m 129 #[iv p1, iv p2, iv p3, iv ((p1 &&& (65535 : Int32)).toUInt32.toUInt16.toUInt32.toInt32), iv (2 : Int32), iv ((p2 &&& (65535 : Int32)).toUInt32.toUInt16.toUInt32.toInt32), rv b124, rv b131, iv (0 : Int32), .unset] [.null, (.ref b124)])) rfl (by rw [hml]; rfl) (Steps.refl _) (argsL := [.null]) (rest := []) (lenOf pd_3 rfl) rfl (by show 2 * 0 + _ ≤ _; exact Nat.le_of_eq rfl) (hb hby at_129) (fun _ _ => ⟨rfl, e177, (by decide : 2 + 0 ≤ _), (by decide : 2 + 0 ≤ _)⟩)
      dsimp only [Pt.U, Pt.locs, Pt.cells, Pt.slots] at X180 l180 y180 z180 st180 hQ180
      subst l180 y180 z180
      obtain ⟨rfl, Nq180, e180⟩ := hQ180
      have N180 := Fr.app N177 Nq180
      have k181 : Way p e below S0 T180 (mkF m 132 #[iv p1, iv p2, iv p3, iv ((p1 &&& (65535 : Int32)).toUInt32.toUInt16.toUInt32.toInt32), iv (2 : Int32), iv ((p2 &&& (65535 : Int32)).toUInt32.toUInt16.toUInt32.toInt32), rv b124, rv b131, iv (0 : Int32), .unset] [(.int (0 : Int32))]) := fun t k => k179 t (st180.trans k)
      have k183 : Way p e below S0 T180 (mkF m 167 #[iv p1, iv p2, iv p3, iv ((p1 &&& (65535 : Int32)).toUInt32.toUInt16.toUInt32.toInt32), iv (2 : Int32), iv ((p2 &&& (65535 : Int32)).toUInt32.toUInt16.toUInt32.toInt32), rv b124, rv b131, iv (0 : Int32), .unset] [(.int ((p1 &&& (65535 : Int32)).toUInt32.toUInt16.toUInt32.toInt32))]) := by
        intro t k
        refine k181 t ?_
        refine XS.ifYes X180.here hx rfl (pc0 := 132) (pc' := 137) rfl (hb hby at_132) rfl ((if0 _ _).trans (teq ((by decide) : (0 : Int32) = (0 : Int32))).1) (by decide) (by decide) ?_
        show Steps p.tables e below (T180.setTop (mkF m 137 #[iv p1, iv p2, iv p3, iv ((p1 &&& (65535 : Int32)).toUInt32.toUInt16.toUInt32.toInt32), iv (2 : Int32), iv ((p2 &&& (65535 : Int32)).toUInt32.toUInt16.toUInt32.toInt32), rv b124, rv b131, iv (0 : Int32), .unset] [])) _
        refine XS.iload X180.here hx rfl (hb hby at_137) rfl ?_
        show Steps p.tables e below (T180.setTop (mkF m 139 #[iv p1, iv p2, iv p3, iv ((p1 &&& (65535 : Int32)).toUInt32.toUInt16.toUInt32.toInt32), iv (2 : Int32), iv ((p2 &&& (65535 : Int32)).toUInt32.toUInt16.toUInt32.toInt32), rv b124, rv b131, iv (0 : Int32), .unset] [(.int (2 : Int32))])) _
        refine XS.iconst X180.here hx rfl (hb hby at_139) ?_
        show Steps p.tables e below (T180.setTop (mkF m 140 #[iv p1, iv p2, iv p3, iv ((p1 &&& (65535 : Int32)).toUInt32.toUInt16.toUInt32.toInt32), iv (2 : Int32), iv ((p2 &&& (65535 : Int32)).toUInt32.toUInt16.toUInt32.toInt32), rv b124, rv b131, iv (0 : Int32), .unset] [(.int (3 : Int32)), (.int (2 : Int32))])) _
        refine XS.icmpYes X180.here hx rfl (pc0 := 140) (pc' := 166) rfl (hb hby at_140) rfl (feq ((by decide) : ¬ ((2 : Int32) = (3 : Int32)))).2 (by decide) (by decide) ?_
        show Steps p.tables e below (T180.setTop (mkF m 166 #[iv p1, iv p2, iv p3, iv ((p1 &&& (65535 : Int32)).toUInt32.toUInt16.toUInt32.toInt32), iv (2 : Int32), iv ((p2 &&& (65535 : Int32)).toUInt32.toUInt16.toUInt32.toInt32), rv b124, rv b131, iv (0 : Int32), .unset] [])) _
        refine XS.iloadN X180.here hx rfl (hb hby at_166) rfl ?_
        show Steps p.tables e below (T180.setTop (mkF m 167 #[iv p1, iv p2, iv p3, iv ((p1 &&& (65535 : Int32)).toUInt32.toUInt16.toUInt32.toInt32), iv (2 : Int32), iv ((p2 &&& (65535 : Int32)).toUInt32.toUInt16.toUInt32.toInt32), rv b124, rv b131, iv (0 : Int32), .unset] [(.int ((p1 &&& (65535 : Int32)).toUInt32.toUInt16.toUInt32.toInt32))])) _
        exact k
      by_cases hc182 : (127 : Int32) < ((p1 &&& (65535 : Int32)).toUInt32.toUInt16.toUInt32.toInt32)
      · obtain ⟨_, _, ⟨T184, L184, kk184, nn184⟩, -, X184, ⟨Lc184, hQ184, l184, y184, z184⟩, st184⟩ := Jvm.LawKit.callS X180 hx (y := (⟨"java/lang/Integer", "valueOf", "(I)Ljava/lang/Integer;"⟩ : MethodName)) hown (mvT hZ (hw _ (List.mem_of_getElem? (i := 24) rfl))) (mvT hZ (hw _ (List.mem_of_getElem? (i := 25) rfl))) (mvT hZ (hw _ (List.mem_of_getElem? (i := 26) rfl))) (mvT hZ (hw _ (List.mem_of_getElem? (i := 27) rfl))) (by decide) (backOf (W := 0) (vofNew l Z a0 hw [] wC clC G ((p1 &&& (65535 : Int32)).toUInt32.toUInt16.toUInt32.toInt32) T135.heap n0 O135 (own_i2c_lo _ : ¬ (((p1 &&& (65535 : Int32)).toUInt32.toUInt16.toUInt32.toInt32) < (-128 : Int32))) (hc182 : (127 : Int32) < ((p1 &&& (65535 : Int32)).toUInt32.toUInt16.toUInt32.toInt32))) hZ (hw _ (List.mem_of_getElem? (i := 27) rfl)) (hw _ (List.mem_of_getElem? (i := 26) rfl)) (by decide) (by decide)) (g := (mkF m 167 #[iv p1, iv p2, iv p3, iv ((p1 &&& (65535 : Int32)).toUInt32.toUInt16.toUInt32.toInt32), iv (2 : Int32), iv ((p2 &&& (65535 : Int32)).toUInt32.toUInt16.toUInt32.toInt32), rv b124, rv b131, iv (0 : Int32), .unset] [(.int ((p1 &&& (65535 : Int32)).toUInt32.toUInt16.toUInt32.toInt32))])) rfl (by rw [hml]; rfl) (argsL := [(.int ((p1 &&& (65535 : Int32)).toUInt32.toUInt16.toUInt32.toInt32))]) (rest := []) (lenOf pd_4 rfl) rfl (by show 2 * 0 + _ ≤ _; exact Nat.le_of_eq rfl) (hb hby at_167) (fun _ _ => ⟨rfl, e180, (by decide : 2 + 1 ≤ _), (by decide : 2 + 1 ≤ _)⟩)
        dsimp only [Pt.U, Pt.locs, Pt.cells, Pt.slots] at X184 l184 y184 z184 st184 hQ184
        subst l184 y184 z184
        obtain ⟨y1_184, rfl, Nq184, Kq184, po184_0, po184_1⟩ := hQ184
        have N184 := Fr.app N180 Nq184
        have O184 := O135.keep Kq184 all0
        have k185 : Way p e below S0 T184 (mkF m 170 #[iv p1, iv p2, iv p3, iv ((p1 &&& (65535 : Int32)).toUInt32.toUInt16.toUInt32.toInt32), iv (2 : Int32), iv ((p2 &&& (65535 : Int32)).toUInt32.toUInt16.toUInt32.toInt32), rv b124, rv b131, iv (0 : Int32), .unset] [(.ref y1_184)]) := fun t k => k183 t (st184 _ k)
        have k186 : Way p e below S0 T184 (mkF m 176 #[iv p1, iv p2, iv p3, iv ((p1 &&& (65535 : Int32)).toUInt32.toUInt16.toUInt32.toInt32), iv (2 : Int32), iv ((p2 &&& (65535 : Int32)).toUInt32.toUInt16.toUInt32.toInt32), rv b124, rv b131, iv (0 : Int32), rv y1_184] [(.ref y1_184), (.ref b124)]) := by
          intro t k
          refine k185 t ?_
          refine XS.astore X184.here hx rfl (hb hby at_170) rfl rfl (l' := #[iv p1, iv p2, iv p3, iv ((p1 &&& (65535 : Int32)).toUInt32.toUInt16.toUInt32.toInt32), iv (2 : Int32), iv ((p2 &&& (65535 : Int32)).toUInt32.toUInt16.toUInt32.toInt32), rv b124, rv b131, iv (0 : Int32), rv y1_184]) rfl ?_
          show Steps p.tables e below (T184.setTop (mkF m 172 #[iv p1, iv p2, iv p3, iv ((p1 &&& (65535 : Int32)).toUInt32.toUInt16.toUInt32.toInt32), iv (2 : Int32), iv ((p2 &&& (65535 : Int32)).toUInt32.toUInt16.toUInt32.toInt32), rv b124, rv b131, iv (0 : Int32), rv y1_184] [])) _
          refine XS.aload X184.here hx rfl (hb hby at_172) rfl rfl ?_
          show Steps p.tables e below (T184.setTop (mkF m 174 #[iv p1, iv p2, iv p3, iv ((p1 &&& (65535 : Int32)).toUInt32.toUInt16.toUInt32.toInt32), iv (2 : Int32), iv ((p2 &&& (65535 : Int32)).toUInt32.toUInt16.toUInt32.toInt32), rv b124, rv b131, iv (0 : Int32), rv y1_184] [(.ref b124)])) _
          refine XS.aload X184.here hx rfl (hb hby at_174) rfl rfl ?_
          show Steps p.tables e below (T184.setTop (mkF m 176 #[iv p1, iv p2, iv p3, iv ((p1 &&& (65535 : Int32)).toUInt32.toUInt16.toUInt32.toInt32), iv (2 : Int32), iv ((p2 &&& (65535 : Int32)).toUInt32.toUInt16.toUInt32.toInt32), rv b124, rv b131, iv (0 : Int32), rv y1_184] [(.ref y1_184), (.ref b124)])) _
          exact k
        have f188 : Exa Z T184.heap b124 "com/example/stubwright/stubwright/idl/ConstValue$CharValue" := (f171.keep Kq184)
        obtain ⟨cq187, kq187, qq187a, qq187b, qq187c⟩ := isOf hZ rfl f188
        obtain ⟨_, _, ⟨T187, L187, kk187, nn187⟩, -, X187, ⟨Lc187, hQ187, l187, y187, z187⟩, st187⟩ := X184.virtualBack hx (y := (⟨"com/example/stubwright/stubwright/idl/ConstValue$CharValue", "equals", "(Ljava/lang/Object;)Z"⟩ : MethodName)) (z := (⟨"com/example/stubwright/stubwright/idl/ConstValue$CharValue", "equals", "(Ljava/lang/Object;)Z"⟩ : MethodName)) hown (mvT hZ (hw _ (List.mem_of_getElem? (i := 17) rfl))) (mvT hZ (hw _ (List.mem_of_getElem? (i := 18) rfl))) (notFace_of_selects (args := #[]) (mvT hZ (hw _ (List.mem_of_getElem? (i := 20) rfl)))) (mvT hZ (hw _ (List.mem_of_getElem? (i := 20) rfl))) (mvT hZ (hw _ (List.mem_of_getElem? (i := 19) rfl))) (by decide) (backOf (W := 0) (eqOther1 l Z a0 hw [] wC clC G b124 y1_184 T184.heap n0 O184 (po184_1 : Exa Z T184.heap y1_184 "java/lang/Integer")) hZ (hw _ (List.mem_of_getElem? (i := 21) rfl)) (hw _ (List.mem_of_getElem? (i := 3) rfl)) (by decide) (by decide)) qq187a qq187c (g := (mkF m 176 #[iv p1, iv p2, iv p3, iv ((p1 &&& (65535 : Int32)).toUInt32.toUInt16.toUInt32.toInt32), iv (2 : Int32), iv ((p2 &&& (65535 : Int32)).toUInt32.toUInt16.toUInt32.toInt32), rv b124, rv b131, iv (0 : Int32), rv y1_184] [(.ref y1_184), (.ref b124)])) rfl (by rw [hml]; rfl) (Steps.refl _) (argsL := [(.ref y1_184)]) (rest := []) (lenOf pd_3 rfl) rfl (by show 2 * 0 + _ ≤ _; exact Nat.le_of_eq rfl) (hb hby at_176) (fun _ _ => ⟨rfl, rfl, (by decide : 3 + 0 ≤ _), (by decide : 3 + 0 ≤ _)⟩)
        dsimp only [Pt.U, Pt.locs, Pt.cells, Pt.slots] at X187 l187 y187 z187 st187 hQ187
        subst l187 y187 z187
        obtain ⟨rfl, Nq187, e187⟩ := hQ187
        have N187 := Fr.app N184 Nq187
        have k189 : Way p e below S0 T187 (mkF m 179 #[iv p1, iv p2, iv p3, iv ((p1 &&& (65535 : Int32)).toUInt32.toUInt16.toUInt32.toInt32), iv (2 : Int32), iv ((p2 &&& (65535 : Int32)).toUInt32.toUInt16.toUInt32.toInt32), rv b124, rv b131, iv (0 : Int32), rv y1_184] [(.int (0 : Int32))]) := fun t k => k186 t (st187.trans k)
        have k190 : Way p e below S0 T187 (mkF m 185 #[iv p1, iv p2, iv p3, iv ((p1 &&& (65535 : Int32)).toUInt32.toUInt16.toUInt32.toInt32), iv (2 : Int32), iv ((p2 &&& (65535 : Int32)).toUInt32.toUInt16.toUInt32.toInt32), rv b124, rv b131, iv (0 : Int32), rv y1_184] [(.int (1 : Int32))]) := by
          intro t k
          refine k189 t ?_
          refine XS.ifYes X187.here hx rfl (pc0 := 179) (pc' := 184) rfl (hb hby at_179) rfl ((if0 _ _).trans (teq ((by decide) : (0 : Int32) = (0 : Int32))).1) (by decide) (by decide) ?_
          show Steps p.tables e below (T187.setTop (mkF m 184 #[iv p1, iv p2, iv p3, iv ((p1 &&& (65535 : Int32)).toUInt32.toUInt16.toUInt32.toInt32), iv (2 : Int32), iv ((p2 &&& (65535 : Int32)).toUInt32.toUInt16.toUInt32.toInt32), rv b124, rv b131, iv (0 : Int32), rv y1_184] [])) _
          refine XS.iconst X187.here hx rfl (hb hby at_184) ?_
          show Steps p.tables e below (T187.setTop (mkF m 185 #[iv p1, iv p2, iv p3, iv ((p1 &&& (65535 : Int32)).toUInt32.toUInt16.toUInt32.toInt32), iv (2 : Int32), iv ((p2 &&& (65535 : Int32)).toUInt32.toUInt16.toUInt32.toInt32), rv b124, rv b131, iv (0 : Int32), rv y1_184] [(.int (1 : Int32))])) _
          exact k
        obtain ⟨fs, hr, hrun, hended, hW, hsame⟩ := X187.leave (v := some (.int (1 : Int32))) (fun h => by rw [Bd.returns] at h; cases h)
        refine ⟨_, _, k190 _ (retN X187 hx (t := .boolean) Bd.returns (by simp) (hb hby at_185) hr), hrun, hended, _, _, rfl, ?_, ⟨_, rfl⟩, hW, hsame.mono (by decide) (by decide)⟩
        show Q_law_met Z wC clC p1 p2 p3 h0 n0 _ T187.heap _
        rw [e187]
        exact ⟨rfl, N187⟩
      · obtain ⟨_, _, ⟨T191, L191, kk191, nn191⟩, -, X191, ⟨Lc191, hQ191, l191, y191, z191⟩, st191⟩ := Jvm.LawKit.callS X180 hx (y := (⟨"java/lang/Integer", "valueOf", "(I)Ljava/lang/Integer;"⟩ : MethodName)) hown (mvT hZ (hw _ (List.mem_of_getElem? (i := 24) rfl))) (mvT hZ (hw _ (List.mem_of_getElem? (i := 25) rfl))) (mvT hZ (hw _ (List.mem_of_getElem? (i := 26) rfl))) (mvT hZ (hw _ (List.mem_of_getElem? (i := 27) rfl))) (by decide) (backOf (W := 0) (vofOld l Z a0 hw [] wC clC G ((p1 &&& (65535 : Int32)).toUInt32.toUInt16.toUInt32.toInt32) T135.heap n0 O135 (own_i2c_lo _ : ¬ (((p1 &&& (65535 : Int32)).toUInt32.toUInt16.toUInt32.toInt32) < (-128 : Int32))) (hc182 : ¬ ((127 : Int32) < ((p1 &&& (65535 : Int32)).toUInt32.toUInt16.toUInt32.toInt32)))) hZ (hw _ (List.mem_of_getElem? (i := 27) rfl)) (hw _ (List.mem_of_getElem? (i := 26) rfl)) (by decide) (by decide)) (g := (mkF m 167 #[iv p1, iv p2, iv p3, iv ((p1 &&& (65535 : Int32)).toUInt32.toUInt16.toUInt32.toInt32), iv (2 : Int32), iv ((p2 &&& (65535 : Int32)).toUInt32.toUInt16.toUInt32.toInt32), rv b124, rv b131, iv (0 : Int32), .unset] [(.int ((p1 &&& (65535 : Int32)).toUInt32.toUInt16.toUInt32.toInt32))])) rfl (by rw [hml]; rfl) (argsL := [(.int ((p1 &&& (65535 : Int32)).toUInt32.toUInt16.toUInt32.toInt32))]) (rest := []) (lenOf pd_4 rfl) rfl (by show 2 * 0 + _ ≤ _; exact Nat.le_of_eq rfl) (hb hby at_167) (fun _ _ => ⟨rfl, e180, (by decide : 2 + 0 ≤ _), (by decide : 2 + 0 ≤ _)⟩)
        dsimp only [Pt.U, Pt.locs, Pt.cells, Pt.slots] at X191 l191 y191 z191 st191 hQ191
        subst l191 y191 z191
        obtain ⟨y1_191, rfl, Nq191, e191, po191_0⟩ := hQ191
        have N191 := Fr.app N180 Nq191
        rw [e191] at po191_0
        have k192 : Way p e below S0 T191 (mkF m 170 #[iv p1, iv p2, iv p3, iv ((p1 &&& (65535 : Int32)).toUInt32.toUInt16.toUInt32.toInt32), iv (2 : Int32), iv ((p2 &&& (65535 : Int32)).toUInt32.toUInt16.toUInt32.toInt32), rv b124, rv b131, iv (0 : Int32), .unset] [(.ref y1_191)]) := fun t k => k183 t (st191 _ k)
        have k193 : Way p e below S0 T191 (mkF m 176 #[iv p1, iv p2, iv p3, iv ((p1 &&& (65535 : Int32)).toUInt32.toUInt16.toUInt32.toInt32), iv (2 : Int32), iv ((p2 &&& (65535 : Int32)).toUInt32.toUInt16.toUInt32.toInt32), rv b124, rv b131, iv (0 : Int32), rv y1_191] [(.ref y1_191), (.ref b124)]) := by
          intro t k
          refine k192 t ?_
          refine XS.astore X191.here hx rfl (hb hby at_170) rfl rfl (l' := #[iv p1, iv p2, iv p3, iv ((p1 &&& (65535 : Int32)).toUInt32.toUInt16.toUInt32.toInt32), iv (2 : Int32), iv ((p2 &&& (65535 : Int32)).toUInt32.toUInt16.toUInt32.toInt32), rv b124, rv b131, iv (0 : Int32), rv y1_191]) rfl ?_
          show Steps p.tables e below (T191.setTop (mkF m 172 #[iv p1, iv p2, iv p3, iv ((p1 &&& (65535 : Int32)).toUInt32.toUInt16.toUInt32.toInt32), iv (2 : Int32), iv ((p2 &&& (65535 : Int32)).toUInt32.toUInt16.toUInt32.toInt32), rv b124, rv b131, iv (0 : Int32), rv y1_191] [])) _
          refine XS.aload X191.here hx rfl (hb hby at_172) rfl rfl ?_
          show Steps p.tables e below (T191.setTop (mkF m 174 #[iv p1, iv p2, iv p3, iv ((p1 &&& (65535 : Int32)).toUInt32.toUInt16.toUInt32.toInt32), iv (2 : Int32), iv ((p2 &&& (65535 : Int32)).toUInt32.toUInt16.toUInt32.toInt32), rv b124, rv b131, iv (0 : Int32), rv y1_191] [(.ref b124)])) _
          refine XS.aload X191.here hx rfl (hb hby at_174) rfl rfl ?_
          show Steps p.tables e below (T191.setTop (mkF m 176 #[iv p1, iv p2, iv p3, iv ((p1 &&& (65535 : Int32)).toUInt32.toUInt16.toUInt32.toInt32), iv (2 : Int32), iv ((p2 &&& (65535 : Int32)).toUInt32.toUInt16.toUInt32.toInt32), rv b124, rv b131, iv (0 : Int32), rv y1_191] [(.ref y1_191), (.ref b124)])) _
          exact k
        obtain ⟨cq194, kq194, qq194a, qq194b, qq194c⟩ := isOf hZ e191 f171
        obtain ⟨_, _, ⟨T194, L194, kk194, nn194⟩, -, X194, ⟨Lc194, hQ194, l194, y194, z194⟩, st194⟩ := X191.virtualBack hx (y := (⟨"com/example/stubwright/stubwright/idl/ConstValue$CharValue", "equals", "(Ljava/lang/Object;)Z"⟩ : MethodName)) (z := (⟨"com/example/stubwright/stubwright/idl/ConstValue$CharValue", "equals", "(Ljava/lang/Object;)Z"⟩ : MethodName)) hown (mvT hZ (hw _ (List.mem_of_getElem? (i := 17) rfl))) (mvT hZ (hw _ (List.mem_of_getElem? (i := 18) rfl))) (notFace_of_selects (args := #[]) (mvT hZ (hw _ (List.mem_of_getElem? (i := 20) rfl)))) (mvT hZ (hw _ (List.mem_of_getElem? (i := 20) rfl))) (mvT hZ (hw _ (List.mem_of_getElem? (i := 19) rfl))) (by decide) (backOf (W := 0) (eqOther1 l Z a0 hw [] wC clC G b124 y1_191 T135.heap n0 O135 (po191_0 : Exa Z T135.heap y1_191 "java/lang/Integer")) hZ (hw _ (List.mem_of_getElem? (i := 21) rfl)) (hw _ (List.mem_of_getElem? (i := 3) rfl)) (by decide) (by decide)) qq194a qq194c (g := (mkF m 176 #[iv p1, iv p2, iv p3, iv ((p1 &&& (65535 : Int32)).toUInt32.toUInt16.toUInt32.toInt32), iv (2 : Int32), iv ((p2 &&& (65535 : Int32)).toUInt32.toUInt16.toUInt32.toInt32), rv b124, rv b131, iv (0 : Int32), rv y1_191] [(.ref y1_191), (.ref b124)])) rfl (by rw [hml]; rfl) (Steps.refl _) (argsL := [(.ref y1_191)]) (rest := []) (lenOf pd_3 rfl) rfl (by show 2 * 0 + _ ≤ _; exact Nat.le_of_eq rfl) (hb hby at_176) (fun _ _ => ⟨rfl, e191, (by decide : 2 + 0 ≤ _), (by decide : 2 + 0 ≤ _)⟩)
        dsimp only [Pt.U, Pt.locs, Pt.cells, Pt.slots] at X194 l194 y194 z194 st194 hQ194
        subst l194 y194 z194
        obtain ⟨rfl, Nq194, e194⟩ := hQ194
        have N194 := Fr.app N191 Nq194
        have k195 : Way p e below S0 T194 (mkF m 179 #[iv p1, iv p2, iv p3, iv ((p1 &&& (65535 : Int32)).toUInt32.toUInt16.toUInt32.toInt32), iv (2 : Int32), iv ((p2 &&& (65535 : Int32)).toUInt32.toUInt16.toUInt32.toInt32), rv b124, rv b131, iv (0 : Int32), rv y1_191] [(.int (0 : Int32))]) := fun t k => k193 t (st194.trans k)
        have k196 : Way p e below S0 T194 (mkF m 185 #[iv p1, iv p2, iv p3, iv ((p1 &&& (65535 : Int32)).toUInt32.toUInt16.toUInt32.toInt32), iv (2 : Int32), iv ((p2 &&& (65535 : Int32)).toUInt32.toUInt16.toUInt32.toInt32), rv b124, rv b131, iv (0 : Int32), rv y1_191] [(.int (1 : Int32))]) := by
          intro t k
          refine k195 t ?_
          refine XS.ifYes X194.here hx rfl (pc0 := 179) (pc' := 184) rfl (hb hby at_179) rfl ((if0 _ _).trans (teq ((by decide) : (0 : Int32) = (0 : Int32))).1) (by decide) (by decide) ?_
          show Steps p.tables e below (T194.setTop (mkF m 184 #[iv p1, iv p2, iv p3, iv ((p1 &&& (65535 : Int32)).toUInt32.toUInt16.toUInt32.toInt32), iv (2 : Int32), iv ((p2 &&& (65535 : Int32)).toUInt32.toUInt16.toUInt32.toInt32), rv b124, rv b131, iv (0 : Int32), rv y1_191] [])) _
          refine XS.iconst X194.here hx rfl (hb hby at_184) ?_
          show Steps p.tables e below (T194.setTop (mkF m 185 #[iv p1, iv p2, iv p3, iv ((p1 &&& (65535 : Int32)).toUInt32.toUInt16.toUInt32.toInt32), iv (2 : Int32), iv ((p2 &&& (65535 : Int32)).toUInt32.toUInt16.toUInt32.toInt32), rv b124, rv b131, iv (0 : Int32), rv y1_191] [(.int (1 : Int32))])) _
          exact k
        obtain ⟨fs, hr, hrun, hended, hW, hsame⟩ := X194.leave (v := some (.int (1 : Int32))) (fun h => by rw [Bd.returns] at h; cases h)
        refine ⟨_, _, k196 _ (retN X194 hx (t := .boolean) Bd.returns (by simp) (hb hby at_185) hr), hrun, hended, _, _, rfl, ?_, ⟨_, rfl⟩, hW, hsame.mono (by decide) (by decide)⟩
        show Q_law_met Z wC clC p1 p2 p3 h0 n0 _ T194.heap _
        rw [e194]
        exact ⟨rfl, N194⟩
  · have k197 : Way p e below S0 s₁ (mkF m 11 #[iv p1, iv p2, iv p3, iv ((p1 &&& (65535 : Int32)).toUInt32.toUInt16.toUInt32.toInt32), iv (3 : Int32), .unset, .unset, .unset, .unset, .unset] []) := by have q := k1; rw [hi2] at q; exact q
    have k198 : Way p e below S0 s₁ (mkF m 52 #[iv p1, iv p2, iv p3, iv ((p1 &&& (65535 : Int32)).toUInt32.toUInt16.toUInt32.toInt32), iv (3 : Int32), iv ((p2 &&& (65535 : Int32)).toUInt32.toUInt16.toUInt32.toInt32), .unset, .unset, .unset, .unset] []) := by
      intro t k
      refine k197 t ?_
      refine XS.iload X0.here hx rfl (hb hby at_11) rfl ?_
      show Steps p.tables e below (s₁.setTop (mkF m 13 #[iv p1, iv p2, iv p3, iv ((p1 &&& (65535 : Int32)).toUInt32.toUInt16.toUInt32.toInt32), iv (3 : Int32), .unset, .unset, .unset, .unset, .unset] [(.int (3 : Int32))])) _
      refine XS.ifYes X0.here hx rfl (pc0 := 13) (pc' := 22) rfl (hb hby at_13) rfl ((if0 _ _).trans (feq ((by decide) : ¬ ((3 : Int32) = (0 : Int32)))).2) (by decide) (by decide) ?_
      show Steps p.tables e below (s₁.setTop (mkF m 22 #[iv p1, iv p2, iv p3, iv ((p1 &&& (65535 : Int32)).toUInt32.toUInt16.toUInt32.toInt32), iv (3 : Int32), .unset, .unset, .unset, .unset, .unset] [])) _
      refine XS.iload X0.here hx rfl (hb hby at_22) rfl ?_
      show Steps p.tables e below (s₁.setTop (mkF m 24 #[iv p1, iv p2, iv p3, iv ((p1 &&& (65535 : Int32)).toUInt32.toUInt16.toUInt32.toInt32), iv (3 : Int32), .unset, .unset, .unset, .unset, .unset] [(.int (3 : Int32))])) _
      refine XS.iconst X0.here hx rfl (hb hby at_24) ?_
      show Steps p.tables e below (s₁.setTop (mkF m 25 #[iv p1, iv p2, iv p3, iv ((p1 &&& (65535 : Int32)).toUInt32.toUInt16.toUInt32.toInt32), iv (3 : Int32), .unset, .unset, .unset, .unset, .unset] [(.int (1 : Int32)), (.int (3 : Int32))])) _
      refine XS.icmpYes X0.here hx rfl (pc0 := 25) (pc' := 45) rfl (hb hby at_25) rfl (feq ((by decide) : ¬ ((3 : Int32) = (1 : Int32)))).2 (by decide) (by decide) ?_
      show Steps p.tables e below (s₁.setTop (mkF m 45 #[iv p1, iv p2, iv p3, iv ((p1 &&& (65535 : Int32)).toUInt32.toUInt16.toUInt32.toInt32), iv (3 : Int32), .unset, .unset, .unset, .unset, .unset] [])) _
      refine XS.iloadN X0.here hx rfl (hb hby at_45) rfl ?_
      show Steps p.tables e below (s₁.setTop (mkF m 46 #[iv p1, iv p2, iv p3, iv ((p1 &&& (65535 : Int32)).toUInt32.toUInt16.toUInt32.toInt32), iv (3 : Int32), .unset, .unset, .unset, .unset, .unset] [(.int p2)])) _
      refine X0.ldcInt hx hown (mvT hZ (hw _ (List.mem_of_getElem? (i := 0) rfl))) (g := (mkF m 46 #[iv p1, iv p2, iv p3, iv ((p1 &&& (65535 : Int32)).toUInt32.toUInt16.toUInt32.toInt32), iv (3 : Int32), .unset, .unset, .unset, .unset, .unset] [(.int p2)])) rfl (hb hby at_46) _ ?_
      show Steps p.tables e below (s₁.setTop (mkF m 48 #[iv p1, iv p2, iv p3, iv ((p1 &&& (65535 : Int32)).toUInt32.toUInt16.toUInt32.toInt32), iv (3 : Int32), .unset, .unset, .unset, .unset, .unset] [(.int (65535 : Int32)), (.int p2)])) _
      refine XS.iand X0.here hx rfl (hb hby at_48) rfl ?_
      show Steps p.tables e below (s₁.setTop (mkF m 49 #[iv p1, iv p2, iv p3, iv ((p1 &&& (65535 : Int32)).toUInt32.toUInt16.toUInt32.toInt32), iv (3 : Int32), .unset, .unset, .unset, .unset, .unset] [(.int (p2 &&& (65535 : Int32)))])) _
      refine XS.i2c X0.here hx rfl (hb hby at_49) rfl ?_
      show Steps p.tables e below (s₁.setTop (mkF m 50 #[iv p1, iv p2, iv p3, iv ((p1 &&& (65535 : Int32)).toUInt32.toUInt16.toUInt32.toInt32), iv (3 : Int32), .unset, .unset, .unset, .unset, .unset] [(.int ((p2 &&& (65535 : Int32)).toUInt32.toUInt16.toUInt32.toInt32))])) _
      refine XS.istore X0.here hx rfl (hb hby at_50) rfl (l' := #[iv p1, iv p2, iv p3, iv ((p1 &&& (65535 : Int32)).toUInt32.toUInt16.toUInt32.toInt32), iv (3 : Int32), iv ((p2 &&& (65535 : Int32)).toUInt32.toUInt16.toUInt32.toInt32), .unset, .unset, .unset, .unset]) rfl ?_
      show Steps p.tables e below (s₁.setTop (mkF m 52 #[iv p1, iv p2, iv p3, iv ((p1 &&& (65535 : Int32)).toUInt32.toUInt16.toUInt32.toInt32), iv (3 : Int32), iv ((p2 &&& (65535 : Int32)).toUInt32.toUInt16.toUInt32.toInt32), .unset, .unset, .unset, .unset] [])) _
      exact k
    obtain ⟨T199, h199, X199, e199, E199, A199, D199, U199, st199⟩ := newO X0 hx hZ hown (hw _ (List.mem_of_getElem? (i := 1) rfl)) (hw _ (List.mem_of_getElem? (i := 2) rfl)) (hw _ (List.mem_of_getElem? (i := 3) rfl)) e0 (g := (mkF m 52 #[iv p1, iv p2, iv p3, iv ((p1 &&& (65535 : Int32)).toUInt32.toUInt16.toUInt32.toInt32), iv (3 : Int32), iv ((p2 &&& (65535 : Int32)).toUInt32.toUInt16.toUInt32.toInt32), .unset, .unset, .unset, .unset] [])) rfl (hb hby at_52) (by decide) (by decide)
    obtain ⟨b199, g199⟩ : ∃ z, z = h0.size := ⟨_, rfl⟩
    rw [← g199] at A199 D199 U199 st199
    have O199 := O0.ext E199
    have i199_value : Fld Z h199 b199 "com/example/stubwright/stubwright/idl/ConstValue$CharValue" "value" "C" (.int (0 : Int32)) := D199 (Or.inr (hw _ (List.mem_of_getElem? (i := 16) rfl))) (ty := .char) (by decide)
    have k200 : Way p e below S0 T199 (mkF m 55 #[iv p1, iv p2, iv p3, iv ((p1 &&& (65535 : Int32)).toUInt32.toUInt16.toUInt32.toInt32), iv (3 : Int32), iv ((p2 &&& (65535 : Int32)).toUInt32.toUInt16.toUInt32.toInt32), .unset, .unset, .unset, .unset] [(.ref b199)]) := fun t k => k198 t (st199 _ k)
    have k201 : Way p e below S0 T199 (mkF m 57 #[iv p1, iv p2, iv p3, iv ((p1 &&& (65535 : Int32)).toUInt32.toUInt16.toUInt32.toInt32), iv (3 : Int32), iv ((p2 &&& (65535 : Int32)).toUInt32.toUInt16.toUInt32.toInt32), .unset, .unset, .unset, .unset] [(.int ((p1 &&& (65535 : Int32)).toUInt32.toUInt16.toUInt32.toInt32)), (.ref b199), (.ref b199)]) := by
      intro t k
      refine k200 t ?_
      refine XS.dup X199.here hx rfl (hb hby at_55) rfl rfl ?_
      show Steps p.tables e below (T199.setTop (mkF m 56 #[iv p1, iv p2, iv p3, iv ((p1 &&& (65535 : Int32)).toUInt32.toUInt16.toUInt32.toInt32), iv (3 : Int32), iv ((p2 &&& (65535 : Int32)).toUInt32.toUInt16.toUInt32.toInt32), .unset, .unset, .unset, .unset] [(.ref b199), (.ref b199)])) _
      refine XS.iloadN X199.here hx rfl (hb hby at_56) rfl ?_
      show Steps p.tables e below (T199.setTop (mkF m 57 #[iv p1, iv p2, iv p3, iv ((p1 &&& (65535 : Int32)).toUInt32.toUInt16.toUInt32.toInt32), iv (3 : Int32), iv ((p2 &&& (65535 : Int32)).toUInt32.toUInt16.toUInt32.toInt32), .unset, .unset, .unset, .unset] [(.int ((p1 &&& (65535 : Int32)).toUInt32.toUInt16.toUInt32.toInt32)), (.ref b199), (.ref b199)])) _
      exact k
    have ge202 : n0 ≤ b199 := Nat.le_trans (own_old O0) (Nat.le_of_eq g199.symm)
    obtain ⟨_, _, ⟨T203, L203, kk203, nn203⟩, -, X203, ⟨Lc203, hQ203, l203, y203, z203⟩, st203⟩ := X199.specialBack hx (y := (⟨"com/example/stubwright/stubwright/idl/ConstValue$CharValue", "<init>", "(C)V"⟩ : MethodName)) rfl hown (mvT hZ (hw _ (List.mem_of_getElem? (i := 4) rfl))) (mvT hZ (hw _ (List.mem_of_getElem? (i := 5) rfl))) (mvT hZ (hw _ (List.mem_of_getElem? (i := 6) rfl))) (by decide) (backOf (W := 1) (cvInit l Z a0 hw [] wC clC G b199 ((p1 &&& (65535 : Int32)).toUInt32.toUInt16.toUInt32.toInt32) h199 n0 O199 (A199 : Exa Z h199 b199 "com/example/stubwright/stubwright/idl/ConstValue$CharValue") (i199_value : Fld Z h199 b199 "com/example/stubwright/stubwright/idl/ConstValue$CharValue" "value" "C" (.int (0 : Int32))) (ge202 : n0 ≤ b199) (own_i2c _ : ((p1 &&& (65535 : Int32)).toUInt32.toUInt16.toUInt32.toInt32).toUInt32.toUInt16.toUInt32.toInt32 = ((p1 &&& (65535 : Int32)).toUInt32.toUInt16.toUInt32.toInt32))) hZ (hw _ (List.mem_of_getElem? (i := 6) rfl)) (hw _ (List.mem_of_getElem? (i := 3) rfl)) (by decide) (by decide)) (g := (mkF m 57 #[iv p1, iv p2, iv p3, iv ((p1 &&& (65535 : Int32)).toUInt32.toUInt16.toUInt32.toInt32), iv (3 : Int32), iv ((p2 &&& (65535 : Int32)).toUInt32.toUInt16.toUInt32.toInt32), .unset, .unset, .unset, .unset] [(.int ((p1 &&& (65535 : Int32)).toUInt32.toUInt16.toUInt32.toInt32)), (.ref b199), (.ref b199)])) rfl (by rw [hml]; rfl) (Steps.refl _) (a := b199) (argsL := [(.int ((p1 &&& (65535 : Int32)).toUInt32.toUInt16.toUInt32.toInt32))]) (rest := [(.ref b199)]) (lenOf pd_2 rfl) rfl (by show 2 * 0 + _ ≤ _; exact Nat.le_of_eq rfl) (hb hby at_57) (fun _ _ => ⟨rfl, e199, (by decide : 1 + 0 ≤ _), (by decide : 1 + 0 ≤ _)⟩)
    dsimp only [Pt.U, Pt.locs, Pt.cells, Pt.slots] at X203 l203 y203 z203 st203 hQ203
    subst l203 y203 z203
    obtain ⟨rfl, Nq203, Kq203, po203_0, po203_1⟩ := hQ203
    have N203 := Fr.app N0 Nq203
    have O203 := O199.keep Kq203 (allS ge202 all0)
    have k204 : Way p e below S0 T203 (mkF m 60 #[iv p1, iv p2, iv p3, iv ((p1 &&& (65535 : Int32)).toUInt32.toUInt16.toUInt32.toInt32), iv (3 : Int32), iv ((p2 &&& (65535 : Int32)).toUInt32.toUInt16.toUInt32.toInt32), .unset, .unset, .unset, .unset] [(.ref b199)]) := fun t k => k201 t (st203.trans k)
    have k205 : Way p e below S0 T203 (mkF m 62 #[iv p1, iv p2, iv p3, iv ((p1 &&& (65535 : Int32)).toUInt32.toUInt16.toUInt32.toInt32), iv (3 : Int32), iv ((p2 &&& (65535 : Int32)).toUInt32.toUInt16.toUInt32.toInt32), rv b199, .unset, .unset, .unset] []) := by
      intro t k
      refine k204 t ?_
      refine XS.astore X203.here hx rfl (hb hby at_60) rfl rfl (l' := #[iv p1, iv p2, iv p3, iv ((p1 &&& (65535 : Int32)).toUInt32.toUInt16.toUInt32.toInt32), iv (3 : Int32), iv ((p2 &&& (65535 : Int32)).toUInt32.toUInt16.toUInt32.toInt32), rv b199, .unset, .unset, .unset]) rfl ?_
      show Steps p.tables e below (T203.setTop (mkF m 62 #[iv p1, iv p2, iv p3, iv ((p1 &&& (65535 : Int32)).toUInt32.toUInt16.toUInt32.toInt32), iv (3 : Int32), iv ((p2 &&& (65535 : Int32)).toUInt32.toUInt16.toUInt32.toInt32), rv b199, .unset, .unset, .unset] [])) _
      exact k
    obtain ⟨T206, h206, X206, e206, E206, A206, D206, U206, st206⟩ := newO X203 hx hZ hown (hw _ (List.mem_of_getElem? (i := 1) rfl)) (hw _ (List.mem_of_getElem? (i := 2) rfl)) (hw _ (List.mem_of_getElem? (i := 3) rfl)) rfl (g := (mkF m 62 #[iv p1, iv p2, iv p3, iv ((p1 &&& (65535 : Int32)).toUInt32.toUInt16.toUInt32.toInt32), iv (3 : Int32), iv ((p2 &&& (65535 : Int32)).toUInt32.toUInt16.toUInt32.toInt32), rv b199, .unset, .unset, .unset] [])) rfl (hb hby at_62) (by decide) (by decide)
    obtain ⟨b206, g206⟩ : ∃ z, z = T203.heap.size := ⟨_, rfl⟩
    rw [← g206] at A206 D206 U206 st206
    have O206 := O203.ext E206
    have i206_value : Fld Z h206 b206 "com/example/stubwright/stubwright/idl/ConstValue$CharValue" "value" "C" (.int (0 : Int32)) := D206 (Or.inr (hw _ (List.mem_of_getElem? (i := 16) rfl))) (ty := .char) (by decide)
    have k207 : Way p e below S0 T206 (mkF m 65 #[iv p1, iv p2, iv p3, iv ((p1 &&& (65535 : Int32)).toUInt32.toUInt16.toUInt32.toInt32), iv (3 : Int32), iv ((p2 &&& (65535 : Int32)).toUInt32.toUInt16.toUInt32.toInt32), rv b199, .unset, .unset, .unset] [(.ref b206)]) := fun t k => k205 t (st206 _ k)
    have k208 : Way p e below S0 T206 (mkF m 68 #[iv p1, iv p2, iv p3, iv ((p1 &&& (65535 : Int32)).toUInt32.toUInt16.toUInt32.toInt32), iv (3 : Int32), iv ((p2 &&& (65535 : Int32)).toUInt32.toUInt16.toUInt32.toInt32), rv b199, .unset, .unset, .unset] [(.int ((p2 &&& (65535 : Int32)).toUInt32.toUInt16.toUInt32.toInt32)), (.ref b206), (.ref b206)]) := by
      intro t k
      refine k207 t ?_
      refine XS.dup X206.here hx rfl (hb hby at_65) rfl rfl ?_
      show Steps p.tables e below (T206.setTop (mkF m 66 #[iv p1, iv p2, iv p3, iv ((p1 &&& (65535 : Int32)).toUInt32.toUInt16.toUInt32.toInt32), iv (3 : Int32), iv ((p2 &&& (65535 : Int32)).toUInt32.toUInt16.toUInt32.toInt32), rv b199, .unset, .unset, .unset] [(.ref b206), (.ref b206)])) _
      refine XS.iload X206.here hx rfl (hb hby at_66) rfl ?_
      show Steps p.tables e below (T206.setTop (mkF m 68 #[iv p1, iv p2, iv p3, iv ((p1 &&& (65535 : Int32)).toUInt32.toUInt16.toUInt32.toInt32), iv (3 : Int32), iv ((p2 &&& (65535 : Int32)).toUInt32.toUInt16.toUInt32.toInt32), rv b199, .unset, .unset, .unset] [(.int ((p2 &&& (65535 : Int32)).toUInt32.toUInt16.toUInt32.toInt32)), (.ref b206), (.ref b206)])) _
      exact k
    have ge209 : n0 ≤ b206 := Nat.le_trans (own_old O203) (Nat.le_of_eq g206.symm)
    obtain ⟨_, _, ⟨T210, L210, kk210, nn210⟩, -, X210, ⟨Lc210, hQ210, l210, y210, z210⟩, st210⟩ := X206.specialBack hx (y := (⟨"com/example/stubwright/stubwright/idl/ConstValue$CharValue", "<init>", "(C)V"⟩ : MethodName)) rfl hown (mvT hZ (hw _ (List.mem_of_getElem? (i := 4) rfl))) (mvT hZ (hw _ (List.mem_of_getElem? (i := 5) rfl))) (mvT hZ (hw _ (List.mem_of_getElem? (i := 6) rfl))) (by decide) (backOf (W := 1) (cvInit l Z a0 hw [] wC clC G b206 ((p2 &&& (65535 : Int32)).toUInt32.toUInt16.toUInt32.toInt32) h206 n0 O206 (A206 : Exa Z h206 b206 "com/example/stubwright/stubwright/idl/ConstValue$CharValue") (i206_value : Fld Z h206 b206 "com/example/stubwright/stubwright/idl/ConstValue$CharValue" "value" "C" (.int (0 : Int32))) (ge209 : n0 ≤ b206) (own_i2c _ : ((p2 &&& (65535 : Int32)).toUInt32.toUInt16.toUInt32.toInt32).toUInt32.toUInt16.toUInt32.toInt32 = ((p2 &&& (65535 : Int32)).toUInt32.toUInt16.toUInt32.toInt32))) hZ (hw _ (List.mem_of_getElem? (i := 6) rfl)) (hw _ (List.mem_of_getElem? (i := 3) rfl)) (by decide) (by decide)) (g := (mkF m 68 #[iv p1, iv p2, iv p3, iv ((p1 &&& (65535 : Int32)).toUInt32.toUInt16.toUInt32.toInt32), iv (3 : Int32), iv ((p2 &&& (65535 : Int32)).toUInt32.toUInt16.toUInt32.toInt32), rv b199, .unset, .unset, .unset] [(.int ((p2 &&& (65535 : Int32)).toUInt32.toUInt16.toUInt32.toInt32)), (.ref b206), (.ref b206)])) rfl (by rw [hml]; rfl) (Steps.refl _) (a := b206) (argsL := [(.int ((p2 &&& (65535 : Int32)).toUInt32.toUInt16.toUInt32.toInt32))]) (rest := [(.ref b206)]) (lenOf pd_2 rfl) rfl (by show 2 * 0 + _ ≤ _; exact Nat.le_of_eq rfl) (hb hby at_68) (fun _ _ => ⟨rfl, e206, (by decide : 2 + 0 ≤ _), (by decide : 2 + 0 ≤ _)⟩)
    dsimp only [Pt.U, Pt.locs, Pt.cells, Pt.slots] at X210 l210 y210 z210 st210 hQ210
    subst l210 y210 z210
    obtain ⟨rfl, Nq210, Kq210, po210_0, po210_1⟩ := hQ210
    have N210 := Fr.app N203 Nq210
    have O210 := O206.keep Kq210 (allS ge209 all0)
    have k211 : Way p e below S0 T210 (mkF m 71 #[iv p1, iv p2, iv p3, iv ((p1 &&& (65535 : Int32)).toUInt32.toUInt16.toUInt32.toInt32), iv (3 : Int32), iv ((p2 &&& (65535 : Int32)).toUInt32.toUInt16.toUInt32.toInt32), rv b199, .unset, .unset, .unset] [(.ref b206)]) := fun t k => k208 t (st210.trans k)
    have k213 : Way p e below S0 T210 (mkF m 76 #[iv p1, iv p2, iv p3, iv ((p1 &&& (65535 : Int32)).toUInt32.toUInt16.toUInt32.toInt32), iv (3 : Int32), iv ((p2 &&& (65535 : Int32)).toUInt32.toUInt16.toUInt32.toInt32), rv b199, rv b206, .unset, .unset] [(.int ((p2 &&& (65535 : Int32)).toUInt32.toUInt16.toUInt32.toInt32)), (.int ((p1 &&& (65535 : Int32)).toUInt32.toUInt16.toUInt32.toInt32))]) := by
      intro t k
      refine k211 t ?_
      refine XS.astore X210.here hx rfl (hb hby at_71) rfl rfl (l' := #[iv p1, iv p2, iv p3, iv ((p1 &&& (65535 : Int32)).toUInt32.toUInt16.toUInt32.toInt32), iv (3 : Int32), iv ((p2 &&& (65535 : Int32)).toUInt32.toUInt16.toUInt32.toInt32), rv b199, rv b206, .unset, .unset]) rfl ?_
      show Steps p.tables e below (T210.setTop (mkF m 73 #[iv p1, iv p2, iv p3, iv ((p1 &&& (65535 : Int32)).toUInt32.toUInt16.toUInt32.toInt32), iv (3 : Int32), iv ((p2 &&& (65535 : Int32)).toUInt32.toUInt16.toUInt32.toInt32), rv b199, rv b206, .unset, .unset] [])) _
      refine XS.iloadN X210.here hx rfl (hb hby at_73) rfl ?_
      show Steps p.tables e below (T210.setTop (mkF m 74 #[iv p1, iv p2, iv p3, iv ((p1 &&& (65535 : Int32)).toUInt32.toUInt16.toUInt32.toInt32), iv (3 : Int32), iv ((p2 &&& (65535 : Int32)).toUInt32.toUInt16.toUInt32.toInt32), rv b199, rv b206, .unset, .unset] [(.int ((p1 &&& (65535 : Int32)).toUInt32.toUInt16.toUInt32.toInt32))])) _
      refine XS.iload X210.here hx rfl (hb hby at_74) rfl ?_
      show Steps p.tables e below (T210.setTop (mkF m 76 #[iv p1, iv p2, iv p3, iv ((p1 &&& (65535 : Int32)).toUInt32.toUInt16.toUInt32.toInt32), iv (3 : Int32), iv ((p2 &&& (65535 : Int32)).toUInt32.toUInt16.toUInt32.toInt32), rv b199, rv b206, .unset, .unset] [(.int ((p2 &&& (65535 : Int32)).toUInt32.toUInt16.toUInt32.toInt32)), (.int ((p1 &&& (65535 : Int32)).toUInt32.toUInt16.toUInt32.toInt32))])) _
      exact k
    by_cases hc212 : ((p1 &&& (65535 : Int32)).toUInt32.toUInt16.toUInt32.toInt32) = ((p2 &&& (65535 : Int32)).toUInt32.toUInt16.toUInt32.toInt32)
    · have k214 : Way p e below S0 T210 (mkF m 90 #[iv p1, iv p2, iv p3, iv ((p1 &&& (65535 : Int32)).toUInt32.toUInt16.toUInt32.toInt32), iv (3 : Int32), iv ((p2 &&& (65535 : Int32)).toUInt32.toUInt16.toUInt32.toInt32), rv b199, rv b206, iv (1 : Int32), .unset] [(.ref b206), (.ref b199)]) := by
        intro t k
        refine k213 t ?_
        refine XS.icmpNo X210.here hx rfl (hb hby at_76) rfl (teq (hc212 : ((p1 &&& (65535 : Int32)).toUInt32.toUInt16.toUInt32.toInt32) = ((p2 &&& (65535 : Int32)).toUInt32.toUInt16.toUInt32.toInt32))).2 ?_
        show Steps p.tables e below (T210.setTop (mkF m 79 #[iv p1, iv p2, iv p3, iv ((p1 &&& (65535 : Int32)).toUInt32.toUInt16.toUInt32.toInt32), iv (3 : Int32), iv ((p2 &&& (65535 : Int32)).toUInt32.toUInt16.toUInt32.toInt32), rv b199, rv b206, .unset, .unset] [])) _
        refine XS.iconst X210.here hx rfl (hb hby at_79) ?_
        show Steps p.tables e below (T210.setTop (mkF m 80 #[iv p1, iv p2, iv p3, iv ((p1 &&& (65535 : Int32)).toUInt32.toUInt16.toUInt32.toInt32), iv (3 : Int32), iv ((p2 &&& (65535 : Int32)).toUInt32.toUInt16.toUInt32.toInt32), rv b199, rv b206, .unset, .unset] [(.int (1 : Int32))])) _
        refine XS.goto X210.here hx rfl (pc0 := 80) (pc' := 84) rfl (hb hby at_80) (by decide) (by decide) ?_
        show Steps p.tables e below (T210.setTop (mkF m 84 #[iv p1, iv p2, iv p3, iv ((p1 &&& (65535 : Int32)).toUInt32.toUInt16.toUInt32.toInt32), iv (3 : Int32), iv ((p2 &&& (65535 : Int32)).toUInt32.toUInt16.toUInt32.toInt32), rv b199, rv b206, .unset, .unset] [(.int (1 : Int32))])) _
        refine XS.istore X210.here hx rfl (hb hby at_84) rfl (l' := #[iv p1, iv p2, iv p3, iv ((p1 &&& (65535 : Int32)).toUInt32.toUInt16.toUInt32.toInt32), iv (3 : Int32), iv ((p2 &&& (65535 : Int32)).toUInt32.toUInt16.toUInt32.toInt32), rv b199, rv b206, iv (1 : Int32), .unset]) rfl ?_
        show Steps p.tables e below (T210.setTop (mkF m 86 #[iv p1, iv p2, iv p3, iv ((p1 &&& (65535 : Int32)).toUInt32.toUInt16.toUInt32.toInt32), iv (3 : Int32), iv ((p2 &&& (65535 : Int32)).toUInt32.toUInt16.toUInt32.toInt32), rv b199, rv b206, iv (1 : Int32), .unset] [])) _
        refine XS.aload X210.here hx rfl (hb hby at_86) rfl rfl ?_
        show Steps p.tables e below (T210.setTop (mkF m 88 #[iv p1, iv p2, iv p3, iv ((p1 &&& (65535 : Int32)).toUInt32.toUInt16.toUInt32.toInt32), iv (3 : Int32), iv ((p2 &&& (65535 : Int32)).toUInt32.toUInt16.toUInt32.toInt32), rv b199, rv b206, iv (1 : Int32), .unset] [(.ref b199)])) _
        refine XS.aload X210.here hx rfl (hb hby at_88) rfl rfl ?_
        show Steps p.tables e below (T210.setTop (mkF m 90 #[iv p1, iv p2, iv p3, iv ((p1 &&& (65535 : Int32)).toUInt32.toUInt16.toUInt32.toInt32), iv (3 : Int32), iv ((p2 &&& (65535 : Int32)).toUInt32.toUInt16.toUInt32.toInt32), rv b199, rv b206, iv (1 : Int32), .unset] [(.ref b206), (.ref b199)])) _
        exact k
      have f215 : Fld Z T210.heap b199 "com/example/stubwright/stubwright/idl/ConstValue$CharValue" "value" "C" (.int ((p1 &&& (65535 : Int32)).toUInt32.toUInt16.toUInt32.toInt32)) := ((po203_1.ext E206).keep Kq210 (ninS (Nat.ne_of_lt (Nat.lt_of_lt_of_le po203_0.lt (Nat.le_of_eq g206.symm))) nin0))
      have f217 : Exa Z T210.heap b199 "com/example/stubwright/stubwright/idl/ConstValue$CharValue" := ((po203_0.ext E206).keep Kq210)
      obtain ⟨cq216, kq216, qq216a, qq216b, qq216c⟩ := isOf hZ rfl f217
      obtain ⟨_, _, ⟨T216, L216, kk216, nn216⟩, -, X216, ⟨Lc216, hQ216, l216, y216, z216⟩, st216⟩ := X210.virtualBack hx (y := (⟨"com/example/stubwright/stubwright/idl/ConstValue$CharValue", "equals", "(Ljava/lang/Object;)Z"⟩ : MethodName)) (z := (⟨"com/example/stubwright/stubwright/idl/ConstValue$CharValue", "equals", "(Ljava/lang/Object;)Z"⟩ : MethodName)) hown (mvT hZ (hw _ (List.mem_of_getElem? (i := 17) rfl))) (mvT hZ (hw _ (List.mem_of_getElem? (i := 18) rfl))) (notFace_of_selects (args := #[]) (mvT hZ (hw _ (List.mem_of_getElem? (i := 20) rfl)))) (mvT hZ (hw _ (List.mem_of_getElem? (i := 20) rfl))) (mvT hZ (hw _ (List.mem_of_getElem? (i := 19) rfl))) (by decide) (backOf (W := 0) (eqT l Z a0 hw [] wC clC G b199 b206 ((p1 &&& (65535 : Int32)).toUInt32.toUInt16.toUInt32.toInt32) ((p2 &&& (65535 : Int32)).toUInt32.toUInt16.toUInt32.toInt32) T210.heap n0 O210 (po210_0 : Exa Z T210.heap b206 "com/example/stubwright/stubwright/idl/ConstValue$CharValue") (f215 : Fld Z T210.heap b199 "com/example/stubwright/stubwright/idl/ConstValue$CharValue" "value" "C" (.int ((p1 &&& (65535 : Int32)).toUInt32.toUInt16.toUInt32.toInt32))) (po210_1 : Fld Z T210.heap b206 "com/example/stubwright/stubwright/idl/ConstValue$CharValue" "value" "C" (.int ((p2 &&& (65535 : Int32)).toUInt32.toUInt16.toUInt32.toInt32))) (hc212 : ((p1 &&& (65535 : Int32)).toUInt32.toUInt16.toUInt32.toInt32) = ((p2 &&& (65535 : Int32)).toUInt32.toUInt16.toUInt32.toInt32))) hZ (hw _ (List.mem_of_getElem? (i := 21) rfl)) (hw _ (List.mem_of_getElem? (i := 3) rfl)) (by decide) (by decide)) qq216a qq216c (g := (mkF m 90 #[iv p1, iv p2, iv p3, iv ((p1 &&& (65535 : Int32)).toUInt32.toUInt16.toUInt32.toInt32), iv (3 : Int32), iv ((p2 &&& (65535 : Int32)).toUInt32.toUInt16.toUInt32.toInt32), rv b199, rv b206, iv (1 : Int32), .unset] [(.ref b206), (.ref b199)])) rfl (by rw [hml]; rfl) (Steps.refl _) (argsL := [(.ref b206)]) (rest := []) (lenOf pd_3 rfl) rfl (by show 2 * 0 + _ ≤ _; exact Nat.le_of_eq rfl) (hb hby at_90) (fun _ _ => ⟨rfl, rfl, (by decide : 2 + 0 ≤ _), (by decide : 2 + 0 ≤ _)⟩)
      dsimp only [Pt.U, Pt.locs, Pt.cells, Pt.slots] at X216 l216 y216 z216 st216 hQ216
      subst l216 y216 z216
      obtain ⟨rfl, Nq216, e216⟩ := hQ216
      have N216 := Fr.app N210 Nq216
      have k218 : Way p e below S0 T216 (mkF m 93 #[iv p1, iv p2, iv p3, iv ((p1 &&& (65535 : Int32)).toUInt32.toUInt16.toUInt32.toInt32), iv (3 : Int32), iv ((p2 &&& (65535 : Int32)).toUInt32.toUInt16.toUInt32.toInt32), rv b199, rv b206, iv (1 : Int32), .unset] [(.int (1 : Int32))]) := fun t k => k214 t (st216.trans k)
      have k219 : Way p e below S0 T216 (mkF m 104 #[iv p1, iv p2, iv p3, iv ((p1 &&& (65535 : Int32)).toUInt32.toUInt16.toUInt32.toInt32), iv (3 : Int32), iv ((p2 &&& (65535 : Int32)).toUInt32.toUInt16.toUInt32.toInt32), rv b199, rv b206, iv (1 : Int32), .unset] [(.ref b199), (.ref b206)]) := by
        intro t k
        refine k218 t ?_
        refine XS.iload X216.here hx rfl (hb hby at_93) rfl ?_
        show Steps p.tables e below (T216.setTop (mkF m 95 #[iv p1, iv p2, iv p3, iv ((p1 &&& (65535 : Int32)).toUInt32.toUInt16.toUInt32.toInt32), iv (3 : Int32), iv ((p2 &&& (65535 : Int32)).toUInt32.toUInt16.toUInt32.toInt32), rv b199, rv b206, iv (1 : Int32), .unset] [(.int (1 : Int32)), (.int (1 : Int32))])) _
        refine XS.icmpYes X216.here hx rfl (pc0 := 95) (pc' := 100) rfl (hb hby at_95) rfl (teq ((by decide) : (1 : Int32) = (1 : Int32))).1 (by decide) (by decide) ?_
        show Steps p.tables e below (T216.setTop (mkF m 100 #[iv p1, iv p2, iv p3, iv ((p1 &&& (65535 : Int32)).toUInt32.toUInt16.toUInt32.toInt32), iv (3 : Int32), iv ((p2 &&& (65535 : Int32)).toUInt32.toUInt16.toUInt32.toInt32), rv b199, rv b206, iv (1 : Int32), .unset] [])) _
        refine XS.aload X216.here hx rfl (hb hby at_100) rfl rfl ?_
        show Steps p.tables e below (T216.setTop (mkF m 102 #[iv p1, iv p2, iv p3, iv ((p1 &&& (65535 : Int32)).toUInt32.toUInt16.toUInt32.toInt32), iv (3 : Int32), iv ((p2 &&& (65535 : Int32)).toUInt32.toUInt16.toUInt32.toInt32), rv b199, rv b206, iv (1 : Int32), .unset] [(.ref b206)])) _
        refine XS.aload X216.here hx rfl (hb hby at_102) rfl rfl ?_
        show Steps p.tables e below (T216.setTop (mkF m 104 #[iv p1, iv p2, iv p3, iv ((p1 &&& (65535 : Int32)).toUInt32.toUInt16.toUInt32.toInt32), iv (3 : Int32), iv ((p2 &&& (65535 : Int32)).toUInt32.toUInt16.toUInt32.toInt32), rv b199, rv b206, iv (1 : Int32), .unset] [(.ref b199), (.ref b206)])) _
        exact k
      obtain ⟨cq220, kq220, qq220a, qq220b, qq220c⟩ := isOf hZ e216 po210_0
      obtain ⟨_, _, ⟨T220, L220, kk220, nn220⟩, -, X220, ⟨Lc220, hQ220, l220, y220, z220⟩, st220⟩ := X216.virtualBack hx (y := (⟨"com/example/stubwright/stubwright/idl/ConstValue$CharValue", "equals", "(Ljava/lang/Object;)Z"⟩ : MethodName)) (z := (⟨"com/example/stubwright/stubwright/idl/ConstValue$CharValue", "equals", "(Ljava/lang/Object;)Z"⟩ : MethodName)) hown (mvT hZ (hw _ (List.mem_of_getElem? (i := 17) rfl))) (mvT hZ (hw _ (List.mem_of_getElem? (i := 18) rfl))) (notFace_of_selects (args := #[]) (mvT hZ (hw _ (List.mem_of_getElem? (i := 20) rfl)))) (mvT hZ (hw _ (List.mem_of_getElem? (i := 20) rfl))) (mvT hZ (hw _ (List.mem_of_getElem? (i := 19) rfl))) (by decide) (backOf (W := 0) (eqT l Z a0 hw [] wC clC G b206 b199 ((p2 &&& (65535 : Int32)).toUInt32.toUInt16.toUInt32.toInt32) ((p1 &&& (65535 : Int32)).toUInt32.toUInt16.toUInt32.toInt32) T210.heap n0 O210 (f217 : Exa Z T210.heap b199 "com/example/stubwright/stubwright/idl/ConstValue$CharValue") (po210_1 : Fld Z T210.heap b206 "com/example/stubwright/stubwright/idl/ConstValue$CharValue" "value" "C" (.int ((p2 &&& (65535 : Int32)).toUInt32.toUInt16.toUInt32.toInt32))) (f215 : Fld Z T210.heap b199 "com/example/stubwright/stubwright/idl/ConstValue$CharValue" "value" "C" (.int ((p1 &&& (65535 : Int32)).toUInt32.toUInt16.toUInt32.toInt32))) (Eq.symm hc212 : ((p2 &&& (65535 : Int32)).toUInt32.toUInt16.toUInt32.toInt32) = ((p1 &&& (65535 : Int32)).toUInt32.toUInt16.toUInt32.toInt32))) hZ (hw _ (List.mem_of_getElem? (i := 21) rfl)) (hw _ (List.mem_of_getElem? (i := 3) rfl)) (by decide) (by decide)) qq220a qq220c (g := (mkF m 104 #[iv p1, iv p2, iv p3, iv ((p1 &&& (65535 : Int32)).toUInt32.toUInt16.toUInt32.toInt32), iv (3 : Int32), iv ((p2 &&& (65535 : Int32)).toUInt32.toUInt16.toUInt32.toInt32), rv b199, rv b206, iv (1 : Int32), .unset] [(.ref b199), (.ref b206)])) rfl (by rw [hml]; rfl) (Steps.refl _) (argsL := [(.ref b199)]) (rest := []) (lenOf pd_3 rfl) rfl (by show 2 * 0 + _ ≤ _; exact Nat.le_of_eq rfl) (hb hby at_104) (fun _ _ => ⟨rfl, e216, (by decide : 2 + 0 ≤ _), (by decide : 2 + 0 ≤ _)⟩)
      dsimp only [Pt.U, Pt.locs, Pt.cells, Pt.slots] at X220 l220 y220 z220 st220 hQ220
      subst l220 y220 z220
      obtain ⟨rfl, Nq220, e220⟩ := hQ220
      have N220 := Fr.app N216 Nq220
      have k221 : Way p e below S0 T220 (mkF m 107 #[iv p1, iv p2, iv p3, iv ((p1 &&& (65535 : Int32)).toUInt32.toUInt16.toUInt32.toInt32), iv (3 : Int32), iv ((p2 &&& (65535 : Int32)).toUInt32.toUInt16.toUInt32.toInt32), rv b199, rv b206, iv (1 : Int32), .unset] [(.int (1 : Int32))]) := fun t k => k219 t (st220.trans k)
      have k222 : Way p e below S0 T220 (mkF m 118 #[iv p1, iv p2, iv p3, iv ((p1 &&& (65535 : Int32)).toUInt32.toUInt16.toUInt32.toInt32), iv (3 : Int32), iv ((p2 &&& (65535 : Int32)).toUInt32.toUInt16.toUInt32.toInt32), rv b199, rv b206, iv (1 : Int32), .unset] [(.ref b199), (.ref b199)]) := by
        intro t k
        refine k221 t ?_
        refine XS.iload X220.here hx rfl (hb hby at_107) rfl ?_
        show Steps p.tables e below (T220.setTop (mkF m 109 #[iv p1, iv p2, iv p3, iv ((p1 &&& (65535 : Int32)).toUInt32.toUInt16.toUInt32.toInt32), iv (3 : Int32), iv ((p2 &&& (65535 : Int32)).toUInt32.toUInt16.toUInt32.toInt32), rv b199, rv b206, iv (1 : Int32), .unset] [(.int (1 : Int32)), (.int (1 : Int32))])) _
        refine XS.icmpYes X220.here hx rfl (pc0 := 109) (pc' := 114) rfl (hb hby at_109) rfl (teq ((by decide) : (1 : Int32) = (1 : Int32))).1 (by decide) (by decide) ?_
        show Steps p.tables e below (T220.setTop (mkF m 114 #[iv p1, iv p2, iv p3, iv ((p1 &&& (65535 : Int32)).toUInt32.toUInt16.toUInt32.toInt32), iv (3 : Int32), iv ((p2 &&& (65535 : Int32)).toUInt32.toUInt16.toUInt32.toInt32), rv b199, rv b206, iv (1 : Int32), .unset] [])) _
        refine XS.aload X220.here hx rfl (hb hby at_114) rfl rfl ?_
        show Steps p.tables e below (T220.setTop (mkF m 116 #[iv p1, iv p2, iv p3, iv ((p1 &&& (65535 : Int32)).toUInt32.toUInt16.toUInt32.toInt32), iv (3 : Int32), iv ((p2 &&& (65535 : Int32)).toUInt32.toUInt16.toUInt32.toInt32), rv b199, rv b206, iv (1 : Int32), .unset] [(.ref b199)])) _
        refine XS.aload X220.here hx rfl (hb hby at_116) rfl rfl ?_
        show Steps p.tables e below (T220.setTop (mkF m 118 #[iv p1, iv p2, iv p3, iv ((p1 &&& (65535 : Int32)).toUInt32.toUInt16.toUInt32.toInt32), iv (3 : Int32), iv ((p2 &&& (65535 : Int32)).toUInt32.toUInt16.toUInt32.toInt32), rv b199, rv b206, iv (1 : Int32), .unset] [(.ref b199), (.ref b199)])) _
        exact k
      obtain ⟨cq223, kq223, qq223a, qq223b, qq223c⟩ := isOf hZ e220 f217
      obtain ⟨_, _, ⟨T223, L223, kk223, nn223⟩, -, X223, ⟨Lc223, hQ223, l223, y223, z223⟩, st223⟩ := X220.virtualBack hx (y := (⟨"com/example/stubwright/stubwright/idl/ConstValue$CharValue", "equals", "(Ljava/lang/Object;)Z"⟩ : MethodName)) (z := (⟨"com/example/stubwright/stubwright/idl/ConstValue$CharValue", "equals", "(Ljava/lang/Object;)Z"⟩ : MethodName)) hown (mvT hZ (hw _ (List.mem_of_getElem? (i := 17) rfl))) (mvT hZ (hw _ (List.mem_of_getElem? (i := 18) rfl))) (notFace_of_selects (args := #[]) (mvT hZ (hw _ (List.mem_of_getElem? (i := 20) rfl)))) (mvT hZ (hw _ (List.mem_of_getElem? (i := 20) rfl))) (mvT hZ (hw _ (List.mem_of_getElem? (i := 19) rfl))) (by decide) (backOf (W := 0) (eqT l Z a0 hw [] wC clC G b199 b199 ((p1 &&& (65535 : Int32)).toUInt32.toUInt16.toUInt32.toInt32) ((p1 &&& (65535 : Int32)).toUInt32.toUInt16.toUInt32.toInt32) T210.heap n0 O210 (f217 : Exa Z T210.heap b199 "com/example/stubwright/stubwright/idl/ConstValue$CharValue") (f215 : Fld Z T210.heap b199 "com/example/stubwright/stubwright/idl/ConstValue$CharValue" "value" "C" (.int ((p1 &&& (65535 : Int32)).toUInt32.toUInt16.toUInt32.toInt32))) (f215 : Fld Z T210.heap b199 "com/example/stubwright/stubwright/idl/ConstValue$CharValue" "value" "C" (.int ((p1 &&& (65535 : Int32)).toUInt32.toUInt16.toUInt32.toInt32))) (rfl : ((p1 &&& (65535 : Int32)).toUInt32.toUInt16.toUInt32.toInt32) = ((p1 &&& (65535 : Int32)).toUInt32.toUInt16.toUInt32.toInt32))) hZ (hw _ (List.mem_of_getElem? (i := 21) rfl)) (hw _ (List.mem_of_getElem? (i := 3) rfl)) (by decide) (by decide)) qq223a qq223c (g := (mkF m 118 #[iv p1, iv p2, iv p3, iv ((p1 &&& (65535 : Int32)).toUInt32.toUInt16.toUInt32.toInt32), iv (3 : Int32), iv ((p2 &&& (65535 : Int32)).toUInt32.toUInt16.toUInt32.toInt32), rv b199, rv b206, iv (1 : Int32), .unset] [(.ref b199), (.ref b199)])) rfl (by rw [hml]; rfl) (Steps.refl _) (argsL := [(.ref b199)]) (rest := []) (lenOf pd_3 rfl) rfl (by show 2 * 0 + _ ≤ _; exact Nat.le_of_eq rfl) (hb hby at_118) (fun _ _ => ⟨rfl, e220, (by decide : 2 + 0 ≤ _), (by decide : 2 + 0 ≤ _)⟩)
      dsimp only [Pt.U, Pt.locs, Pt.cells, Pt.slots] at X223 l223 y223 z223 st223 hQ223
      subst l223 y223 z223
      obtain ⟨rfl, Nq223, e223⟩ := hQ223
      have N223 := Fr.app N220 Nq223
      have k224 : Way p e below S0 T223 (mkF m 121 #[iv p1, iv p2, iv p3, iv ((p1 &&& (65535 : Int32)).toUInt32.toUInt16.toUInt32.toInt32), iv (3 : Int32), iv ((p2 &&& (65535 : Int32)).toUInt32.toUInt16.toUInt32.toInt32), rv b199, rv b206, iv (1 : Int32), .unset] [(.int (1 : Int32))]) := fun t k => k222 t (st223.trans k)
      have k225 : Way p e below S0 T223 (mkF m 129 #[iv p1, iv p2, iv p3, iv ((p1 &&& (65535 : Int32)).toUInt32.toUInt16.toUInt32.toInt32), iv (3 : Int32), iv ((p2 &&& (65535 : Int32)).toUInt32.toUInt16.toUInt32.toInt32), rv b199, rv b206, iv (1 : Int32), .unset] [.null, (.ref b199)]) := by
        intro t k
        refine k224 t ?_
        refine XS.ifYes X223.here hx rfl (pc0 := 121) (pc' := 126) rfl (hb hby at_121) rfl ((if0 _ _).trans (feq ((by decide) : ¬ ((1 : Int32) = (0 : Int32)))).2) (by decide) (by decide) ?_
        show Steps p.tables e below (T223.setTop (mkF m 126 #[iv p1, iv p2, iv p3, iv ((p1 &&& (65535 : Int32)).toUInt32.toUInt16.toUInt32.toInt32), iv (3 : Int32), iv ((p2 &&& (65535 : Int32)).toUInt32.toUInt16.toUInt32.toInt32), rv b199, rv b206, iv (1 : Int32), .unset] [])) _
        refine XS.aload X223.here hx rfl (hb hby at_126) rfl rfl ?_
        show Steps p.tables e below (T223.setTop (mkF m 128 #[iv p1, iv p2, iv p3, iv ((p1 &&& (65535 : Int32)).toUInt32.toUInt16.toUInt32.toInt32), iv (3 : Int32), iv ((p2 &&& (65535 : Int32)).toUInt32.toUInt16.toUInt32.toInt32), rv b199, rv b206, iv (1 : Int32), .unset] [(.ref b199)])) _
        refine XS.aconstNull X223.here hx rfl (hb hby at_128) ?_
        show Steps p.tables e below (T223.setTop (mkF m 129 #[iv p1, iv p2, iv p3, iv ((p1 &&& (65535 : Int32)).toUInt32.toUInt16.toUInt32.toInt32), iv (3 : Int32), iv ((p2 &&& (65535 : Int32)).toUInt32.toUInt16.toUInt32.toInt32), rv b199, rv b206, iv (1 : Int32), .unset] [.null, (.ref b199)])) _
        exact k
      obtain ⟨cq226, kq226, qq226a, qq226b, qq226c⟩ := isOf hZ e223 f217
      obtain ⟨_, _, ⟨T226, L226, kk226, nn226⟩, -, X226, ⟨Lc226, hQ226, l226, y226, z226⟩, st226⟩ := X223.virtualBack hx (y := (⟨"com/example/stubwright/stubwright/idl/ConstValue$CharValue", "equals", "(Ljava/lang/Object;)Z"⟩ : MethodName)) (z := (⟨"com/example/stubwright/stubwright/idl/ConstValue$CharValue", "equals", "(Ljava/lang/Object;)Z"⟩ : MethodName)) hown (mvT hZ (hw _ (List.mem_of_getElem? (i := 17) rfl))) (mvT hZ (hw _ (List.mem_of_getElem? (i := 18) rfl))) (notFace_of_selects (args := #[]) (mvT hZ (hw _ (List.mem_of_getElem? (i := 20) rfl)))) (mvT hZ (hw _ (List.mem_of_getElem? (i := 20) rfl))) (mvT hZ (hw _ (List.mem_of_getElem? (i := 19) rfl))) (by decide) (backOf (W := 0) (eqNull l Z a0 hw [] wC clC G b199 T210.heap n0 O210 ) hZ (hw _ (List.mem_of_getElem? (i := 21) rfl)) (hw _ (List.mem_of_getElem? (i := 3) rfl)) (by decide) (by decide)) qq226a qq226c (g := (mkF m 129 #[iv p1, iv p2, iv p3, iv ((p1 &&& (65535 : Int32)).toUInt32.toUInt16.toUInt32.toInt32), iv (3 : Int32), iv ((p2 &&& (65535 : Int32)).toUInt32.toUInt16.toUInt32.toInt32), rv b199, rv b206, iv (1 : Int32), .unset] [.null, (.ref b199)])) rfl (by rw [hml]; rfl) (Steps.refl _) (argsL := [.null]) (rest := []) (lenOf pd_3 rfl) rfl (by show 2 * 0 + _ ≤ _; exact Nat.le_of_eq rfl) (hb hby at_129) (fun _ _ => ⟨rfl, e223, (by decide : 2 + 0 ≤ _), (by decide : 2 + 0 ≤ _)⟩)
      dsimp only [Pt.U, Pt.locs, Pt.cells, Pt.slots] at X226 l226 y226 z226 st226 hQ226
      subst l226 y226 z226
      obtain ⟨rfl, Nq226, e226⟩ := hQ226
      have N226 := Fr.app N223 Nq226
      have k227 : Way p e below S0 T226 (mkF m 132 #[iv p1, iv p2, iv p3, iv ((p1 &&& (65535 : Int32)).toUInt32.toUInt16.toUInt32.toInt32), iv (3 : Int32), iv ((p2 &&& (65535 : Int32)).toUInt32.toUInt16.toUInt32.toInt32), rv b199, rv b206, iv (1 : Int32), .unset] [(.int (0 : Int32))]) := fun t k => k225 t (st226.trans k)
      have k228 : Way p e below S0 T226 (mkF m 143 #[iv p1, iv p2, iv p3, iv ((p1 &&& (65535 : Int32)).toUInt32.toUInt16.toUInt32.toInt32), iv (3 : Int32), iv ((p2 &&& (65535 : Int32)).toUInt32.toUInt16.toUInt32.toInt32), rv b199, rv b206, iv (1 : Int32), .unset] []) := by
        intro t k
        refine k227 t ?_
        refine XS.ifYes X226.here hx rfl (pc0 := 132) (pc' := 137) rfl (hb hby at_132) rfl ((if0 _ _).trans (teq ((by decide) : (0 : Int32) = (0 : Int32))).1) (by decide) (by decide) ?_
        show Steps p.tables e below (T226.setTop (mkF m 137 #[iv p1, iv p2, iv p3, iv ((p1 &&& (65535 : Int32)).toUInt32.toUInt16.toUInt32.toInt32), iv (3 : Int32), iv ((p2 &&& (65535 : Int32)).toUInt32.toUInt16.toUInt32.toInt32), rv b199, rv b206, iv (1 : Int32), .unset] [])) _
        refine XS.iload X226.here hx rfl (hb hby at_137) rfl ?_
        show Steps p.tables e below (T226.setTop (mkF m 139 #[iv p1, iv p2, iv p3, iv ((p1 &&& (65535 : Int32)).toUInt32.toUInt16.toUInt32.toInt32), iv (3 : Int32), iv ((p2 &&& (65535 : Int32)).toUInt32.toUInt16.toUInt32.toInt32), rv b199, rv b206, iv (1 : Int32), .unset] [(.int (3 : Int32))])) _
        refine XS.iconst X226.here hx rfl (hb hby at_139) ?_
        show Steps p.tables e below (T226.setTop (mkF m 140 #[iv p1, iv p2, iv p3, iv ((p1 &&& (65535 : Int32)).toUInt32.toUInt16.toUInt32.toInt32), iv (3 : Int32), iv ((p2 &&& (65535 : Int32)).toUInt32.toUInt16.toUInt32.toInt32), rv b199, rv b206, iv (1 : Int32), .unset] [(.int (3 : Int32)), (.int (3 : Int32))])) _
        refine XS.icmpNo X226.here hx rfl (hb hby at_140) rfl (teq ((by decide) : (3 : Int32) = (3 : Int32))).2 ?_
        show Steps p.tables e below (T226.setTop (mkF m 143 #[iv p1, iv p2, iv p3, iv ((p1 &&& (65535 : Int32)).toUInt32.toUInt16.toUInt32.toInt32), iv (3 : Int32), iv ((p2 &&& (65535 : Int32)).toUInt32.toUInt16.toUInt32.toInt32), rv b199, rv b206, iv (1 : Int32), .unset] [])) _
        exact k
      obtain ⟨T229, h229, X229, e229, E229, A229, D229, U229, st229⟩ := newO X226 hx hZ hown (hw _ (List.mem_of_getElem? (i := 34) rfl)) (hw _ (List.mem_of_getElem? (i := 35) rfl)) (hw _ (List.mem_of_getElem? (i := 36) rfl)) e226 (g := (mkF m 143 #[iv p1, iv p2, iv p3, iv ((p1 &&& (65535 : Int32)).toUInt32.toUInt16.toUInt32.toInt32), iv (3 : Int32), iv ((p2 &&& (65535 : Int32)).toUInt32.toUInt16.toUInt32.toInt32), rv b199, rv b206, iv (1 : Int32), .unset] [])) rfl (hb hby at_143) (by decide) (by decide)
      obtain ⟨b229, g229⟩ : ∃ z, z = T210.heap.size := ⟨_, rfl⟩
      rw [← g229] at A229 D229 U229 st229
      have O229 := O210.ext E229
      have i229_value : Fld Z h229 b229 "com/example/stubwright/stubwright/idl/ConstValue$BooleanValue" "value" "Z" (.int (0 : Int32)) := D229 (Or.inr (hw _ (List.mem_of_getElem? (i := 42) rfl))) (ty := .boolean) (by decide)
      have k230 : Way p e below S0 T229 (mkF m 146 #[iv p1, iv p2, iv p3, iv ((p1 &&& (65535 : Int32)).toUInt32.toUInt16.toUInt32.toInt32), iv (3 : Int32), iv ((p2 &&& (65535 : Int32)).toUInt32.toUInt16.toUInt32.toInt32), rv b199, rv b206, iv (1 : Int32), .unset] [(.ref b229)]) := fun t k => k228 t (st229 _ k)
      have k232 : Way p e below S0 T229 (mkF m 150 #[iv p1, iv p2, iv p3, iv ((p1 &&& (65535 : Int32)).toUInt32.toUInt16.toUInt32.toInt32), iv (3 : Int32), iv ((p2 &&& (65535 : Int32)).toUInt32.toUInt16.toUInt32.toInt32), rv b199, rv b206, iv (1 : Int32), .unset] [(.int (p2 &&& (1 : Int32))), (.ref b229), (.ref b229)]) := by
        intro t k
        refine k230 t ?_
        refine XS.dup X229.here hx rfl (hb hby at_146) rfl rfl ?_
        show Steps p.tables e below (T229.setTop (mkF m 147 #[iv p1, iv p2, iv p3, iv ((p1 &&& (65535 : Int32)).toUInt32.toUInt16.toUInt32.toInt32), iv (3 : Int32), iv ((p2 &&& (65535 : Int32)).toUInt32.toUInt16.toUInt32.toInt32), rv b199, rv b206, iv (1 : Int32), .unset] [(.ref b229), (.ref b229)])) _
        refine XS.iloadN X229.here hx rfl (hb hby at_147) rfl ?_
        show Steps p.tables e below (T229.setTop (mkF m 148 #[iv p1, iv p2, iv p3, iv ((p1 &&& (65535 : Int32)).toUInt32.toUInt16.toUInt32.toInt32), iv (3 : Int32), iv ((p2 &&& (65535 : Int32)).toUInt32.toUInt16.toUInt32.toInt32), rv b199, rv b206, iv (1 : Int32), .unset] [(.int p2), (.ref b229), (.ref b229)])) _
        refine XS.iconst X229.here hx rfl (hb hby at_148) ?_
        show Steps p.tables e below (T229.setTop (mkF m 149 #[iv p1, iv p2, iv p3, iv ((p1 &&& (65535 : Int32)).toUInt32.toUInt16.toUInt32.toInt32), iv (3 : Int32), iv ((p2 &&& (65535 : Int32)).toUInt32.toUInt16.toUInt32.toInt32), rv b199, rv b206, iv (1 : Int32), .unset] [(.int (1 : Int32)), (.int p2), (.ref b229), (.ref b229)])) _
        refine XS.iand X229.here hx rfl (hb hby at_149) rfl ?_
        show Steps p.tables e below (T229.setTop (mkF m 150 #[iv p1, iv p2, iv p3, iv ((p1 &&& (65535 : Int32)).toUInt32.toUInt16.toUInt32.toInt32), iv (3 : Int32), iv ((p2 &&& (65535 : Int32)).toUInt32.toUInt16.toUInt32.toInt32), rv b199, rv b206, iv (1 : Int32), .unset] [(.int (p2 &&& (1 : Int32))), (.ref b229), (.ref b229)])) _
        exact k
      by_cases hc231 : (p2 &&& (1 : Int32)) = (0 : Int32)
      · have k233 : Way p e below S0 T229 (mkF m 158 #[iv p1, iv p2, iv p3, iv ((p1 &&& (65535 : Int32)).toUInt32.toUInt16.toUInt32.toInt32), iv (3 : Int32), iv ((p2 &&& (65535 : Int32)).toUInt32.toUInt16.toUInt32.toInt32), rv b199, rv b206, iv (1 : Int32), .unset] [(.int (0 : Int32)), (.ref b229), (.ref b229)]) := by
          intro t k
          refine k232 t ?_
          refine XS.ifYes X229.here hx rfl (pc0 := 150) (pc' := 157) rfl (hb hby at_150) rfl ((if0 _ _).trans (teq (hc231 : (p2 &&& (1 : Int32)) = (0 : Int32))).1) (by decide) (by decide) ?_
          show Steps p.tables e below (T229.setTop (mkF m 157 #[iv p1, iv p2, iv p3, iv ((p1 &&& (65535 : Int32)).toUInt32.toUInt16.toUInt32.toInt32), iv (3 : Int32), iv ((p2 &&& (65535 : Int32)).toUInt32.toUInt16.toUInt32.toInt32), rv b199, rv b206, iv (1 : Int32), .unset] [(.ref b229), (.ref b229)])) _
          refine XS.iconst X229.here hx rfl (hb hby at_157) ?_
          show Steps p.tables e below (T229.setTop (mkF m 158 #[iv p1, iv p2, iv p3, iv ((p1 &&& (65535 : Int32)).toUInt32.toUInt16.toUInt32.toInt32), iv (3 : Int32), iv ((p2 &&& (65535 : Int32)).toUInt32.toUInt16.toUInt32.toInt32), rv b199, rv b206, iv (1 : Int32), .unset] [(.int (0 : Int32)), (.ref b229), (.ref b229)])) _
          exact k
        have ge234 : n0 ≤ b229 := Nat.le_trans (own_old O210) (Nat.le_of_eq g229.symm)
        obtain ⟨_, _, ⟨T235, L235, kk235, nn235⟩, -, X235, ⟨Lc235, hQ235, l235, y235, z235⟩, st235⟩ := X229.specialBack hx (y := (⟨"com/example/stubwright/stubwright/idl/ConstValue$BooleanValue", "<init>", "(Z)V"⟩ : MethodName)) rfl hown (mvT hZ (hw _ (List.mem_of_getElem? (i := 37) rfl))) (mvT hZ (hw _ (List.mem_of_getElem? (i := 38) rfl))) (mvT hZ (hw _ (List.mem_of_getElem? (i := 39) rfl))) (by decide) (backOf (W := 1) (bvInit0 l Z a0 hw [] wC clC G b229 h229 n0 O229 (A229 : Exa Z h229 b229 "com/example/stubwright/stubwright/idl/ConstValue$BooleanValue") (i229_value : Fld Z h229 b229 "com/example/stubwright/stubwright/idl/ConstValue$BooleanValue" "value" "Z" (.int (0 : Int32))) (ge234 : n0 ≤ b229)) hZ (hw _ (List.mem_of_getElem? (i := 39) rfl)) (hw _ (List.mem_of_getElem? (i := 36) rfl)) (by decide) (by decide)) (g := (mkF m 158 #[iv p1, iv p2, iv p3, iv ((p1 &&& (65535 : Int32)).toUInt32.toUInt16.toUInt32.toInt32), iv (3 : Int32), iv ((p2 &&& (65535 : Int32)).toUInt32.toUInt16.toUInt32.toInt32), rv b199, rv b206, iv (1 : Int32), .unset] [(.int (0 : Int32)), (.ref b229), (.ref b229)])) rfl (by rw [hml]; rfl) (Steps.refl _) (a := b229) (argsL := [(.int (0 : Int32))]) (rest := [(.ref b229)]) (lenOf pd_5 rfl) rfl (by show 2 * 0 + _ ≤ _; exact Nat.le_of_eq rfl) (hb hby at_158) (fun _ _ => ⟨rfl, e229, (by decide : 3 + 0 ≤ _), (by decide : 3 + 0 ≤ _)⟩)
        dsimp only [Pt.U, Pt.locs, Pt.cells, Pt.slots] at X235 l235 y235 z235 st235 hQ235
        subst l235 y235 z235
        obtain ⟨rfl, Nq235, Kq235, po235_0, po235_1⟩ := hQ235
        have N235 := Fr.app N226 Nq235
        have O235 := O229.keep Kq235 (allS ge234 all0)
        have k236 : Way p e below S0 T235 (mkF m 161 #[iv p1, iv p2, iv p3, iv ((p1 &&& (65535 : Int32)).toUInt32.toUInt16.toUInt32.toInt32), iv (3 : Int32), iv ((p2 &&& (65535 : Int32)).toUInt32.toUInt16.toUInt32.toInt32), rv b199, rv b206, iv (1 : Int32), .unset] [(.ref b229)]) := fun t k => k233 t (st235.trans k)
        have k237 : Way p e below S0 T235 (mkF m 176 #[iv p1, iv p2, iv p3, iv ((p1 &&& (65535 : Int32)).toUInt32.toUInt16.toUInt32.toInt32), iv (3 : Int32), iv ((p2 &&& (65535 : Int32)).toUInt32.toUInt16.toUInt32.toInt32), rv b199, rv b206, iv (1 : Int32), rv b229] [(.ref b229), (.ref b199)]) := by
          intro t k
          refine k236 t ?_
          refine XS.astore X235.here hx rfl (hb hby at_161) rfl rfl (l' := #[iv p1, iv p2, iv p3, iv ((p1 &&& (65535 : Int32)).toUInt32.toUInt16.toUInt32.toInt32), iv (3 : Int32), iv ((p2 &&& (65535 : Int32)).toUInt32.toUInt16.toUInt32.toInt32), rv b199, rv b206, iv (1 : Int32), rv b229]) rfl ?_
          show Steps p.tables e below (T235.setTop (mkF m 163 #[iv p1, iv p2, iv p3, iv ((p1 &&& (65535 : Int32)).toUInt32.toUInt16.toUInt32.toInt32), iv (3 : Int32), iv ((p2 &&& (65535 : Int32)).toUInt32.toUInt16.toUInt32.toInt32), rv b199, rv b206, iv (1 : Int32), rv b229] [])) _
          refine XS.goto X235.here hx rfl (pc0 := 163) (pc' := 172) rfl (hb hby at_163) (by decide) (by decide) ?_
          show Steps p.tables e below (T235.setTop (mkF m 172 #[iv p1, iv p2, iv p3, iv ((p1 &&& (65535 : Int32)).toUInt32.toUInt16.toUInt32.toInt32), iv (3 : Int32), iv ((p2 &&& (65535 : Int32)).toUInt32.toUInt16.toUInt32.toInt32), rv b199, rv b206, iv (1 : Int32), rv b229] [])) _
          refine XS.aload X235.here hx rfl (hb hby at_172) rfl rfl ?_
          show Steps p.tables e below (T235.setTop (mkF m 174 #[iv p1, iv p2, iv p3, iv ((p1 &&& (65535 : Int32)).toUInt32.toUInt16.toUInt32.toInt32), iv (3 : Int32), iv ((p2 &&& (65535 : Int32)).toUInt32.toUInt16.toUInt32.toInt32), rv b199, rv b206, iv (1 : Int32), rv b229] [(.ref b199)])) _
          refine XS.aload X235.here hx rfl (hb hby at_174) rfl rfl ?_
          show Steps p.tables e below (T235.setTop (mkF m 176 #[iv p1, iv p2, iv p3, iv ((p1 &&& (65535 : Int32)).toUInt32.toUInt16.toUInt32.toInt32), iv (3 : Int32), iv ((p2 &&& (65535 : Int32)).toUInt32.toUInt16.toUInt32.toInt32), rv b199, rv b206, iv (1 : Int32), rv b229] [(.ref b229), (.ref b199)])) _
          exact k
        have f239 : Exa Z T235.heap b199 "com/example/stubwright/stubwright/idl/ConstValue$CharValue" := ((f217.ext E229).keep Kq235)
        obtain ⟨cq238, kq238, qq238a, qq238b, qq238c⟩ := isOf hZ rfl f239
        obtain ⟨_, _, ⟨T238, L238, kk238, nn238⟩, -, X238, ⟨Lc238, hQ238, l238, y238, z238⟩, st238⟩ := X235.virtualBack hx (y := (⟨"com/example/stubwright/stubwright/idl/ConstValue$CharValue", "equals", "(Ljava/lang/Object;)Z"⟩ : MethodName)) (z := (⟨"com/example/stubwright/stubwright/idl/ConstValue$CharValue", "equals", "(Ljava/lang/Object;)Z"⟩ : MethodName)) hown (mvT hZ (hw _ (List.mem_of_getElem? (i := 17) rfl))) (mvT hZ (hw _ (List.mem_of_getElem? (i := 18) rfl))) (notFace_of_selects (args := #[]) (mvT hZ (hw _ (List.mem_of_getElem? (i := 20) rfl)))) (mvT hZ (hw _ (List.mem_of_getElem? (i := 20) rfl))) (mvT hZ (hw _ (List.mem_of_getElem? (i := 19) rfl))) (by decide) (backOf (W := 0) (eqOther0 l Z a0 hw [] wC clC G b199 b229 T235.heap n0 O235 (po235_0 : Exa Z T235.heap b229 "com/example/stubwright/stubwright/idl/ConstValue$BooleanValue")) hZ (hw _ (List.mem_of_getElem? (i := 21) rfl)) (hw _ (List.mem_of_getElem? (i := 3) rfl)) (by decide) (by decide)) qq238a qq238c (g := (mkF m 176 #[iv p1, iv p2, iv p3, iv ((p1 &&& (65535 : Int32)).toUInt32.toUInt16.toUInt32.toInt32), iv (3 : Int32), iv ((p2 &&& (65535 : Int32)).toUInt32.toUInt16.toUInt32.toInt32), rv b199, rv b206, iv (1 : Int32), rv b229] [(.ref b229), (.ref b199)])) rfl (by rw [hml]; rfl) (Steps.refl _) (argsL := [(.ref b229)]) (rest := []) (lenOf pd_3 rfl) rfl (by show 2 * 0 + _ ≤ _; exact Nat.le_of_eq rfl) (hb hby at_176) (fun _ _ => ⟨rfl, rfl, (by decide : 3 + 0 ≤ _), (by decide : 3 + 0 ≤ _)⟩)
        dsimp only [Pt.U, Pt.locs, Pt.cells, Pt.slots] at X238 l238 y238 z238 st238 hQ238
        subst l238 y238 z238
        obtain ⟨rfl, Nq238, e238⟩ := hQ238
        have N238 := Fr.app N235 Nq238
        have k240 : Way p e below S0 T238 (mkF m 179 #[iv p1, iv p2, iv p3, iv ((p1 &&& (65535 : Int32)).toUInt32.toUInt16.toUInt32.toInt32), iv (3 : Int32), iv ((p2 &&& (65535 : Int32)).toUInt32.toUInt16.toUInt32.toInt32), rv b199, rv b206, iv (1 : Int32), rv b229] [(.int (0 : Int32))]) := fun t k => k237 t (st238.trans k)
        have k241 : Way p e below S0 T238 (mkF m 185 #[iv p1, iv p2, iv p3, iv ((p1 &&& (65535 : Int32)).toUInt32.toUInt16.toUInt32.toInt32), iv (3 : Int32), iv ((p2 &&& (65535 : Int32)).toUInt32.toUInt16.toUInt32.toInt32), rv b199, rv b206, iv (1 : Int32), rv b229] [(.int (1 : Int32))]) := by
          intro t k
          refine k240 t ?_
          refine XS.ifYes X238.here hx rfl (pc0 := 179) (pc' := 184) rfl (hb hby at_179) rfl ((if0 _ _).trans (teq ((by decide) : (0 : Int32) = (0 : Int32))).1) (by decide) (by decide) ?_
          show Steps p.tables e below (T238.setTop (mkF m 184 #[iv p1, iv p2, iv p3, iv ((p1 &&& (65535 : Int32)).toUInt32.toUInt16.toUInt32.toInt32), iv (3 : Int32), iv ((p2 &&& (65535 : Int32)).toUInt32.toUInt16.toUInt32.toInt32), rv b199, rv b206, iv (1 : Int32), rv b229] [])) _
          refine XS.iconst X238.here hx rfl (hb hby at_184) ?_
          show Steps p.tables e below (T238.setTop (mkF m 185 #[iv p1, iv p2, iv p3, iv ((p1 &&& (65535 : Int32)).toUInt32.toUInt16.toUInt32.toInt32), iv (3 : Int32), iv ((p2 &&& (65535 : Int32)).toUInt32.toUInt16.toUInt32.toInt32), rv b199, rv b206, iv (1 : Int32), rv b229] [(.int (1 : Int32))])) _
          exact k
        obtain ⟨fs, hr, hrun, hended, hW, hsame⟩ := X238.leave (v := some (.int (1 : Int32))) (fun h => by rw [Bd.returns] at h; cases h)
        refine ⟨_, _, k241 _ (retN X238 hx (t := .boolean) Bd.returns (by simp) (hb hby at_185) hr), hrun, hended, _, _, rfl, ?_, ⟨_, rfl⟩, hW, hsame.mono (by decide) (by decide)⟩
        show Q_law_met Z wC clC p1 p2 p3 h0 n0 _ T238.heap _
        rw [e238]
        exact ⟨rfl, N238⟩
      · have k242 : Way p e below S0 T229 (mkF m 158 #[iv p1, iv p2, iv p3, iv ((p1 &&& (65535 : Int32)).toUInt32.toUInt16.toUInt32.toInt32), iv (3 : Int32), iv ((p2 &&& (65535 : Int32)).toUInt32.toUInt16.toUInt32.toInt32), rv b199, rv b206, iv (1 : Int32), .unset] [(.int (1 : Int32)), (.ref b229), (.ref b229)]) := by
          intro t k
          refine k232 t ?_
          refine XS.ifNo X229.here hx rfl (hb hby at_150) rfl ((if0 _ _).trans (feq (hc231 : ¬ ((p2 &&& (1 : Int32)) = (0 : Int32)))).1) ?_
          show Steps p.tables e below (T229.setTop (mkF m 153 #[iv p1, iv p2, iv p3, iv ((p1 &&& (65535 : Int32)).toUInt32.toUInt16.toUInt32.toInt32), iv (3 : Int32), iv ((p2 &&& (65535 : Int32)).toUInt32.toUInt16.toUInt32.toInt32), rv b199, rv b206, iv (1 : Int32), .unset] [(.ref b229), (.ref b229)])) _
          refine XS.iconst X229.here hx rfl (hb hby at_153) ?_
          show Steps p.tables e below (T229.setTop (mkF m 154 #[iv p1, iv p2, iv p3, iv ((p1 &&& (65535 : Int32)).toUInt32.toUInt16.toUInt32.toInt32), iv (3 : Int32), iv ((p2 &&& (65535 : Int32)).toUInt32.toUInt16.toUInt32.toInt32), rv b199, rv b206, iv (1 : Int32), .unset] [(.int (1 : Int32)), (.ref b229), (.ref b229)])) _
          refine XS.goto X229.here hx rfl (pc0 := 154) (pc' := 158) rfl (hb hby at_154) (by decide) (by decide) ?_
          show Steps p.tables e below (T229.setTop (mkF m 158 #[iv p1, iv p2, iv p3, iv ((p1 &&& (65535 : Int32)).toUInt32.toUInt16.toUInt32.toInt32), iv (3 : Int32), iv ((p2 &&& (65535 : Int32)).toUInt32.toUInt16.toUInt32.toInt32), rv b199, rv b206, iv (1 : Int32), .unset] [(.int (1 : Int32)), (.ref b229), (.ref b229)])) _
          exact k
        have ge243 : n0 ≤ b229 := Nat.le_trans (own_old O210) (Nat.le_of_eq g229.symm)
        obtain ⟨_, _, ⟨T244, L244, kk244, nn244⟩, -, X244, ⟨Lc244, hQ244, l244, y244, z244⟩, st244⟩ := X229.specialBack hx (y := (⟨"com/example/stubwright/stubwright/idl/ConstValue$BooleanValue", "<init>", "(Z)V"⟩ : MethodName)) rfl hown (mvT hZ (hw _ (List.mem_of_getElem? (i := 37) rfl))) (mvT hZ (hw _ (List.mem_of_getElem? (i := 38) rfl))) (mvT hZ (hw _ (List.mem_of_getElem? (i := 39) rfl))) (by decide) (backOf (W := 1) (bvInit1 l Z a0 hw [] wC clC G b229 h229 n0 O229 (A229 : Exa Z h229 b229 "com/example/stubwright/stubwright/idl/ConstValue$BooleanValue") (i229_value : Fld Z h229 b229 "com/example/stubwright/stubwright/idl/ConstValue$BooleanValue" "value" "Z" (.int (0 : Int32))) (ge243 : n0 ≤ b229)) hZ (hw _ (List.mem_of_getElem? (i := 39) rfl)) (hw _ (List.mem_of_getElem? (i := 36) rfl)) (by decide) (by decide)) (g := (mkF m 158 #[iv p1, iv p2, iv p3, iv ((p1 &&& (65535 : Int32)).toUInt32.toUInt16.toUInt32.toInt32), iv (3 : Int32), iv ((p2 &&& (65535 : Int32)).toUInt32.toUInt16.toUInt32.toInt32), rv b199, rv b206, iv (1 : Int32), .unset] [(.int (1 : Int32)), (.ref b229), (.ref b229)])) rfl (by rw [hml]; rfl) (Steps.refl _) (a := b229) (argsL := [(.int (1 : Int32))]) (rest := [(.ref b229)]) (lenOf pd_5 rfl) rfl (by show 2 * 0 + _ ≤ _; exact Nat.le_of_eq rfl) (hb hby at_158) (fun _ _ => ⟨rfl, e229, (by decide : 3 + 0 ≤ _), (by decide : 3 + 0 ≤ _)⟩)
        dsimp only [Pt.U, Pt.locs, Pt.cells, Pt.slots] at X244 l244 y244 z244 st244 hQ244
        subst l244 y244 z244
        obtain ⟨rfl, Nq244, Kq244, po244_0, po244_1⟩ := hQ244
        have N244 := Fr.app N226 Nq244
        have O244 := O229.keep Kq244 (allS ge243 all0)
        have k245 : Way p e below S0 T244 (mkF m 161 #[iv p1, iv p2, iv p3, iv ((p1 &&& (65535 : Int32)).toUInt32.toUInt16.toUInt32.toInt32), iv (3 : Int32), iv ((p2 &&& (65535 : Int32)).toUInt32.toUInt16.toUInt32.toInt32), rv b199, rv b206, iv (1 : Int32), .unset] [(.ref b229)]) := fun t k => k242 t (st244.trans k)
        have k246 : Way p e below S0 T244 (mkF m 176 #[iv p1, iv p2, iv p3, iv ((p1 &&& (65535 : Int32)).toUInt32.toUInt16.toUInt32.toInt32), iv (3 : Int32), iv ((p2 &&& (65535 : Int32)).toUInt32.toUInt16.toUInt32.toInt32), rv b199, rv b206, iv (1 : Int32), rv b229] [(.ref b229), (.ref b199)]) := by
          intro t k
          refine k245 t ?_
          refine XS.astore X244.here hx rfl (hb hby at_161) rfl rfl (l' := #[iv p1, iv p2, iv p3, iv ((p1 &&& (65535 : Int32)).toUInt32.toUInt16.toUInt32.toInt32), iv (3 : Int32), iv ((p2 &&& (65535 : Int32)).toUInt32.toUInt16.toUInt32.toInt32), rv b199, rv b206, iv (1 : Int32), rv b229]) rfl ?_
          show Steps p.tables e below (T244.setTop (mkF m 163 #[iv p1, iv p2, iv p3, iv ((p1 &&& (65535 : Int32)).toUInt32.toUInt16.toUInt32.toInt32), iv (3 : Int32), iv ((p2 &&& (65535 : Int32)).toUInt32.toUInt16.toUInt32.toInt32), rv b199, rv b206, iv (1 : Int32), rv b229] [])) _
          refine XS.goto X244.here hx rfl (pc0 := 163) (pc' := 172) rfl (hb hby at_163) (by decide) (by decide) ?_
          show Steps p.tables e below (T244.setTop (mkF m 172 #[iv p1, iv p2, iv p3, iv ((p1 &&& (65535 : Int32)).toUInt32.toUInt16.toUInt32.toInt32), iv (3 : Int32), iv ((p2 &&& (65535 : Int32)).toUInt32.toUInt16.toUInt32.toInt32), rv b199, rv b206, iv (1 : Int32), rv b229] [])) _
          refine XS.aload X244.here hx rfl (hb hby at_172) rfl rfl ?_
          show Steps p.tables e below (T244.setTop (mkF m 174 #[iv p1, iv p2, iv p3, iv ((p1 &&& (65535 : Int32)).toUInt32.toUInt16.toUInt32.toInt32), iv (3 : Int32), iv ((p2 &&& (65535 : Int32)).toUInt32.toUInt16.toUInt32.toInt32), rv b199, rv b206, iv (1 : Int32), rv b229] [(.ref b199)])) _
          refine XS.aload X244.here hx rfl (hb hby at_174) rfl rfl ?_
          show Steps p.tables e below (T244.setTop (mkF m 176 #[iv p1, iv p2, iv p3, iv ((p1 &&& (65535 : Int32)).toUInt32.toUInt16.toUInt32.toInt32), iv (3 : Int32), iv ((p2 &&& (65535 : Int32)).toUInt32.toUInt16.toUInt32.toInt32), rv b199, rv b206, iv (1 : Int32), rv b229] [(.ref b229), (.ref b199)])) _
          exact k
        have f248 : Exa Z T244.heap b199 "com/example/stubwright/stubwright/idl/ConstValue$CharValue" := ((f217.ext E229).keep Kq244)
        obtain ⟨cq247, kq247, qq247a, qq247b, qq247c⟩ := isOf hZ rfl f248
        obtain ⟨_, _, ⟨T247, L247, kk247, nn247⟩, -, X247, ⟨Lc247, hQ247, l247, y247, z247⟩, st247⟩ := X244.virtualBack hx (y := (⟨"com/example/stubwright/stubwright/idl/ConstValue$CharValue", "equals", "(Ljava/lang/Object;)Z"⟩ : MethodName)) (z := (⟨"com/example/stubwright/stubwright/idl/ConstValue$CharValue", "equals", "(Ljava/lang/Object;)Z"⟩ : MethodName)) hown (mvT hZ (hw _ (List.mem_of_getElem? (i := 17) rfl))) (mvT hZ (hw _ (List.mem_of_getElem? (i := 18) rfl))) (notFace_of_selects (args := #[]) (mvT hZ (hw _ (List.mem_of_getElem? (i := 20) rfl)))) (mvT hZ (hw _ (List.mem_of_getElem? (i := 20) rfl))) (mvT hZ (hw _ (List.mem_of_getElem? (i := 19) rfl))) (by decide) (backOf (W := 0) (eqOther0 l Z a0 hw [] wC clC G b199 b229 T244.heap n0 O244 (po244_0 : Exa Z T244.heap b229 "com/example/stubwright/stubwright/idl/ConstValue$BooleanValue")) hZ (hw _ (List.mem_of_getElem? (i := 21) rfl)) (hw _ (List.mem_of_getElem? (i := 3) rfl)) (by decide) (by decide)) qq247a qq247c (g := (mkF m 176 #[iv p1, iv p2, iv p3, iv ((p1 &&& (65535 : Int32)).toUInt32.toUInt16.toUInt32.toInt32), iv (3 : Int32), iv ((p2 &&& (65535 : Int32)).toUInt32.toUInt16.toUInt32.toInt32), rv b199, rv b206, iv (1 : Int32), rv b229] [(.ref b229), (.ref b199)])) rfl (by rw [hml]; rfl) (Steps.refl _) (argsL := [(.ref b229)]) (rest := []) (lenOf pd_3 rfl) rfl (by show 2 * 0 + _ ≤ _; exact Nat.le_of_eq rfl) (hb hby at_176) (fun _ _ => ⟨rfl, rfl, (by decide : 3 + 0 ≤ _), (by decide : 3 + 0 ≤ _)⟩)
        dsimp only [Pt.U, Pt.locs, Pt.cells, Pt.slots] at X247 l247 y247 z247 st247 hQ247
        subst l247 y247 z247
        obtain ⟨rfl, Nq247, e247⟩ := hQ247
        have N247 := Fr.app N244 Nq247
        have k249 : Way p e below S0 T247 (mkF m 179 #[iv p1, iv p2, iv p3, iv ((p1 &&& (65535 : Int32)).toUInt32.toUInt16.toUInt32.toInt32), iv (3 : Int32), iv ((p2 &&& (65535 : Int32)).toUInt32.toUInt16.toUInt32.toInt32), rv b199, rv b206, iv (1 : Int32), rv b229] [(.int (0 : Int32))]) := fun t k => k246 t (st247.trans k)
        have k250 : Way p e below S0 T247 (mkF m 185 #[iv p1, iv p2, iv p3, iv ((p1 &&& (65535 : Int32)).toUInt32.toUInt16.toUInt32.toInt32), iv (3 : Int32), iv ((p2 &&& (65535 : Int32)).toUInt32.toUInt16.toUInt32.toInt32), rv b199, rv b206, iv (1 : Int32), rv b229] [(.int (1 : Int32))]) := by
          intro t k
          refine k249 t ?_
          refine XS.ifYes X247.here hx rfl (pc0 := 179) (pc' := 184) rfl (hb hby at_179) rfl ((if0 _ _).trans (teq ((by decide) : (0 : Int32) = (0 : Int32))).1) (by decide) (by decide) ?_
          show Steps p.tables e below (T247.setTop (mkF m 184 #[iv p1, iv p2, iv p3, iv ((p1 &&& (65535 : Int32)).toUInt32.toUInt16.toUInt32.toInt32), iv (3 : Int32), iv ((p2 &&& (65535 : Int32)).toUInt32.toUInt16.toUInt32.toInt32), rv b199, rv b206, iv (1 : Int32), rv b229] [])) _
          refine XS.iconst X247.here hx rfl (hb hby at_184) ?_
          show Steps p.tables e below (T247.setTop (mkF m 185 #[iv p1, iv p2, iv p3, iv ((p1 &&& (65535 : Int32)).toUInt32.toUInt16.toUInt32.toInt32), iv (3 : Int32), iv ((p2 &&& (65535 : Int32)).toUInt32.toUInt16.toUInt32.toInt32), rv b199, rv b206, iv (1 : Int32), rv b229] [(.int (1 : Int32))])) _
          exact k
        obtain ⟨fs, hr, hrun, hended, hW, hsame⟩ := X247.leave (v := some (.int (1 : Int32))) (fun h => by rw [Bd.returns] at h; cases h)
        refine ⟨_, _, k250 _ (retN X247 hx (t := .boolean) Bd.returns (by simp) (hb hby at_185) hr), hrun, hended, _, _, rfl, ?_, ⟨_, rfl⟩, hW, hsame.mono (by decide) (by decide)⟩
        show Q_law_met Z wC clC p1 p2 p3 h0 n0 _ T247.heap _
        rw [e247]
        exact ⟨rfl, N247⟩
    · have k251 : Way p e below S0 T210 (mkF m 90 #[iv p1, iv p2, iv p3, iv ((p1 &&& (65535 : Int32)).toUInt32.toUInt16.toUInt32.toInt32), iv (3 : Int32), iv ((p2 &&& (65535 : Int32)).toUInt32.toUInt16.toUInt32.toInt32), rv b199, rv b206, iv (0 : Int32), .unset] [(.ref b206), (.ref b199)]) := by
        intro t k
        refine k213 t ?_
        refine XS.icmpYes X210.here hx rfl (pc0 := 76) (pc' := 83) rfl (hb hby at_76) rfl (feq (hc212 : ¬ (((p1 &&& (65535 : Int32)).toUInt32.toUInt16.toUInt32.toInt32) = ((p2 &&& (65535 : Int32)).toUInt32.toUInt16.toUInt32.toInt32)))).2 (by decide) (by decide) ?_
        show Steps p.tables e below (T210.setTop (mkF m 83 #[iv p1, iv p2, iv p3, iv ((p1 &&& (65535 : Int32)).toUInt32.toUInt16.toUInt32.toInt32), iv (3 : Int32), iv ((p2 &&& (65535 : Int32)).toUInt32.toUInt16.toUInt32.toInt32), rv b199, rv b206, .unset, .unset] [])) _
        refine XS.iconst X210.here hx rfl (hb hby at_83) ?_
        show Steps p.tables e below (T210.setTop (mkF m 84 #[iv p1, iv p2, iv p3, iv ((p1 &&& (65535 : Int32)).toUInt32.toUInt16.toUInt32.toInt32), iv (3 : Int32), iv ((p2 &&& (65535 : Int32)).toUInt32.toUInt16.toUInt32.toInt32), rv b199, rv b206, .unset, .unset] [(.int (0 : Int32))])) _
        refine XS.istore X210.here hx rfl (hb hby at_84) rfl (l' := #[iv p1, iv p2, iv p3, iv ((p1 &&& (65535 : Int32)).toUInt32.toUInt16.toUInt32.toInt32), iv (3 : Int32), iv ((p2 &&& (65535 : Int32)).toUInt32.toUInt16.toUInt32.toInt32), rv b199, rv b206, iv (0 : Int32), .unset]) rfl ?_
        show Steps p.tables e below (T210.setTop (mkF m 86 #[iv p1, iv p2, iv p3, iv ((p1 &&& (65535 : Int32)).toUInt32.toUInt16.toUInt32.toInt32), iv (3 : Int32), iv ((p2 &&& (65535 : Int32)).toUInt32.toUInt16.toUInt32.toInt32), rv b199, rv b206, iv (0 : Int32), .unset] [])) _
        refine XS.aload X210.here hx rfl (hb hby at_86) rfl rfl ?_
        show Steps p.tables e below (T210.setTop (mkF m 88 #[iv p1, iv p2, iv p3, iv ((p1 &&& (65535 : Int32)).toUInt32.toUInt16.toUInt32.toInt32), iv (3 : Int32), iv ((p2 &&& (65535 : Int32)).toUInt32.toUInt16.toUInt32.toInt32), rv b199, rv b206, iv (0 : Int32), .unset] [(.ref b199)])) _
        refine XS.aload X210.here hx rfl (hb hby at_88) rfl rfl ?_
        show Steps p.tables e below (T210.setTop (mkF m 90 #[iv p1, iv p2, iv p3, iv ((p1 &&& (65535 : Int32)).toUInt32.toUInt16.toUInt32.toInt32), iv (3 : Int32), iv ((p2 &&& (65535 : Int32)).toUInt32.toUInt16.toUInt32.toInt32), rv b199, rv b206, iv (0 : Int32), .unset] [(.ref b206), (.ref b199)])) _
        exact k
      have f252 : Fld Z T210.heap b199 "com/example/stubwright/stubwright/idl/ConstValue$CharValue" "value" "C" (.int ((p1 &&& (65535 : Int32)).toUInt32.toUInt16.toUInt32.toInt32)) := ((po203_1.ext E206).keep Kq210 (ninS (Nat.ne_of_lt (Nat.lt_of_lt_of_le po203_0.lt (Nat.le_of_eq g206.symm))) nin0))
      have f254 : Exa Z T210.heap b199 "com/example/stubwright/stubwright/idl/ConstValue$CharValue" := ((po203_0.ext E206).keep Kq210)
      obtain ⟨cq253, kq253, qq253a, qq253b, qq253c⟩ := isOf hZ rfl f254
      obtain ⟨_, _, ⟨T253, L253, kk253, nn253⟩, -, X253, ⟨Lc253, hQ253, l253, y253, z253⟩, st253⟩ := X210.virtualBack hx (y := (⟨"com/example/stubwright/stubwright/idl/ConstValue$CharValue", "equals", "(Ljava/lang/Object;)Z"⟩ : MethodName)) (z := (⟨"com/example/stubwright/stubwright/idl/ConstValue$CharValue", "equals", "(Ljava/lang/Object;)Z"⟩ : MethodName)) hown (mvT hZ (hw _ (List.mem_of_getElem? (i := 17) rfl))) (mvT hZ (hw _ (List.mem_of_getElem? (i := 18) rfl))) (notFace_of_selects (args := #[]) (mvT hZ (hw _ (List.mem_of_getElem? (i := 20) rfl)))) (mvT hZ (hw _ (List.mem_of_getElem? (i := 20) rfl))) (mvT hZ (hw _ (List.mem_of_getElem? (i := 19) rfl))) (by decide) (backOf (W := 0) (eqF l Z a0 hw [] wC clC G b199 b206 ((p1 &&& (65535 : Int32)).toUInt32.toUInt16.toUInt32.toInt32) ((p2 &&& (65535 : Int32)).toUInt32.toUInt16.toUInt32.toInt32) T210.heap n0 O210 (po210_0 : Exa Z T210.heap b206 "com/example/stubwright/stubwright/idl/ConstValue$CharValue") (f252 : Fld Z T210.heap b199 "com/example/stubwright/stubwright/idl/ConstValue$CharValue" "value" "C" (.int ((p1 &&& (65535 : Int32)).toUInt32.toUInt16.toUInt32.toInt32))) (po210_1 : Fld Z T210.heap b206 "com/example/stubwright/stubwright/idl/ConstValue$CharValue" "value" "C" (.int ((p2 &&& (65535 : Int32)).toUInt32.toUInt16.toUInt32.toInt32))) (hc212 : ¬ (((p1 &&& (65535 : Int32)).toUInt32.toUInt16.toUInt32.toInt32) = ((p2 &&& (65535 : Int32)).toUInt32.toUInt16.toUInt32.toInt32)))) hZ (hw _ (List.mem_of_getElem? (i := 21) rfl)) (hw _ (List.mem_of_getElem? (i := 3) rfl)) (by decide) (by decide)) qq253a qq253c (g := (mkF m 90 #[iv p1, iv p2, iv p3, iv ((p1 &&& (65535 : Int32)).toUInt32.toUInt16.toUInt32.toInt32), iv (3 : Int32), iv ((p2 &&& (65535 : Int32)).toUInt32.toUInt16.toUInt32.toInt32), rv b199, rv b206, iv (0 : Int32), .unset] [(.ref b206), (.ref b199)])) rfl (by rw [hml]; rfl) (Steps.refl _) (argsL := [(.ref b206)]) (rest := []) (lenOf pd_3 rfl) rfl (by show 2 * 0 + _ ≤ _; exact Nat.le_of_eq rfl) (hb hby at_90) (fun _ _ => ⟨rfl, rfl, (by decide : 2 + 0 ≤ _), (by decide : 2 + 0 ≤ _)⟩)
      dsimp only [Pt.U, Pt.locs, Pt.cells, Pt.slots] at X253 l253 y253 z253 st253 hQ253
      subst l253 y253 z253
      obtain ⟨rfl, Nq253, e253⟩ := hQ253
      have N253 := Fr.app N210 Nq253
      have k255 : Way p e below S0 T253 (mkF m 93 #[iv p1, iv p2, iv p3, iv ((p1 &&& (65535 : Int32)).toUInt32.toUInt16.toUInt32.toInt32), iv (3 : Int32), iv ((p2 &&& (65535 : Int32)).toUInt32.toUInt16.toUInt32.toInt32), rv b199, rv b206, iv (0 : Int32), .unset] [(.int (0 : Int32))]) := fun t k => k251 t (st253.trans k)
      have k256 : Way p e below S0 T253 (mkF m 104 #[iv p1, iv p2, iv p3, iv ((p1 &&& (65535 : Int32)).toUInt32.toUInt16.toUInt32.toInt32), iv (3 : Int32), iv ((p2 &&& (65535 : Int32)).toUInt32.toUInt16.toUInt32.toInt32), rv b199, rv b206, iv (0 : Int32), .unset] [(.ref b199), (.ref b206)]) := by
        intro t k
        refine k255 t ?_
        refine XS.iload X253.here hx rfl (hb hby at_93) rfl ?_
        show Steps p.tables e below (T253.setTop (mkF m 95 #[iv p1, iv p2, iv p3, iv ((p1 &&& (65535 : Int32)).toUInt32.toUInt16.toUInt32.toInt32), iv (3 : Int32), iv ((p2 &&& (65535 : Int32)).toUInt32.toUInt16.toUInt32.toInt32), rv b199, rv b206, iv (0 : Int32), .unset] [(.int (0 : Int32)), (.int (0 : Int32))])) _
        refine XS.icmpYes X253.here hx rfl (pc0 := 95) (pc' := 100) rfl (hb hby at_95) rfl (teq ((by decide) : (0 : Int32) = (0 : Int32))).1 (by decide) (by decide) ?_
        show Steps p.tables e below (T253.setTop (mkF m 100 #[iv p1, iv p2, iv p3, iv ((p1 &&& (65535 : Int32)).toUInt32.toUInt16.toUInt32.toInt32), iv (3 : Int32), iv ((p2 &&& (65535 : Int32)).toUInt32.toUInt16.toUInt32.toInt32), rv b199, rv b206, iv (0 : Int32), .unset] [])) _
        refine XS.aload X253.here hx rfl (hb hby at_100) rfl rfl ?_
        show Steps p.tables e below (T253.setTop (mkF m 102 #[iv p1, iv p2, iv p3, iv ((p1 &&& (65535 : Int32)).toUInt32.toUInt16.toUInt32.toInt32), iv (3 : Int32), iv ((p2 &&& (65535 : Int32)).toUInt32.toUInt16.toUInt32.toInt32), rv b199, rv b206, iv (0 : Int32), .unset] [(.ref b206)])) _
        refine XS.aload X253.here hx rfl (hb hby at_102) rfl rfl ?_
        show Steps p.tables e below (T253.setTop (mkF m 104 #[iv p1, iv p2, iv p3, iv ((p1 &&& (65535 : Int32)).toUInt32.toUInt16.toUInt32.toInt32), iv (3 : Int32), iv ((p2 &&& (65535 : Int32)).toUInt32.toUInt16.toUInt32.toInt32), rv b199, rv b206, iv (0 : Int32), .unset] [(.ref b199), (.ref b206)])) _
        exact k
      obtain ⟨cq257, kq257, qq257a, qq257b, qq257c⟩ := isOf hZ e253 po210_0
      obtain ⟨_, _, ⟨T257, L257, kk257, nn257⟩, -, X257, ⟨Lc257, hQ257, l257, y257, z257⟩, st257⟩ := X253.virtualBack hx (y := (⟨"com/example/stubwright/stubwright/idl/ConstValue$CharValue", "equals", "(Ljava/lang/Object;)Z"⟩ : MethodName)) (z := (⟨"com/example/stubwright/stubwright/idl/ConstValue$CharValue", "equals", "(Ljava/lang/Object;)Z"⟩ : MethodName)) hown (mvT hZ (hw _ (List.mem_of_getElem? (i := 17) rfl))) (mvT hZ (hw _ (List.mem_of_getElem? (i := 18) rfl))) (notFace_of_selects (args := #[]) (mvT hZ (hw _ (List.mem_of_getElem? (i := 20) rfl)))) (mvT hZ (hw _ (List.mem_of_getElem? (i := 20) rfl))) (mvT hZ (hw _ (List.mem_of_getElem? (i := 19) rfl))) (by decide) (backOf (W := 0) (eqF l Z a0 hw [] wC clC G b206 b199 ((p2 &&& (65535 : Int32)).toUInt32.toUInt16.toUInt32.toInt32) ((p1 &&& (65535 : Int32)).toUInt32.toUInt16.toUInt32.toInt32) T210.heap n0 O210 (f254 : Exa Z T210.heap b199 "com/example/stubwright/stubwright/idl/ConstValue$CharValue") (po210_1 : Fld Z T210.heap b206 "com/example/stubwright/stubwright/idl/ConstValue$CharValue" "value" "C" (.int ((p2 &&& (65535 : Int32)).toUInt32.toUInt16.toUInt32.toInt32))) (f252 : Fld Z T210.heap b199 "com/example/stubwright/stubwright/idl/ConstValue$CharValue" "value" "C" (.int ((p1 &&& (65535 : Int32)).toUInt32.toUInt16.toUInt32.toInt32))) (fun q => hc212 q.symm : ¬ (((p2 &&& (65535 : Int32)).toUInt32.toUInt16.toUInt32.toInt32) = ((p1 &&& (65535 : Int32)).toUInt32.toUInt16.toUInt32.toInt32)))) hZ (hw _ (List.mem_of_getElem? (i := 21) rfl)) (hw _ (List.mem_of_getElem? (i := 3) rfl)) (by decide) (by decide)) qq257a qq257c (g := (mkF m 104 #[iv p1, iv p2, iv p3, iv ((p1 &&& (65535 : Int32)).toUInt32.toUInt16.toUInt32.toInt32), iv (3 : Int32), iv ((p2 &&& (65535 : Int32)).toUInt32.toUInt16.toUInt32.toInt32), rv b199, rv b206, iv (0 : Int32), .unset] [(.ref b199), (.ref b206)])) rfl (by rw [hml]; rfl) (Steps.refl _) (argsL := [(.ref b199)]) (rest := []) (lenOf pd_3 rfl) rfl (by show 2 * 0 + _ ≤ _; exact Nat.le_of_eq rfl) (hb hby at_104) (fun _ _ => ⟨rfl, e253, (by decide : 2 + 0 ≤ _), (by decide : 2 + 0 ≤ _)⟩)
      dsimp only [Pt.U, Pt.locs, Pt.cells, Pt.slots] at X257 l257 y257 z257 st257 hQ257
      subst l257 y257 z257
      obtain ⟨rfl, Nq257, e257⟩ := hQ257
      have N257 := Fr.app N253 Nq257
      have k258 : Way p e below S0 T257 (mkF m 107 #[iv p1, iv p2, iv p3, iv ((p1 &&& (65535 : Int32)).toUInt32.toUInt16.toUInt32.toInt32), iv (3 : Int32), iv ((p2 &&& (65535 : Int32)).toUInt32.toUInt16.toUInt32.toInt32), rv b199, rv b206, iv (0 : Int32), .unset] [(.int (0 : Int32))]) := fun t k => k256 t (st257.trans k)
      have k259 : Way p e below S0 T257 (mkF m 118 #[iv p1, iv p2, iv p3, iv ((p1 &&& (65535 : Int32)).toUInt32.toUInt16.toUInt32.toInt32), iv (3 : Int32), iv ((p2 &&& (65535 : Int32)).toUInt32.toUInt16.toUInt32.toInt32), rv b199, rv b206, iv (0 : Int32), .unset] [(.ref b199), (.ref b199)]) := by
        intro t k
        refine k258 t ?_
        refine XS.iload X257.here hx rfl (hb hby at_107) rfl ?_
        show Steps p.tables e below (T257.setTop (mkF m 109 #[iv p1, iv p2, iv p3, iv ((p1 &&& (65535 : Int32)).toUInt32.toUInt16.toUInt32.toInt32), iv (3 : Int32), iv ((p2 &&& (65535 : Int32)).toUInt32.toUInt16.toUInt32.toInt32), rv b199, rv b206, iv (0 : Int32), .unset] [(.int (0 : Int32)), (.int (0 : Int32))])) _
        refine XS.icmpYes X257.here hx rfl (pc0 := 109) (pc' := 114) rfl (hb hby at_109) rfl (teq ((by decide) : (0 : Int32) = (0 : Int32))).1 (by decide) (by decide) ?_
        show Steps p.tables e below (T257.setTop (mkF m 114 #[iv p1, iv p2, iv p3, iv ((p1 &&& (65535 : Int32)).toUInt32.toUInt16.toUInt32.toInt32), iv (3 : Int32), iv ((p2 &&& (65535 : Int32)).toUInt32.toUInt16.toUInt32.toInt32), rv b199, rv b206, iv (0 : Int32), .unset] [])) _
        refine XS.aload X257.here hx rfl (hb hby at_114) rfl rfl ?_
        show Steps p.tables e below (T257.setTop (mkF m 116 #[iv p1, iv p2, iv p3, iv ((p1 &&& (65535 : Int32)).toUInt32.toUInt16.toUInt32.toInt32), iv (3 : Int32), iv ((p2 &&& (65535 : Int32)).toUInt32.toUInt16.toUInt32.toInt32), rv b199, rv b206, iv (0 : Int32), .unset] [(.ref b199)])) _
        refine XS.aload X257.here hx rfl (hb hby at_116) rfl rfl ?_
        show Steps p.tables e below (T257.setTop (mkF m 118 #[iv p1, iv p2, iv p3, iv ((p1 &&& (65535 : Int32)).toUInt32.toUInt16.toUInt32.toInt32), iv (3 : Int32), iv ((p2 &&& (65535 : Int32)).toUInt32.toUInt16.toUInt32.toInt32), rv b199, rv b206, iv (0 : Int32), .unset] [(.ref b199), (.ref b199)])) _
        exact k
      obtain ⟨cq260, kq260, qq260a, qq260b, qq260c⟩ := isOf hZ e257 f254
      obtain ⟨_, _, ⟨T260, L260, kk260, nn260⟩, -, X260, ⟨Lc260, hQ260, l260, y260, z260⟩, st260⟩ := X257.virtualBack hx (y := (⟨"com/example/stubwright/stubwright/idl/ConstValue$CharValue", "equals", "(Ljava/lang/Object;)Z"⟩ : MethodName)) (z := (⟨"com/example/stubwright/stubwright/idl/ConstValue$CharValue", "equals", "(Ljava/lang/Object;)Z"⟩ : MethodName)) hown (mvT hZ (hw _ (List.mem_of_getElem? (i := 17) rfl))) (mvT hZ (hw _ (List.mem_of_getElem? (i := 18) rfl))) (notFace_of_selects (args := #[]) (mvT hZ (hw _ (List.mem_of_getElem? (i := 20) rfl)))) (mvT hZ (hw _ (List.mem_of_getElem? (i := 20) rfl))) (mvT hZ (hw _ (List.mem_of_getElem? (i := 19) rfl))) (by decide) (backOf (W := 0) (eqT l Z a0 hw [] wC clC G b199 b199 ((p1 &&& (65535 : Int32)).toUInt32.toUInt16.toUInt32.toInt32) ((p1 &&& (65535 : Int32)).toUInt32.toUInt16.toUInt32.toInt32) T210.heap n0 O210 (f254 : Exa Z T210.heap b199 "com/example/stubwright/stubwright/idl/ConstValue$CharValue") (f252 : Fld Z T210.heap b199 "com/example/stubwright/stubwright/idl/ConstValue$CharValue" "value" "C" (.int ((p1 &&& (65535 : Int32)).toUInt32.toUInt16.toUInt32.toInt32))) (f252 : Fld Z T210.heap b199 "com/example/stubwright/stubwright/idl/ConstValue$CharValue" "value" "C" (.int ((p1 &&& (65535 : Int32)).toUInt32.toUInt16.toUInt32.toInt32))) (rfl : ((p1 &&& (65535 : Int32)).toUInt32.toUInt16.toUInt32.toInt32) = ((p1 &&& (65535 : Int32)).toUInt32.toUInt16.toUInt32.toInt32))) hZ (hw _ (List.mem_of_getElem? (i := 21) rfl)) (hw _ (List.mem_of_getElem? (i := 3) rfl)) (by decide) (by decide)) qq260a qq260c (g := (mkF m 118 #[iv p1, iv p2, iv p3, iv ((p1 &&& (65535 : Int32)).toUInt32.toUInt16.toUInt32.toInt32), iv (3 : Int32), iv ((p2 &&& (65535 : Int32)).toUInt32.toUInt16.toUInt32.toInt32), rv b199, rv b206, iv (0 : Int32), .unset] [(.ref b199), (.ref b199)])) rfl (by rw [hml]; rfl) (Steps.refl _) (argsL := [(.ref b199)]) (rest := []) (lenOf pd_3 rfl) rfl (by show 2 * 0 + _ ≤ _; exact Nat.le_of_eq rfl) (hb hby at_118) (fun _ _ => ⟨rfl, e257, (by decide : 2 + 0 ≤ _), (by decide : 2 + 0 ≤ _)⟩)
      dsimp only [Pt.U, Pt.locs, Pt.cells, Pt.slots] at X260 l260 y260 z260 st260 hQ260
      subst l260 y260 z260
      obtain ⟨rfl, Nq260, e260⟩ := hQ260
      have N260 := Fr.app N257 Nq260
      have k261 : Way p e below S0 T260 (mkF m 121 #[iv p1, iv p2, iv p3, iv ((p1 &&& (65535 : Int32)).toUInt32.toUInt16.toUInt32.toInt32), iv (3 : Int32), iv ((p2 &&& (65535 : Int32)).toUInt32.toUInt16.toUInt32.toInt32), rv b199, rv b206, iv (0 : Int32), .unset] [(.int (1 : Int32))]) := fun t k => k259 t (st260.trans k)
      have k262 : Way p e below S0 T260 (mkF m 129 #[iv p1, iv p2, iv p3, iv ((p1 &&& (65535 : Int32)).toUInt32.toUInt16.toUInt32.toInt32), iv (3 : Int32), iv ((p2 &&& (65535 : Int32)).toUInt32.toUInt16.toUInt32.toInt32), rv b199, rv b206, iv (0 : Int32), .unset] [.null, (.ref b199)]) := by
        intro t k
        refine k261 t ?_
        refine XS.ifYes X260.here hx rfl (pc0 := 121) (pc' := 126) rfl (hb hby at_121) rfl ((if0 _ _).trans (feq ((by decide) : ¬ ((1 : Int32) = (0 : Int32)))).2) (by decide) (by decide) ?_
        show Steps p.tables e below (T260.setTop (mkF m 126 #[iv p1, iv p2, iv p3, iv ((p1 &&& (65535 : Int32)).toUInt32.toUInt16.toUInt32.toInt32), iv (3 : Int32), iv ((p2 &&& (65535 : Int32)).toUInt32.toUInt16.toUInt32.toInt32), rv b199, rv b206, iv (0 : Int32), .unset] [])) _
        refine XS.aload X260.here hx rfl (hb hby at_126) rfl rfl ?_
        show Steps p.tables e below (T260.setTop (mkF m 128 #[iv p1, iv p2, iv p3, iv ((p1 &&& (65535 : Int32)).toUInt32.toUInt16.toUInt32.toInt32), iv (3 : Int32), iv ((p2 &&& (65535 : Int32)).toUInt32.toUInt16.toUInt32.toInt32), rv b199, rv b206, iv (0 : Int32), .unset] [(.ref b199)])) _
        refine XS.aconstNull X260.here hx rfl (hb hby at_128) ?_
        show Steps p.tables e below (T260.setTop (mkF m 129 #[iv p1, iv p2, iv p3, iv ((p1 &&& (65535 : Int32)).toUInt32.toUInt16.toUInt32.toInt32), iv (3 : Int32), iv ((p2 &&& (65535 : Int32)).toUInt32.toUInt16.toUInt32.toInt32), rv b199, rv b206, iv (0 : Int32), .unset] [.null, (.ref b199)])) _
        exact k
      obtain ⟨cq263, kq263, qq263a, qq263b, qq263c⟩ := isOf hZ e260 f254
      obtain ⟨_, _, ⟨T263, L263, kk263, nn263⟩, -, X263, ⟨Lc263, hQ263, l263, y263, z263⟩, st263⟩ := X260.virtualBack hx (y := (⟨"com/example/stubwright/stubwright/idl/ConstValue$CharValue", "equals", "(Ljava/lang/Object;)Z"⟩ : MethodName)) (z := (⟨"com/example/stubwright/stubwright/idl/ConstValue$CharValue", "equals", "(Ljava/lang/Object;)Z"⟩ : MethodName)) hown (mvT hZ (hw _ (List.mem_of_getElem? (i := 17) rfl))) (mvT hZ (hw _ (List.mem_of_getElem? (i := 18) rfl))) (notFace_of_selects (args := #[]) (mvT hZ (hw _ (List.mem_of_getElem? (i := 20) rfl)))) (mvT hZ (hw _ (List.mem_of_getElem? (i := 20) rfl))) (mvT hZ (hw _ (List.mem_of_getElem? (i := 19) rfl))) (by decide) (backOf (W := 0) (eqNull l Z a0 hw [] wC clC G b199 T210.heap n0 O210 ) hZ (hw _ (List.mem_of_getElem? (i := 21) rfl)) (hw _ (List.mem_of_getElem? (i := 3) rfl)) (by decide) (by decide)) qq263a qq263c (g := (mkF m 129 #[iv p1, iv p2, iv p3, iv ((p1 &&& (65535 : Int32)).toUInt32.toUInt16.toUInt32.toInt32), iv (3 : Int32), iv ((p2 &&& (65535 : Int32)).toUInt32.toUInt16.toUInt32.toInt32), rv b199, rv b206, iv (0 : Int32), .unset] [.null, (.ref b199)])) rfl (by rw [hml]; rfl) (Steps.refl _) (argsL := [.null]) (rest := []) (lenOf pd_3 rfl) rfl (by show 2 * 0 + _ ≤ _; exact Nat.le_of_eq rfl) (hb hby at_129) (fun _ _ => ⟨rfl, e260, (by decide : 2 + 0 ≤ _), (by decide : 2 + 0 ≤ _)⟩)
      dsimp only [Pt.U, Pt.locs, Pt.cells, Pt.slots] at X263 l263 y263 z263 st263 hQ263
      subst l263 y263 z263
      obtain ⟨rfl, Nq263, e263⟩ := hQ263
      have N263 := Fr.app N260 Nq263
      have k264 : Way p e below S0 T263 (mkF m 132 #[iv p1, iv p2, iv p3, iv ((p1 &&& (65535 : Int32)).toUInt32.toUInt16.toUInt32.toInt32), iv (3 : Int32), iv ((p2 &&& (65535 : Int32)).toUInt32.toUInt16.toUInt32.toInt32), rv b199, rv b206, iv (0 : Int32), .unset] [(.int (0 : Int32))]) := fun t k => k262 t (st263.trans k)
      have k265 : Way p e below S0 T263 (mkF m 143 #[iv p1, iv p2, iv p3, iv ((p1 &&& (65535 : Int32)).toUInt32.toUInt16.toUInt32.toInt32), iv (3 : Int32), iv ((p2 &&& (65535 : Int32)).toUInt32.toUInt16.toUInt32.toInt32), rv b199, rv b206, iv (0 : Int32), .unset] []) := by
        intro t k
        refine k264 t ?_
        refine XS.ifYes X263.here hx rfl (pc0 := 132) (pc' := 137) rfl (hb hby at_132) rfl ((if0 _ _).trans (teq ((by decide) : (0 : Int32) = (0 : Int32))).1) (by decide) (by decide) ?_
        show Steps p.tables e below (T263.setTop (mkF m 137 #[iv p1, iv p2, iv p3, iv ((p1 &&& (65535 : Int32)).toUInt32.toUInt16.toUInt32.toInt32), iv (3 : Int32), iv ((p2 &&& (65535 : Int32)).toUInt32.toUInt16.toUInt32.toInt32), rv b199, rv b206, iv (0 : Int32), .unset] [])) _
        refine XS.iload X263.here hx rfl (hb hby at_137) rfl ?_
        show Steps p.tables e below (T263.setTop (mkF m 139 #[iv p1, iv p2, iv p3, iv ((p1 &&& (65535 : Int32)).toUInt32.toUInt16.toUInt32.toInt32), iv (3 : Int32), iv ((p2 &&& (65535 : Int32)).toUInt32.toUInt16.toUInt32.toInt32), rv b199, rv b206, iv (0 : Int32), .unset] [(.int (3 : Int32))])) _
        refine XS.iconst X263.here hx rfl (hb hby at_139) ?_
        show Steps p.tables e below (T263.setTop (mkF m 140 #[iv p1, iv p2, iv p3, iv ((p1 &&& (65535 : Int32)).toUInt32.toUInt16.toUInt32.toInt32), iv (3 : Int32), iv ((p2 &&& (65535 : Int32)).toUInt32.toUInt16.toUInt32.toInt32), rv b199, rv b206, iv (0 : Int32), .unset] [(.int (3 : Int32)), (.int (3 : Int32))])) _
        refine XS.icmpNo X263.here hx rfl (hb hby at_140) rfl (teq ((by decide) : (3 : Int32) = (3 : Int32))).2 ?_
        show Steps p.tables e below (T263.setTop (mkF m 143 #[iv p1, iv p2, iv p3, iv ((p1 &&& (65535 : Int32)).toUInt32.toUInt16.toUInt32.toInt32), iv (3 : Int32), iv ((p2 &&& (65535 : Int32)).toUInt32.toUInt16.toUInt32.toInt32), rv b199, rv b206, iv (0 : Int32), .unset] [])) _
        exact k
      obtain ⟨T266, h266, X266, e266, E266, A266, D266, U266, st266⟩ := newO X263 hx hZ hown (hw _ (List.mem_of_getElem? (i := 34) rfl)) (hw _ (List.mem_of_getElem? (i := 35) rfl)) (hw _ (List.mem_of_getElem? (i := 36) rfl)) e263 (g := (mkF m 143 #[iv p1, iv p2, iv p3, iv ((p1 &&& (65535 : Int32)).toUInt32.toUInt16.toUInt32.toInt32), iv (3 : Int32), iv ((p2 &&& (65535 : Int32)).toUInt32.toUInt16.toUInt32.toInt32), rv b199, rv b206, iv (0 : Int32), .unset] [])) rfl (hb hby at_143) (by decide) (by decide)
      obtain ⟨b266, g266⟩ : ∃ z, z = T210.heap.size := ⟨_, rfl⟩
      rw [← g266] at A266 D266 U266 st266
      have O266 := O210.ext E266
      have i266_value : Fld Z h266 b266 "com/example/stubwright/stubwright/idl/ConstValue$BooleanValue" "value" "Z" (.int (0 : Int32)) := D266 (Or.inr (hw _ (List.mem_of_getElem? (i := 42) rfl))) (ty := .boolean) (by decide)
      have k267 : Way p e below S0 T266 (mkF m 146 #[iv p1, iv p2, iv p3, iv ((p1 &&& (65535 : Int32)).toUInt32.toUInt16.toUInt32.toInt32), iv (3 : Int32), iv ((p2 &&& (65535 : Int32)).toUInt32.toUInt16.toUInt32.toInt32), rv b199, rv b206, iv (0 : Int32), .unset] [(.ref b266)]) := fun t k => k265 t (st266 _ k)
      have k269 : Way p e below S0 T266 (mkF m 150 #[iv p1, iv p2, iv p3, iv ((p1 &&& (65535 : Int32)).toUInt32.toUInt16.toUInt32.toInt32), iv (3 : Int32), iv ((p2 &&& (65535 : Int32)).toUInt32.toUInt16.toUInt32.toInt32), rv b199, rv b206, iv (0 : Int32), .unset] [(.int (p2 &&& (1 : Int32))), (.ref b266), (.ref b266)]) := by
        intro t k
        refine k267 t ?_
        refine XS.dup X266.here hx rfl (hb hby at_146) rfl rfl ?_
        show Steps p.tables e below (T266.setTop (mkF m 147 #[iv p1, iv p2, iv p3, iv ((p1 &&& (65535 : Int32)).toUInt32.toUInt16.toUInt32.toInt32), iv (3 : Int32), iv ((p2 &&& (65535 : Int32)).toUInt32.toUInt16.toUInt32.toInt32), rv b199, rv b206, iv (0 : Int32), .unset] [(.ref b266), (.ref b266)])) _
        refine XS.iloadN X266.here hx rfl (hb hby at_147) rfl ?_
        show Steps p.tables e below (T266.setTop (mkF m 148 #[iv p1, iv p2, iv p3, iv ((p1 &&& (65535 : Int32)).toUInt32.toUInt16.toUInt32.toInt32), iv (3 : Int32), iv ((p2 &&& (65535 : Int32)).toUInt32.toUInt16.toUInt32.toInt32), rv b199, rv b206, iv (0 : Int32), .unset] [(.int p2), (.ref b266), (.ref b266)])) _
        refine XS.iconst X266.here hx rfl (hb hby at_148) ?_
        show Steps p.tables e below (T266.setTop (mkF m 149 #[iv p1, iv p2, iv p3, iv ((p1 &&& (65535 : Int32)).toUInt32.toUInt16.toUInt32.toInt32), iv (3 : Int32), iv ((p2 &&& (65535 : Int32)).toUInt32.toUInt16.toUInt32.toInt32), rv b199, rv b206, iv (0 : Int32), .unset] [(.int (1 : Int32)), (.int p2), (.ref b266), (.ref b266)])) _
        refine XS.iand X266.here hx rfl (hb hby at_149) rfl ?_
        show Steps p.tables e below (T266.setTop (mkF m 150 #[iv p1, iv p2, iv p3, iv ((p1 &&& (65535 : Int32)).toUInt32.toUInt16.toUInt32.toInt32), iv (3 : Int32), iv ((p2 &&& (65535 : Int32)).toUInt32.toUInt16.toUInt32.toInt32), rv b199, rv b206, iv (0 : Int32), .unset] [(.int (p2 &&& (1 : Int32))), (.ref b266), (.ref b266)])) _
        exact k
      by_cases hc268 : (p2 &&& (1 : Int32)) = (0 : Int32)
      · have k270 : Way p e below S0 T266 (mkF m 158 #[iv p1, iv p2, iv p3, iv ((p1 &&& (65535 : Int32)).toUInt32.toUInt16.toUInt32.toInt32), iv (3 : Int32), iv ((p2 &&& (65535 : Int32)).toUInt32.toUInt16.toUInt32.toInt32), rv b199, rv b206, iv (0 : Int32), .unset] [(.int (0 : Int32)), (.ref b266), (.ref b266)]) := by
          intro t k
          refine k269 t ?_
          refine XS.ifYes X266.here hx rfl (pc0 := 150) (pc' := 157) rfl (hb hby at_150) rfl ((if0 _ _).trans (teq (hc268 : (p2 &&& (1 : Int32)) = (0 : Int32))).1) (by decide) (by decide) ?_
          show Steps p.tables e below (T266.setTop (mkF m 157 #[iv p1, iv p2, iv p3, iv ((p1 &&& (65535 : Int32)).toUInt32.toUInt16.toUInt32.toInt32), iv (3 : Int32), iv ((p2 &&& (65535 : Int32)).toUInt32.toUInt16.toUInt32.toInt32), rv b199, rv b206, iv (0 : Int32), .unset] [(.ref b266), (.ref b266)])) _
          refine XS.iconst X266.here hx rfl (hb hby at_157) ?_
          show Steps p.tables e below (T266.setTop (mkF m 158 #[iv p1, iv p2, iv p3, iv ((p1 &&& (65535 : Int32)).toUInt32.toUInt16.toUInt32.toInt32), iv (3 : Int32), iv ((p2 &&& (65535 : Int32)).toUInt32.toUInt16.toUInt32.toInt32), rv b199, rv b206, iv (0 : Int32), .unset] [(.int (0 : Int32)), (.ref b266), (.ref b266)])) _
          exact k
        have ge271 : n0 ≤ b266 := Nat.le_trans (own_old O210) (Nat.le_of_eq g266.symm)
        obtain ⟨_, _, ⟨T272, L272, kk272, nn272⟩, -, X272, ⟨Lc272, hQ272, l272, y272, z272⟩, st272⟩ := X266.specialBack hx (y := (⟨"com/example/stubwright/stubwright/idl/ConstValue$BooleanValue", "<init>", "(Z)V"⟩ : MethodName)) rfl hown (mvT hZ (hw _ (List.mem_of_getElem? (i := 37) rfl))) (mvT hZ (hw _ (List.mem_of_getElem? (i := 38) rfl))) (mvT hZ (hw _ (List.mem_of_getElem? (i := 39) rfl))) (by decide) (backOf (W := 1) (bvInit0 l Z a0 hw [] wC clC G b266 h266 n0 O266 (A266 : Exa Z h266 b266 "com/example/stubwright/stubwright/idl/ConstValue$BooleanValue") (i266_value : Fld Z h266 b266 "com/example/stubwright/stubwright/idl/ConstValue$BooleanValue" "value" "Z" (.int (0 : Int32))) (ge271 : n0 ≤ b266)) hZ (hw _ (List.mem_of_getElem? (i := 39) rfl)) (hw _ (List.mem_of_getElem? (i := 36) rfl)) (by decide) (by decide)) (g := (mkF m 158 #[iv p1, iv p2, iv p3, iv ((p1 &&& (65535 : Int32)).toUInt32.toUInt16.toUInt32.toInt32), iv (3 : Int32), iv ((p2 &&& (65535 : Int32)).toUInt32.toUInt16.toUInt32.toInt32), rv b199, rv b206, iv (0 : Int32), .unset] [(.int (0 : Int32)), (.ref b266), (.ref b266)])) rfl (by rw [hml]; rfl) (Steps.refl _) (a := b266) (argsL := [(.int (0 : Int32))]) (rest := [(.ref b266)]) (lenOf pd_5 rfl) rfl (by show 2 * 0 + _ ≤ _; exact Nat.le_of_eq rfl) (hb hby at_158) (fun _ _ => ⟨rfl, e266, (by decide : 3 + 0 ≤ _), (by decide : 3 + 0 ≤ _)⟩)
        dsimp only [Pt.U, Pt.locs, Pt.cells, Pt.slots] at X272 l272 y272 z272 st272 hQ272
        subst l272 y272 z272
        obtain ⟨rfl, Nq272, Kq272, po272_0, po272_1⟩ := hQ272
        have N272 := Fr.app N263 Nq272
        have O272 := O266.keep Kq272 (allS ge271 all0)
        have k273 : Way p e below S0 T272 (mkF m 161 #[iv p1, iv p2, iv p3, iv ((p1 &&& (65535 : Int32)).toUInt32.toUInt16.toUInt32.toInt32), iv (3 : Int32), iv ((p2 &&& (65535 : Int32)).toUInt32.toUInt16.toUInt32.toInt32), rv b199, rv b206, iv (0 : Int32), .unset] [(.ref b266)]) := fun t k => k270 t (st272.trans k)
        have k274 : Way p e below S0 T272 (mkF m 176 #[iv p1, iv p2, iv p3, iv ((p1 &&& (65535 : Int32)).toUInt32.toUInt16.toUInt32.toInt32), iv (3 : Int32), iv ((p2 &&& (65535 : Int32)).toUInt32.toUInt16.toUInt32.toInt32), rv b199, rv b206, iv (0 : Int32), rv b266] [(.ref b266), (.ref b199)]) := by
          intro t k
          refine k273 t ?_
          refine XS.astore X272.here hx rfl (hb hby at_161) rfl rfl (l' := #[iv p1, iv p2, iv p3, iv ((p1 &&& (65535 : Int32)).toUInt32.toUInt16.toUInt32.toInt32), iv (3 : Int32), iv ((p2 &&& (65535 : Int32)).toUInt32.toUInt16.toUInt32.toInt32), rv b199, rv b206, iv (0 : Int32), rv b266]) rfl ?_
          show Steps p.tables e below (T272.setTop (mkF m 163 #[iv p1, iv p2, iv p3, iv ((p1 &&& (65535 : Int32)).toUInt32.toUInt16.toUInt32.toInt32), iv (3 : Int32), iv ((p2 &&& (65535 : Int32)).toUInt32.toUInt16.toUInt32.toInt32), rv b199, rv b206, iv (0 : Int32), rv b266] [])) _
          refine XS.goto X272.here hx rfl (pc0 := 163) (pc' := 172) rfl (hb hby at_163) (by decide) (by decide) ?_
          show Steps p.tables e below (T272.setTop (mkF m 172 #[iv p1, iv p2, iv p3, iv ((p1 &&& (65535 : Int32)).toUInt32.toUInt16.toUInt32.toInt32), iv (3 : Int32), iv ((p2 &&& (65535 : Int32)).toUInt32.toUInt16.toUInt32.toInt32), rv b199, rv b206, iv (0 : Int32), rv b266] [])) _
          refine XS.aload X272.here hx rfl (hb hby at_172) rfl rfl ?_
          show Steps p.tables e below (T272.setTop (mkF m 174 #[iv p1, iv p2, iv p3, iv ((p1 &&& (65535 : Int32)).toUInt32.toUInt16.toUInt32.toInt32), iv (3 : Int32), iv ((p2 &&& (65535 : Int32)).toUInt32.toUInt16.toUInt32.toInt32), rv b199, rv b206, iv (0 : Int32), rv b266] [(.ref b199)])) _
          refine XS.aload X272.here hx rfl (hb hby at_174) rfl rfl ?_
          show Steps p.tables e below (T272.setTop (mkF m 176 #[iv p1, iv p2, iv p3, iv ((p1 &&& (65535 : Int32)).toUInt32.toUInt16.toUInt32.toInt32), iv (3 : Int32), iv ((p2 &&& (65535 : Int32)).toUInt32.toUInt16.toUInt32.toInt32), rv b199, rv b206, iv (0 : Int32), rv b266] [(.ref b266), (.ref b199)])) _
          exact k
        have f276 : Exa Z T272.heap b199 "com/example/stubwright/stubwright/idl/ConstValue$CharValue" := ((f254.ext E266).keep Kq272)
        obtain ⟨cq275, kq275, qq275a, qq275b, qq275c⟩ := isOf hZ rfl f276
        obtain ⟨_, _, ⟨T275, L275, kk275, nn275⟩, -, X275, ⟨Lc275, hQ275, l275, y275, z275⟩, st275⟩ := X272.virtualBack hx (y := (⟨"com/example/stubwright/stubwright/idl/ConstValue$CharValue", "equals", "(Ljava/lang/Object;)Z"⟩ : MethodName)) (z := (⟨"com/example/stubwright/stubwright/idl/ConstValue$CharValue", "equals", "(Ljava/lang/Object;)Z"⟩ : MethodName)) hown (mvT hZ (hw _ (List.mem_of_getElem? (i := 17) rfl))) (mvT hZ (hw _ (List.mem_of_getElem? (i := 18) rfl))) (notFace_of_selects (args := #[]) (mvT hZ (hw _ (List.mem_of_getElem? (i := 20) rfl)))) (mvT hZ (hw _ (List.mem_of_getElem? (i := 20) rfl))) (mvT hZ (hw _ (List.mem_of_getElem? (i := 19) rfl))) (by decide) (backOf (W := 0) (eqOther0 l Z a0 hw [] wC clC G b199 b266 T272.heap n0 O272 (po272_0 : Exa Z T272.heap b266 "com/example/stubwright/stubwright/idl/ConstValue$BooleanValue")) hZ (hw _ (List.mem_of_getElem? (i := 21) rfl)) (hw _ (List.mem_of_getElem? (i := 3) rfl)) (by decide) (by decide)) qq275a qq275c (g := (mkF m 176 #[iv p1, iv p2, iv p3, iv ((p1 &&& (65535 : Int32)).toUInt32.toUInt16.toUInt32.toInt32), iv (3 : Int32), iv ((p2 &&& (65535 : Int32)).toUInt32.toUInt16.toUInt32.toInt32), rv b199, rv b206, iv (0 : Int32), rv b266] [(.ref b266), (.ref b199)])) rfl (by rw [hml]; rfl) (Steps.refl _) (argsL := [(.ref b266)]) (rest := []) (lenOf pd_3 rfl) rfl (by show 2 * 0 + _ ≤ _; exact Nat.le_of_eq rfl) (hb hby at_176) (fun _ _ => ⟨rfl, rfl, (by decide : 3 + 0 ≤ _), (by decide : 3 + 0 ≤ _)⟩)
        dsimp only [Pt.U, Pt.locs, Pt.cells, Pt.slots] at X275 l275 y275 z275 st275 hQ275
        subst l275 y275 z275
        obtain ⟨rfl, Nq275, e275⟩ := hQ275
        have N275 := Fr.app N272 Nq275
        have k277 : Way p e below S0 T275 (mkF m 179 #[iv p1, iv p2, iv p3, iv ((p1 &&& (65535 : Int32)).toUInt32.toUInt16.toUInt32.toInt32), iv (3 : Int32), iv ((p2 &&& (65535 : Int32)).toUInt32.toUInt16.toUInt32.toInt32), rv b199, rv b206, iv (0 : Int32), rv b266] [(.int (0 : Int32))]) := fun t k => k274 t (st275.trans k)
        have k278 : Way p e below S0 T275 (mkF m 185 #[iv p1, iv p2, iv p3, iv ((p1 &&& (65535 : Int32)).toUInt32.toUInt16.toUInt32.toInt32), iv (3 : Int32), iv ((p2 &&& (65535 : Int32)).toUInt32.toUInt16.toUInt32.toInt32), rv b199, rv b206, iv (0 : Int32), rv b266] [(.int (1 : Int32))]) := by
          intro t k
          refine k277 t ?_
          refine XS.ifYes X275.here hx rfl (pc0 := 179) (pc' := 184) rfl (hb hby at_179) rfl ((if0 _ _).trans (teq ((by decide) : (0 : Int32) = (0 : Int32))).1) (by decide) (by decide) ?_
          show Steps p.tables e below (T275.setTop (mkF m 184 #[iv p1, iv p2, iv p3, iv ((p1 &&& (65535 : Int32)).toUInt32.toUInt16.toUInt32.toInt32), iv (3 : Int32), iv ((p2 &&& (65535 : Int32)).toUInt32.toUInt16.toUInt32.toInt32), rv b199, rv b206, iv (0 : Int32), rv b266] [])) _
          refine XS.iconst X275.here hx rfl (hb hby at_184) ?_
          show Steps p.tables e below (T275.setTop (mkF m 185 #[iv p1, iv p2, iv p3, iv ((p1 &&& (65535 : Int32)).toUInt32.toUInt16.toUInt32.toInt32), iv (3 : Int32), iv ((p2 &&& (65535 : Int32)).toUInt32.toUInt16.toUInt32.toInt32), rv b199, rv b206, iv (0 : Int32), rv b266] [(.int (1 : Int32))])) _
          exact k
        obtain ⟨fs, hr, hrun, hended, hW, hsame⟩ := X275.leave (v := some (.int (1 : Int32))) (fun h => by rw [Bd.returns] at h; cases h)
        refine ⟨_, _, k278 _ (retN X275 hx (t := .boolean) Bd.returns (by simp) (hb hby at_185) hr), hrun, hended, _, _, rfl, ?_, ⟨_, rfl⟩, hW, hsame.mono (by decide) (by decide)⟩
        show Q_law_met Z wC clC p1 p2 p3 h0 n0 _ T275.heap _
        rw [e275]
        exact ⟨rfl, N275⟩
      · have k279 : Way p e below S0 T266 (mkF m 158 #[iv p1, iv p2, iv p3, iv ((p1 &&& (65535 : Int32)).toUInt32.toUInt16.toUInt32.toInt32), iv (3 : Int32), iv ((p2 &&& (65535 : Int32)).toUInt32.toUInt16.toUInt32.toInt32), rv b199, rv b206, iv (0 : Int32), .unset] [(.int (1 : Int32)), (.ref b266), (.ref b266)]) := by
          intro t k
          refine k269 t ?_
          refine XS.ifNo X266.here hx rfl (hb hby at_150) rfl ((if0 _ _).trans (feq (hc268 : ¬ ((p2 &&& (1 : Int32)) = (0 : Int32)))).1) ?_
          show Steps p.tables e below (T266.setTop (mkF m 153 #[iv p1, iv p2, iv p3, iv ((p1 &&& (65535 : Int32)).toUInt32.toUInt16.toUInt32.toInt32), iv (3 : Int32), iv ((p2 &&& (65535 : Int32)).toUInt32.toUInt16.toUInt32.toInt32), rv b199, rv b206, iv (0 : Int32), .unset] [(.ref b266), (.ref b266)])) _
          refine XS.iconst X266.here hx rfl (hb hby at_153) ?_
          show Steps p.tables e below (T266.setTop (mkF m 154 #[iv p1, iv p2, iv p3, iv ((p1 &&& (65535 : Int32)).toUInt32.toUInt16.toUInt32.toInt32), iv (3 : Int32), iv ((p2 &&& (65535 : Int32)).toUInt32.toUInt16.toUInt32.toInt32), rv b199, rv b206, iv (0 : Int32), .unset] [(.int (1 : Int32)), (.ref b266), (.ref b266)])) _
          refine XS.goto X266.here hx rfl (pc0 := 154) (pc' := 158) rfl (hb hby at_154) (by decide) (by decide) ?_
          show Steps p.tables e below (T266.setTop (mkF m 158 #[iv p1, iv p2, iv p3, iv ((p1 &&& (65535 : Int32)).toUInt32.toUInt16.toUInt32.toInt32), iv (3 : Int32), iv ((p2 &&& (65535 : Int32)).toUInt32.toUInt16.toUInt32.toInt32), rv b199, rv b206, iv (0 : Int32), .unset] [(.int (1 : Int32)), (.ref b266), (.ref b266)])) _
          exact k
        have ge280 : n0 ≤ b266 := Nat.le_trans (own_old O210) (Nat.le_of_eq g266.symm)
        obtain ⟨_, _, ⟨T281, L281, kk281, nn281⟩, -, X281, ⟨Lc281, hQ281, l281, y281, z281⟩, st281⟩ := X266.specialBack hx (y := (⟨"com/example/stubwright/stubwright/idl/ConstValue$BooleanValue", "<init>", "(Z)V"⟩ : MethodName)) rfl hown (mvT hZ (hw _ (List.mem_of_getElem? (i := 37) rfl))) (mvT hZ (hw _ (List.mem_of_getElem? (i := 38) rfl))) (mvT hZ (hw _ (List.mem_of_getElem? (i := 39) rfl))) (by decide) (backOf (W := 1) (bvInit1 l Z a0 hw [] wC clC G b266 h266 n0 O266 (A266 : Exa Z h266 b266 "com/example/stubwright/stubwright/idl/ConstValue$BooleanValue") (i266_value : Fld Z h266 b266 "com/example/stubwright/stubwright/idl/ConstValue$BooleanValue" "value" "Z" (.int (0 : Int32))) (ge280 : n0 ≤ b266)) hZ (hw _ (List.mem_of_getElem? (i := 39) rfl)) (hw _ (List.mem_of_getElem? (i := 36) rfl)) (by decide) (by decide)) (g := (mkF m 158 #[iv p1, iv p2, iv p3, iv ((p1 &&& (65535 : Int32)).toUInt32.toUInt16.toUInt32.toInt32), iv (3 : Int32), iv ((p2 &&& (65535 : Int32)).toUInt32.toUInt16.toUInt32.toInt32), rv b199, rv b206, iv (0 : Int32), .unset] [(.int (1 : Int32)), (.ref b266), (.ref b266)])) rfl (by rw [hml]; rfl) (Steps.refl _) (a := b266) (argsL := [(.int (1 : Int32))]) (rest := [(.ref b266)]) (lenOf pd_5 rfl) rfl (by show 2 * 0 + _ ≤ _; exact Nat.le_of_eq rfl) (hb hby at_158) (fun _ _ => ⟨rfl, e266, (by decide : 3 + 0 ≤ _), (by decide : 3 + 0 ≤ _)⟩)
        dsimp only [Pt.U, Pt.locs, Pt.cells, Pt.slots] at X281 l281 y281 z281 st281 hQ281
        subst l281 y281 z281
        obtain ⟨rfl, Nq281, Kq281, po281_0, po281_1⟩ := hQ281
        have N281 := Fr.app N263 Nq281
        have O281 := O266.keep Kq281 (allS ge280 all0)
        have k282 : Way p e below S0 T281 (mkF m 161 #[iv p1, iv p2, iv p3, iv ((p1 &&& (65535 : Int32)).toUInt32.toUInt16.toUInt32.toInt32), iv (3 : Int32), iv ((p2 &&& (65535 : Int32)).toUInt32.toUInt16.toUInt32.toInt32), rv b199, rv b206, iv (0 : Int32), .unset] [(.ref b266)]) := fun t k => k279 t (st281.trans k)
        have k283 : Way p e below S0 T281 (mkF m 176 #[iv p1, iv p2, iv p3, iv ((p1 &&& (65535 : Int32)).toUInt32.toUInt16.toUInt32.toInt32), iv (3 : Int32), iv ((p2 &&& (65535 : Int32)).toUInt32.toUInt16.toUInt32.toInt32), rv b199, rv b206, iv (0 : Int32), rv b266] [(.ref b266), (.ref b199)]) := by
          intro t k
          refine k282 t ?_
          refine XS.astore X281.here hx rfl (hb hby at_161) rfl rfl (l' := #[iv p1, iv p2, iv p3, iv ((p1 &&& (65535 : Int32)).toUInt32.toUInt16.toUInt32.toInt32), iv (3 : Int32), iv ((p2 &&& (65535 : Int32)).toUInt32.toUInt16.toUInt32.toInt32), rv b199, rv b206, iv (0 : Int32), rv b266]) rfl ?_
          show Steps p.tables e below (T281.setTop (mkF m 163 #[iv p1, iv p2, iv p3, iv ((p1 &&& (65535 : Int32)).toUInt32.toUInt16.toUInt32.toInt32), iv (3 : Int32), iv ((p2 &&& (65535 : Int32)).toUInt32.toUInt16.toUInt32.toInt32), rv b199, rv b206, iv (0 : Int32), rv b266] [])) _
          refine XS.goto X281.here hx rfl (pc0 := 163) (pc' := 172) rfl (hb hby at_163) (by decide) (by decide) ?_
          show Steps p.tables e below (T281.setTop (mkF m 172 #[iv p1, iv p2, iv p3, iv ((p1 &&& (65535 : Int32)).toUInt32.toUInt16.toUInt32.toInt32), iv (3 : Int32), iv ((p2 &&& (65535 : Int32)).toUInt32.toUInt16.toUInt32.toInt32), rv b199, rv b206, iv (0 : Int32), rv b266] [])) _
          refine XS.aload X281.here hx rfl (hb hby at_172) rfl rfl ?_
          show Steps p.tables e below (T281.setTop (mkF m 174 #[iv p1, iv p2, iv p3, iv ((p1 &&& (65535 : Int32)).toUInt32.toUInt16.toUInt32.toInt32), iv (3 : Int32), iv ((p2 &&& (65535 : Int32)).toUInt32.toUInt16.toUInt32.toInt32), rv b199, rv b206, iv (0 : Int32), rv b266] [(.ref b199)])) _
          refine XS.aload X281.here hx rfl (hb hby at_174) rfl rfl ?_
          show Steps p.tables e below (T281.setTop (mkF m 176 #[iv p1, iv p2, iv p3, iv ((p1 &&& (65535 : Int32)).toUInt32.toUInt16.toUInt32.toInt32), iv (3 : Int32), iv ((p2 &&& (65535 : Int32)).toUInt32.toUInt16.toUInt32.toInt32), rv b199, rv b206, iv (0 : Int32), rv b266] [(.ref b266), (.ref b199)])) _
          exact k
        have f285 : Exa Z T281.heap b199 "com/example/stubwright/stubwright/idl/ConstValue$CharValue" := ((f254.ext E266).keep Kq281)
        obtain ⟨cq284, kq284, qq284a, qq284b, qq284c⟩ := isOf hZ rfl f285
        obtain ⟨_, _, ⟨T284, L284, kk284, nn284⟩, -, X284, ⟨Lc284, hQ284, l284, y284, z284⟩, st284⟩ := X281.virtualBack hx (y := (⟨"com/example/stubwright/stubwright/idl/ConstValue$CharValue", "equals", "(Ljava/lang/Object;)Z"⟩ : MethodName)) (z := (⟨"com/example/stubwright/stubwright/idl/ConstValue$CharValue", "equals", "(Ljava/lang/Object;)Z"⟩ : MethodName)) hown (mvT hZ (hw _ (List.mem_of_getElem? (i := 17) rfl))) (mvT hZ (hw _ (List.mem_of_getElem? (i := 18) rfl))) (notFace_of_selects (args := #[]) (mvT hZ (hw _ (List.mem_of_getElem? (i := 20) rfl)))) (mvT hZ (hw _ (List.mem_of_getElem? (i := 20) rfl))) (mvT hZ (hw _ (List.mem_of_getElem? (i := 19) rfl))) (by decide) (backOf (W := 0) (eqOther0 l Z a0 hw [] wC clC G b199 b266 T281.heap n0 O281 (po281_0 : Exa Z T281.heap b266 "com/example/stubwright/stubwright/idl/ConstValue$BooleanValue")) hZ (hw _ (List.mem_of_getElem? (i := 21) rfl)) (hw _ (List.mem_of_getElem? (i := 3) rfl)) (by decide) (by decide)) qq284a qq284c (g := (mkF m 176 #[iv p1, iv p2, iv p3, iv ((p1 &&& (65535 : Int32)).toUInt32.toUInt16.toUInt32.toInt32), iv (3 : Int32), iv ((p2 &&& (65535 : Int32)).toUInt32.toUInt16.toUInt32.toInt32), rv b199, rv b206, iv (0 : Int32), rv b266] [(.ref b266), (.ref b199)])) rfl (by rw [hml]; rfl) (Steps.refl _) (argsL := [(.ref b266)]) (rest := []) (lenOf pd_3 rfl) rfl (by show 2 * 0 + _ ≤ _; exact Nat.le_of_eq rfl) (hb hby at_176) (fun _ _ => ⟨rfl, rfl, (by decide : 3 + 0 ≤ _), (by decide : 3 + 0 ≤ _)⟩)
        dsimp only [Pt.U, Pt.locs, Pt.cells, Pt.slots] at X284 l284 y284 z284 st284 hQ284
        subst l284 y284 z284
        obtain ⟨rfl, Nq284, e284⟩ := hQ284
        have N284 := Fr.app N281 Nq284
        have k286 : Way p e below S0 T284 (mkF m 179 #[iv p1, iv p2, iv p3, iv ((p1 &&& (65535 : Int32)).toUInt32.toUInt16.toUInt32.toInt32), iv (3 : Int32), iv ((p2 &&& (65535 : Int32)).toUInt32.toUInt16.toUInt32.toInt32), rv b199, rv b206, iv (0 : Int32), rv b266] [(.int (0 : Int32))]) := fun t k => k283 t (st284.trans k)
        have k287 : Way p e below S0 T284 (mkF m 185 #[iv p1, iv p2, iv p3, iv ((p1 &&& (65535 : Int32)).toUInt32.toUInt16.toUInt32.toInt32), iv (3 : Int32), iv ((p2 &&& (65535 : Int32)).toUInt32.toUInt16.toUInt32.toInt32), rv b199, rv b206, iv (0 : Int32), rv b266] [(.int (1 : Int32))]) := by
          intro t k
          refine k286 t ?_
          refine XS.ifYes X284.here hx rfl (pc0 := 179) (pc' := 184) rfl (hb hby at_179) rfl ((if0 _ _).trans (teq ((by decide) : (0 : Int32) = (0 : Int32))).1) (by decide) (by decide) ?_
          show Steps p.tables e below (T284.setTop (mkF m 184 #[iv p1, iv p2, iv p3, iv ((p1 &&& (65535 : Int32)).toUInt32.toUInt16.toUInt32.toInt32), iv (3 : Int32), iv ((p2 &&& (65535 : Int32)).toUInt32.toUInt16.toUInt32.toInt32), rv b199, rv b206, iv (0 : Int32), rv b266] [])) _
          refine XS.iconst X284.here hx rfl (hb hby at_184) ?_
          show Steps p.tables e below (T284.setTop (mkF m 185 #[iv p1, iv p2, iv p3, iv ((p1 &&& (65535 : Int32)).toUInt32.toUInt16.toUInt32.toInt32), iv (3 : Int32), iv ((p2 &&& (65535 : Int32)).toUInt32.toUInt16.toUInt32.toInt32), rv b199, rv b206, iv (0 : Int32), rv b266] [(.int (1 : Int32))])) _
          exact k
        obtain ⟨fs, hr, hrun, hended, hW, hsame⟩ := X284.leave (v := some (.int (1 : Int32))) (fun h => by rw [Bd.returns] at h; cases h)
        refine ⟨_, _, k287 _ (retN X284 hx (t := .boolean) Bd.returns (by simp) (hb hby at_185) hr), hrun, hended, _, _, rfl, ?_, ⟨_, rfl⟩, hW, hsame.mono (by decide) (by decide)⟩
        show Q_law_met Z wC clC p1 p2 p3 h0 n0 _ T284.heap _
        rw [e284]
        exact ⟨rfl, N284⟩
set_option maxRecDepth 65536 in
set_option maxHeartbeats 40000000 in
theorem comes_1 {Post : Tables → Env → Array Value → State → Outcome → State → Prop} (hpost : ∀ tb e args s v u, (limb_1_1.after args s (.returned v) u = true ∧ limb_1_2.after args s (.returned v) u = true ∧ True) → FrameEnd s (.returned v) u (Jvm.fieldLocs frame_1_writes args s ++ Jvm.arrayLocs frame_1_arrays args s ++ Jvm.staticLocs frame_1_statics s) 16 128 → Post tb e args s (.returned v) u) :
    ArmFor flags0 classFile x code maxLocals ret World_1 tables_1 room_1 Calls_1 rest_1 Pre_1 Post := by
  intro l hfl _ _ p e ha hc hk s m args below hf hA hF happ hP
  obtain ⟨hcalls, hrest, hpre⟩ := hP
  obtain ⟨-, -, -, hnamed, -, -, -, hat⟩ := (Spec.applies_iff hf).mp happ
  obtain ⟨hg, hn⟩ := and_e (Cond.before_iff.mp (show (Jvm.Cond.and given_1 narrow_1).before args s = true from hpre))
  obtain ⟨g1a, g1b⟩ := and_e hg
  obtain ⟨g2a, g2b⟩ := and_e g1b
  obtain ⟨g3a, g3b⟩ := and_e g2b
  obtain ⟨w0, w1, w2, rfl⟩ : ∃ w0 w1 w2 : Value, args = #[w0, w1, w2] := by
    have hs : args.size = 3 := by simpa [Cond.value, given_1] using g1a
    obtain ⟨L⟩ := args
    match L, hs with
    | [w0, w1, w2], _ => exact ⟨w0, w1, w2, rfl⟩
  have hw := fun d (hd : d ∈ tables_1) => atoms_spec (ws := Jvm.Cond.code x code maxLocals ret :: tables_1) hat d (List.mem_cons_of_mem _ hd)
  have hfit : Fit s := fun {y c} hc i hi => by
    obtain ⟨ha, rfl⟩ := Array.getElem?_eq_some_iff.mp hc
    have q := List.all_eq_true.mp ((Array.all_eq_true_iff_forall_mem.mp hF) _ (Array.getElem_mem ha)) i (List.mem_range.mpr hi)
    simpa [Array.getElem?_eq_getElem hi] using q
  obtain ⟨hsets, hown0⟩ := atoms_of _ (rest_1_c_eq ▸ (show rest_1_c.before _ s = true from hrest))
  have hr0 := Cond.before_iff.mp hown0
  obtain ⟨i0, ei0⟩ := is_v g2a
  obtain rfl : w0 = (.int i0) := Option.some.inj ei0
  obtain ⟨i1, ei1⟩ := is_v g3a
  obtain rfl : w1 = (.int i1) := Option.some.inj ei1
  obtain ⟨i2, ei2⟩ := is_v g3b
  obtain rfl : w2 = (.int i2) := Option.some.inj ei2
  have S_high := Sta.start (v := .int (127 : Int32)) (Cond.eq_int (hsets _ (List.mem_of_getElem? (i := 3) rfl)) rfl) (Or.inl (hsets _ (List.mem_of_getElem? (i := 1) rfl)))
  obtain ⟨wC, ev_C⟩ := arr_v (Cond.before_iff.mp (hsets _ (List.mem_of_getElem? (i := 4) rfl)))
  have S_cache := Sta.start ev_C (Or.inr ⟨(hw _ (List.mem_of_getElem? (i := 29) rfl)), (hsets _ (List.mem_of_getElem? (i := 2) rfl))⟩)
  obtain ⟨clC, A_C, z_C, e_C⟩ := own_cache ev_C (Cond.before_iff.mp (hsets _ (List.mem_of_getElem? (i := 4) rfl))) (Cond.before_iff.mp (hsets _ (List.mem_of_getElem? (i := 6) rfl))) (Cond.before_iff.mp (hsets _ (List.mem_of_getElem? (i := 7) rfl)))
  have G : Gst s wC clC := ⟨S_high, S_cache, A_C, z_C, e_C⟩
  obtain ⟨n, o, h1, h2, h3, _, L, rfl, ⟨rfl, N⟩, hq⟩ := law_met l s _ hw tables_1 wC clC G i0 i1 i2 s.heap s.heap.size (Old.start s)  p e ha hc hk s m _ below hf ((Spec.applies_iff_loose hf).mp happ).1 ⟨rfl, State.Warmed39.refl s, rfl⟩ trivial
  refine ⟨n, _, h1, h2, h3, hpost _ _ _ _ _ _ ⟨Cond.after_iff.mpr rfl, Cond.after_iff.mpr (eq_i res_at (Term.int_eval (1)) rfl), trivial⟩ ⟨hq.1, hq.2.1, (hq.2.2.sift fun y hy => Or.inr (N y hy)).mono (by decide) (by decide)⟩⟩
theorem main_1_1 : Claimed_1_1 := comes_1 fun _ _ _ _ _ _ h hF => ⟨h.1, hF⟩
theorem main_1_2 : Claimed_1_2 := comes_1 fun _ _ _ _ _ _ h hF => ⟨h.2.1, hF⟩
end Jvm.Pilot.@@N@@
namespace Jvm.Pilot.@@N@@
open Jvm Jvm.ClassFile Sem Op Lib Jvm.Free Jvm.Stand Jvm.Pilot.@@N@@.Jvm.D
/-! MADE BY PROGRAM (witnessworld.py) out of the Statement's table words and the real class files: 19 classes; the members and pool entries that the words name. The judged class is class 1, her method 1. -/
namespace start1
open Jvm.ClassFile
def u (s : String) : CpInfo := .utf8 (stringToUtf16 s)
/-- a pool by its gaps: so many unusable entries, then the entry; so many at the end -/
def gap : Nat → List CpInfo → List CpInfo
  | 0, r => r
  | n + 1, r => .unusable :: gap n r
def poolList (es : List (Nat × CpInfo)) (last : Nat) : List CpInfo := es.foldr (fun e r => gap e.1 (e.2 :: r)) (gap last [])
def pool (es : List (Nat × CpInfo)) (last : Nat) : Array CpInfo := ⟨poolList es last⟩
def fileOf (pool : Array CpInfo) (this : Nat) (attrs : Array Attribute := #[]) (ms : Array MethodInfo := #[]) (fl : Nat := 33) (sup : Nat := 0) (ifs : Array Nat := #[]) (fds : Array FieldInfo := #[]) : ClassFile where
  minorVersion := 0
  majorVersion := 65
  constantPool := pool
  accessFlags := fl
  thisClass := this
  superClass := sup
  interfaces := ifs
  fields := fds
  methods := ms
  attributes := attrs
def plain (name : String) (sup : Option ClassId) : Class where
  name := name
  kind := .ordinary
  loader := none
  accessFlags := 33
  super := sup
  interfaces := #[]
  cf := none
  fields := #[]
  methods := #[]
  instanceTypes := #[]
  staticTypes := #[]
  resolved := #[]
  callSites := []
  init := .initialized
  statics := none
  mirror := none

def pool0 : Array CpInfo := pool [(5, u "<init>"), (0, u "()V"), (1, .class_ 10), (1, u "java/lang/Object")] 113

def k0c0 : Code := { maxStack := 0, maxLocals := 1, code := object_method_1_code, exceptionTable := #[], attributes := #[] }
def k0m0 : Method := { name := "<init>", desc := "()V", sig := { parameters := [], returnType := none }, accessFlags := 1, code := some k0c0 }
/-- java/lang/Object -/
def k0 : Class := { plain "java/lang/Object" none with
  accessFlags := 33
  interfaces := #[]
  cf := some (fileOf pool0 8 #[] #[{ accessFlags := 1, nameIndex := 5, descriptorIndex := 6, attributes := #[] }] 33 0 #[] #[])
  fields := #[]
  methods := #[k0m0]
  instanceTypes := #[]
  staticTypes := #[]
  resolved := Array.replicate 124 none
  statics := none }

def pool1 : Array CpInfo := pool [(2, .class_ 4), (1, u "java/lang/Object"), (0, u "<init>"), (0, u "()V"), (0, .integer 65535), (0, .class_ 9), (0, u "com/example/stubwright/stubwright/idl/ConstValue$CharValue"), (0, .methodref 8 11), (0, .nameAndType 5 12), (0, u "(C)V"), (0, .methodref 8 14), (0, .nameAndType 15 16), (0, u "equals"), (0, u "(Ljava/lang/Object;)Z"), (0, .class_ 18), (0, u "com/example/stubwright/stubwright/idl/ConstValue$BooleanValue"), (0, .methodref 17 20), (0, .nameAndType 5 21), (0, u "(Z)V"), (0, .methodref 23 24), (0, .class_ 25), (0, .nameAndType 26 27), (0, u "java/lang/Integer"), (0, u "valueOf"), (0, u "(I)Ljava/lang/Integer;"), (0, .class_ 29), (0, u "com/example/stubwright/stubwright/idl/CharValueEqualsPinLaw"), (2, u "law"), (0, u "(III)Z")] 8

def k1m0 : Method := { name := "<init>", desc := "()V", sig := { parameters := [], returnType := none }, accessFlags := 2, code := none }
def k1c1 : Code := { maxStack := 4, maxLocals := 10, code := code, exceptionTable := #[], attributes := #[] }
def k1m1 : Method := { name := "law", desc := "(III)Z", sig := { parameters := [.int, .int, .int], returnType := some .boolean }, accessFlags := 9, code := some k1c1 }
/-- com/example/stubwright/stubwright/idl/CharValueEqualsPinLaw -/
def k1 : Class := { plain "com/example/stubwright/stubwright/idl/CharValueEqualsPinLaw" (some 0) with
  accessFlags := 49
  interfaces := #[]
  cf := some (fileOf pool1 28 #[] #[{ accessFlags := 2, nameIndex := 5, descriptorIndex := 6, attributes := #[] }, { accessFlags := 9, nameIndex := 32, descriptorIndex := 33, attributes := #[] }] 49 2 #[] #[])
  fields := #[]
  methods := #[k1m0, k1m1]
  instanceTypes := #[]
  staticTypes := #[]
  resolved := Array.replicate 42 none
  statics := none }

def pool2 : Array CpInfo := pool [(1, .methodref 2 3), (0, .class_ 4), (0, .nameAndType 5 6), (0, u "java/lang/Object"), (0, u "<init>"), (0, u "()V"), (0, .class_ 8), (0, u "java/lang/Record")] 13

def k2c0 : Code := { maxStack := 1, maxLocals := 1, code := jdk_30_method_1_code, exceptionTable := #[], attributes := #[] }
def k2m0 : Method := { name := "<init>", desc := "()V", sig := { parameters := [], returnType := none }, accessFlags := 4, code := some k2c0 }
/-- java/lang/Record -/
def k2 : Class := { plain "java/lang/Record" (some 0) with
  accessFlags := 1057
  interfaces := #[]
  cf := some (fileOf pool2 7 #[] #[{ accessFlags := 4, nameIndex := 5, descriptorIndex := 6, attributes := #[] }] 1057 2 #[] #[])
  fields := #[]
  methods := #[k2m0]
  instanceTypes := #[]
  staticTypes := #[]
  resolved := Array.replicate 22 none
  statics := none }

def pool3 : Array CpInfo := pool [(1, .class_ 2), (0, u "com/example/stubwright/stubwright/idl/ConstValue"), (0, .class_ 4), (0, u "java/lang/Object"), (3, .class_ 9), (0, u "com/example/stubwright/stubwright/idl/ConstValue$EnumeratorValue"), (0, .class_ 11), (0, u "com/example/stubwright/stubwright/idl/ConstValue$BooleanValue"), (0, .class_ 13), (0, u "com/example/stubwright/stubwright/idl/ConstValue$StringValue"), (0, .class_ 15), (0, u "com/example/stubwright/stubwright/idl/ConstValue$CharValue"), (0, .class_ 17), (0, u "com/example/stubwright/stubwright/idl/ConstValue$FixedValue"), (0, .class_ 19), (0, u "com/example/stubwright/stubwright/idl/ConstValue$FloatingValue"), (0, .class_ 21), (0, u "com/example/stubwright/stubwright/idl/ConstValue$IntegerValue")] 9

/-- com/example/stubwright/stubwright/idl/ConstValue -/
def k3 : Class := { plain "com/example/stubwright/stubwright/idl/ConstValue" (some 0) with
  accessFlags := 1537
  interfaces := #[]
  cf := some (fileOf pool3 1 #[.nestMembers #[8, 10, 12, 14, 16, 18, 20]] #[] 1537 3 #[] #[])
  fields := #[]
  methods := #[]
  instanceTypes := #[]
  staticTypes := #[]
  resolved := Array.replicate 31 none
  statics := none }

def pool4 : Array CpInfo := pool [(1, .methodref 2 3), (0, .class_ 4), (0, .nameAndType 5 6), (0, u "java/lang/Record"), (0, u "<init>"), (0, u "()V"), (0, .fieldref 8 9), (0, .class_ 10), (0, .nameAndType 11 12), (0, u "com/example/stubwright/stubwright/idl/ConstValue$CharValue"), (0, u "value"), (0, u "C"), (4, .class_ 18), (0, u "com/example/stubwright/stubwright/idl/ConstValue"), (0, u "(C)V"), (3, u "equals"), (0, u "(Ljava/lang/Object;)Z")] 26

def k4c0 : Code := { maxStack := 2, maxLocals := 2, code := prog_20_method_1_code, exceptionTable := #[], attributes := #[] }
def k4m0 : Method := { name := "<init>", desc := "(C)V", sig := { parameters := [.char], returnType := none }, accessFlags := 1, code := some k4c0 }
def k4c1 : Code := { maxStack := 2, maxLocals := 3, code := prog_20_method_2_code, exceptionTable := #[], attributes := #[] }
def k4m1 : Method := { name := "equals", desc := "(Ljava/lang/Object;)Z", sig := { parameters := [(.object "java/lang/Object")], returnType := some .boolean }, accessFlags := 1, code := some k4c1 }
/-- com/example/stubwright/stubwright/idl/ConstValue$CharValue -/
def k4 : Class := { plain "com/example/stubwright/stubwright/idl/ConstValue$CharValue" (some 2) with
  accessFlags := 49
  interfaces := #[3]
  cf := some (fileOf pool4 8 #[.nestHost 17] #[{ accessFlags := 1, nameIndex := 5, descriptorIndex := 19, attributes := #[] }, { accessFlags := 1, nameIndex := 23, descriptorIndex := 24, attributes := #[] }] 49 2 #[17] #[{ accessFlags := 18, nameIndex := 11, descriptorIndex := 12, attributes := #[] }])
  fields := #[{ name := "value", type := .char, accessFlags := 18, slot := 0, constantValue := 0 }]
  methods := #[k4m0, k4m1]
  instanceTypes := #[.char]
  staticTypes := #[]
  resolved := Array.replicate 51 none
  statics := none }

def pool5 : Array CpInfo := pool [(1, .class_ 2), (0, u "java/io/Serializable"), (0, .class_ 4), (0, u "java/lang/Object")] 2

/-- java/io/Serializable -/
def k5 : Class := { plain "java/io/Serializable" (some 0) with
  accessFlags := 1537
  interfaces := #[]
  cf := some (fileOf pool5 1 #[] #[] 1537 3 #[] #[])
  fields := #[]
  methods := #[]
  instanceTypes := #[]
  staticTypes := #[]
  resolved := Array.replicate 7 none
  statics := none }

def pool6 : Array CpInfo := pool [(1, .methodref 2 3), (0, .class_ 4), (0, .nameAndType 5 6), (0, u "java/lang/Object"), (0, u "<init>"), (0, u "()V"), (1, .class_ 10), (1, u "java/lang/Number"), (2, .class_ 14), (0, u "java/io/Serializable"), (0, u "serialVersionUID"), (0, u "J")] 20

def k6c0 : Code := { maxStack := 1, maxLocals := 1, code := jdk_18_method_1_code, exceptionTable := #[], attributes := #[] }
def k6m0 : Method := { name := "<init>", desc := "()V", sig := { parameters := [], returnType := none }, accessFlags := 1, code := some k6c0 }
/-- java/lang/Number -/
def k6 : Class := { plain "java/lang/Number" (some 0) with
  accessFlags := 1057
  interfaces := #[5]
  cf := some (fileOf pool6 8 #[] #[{ accessFlags := 1, nameIndex := 5, descriptorIndex := 6, attributes := #[] }] 1057 2 #[13] #[{ accessFlags := 26, nameIndex := 15, descriptorIndex := 16, attributes := #[] }])
  fields := #[{ name := "serialVersionUID", type := .long, accessFlags := 26, slot := 0, constantValue := 0 }]
  methods := #[k6m0]
  instanceTypes := #[]
  staticTypes := #[.long]
  resolved := Array.replicate 37 none
  statics := none }

def pool7 : Array CpInfo := pool [(1, .class_ 2), (0, u "java/lang/Comparable"), (0, .class_ 4), (0, u "java/lang/Object")] 7

/-- java/lang/Comparable -/
def k7 : Class := { plain "java/lang/Comparable" (some 0) with
  accessFlags := 1537
  interfaces := #[]
  cf := some (fileOf pool7 1 #[] #[] 1537 3 #[] #[])
  fields := #[]
  methods := #[]
  instanceTypes := #[]
  staticTypes := #[]
  resolved := Array.replicate 12 none
  statics := none }

def pool8 : Array CpInfo := pool [(1, .class_ 2), (0, u "java/lang/constant/Constable"), (0, .class_ 4), (0, u "java/lang/Object")] 6

/-- java/lang/constant/Constable -/
def k8 : Class := { plain "java/lang/constant/Constable" (some 0) with
  accessFlags := 1537
  interfaces := #[]
  cf := some (fileOf pool8 1 #[] #[] 1537 3 #[] #[])
  fields := #[]
  methods := #[]
  instanceTypes := #[]
  staticTypes := #[]
  resolved := Array.replicate 11 none
  statics := none }

def pool9 : Array CpInfo := pool [(1, .class_ 2), (0, u "java/lang/constant/ConstantDesc"), (0, .class_ 4), (0, u "java/lang/Object")] 32

/-- java/lang/constant/ConstantDesc -/
def k9 : Class := { plain "java/lang/constant/ConstantDesc" (some 0) with
  accessFlags := 1537
  interfaces := #[]
  cf := some (fileOf pool9 1 #[] #[] 1537 3 #[] #[])
  fields := #[]
  methods := #[]
  instanceTypes := #[]
  staticTypes := #[]
  resolved := Array.replicate 37 none
  statics := none }

def pool10 : Array CpInfo := pool [(1, .class_ 2), (0, u "java/lang/Integer"), (16, u "digits"), (0, u "[C"), (46, u "<init>"), (17, u "DigitOnes"), (0, u "[B"), (2, u "DigitTens"), (10, .nameAndType 67 101), (0, u "()V"), (85, u "valueOf"), (0, u "(I)Ljava/lang/Integer;"), (0, .class_ 190), (0, u "java/lang/Integer$IntegerCache"), (0, .fieldref 189 192), (0, .nameAndType 193 194), (0, u "high"), (0, u "I"), (0, .fieldref 189 196), (0, .nameAndType 197 198), (0, u "cache"), (0, u "[Ljava/lang/Integer;"), (0, .methodref 1 200), (0, .nameAndType 67 201), (0, u "(I)V"), (0, .methodref 203 100), (0, .class_ 204), (0, u "java/lang/Number"), (0, .fieldref 1 206), (0, .nameAndType 207 194), (0, u "value"), (94, u "TYPE"), (0, u "Ljava/lang/Class;"), (0, .class_ 305), (0, u "java/lang/Comparable"), (0, .class_ 307), (0, u "java/lang/constant/Constable"), (0, .class_ 309), (0, u "java/lang/constant/ConstantDesc"), (0, u "MIN_VALUE"), (1, u "MAX_VALUE"), (3, u "SIZE"), (1, u "BYTES"), (1, u "serialVersionUID"), (0, u "J")] 131

def k10c0 : Code := { maxStack := 3, maxLocals := 1, code := jdk_33_method_22_code, exceptionTable := #[], attributes := #[] }
def k10m0 : Method := { name := "valueOf", desc := "(I)Ljava/lang/Integer;", sig := { parameters := [.int], returnType := some (.object "java/lang/Integer") }, accessFlags := 9, code := some k10c0 }
def k10c1 : Code := { maxStack := 2, maxLocals := 2, code := jdk_33_method_23_code, exceptionTable := #[], attributes := #[] }
def k10m1 : Method := { name := "<init>", desc := "(I)V", sig := { parameters := [.int], returnType := none }, accessFlags := 1, code := some k10c1 }
/-- java/lang/Integer -/
def k10 : Class := { plain "java/lang/Integer" (some 6) with
  accessFlags := 49
  interfaces := #[7, 8, 9]
  cf := some (fileOf pool10 1 #[.nestMembers #[189]] #[{ accessFlags := 9, nameIndex := 187, descriptorIndex := 188, attributes := #[] }, { accessFlags := 1, nameIndex := 67, descriptorIndex := 201, attributes := #[] }] 49 203 #[304, 306, 308] #[{ accessFlags := 25, nameIndex := 310, descriptorIndex := 194, attributes := #[] }, { accessFlags := 25, nameIndex := 312, descriptorIndex := 194, attributes := #[] }, { accessFlags := 25, nameIndex := 302, descriptorIndex := 303, attributes := #[] }, { accessFlags := 24, nameIndex := 19, descriptorIndex := 20, attributes := #[] }, { accessFlags := 24, nameIndex := 89, descriptorIndex := 86, attributes := #[] }, { accessFlags := 24, nameIndex := 85, descriptorIndex := 86, attributes := #[] }, { accessFlags := 18, nameIndex := 207, descriptorIndex := 194, attributes := #[] }, { accessFlags := 25, nameIndex := 316, descriptorIndex := 194, attributes := #[] }, { accessFlags := 25, nameIndex := 318, descriptorIndex := 194, attributes := #[] }, { accessFlags := 26, nameIndex := 320, descriptorIndex := 321, attributes := #[] }])
  fields := #[{ name := "MIN_VALUE", type := .int, accessFlags := 25, slot := 0, constantValue := 0 }, { name := "MAX_VALUE", type := .int, accessFlags := 25, slot := 1, constantValue := 0 }, { name := "TYPE", type := (.object "java/lang/Class"), accessFlags := 25, slot := 2, constantValue := 0 }, { name := "digits", type := (.array .char), accessFlags := 24, slot := 3, constantValue := 0 }, { name := "DigitTens", type := (.array .byte), accessFlags := 24, slot := 4, constantValue := 0 }, { name := "DigitOnes", type := (.array .byte), accessFlags := 24, slot := 5, constantValue := 0 }, { name := "value", type := .int, accessFlags := 18, slot := 0, constantValue := 0 }, { name := "SIZE", type := .int, accessFlags := 25, slot := 6, constantValue := 0 }, { name := "BYTES", type := .int, accessFlags := 25, slot := 7, constantValue := 0 }, { name := "serialVersionUID", type := .long, accessFlags := 26, slot := 8, constantValue := 0 }]
  methods := #[k10m0, k10m1]
  instanceTypes := #[.int]
  staticTypes := #[.int, .int, (.object "java/lang/Class"), (.array .char), (.array .byte), (.array .byte), .int, .int, .long]
  resolved := Array.replicate 453 none
  statics := none }

def pool11 : Array CpInfo := pool [(2, .class_ 4), (1, u "java/lang/Object"), (0, u "<init>"), (0, u "()V"), (0, .class_ 8), (0, u "java/lang/Integer"), (7, .class_ 18), (1, u "java/lang/Integer$IntegerCache"), (0, u "$assertionsDisabled"), (0, u "Z"), (26, u "high"), (0, u "I"), (8, u "archivedCache"), (0, u "[Ljava/lang/Integer;"), (12, u "cache"), (0, u "low")] 27

def k11m0 : Method := { name := "<init>", desc := "()V", sig := { parameters := [], returnType := none }, accessFlags := 2, code := none }
/-- java/lang/Integer$IntegerCache -/
def k11 : Class := { plain "java/lang/Integer$IntegerCache" (some 0) with
  accessFlags := 48
  interfaces := #[]
  cf := some (fileOf pool11 16 #[.nestHost 7] #[{ accessFlags := 2, nameIndex := 5, descriptorIndex := 6, attributes := #[] }] 48 2 #[] #[{ accessFlags := 24, nameIndex := 72, descriptorIndex := 48, attributes := #[] }, { accessFlags := 24, nameIndex := 47, descriptorIndex := 48, attributes := #[] }, { accessFlags := 24, nameIndex := 71, descriptorIndex := 58, attributes := #[] }, { accessFlags := 8, nameIndex := 57, descriptorIndex := 58, attributes := #[] }, { accessFlags := 4120, nameIndex := 19, descriptorIndex := 20, attributes := #[] }])
  fields := #[{ name := "low", type := .int, accessFlags := 24, slot := 0, constantValue := 0 }, { name := "high", type := .int, accessFlags := 24, slot := 1, constantValue := 0 }, { name := "cache", type := (.array (.object "java/lang/Integer")), accessFlags := 24, slot := 2, constantValue := 0 }, { name := "archivedCache", type := (.array (.object "java/lang/Integer")), accessFlags := 8, slot := 3, constantValue := 0 }, { name := "$assertionsDisabled", type := .boolean, accessFlags := 4120, slot := 4, constantValue := 0 }]
  methods := #[k11m0]
  instanceTypes := #[]
  staticTypes := #[.int, .int, (.array (.object "java/lang/Integer")), (.array (.object "java/lang/Integer")), .boolean]
  resolved := Array.replicate 100 none
  statics := some 0 }

def pool12 : Array CpInfo := pool [(1, .methodref 2 3), (0, .class_ 4), (0, .nameAndType 5 6), (0, u "java/lang/Record"), (0, u "<init>"), (0, u "()V"), (0, .fieldref 8 9), (0, .class_ 10), (0, .nameAndType 11 12), (0, u "com/example/stubwright/stubwright/idl/ConstValue$BooleanValue"), (0, u "value"), (0, u "Z"), (10, .class_ 24), (0, u "com/example/stubwright/stubwright/idl/ConstValue"), (0, u "(Z)V")] 30

def k12c0 : Code := { maxStack := 2, maxLocals := 2, code := prog_19_method_1_code, exceptionTable := #[], attributes := #[] }
def k12m0 : Method := { name := "<init>", desc := "(Z)V", sig := { parameters := [.boolean], returnType := none }, accessFlags := 1, code := some k12c0 }
/-- com/example/stubwright/stubwright/idl/ConstValue$BooleanValue -/
def k12 : Class := { plain "com/example/stubwright/stubwright/idl/ConstValue$BooleanValue" (some 2) with
  accessFlags := 49
  interfaces := #[3]
  cf := some (fileOf pool12 8 #[.nestHost 23] #[{ accessFlags := 1, nameIndex := 5, descriptorIndex := 25, attributes := #[] }] 49 2 #[23] #[{ accessFlags := 18, nameIndex := 11, descriptorIndex := 12, attributes := #[] }])
  fields := #[{ name := "value", type := .boolean, accessFlags := 18, slot := 0, constantValue := 0 }]
  methods := #[k12m0]
  instanceTypes := #[.boolean]
  staticTypes := #[]
  resolved := Array.replicate 56 none
  statics := none }

def pool13 : Array CpInfo := pool [(1, u "java/lang/Cloneable"), (0, .class_ 1), (0, u "java/lang/Object"), (0, .class_ 3)] 3

/-- java/lang/Cloneable -/
def k13 : Class := { plain "java/lang/Cloneable" (some 0) with
  accessFlags := 1537
  interfaces := #[]
  cf := some (fileOf pool13 2 #[] #[] 1537 4 #[] #[])
  fields := #[]
  methods := #[]
  instanceTypes := #[]
  staticTypes := #[]
  resolved := Array.replicate 8 none
  statics := none }

/-- the primitive byte -/
def k14 : Class := { plain "byte" none with kind := .primitive 'B', accessFlags := 0x411 }
/-- [B -/
def k15 : Class := { plain "[B" (some 0) with kind := .array 14 .byte, interfaces := #[13, 5], accessFlags := 1041 }

/-- the primitive int -/
def k16 : Class := { plain "int" none with kind := .primitive 'I', accessFlags := 0x411 }
/-- [I -/
def k17 : Class := { plain "[I" (some 0) with kind := .array 16 .int, interfaces := #[13, 5], accessFlags := 1041 }

/-- [Ljava/lang/Integer; -/
def k18 : Class := { plain "[Ljava/lang/Integer;" (some 0) with kind := .array 10 (.object "java/lang/Integer"), interfaces := #[13, 5], accessFlags := 1041 }

def heap : Heap := #[{ cls := 11, slots := #[.int 0, .int 127, .ref 1, .null, .int 0], vm := .statics 11 },
  { cls := 18, slots := #[.ref 2, .ref 3, .ref 4, .ref 5, .ref 6, .ref 7, .ref 8, .ref 9, .ref 10, .ref 11, .ref 12, .ref 13, .ref 14, .ref 15, .ref 16, .ref 17, .ref 18, .ref 19, .ref 20, .ref 21, .ref 22, .ref 23, .ref 24, .ref 25, .ref 26, .ref 27, .ref 28, .ref 29, .ref 30, .ref 31, .ref 32, .ref 33, .ref 34, .ref 35, .ref 36, .ref 37, .ref 38, .ref 39, .ref 40, .ref 41, .ref 42, .ref 43, .ref 44, .ref 45, .ref 46, .ref 47, .ref 48, .ref 49, .ref 50, .ref 51, .ref 52, .ref 53, .ref 54, .ref 55, .ref 56, .ref 57, .ref 58, .ref 59, .ref 60, .ref 61, .ref 62, .ref 63, .ref 64, .ref 65, .ref 66, .ref 67, .ref 68, .ref 69, .ref 70, .ref 71, .ref 72, .ref 73, .ref 74, .ref 75, .ref 76, .ref 77, .ref 78, .ref 79, .ref 80, .ref 81, .ref 82, .ref 83, .ref 84, .ref 85, .ref 86, .ref 87, .ref 88, .ref 89, .ref 90, .ref 91, .ref 92, .ref 93, .ref 94, .ref 95, .ref 96, .ref 97, .ref 98, .ref 99, .ref 100, .ref 101, .ref 102, .ref 103, .ref 104, .ref 105, .ref 106, .ref 107, .ref 108, .ref 109, .ref 110, .ref 111, .ref 112, .ref 113, .ref 114, .ref 115, .ref 116, .ref 117, .ref 118, .ref 119, .ref 120, .ref 121, .ref 122, .ref 123, .ref 124, .ref 125, .ref 126, .ref 127, .ref 128, .ref 129, .ref 130, .ref 131, .ref 132, .ref 133, .ref 134, .ref 135, .ref 136, .ref 137, .ref 138, .ref 139, .ref 140, .ref 141, .ref 142, .ref 143, .ref 144, .ref 145, .ref 146, .ref 147, .ref 148, .ref 149, .ref 150, .ref 151, .ref 152, .ref 153, .ref 154, .ref 155, .ref 156, .ref 157, .ref 158, .ref 159, .ref 160, .ref 161, .ref 162, .ref 163, .ref 164, .ref 165, .ref 166, .ref 167, .ref 168, .ref 169, .ref 170, .ref 171, .ref 172, .ref 173, .ref 174, .ref 175, .ref 176, .ref 177, .ref 178, .ref 179, .ref 180, .ref 181, .ref 182, .ref 183, .ref 184, .ref 185, .ref 186, .ref 187, .ref 188, .ref 189, .ref 190, .ref 191, .ref 192, .ref 193, .ref 194, .ref 195, .ref 196, .ref 197, .ref 198, .ref 199, .ref 200, .ref 201, .ref 202, .ref 203, .ref 204, .ref 205, .ref 206, .ref 207, .ref 208, .ref 209, .ref 210, .ref 211, .ref 212, .ref 213, .ref 214, .ref 215, .ref 216, .ref 217, .ref 218, .ref 219, .ref 220, .ref 221, .ref 222, .ref 223, .ref 224, .ref 225, .ref 226, .ref 227, .ref 228, .ref 229, .ref 230, .ref 231, .ref 232, .ref 233, .ref 234, .ref 235, .ref 236, .ref 237, .ref 238, .ref 239, .ref 240, .ref 241, .ref 242, .ref 243, .ref 244, .ref 245, .ref 246, .ref 247, .ref 248, .ref 249, .ref 250, .ref 251, .ref 252, .ref 253, .ref 254, .ref 255, .ref 256, .ref 257], vm := .none },
  { cls := 10, slots := #[.int (-128)], vm := .none },
  { cls := 10, slots := #[.int (-127)], vm := .none },
  { cls := 10, slots := #[.int (-126)], vm := .none },
  { cls := 10, slots := #[.int (-125)], vm := .none },
  { cls := 10, slots := #[.int (-124)], vm := .none },
  { cls := 10, slots := #[.int (-123)], vm := .none },
  { cls := 10, slots := #[.int (-122)], vm := .none },
  { cls := 10, slots := #[.int (-121)], vm := .none },
  { cls := 10, slots := #[.int (-120)], vm := .none },
  { cls := 10, slots := #[.int (-119)], vm := .none },
  { cls := 10, slots := #[.int (-118)], vm := .none },
  { cls := 10, slots := #[.int (-117)], vm := .none },
  { cls := 10, slots := #[.int (-116)], vm := .none },
  { cls := 10, slots := #[.int (-115)], vm := .none },
  { cls := 10, slots := #[.int (-114)], vm := .none },
  { cls := 10, slots := #[.int (-113)], vm := .none },
  { cls := 10, slots := #[.int (-112)], vm := .none },
  { cls := 10, slots := #[.int (-111)], vm := .none },
  { cls := 10, slots := #[.int (-110)], vm := .none },
  { cls := 10, slots := #[.int (-109)], vm := .none },
  { cls := 10, slots := #[.int (-108)], vm := .none },
  { cls := 10, slots := #[.int (-107)], vm := .none },
  { cls := 10, slots := #[.int (-106)], vm := .none },
  { cls := 10, slots := #[.int (-105)], vm := .none },
  { cls := 10, slots := #[.int (-104)], vm := .none },
  { cls := 10, slots := #[.int (-103)], vm := .none },
  { cls := 10, slots := #[.int (-102)], vm := .none },
  { cls := 10, slots := #[.int (-101)], vm := .none },
  { cls := 10, slots := #[.int (-100)], vm := .none },
  { cls := 10, slots := #[.int (-99)], vm := .none },
  { cls := 10, slots := #[.int (-98)], vm := .none },
  { cls := 10, slots := #[.int (-97)], vm := .none },
  { cls := 10, slots := #[.int (-96)], vm := .none },
  { cls := 10, slots := #[.int (-95)], vm := .none },
  { cls := 10, slots := #[.int (-94)], vm := .none },
  { cls := 10, slots := #[.int (-93)], vm := .none },
  { cls := 10, slots := #[.int (-92)], vm := .none },
  { cls := 10, slots := #[.int (-91)], vm := .none },
  { cls := 10, slots := #[.int (-90)], vm := .none },
  { cls := 10, slots := #[.int (-89)], vm := .none },
  { cls := 10, slots := #[.int (-88)], vm := .none },
  { cls := 10, slots := #[.int (-87)], vm := .none },
  { cls := 10, slots := #[.int (-86)], vm := .none },
  { cls := 10, slots := #[.int (-85)], vm := .none },
  { cls := 10, slots := #[.int (-84)], vm := .none },
  { cls := 10, slots := #[.int (-83)], vm := .none },
  { cls := 10, slots := #[.int (-82)], vm := .none },
  { cls := 10, slots := #[.int (-81)], vm := .none },
  { cls := 10, slots := #[.int (-80)], vm := .none },
  { cls := 10, slots := #[.int (-79)], vm := .none },
  { cls := 10, slots := #[.int (-78)], vm := .none },
  { cls := 10, slots := #[.int (-77)], vm := .none },
  { cls := 10, slots := #[.int (-76)], vm := .none },
  { cls := 10, slots := #[.int (-75)], vm := .none },
  { cls := 10, slots := #[.int (-74)], vm := .none },
  { cls := 10, slots := #[.int (-73)], vm := .none },
  { cls := 10, slots := #[.int (-72)], vm := .none },
  { cls := 10, slots := #[.int (-71)], vm := .none },
  { cls := 10, slots := #[.int (-70)], vm := .none },
  { cls := 10, slots := #[.int (-69)], vm := .none },
  { cls := 10, slots := #[.int (-68)], vm := .none },
  { cls := 10, slots := #[.int (-67)], vm := .none },
  { cls := 10, slots := #[.int (-66)], vm := .none },
  { cls := 10, slots := #[.int (-65)], vm := .none },
  { cls := 10, slots := #[.int (-64)], vm := .none },
  { cls := 10, slots := #[.int (-63)], vm := .none },
  { cls := 10, slots := #[.int (-62)], vm := .none },
  { cls := 10, slots := #[.int (-61)], vm := .none },
  { cls := 10, slots := #[.int (-60)], vm := .none },
  { cls := 10, slots := #[.int (-59)], vm := .none },
  { cls := 10, slots := #[.int (-58)], vm := .none },
  { cls := 10, slots := #[.int (-57)], vm := .none },
  { cls := 10, slots := #[.int (-56)], vm := .none },
  { cls := 10, slots := #[.int (-55)], vm := .none },
  { cls := 10, slots := #[.int (-54)], vm := .none },
  { cls := 10, slots := #[.int (-53)], vm := .none },
  { cls := 10, slots := #[.int (-52)], vm := .none },
  { cls := 10, slots := #[.int (-51)], vm := .none },
  { cls := 10, slots := #[.int (-50)], vm := .none },
  { cls := 10, slots := #[.int (-49)], vm := .none },
  { cls := 10, slots := #[.int (-48)], vm := .none },
  { cls := 10, slots := #[.int (-47)], vm := .none },
  { cls := 10, slots := #[.int (-46)], vm := .none },
  { cls := 10, slots := #[.int (-45)], vm := .none },
  { cls := 10, slots := #[.int (-44)], vm := .none },
  { cls := 10, slots := #[.int (-43)], vm := .none },
  { cls := 10, slots := #[.int (-42)], vm := .none },
  { cls := 10, slots := #[.int (-41)], vm := .none },
  { cls := 10, slots := #[.int (-40)], vm := .none },
  { cls := 10, slots := #[.int (-39)], vm := .none },
  { cls := 10, slots := #[.int (-38)], vm := .none },
  { cls := 10, slots := #[.int (-37)], vm := .none },
  { cls := 10, slots := #[.int (-36)], vm := .none },
  { cls := 10, slots := #[.int (-35)], vm := .none },
  { cls := 10, slots := #[.int (-34)], vm := .none },
  { cls := 10, slots := #[.int (-33)], vm := .none },
  { cls := 10, slots := #[.int (-32)], vm := .none },
  { cls := 10, slots := #[.int (-31)], vm := .none },
  { cls := 10, slots := #[.int (-30)], vm := .none },
  { cls := 10, slots := #[.int (-29)], vm := .none },
  { cls := 10, slots := #[.int (-28)], vm := .none },
  { cls := 10, slots := #[.int (-27)], vm := .none },
  { cls := 10, slots := #[.int (-26)], vm := .none },
  { cls := 10, slots := #[.int (-25)], vm := .none },
  { cls := 10, slots := #[.int (-24)], vm := .none },
  { cls := 10, slots := #[.int (-23)], vm := .none },
  { cls := 10, slots := #[.int (-22)], vm := .none },
  { cls := 10, slots := #[.int (-21)], vm := .none },
  { cls := 10, slots := #[.int (-20)], vm := .none },
  { cls := 10, slots := #[.int (-19)], vm := .none },
  { cls := 10, slots := #[.int (-18)], vm := .none },
  { cls := 10, slots := #[.int (-17)], vm := .none },
  { cls := 10, slots := #[.int (-16)], vm := .none },
  { cls := 10, slots := #[.int (-15)], vm := .none },
  { cls := 10, slots := #[.int (-14)], vm := .none },
  { cls := 10, slots := #[.int (-13)], vm := .none },
  { cls := 10, slots := #[.int (-12)], vm := .none },
  { cls := 10, slots := #[.int (-11)], vm := .none },
  { cls := 10, slots := #[.int (-10)], vm := .none },
  { cls := 10, slots := #[.int (-9)], vm := .none },
  { cls := 10, slots := #[.int (-8)], vm := .none },
  { cls := 10, slots := #[.int (-7)], vm := .none },
  { cls := 10, slots := #[.int (-6)], vm := .none },
  { cls := 10, slots := #[.int (-5)], vm := .none },
  { cls := 10, slots := #[.int (-4)], vm := .none },
  { cls := 10, slots := #[.int (-3)], vm := .none },
  { cls := 10, slots := #[.int (-2)], vm := .none },
  { cls := 10, slots := #[.int (-1)], vm := .none },
  { cls := 10, slots := #[.int 0], vm := .none },
  { cls := 10, slots := #[.int 1], vm := .none },
  { cls := 10, slots := #[.int 2], vm := .none },
  { cls := 10, slots := #[.int 3], vm := .none },
  { cls := 10, slots := #[.int 4], vm := .none },
  { cls := 10, slots := #[.int 5], vm := .none },
  { cls := 10, slots := #[.int 6], vm := .none },
  { cls := 10, slots := #[.int 7], vm := .none },
  { cls := 10, slots := #[.int 8], vm := .none },
  { cls := 10, slots := #[.int 9], vm := .none },
  { cls := 10, slots := #[.int 10], vm := .none },
  { cls := 10, slots := #[.int 11], vm := .none },
  { cls := 10, slots := #[.int 12], vm := .none },
  { cls := 10, slots := #[.int 13], vm := .none },
  { cls := 10, slots := #[.int 14], vm := .none },
  { cls := 10, slots := #[.int 15], vm := .none },
  { cls := 10, slots := #[.int 16], vm := .none },
  { cls := 10, slots := #[.int 17], vm := .none },
  { cls := 10, slots := #[.int 18], vm := .none },
  { cls := 10, slots := #[.int 19], vm := .none },
  { cls := 10, slots := #[.int 20], vm := .none },
  { cls := 10, slots := #[.int 21], vm := .none },
  { cls := 10, slots := #[.int 22], vm := .none },
  { cls := 10, slots := #[.int 23], vm := .none },
  { cls := 10, slots := #[.int 24], vm := .none },
  { cls := 10, slots := #[.int 25], vm := .none },
  { cls := 10, slots := #[.int 26], vm := .none },
  { cls := 10, slots := #[.int 27], vm := .none },
  { cls := 10, slots := #[.int 28], vm := .none },
  { cls := 10, slots := #[.int 29], vm := .none },
  { cls := 10, slots := #[.int 30], vm := .none },
  { cls := 10, slots := #[.int 31], vm := .none },
  { cls := 10, slots := #[.int 32], vm := .none },
  { cls := 10, slots := #[.int 33], vm := .none },
  { cls := 10, slots := #[.int 34], vm := .none },
  { cls := 10, slots := #[.int 35], vm := .none },
  { cls := 10, slots := #[.int 36], vm := .none },
  { cls := 10, slots := #[.int 37], vm := .none },
  { cls := 10, slots := #[.int 38], vm := .none },
  { cls := 10, slots := #[.int 39], vm := .none },
  { cls := 10, slots := #[.int 40], vm := .none },
  { cls := 10, slots := #[.int 41], vm := .none },
  { cls := 10, slots := #[.int 42], vm := .none },
  { cls := 10, slots := #[.int 43], vm := .none },
  { cls := 10, slots := #[.int 44], vm := .none },
  { cls := 10, slots := #[.int 45], vm := .none },
  { cls := 10, slots := #[.int 46], vm := .none },
  { cls := 10, slots := #[.int 47], vm := .none },
  { cls := 10, slots := #[.int 48], vm := .none },
  { cls := 10, slots := #[.int 49], vm := .none },
  { cls := 10, slots := #[.int 50], vm := .none },
  { cls := 10, slots := #[.int 51], vm := .none },
  { cls := 10, slots := #[.int 52], vm := .none },
  { cls := 10, slots := #[.int 53], vm := .none },
  { cls := 10, slots := #[.int 54], vm := .none },
  { cls := 10, slots := #[.int 55], vm := .none },
  { cls := 10, slots := #[.int 56], vm := .none },
  { cls := 10, slots := #[.int 57], vm := .none },
  { cls := 10, slots := #[.int 58], vm := .none },
  { cls := 10, slots := #[.int 59], vm := .none },
  { cls := 10, slots := #[.int 60], vm := .none },
  { cls := 10, slots := #[.int 61], vm := .none },
  { cls := 10, slots := #[.int 62], vm := .none },
  { cls := 10, slots := #[.int 63], vm := .none },
  { cls := 10, slots := #[.int 64], vm := .none },
  { cls := 10, slots := #[.int 65], vm := .none },
  { cls := 10, slots := #[.int 66], vm := .none },
  { cls := 10, slots := #[.int 67], vm := .none },
  { cls := 10, slots := #[.int 68], vm := .none },
  { cls := 10, slots := #[.int 69], vm := .none },
  { cls := 10, slots := #[.int 70], vm := .none },
  { cls := 10, slots := #[.int 71], vm := .none },
  { cls := 10, slots := #[.int 72], vm := .none },
  { cls := 10, slots := #[.int 73], vm := .none },
  { cls := 10, slots := #[.int 74], vm := .none },
  { cls := 10, slots := #[.int 75], vm := .none },
  { cls := 10, slots := #[.int 76], vm := .none },
  { cls := 10, slots := #[.int 77], vm := .none },
  { cls := 10, slots := #[.int 78], vm := .none },
  { cls := 10, slots := #[.int 79], vm := .none },
  { cls := 10, slots := #[.int 80], vm := .none },
  { cls := 10, slots := #[.int 81], vm := .none },
  { cls := 10, slots := #[.int 82], vm := .none },
  { cls := 10, slots := #[.int 83], vm := .none },
  { cls := 10, slots := #[.int 84], vm := .none },
  { cls := 10, slots := #[.int 85], vm := .none },
  { cls := 10, slots := #[.int 86], vm := .none },
  { cls := 10, slots := #[.int 87], vm := .none },
  { cls := 10, slots := #[.int 88], vm := .none },
  { cls := 10, slots := #[.int 89], vm := .none },
  { cls := 10, slots := #[.int 90], vm := .none },
  { cls := 10, slots := #[.int 91], vm := .none },
  { cls := 10, slots := #[.int 92], vm := .none },
  { cls := 10, slots := #[.int 93], vm := .none },
  { cls := 10, slots := #[.int 94], vm := .none },
  { cls := 10, slots := #[.int 95], vm := .none },
  { cls := 10, slots := #[.int 96], vm := .none },
  { cls := 10, slots := #[.int 97], vm := .none },
  { cls := 10, slots := #[.int 98], vm := .none },
  { cls := 10, slots := #[.int 99], vm := .none },
  { cls := 10, slots := #[.int 100], vm := .none },
  { cls := 10, slots := #[.int 101], vm := .none },
  { cls := 10, slots := #[.int 102], vm := .none },
  { cls := 10, slots := #[.int 103], vm := .none },
  { cls := 10, slots := #[.int 104], vm := .none },
  { cls := 10, slots := #[.int 105], vm := .none },
  { cls := 10, slots := #[.int 106], vm := .none },
  { cls := 10, slots := #[.int 107], vm := .none },
  { cls := 10, slots := #[.int 108], vm := .none },
  { cls := 10, slots := #[.int 109], vm := .none },
  { cls := 10, slots := #[.int 110], vm := .none },
  { cls := 10, slots := #[.int 111], vm := .none },
  { cls := 10, slots := #[.int 112], vm := .none },
  { cls := 10, slots := #[.int 113], vm := .none },
  { cls := 10, slots := #[.int 114], vm := .none },
  { cls := 10, slots := #[.int 115], vm := .none },
  { cls := 10, slots := #[.int 116], vm := .none },
  { cls := 10, slots := #[.int 117], vm := .none },
  { cls := 10, slots := #[.int 118], vm := .none },
  { cls := 10, slots := #[.int 119], vm := .none },
  { cls := 10, slots := #[.int 120], vm := .none },
  { cls := 10, slots := #[.int 121], vm := .none },
  { cls := 10, slots := #[.int 122], vm := .none },
  { cls := 10, slots := #[.int 123], vm := .none },
  { cls := 10, slots := #[.int 124], vm := .none },
  { cls := 10, slots := #[.int 125], vm := .none },
  { cls := 10, slots := #[.int 126], vm := .none },
  { cls := 10, slots := #[.int 127], vm := .none }]
def classes : Array Class := #[k0, k1, k2, k3, k4, k5, k6, k7, k8, k9, k10, k11, k12, k13, k14, k15, k16, k17, k18]
def interned : List (Array UInt16 × Addr) := []
def slotsUsed : Nat := 517
def theMethod : MethodId := ⟨1, 1⟩
def args0 : Array Value := #[.int 5, .int 7, .int 1]
def aboutOver (below : List Frame) : State where
  vm := { classes := classes, interned := interned.toArray }
  heap := heap
  slotsUsed := slotsUsed
  threads := #[{ frames := .invoking theMethod args0 :: below }]
def below0 : List Frame := [.native { method := ⟨0, 0⟩, args := #[] }]
def about1 : State := aboutOver below0
def p0 : Program := .bare "" "" ""
def e0 : Env := launch0.env 0 0 0
theorem w_frames : about1.frames = Frame.invoking theMethod args0 :: below0 := rfl
set_option maxRecDepth 65536 in
theorem w_args : argsFit about1.vm theMethod args0 = true := by decide +kernel
set_option maxRecDepth 65536 in
theorem w_heap : heapFits about1 = true := by decide +kernel
set_option maxRecDepth 65536 in
theorem w_runnable : about1.curStatus? = some .runnable := by decide +kernel
set_option maxRecDepth 65536 in
theorem w_alone : about1.alone = true := by decide +kernel
set_option maxRecDepth 65536 in
theorem w_named : about1.methodNamed? x = some theMethod := by decide +kernel
set_option maxRecDepth 65536 in
theorem w_hears : about1.hears theMethod below0 = true := by decide +kernel
set_option maxRecDepth 65536 in
theorem w_ripe : about1.ripe theMethod args0 below0 = true := by decide +kernel
theorem w_running : about1.status = .running := rfl
set_option maxRecDepth 65536 in
theorem w_room : about1.hasRoom e0.platform room_1 = true :=
  launch0.hasRoom_least _ room_1 (by decide +kernel) (by decide +kernel) (by decide +kernel) (by decide +kernel) (by decide +kernel) (by decide +kernel)
theorem allAtoms_all (ts : List Jvm.Cond) (a : Array Jvm.Value) (st : Jvm.State) : (allAtoms ts).before a st = ts.all (fun c => c.before a st) := by
  induction ts with
  | nil => rfl
  | cons c t ih =>
    show (Jvm.Cond.and c (allAtoms t)).before a st = _
    rw [Jvm.Cond.before_and, ih, List.all_cons]
def words1 : List Jvm.Cond := Jvm.Cond.code x code maxLocals ret :: tables_1
/-- a 'code' word, met by the world's own term for the bytes: nothing is compared byte by byte -/
theorem code_word {y : MethodName} {bytes : ByteArray} {mx : Nat} {rt : Option FieldType} {a : Array Value} {s : State} {m : MethodId} {meth : Method} {c : Code} (h1 : s.methodNamed? y = some m) (h2 : s.vm.method? m = some meth) (h3 : meth.code = some c) (h4 : c.code = bytes)
    (h5 : (c.maxLocals == mx && c.exceptionTable.isEmpty && decide (c.maxStack ≤ mostOperands) && decide (meth.sig.returnType = rt) && !meth.locks && decide (parseMethodDescriptor y.desc = some meth.sig)) = true) : (Jvm.Cond.code y bytes mx rt).before a s = true := by
  simp only [Bool.and_eq_true, beq_iff_eq, Bool.not_eq_true', decide_eq_true_eq] at h5
  obtain ⟨⟨⟨⟨⟨g1, g2⟩, g3⟩, g4⟩, g5⟩, g6⟩ := h5
  simp [Cond.before, Cond.holds, Cond.value, h1, h2, h3, h4, g1, g2, g3, g4, g5, g6]
def isCode : Jvm.Cond → Bool
  | .code _ _ _ _ => true
  | _ => false
theorem all_split {L : List Jvm.Cond} {P : Jvm.Cond → Bool} (h1 : L.all (fun c => isCode c || P c) = true) (h2 : ∀ c ∈ L.filter isCode, P c = true) : L.all P = true := by
  refine List.all_eq_true.mpr fun c hc => ?_
  have h := List.all_eq_true.mp h1 c hc
  rcases Bool.eq_false_or_eq_true (isCode c) with hi | hi
  · exact h2 c (List.mem_filter.mpr ⟨hc, hi⟩)
  · simpa [hi] using h
set_option maxRecDepth 65536 in
theorem w_c0 : (Jvm.Cond.code x code maxLocals ret).before args0 about1 = true := code_word (m := ⟨1, 1⟩) (meth := k1m1) (c := k1c1) (by decide +kernel) rfl rfl rfl (by decide +kernel)
set_option maxRecDepth 65536 in
theorem w_c1 : (Jvm.Cond.code ({ cls := "com/example/stubwright/stubwright/idl/ConstValue$CharValue", name := "<init>", desc := "(C)V" } : Jvm.MethodName) prog_20_method_1_code (2 : Nat) (Option.none : Option Jvm.ClassFile.FieldType)).before args0 about1 = true := code_word (m := ⟨4, 0⟩) (meth := k4m0) (c := k4c0) (by decide +kernel) rfl rfl rfl (by decide +kernel)
set_option maxRecDepth 65536 in
theorem w_c2 : (Jvm.Cond.code ({ cls := "java/lang/Record", name := "<init>", desc := "()V" } : Jvm.MethodName) jdk_30_method_1_code (1 : Nat) (Option.none : Option Jvm.ClassFile.FieldType)).before args0 about1 = true := code_word (m := ⟨2, 0⟩) (meth := k2m0) (c := k2c0) (by decide +kernel) rfl rfl rfl (by decide +kernel)
set_option maxRecDepth 65536 in
theorem w_c3 : (Jvm.Cond.code ({ cls := "java/lang/Object", name := "<init>", desc := "()V" } : Jvm.MethodName) object_method_1_code (1 : Nat) (Option.none : Option Jvm.ClassFile.FieldType)).before args0 about1 = true := code_word (m := ⟨0, 0⟩) (meth := k0m0) (c := k0c0) (by decide +kernel) rfl rfl rfl (by decide +kernel)
set_option maxRecDepth 65536 in
theorem w_c4 : (Jvm.Cond.code ({ cls := "com/example/stubwright/stubwright/idl/ConstValue$CharValue", name := "equals", desc := "(Ljava/lang/Object;)Z" } : Jvm.MethodName) prog_20_method_2_code (3 : Nat) (Option.some Jvm.ClassFile.FieldType.boolean)).before args0 about1 = true := code_word (m := ⟨4, 1⟩) (meth := k4m1) (c := k4c1) (by decide +kernel) rfl rfl rfl (by decide +kernel)
set_option maxRecDepth 65536 in
theorem w_c5 : (Jvm.Cond.code ({ cls := "java/lang/Integer", name := "valueOf", desc := "(I)Ljava/lang/Integer;" } : Jvm.MethodName) jdk_33_method_22_code (1 : Nat) (Option.some (Jvm.ClassFile.FieldType.object "java/lang/Integer"))).before args0 about1 = true := code_word (m := ⟨10, 0⟩) (meth := k10m0) (c := k10c0) (by decide +kernel) rfl rfl rfl (by decide +kernel)
set_option maxRecDepth 65536 in
theorem w_c6 : (Jvm.Cond.code ({ cls := "com/example/stubwright/stubwright/idl/ConstValue$BooleanValue", name := "<init>", desc := "(Z)V" } : Jvm.MethodName) prog_19_method_1_code (2 : Nat) (Option.none : Option Jvm.ClassFile.FieldType)).before args0 about1 = true := code_word (m := ⟨12, 0⟩) (meth := k12m0) (c := k12c0) (by decide +kernel) rfl rfl rfl (by decide +kernel)
set_option maxRecDepth 65536 in
theorem w_c7 : (Jvm.Cond.code ({ cls := "java/lang/Integer", name := "<init>", desc := "(I)V" } : Jvm.MethodName) jdk_33_method_23_code (2 : Nat) (Option.none : Option Jvm.ClassFile.FieldType)).before args0 about1 = true := code_word (m := ⟨10, 1⟩) (meth := k10m1) (c := k10c1) (by decide +kernel) rfl rfl rfl (by decide +kernel)
set_option maxRecDepth 65536 in
theorem w_c8 : (Jvm.Cond.code ({ cls := "java/lang/Number", name := "<init>", desc := "()V" } : Jvm.MethodName) jdk_18_method_1_code (1 : Nat) (Option.none : Option Jvm.ClassFile.FieldType)).before args0 about1 = true := code_word (m := ⟨6, 0⟩) (meth := k6m0) (c := k6c0) (by decide +kernel) rfl rfl rfl (by decide +kernel)
def codes1 : List Jvm.Cond := [Jvm.Cond.code x code maxLocals ret, Jvm.Cond.code ({ cls := "com/example/stubwright/stubwright/idl/ConstValue$CharValue", name := "<init>", desc := "(C)V" } : Jvm.MethodName) prog_20_method_1_code (2 : Nat) (Option.none : Option Jvm.ClassFile.FieldType), Jvm.Cond.code ({ cls := "java/lang/Record", name := "<init>", desc := "()V" } : Jvm.MethodName) jdk_30_method_1_code (1 : Nat) (Option.none : Option Jvm.ClassFile.FieldType), Jvm.Cond.code ({ cls := "java/lang/Object", name := "<init>", desc := "()V" } : Jvm.MethodName) object_method_1_code (1 : Nat) (Option.none : Option Jvm.ClassFile.FieldType), Jvm.Cond.code ({ cls := "com/example/stubwright/stubwright/idl/ConstValue$CharValue", name := "equals", desc := "(Ljava/lang/Object;)Z" } : Jvm.MethodName) prog_20_method_2_code (3 : Nat) (Option.some Jvm.ClassFile.FieldType.boolean), Jvm.Cond.code ({ cls := "java/lang/Integer", name := "valueOf", desc := "(I)Ljava/lang/Integer;" } : Jvm.MethodName) jdk_33_method_22_code (1 : Nat) (Option.some (Jvm.ClassFile.FieldType.object "java/lang/Integer")), Jvm.Cond.code ({ cls := "com/example/stubwright/stubwright/idl/ConstValue$BooleanValue", name := "<init>", desc := "(Z)V" } : Jvm.MethodName) prog_19_method_1_code (2 : Nat) (Option.none : Option Jvm.ClassFile.FieldType), Jvm.Cond.code ({ cls := "java/lang/Integer", name := "<init>", desc := "(I)V" } : Jvm.MethodName) jdk_33_method_23_code (2 : Nat) (Option.none : Option Jvm.ClassFile.FieldType), Jvm.Cond.code ({ cls := "java/lang/Number", name := "<init>", desc := "()V" } : Jvm.MethodName) jdk_18_method_1_code (1 : Nat) (Option.none : Option Jvm.ClassFile.FieldType)]
set_option maxRecDepth 65536 in
theorem codes_eq : words1.filter isCode = codes1 := rfl
theorem w_codes : ∀ c ∈ words1.filter isCode, c.before args0 about1 = true := by
  rw [codes_eq]
  intro c hc
  simp only [codes1, List.mem_cons, List.not_mem_nil, or_false] at hc
  rcases hc with rfl | rfl | rfl | rfl | rfl | rfl | rfl | rfl | rfl
  · exact w_c0
  · exact w_c1
  · exact w_c2
  · exact w_c3
  · exact w_c4
  · exact w_c5
  · exact w_c6
  · exact w_c7
  · exact w_c8
set_option maxRecDepth 65536 in
theorem w_t1 : (words1.take 24).all (fun c => isCode c || c.before args0 about1) = true := by decide +kernel
set_option maxRecDepth 65536 in
theorem w_t2 : ((words1.drop 24).take 24).all (fun c => isCode c || c.before args0 about1) = true := by decide +kernel
set_option maxRecDepth 65536 in
theorem w_t3 : ((words1.drop 24).drop 24).all (fun c => isCode c || c.before args0 about1) = true := by decide +kernel
theorem w_tables : (allAtoms (Jvm.Cond.code x code maxLocals ret :: tables_1)).before args0 about1 = true := by
  rw [allAtoms_all]
  show words1.all (fun c => c.before args0 about1) = true
  refine all_split ?_ w_codes
  rw [← List.take_append_drop 24 words1, List.all_append, w_t1, ← List.take_append_drop 24 (words1.drop 24), List.all_append, w_t2, w_t3]
  rfl
set_option maxRecDepth 65536 in
theorem w_rest : rest_1_c.before args0 about1 = true := by decide +kernel
set_option maxRecDepth 65536 in
theorem w_case : (Jvm.Cond.and given_1 narrow_1).before args0 about1 = true := by decide +kernel
theorem w_applies : (headSpec (Jvm.Cond.code x code maxLocals ret :: tables_1) room_1).applies x e0.platform about1 = true :=
  (Spec.applies_iff w_frames).mpr ⟨w_running, w_runnable, w_alone, w_named, w_hears, w_ripe, w_room, w_tables⟩
theorem atStart : AtStart classFile x code maxLocals ret World_1 tables_1 room_1 Calls_1 rest_1 Pre_1 launch0 p0 e0 about1 theMethod args0 below0 :=
  ⟨lists_1, trivial, launch0.admits_env _ _ _, launch0.least_env, fairChoices_fair.cas, fairChoices_fair.clock, w_frames, w_args, w_heap, w_applies, trivial, w_rest, w_case⟩
end start1
theorem witness_1 : WitnessClaimed_1 := ⟨start1.p0, start1.e0, start1.about1, start1.theMethod, start1.args0, start1.below0, start1.atStart⟩
end Jvm.Pilot.@@N@@
