import JvmDerived
import JvmDerived.Pilot.@@N@@Statement
import JvmDerived.Pilot.@@N@@Code
set_option linter.unusedVariables false
set_option linter.unusedSimpArgs false
namespace Jvm.Pilot.@@N@@
open Jvm Jvm.ClassFile Sem Op Lib Jvm.Free Jvm.Stand Jvm.LawKit Jvm.RoadKit Bundle Jvm.Pilot.@@N@@.Jvm.D
abbrev Way (p : Program) (e : Env) (below : List Frame) (S0 T : State) (g : JFrame) : Prop := ∀ t, Steps p.tables e below (T.setTop g) t → Steps p.tables e below S0 t
theorem own_old {Z : State} {n0 : Nat} {h : Heap} (O : Old Z n0 h) : n0 ≤ h.size := O.1 ▸ O.2.1
theorem own_strW {a0 : Array Value} {Z : State} (hw : ∀ d ∈ tables_1, d.before a0 Z = true) : ∀ a ∈ Bundle.stringAtoms, a.before a0 Z = true := fun d hd => by
  simp only [Bundle.stringAtoms, List.mem_cons, List.not_mem_nil, or_false] at hd
  rcases hd with rfl | rfl | rfl | rfl | rfl | rfl | rfl
  · exact (hw _ (List.mem_of_getElem? (i := 35) rfl))
  · exact (hw _ (List.mem_of_getElem? (i := 36) rfl))
  · exact (hw _ (List.mem_of_getElem? (i := 37) rfl))
  · exact (hw _ (List.mem_of_getElem? (i := 38) rfl))
  · exact (hw _ (List.mem_of_getElem? (i := 39) rfl))
  · exact (hw _ (List.mem_of_getElem? (i := 40) rfl))
  · exact (hw _ (List.mem_of_getElem? (i := 41) rfl))
theorem own_rw {s t : State} {o : Outcome} {L : List Loc} {k n k' n' : Nat} (h : ReturnedEndW s o t L k n) (hk : k ≤ k') (hn : n ≤ n') : ReturnedEndW s o t L k' n' := ⟨h.1, h.2.1, h.2.2.1, h.2.2.2.mono hk hn⟩
def own_EL : List (String × Nat) := [("caseward/policy/Access", 80), ("caseward/policy/Access", 82), ("caseward/policy/AccessPiiWordPinLaw", 35), ("caseward/policy/AccessPiiWordPinLaw", 43)]
theorem own_EW {a0 : Array Value} {Z : State} (hw : ∀ d ∈ tables_1, d.before a0 Z = true) : EW Z a0 own_EL := (EW.cons (hw _ (List.mem_of_getElem? (i := 60) rfl)) (by decide) (EW.cons (hw _ (List.mem_of_getElem? (i := 34) rfl)) (by decide) (EW.cons (hw _ (List.mem_of_getElem? (i := 42) rfl)) (by decide) (EW.cons (hw _ (List.mem_of_getElem? (i := 57) rfl)) (by decide) EW.nil))))
theorem own_held {tb : Tables} {e : Env} {a : Array Value} {s : State} (h : Calls_1 tb e a s) : ∀ p ∈ own_EL, Jvm.Lit.constHeld s p.1 p.2 := fun p hp => h.1 p hp
theorem own_eqF {args : Array Value} {s : State} {t : Term} {x : Addr} {C n d : String} {k : Int32} (ht : t.eval args s none [] s = some (.ref x)) (h : (Jvm.Cond.eq (.field t C n d) (.int k)).value args s none s [] = some true) : s.fieldOf? x C n d = some (.int k) :=
  (fld_at ht).symm.trans (Cond.eq_int (Cond.before_iff.mpr h) rfl)
theorem own_rem3 (x : Int32) : ((x &&& (2147483647 : Int32)) % (3 : Int32)) = (0 : Int32) ∨ ((x &&& (2147483647 : Int32)) % (3 : Int32)) = (1 : Int32) ∨ ((x &&& (2147483647 : Int32)) % (3 : Int32)) = (2 : Int32) := by
  have h1 : (x &&& (2147483647 : Int32)).toInt = x.toInt % (2 ^ 31 : Nat) := c_mask x 2147483647 31 (by decide) (by decide)
  have h2 := (c_irem (x &&& (2147483647 : Int32)) (3 : Int32) 3 (by decide)).1 (by omega)
  have h3 : ((x &&& (2147483647 : Int32)) % (3 : Int32)).toInt = 0 ∨ ((x &&& (2147483647 : Int32)) % (3 : Int32)).toInt = 1 ∨ ((x &&& (2147483647 : Int32)) % (3 : Int32)).toInt = 2 := by omega
  rcases h3 with h | h | h
  · exact Or.inl (Int32.toInt_inj.mp h)
  · exact Or.inr (Or.inl (Int32.toInt_inj.mp h))
  · exact Or.inr (Or.inr ((Int32.toInt_inj.mp h)))
def Gst (Z : State) (w_NONE : Addr) (w_VIEW : Addr) (w_EDIT : Addr) (wCS : Int32) : Prop := (Sta Z Z.heap "caseward/policy/Access$Level" "NONE" "Lcaseward/policy/Access$Level;" (.ref w_NONE)) ∧ (Exa Z Z.heap w_NONE "caseward/policy/Access$Level") ∧ (Fld Z Z.heap w_NONE "java/lang/Enum" "ordinal" "I" (.int (0 : Int32))) ∧ (Sta Z Z.heap "caseward/policy/Access$Level" "VIEW" "Lcaseward/policy/Access$Level;" (.ref w_VIEW)) ∧ (Exa Z Z.heap w_VIEW "caseward/policy/Access$Level") ∧ (Fld Z Z.heap w_VIEW "java/lang/Enum" "ordinal" "I" (.int (1 : Int32))) ∧ (Sta Z Z.heap "caseward/policy/Access$Level" "EDIT" "Lcaseward/policy/Access$Level;" (.ref w_EDIT)) ∧ (Exa Z Z.heap w_EDIT "caseward/policy/Access$Level") ∧ (Fld Z Z.heap w_EDIT "java/lang/Enum" "ordinal" "I" (.int (2 : Int32))) ∧ (Sta Z Z.heap "java/lang/String" "COMPACT_STRINGS" "Z" (.int wCS)) ∧ (¬ (wCS = (0 : Int32)))
theorem d_method_2_code_0 : decode method_2_code 0 = .ok (.iload_n 0, 1) := by decide +kernel
theorem d_method_2_code_1 : decode method_2_code 1 = .ok (.ldc 7, 2) := by decide +kernel
theorem d_method_2_code_3 : decode method_2_code 3 = .ok (.iand, 1) := by decide +kernel
theorem d_method_2_code_4 : decode method_2_code 4 = .ok (.iconst 3, 1) := by decide +kernel
theorem d_method_2_code_5 : decode method_2_code 5 = .ok (.irem, 1) := by decide +kernel
theorem d_method_2_code_6 : decode method_2_code 6 = .ok (.istore_n 1, 1) := by decide +kernel
theorem d_method_2_code_7 : decode method_2_code 7 = .ok (.iload_n 1, 1) := by decide +kernel
theorem d_method_2_code_8 : decode method_2_code 8 = .ok (.ifCond .ne 7, 3) := by decide +kernel
theorem d_method_2_code_11 : decode method_2_code 11 = .ok (.getstatic 8, 3) := by decide +kernel
theorem d_method_2_code_14 : decode method_2_code 14 = .ok (.areturn, 1) := by decide +kernel
theorem d_method_2_code_15 : decode method_2_code 15 = .ok (.iload_n 1, 1) := by decide +kernel
theorem d_method_2_code_16 : decode method_2_code 16 = .ok (.iconst 1, 1) := by decide +kernel
theorem d_method_2_code_17 : decode method_2_code 17 = .ok (.if_icmp .ne 7, 3) := by decide +kernel
theorem d_method_2_code_20 : decode method_2_code 20 = .ok (.getstatic 14, 3) := by decide +kernel
theorem d_method_2_code_23 : decode method_2_code 23 = .ok (.areturn, 1) := by decide +kernel
theorem d_method_2_code_24 : decode method_2_code 24 = .ok (.getstatic 17, 3) := by decide +kernel
theorem d_method_2_code_27 : decode method_2_code 27 = .ok (.areturn, 1) := by decide +kernel
theorem pn_0 : plainName "caseward/policy/AccessPiiWordPinLaw" = true := by first | (simp [plainName, overriddenIn]; done) | decide +kernel
theorem d_jdk_30_method_1_code_0 : decode jdk_30_method_1_code 0 = .ok (.aload_n 0, 1) := by decide +kernel
theorem d_jdk_30_method_1_code_1 : decode jdk_30_method_1_code 1 = .ok (.invokespecial 1, 3) := by decide +kernel
theorem d_jdk_30_method_1_code_4 : decode jdk_30_method_1_code 4 = .ok (.return_, 1) := by decide +kernel
theorem pn_1 : plainName "java/lang/Record" = true := by first | (simp [plainName, overriddenIn]; done) | decide +kernel
theorem d_prog_34_method_1_code_0 : decode prog_34_method_1_code 0 = .ok (.aload_n 0, 1) := by decide +kernel
theorem d_prog_34_method_1_code_1 : decode prog_34_method_1_code 1 = .ok (.invokespecial 1, 3) := by decide +kernel
theorem pd_0 : parseMethodDescriptor "()V" = some ⟨[], none⟩ := by decide +kernel
theorem d_prog_34_method_1_code_4 : decode prog_34_method_1_code 4 = .ok (.aload_n 1, 1) := by decide +kernel
theorem d_prog_34_method_1_code_5 : decode prog_34_method_1_code 5 = .ok (.getstatic 7, 3) := by decide +kernel
theorem d_prog_34_method_1_code_8 : decode prog_34_method_1_code 8 = .ok (.if_acmp .ne 21, 3) := by decide +kernel
theorem d_prog_34_method_1_code_11 : decode prog_34_method_1_code 11 = .ok (.iload_n 2, 1) := by decide +kernel
theorem d_prog_34_method_1_code_12 : decode prog_34_method_1_code 12 = .ok (.ifCond .ne 7, 3) := by decide +kernel
theorem d_prog_34_method_1_code_15 : decode prog_34_method_1_code 15 = .ok (.iload_n 3, 1) := by decide +kernel
theorem d_prog_34_method_1_code_16 : decode prog_34_method_1_code 16 = .ok (.ifCond .eq 13, 3) := by decide +kernel
theorem d_prog_34_method_1_code_29 : decode prog_34_method_1_code 29 = .ok (.aload_n 0, 1) := by decide +kernel
theorem d_prog_34_method_1_code_30 : decode prog_34_method_1_code 30 = .ok (.aload_n 1, 1) := by decide +kernel
theorem d_prog_34_method_1_code_31 : decode prog_34_method_1_code 31 = .ok (.putfield 20, 3) := by decide +kernel
theorem d_prog_34_method_1_code_34 : decode prog_34_method_1_code 34 = .ok (.aload_n 0, 1) := by decide +kernel
theorem d_prog_34_method_1_code_35 : decode prog_34_method_1_code 35 = .ok (.iload_n 2, 1) := by decide +kernel
theorem d_prog_34_method_1_code_36 : decode prog_34_method_1_code 36 = .ok (.putfield 25, 3) := by decide +kernel
theorem d_prog_34_method_1_code_39 : decode prog_34_method_1_code 39 = .ok (.aload_n 0, 1) := by decide +kernel
theorem d_prog_34_method_1_code_40 : decode prog_34_method_1_code 40 = .ok (.iload_n 3, 1) := by decide +kernel
theorem d_prog_34_method_1_code_41 : decode prog_34_method_1_code 41 = .ok (.putfield 29, 3) := by decide +kernel
theorem d_prog_34_method_1_code_44 : decode prog_34_method_1_code 44 = .ok (.return_, 1) := by decide +kernel
theorem pn_2 : plainName "caseward/policy/Access" = true := by first | (simp [plainName, overriddenIn]; done) | decide +kernel
theorem d_prog_34_method_8_code_0 : decode prog_34_method_8_code 0 = .ok (.aload_n 0, 1) := by decide +kernel
theorem d_prog_34_method_8_code_1 : decode prog_34_method_8_code 1 = .ok (.getfield 25, 3) := by decide +kernel
theorem d_prog_34_method_8_code_4 : decode prog_34_method_8_code 4 = .ok (.ifCond .eq 8, 3) := by decide +kernel
theorem d_prog_34_method_8_code_12 : decode prog_34_method_8_code 12 = .ok (.ldc 82, 2) := by decide +kernel
theorem d_prog_34_method_8_code_14 : decode prog_34_method_8_code 14 = .ok (.areturn, 1) := by decide +kernel
theorem d_prog_34_method_8_code_7 : decode prog_34_method_8_code 7 = .ok (.ldc 80, 2) := by decide +kernel
theorem d_prog_34_method_8_code_9 : decode prog_34_method_8_code 9 = .ok (.goto 5, 3) := by decide +kernel
theorem d_jdk_43_method_13_code_0 : decode jdk_43_method_13_code 0 = .ok (.aload_n 0, 1) := by decide +kernel
theorem d_jdk_43_method_13_code_1 : decode jdk_43_method_13_code 1 = .ok (.arraylength, 1) := by decide +kernel
theorem d_jdk_43_method_13_code_2 : decode jdk_43_method_13_code 2 = .ok (.aload_n 1, 1) := by decide +kernel
theorem d_jdk_43_method_13_code_3 : decode jdk_43_method_13_code 3 = .ok (.arraylength, 1) := by decide +kernel
theorem d_jdk_43_method_13_code_4 : decode jdk_43_method_13_code 4 = .ok (.if_icmp .ne 30, 3) := by decide +kernel
theorem d_jdk_43_method_13_code_7 : decode jdk_43_method_13_code 7 = .ok (.iconst 0, 1) := by decide +kernel
theorem d_jdk_43_method_13_code_8 : decode jdk_43_method_13_code 8 = .ok (.istore_n 2, 1) := by decide +kernel
theorem d_jdk_43_method_13_code_9 : decode jdk_43_method_13_code 9 = .ok (.iload_n 2, 1) := by decide +kernel
theorem d_jdk_43_method_13_code_10 : decode jdk_43_method_13_code 10 = .ok (.aload_n 0, 1) := by decide +kernel
theorem d_jdk_43_method_13_code_11 : decode jdk_43_method_13_code 11 = .ok (.arraylength, 1) := by decide +kernel
theorem d_jdk_43_method_13_code_12 : decode jdk_43_method_13_code 12 = .ok (.if_icmp .ge 20, 3) := by decide +kernel
theorem d_jdk_43_method_13_code_15 : decode jdk_43_method_13_code 15 = .ok (.aload_n 0, 1) := by decide +kernel
theorem d_jdk_43_method_13_code_16 : decode jdk_43_method_13_code 16 = .ok (.iload_n 2, 1) := by decide +kernel
theorem d_jdk_43_method_13_code_17 : decode jdk_43_method_13_code 17 = .ok (.baload, 1) := by decide +kernel
theorem d_jdk_43_method_13_code_18 : decode jdk_43_method_13_code 18 = .ok (.aload_n 1, 1) := by decide +kernel
theorem d_jdk_43_method_13_code_19 : decode jdk_43_method_13_code 19 = .ok (.iload_n 2, 1) := by decide +kernel
theorem d_jdk_43_method_13_code_20 : decode jdk_43_method_13_code 20 = .ok (.baload, 1) := by decide +kernel
theorem d_jdk_43_method_13_code_21 : decode jdk_43_method_13_code 21 = .ok (.if_icmp .eq 5, 3) := by decide +kernel
theorem d_jdk_43_method_13_code_26 : decode jdk_43_method_13_code 26 = .ok (.iinc 2 1, 3) := by decide +kernel
theorem d_jdk_43_method_13_code_29 : decode jdk_43_method_13_code 29 = .ok (.goto (-20), 3) := by decide +kernel
theorem d_jdk_43_method_13_code_32 : decode jdk_43_method_13_code 32 = .ok (.iconst 1, 1) := by decide +kernel
theorem d_jdk_43_method_13_code_33 : decode jdk_43_method_13_code 33 = .ok (.ireturn, 1) := by decide +kernel
theorem pn_3 : plainName "java/lang/StringLatin1" = true := by first | (simp [plainName, overriddenIn]; done) | decide +kernel
theorem d_jdk_43_method_13_code_34 : decode jdk_43_method_13_code 34 = .ok (.iconst 0, 1) := by decide +kernel
theorem d_jdk_43_method_13_code_35 : decode jdk_43_method_13_code 35 = .ok (.ireturn, 1) := by decide +kernel
theorem d_jdk_42_method_66_code_0 : decode jdk_42_method_66_code 0 = .ok (.aload_n 0, 1) := by decide +kernel
theorem d_jdk_42_method_66_code_1 : decode jdk_42_method_66_code 1 = .ok (.aload_n 1, 1) := by decide +kernel
theorem d_jdk_42_method_66_code_2 : decode jdk_42_method_66_code 2 = .ok (.if_acmp .ne 5, 3) := by decide +kernel
theorem d_jdk_42_method_66_code_5 : decode jdk_42_method_66_code 5 = .ok (.iconst 1, 1) := by decide +kernel
theorem d_jdk_42_method_66_code_6 : decode jdk_42_method_66_code 6 = .ok (.ireturn, 1) := by decide +kernel
theorem d_jdk_42_method_66_code_7 : decode jdk_42_method_66_code 7 = .ok (.aload_n 1, 1) := by decide +kernel
theorem d_jdk_42_method_66_code_8 : decode jdk_42_method_66_code 8 = .ok (.instanceof 10, 3) := by decide +kernel
theorem d_jdk_42_method_66_code_11 : decode jdk_42_method_66_code 11 = .ok (.ifCond .eq 43, 3) := by decide +kernel
theorem d_jdk_42_method_66_code_14 : decode jdk_42_method_66_code 14 = .ok (.aload_n 1, 1) := by decide +kernel
theorem d_jdk_42_method_66_code_15 : decode jdk_42_method_66_code 15 = .ok (.checkcast 10, 3) := by decide +kernel
theorem d_jdk_42_method_66_code_18 : decode jdk_42_method_66_code 18 = .ok (.astore_n 2, 1) := by decide +kernel
theorem d_jdk_42_method_66_code_19 : decode jdk_42_method_66_code 19 = .ok (.getstatic 38, 3) := by decide +kernel
theorem d_jdk_42_method_66_code_22 : decode jdk_42_method_66_code 22 = .ok (.ifCond .eq 14, 3) := by decide +kernel
theorem d_jdk_42_method_66_code_25 : decode jdk_42_method_66_code 25 = .ok (.aload_n 0, 1) := by decide +kernel
theorem d_jdk_42_method_66_code_26 : decode jdk_42_method_66_code 26 = .ok (.getfield 15, 3) := by decide +kernel
theorem d_jdk_42_method_66_code_29 : decode jdk_42_method_66_code 29 = .ok (.aload_n 2, 1) := by decide +kernel
theorem d_jdk_42_method_66_code_30 : decode jdk_42_method_66_code 30 = .ok (.getfield 15, 3) := by decide +kernel
theorem d_jdk_42_method_66_code_33 : decode jdk_42_method_66_code 33 = .ok (.if_icmp .ne 21, 3) := by decide +kernel
theorem d_jdk_42_method_66_code_36 : decode jdk_42_method_66_code 36 = .ok (.aload_n 0, 1) := by decide +kernel
theorem d_jdk_42_method_66_code_37 : decode jdk_42_method_66_code 37 = .ok (.getfield 9, 3) := by decide +kernel
theorem d_jdk_42_method_66_code_40 : decode jdk_42_method_66_code 40 = .ok (.aload_n 2, 1) := by decide +kernel
theorem d_jdk_42_method_66_code_41 : decode jdk_42_method_66_code 41 = .ok (.getfield 9, 3) := by decide +kernel
theorem d_jdk_42_method_66_code_44 : decode jdk_42_method_66_code 44 = .ok (.invokestatic 541, 3) := by decide +kernel
theorem pd_1 : parseMethodDescriptor "([B[B)Z" = some ⟨[(.array .byte), (.array .byte)], some .boolean⟩ := by decide +kernel
theorem d_jdk_42_method_66_code_47 : decode jdk_42_method_66_code 47 = .ok (.ifCond .eq 7, 3) := by decide +kernel
theorem d_jdk_42_method_66_code_50 : decode jdk_42_method_66_code 50 = .ok (.iconst 1, 1) := by decide +kernel
theorem d_jdk_42_method_66_code_51 : decode jdk_42_method_66_code 51 = .ok (.goto 4, 3) := by decide +kernel
theorem d_jdk_42_method_66_code_55 : decode jdk_42_method_66_code 55 = .ok (.ireturn, 1) := by decide +kernel
theorem pn_4 : plainName "java/lang/String" = true := by first | (simp [plainName, overriddenIn]; done) | decide +kernel
theorem d_jdk_42_method_66_code_54 : decode jdk_42_method_66_code 54 = .ok (.iconst 0, 1) := by decide +kernel
theorem pd_2 : parseMethodDescriptor "(I)Lcaseward/policy/Access$Level;" = some ⟨[.int], some (.object "caseward/policy/Access$Level")⟩ := by decide +kernel
theorem pd_3 : parseMethodDescriptor "(Lcaseward/policy/Access$Level;ZZ)V" = some ⟨[(.object "caseward/policy/Access$Level"), .boolean, .boolean], none⟩ := by decide +kernel
theorem pd_4 : parseMethodDescriptor "()Ljava/lang/String;" = some ⟨[], some (.object "java/lang/String")⟩ := by decide +kernel
theorem pd_5 : parseMethodDescriptor "(Ljava/lang/Object;)Z" = some ⟨[(.object "java/lang/Object")], some .boolean⟩ := by decide +kernel
def Q_lev (Z : State) (w_NONE : Addr) (w_VIEW : Addr) (w_EDIT : Addr) (wCS : Int32) (p1 : Int32) (h0 : Heap) (n0 : Nat) (v : Option Value) (h : Heap) (L : List Loc) : Prop := ∃ a1 : Addr, (v = some (.ref a1)) ∧ (Fr n0 L) ∧ (h = h0) ∧ (a1 = w_NONE ∨ a1 = w_VIEW ∨ a1 = w_EDIT)
set_option maxRecDepth 65536 in
set_option maxHeartbeats 40000000 in
theorem lev (l : Launch) (Z : State) (a0 : Array Value) (hw : ∀ d ∈ tables_1, d.before a0 Z = true) (ws : List Jvm.Cond) (w_NONE : Addr) (w_VIEW : Addr) (w_EDIT : Addr) (wCS : Int32) (G : Gst Z w_NONE w_VIEW w_EDIT wCS) (p1 : Int32) (h0 : Heap) (n0 : Nat) (O0 : Old Z n0 h0) :
    MetFree l (⟨"caseward/policy/AccessPiiWordPinLaw", "level", "(I)Lcaseward/policy/Access$Level;"⟩ : MethodName) (head1 (Jvm.Cond.code (⟨"caseward/policy/AccessPiiWordPinLaw", "level", "(I)Lcaseward/policy/Access$Level;"⟩ : MethodName) method_2_code 2 (some (.object "caseward/policy/Access$Level")) :: ws) ({ frames := 0, cells := 0, slots := 0, locals := 0 } : Room)) (fun a U => a = #[(.int p1)] ∧ Z.Warmed39 U.vm ∧ U.heap = h0) (fun _ _ _ _ _ => True) (fun _ U o U' => ∃ v L, o = .returned v ∧ Q_lev Z w_NONE w_VIEW w_EDIT wCS p1 h0 n0 v U'.heap L ∧ FrameEnd U o U' L ({ frames := 0, cells := 0, slots := 0, locals := 0 } : Room).cells ({ frames := 0, cells := 0, slots := 0, locals := 0 } : Room).slots) := by
  refine MetFree.of_bodySF (plainFor_of_name pn_0) hisR ?_
  intro p e s m args below meth c s₁ Bd hml0 hP hK
  obtain ⟨rfl, hZ, hh⟩ := hP
  have hx := Bd.exec
  have hby := Bd.bytes
  have hml : c.maxLocals = 2 := hml0
  have hown : s.vm.findClass "caseward/policy/AccessPiiWordPinLaw" = some m.cls := findClass_of_methodNamed Bd.named
  have hnm := (name_of_methodNamed Bd.named Bd.method).1
  have X0 : Stand p l e ({ frames := 0, cells := 0, slots := 0, locals := 0 } : Room) s m #[(.int p1)] below meth c s₁ [] 0 0 := Stand.of_body Bd
  have e0 : s₁.heap = h0 := by rw [← hh, Bd.state]; rfl
  have N0 := Fr.nil n0
  obtain ⟨S_w_NONE, E_w_NONE, F_w_NONE_ordinal, S_w_VIEW, E_w_VIEW, F_w_VIEW_ordinal, S_w_EDIT, E_w_EDIT, F_w_EDIT_ordinal, S_CS, hCS⟩ := id G
  have k0 : Way p e below (s₁.setTop (entryFrame m #[(.int p1)] 2)) s₁ (mkF m 0 #[iv p1, .unset] []) := fun t k => castTop (by first | (simp [entryFrame, mkF, argsToLocals, Value.category]; done) | rfl) k
  generalize s₁.setTop (entryFrame m #[(.int p1)] 2) = S0 at k0 ⊢
  have k1 : Way p e below S0 s₁ (mkF m 7 #[iv p1, iv ((p1 &&& (2147483647 : Int32)) % (3 : Int32))] []) := by
    intro t k
    refine k0 t ?_
    refine XS.iloadN X0.here hx rfl (hb hby d_method_2_code_0) rfl ?_
    show Steps p.tables e below (s₁.setTop (mkF m 1 #[iv p1, .unset] [(.int p1)])) _
    refine X0.ldcInt hx hown (mvT hZ (hw _ (List.mem_of_getElem? (i := 4) rfl))) (g := (mkF m 1 #[iv p1, .unset] [(.int p1)])) rfl (hb hby d_method_2_code_1) _ ?_
    show Steps p.tables e below (s₁.setTop (mkF m 3 #[iv p1, .unset] [(.int (2147483647 : Int32)), (.int p1)])) _
    refine XS.iand X0.here hx rfl (hb hby d_method_2_code_3) rfl ?_
    show Steps p.tables e below (s₁.setTop (mkF m 4 #[iv p1, .unset] [(.int (p1 &&& (2147483647 : Int32)))])) _
    refine XS.iconst X0.here hx rfl (hb hby d_method_2_code_4) ?_
    show Steps p.tables e below (s₁.setTop (mkF m 5 #[iv p1, .unset] [(.int (3 : Int32)), (.int (p1 &&& (2147483647 : Int32)))])) _
    refine iremM (g := (mkF m 5 #[iv p1, .unset] [(.int (3 : Int32)), (.int (p1 &&& (2147483647 : Int32)))])) X0 hx rfl (hb hby d_method_2_code_5) rfl (by decide) ?_
    show Steps p.tables e below (s₁.setTop (mkF m 6 #[iv p1, .unset] [(.int ((p1 &&& (2147483647 : Int32)) % (3 : Int32)))])) _
    refine XS.istoreN X0.here hx rfl (hb hby d_method_2_code_6) rfl (l' := #[iv p1, iv ((p1 &&& (2147483647 : Int32)) % (3 : Int32))]) rfl ?_
    show Steps p.tables e below (s₁.setTop (mkF m 7 #[iv p1, iv ((p1 &&& (2147483647 : Int32)) % (3 : Int32))] [])) _
    exact k
  have hr2 : ((p1 &&& (2147483647 : Int32)) % (3 : Int32)) = (0 : Int32) ∨ ((p1 &&& (2147483647 : Int32)) % (3 : Int32)) = (1 : Int32) ∨ ((p1 &&& (2147483647 : Int32)) % (3 : Int32)) = (2 : Int32) := own_rem3 p1
  rcases hr2 with hi2 | hi2 | hi2
  · have k3 : Way p e below S0 s₁ (mkF m 7 #[iv p1, iv (0 : Int32)] []) := by have q := k1; rw [hi2] at q; exact q
    have k4 : Way p e below S0 s₁ (mkF m 11 #[iv p1, iv (0 : Int32)] []) := by
      intro t k
      refine k3 t ?_
      refine XS.iloadN X0.here hx rfl (hb hby d_method_2_code_7) rfl ?_
      show Steps p.tables e below (s₁.setTop (mkF m 8 #[iv p1, iv (0 : Int32)] [(.int (0 : Int32))])) _
      refine XS.ifNo X0.here hx rfl (hb hby d_method_2_code_8) rfl ((if0 _ _).trans (teq ((by decide) : (0 : Int32) = (0 : Int32))).2) ?_
      show Steps p.tables e below (s₁.setTop (mkF m 11 #[iv p1, iv (0 : Int32)] [])) _
      exact k
    obtain ⟨T5, X5, e5, st5⟩ := getS2 X0 hx hZ hown (host := "") (Or.inl (hw _ (List.mem_of_getElem? (i := 5) rfl))) Via.refl e0 (S_w_NONE.ext O0.2) (g := (mkF m 11 #[iv p1, iv (0 : Int32)] [])) rfl (hb hby d_method_2_code_11)
    have k6 : Way p e below S0 T5 (mkF m 14 #[iv p1, iv (0 : Int32)] [(.ref w_NONE)]) := fun t k => k4 t (st5 _ k)
    obtain ⟨fs, hr, hrun, hended, hW, hsame⟩ := X5.leave (v := some (.ref w_NONE)) (fun h => by rw [Bd.returns] at h; cases h)
    refine ⟨_, _, k6 _ (retOut X5 hx Bd.returns rfl (Or.inr (Or.inr (Or.inr (Or.inr ⟨rfl, rfl, rfl⟩)))) (hb hby d_method_2_code_14) hr), hrun, hended, _, _, rfl, ?_, ⟨_, rfl⟩, hW, hsame.mono (by decide) (by decide)⟩
    show Q_lev Z w_NONE w_VIEW w_EDIT wCS p1 h0 n0 _ T5.heap _
    rw [e5]
    exact ⟨w_NONE, rfl, N0, rfl, Or.inl rfl⟩
  · have k7 : Way p e below S0 s₁ (mkF m 7 #[iv p1, iv (1 : Int32)] []) := by have q := k1; rw [hi2] at q; exact q
    have k8 : Way p e below S0 s₁ (mkF m 20 #[iv p1, iv (1 : Int32)] []) := by
      intro t k
      refine k7 t ?_
      refine XS.iloadN X0.here hx rfl (hb hby d_method_2_code_7) rfl ?_
      show Steps p.tables e below (s₁.setTop (mkF m 8 #[iv p1, iv (1 : Int32)] [(.int (1 : Int32))])) _
      refine XS.ifYes X0.here hx rfl (pc0 := 8) (pc' := 15) rfl (hb hby d_method_2_code_8) rfl ((if0 _ _).trans (feq ((by decide) : ¬ ((1 : Int32) = (0 : Int32)))).2) (by decide) (by decide) ?_
      show Steps p.tables e below (s₁.setTop (mkF m 15 #[iv p1, iv (1 : Int32)] [])) _
      refine XS.iloadN X0.here hx rfl (hb hby d_method_2_code_15) rfl ?_
      show Steps p.tables e below (s₁.setTop (mkF m 16 #[iv p1, iv (1 : Int32)] [(.int (1 : Int32))])) _
      refine XS.iconst X0.here hx rfl (hb hby d_method_2_code_16) ?_
      show Steps p.tables e below (s₁.setTop (mkF m 17 #[iv p1, iv (1 : Int32)] [(.int (1 : Int32)), (.int (1 : Int32))])) _
      refine XS.icmpNo X0.here hx rfl (hb hby d_method_2_code_17) rfl (teq ((by decide) : (1 : Int32) = (1 : Int32))).2 ?_
      show Steps p.tables e below (s₁.setTop (mkF m 20 #[iv p1, iv (1 : Int32)] [])) _
      exact k
    obtain ⟨T9, X9, e9, st9⟩ := getS2 X0 hx hZ hown (host := "") (Or.inl (hw _ (List.mem_of_getElem? (i := 61) rfl))) Via.refl e0 (S_w_VIEW.ext O0.2) (g := (mkF m 20 #[iv p1, iv (1 : Int32)] [])) rfl (hb hby d_method_2_code_20)
    have k10 : Way p e below S0 T9 (mkF m 23 #[iv p1, iv (1 : Int32)] [(.ref w_VIEW)]) := fun t k => k8 t (st9 _ k)
    obtain ⟨fs, hr, hrun, hended, hW, hsame⟩ := X9.leave (v := some (.ref w_VIEW)) (fun h => by rw [Bd.returns] at h; cases h)
    refine ⟨_, _, k10 _ (retOut X9 hx Bd.returns rfl (Or.inr (Or.inr (Or.inr (Or.inr ⟨rfl, rfl, rfl⟩)))) (hb hby d_method_2_code_23) hr), hrun, hended, _, _, rfl, ?_, ⟨_, rfl⟩, hW, hsame.mono (by decide) (by decide)⟩
    show Q_lev Z w_NONE w_VIEW w_EDIT wCS p1 h0 n0 _ T9.heap _
    rw [e9]
    exact ⟨w_VIEW, rfl, N0, rfl, Or.inr (Or.inl rfl)⟩
  · have k11 : Way p e below S0 s₁ (mkF m 7 #[iv p1, iv (2 : Int32)] []) := by have q := k1; rw [hi2] at q; exact q
    have k12 : Way p e below S0 s₁ (mkF m 24 #[iv p1, iv (2 : Int32)] []) := by
      intro t k
      refine k11 t ?_
      refine XS.iloadN X0.here hx rfl (hb hby d_method_2_code_7) rfl ?_
      show Steps p.tables e below (s₁.setTop (mkF m 8 #[iv p1, iv (2 : Int32)] [(.int (2 : Int32))])) _
      refine XS.ifYes X0.here hx rfl (pc0 := 8) (pc' := 15) rfl (hb hby d_method_2_code_8) rfl ((if0 _ _).trans (feq ((by decide) : ¬ ((2 : Int32) = (0 : Int32)))).2) (by decide) (by decide) ?_
      show Steps p.tables e below (s₁.setTop (mkF m 15 #[iv p1, iv (2 : Int32)] [])) _
      refine XS.iloadN X0.here hx rfl (hb hby d_method_2_code_15) rfl ?_
      show Steps p.tables e below (s₁.setTop (mkF m 16 #[iv p1, iv (2 : Int32)] [(.int (2 : Int32))])) _
      refine XS.iconst X0.here hx rfl (hb hby d_method_2_code_16) ?_
      show Steps p.tables e below (s₁.setTop (mkF m 17 #[iv p1, iv (2 : Int32)] [(.int (1 : Int32)), (.int (2 : Int32))])) _
      refine XS.icmpYes X0.here hx rfl (pc0 := 17) (pc' := 24) rfl (hb hby d_method_2_code_17) rfl (feq ((by decide) : ¬ ((2 : Int32) = (1 : Int32)))).2 (by decide) (by decide) ?_
      show Steps p.tables e below (s₁.setTop (mkF m 24 #[iv p1, iv (2 : Int32)] [])) _
      exact k
    obtain ⟨T13, X13, e13, st13⟩ := getS2 X0 hx hZ hown (host := "") (Or.inl (hw _ (List.mem_of_getElem? (i := 58) rfl))) Via.refl e0 (S_w_EDIT.ext O0.2) (g := (mkF m 24 #[iv p1, iv (2 : Int32)] [])) rfl (hb hby d_method_2_code_24)
    have k14 : Way p e below S0 T13 (mkF m 27 #[iv p1, iv (2 : Int32)] [(.ref w_EDIT)]) := fun t k => k12 t (st13 _ k)
    obtain ⟨fs, hr, hrun, hended, hW, hsame⟩ := X13.leave (v := some (.ref w_EDIT)) (fun h => by rw [Bd.returns] at h; cases h)
    refine ⟨_, _, k14 _ (retOut X13 hx Bd.returns rfl (Or.inr (Or.inr (Or.inr (Or.inr ⟨rfl, rfl, rfl⟩)))) (hb hby d_method_2_code_27) hr), hrun, hended, _, _, rfl, ?_, ⟨_, rfl⟩, hW, hsame.mono (by decide) (by decide)⟩
    show Q_lev Z w_NONE w_VIEW w_EDIT wCS p1 h0 n0 _ T13.heap _
    rw [e13]
    exact ⟨w_EDIT, rfl, N0, rfl, Or.inr (Or.inr rfl)⟩
def Q_recInit (Z : State) (w_NONE : Addr) (w_VIEW : Addr) (w_EDIT : Addr) (wCS : Int32) (a1 : Addr) (h0 : Heap) (n0 : Nat) (v : Option Value) (h : Heap) (L : List Loc) : Prop := (v = none) ∧ (Fr n0 L) ∧ (h = h0)
set_option maxRecDepth 65536 in
set_option maxHeartbeats 40000000 in
theorem recInit (l : Launch) (Z : State) (a0 : Array Value) (hw : ∀ d ∈ tables_1, d.before a0 Z = true) (ws : List Jvm.Cond) (w_NONE : Addr) (w_VIEW : Addr) (w_EDIT : Addr) (wCS : Int32) (G : Gst Z w_NONE w_VIEW w_EDIT wCS) (a1 : Addr) (h0 : Heap) (n0 : Nat) (O0 : Old Z n0 h0) :
    MetFree l (⟨"java/lang/Record", "<init>", "()V"⟩ : MethodName) (head1 (Jvm.Cond.code (⟨"java/lang/Record", "<init>", "()V"⟩ : MethodName) jdk_30_method_1_code 1 none :: ws) ({ frames := 1, cells := 0, slots := 0, locals := 12 } : Room)) (fun a U => a = #[(.ref a1)] ∧ Z.Warmed39 U.vm ∧ U.heap = h0) (fun _ _ _ _ _ => True) (fun _ U o U' => ∃ v L, o = .returned v ∧ Q_recInit Z w_NONE w_VIEW w_EDIT wCS a1 h0 n0 v U'.heap L ∧ FrameEnd U o U' L ({ frames := 1, cells := 0, slots := 0, locals := 12 } : Room).cells ({ frames := 1, cells := 0, slots := 0, locals := 12 } : Room).slots) := by
  refine MetFree.of_bodySF (plainFor_of_name pn_1) hisR ?_
  intro p e s m args below meth c s₁ Bd hml0 hP hK
  obtain ⟨rfl, hZ, hh⟩ := hP
  have hx := Bd.exec
  have hby := Bd.bytes
  have hml : c.maxLocals = 1 := hml0
  have hown : s.vm.findClass "java/lang/Record" = some m.cls := findClass_of_methodNamed Bd.named
  have hnm := (name_of_methodNamed Bd.named Bd.method).1
  have X0 : Stand p l e ({ frames := 1, cells := 0, slots := 0, locals := 12 } : Room) s m #[(.ref a1)] below meth c s₁ [] 0 0 := Stand.of_body Bd
  have e0 : s₁.heap = h0 := by rw [← hh, Bd.state]; rfl
  have N0 := Fr.nil n0
  obtain ⟨S_w_NONE, E_w_NONE, F_w_NONE_ordinal, S_w_VIEW, E_w_VIEW, F_w_VIEW_ordinal, S_w_EDIT, E_w_EDIT, F_w_EDIT_ordinal, S_CS, hCS⟩ := id G
  have k0 : Way p e below (s₁.setTop (entryFrame m #[(.ref a1)] 1)) s₁ (mkF m 0 #[rv a1] []) := fun t k => castTop (by first | (simp [entryFrame, mkF, argsToLocals, Value.category]; done) | rfl) k
  generalize s₁.setTop (entryFrame m #[(.ref a1)] 1) = S0 at k0 ⊢
  have k1 : Way p e below S0 s₁ (mkF m 1 #[rv a1] [(.ref a1)]) := by
    intro t k
    refine k0 t ?_
    refine XS.aloadN X0.here hx rfl (hb hby d_jdk_30_method_1_code_0) rfl rfl ?_
    show Steps p.tables e below (s₁.setTop (mkF m 1 #[rv a1] [(.ref a1)])) _
    exact k
  obtain ⟨T2, X2, e2, st2⟩ := initO X0 hx hZ hown (hw _ (List.mem_of_getElem? (i := 19) rfl)) (hw _ (List.mem_of_getElem? (i := 20) rfl)) (hw _ (List.mem_of_getElem? (i := 21) rfl)) e0 (g := (mkF m 1 #[rv a1] [(.ref a1)])) rfl (by rw [hml]; rfl) rfl (hb hby d_jdk_30_method_1_code_1) (by decide) (W := 0) (by show 2 * 0 + _ ≤ _; exact Nat.le_of_eq rfl) (by decide)
  have k3 : Way p e below S0 T2 (mkF m 4 #[rv a1] []) := fun t k => k1 t (st2 _ k)
  obtain ⟨fs, hr, hrun, hended, hW, hsame⟩ := X2.leave (v := none) (fun _ => rfl)
  refine ⟨_, _, k3 _ (X2.returnOut hx Bd.returns (hb hby d_jdk_30_method_1_code_4) hr), hrun, hended, _, _, rfl, ?_, ⟨_, rfl⟩, hW, hsame.mono (by decide) (by decide)⟩
  show Q_recInit Z w_NONE w_VIEW w_EDIT wCS a1 h0 n0 _ T2.heap _
  rw [e2]
  exact ⟨rfl, N0, rfl⟩
def Q_init_NONE00 (Z : State) (w_NONE : Addr) (w_VIEW : Addr) (w_EDIT : Addr) (wCS : Int32) (a1 : Addr) (h0 : Heap) (n0 : Nat) (v : Option Value) (h : Heap) (L : List Loc) : Prop := (v = none) ∧ (Fr n0 L) ∧ (Keep h0 h [a1]) ∧ (Exa Z h a1 "caseward/policy/Access") ∧ (Fld Z h a1 "caseward/policy/Access" "pii" "Z" (.int (0 : Int32)))
set_option maxRecDepth 65536 in
set_option maxHeartbeats 40000000 in
theorem init_NONE00 (l : Launch) (Z : State) (a0 : Array Value) (hw : ∀ d ∈ tables_1, d.before a0 Z = true) (ws : List Jvm.Cond) (w_NONE : Addr) (w_VIEW : Addr) (w_EDIT : Addr) (wCS : Int32) (G : Gst Z w_NONE w_VIEW w_EDIT wCS) (a1 : Addr) (h0 : Heap) (n0 : Nat) (O0 : Old Z n0 h0) (a_0 : Exa Z h0 a1 "caseward/policy/Access") (a_1 : Fld Z h0 a1 "caseward/policy/Access" "level" "Lcaseward/policy/Access$Level;" .null) (a_2 : Fld Z h0 a1 "caseward/policy/Access" "pii" "Z" (.int (0 : Int32))) (a_3 : Fld Z h0 a1 "caseward/policy/Access" "unblinded" "Z" (.int (0 : Int32))) (ga1 : n0 ≤ a1) :
    MetFree l (⟨"caseward/policy/Access", "<init>", "(Lcaseward/policy/Access$Level;ZZ)V"⟩ : MethodName) (head1 (Jvm.Cond.code (⟨"caseward/policy/Access", "<init>", "(Lcaseward/policy/Access$Level;ZZ)V"⟩ : MethodName) prog_34_method_1_code 4 none :: ws) ({ frames := 2, cells := 0, slots := 0, locals := 24 } : Room)) (fun a U => a = #[(.ref a1), (.ref w_NONE), (.int (0 : Int32)), (.int (0 : Int32))] ∧ Z.Warmed39 U.vm ∧ U.heap = h0) (fun _ _ _ _ _ => True) (fun _ U o U' => ∃ v L, o = .returned v ∧ Q_init_NONE00 Z w_NONE w_VIEW w_EDIT wCS a1 h0 n0 v U'.heap L ∧ FrameEnd U o U' L ({ frames := 2, cells := 0, slots := 0, locals := 24 } : Room).cells ({ frames := 2, cells := 0, slots := 0, locals := 24 } : Room).slots) := by
  refine MetFree.of_bodySF (plainFor_of_name pn_2) hisR ?_
  intro p e s m args below meth c s₁ Bd hml0 hP hK
  obtain ⟨rfl, hZ, hh⟩ := hP
  have hx := Bd.exec
  have hby := Bd.bytes
  have hml : c.maxLocals = 4 := hml0
  have hown : s.vm.findClass "caseward/policy/Access" = some m.cls := findClass_of_methodNamed Bd.named
  have hnm := (name_of_methodNamed Bd.named Bd.method).1
  have X0 : Stand p l e ({ frames := 2, cells := 0, slots := 0, locals := 24 } : Room) s m #[(.ref a1), (.ref w_NONE), (.int (0 : Int32)), (.int (0 : Int32))] below meth c s₁ [] 0 0 := Stand.of_body Bd
  have e0 : s₁.heap = h0 := by rw [← hh, Bd.state]; rfl
  have N0 := Fr.nil n0
  obtain ⟨S_w_NONE, E_w_NONE, F_w_NONE_ordinal, S_w_VIEW, E_w_VIEW, F_w_VIEW_ordinal, S_w_EDIT, E_w_EDIT, F_w_EDIT_ordinal, S_CS, hCS⟩ := id G
  have k0 : Way p e below (s₁.setTop (entryFrame m #[(.ref a1), (.ref w_NONE), (.int (0 : Int32)), (.int (0 : Int32))] 4)) s₁ (mkF m 0 #[rv a1, rv w_NONE, iv (0 : Int32), iv (0 : Int32)] []) := fun t k => castTop (by first | (simp [entryFrame, mkF, argsToLocals, Value.category]; done) | rfl) k
  generalize s₁.setTop (entryFrame m #[(.ref a1), (.ref w_NONE), (.int (0 : Int32)), (.int (0 : Int32))] 4) = S0 at k0 ⊢
  have k1 : Way p e below S0 s₁ (mkF m 1 #[rv a1, rv w_NONE, iv (0 : Int32), iv (0 : Int32)] [(.ref a1)]) := by
    intro t k
    refine k0 t ?_
    refine XS.aloadN X0.here hx rfl (hb hby d_prog_34_method_1_code_0) rfl rfl ?_
    show Steps p.tables e below (s₁.setTop (mkF m 1 #[rv a1, rv w_NONE, iv (0 : Int32), iv (0 : Int32)] [(.ref a1)])) _
    exact k
  obtain ⟨_, _, ⟨T2, L2, kk2, nn2⟩, -, X2, ⟨Lc2, hQ2, l2, y2, z2⟩, st2⟩ := X0.specialBack hx (y := (⟨"java/lang/Record", "<init>", "()V"⟩ : MethodName)) rfl hown (mvT hZ (hw _ (List.mem_of_getElem? (i := 14) rfl))) (mvT hZ (hw _ (List.mem_of_getElem? (i := 15) rfl))) (mvT hZ (hw _ (List.mem_of_getElem? (i := 18) rfl))) (by decide) (backOf (W := 0) (recInit l Z a0 hw [] w_NONE w_VIEW w_EDIT wCS G a1 h0 n0 O0 ) hZ (hw _ (List.mem_of_getElem? (i := 18) rfl)) (hw _ (List.mem_of_getElem? (i := 17) rfl)) (by decide) (by decide)) (g := (mkF m 1 #[rv a1, rv w_NONE, iv (0 : Int32), iv (0 : Int32)] [(.ref a1)])) rfl (by rw [hml]; rfl) (Steps.refl _) (a := a1) (argsL := []) (rest := []) (lenOf pd_0 rfl) rfl (by show 2 * 0 + _ ≤ _; exact Nat.le_of_eq rfl) (hb hby d_prog_34_method_1_code_1) (fun _ _ => ⟨rfl, e0, (by decide : 0 + 0 ≤ _), (by decide : 0 + 0 ≤ _)⟩)
  dsimp only [Pt.U, Pt.locs, Pt.cells, Pt.slots] at X2 l2 y2 z2 st2 hQ2
  subst l2 y2 z2
  obtain ⟨rfl, Nq2, e2⟩ := hQ2
  have N2 := Fr.app N0 Nq2
  have k3 : Way p e below S0 T2 (mkF m 4 #[rv a1, rv w_NONE, iv (0 : Int32), iv (0 : Int32)] []) := fun t k => k1 t (st2.trans k)
  have k4 : Way p e below S0 T2 (mkF m 5 #[rv a1, rv w_NONE, iv (0 : Int32), iv (0 : Int32)] [(.ref w_NONE)]) := by
    intro t k
    refine k3 t ?_
    refine XS.aloadN X2.here hx rfl (hb hby d_prog_34_method_1_code_4) rfl rfl ?_
    show Steps p.tables e below (T2.setTop (mkF m 5 #[rv a1, rv w_NONE, iv (0 : Int32), iv (0 : Int32)] [(.ref w_NONE)])) _
    exact k
  obtain ⟨T5, X5, e5, st5⟩ := getS2 X2 hx hZ hown (host := "") (Or.inl (hw _ (List.mem_of_getElem? (i := 22) rfl))) Via.refl e2 (S_w_NONE.ext O0.2) (g := (mkF m 5 #[rv a1, rv w_NONE, iv (0 : Int32), iv (0 : Int32)] [(.ref w_NONE)])) rfl (hb hby d_prog_34_method_1_code_5)
  have k6 : Way p e below S0 T5 (mkF m 8 #[rv a1, rv w_NONE, iv (0 : Int32), iv (0 : Int32)] [(.ref w_NONE), (.ref w_NONE)]) := fun t k => k4 t (st5 _ k)
  have k7 : Way p e below S0 T5 (mkF m 31 #[rv a1, rv w_NONE, iv (0 : Int32), iv (0 : Int32)] [(.ref w_NONE), (.ref a1)]) := by
    intro t k
    refine k6 t ?_
    refine Jvm.RoadKit.acmp (g := (mkF m 8 #[rv a1, rv w_NONE, iv (0 : Int32), iv (0 : Int32)] [(.ref w_NONE), (.ref w_NONE)])) X5 hx rfl rfl rfl (pc0 := 8) (pc' := 11) (same := true) rfl (hb hby d_prog_34_method_1_code_8) rfl (decide_eq_true rfl) (by decide) (by decide) ?_
    show Steps p.tables e below (T5.setTop (mkF m 11 #[rv a1, rv w_NONE, iv (0 : Int32), iv (0 : Int32)] [])) _
    refine XS.iloadN X5.here hx rfl (hb hby d_prog_34_method_1_code_11) rfl ?_
    show Steps p.tables e below (T5.setTop (mkF m 12 #[rv a1, rv w_NONE, iv (0 : Int32), iv (0 : Int32)] [(.int (0 : Int32))])) _
    refine XS.ifNo X5.here hx rfl (hb hby d_prog_34_method_1_code_12) rfl ((if0 _ _).trans (teq ((by decide) : (0 : Int32) = (0 : Int32))).2) ?_
    show Steps p.tables e below (T5.setTop (mkF m 15 #[rv a1, rv w_NONE, iv (0 : Int32), iv (0 : Int32)] [])) _
    refine XS.iloadN X5.here hx rfl (hb hby d_prog_34_method_1_code_15) rfl ?_
    show Steps p.tables e below (T5.setTop (mkF m 16 #[rv a1, rv w_NONE, iv (0 : Int32), iv (0 : Int32)] [(.int (0 : Int32))])) _
    refine XS.ifYes X5.here hx rfl (pc0 := 16) (pc' := 29) rfl (hb hby d_prog_34_method_1_code_16) rfl ((if0 _ _).trans (teq ((by decide) : (0 : Int32) = (0 : Int32))).1) (by decide) (by decide) ?_
    show Steps p.tables e below (T5.setTop (mkF m 29 #[rv a1, rv w_NONE, iv (0 : Int32), iv (0 : Int32)] [])) _
    refine XS.aloadN X5.here hx rfl (hb hby d_prog_34_method_1_code_29) rfl rfl ?_
    show Steps p.tables e below (T5.setTop (mkF m 30 #[rv a1, rv w_NONE, iv (0 : Int32), iv (0 : Int32)] [(.ref a1)])) _
    refine XS.aloadN X5.here hx rfl (hb hby d_prog_34_method_1_code_30) rfl rfl ?_
    show Steps p.tables e below (T5.setTop (mkF m 31 #[rv a1, rv w_NONE, iv (0 : Int32), iv (0 : Int32)] [(.ref w_NONE), (.ref a1)])) _
    exact k
  obtain ⟨T8, h8, X8, e8, W8, st8⟩ := putF X5 hx hZ hown (host := "") (Or.inl (hw _ (List.mem_of_getElem? (i := 23) rfl))) Via.refl e5 a_1 a_0 (Or.inr ⟨(hw _ (List.mem_of_getElem? (i := 24) rfl)), rfl, hnm⟩) (hw _ (List.mem_of_getElem? (i := 9) rfl)) (ty := (.object "caseward/policy/Access$Level")) (by decide) rfl rfl (g := (mkF m 31 #[rv a1, rv w_NONE, iv (0 : Int32), iv (0 : Int32)] [(.ref w_NONE), (.ref a1)])) rfl rfl (hb hby d_prog_34_method_1_code_31)
  have O8 := O0.wr W8 ga1
  have N8 := Fr.snoc X8 N2 ga1
  have K8 : Keep h0 h8 [a1] := (Keep.refl h0 [a1]).wr W8 (Or.inl (List.mem_of_getElem? (i := 0) rfl))
  have fw8 : Fld Z h8 a1 "caseward/policy/Access" "level" "Lcaseward/policy/Access$Level;" (.ref w_NONE) := a_1.same W8
  have k9 : Way p e below S0 T8 (mkF m 34 #[rv a1, rv w_NONE, iv (0 : Int32), iv (0 : Int32)] []) := fun t k => k7 t (st8 _ k)
  have k10 : Way p e below S0 T8 (mkF m 36 #[rv a1, rv w_NONE, iv (0 : Int32), iv (0 : Int32)] [(.int (0 : Int32)), (.ref a1)]) := by
    intro t k
    refine k9 t ?_
    refine XS.aloadN X8.here hx rfl (hb hby d_prog_34_method_1_code_34) rfl rfl ?_
    show Steps p.tables e below (T8.setTop (mkF m 35 #[rv a1, rv w_NONE, iv (0 : Int32), iv (0 : Int32)] [(.ref a1)])) _
    refine XS.iloadN X8.here hx rfl (hb hby d_prog_34_method_1_code_35) rfl ?_
    show Steps p.tables e below (T8.setTop (mkF m 36 #[rv a1, rv w_NONE, iv (0 : Int32), iv (0 : Int32)] [(.int (0 : Int32)), (.ref a1)])) _
    exact k
  have f11 : Fld Z h8 a1 "caseward/policy/Access" "pii" "Z" (.int (0 : Int32)) := (a_2.other W8 (Or.inr (slot_ne (Or.inr (hw _ (List.mem_of_getElem? (i := 26) rfl))) (Or.inr (hw _ (List.mem_of_getElem? (i := 24) rfl))) (by decide) (t := .boolean) (t' := (.object "caseward/policy/Access$Level")) (by decide) (by decide))))
  have f12 : Exa Z h8 a1 "caseward/policy/Access" := (a_0.wr W8)
  obtain ⟨T13, h13, X13, e13, W13, st13⟩ := putFN X8 hx hZ hown (hw _ (List.mem_of_getElem? (i := 25) rfl)) Via.refl e8 f11 f12 (Or.inr ⟨(hw _ (List.mem_of_getElem? (i := 26) rfl)), rfl, hnm⟩) (hw _ (List.mem_of_getElem? (i := 9) rfl)) (ty := .boolean) (v' := (.int (0 : Int32))) (by decide) rfl rfl (g := (mkF m 36 #[rv a1, rv w_NONE, iv (0 : Int32), iv (0 : Int32)] [(.int (0 : Int32)), (.ref a1)])) rfl rfl (hb hby d_prog_34_method_1_code_36)
  have O13 := O8.wr W13 ga1
  have N13 := Fr.snoc X13 N8 ga1
  have K13 : Keep h0 h13 [a1] := K8.wr W13 (Or.inl (List.mem_of_getElem? (i := 0) rfl))
  have fw13 : Fld Z h13 a1 "caseward/policy/Access" "pii" "Z" (.int (0 : Int32)) := f11.same W13
  have k14 : Way p e below S0 T13 (mkF m 39 #[rv a1, rv w_NONE, iv (0 : Int32), iv (0 : Int32)] []) := fun t k => k10 t (st13 _ k)
  have k15 : Way p e below S0 T13 (mkF m 41 #[rv a1, rv w_NONE, iv (0 : Int32), iv (0 : Int32)] [(.int (0 : Int32)), (.ref a1)]) := by
    intro t k
    refine k14 t ?_
    refine XS.aloadN X13.here hx rfl (hb hby d_prog_34_method_1_code_39) rfl rfl ?_
    show Steps p.tables e below (T13.setTop (mkF m 40 #[rv a1, rv w_NONE, iv (0 : Int32), iv (0 : Int32)] [(.ref a1)])) _
    refine XS.iloadN X13.here hx rfl (hb hby d_prog_34_method_1_code_40) rfl ?_
    show Steps p.tables e below (T13.setTop (mkF m 41 #[rv a1, rv w_NONE, iv (0 : Int32), iv (0 : Int32)] [(.int (0 : Int32)), (.ref a1)])) _
    exact k
  have f16 : Fld Z h13 a1 "caseward/policy/Access" "unblinded" "Z" (.int (0 : Int32)) := ((a_3.other W8 (Or.inr (slot_ne (Or.inr (hw _ (List.mem_of_getElem? (i := 28) rfl))) (Or.inr (hw _ (List.mem_of_getElem? (i := 24) rfl))) (by decide) (t := .boolean) (t' := (.object "caseward/policy/Access$Level")) (by decide) (by decide)))).other W13 (Or.inr (slot_ne (Or.inr (hw _ (List.mem_of_getElem? (i := 28) rfl))) (Or.inr (hw _ (List.mem_of_getElem? (i := 26) rfl))) (by decide) (t := .boolean) (t' := .boolean) (by decide) (by decide))))
  have f17 : Exa Z h13 a1 "caseward/policy/Access" := (f12.wr W13)
  obtain ⟨T18, h18, X18, e18, W18, st18⟩ := putFN X13 hx hZ hown (hw _ (List.mem_of_getElem? (i := 27) rfl)) Via.refl e13 f16 f17 (Or.inr ⟨(hw _ (List.mem_of_getElem? (i := 28) rfl)), rfl, hnm⟩) (hw _ (List.mem_of_getElem? (i := 9) rfl)) (ty := .boolean) (v' := (.int (0 : Int32))) (by decide) rfl rfl (g := (mkF m 41 #[rv a1, rv w_NONE, iv (0 : Int32), iv (0 : Int32)] [(.int (0 : Int32)), (.ref a1)])) rfl rfl (hb hby d_prog_34_method_1_code_41)
  have O18 := O13.wr W18 ga1
  have N18 := Fr.snoc X18 N13 ga1
  have K18 : Keep h0 h18 [a1] := K13.wr W18 (Or.inl (List.mem_of_getElem? (i := 0) rfl))
  have fw18 : Fld Z h18 a1 "caseward/policy/Access" "unblinded" "Z" (.int (0 : Int32)) := f16.same W18
  have k19 : Way p e below S0 T18 (mkF m 44 #[rv a1, rv w_NONE, iv (0 : Int32), iv (0 : Int32)] []) := fun t k => k15 t (st18 _ k)
  obtain ⟨fs, hr, hrun, hended, hW, hsame⟩ := X18.leave (v := none) (fun _ => rfl)
  have f20 : Exa Z h18 a1 "caseward/policy/Access" := (f17.wr W18)
  have f21 : Fld Z h18 a1 "caseward/policy/Access" "pii" "Z" (.int (0 : Int32)) := (fw13.other W18 (Or.inr (slot_ne (Or.inr (hw _ (List.mem_of_getElem? (i := 26) rfl))) (Or.inr (hw _ (List.mem_of_getElem? (i := 28) rfl))) (by decide) (t := .boolean) (t' := .boolean) (by decide) (by decide))))
  refine ⟨_, _, k19 _ (X18.returnOut hx Bd.returns (hb hby d_prog_34_method_1_code_44) hr), hrun, hended, _, _, rfl, ?_, ⟨_, rfl⟩, hW, hsame.mono (by decide) (by decide)⟩
  show Q_init_NONE00 Z w_NONE w_VIEW w_EDIT wCS a1 h0 n0 _ T18.heap _
  rw [e18]
  exact ⟨rfl, N18, K18, f20, f21⟩
def Q_init_VIEW00 (Z : State) (w_NONE : Addr) (w_VIEW : Addr) (w_EDIT : Addr) (wCS : Int32) (a1 : Addr) (h0 : Heap) (n0 : Nat) (v : Option Value) (h : Heap) (L : List Loc) : Prop := (v = none) ∧ (Fr n0 L) ∧ (Keep h0 h [a1]) ∧ (Exa Z h a1 "caseward/policy/Access") ∧ (Fld Z h a1 "caseward/policy/Access" "pii" "Z" (.int (0 : Int32)))
set_option maxRecDepth 65536 in
set_option maxHeartbeats 40000000 in
theorem init_VIEW00 (l : Launch) (Z : State) (a0 : Array Value) (hw : ∀ d ∈ tables_1, d.before a0 Z = true) (ws : List Jvm.Cond) (w_NONE : Addr) (w_VIEW : Addr) (w_EDIT : Addr) (wCS : Int32) (G : Gst Z w_NONE w_VIEW w_EDIT wCS) (a1 : Addr) (h0 : Heap) (n0 : Nat) (O0 : Old Z n0 h0) (a_0 : Exa Z h0 a1 "caseward/policy/Access") (a_1 : Fld Z h0 a1 "caseward/policy/Access" "level" "Lcaseward/policy/Access$Level;" .null) (a_2 : Fld Z h0 a1 "caseward/policy/Access" "pii" "Z" (.int (0 : Int32))) (a_3 : Fld Z h0 a1 "caseward/policy/Access" "unblinded" "Z" (.int (0 : Int32))) (ga1 : n0 ≤ a1) :
    MetFree l (⟨"caseward/policy/Access", "<init>", "(Lcaseward/policy/Access$Level;ZZ)V"⟩ : MethodName) (head1 (Jvm.Cond.code (⟨"caseward/policy/Access", "<init>", "(Lcaseward/policy/Access$Level;ZZ)V"⟩ : MethodName) prog_34_method_1_code 4 none :: ws) ({ frames := 2, cells := 0, slots := 0, locals := 24 } : Room)) (fun a U => a = #[(.ref a1), (.ref w_VIEW), (.int (0 : Int32)), (.int (0 : Int32))] ∧ Z.Warmed39 U.vm ∧ U.heap = h0) (fun _ _ _ _ _ => True) (fun _ U o U' => ∃ v L, o = .returned v ∧ Q_init_VIEW00 Z w_NONE w_VIEW w_EDIT wCS a1 h0 n0 v U'.heap L ∧ FrameEnd U o U' L ({ frames := 2, cells := 0, slots := 0, locals := 24 } : Room).cells ({ frames := 2, cells := 0, slots := 0, locals := 24 } : Room).slots) := by
  refine MetFree.of_bodySF (plainFor_of_name pn_2) hisR ?_
  intro p e s m args below meth c s₁ Bd hml0 hP hK
  obtain ⟨rfl, hZ, hh⟩ := hP
  have hx := Bd.exec
  have hby := Bd.bytes
  have hml : c.maxLocals = 4 := hml0
  have hown : s.vm.findClass "caseward/policy/Access" = some m.cls := findClass_of_methodNamed Bd.named
  have hnm := (name_of_methodNamed Bd.named Bd.method).1
  have X0 : Stand p l e ({ frames := 2, cells := 0, slots := 0, locals := 24 } : Room) s m #[(.ref a1), (.ref w_VIEW), (.int (0 : Int32)), (.int (0 : Int32))] below meth c s₁ [] 0 0 := Stand.of_body Bd
  have e0 : s₁.heap = h0 := by rw [← hh, Bd.state]; rfl
  have N0 := Fr.nil n0
  obtain ⟨S_w_NONE, E_w_NONE, F_w_NONE_ordinal, S_w_VIEW, E_w_VIEW, F_w_VIEW_ordinal, S_w_EDIT, E_w_EDIT, F_w_EDIT_ordinal, S_CS, hCS⟩ := id G
  have k0 : Way p e below (s₁.setTop (entryFrame m #[(.ref a1), (.ref w_VIEW), (.int (0 : Int32)), (.int (0 : Int32))] 4)) s₁ (mkF m 0 #[rv a1, rv w_VIEW, iv (0 : Int32), iv (0 : Int32)] []) := fun t k => castTop (by first | (simp [entryFrame, mkF, argsToLocals, Value.category]; done) | rfl) k
  generalize s₁.setTop (entryFrame m #[(.ref a1), (.ref w_VIEW), (.int (0 : Int32)), (.int (0 : Int32))] 4) = S0 at k0 ⊢
  have k1 : Way p e below S0 s₁ (mkF m 1 #[rv a1, rv w_VIEW, iv (0 : Int32), iv (0 : Int32)] [(.ref a1)]) := by
    intro t k
    refine k0 t ?_
    refine XS.aloadN X0.here hx rfl (hb hby d_prog_34_method_1_code_0) rfl rfl ?_
    show Steps p.tables e below (s₁.setTop (mkF m 1 #[rv a1, rv w_VIEW, iv (0 : Int32), iv (0 : Int32)] [(.ref a1)])) _
    exact k
  obtain ⟨_, _, ⟨T2, L2, kk2, nn2⟩, -, X2, ⟨Lc2, hQ2, l2, y2, z2⟩, st2⟩ := X0.specialBack hx (y := (⟨"java/lang/Record", "<init>", "()V"⟩ : MethodName)) rfl hown (mvT hZ (hw _ (List.mem_of_getElem? (i := 14) rfl))) (mvT hZ (hw _ (List.mem_of_getElem? (i := 15) rfl))) (mvT hZ (hw _ (List.mem_of_getElem? (i := 18) rfl))) (by decide) (backOf (W := 0) (recInit l Z a0 hw [] w_NONE w_VIEW w_EDIT wCS G a1 h0 n0 O0 ) hZ (hw _ (List.mem_of_getElem? (i := 18) rfl)) (hw _ (List.mem_of_getElem? (i := 17) rfl)) (by decide) (by decide)) (g := (mkF m 1 #[rv a1, rv w_VIEW, iv (0 : Int32), iv (0 : Int32)] [(.ref a1)])) rfl (by rw [hml]; rfl) (Steps.refl _) (a := a1) (argsL := []) (rest := []) (lenOf pd_0 rfl) rfl (by show 2 * 0 + _ ≤ _; exact Nat.le_of_eq rfl) (hb hby d_prog_34_method_1_code_1) (fun _ _ => ⟨rfl, e0, (by decide : 0 + 0 ≤ _), (by decide : 0 + 0 ≤ _)⟩)
  dsimp only [Pt.U, Pt.locs, Pt.cells, Pt.slots] at X2 l2 y2 z2 st2 hQ2
  subst l2 y2 z2
  obtain ⟨rfl, Nq2, e2⟩ := hQ2
  have N2 := Fr.app N0 Nq2
  have k3 : Way p e below S0 T2 (mkF m 4 #[rv a1, rv w_VIEW, iv (0 : Int32), iv (0 : Int32)] []) := fun t k => k1 t (st2.trans k)
  have k4 : Way p e below S0 T2 (mkF m 5 #[rv a1, rv w_VIEW, iv (0 : Int32), iv (0 : Int32)] [(.ref w_VIEW)]) := by
    intro t k
    refine k3 t ?_
    refine XS.aloadN X2.here hx rfl (hb hby d_prog_34_method_1_code_4) rfl rfl ?_
    show Steps p.tables e below (T2.setTop (mkF m 5 #[rv a1, rv w_VIEW, iv (0 : Int32), iv (0 : Int32)] [(.ref w_VIEW)])) _
    exact k
  obtain ⟨T5, X5, e5, st5⟩ := getS2 X2 hx hZ hown (host := "") (Or.inl (hw _ (List.mem_of_getElem? (i := 22) rfl))) Via.refl e2 (S_w_NONE.ext O0.2) (g := (mkF m 5 #[rv a1, rv w_VIEW, iv (0 : Int32), iv (0 : Int32)] [(.ref w_VIEW)])) rfl (hb hby d_prog_34_method_1_code_5)
  have k6 : Way p e below S0 T5 (mkF m 8 #[rv a1, rv w_VIEW, iv (0 : Int32), iv (0 : Int32)] [(.ref w_NONE), (.ref w_VIEW)]) := fun t k => k4 t (st5 _ k)
  have k7 : Way p e below S0 T5 (mkF m 31 #[rv a1, rv w_VIEW, iv (0 : Int32), iv (0 : Int32)] [(.ref w_VIEW), (.ref a1)]) := by
    intro t k
    refine k6 t ?_
    refine Jvm.RoadKit.acmp (g := (mkF m 8 #[rv a1, rv w_VIEW, iv (0 : Int32), iv (0 : Int32)] [(.ref w_NONE), (.ref w_VIEW)])) X5 hx rfl rfl rfl (pc0 := 8) (pc' := 29) (same := false) rfl (hb hby d_prog_34_method_1_code_8) rfl (decide_eq_false fun q => absurd (Value.ref.inj q) (F_w_VIEW_ordinal.ne F_w_NONE_ordinal (by decide))) (by decide) (by decide) ?_
    show Steps p.tables e below (T5.setTop (mkF m 29 #[rv a1, rv w_VIEW, iv (0 : Int32), iv (0 : Int32)] [])) _
    refine XS.aloadN X5.here hx rfl (hb hby d_prog_34_method_1_code_29) rfl rfl ?_
    show Steps p.tables e below (T5.setTop (mkF m 30 #[rv a1, rv w_VIEW, iv (0 : Int32), iv (0 : Int32)] [(.ref a1)])) _
    refine XS.aloadN X5.here hx rfl (hb hby d_prog_34_method_1_code_30) rfl rfl ?_
    show Steps p.tables e below (T5.setTop (mkF m 31 #[rv a1, rv w_VIEW, iv (0 : Int32), iv (0 : Int32)] [(.ref w_VIEW), (.ref a1)])) _
    exact k
  obtain ⟨T8, h8, X8, e8, W8, st8⟩ := putF X5 hx hZ hown (host := "") (Or.inl (hw _ (List.mem_of_getElem? (i := 23) rfl))) Via.refl e5 a_1 a_0 (Or.inr ⟨(hw _ (List.mem_of_getElem? (i := 24) rfl)), rfl, hnm⟩) (hw _ (List.mem_of_getElem? (i := 9) rfl)) (ty := (.object "caseward/policy/Access$Level")) (by decide) rfl rfl (g := (mkF m 31 #[rv a1, rv w_VIEW, iv (0 : Int32), iv (0 : Int32)] [(.ref w_VIEW), (.ref a1)])) rfl rfl (hb hby d_prog_34_method_1_code_31)
  have O8 := O0.wr W8 ga1
  have N8 := Fr.snoc X8 N2 ga1
  have K8 : Keep h0 h8 [a1] := (Keep.refl h0 [a1]).wr W8 (Or.inl (List.mem_of_getElem? (i := 0) rfl))
  have fw8 : Fld Z h8 a1 "caseward/policy/Access" "level" "Lcaseward/policy/Access$Level;" (.ref w_VIEW) := a_1.same W8
  have k9 : Way p e below S0 T8 (mkF m 34 #[rv a1, rv w_VIEW, iv (0 : Int32), iv (0 : Int32)] []) := fun t k => k7 t (st8 _ k)
  have k10 : Way p e below S0 T8 (mkF m 36 #[rv a1, rv w_VIEW, iv (0 : Int32), iv (0 : Int32)] [(.int (0 : Int32)), (.ref a1)]) := by
    intro t k
    refine k9 t ?_
    refine XS.aloadN X8.here hx rfl (hb hby d_prog_34_method_1_code_34) rfl rfl ?_
    show Steps p.tables e below (T8.setTop (mkF m 35 #[rv a1, rv w_VIEW, iv (0 : Int32), iv (0 : Int32)] [(.ref a1)])) _
    refine XS.iloadN X8.here hx rfl (hb hby d_prog_34_method_1_code_35) rfl ?_
    show Steps p.tables e below (T8.setTop (mkF m 36 #[rv a1, rv w_VIEW, iv (0 : Int32), iv (0 : Int32)] [(.int (0 : Int32)), (.ref a1)])) _
    exact k
  have f11 : Fld Z h8 a1 "caseward/policy/Access" "pii" "Z" (.int (0 : Int32)) := (a_2.other W8 (Or.inr (slot_ne (Or.inr (hw _ (List.mem_of_getElem? (i := 26) rfl))) (Or.inr (hw _ (List.mem_of_getElem? (i := 24) rfl))) (by decide) (t := .boolean) (t' := (.object "caseward/policy/Access$Level")) (by decide) (by decide))))
  have f12 : Exa Z h8 a1 "caseward/policy/Access" := (a_0.wr W8)
  obtain ⟨T13, h13, X13, e13, W13, st13⟩ := putFN X8 hx hZ hown (hw _ (List.mem_of_getElem? (i := 25) rfl)) Via.refl e8 f11 f12 (Or.inr ⟨(hw _ (List.mem_of_getElem? (i := 26) rfl)), rfl, hnm⟩) (hw _ (List.mem_of_getElem? (i := 9) rfl)) (ty := .boolean) (v' := (.int (0 : Int32))) (by decide) rfl rfl (g := (mkF m 36 #[rv a1, rv w_VIEW, iv (0 : Int32), iv (0 : Int32)] [(.int (0 : Int32)), (.ref a1)])) rfl rfl (hb hby d_prog_34_method_1_code_36)
  have O13 := O8.wr W13 ga1
  have N13 := Fr.snoc X13 N8 ga1
  have K13 : Keep h0 h13 [a1] := K8.wr W13 (Or.inl (List.mem_of_getElem? (i := 0) rfl))
  have fw13 : Fld Z h13 a1 "caseward/policy/Access" "pii" "Z" (.int (0 : Int32)) := f11.same W13
  have k14 : Way p e below S0 T13 (mkF m 39 #[rv a1, rv w_VIEW, iv (0 : Int32), iv (0 : Int32)] []) := fun t k => k10 t (st13 _ k)
  have k15 : Way p e below S0 T13 (mkF m 41 #[rv a1, rv w_VIEW, iv (0 : Int32), iv (0 : Int32)] [(.int (0 : Int32)), (.ref a1)]) := by
    intro t k
    refine k14 t ?_
    refine XS.aloadN X13.here hx rfl (hb hby d_prog_34_method_1_code_39) rfl rfl ?_
    show Steps p.tables e below (T13.setTop (mkF m 40 #[rv a1, rv w_VIEW, iv (0 : Int32), iv (0 : Int32)] [(.ref a1)])) _
    refine XS.iloadN X13.here hx rfl (hb hby d_prog_34_method_1_code_40) rfl ?_
    show Steps p.tables e below (T13.setTop (mkF m 41 #[rv a1, rv w_VIEW, iv (0 : Int32), iv (0 : Int32)] [(.int (0 : Int32)), (.ref a1)])) _
    exact k
  have f16 : Fld Z h13 a1 "caseward/policy/Access" "unblinded" "Z" (.int (0 : Int32)) := ((a_3.other W8 (Or.inr (slot_ne (Or.inr (hw _ (List.mem_of_getElem? (i := 28) rfl))) (Or.inr (hw _ (List.mem_of_getElem? (i := 24) rfl))) (by decide) (t := .boolean) (t' := (.object "caseward/policy/Access$Level")) (by decide) (by decide)))).other W13 (Or.inr (slot_ne (Or.inr (hw _ (List.mem_of_getElem? (i := 28) rfl))) (Or.inr (hw _ (List.mem_of_getElem? (i := 26) rfl))) (by decide) (t := .boolean) (t' := .boolean) (by decide) (by decide))))
  have f17 : Exa Z h13 a1 "caseward/policy/Access" := (f12.wr W13)
  obtain ⟨T18, h18, X18, e18, W18, st18⟩ := putFN X13 hx hZ hown (hw _ (List.mem_of_getElem? (i := 27) rfl)) Via.refl e13 f16 f17 (Or.inr ⟨(hw _ (List.mem_of_getElem? (i := 28) rfl)), rfl, hnm⟩) (hw _ (List.mem_of_getElem? (i := 9) rfl)) (ty := .boolean) (v' := (.int (0 : Int32))) (by decide) rfl rfl (g := (mkF m 41 #[rv a1, rv w_VIEW, iv (0 : Int32), iv (0 : Int32)] [(.int (0 : Int32)), (.ref a1)])) rfl rfl (hb hby d_prog_34_method_1_code_41)
  have O18 := O13.wr W18 ga1
  have N18 := Fr.snoc X18 N13 ga1
  have K18 : Keep h0 h18 [a1] := K13.wr W18 (Or.inl (List.mem_of_getElem? (i := 0) rfl))
  have fw18 : Fld Z h18 a1 "caseward/policy/Access" "unblinded" "Z" (.int (0 : Int32)) := f16.same W18
  have k19 : Way p e below S0 T18 (mkF m 44 #[rv a1, rv w_VIEW, iv (0 : Int32), iv (0 : Int32)] []) := fun t k => k15 t (st18 _ k)
  obtain ⟨fs, hr, hrun, hended, hW, hsame⟩ := X18.leave (v := none) (fun _ => rfl)
  have f20 : Exa Z h18 a1 "caseward/policy/Access" := (f17.wr W18)
  have f21 : Fld Z h18 a1 "caseward/policy/Access" "pii" "Z" (.int (0 : Int32)) := (fw13.other W18 (Or.inr (slot_ne (Or.inr (hw _ (List.mem_of_getElem? (i := 26) rfl))) (Or.inr (hw _ (List.mem_of_getElem? (i := 28) rfl))) (by decide) (t := .boolean) (t' := .boolean) (by decide) (by decide))))
  refine ⟨_, _, k19 _ (X18.returnOut hx Bd.returns (hb hby d_prog_34_method_1_code_44) hr), hrun, hended, _, _, rfl, ?_, ⟨_, rfl⟩, hW, hsame.mono (by decide) (by decide)⟩
  show Q_init_VIEW00 Z w_NONE w_VIEW w_EDIT wCS a1 h0 n0 _ T18.heap _
  rw [e18]
  exact ⟨rfl, N18, K18, f20, f21⟩
def Q_init_VIEW01 (Z : State) (w_NONE : Addr) (w_VIEW : Addr) (w_EDIT : Addr) (wCS : Int32) (a1 : Addr) (h0 : Heap) (n0 : Nat) (v : Option Value) (h : Heap) (L : List Loc) : Prop := (v = none) ∧ (Fr n0 L) ∧ (Keep h0 h [a1]) ∧ (Exa Z h a1 "caseward/policy/Access") ∧ (Fld Z h a1 "caseward/policy/Access" "pii" "Z" (.int (0 : Int32)))
set_option maxRecDepth 65536 in
set_option maxHeartbeats 40000000 in
theorem init_VIEW01 (l : Launch) (Z : State) (a0 : Array Value) (hw : ∀ d ∈ tables_1, d.before a0 Z = true) (ws : List Jvm.Cond) (w_NONE : Addr) (w_VIEW : Addr) (w_EDIT : Addr) (wCS : Int32) (G : Gst Z w_NONE w_VIEW w_EDIT wCS) (a1 : Addr) (h0 : Heap) (n0 : Nat) (O0 : Old Z n0 h0) (a_0 : Exa Z h0 a1 "caseward/policy/Access") (a_1 : Fld Z h0 a1 "caseward/policy/Access" "level" "Lcaseward/policy/Access$Level;" .null) (a_2 : Fld Z h0 a1 "caseward/policy/Access" "pii" "Z" (.int (0 : Int32))) (a_3 : Fld Z h0 a1 "caseward/policy/Access" "unblinded" "Z" (.int (0 : Int32))) (ga1 : n0 ≤ a1) :
    MetFree l (⟨"caseward/policy/Access", "<init>", "(Lcaseward/policy/Access$Level;ZZ)V"⟩ : MethodName) (head1 (Jvm.Cond.code (⟨"caseward/policy/Access", "<init>", "(Lcaseward/policy/Access$Level;ZZ)V"⟩ : MethodName) prog_34_method_1_code 4 none :: ws) ({ frames := 2, cells := 0, slots := 0, locals := 24 } : Room)) (fun a U => a = #[(.ref a1), (.ref w_VIEW), (.int (0 : Int32)), (.int (1 : Int32))] ∧ Z.Warmed39 U.vm ∧ U.heap = h0) (fun _ _ _ _ _ => True) (fun _ U o U' => ∃ v L, o = .returned v ∧ Q_init_VIEW01 Z w_NONE w_VIEW w_EDIT wCS a1 h0 n0 v U'.heap L ∧ FrameEnd U o U' L ({ frames := 2, cells := 0, slots := 0, locals := 24 } : Room).cells ({ frames := 2, cells := 0, slots := 0, locals := 24 } : Room).slots) := by
  refine MetFree.of_bodySF (plainFor_of_name pn_2) hisR ?_
  intro p e s m args below meth c s₁ Bd hml0 hP hK
  obtain ⟨rfl, hZ, hh⟩ := hP
  have hx := Bd.exec
  have hby := Bd.bytes
  have hml : c.maxLocals = 4 := hml0
  have hown : s.vm.findClass "caseward/policy/Access" = some m.cls := findClass_of_methodNamed Bd.named
  have hnm := (name_of_methodNamed Bd.named Bd.method).1
  have X0 : Stand p l e ({ frames := 2, cells := 0, slots := 0, locals := 24 } : Room) s m #[(.ref a1), (.ref w_VIEW), (.int (0 : Int32)), (.int (1 : Int32))] below meth c s₁ [] 0 0 := Stand.of_body Bd
  have e0 : s₁.heap = h0 := by rw [← hh, Bd.state]; rfl
  have N0 := Fr.nil n0
  obtain ⟨S_w_NONE, E_w_NONE, F_w_NONE_ordinal, S_w_VIEW, E_w_VIEW, F_w_VIEW_ordinal, S_w_EDIT, E_w_EDIT, F_w_EDIT_ordinal, S_CS, hCS⟩ := id G
  have k0 : Way p e below (s₁.setTop (entryFrame m #[(.ref a1), (.ref w_VIEW), (.int (0 : Int32)), (.int (1 : Int32))] 4)) s₁ (mkF m 0 #[rv a1, rv w_VIEW, iv (0 : Int32), iv (1 : Int32)] []) := fun t k => castTop (by first | (simp [entryFrame, mkF, argsToLocals, Value.category]; done) | rfl) k
  generalize s₁.setTop (entryFrame m #[(.ref a1), (.ref w_VIEW), (.int (0 : Int32)), (.int (1 : Int32))] 4) = S0 at k0 ⊢
  have k1 : Way p e below S0 s₁ (mkF m 1 #[rv a1, rv w_VIEW, iv (0 : Int32), iv (1 : Int32)] [(.ref a1)]) := by
    intro t k
    refine k0 t ?_
    refine XS.aloadN X0.here hx rfl (hb hby d_prog_34_method_1_code_0) rfl rfl ?_
    show Steps p.tables e below (s₁.setTop (mkF m 1 #[rv a1, rv w_VIEW, iv (0 : Int32), iv (1 : Int32)] [(.ref a1)])) _
    exact k
  obtain ⟨_, _, ⟨T2, L2, kk2, nn2⟩, -, X2, ⟨Lc2, hQ2, l2, y2, z2⟩, st2⟩ := X0.specialBack hx (y := (⟨"java/lang/Record", "<init>", "()V"⟩ : MethodName)) rfl hown (mvT hZ (hw _ (List.mem_of_getElem? (i := 14) rfl))) (mvT hZ (hw _ (List.mem_of_getElem? (i := 15) rfl))) (mvT hZ (hw _ (List.mem_of_getElem? (i := 18) rfl))) (by decide) (backOf (W := 0) (recInit l Z a0 hw [] w_NONE w_VIEW w_EDIT wCS G a1 h0 n0 O0 ) hZ (hw _ (List.mem_of_getElem? (i := 18) rfl)) (hw _ (List.mem_of_getElem? (i := 17) rfl)) (by decide) (by decide)) (g := (mkF m 1 #[rv a1, rv w_VIEW, iv (0 : Int32), iv (1 : Int32)] [(.ref a1)])) rfl (by rw [hml]; rfl) (Steps.refl _) (a := a1) (argsL := []) (rest := []) (lenOf pd_0 rfl) rfl (by show 2 * 0 + _ ≤ _; exact Nat.le_of_eq rfl) (hb hby d_prog_34_method_1_code_1) (fun _ _ => ⟨rfl, e0, (by decide : 0 + 0 ≤ _), (by decide : 0 + 0 ≤ _)⟩)
  dsimp only [Pt.U, Pt.locs, Pt.cells, Pt.slots] at X2 l2 y2 z2 st2 hQ2
  subst l2 y2 z2
  obtain ⟨rfl, Nq2, e2⟩ := hQ2
  have N2 := Fr.app N0 Nq2
  have k3 : Way p e below S0 T2 (mkF m 4 #[rv a1, rv w_VIEW, iv (0 : Int32), iv (1 : Int32)] []) := fun t k => k1 t (st2.trans k)
  have k4 : Way p e below S0 T2 (mkF m 5 #[rv a1, rv w_VIEW, iv (0 : Int32), iv (1 : Int32)] [(.ref w_VIEW)]) := by
    intro t k
    refine k3 t ?_
    refine XS.aloadN X2.here hx rfl (hb hby d_prog_34_method_1_code_4) rfl rfl ?_
    show Steps p.tables e below (T2.setTop (mkF m 5 #[rv a1, rv w_VIEW, iv (0 : Int32), iv (1 : Int32)] [(.ref w_VIEW)])) _
    exact k
  obtain ⟨T5, X5, e5, st5⟩ := getS2 X2 hx hZ hown (host := "") (Or.inl (hw _ (List.mem_of_getElem? (i := 22) rfl))) Via.refl e2 (S_w_NONE.ext O0.2) (g := (mkF m 5 #[rv a1, rv w_VIEW, iv (0 : Int32), iv (1 : Int32)] [(.ref w_VIEW)])) rfl (hb hby d_prog_34_method_1_code_5)
  have k6 : Way p e below S0 T5 (mkF m 8 #[rv a1, rv w_VIEW, iv (0 : Int32), iv (1 : Int32)] [(.ref w_NONE), (.ref w_VIEW)]) := fun t k => k4 t (st5 _ k)
  have k7 : Way p e below S0 T5 (mkF m 31 #[rv a1, rv w_VIEW, iv (0 : Int32), iv (1 : Int32)] [(.ref w_VIEW), (.ref a1)]) := by
    intro t k
    refine k6 t ?_
    refine Jvm.RoadKit.acmp (g := (mkF m 8 #[rv a1, rv w_VIEW, iv (0 : Int32), iv (1 : Int32)] [(.ref w_NONE), (.ref w_VIEW)])) X5 hx rfl rfl rfl (pc0 := 8) (pc' := 29) (same := false) rfl (hb hby d_prog_34_method_1_code_8) rfl (decide_eq_false fun q => absurd (Value.ref.inj q) (F_w_VIEW_ordinal.ne F_w_NONE_ordinal (by decide))) (by decide) (by decide) ?_
    show Steps p.tables e below (T5.setTop (mkF m 29 #[rv a1, rv w_VIEW, iv (0 : Int32), iv (1 : Int32)] [])) _
    refine XS.aloadN X5.here hx rfl (hb hby d_prog_34_method_1_code_29) rfl rfl ?_
    show Steps p.tables e below (T5.setTop (mkF m 30 #[rv a1, rv w_VIEW, iv (0 : Int32), iv (1 : Int32)] [(.ref a1)])) _
    refine XS.aloadN X5.here hx rfl (hb hby d_prog_34_method_1_code_30) rfl rfl ?_
    show Steps p.tables e below (T5.setTop (mkF m 31 #[rv a1, rv w_VIEW, iv (0 : Int32), iv (1 : Int32)] [(.ref w_VIEW), (.ref a1)])) _
    exact k
  obtain ⟨T8, h8, X8, e8, W8, st8⟩ := putF X5 hx hZ hown (host := "") (Or.inl (hw _ (List.mem_of_getElem? (i := 23) rfl))) Via.refl e5 a_1 a_0 (Or.inr ⟨(hw _ (List.mem_of_getElem? (i := 24) rfl)), rfl, hnm⟩) (hw _ (List.mem_of_getElem? (i := 9) rfl)) (ty := (.object "caseward/policy/Access$Level")) (by decide) rfl rfl (g := (mkF m 31 #[rv a1, rv w_VIEW, iv (0 : Int32), iv (1 : Int32)] [(.ref w_VIEW), (.ref a1)])) rfl rfl (hb hby d_prog_34_method_1_code_31)
  have O8 := O0.wr W8 ga1
  have N8 := Fr.snoc X8 N2 ga1
  have K8 : Keep h0 h8 [a1] := (Keep.refl h0 [a1]).wr W8 (Or.inl (List.mem_of_getElem? (i := 0) rfl))
  have fw8 : Fld Z h8 a1 "caseward/policy/Access" "level" "Lcaseward/policy/Access$Level;" (.ref w_VIEW) := a_1.same W8
  have k9 : Way p e below S0 T8 (mkF m 34 #[rv a1, rv w_VIEW, iv (0 : Int32), iv (1 : Int32)] []) := fun t k => k7 t (st8 _ k)
  have k10 : Way p e below S0 T8 (mkF m 36 #[rv a1, rv w_VIEW, iv (0 : Int32), iv (1 : Int32)] [(.int (0 : Int32)), (.ref a1)]) := by
    intro t k
    refine k9 t ?_
    refine XS.aloadN X8.here hx rfl (hb hby d_prog_34_method_1_code_34) rfl rfl ?_
    show Steps p.tables e below (T8.setTop (mkF m 35 #[rv a1, rv w_VIEW, iv (0 : Int32), iv (1 : Int32)] [(.ref a1)])) _
    refine XS.iloadN X8.here hx rfl (hb hby d_prog_34_method_1_code_35) rfl ?_
    show Steps p.tables e below (T8.setTop (mkF m 36 #[rv a1, rv w_VIEW, iv (0 : Int32), iv (1 : Int32)] [(.int (0 : Int32)), (.ref a1)])) _
    exact k
  have f11 : Fld Z h8 a1 "caseward/policy/Access" "pii" "Z" (.int (0 : Int32)) := (a_2.other W8 (Or.inr (slot_ne (Or.inr (hw _ (List.mem_of_getElem? (i := 26) rfl))) (Or.inr (hw _ (List.mem_of_getElem? (i := 24) rfl))) (by decide) (t := .boolean) (t' := (.object "caseward/policy/Access$Level")) (by decide) (by decide))))
  have f12 : Exa Z h8 a1 "caseward/policy/Access" := (a_0.wr W8)
  obtain ⟨T13, h13, X13, e13, W13, st13⟩ := putFN X8 hx hZ hown (hw _ (List.mem_of_getElem? (i := 25) rfl)) Via.refl e8 f11 f12 (Or.inr ⟨(hw _ (List.mem_of_getElem? (i := 26) rfl)), rfl, hnm⟩) (hw _ (List.mem_of_getElem? (i := 9) rfl)) (ty := .boolean) (v' := (.int (0 : Int32))) (by decide) rfl rfl (g := (mkF m 36 #[rv a1, rv w_VIEW, iv (0 : Int32), iv (1 : Int32)] [(.int (0 : Int32)), (.ref a1)])) rfl rfl (hb hby d_prog_34_method_1_code_36)
  have O13 := O8.wr W13 ga1
  have N13 := Fr.snoc X13 N8 ga1
  have K13 : Keep h0 h13 [a1] := K8.wr W13 (Or.inl (List.mem_of_getElem? (i := 0) rfl))
  have fw13 : Fld Z h13 a1 "caseward/policy/Access" "pii" "Z" (.int (0 : Int32)) := f11.same W13
  have k14 : Way p e below S0 T13 (mkF m 39 #[rv a1, rv w_VIEW, iv (0 : Int32), iv (1 : Int32)] []) := fun t k => k10 t (st13 _ k)
  have k15 : Way p e below S0 T13 (mkF m 41 #[rv a1, rv w_VIEW, iv (0 : Int32), iv (1 : Int32)] [(.int (1 : Int32)), (.ref a1)]) := by
    intro t k
    refine k14 t ?_
    refine XS.aloadN X13.here hx rfl (hb hby d_prog_34_method_1_code_39) rfl rfl ?_
    show Steps p.tables e below (T13.setTop (mkF m 40 #[rv a1, rv w_VIEW, iv (0 : Int32), iv (1 : Int32)] [(.ref a1)])) _
    refine XS.iloadN X13.here hx rfl (hb hby d_prog_34_method_1_code_40) rfl ?_
    show Steps p.tables e below (T13.setTop (mkF m 41 #[rv a1, rv w_VIEW, iv (0 : Int32), iv (1 : Int32)] [(.int (1 : Int32)), (.ref a1)])) _
    exact k
  have f16 : Fld Z h13 a1 "caseward/policy/Access" "unblinded" "Z" (.int (0 : Int32)) := ((a_3.other W8 (Or.inr (slot_ne (Or.inr (hw _ (List.mem_of_getElem? (i := 28) rfl))) (Or.inr (hw _ (List.mem_of_getElem? (i := 24) rfl))) (by decide) (t := .boolean) (t' := (.object "caseward/policy/Access$Level")) (by decide) (by decide)))).other W13 (Or.inr (slot_ne (Or.inr (hw _ (List.mem_of_getElem? (i := 28) rfl))) (Or.inr (hw _ (List.mem_of_getElem? (i := 26) rfl))) (by decide) (t := .boolean) (t' := .boolean) (by decide) (by decide))))
  have f17 : Exa Z h13 a1 "caseward/policy/Access" := (f12.wr W13)
  obtain ⟨T18, h18, X18, e18, W18, st18⟩ := putFN X13 hx hZ hown (hw _ (List.mem_of_getElem? (i := 27) rfl)) Via.refl e13 f16 f17 (Or.inr ⟨(hw _ (List.mem_of_getElem? (i := 28) rfl)), rfl, hnm⟩) (hw _ (List.mem_of_getElem? (i := 9) rfl)) (ty := .boolean) (v' := (.int (1 : Int32))) (by decide) rfl rfl (g := (mkF m 41 #[rv a1, rv w_VIEW, iv (0 : Int32), iv (1 : Int32)] [(.int (1 : Int32)), (.ref a1)])) rfl rfl (hb hby d_prog_34_method_1_code_41)
  have O18 := O13.wr W18 ga1
  have N18 := Fr.snoc X18 N13 ga1
  have K18 : Keep h0 h18 [a1] := K13.wr W18 (Or.inl (List.mem_of_getElem? (i := 0) rfl))
  have fw18 : Fld Z h18 a1 "caseward/policy/Access" "unblinded" "Z" (.int (1 : Int32)) := f16.same W18
  have k19 : Way p e below S0 T18 (mkF m 44 #[rv a1, rv w_VIEW, iv (0 : Int32), iv (1 : Int32)] []) := fun t k => k15 t (st18 _ k)
  obtain ⟨fs, hr, hrun, hended, hW, hsame⟩ := X18.leave (v := none) (fun _ => rfl)
  have f20 : Exa Z h18 a1 "caseward/policy/Access" := (f17.wr W18)
  have f21 : Fld Z h18 a1 "caseward/policy/Access" "pii" "Z" (.int (0 : Int32)) := (fw13.other W18 (Or.inr (slot_ne (Or.inr (hw _ (List.mem_of_getElem? (i := 26) rfl))) (Or.inr (hw _ (List.mem_of_getElem? (i := 28) rfl))) (by decide) (t := .boolean) (t' := .boolean) (by decide) (by decide))))
  refine ⟨_, _, k19 _ (X18.returnOut hx Bd.returns (hb hby d_prog_34_method_1_code_44) hr), hrun, hended, _, _, rfl, ?_, ⟨_, rfl⟩, hW, hsame.mono (by decide) (by decide)⟩
  show Q_init_VIEW01 Z w_NONE w_VIEW w_EDIT wCS a1 h0 n0 _ T18.heap _
  rw [e18]
  exact ⟨rfl, N18, K18, f20, f21⟩
def Q_init_VIEW10 (Z : State) (w_NONE : Addr) (w_VIEW : Addr) (w_EDIT : Addr) (wCS : Int32) (a1 : Addr) (h0 : Heap) (n0 : Nat) (v : Option Value) (h : Heap) (L : List Loc) : Prop := (v = none) ∧ (Fr n0 L) ∧ (Keep h0 h [a1]) ∧ (Exa Z h a1 "caseward/policy/Access") ∧ (Fld Z h a1 "caseward/policy/Access" "pii" "Z" (.int (1 : Int32)))
set_option maxRecDepth 65536 in
set_option maxHeartbeats 40000000 in
theorem init_VIEW10 (l : Launch) (Z : State) (a0 : Array Value) (hw : ∀ d ∈ tables_1, d.before a0 Z = true) (ws : List Jvm.Cond) (w_NONE : Addr) (w_VIEW : Addr) (w_EDIT : Addr) (wCS : Int32) (G : Gst Z w_NONE w_VIEW w_EDIT wCS) (a1 : Addr) (h0 : Heap) (n0 : Nat) (O0 : Old Z n0 h0) (a_0 : Exa Z h0 a1 "caseward/policy/Access") (a_1 : Fld Z h0 a1 "caseward/policy/Access" "level" "Lcaseward/policy/Access$Level;" .null) (a_2 : Fld Z h0 a1 "caseward/policy/Access" "pii" "Z" (.int (0 : Int32))) (a_3 : Fld Z h0 a1 "caseward/policy/Access" "unblinded" "Z" (.int (0 : Int32))) (ga1 : n0 ≤ a1) :
    MetFree l (⟨"caseward/policy/Access", "<init>", "(Lcaseward/policy/Access$Level;ZZ)V"⟩ : MethodName) (head1 (Jvm.Cond.code (⟨"caseward/policy/Access", "<init>", "(Lcaseward/policy/Access$Level;ZZ)V"⟩ : MethodName) prog_34_method_1_code 4 none :: ws) ({ frames := 2, cells := 0, slots := 0, locals := 24 } : Room)) (fun a U => a = #[(.ref a1), (.ref w_VIEW), (.int (1 : Int32)), (.int (0 : Int32))] ∧ Z.Warmed39 U.vm ∧ U.heap = h0) (fun _ _ _ _ _ => True) (fun _ U o U' => ∃ v L, o = .returned v ∧ Q_init_VIEW10 Z w_NONE w_VIEW w_EDIT wCS a1 h0 n0 v U'.heap L ∧ FrameEnd U o U' L ({ frames := 2, cells := 0, slots := 0, locals := 24 } : Room).cells ({ frames := 2, cells := 0, slots := 0, locals := 24 } : Room).slots) := by
  refine MetFree.of_bodySF (plainFor_of_name pn_2) hisR ?_
  intro p e s m args below meth c s₁ Bd hml0 hP hK
  obtain ⟨rfl, hZ, hh⟩ := hP
  have hx := Bd.exec
  have hby := Bd.bytes
  have hml : c.maxLocals = 4 := hml0
  have hown : s.vm.findClass "caseward/policy/Access" = some m.cls := findClass_of_methodNamed Bd.named
  have hnm := (name_of_methodNamed Bd.named Bd.method).1
  have X0 : Stand p l e ({ frames := 2, cells := 0, slots := 0, locals := 24 } : Room) s m #[(.ref a1), (.ref w_VIEW), (.int (1 : Int32)), (.int (0 : Int32))] below meth c s₁ [] 0 0 := Stand.of_body Bd
  have e0 : s₁.heap = h0 := by rw [← hh, Bd.state]; rfl
  have N0 := Fr.nil n0
  obtain ⟨S_w_NONE, E_w_NONE, F_w_NONE_ordinal, S_w_VIEW, E_w_VIEW, F_w_VIEW_ordinal, S_w_EDIT, E_w_EDIT, F_w_EDIT_ordinal, S_CS, hCS⟩ := id G
  have k0 : Way p e below (s₁.setTop (entryFrame m #[(.ref a1), (.ref w_VIEW), (.int (1 : Int32)), (.int (0 : Int32))] 4)) s₁ (mkF m 0 #[rv a1, rv w_VIEW, iv (1 : Int32), iv (0 : Int32)] []) := fun t k => castTop (by first | (simp [entryFrame, mkF, argsToLocals, Value.category]; done) | rfl) k
  generalize s₁.setTop (entryFrame m #[(.ref a1), (.ref w_VIEW), (.int (1 : Int32)), (.int (0 : Int32))] 4) = S0 at k0 ⊢
  have k1 : Way p e below S0 s₁ (mkF m 1 #[rv a1, rv w_VIEW, iv (1 : Int32), iv (0 : Int32)] [(.ref a1)]) := by
    intro t k
    refine k0 t ?_
    refine XS.aloadN X0.here hx rfl (hb hby d_prog_34_method_1_code_0) rfl rfl ?_
    show Steps p.tables e below (s₁.setTop (mkF m 1 #[rv a1, rv w_VIEW, iv (1 : Int32), iv (0 : Int32)] [(.ref a1)])) _
    exact k
  obtain ⟨_, _, ⟨T2, L2, kk2, nn2⟩, -, X2, ⟨Lc2, hQ2, l2, y2, z2⟩, st2⟩ := X0.specialBack hx (y := (⟨"java/lang/Record", "<init>", "()V"⟩ : MethodName)) rfl hown (mvT hZ (hw _ (List.mem_of_getElem? (i := 14) rfl))) (mvT hZ (hw _ (List.mem_of_getElem? (i := 15) rfl))) (mvT hZ (hw _ (List.mem_of_getElem? (i := 18) rfl))) (by decide) (backOf (W := 0) (recInit l Z a0 hw [] w_NONE w_VIEW w_EDIT wCS G a1 h0 n0 O0 ) hZ (hw _ (List.mem_of_getElem? (i := 18) rfl)) (hw _ (List.mem_of_getElem? (i := 17) rfl)) (by decide) (by decide)) (g := (mkF m 1 #[rv a1, rv w_VIEW, iv (1 : Int32), iv (0 : Int32)] [(.ref a1)])) rfl (by rw [hml]; rfl) (Steps.refl _) (a := a1) (argsL := []) (rest := []) (lenOf pd_0 rfl) rfl (by show 2 * 0 + _ ≤ _; exact Nat.le_of_eq rfl) (hb hby d_prog_34_method_1_code_1) (fun _ _ => ⟨rfl, e0, (by decide : 0 + 0 ≤ _), (by decide : 0 + 0 ≤ _)⟩)
  dsimp only [Pt.U, Pt.locs, Pt.cells, Pt.slots] at X2 l2 y2 z2 st2 hQ2
  subst l2 y2 z2
  obtain ⟨rfl, Nq2, e2⟩ := hQ2
  have N2 := Fr.app N0 Nq2
  have k3 : Way p e below S0 T2 (mkF m 4 #[rv a1, rv w_VIEW, iv (1 : Int32), iv (0 : Int32)] []) := fun t k => k1 t (st2.trans k)
  have k4 : Way p e below S0 T2 (mkF m 5 #[rv a1, rv w_VIEW, iv (1 : Int32), iv (0 : Int32)] [(.ref w_VIEW)]) := by
    intro t k
    refine k3 t ?_
    refine XS.aloadN X2.here hx rfl (hb hby d_prog_34_method_1_code_4) rfl rfl ?_
    show Steps p.tables e below (T2.setTop (mkF m 5 #[rv a1, rv w_VIEW, iv (1 : Int32), iv (0 : Int32)] [(.ref w_VIEW)])) _
    exact k
  obtain ⟨T5, X5, e5, st5⟩ := getS2 X2 hx hZ hown (host := "") (Or.inl (hw _ (List.mem_of_getElem? (i := 22) rfl))) Via.refl e2 (S_w_NONE.ext O0.2) (g := (mkF m 5 #[rv a1, rv w_VIEW, iv (1 : Int32), iv (0 : Int32)] [(.ref w_VIEW)])) rfl (hb hby d_prog_34_method_1_code_5)
  have k6 : Way p e below S0 T5 (mkF m 8 #[rv a1, rv w_VIEW, iv (1 : Int32), iv (0 : Int32)] [(.ref w_NONE), (.ref w_VIEW)]) := fun t k => k4 t (st5 _ k)
  have k7 : Way p e below S0 T5 (mkF m 31 #[rv a1, rv w_VIEW, iv (1 : Int32), iv (0 : Int32)] [(.ref w_VIEW), (.ref a1)]) := by
    intro t k
    refine k6 t ?_
    refine Jvm.RoadKit.acmp (g := (mkF m 8 #[rv a1, rv w_VIEW, iv (1 : Int32), iv (0 : Int32)] [(.ref w_NONE), (.ref w_VIEW)])) X5 hx rfl rfl rfl (pc0 := 8) (pc' := 29) (same := false) rfl (hb hby d_prog_34_method_1_code_8) rfl (decide_eq_false fun q => absurd (Value.ref.inj q) (F_w_VIEW_ordinal.ne F_w_NONE_ordinal (by decide))) (by decide) (by decide) ?_
    show Steps p.tables e below (T5.setTop (mkF m 29 #[rv a1, rv w_VIEW, iv (1 : Int32), iv (0 : Int32)] [])) _
    refine XS.aloadN X5.here hx rfl (hb hby d_prog_34_method_1_code_29) rfl rfl ?_
    show Steps p.tables e below (T5.setTop (mkF m 30 #[rv a1, rv w_VIEW, iv (1 : Int32), iv (0 : Int32)] [(.ref a1)])) _
    refine XS.aloadN X5.here hx rfl (hb hby d_prog_34_method_1_code_30) rfl rfl ?_
    show Steps p.tables e below (T5.setTop (mkF m 31 #[rv a1, rv w_VIEW, iv (1 : Int32), iv (0 : Int32)] [(.ref w_VIEW), (.ref a1)])) _
    exact k
  obtain ⟨T8, h8, X8, e8, W8, st8⟩ := putF X5 hx hZ hown (host := "") (Or.inl (hw _ (List.mem_of_getElem? (i := 23) rfl))) Via.refl e5 a_1 a_0 (Or.inr ⟨(hw _ (List.mem_of_getElem? (i := 24) rfl)), rfl, hnm⟩) (hw _ (List.mem_of_getElem? (i := 9) rfl)) (ty := (.object "caseward/policy/Access$Level")) (by decide) rfl rfl (g := (mkF m 31 #[rv a1, rv w_VIEW, iv (1 : Int32), iv (0 : Int32)] [(.ref w_VIEW), (.ref a1)])) rfl rfl (hb hby d_prog_34_method_1_code_31)
  have O8 := O0.wr W8 ga1
  have N8 := Fr.snoc X8 N2 ga1
  have K8 : Keep h0 h8 [a1] := (Keep.refl h0 [a1]).wr W8 (Or.inl (List.mem_of_getElem? (i := 0) rfl))
  have fw8 : Fld Z h8 a1 "caseward/policy/Access" "level" "Lcaseward/policy/Access$Level;" (.ref w_VIEW) := a_1.same W8
  have k9 : Way p e below S0 T8 (mkF m 34 #[rv a1, rv w_VIEW, iv (1 : Int32), iv (0 : Int32)] []) := fun t k => k7 t (st8 _ k)
  have k10 : Way p e below S0 T8 (mkF m 36 #[rv a1, rv w_VIEW, iv (1 : Int32), iv (0 : Int32)] [(.int (1 : Int32)), (.ref a1)]) := by
    intro t k
    refine k9 t ?_
    refine XS.aloadN X8.here hx rfl (hb hby d_prog_34_method_1_code_34) rfl rfl ?_
    show Steps p.tables e below (T8.setTop (mkF m 35 #[rv a1, rv w_VIEW, iv (1 : Int32), iv (0 : Int32)] [(.ref a1)])) _
    refine XS.iloadN X8.here hx rfl (hb hby d_prog_34_method_1_code_35) rfl ?_
    show Steps p.tables e below (T8.setTop (mkF m 36 #[rv a1, rv w_VIEW, iv (1 : Int32), iv (0 : Int32)] [(.int (1 : Int32)), (.ref a1)])) _
    exact k
  have f11 : Fld Z h8 a1 "caseward/policy/Access" "pii" "Z" (.int (0 : Int32)) := (a_2.other W8 (Or.inr (slot_ne (Or.inr (hw _ (List.mem_of_getElem? (i := 26) rfl))) (Or.inr (hw _ (List.mem_of_getElem? (i := 24) rfl))) (by decide) (t := .boolean) (t' := (.object "caseward/policy/Access$Level")) (by decide) (by decide))))
  have f12 : Exa Z h8 a1 "caseward/policy/Access" := (a_0.wr W8)
  obtain ⟨T13, h13, X13, e13, W13, st13⟩ := putFN X8 hx hZ hown (hw _ (List.mem_of_getElem? (i := 25) rfl)) Via.refl e8 f11 f12 (Or.inr ⟨(hw _ (List.mem_of_getElem? (i := 26) rfl)), rfl, hnm⟩) (hw _ (List.mem_of_getElem? (i := 9) rfl)) (ty := .boolean) (v' := (.int (1 : Int32))) (by decide) rfl rfl (g := (mkF m 36 #[rv a1, rv w_VIEW, iv (1 : Int32), iv (0 : Int32)] [(.int (1 : Int32)), (.ref a1)])) rfl rfl (hb hby d_prog_34_method_1_code_36)
  have O13 := O8.wr W13 ga1
  have N13 := Fr.snoc X13 N8 ga1
  have K13 : Keep h0 h13 [a1] := K8.wr W13 (Or.inl (List.mem_of_getElem? (i := 0) rfl))
  have fw13 : Fld Z h13 a1 "caseward/policy/Access" "pii" "Z" (.int (1 : Int32)) := f11.same W13
  have k14 : Way p e below S0 T13 (mkF m 39 #[rv a1, rv w_VIEW, iv (1 : Int32), iv (0 : Int32)] []) := fun t k => k10 t (st13 _ k)
  have k15 : Way p e below S0 T13 (mkF m 41 #[rv a1, rv w_VIEW, iv (1 : Int32), iv (0 : Int32)] [(.int (0 : Int32)), (.ref a1)]) := by
    intro t k
    refine k14 t ?_
    refine XS.aloadN X13.here hx rfl (hb hby d_prog_34_method_1_code_39) rfl rfl ?_
    show Steps p.tables e below (T13.setTop (mkF m 40 #[rv a1, rv w_VIEW, iv (1 : Int32), iv (0 : Int32)] [(.ref a1)])) _
    refine XS.iloadN X13.here hx rfl (hb hby d_prog_34_method_1_code_40) rfl ?_
    show Steps p.tables e below (T13.setTop (mkF m 41 #[rv a1, rv w_VIEW, iv (1 : Int32), iv (0 : Int32)] [(.int (0 : Int32)), (.ref a1)])) _
    exact k
  have f16 : Fld Z h13 a1 "caseward/policy/Access" "unblinded" "Z" (.int (0 : Int32)) := ((a_3.other W8 (Or.inr (slot_ne (Or.inr (hw _ (List.mem_of_getElem? (i := 28) rfl))) (Or.inr (hw _ (List.mem_of_getElem? (i := 24) rfl))) (by decide) (t := .boolean) (t' := (.object "caseward/policy/Access$Level")) (by decide) (by decide)))).other W13 (Or.inr (slot_ne (Or.inr (hw _ (List.mem_of_getElem? (i := 28) rfl))) (Or.inr (hw _ (List.mem_of_getElem? (i := 26) rfl))) (by decide) (t := .boolean) (t' := .boolean) (by decide) (by decide))))
  have f17 : Exa Z h13 a1 "caseward/policy/Access" := (f12.wr W13)
  obtain ⟨T18, h18, X18, e18, W18, st18⟩ := putFN X13 hx hZ hown (hw _ (List.mem_of_getElem? (i := 27) rfl)) Via.refl e13 f16 f17 (Or.inr ⟨(hw _ (List.mem_of_getElem? (i := 28) rfl)), rfl, hnm⟩) (hw _ (List.mem_of_getElem? (i := 9) rfl)) (ty := .boolean) (v' := (.int (0 : Int32))) (by decide) rfl rfl (g := (mkF m 41 #[rv a1, rv w_VIEW, iv (1 : Int32), iv (0 : Int32)] [(.int (0 : Int32)), (.ref a1)])) rfl rfl (hb hby d_prog_34_method_1_code_41)
  have O18 := O13.wr W18 ga1
  have N18 := Fr.snoc X18 N13 ga1
  have K18 : Keep h0 h18 [a1] := K13.wr W18 (Or.inl (List.mem_of_getElem? (i := 0) rfl))
  have fw18 : Fld Z h18 a1 "caseward/policy/Access" "unblinded" "Z" (.int (0 : Int32)) := f16.same W18
  have k19 : Way p e below S0 T18 (mkF m 44 #[rv a1, rv w_VIEW, iv (1 : Int32), iv (0 : Int32)] []) := fun t k => k15 t (st18 _ k)
  obtain ⟨fs, hr, hrun, hended, hW, hsame⟩ := X18.leave (v := none) (fun _ => rfl)
  have f20 : Exa Z h18 a1 "caseward/policy/Access" := (f17.wr W18)
  have f21 : Fld Z h18 a1 "caseward/policy/Access" "pii" "Z" (.int (1 : Int32)) := (fw13.other W18 (Or.inr (slot_ne (Or.inr (hw _ (List.mem_of_getElem? (i := 26) rfl))) (Or.inr (hw _ (List.mem_of_getElem? (i := 28) rfl))) (by decide) (t := .boolean) (t' := .boolean) (by decide) (by decide))))
  refine ⟨_, _, k19 _ (X18.returnOut hx Bd.returns (hb hby d_prog_34_method_1_code_44) hr), hrun, hended, _, _, rfl, ?_, ⟨_, rfl⟩, hW, hsame.mono (by decide) (by decide)⟩
  show Q_init_VIEW10 Z w_NONE w_VIEW w_EDIT wCS a1 h0 n0 _ T18.heap _
  rw [e18]
  exact ⟨rfl, N18, K18, f20, f21⟩
def Q_init_VIEW11 (Z : State) (w_NONE : Addr) (w_VIEW : Addr) (w_EDIT : Addr) (wCS : Int32) (a1 : Addr) (h0 : Heap) (n0 : Nat) (v : Option Value) (h : Heap) (L : List Loc) : Prop := (v = none) ∧ (Fr n0 L) ∧ (Keep h0 h [a1]) ∧ (Exa Z h a1 "caseward/policy/Access") ∧ (Fld Z h a1 "caseward/policy/Access" "pii" "Z" (.int (1 : Int32)))
set_option maxRecDepth 65536 in
set_option maxHeartbeats 40000000 in
theorem init_VIEW11 (l : Launch) (Z : State) (a0 : Array Value) (hw : ∀ d ∈ tables_1, d.before a0 Z = true) (ws : List Jvm.Cond) (w_NONE : Addr) (w_VIEW : Addr) (w_EDIT : Addr) (wCS : Int32) (G : Gst Z w_NONE w_VIEW w_EDIT wCS) (a1 : Addr) (h0 : Heap) (n0 : Nat) (O0 : Old Z n0 h0) (a_0 : Exa Z h0 a1 "caseward/policy/Access") (a_1 : Fld Z h0 a1 "caseward/policy/Access" "level" "Lcaseward/policy/Access$Level;" .null) (a_2 : Fld Z h0 a1 "caseward/policy/Access" "pii" "Z" (.int (0 : Int32))) (a_3 : Fld Z h0 a1 "caseward/policy/Access" "unblinded" "Z" (.int (0 : Int32))) (ga1 : n0 ≤ a1) :
    MetFree l (⟨"caseward/policy/Access", "<init>", "(Lcaseward/policy/Access$Level;ZZ)V"⟩ : MethodName) (head1 (Jvm.Cond.code (⟨"caseward/policy/Access", "<init>", "(Lcaseward/policy/Access$Level;ZZ)V"⟩ : MethodName) prog_34_method_1_code 4 none :: ws) ({ frames := 2, cells := 0, slots := 0, locals := 24 } : Room)) (fun a U => a = #[(.ref a1), (.ref w_VIEW), (.int (1 : Int32)), (.int (1 : Int32))] ∧ Z.Warmed39 U.vm ∧ U.heap = h0) (fun _ _ _ _ _ => True) (fun _ U o U' => ∃ v L, o = .returned v ∧ Q_init_VIEW11 Z w_NONE w_VIEW w_EDIT wCS a1 h0 n0 v U'.heap L ∧ FrameEnd U o U' L ({ frames := 2, cells := 0, slots := 0, locals := 24 } : Room).cells ({ frames := 2, cells := 0, slots := 0, locals := 24 } : Room).slots) := by
  refine MetFree.of_bodySF (plainFor_of_name pn_2) hisR ?_
  intro p e s m args below meth c s₁ Bd hml0 hP hK
  obtain ⟨rfl, hZ, hh⟩ := hP
  have hx := Bd.exec
  have hby := Bd.bytes
  have hml : c.maxLocals = 4 := hml0
  have hown : s.vm.findClass "caseward/policy/Access" = some m.cls := findClass_of_methodNamed Bd.named
  have hnm := (name_of_methodNamed Bd.named Bd.method).1
  have X0 : Stand p l e ({ frames := 2, cells := 0, slots := 0, locals := 24 } : Room) s m #[(.ref a1), (.ref w_VIEW), (.int (1 : Int32)), (.int (1 : Int32))] below meth c s₁ [] 0 0 := Stand.of_body Bd
  have e0 : s₁.heap = h0 := by rw [← hh, Bd.state]; rfl
  have N0 := Fr.nil n0
  obtain ⟨S_w_NONE, E_w_NONE, F_w_NONE_ordinal, S_w_VIEW, E_w_VIEW, F_w_VIEW_ordinal, S_w_EDIT, E_w_EDIT, F_w_EDIT_ordinal, S_CS, hCS⟩ := id G
  have k0 : Way p e below (s₁.setTop (entryFrame m #[(.ref a1), (.ref w_VIEW), (.int (1 : Int32)), (.int (1 : Int32))] 4)) s₁ (mkF m 0 #[rv a1, rv w_VIEW, iv (1 : Int32), iv (1 : Int32)] []) := fun t k => castTop (by first | (simp [entryFrame, mkF, argsToLocals, Value.category]; done) | rfl) k
  generalize s₁.setTop (entryFrame m #[(.ref a1), (.ref w_VIEW), (.int (1 : Int32)), (.int (1 : Int32))] 4) = S0 at k0 ⊢
  have k1 : Way p e below S0 s₁ (mkF m 1 #[rv a1, rv w_VIEW, iv (1 : Int32), iv (1 : Int32)] [(.ref a1)]) := by
    intro t k
    refine k0 t ?_
    refine XS.aloadN X0.here hx rfl (hb hby d_prog_34_method_1_code_0) rfl rfl ?_
    show Steps p.tables e below (s₁.setTop (mkF m 1 #[rv a1, rv w_VIEW, iv (1 : Int32), iv (1 : Int32)] [(.ref a1)])) _
    exact k
  obtain ⟨_, _, ⟨T2, L2, kk2, nn2⟩, -, X2, ⟨Lc2, hQ2, l2, y2, z2⟩, st2⟩ := X0.specialBack hx (y := (⟨"java/lang/Record", "<init>", "()V"⟩ : MethodName)) rfl hown (mvT hZ (hw _ (List.mem_of_getElem? (i := 14) rfl))) (mvT hZ (hw _ (List.mem_of_getElem? (i := 15) rfl))) (mvT hZ (hw _ (List.mem_of_getElem? (i := 18) rfl))) (by decide) (backOf (W := 0) (recInit l Z a0 hw [] w_NONE w_VIEW w_EDIT wCS G a1 h0 n0 O0 ) hZ (hw _ (List.mem_of_getElem? (i := 18) rfl)) (hw _ (List.mem_of_getElem? (i := 17) rfl)) (by decide) (by decide)) (g := (mkF m 1 #[rv a1, rv w_VIEW, iv (1 : Int32), iv (1 : Int32)] [(.ref a1)])) rfl (by rw [hml]; rfl) (Steps.refl _) (a := a1) (argsL := []) (rest := []) (lenOf pd_0 rfl) rfl (by show 2 * 0 + _ ≤ _; exact Nat.le_of_eq rfl) (hb hby d_prog_34_method_1_code_1) (fun _ _ => ⟨rfl, e0, (by decide : 0 + 0 ≤ _), (by decide : 0 + 0 ≤ _)⟩)
  dsimp only [Pt.U, Pt.locs, Pt.cells, Pt.slots] at X2 l2 y2 z2 st2 hQ2
  subst l2 y2 z2
  obtain ⟨rfl, Nq2, e2⟩ := hQ2
  have N2 := Fr.app N0 Nq2
  have k3 : Way p e below S0 T2 (mkF m 4 #[rv a1, rv w_VIEW, iv (1 : Int32), iv (1 : Int32)] []) := fun t k => k1 t (st2.trans k)
  have k4 : Way p e below S0 T2 (mkF m 5 #[rv a1, rv w_VIEW, iv (1 : Int32), iv (1 : Int32)] [(.ref w_VIEW)]) := by
    intro t k
    refine k3 t ?_
    refine XS.aloadN X2.here hx rfl (hb hby d_prog_34_method_1_code_4) rfl rfl ?_
    show Steps p.tables e below (T2.setTop (mkF m 5 #[rv a1, rv w_VIEW, iv (1 : Int32), iv (1 : Int32)] [(.ref w_VIEW)])) _
    exact k
  obtain ⟨T5, X5, e5, st5⟩ := getS2 X2 hx hZ hown (host := "") (Or.inl (hw _ (List.mem_of_getElem? (i := 22) rfl))) Via.refl e2 (S_w_NONE.ext O0.2) (g := (mkF m 5 #[rv a1, rv w_VIEW, iv (1 : Int32), iv (1 : Int32)] [(.ref w_VIEW)])) rfl (hb hby d_prog_34_method_1_code_5)
  have k6 : Way p e below S0 T5 (mkF m 8 #[rv a1, rv w_VIEW, iv (1 : Int32), iv (1 : Int32)] [(.ref w_NONE), (.ref w_VIEW)]) := fun t k => k4 t (st5 _ k)
  have k7 : Way p e below S0 T5 (mkF m 31 #[rv a1, rv w_VIEW, iv (1 : Int32), iv (1 : Int32)] [(.ref w_VIEW), (.ref a1)]) := by
    intro t k
    refine k6 t ?_
    refine Jvm.RoadKit.acmp (g := (mkF m 8 #[rv a1, rv w_VIEW, iv (1 : Int32), iv (1 : Int32)] [(.ref w_NONE), (.ref w_VIEW)])) X5 hx rfl rfl rfl (pc0 := 8) (pc' := 29) (same := false) rfl (hb hby d_prog_34_method_1_code_8) rfl (decide_eq_false fun q => absurd (Value.ref.inj q) (F_w_VIEW_ordinal.ne F_w_NONE_ordinal (by decide))) (by decide) (by decide) ?_
    show Steps p.tables e below (T5.setTop (mkF m 29 #[rv a1, rv w_VIEW, iv (1 : Int32), iv (1 : Int32)] [])) _
    refine XS.aloadN X5.here hx rfl (hb hby d_prog_34_method_1_code_29) rfl rfl ?_
    show Steps p.tables e below (T5.setTop (mkF m 30 #[rv a1, rv w_VIEW, iv (1 : Int32), iv (1 : Int32)] [(.ref a1)])) _
    refine XS.aloadN X5.here hx rfl (hb hby d_prog_34_method_1_code_30) rfl rfl ?_
    show Steps p.tables e below (T5.setTop (mkF m 31 #[rv a1, rv w_VIEW, iv (1 : Int32), iv (1 : Int32)] [(.ref w_VIEW), (.ref a1)])) _
    exact k
  obtain ⟨T8, h8, X8, e8, W8, st8⟩ := putF X5 hx hZ hown (host := "") (Or.inl (hw _ (List.mem_of_getElem? (i := 23) rfl))) Via.refl e5 a_1 a_0 (Or.inr ⟨(hw _ (List.mem_of_getElem? (i := 24) rfl)), rfl, hnm⟩) (hw _ (List.mem_of_getElem? (i := 9) rfl)) (ty := (.object "caseward/policy/Access$Level")) (by decide) rfl rfl (g := (mkF m 31 #[rv a1, rv w_VIEW, iv (1 : Int32), iv (1 : Int32)] [(.ref w_VIEW), (.ref a1)])) rfl rfl (hb hby d_prog_34_method_1_code_31)
  have O8 := O0.wr W8 ga1
  have N8 := Fr.snoc X8 N2 ga1
  have K8 : Keep h0 h8 [a1] := (Keep.refl h0 [a1]).wr W8 (Or.inl (List.mem_of_getElem? (i := 0) rfl))
  have fw8 : Fld Z h8 a1 "caseward/policy/Access" "level" "Lcaseward/policy/Access$Level;" (.ref w_VIEW) := a_1.same W8
  have k9 : Way p e below S0 T8 (mkF m 34 #[rv a1, rv w_VIEW, iv (1 : Int32), iv (1 : Int32)] []) := fun t k => k7 t (st8 _ k)
  have k10 : Way p e below S0 T8 (mkF m 36 #[rv a1, rv w_VIEW, iv (1 : Int32), iv (1 : Int32)] [(.int (1 : Int32)), (.ref a1)]) := by
    intro t k
    refine k9 t ?_
    refine XS.aloadN X8.here hx rfl (hb hby d_prog_34_method_1_code_34) rfl rfl ?_
    show Steps p.tables e below (T8.setTop (mkF m 35 #[rv a1, rv w_VIEW, iv (1 : Int32), iv (1 : Int32)] [(.ref a1)])) _
    refine XS.iloadN X8.here hx rfl (hb hby d_prog_34_method_1_code_35) rfl ?_
    show Steps p.tables e below (T8.setTop (mkF m 36 #[rv a1, rv w_VIEW, iv (1 : Int32), iv (1 : Int32)] [(.int (1 : Int32)), (.ref a1)])) _
    exact k
  have f11 : Fld Z h8 a1 "caseward/policy/Access" "pii" "Z" (.int (0 : Int32)) := (a_2.other W8 (Or.inr (slot_ne (Or.inr (hw _ (List.mem_of_getElem? (i := 26) rfl))) (Or.inr (hw _ (List.mem_of_getElem? (i := 24) rfl))) (by decide) (t := .boolean) (t' := (.object "caseward/policy/Access$Level")) (by decide) (by decide))))
  have f12 : Exa Z h8 a1 "caseward/policy/Access" := (a_0.wr W8)
  obtain ⟨T13, h13, X13, e13, W13, st13⟩ := putFN X8 hx hZ hown (hw _ (List.mem_of_getElem? (i := 25) rfl)) Via.refl e8 f11 f12 (Or.inr ⟨(hw _ (List.mem_of_getElem? (i := 26) rfl)), rfl, hnm⟩) (hw _ (List.mem_of_getElem? (i := 9) rfl)) (ty := .boolean) (v' := (.int (1 : Int32))) (by decide) rfl rfl (g := (mkF m 36 #[rv a1, rv w_VIEW, iv (1 : Int32), iv (1 : Int32)] [(.int (1 : Int32)), (.ref a1)])) rfl rfl (hb hby d_prog_34_method_1_code_36)
  have O13 := O8.wr W13 ga1
  have N13 := Fr.snoc X13 N8 ga1
  have K13 : Keep h0 h13 [a1] := K8.wr W13 (Or.inl (List.mem_of_getElem? (i := 0) rfl))
  have fw13 : Fld Z h13 a1 "caseward/policy/Access" "pii" "Z" (.int (1 : Int32)) := f11.same W13
  have k14 : Way p e below S0 T13 (mkF m 39 #[rv a1, rv w_VIEW, iv (1 : Int32), iv (1 : Int32)] []) := fun t k => k10 t (st13 _ k)
  have k15 : Way p e below S0 T13 (mkF m 41 #[rv a1, rv w_VIEW, iv (1 : Int32), iv (1 : Int32)] [(.int (1 : Int32)), (.ref a1)]) := by
    intro t k
    refine k14 t ?_
    refine XS.aloadN X13.here hx rfl (hb hby d_prog_34_method_1_code_39) rfl rfl ?_
    show Steps p.tables e below (T13.setTop (mkF m 40 #[rv a1, rv w_VIEW, iv (1 : Int32), iv (1 : Int32)] [(.ref a1)])) _
    refine XS.iloadN X13.here hx rfl (hb hby d_prog_34_method_1_code_40) rfl ?_
    show Steps p.tables e below (T13.setTop (mkF m 41 #[rv a1, rv w_VIEW, iv (1 : Int32), iv (1 : Int32)] [(.int (1 : Int32)), (.ref a1)])) _
    exact k
  have f16 : Fld Z h13 a1 "caseward/policy/Access" "unblinded" "Z" (.int (0 : Int32)) := ((a_3.other W8 (Or.inr (slot_ne (Or.inr (hw _ (List.mem_of_getElem? (i := 28) rfl))) (Or.inr (hw _ (List.mem_of_getElem? (i := 24) rfl))) (by decide) (t := .boolean) (t' := (.object "caseward/policy/Access$Level")) (by decide) (by decide)))).other W13 (Or.inr (slot_ne (Or.inr (hw _ (List.mem_of_getElem? (i := 28) rfl))) (Or.inr (hw _ (List.mem_of_getElem? (i := 26) rfl))) (by decide) (t := .boolean) (t' := .boolean) (by decide) (by decide))))
  have f17 : Exa Z h13 a1 "caseward/policy/Access" := (f12.wr W13)
  obtain ⟨T18, h18, X18, e18, W18, st18⟩ := putFN X13 hx hZ hown (hw _ (List.mem_of_getElem? (i := 27) rfl)) Via.refl e13 f16 f17 (Or.inr ⟨(hw _ (List.mem_of_getElem? (i := 28) rfl)), rfl, hnm⟩) (hw _ (List.mem_of_getElem? (i := 9) rfl)) (ty := .boolean) (v' := (.int (1 : Int32))) (by decide) rfl rfl (g := (mkF m 41 #[rv a1, rv w_VIEW, iv (1 : Int32), iv (1 : Int32)] [(.int (1 : Int32)), (.ref a1)])) rfl rfl (hb hby d_prog_34_method_1_code_41)
  have O18 := O13.wr W18 ga1
  have N18 := Fr.snoc X18 N13 ga1
  have K18 : Keep h0 h18 [a1] := K13.wr W18 (Or.inl (List.mem_of_getElem? (i := 0) rfl))
  have fw18 : Fld Z h18 a1 "caseward/policy/Access" "unblinded" "Z" (.int (1 : Int32)) := f16.same W18
  have k19 : Way p e below S0 T18 (mkF m 44 #[rv a1, rv w_VIEW, iv (1 : Int32), iv (1 : Int32)] []) := fun t k => k15 t (st18 _ k)
  obtain ⟨fs, hr, hrun, hended, hW, hsame⟩ := X18.leave (v := none) (fun _ => rfl)
  have f20 : Exa Z h18 a1 "caseward/policy/Access" := (f17.wr W18)
  have f21 : Fld Z h18 a1 "caseward/policy/Access" "pii" "Z" (.int (1 : Int32)) := (fw13.other W18 (Or.inr (slot_ne (Or.inr (hw _ (List.mem_of_getElem? (i := 26) rfl))) (Or.inr (hw _ (List.mem_of_getElem? (i := 28) rfl))) (by decide) (t := .boolean) (t' := .boolean) (by decide) (by decide))))
  refine ⟨_, _, k19 _ (X18.returnOut hx Bd.returns (hb hby d_prog_34_method_1_code_44) hr), hrun, hended, _, _, rfl, ?_, ⟨_, rfl⟩, hW, hsame.mono (by decide) (by decide)⟩
  show Q_init_VIEW11 Z w_NONE w_VIEW w_EDIT wCS a1 h0 n0 _ T18.heap _
  rw [e18]
  exact ⟨rfl, N18, K18, f20, f21⟩
def Q_init_EDIT00 (Z : State) (w_NONE : Addr) (w_VIEW : Addr) (w_EDIT : Addr) (wCS : Int32) (a1 : Addr) (h0 : Heap) (n0 : Nat) (v : Option Value) (h : Heap) (L : List Loc) : Prop := (v = none) ∧ (Fr n0 L) ∧ (Keep h0 h [a1]) ∧ (Exa Z h a1 "caseward/policy/Access") ∧ (Fld Z h a1 "caseward/policy/Access" "pii" "Z" (.int (0 : Int32)))
set_option maxRecDepth 65536 in
set_option maxHeartbeats 40000000 in
theorem init_EDIT00 (l : Launch) (Z : State) (a0 : Array Value) (hw : ∀ d ∈ tables_1, d.before a0 Z = true) (ws : List Jvm.Cond) (w_NONE : Addr) (w_VIEW : Addr) (w_EDIT : Addr) (wCS : Int32) (G : Gst Z w_NONE w_VIEW w_EDIT wCS) (a1 : Addr) (h0 : Heap) (n0 : Nat) (O0 : Old Z n0 h0) (a_0 : Exa Z h0 a1 "caseward/policy/Access") (a_1 : Fld Z h0 a1 "caseward/policy/Access" "level" "Lcaseward/policy/Access$Level;" .null) (a_2 : Fld Z h0 a1 "caseward/policy/Access" "pii" "Z" (.int (0 : Int32))) (a_3 : Fld Z h0 a1 "caseward/policy/Access" "unblinded" "Z" (.int (0 : Int32))) (ga1 : n0 ≤ a1) :
    MetFree l (⟨"caseward/policy/Access", "<init>", "(Lcaseward/policy/Access$Level;ZZ)V"⟩ : MethodName) (head1 (Jvm.Cond.code (⟨"caseward/policy/Access", "<init>", "(Lcaseward/policy/Access$Level;ZZ)V"⟩ : MethodName) prog_34_method_1_code 4 none :: ws) ({ frames := 2, cells := 0, slots := 0, locals := 24 } : Room)) (fun a U => a = #[(.ref a1), (.ref w_EDIT), (.int (0 : Int32)), (.int (0 : Int32))] ∧ Z.Warmed39 U.vm ∧ U.heap = h0) (fun _ _ _ _ _ => True) (fun _ U o U' => ∃ v L, o = .returned v ∧ Q_init_EDIT00 Z w_NONE w_VIEW w_EDIT wCS a1 h0 n0 v U'.heap L ∧ FrameEnd U o U' L ({ frames := 2, cells := 0, slots := 0, locals := 24 } : Room).cells ({ frames := 2, cells := 0, slots := 0, locals := 24 } : Room).slots) := by
  refine MetFree.of_bodySF (plainFor_of_name pn_2) hisR ?_
  intro p e s m args below meth c s₁ Bd hml0 hP hK
  obtain ⟨rfl, hZ, hh⟩ := hP
  have hx := Bd.exec
  have hby := Bd.bytes
  have hml : c.maxLocals = 4 := hml0
  have hown : s.vm.findClass "caseward/policy/Access" = some m.cls := findClass_of_methodNamed Bd.named
  have hnm := (name_of_methodNamed Bd.named Bd.method).1
  have X0 : Stand p l e ({ frames := 2, cells := 0, slots := 0, locals := 24 } : Room) s m #[(.ref a1), (.ref w_EDIT), (.int (0 : Int32)), (.int (0 : Int32))] below meth c s₁ [] 0 0 := Stand.of_body Bd
  have e0 : s₁.heap = h0 := by rw [← hh, Bd.state]; rfl
  have N0 := Fr.nil n0
  obtain ⟨S_w_NONE, E_w_NONE, F_w_NONE_ordinal, S_w_VIEW, E_w_VIEW, F_w_VIEW_ordinal, S_w_EDIT, E_w_EDIT, F_w_EDIT_ordinal, S_CS, hCS⟩ := id G
  have k0 : Way p e below (s₁.setTop (entryFrame m #[(.ref a1), (.ref w_EDIT), (.int (0 : Int32)), (.int (0 : Int32))] 4)) s₁ (mkF m 0 #[rv a1, rv w_EDIT, iv (0 : Int32), iv (0 : Int32)] []) := fun t k => castTop (by first | (simp [entryFrame, mkF, argsToLocals, Value.category]; done) | rfl) k
  generalize s₁.setTop (entryFrame m #[(.ref a1), (.ref w_EDIT), (.int (0 : Int32)), (.int (0 : Int32))] 4) = S0 at k0 ⊢
  have k1 : Way p e below S0 s₁ (mkF m 1 #[rv a1, rv w_EDIT, iv (0 : Int32), iv (0 : Int32)] [(.ref a1)]) := by
    intro t k
    refine k0 t ?_
    refine XS.aloadN X0.here hx rfl (hb hby d_prog_34_method_1_code_0) rfl rfl ?_
    show Steps p.tables e below (s₁.setTop (mkF m 1 #[rv a1, rv w_EDIT, iv (0 : Int32), iv (0 : Int32)] [(.ref a1)])) _
    exact k
  obtain ⟨_, _, ⟨T2, L2, kk2, nn2⟩, -, X2, ⟨Lc2, hQ2, l2, y2, z2⟩, st2⟩ := X0.specialBack hx (y := (⟨"java/lang/Record", "<init>", "()V"⟩ : MethodName)) rfl hown (mvT hZ (hw _ (List.mem_of_getElem? (i := 14) rfl))) (mvT hZ (hw _ (List.mem_of_getElem? (i := 15) rfl))) (mvT hZ (hw _ (List.mem_of_getElem? (i := 18) rfl))) (by decide) (backOf (W := 0) (recInit l Z a0 hw [] w_NONE w_VIEW w_EDIT wCS G a1 h0 n0 O0 ) hZ (hw _ (List.mem_of_getElem? (i := 18) rfl)) (hw _ (List.mem_of_getElem? (i := 17) rfl)) (by decide) (by decide)) (g := (mkF m 1 #[rv a1, rv w_EDIT, iv (0 : Int32), iv (0 : Int32)] [(.ref a1)])) rfl (by rw [hml]; rfl) (Steps.refl _) (a := a1) (argsL := []) (rest := []) (lenOf pd_0 rfl) rfl (by show 2 * 0 + _ ≤ _; exact Nat.le_of_eq rfl) (hb hby d_prog_34_method_1_code_1) (fun _ _ => ⟨rfl, e0, (by decide : 0 + 0 ≤ _), (by decide : 0 + 0 ≤ _)⟩)
  dsimp only [Pt.U, Pt.locs, Pt.cells, Pt.slots] at X2 l2 y2 z2 st2 hQ2
  subst l2 y2 z2
  obtain ⟨rfl, Nq2, e2⟩ := hQ2
  have N2 := Fr.app N0 Nq2
  have k3 : Way p e below S0 T2 (mkF m 4 #[rv a1, rv w_EDIT, iv (0 : Int32), iv (0 : Int32)] []) := fun t k => k1 t (st2.trans k)
  have k4 : Way p e below S0 T2 (mkF m 5 #[rv a1, rv w_EDIT, iv (0 : Int32), iv (0 : Int32)] [(.ref w_EDIT)]) := by
    intro t k
    refine k3 t ?_
    refine XS.aloadN X2.here hx rfl (hb hby d_prog_34_method_1_code_4) rfl rfl ?_
    show Steps p.tables e below (T2.setTop (mkF m 5 #[rv a1, rv w_EDIT, iv (0 : Int32), iv (0 : Int32)] [(.ref w_EDIT)])) _
    exact k
  obtain ⟨T5, X5, e5, st5⟩ := getS2 X2 hx hZ hown (host := "") (Or.inl (hw _ (List.mem_of_getElem? (i := 22) rfl))) Via.refl e2 (S_w_NONE.ext O0.2) (g := (mkF m 5 #[rv a1, rv w_EDIT, iv (0 : Int32), iv (0 : Int32)] [(.ref w_EDIT)])) rfl (hb hby d_prog_34_method_1_code_5)
  have k6 : Way p e below S0 T5 (mkF m 8 #[rv a1, rv w_EDIT, iv (0 : Int32), iv (0 : Int32)] [(.ref w_NONE), (.ref w_EDIT)]) := fun t k => k4 t (st5 _ k)
  have k7 : Way p e below S0 T5 (mkF m 31 #[rv a1, rv w_EDIT, iv (0 : Int32), iv (0 : Int32)] [(.ref w_EDIT), (.ref a1)]) := by
    intro t k
    refine k6 t ?_
    refine Jvm.RoadKit.acmp (g := (mkF m 8 #[rv a1, rv w_EDIT, iv (0 : Int32), iv (0 : Int32)] [(.ref w_NONE), (.ref w_EDIT)])) X5 hx rfl rfl rfl (pc0 := 8) (pc' := 29) (same := false) rfl (hb hby d_prog_34_method_1_code_8) rfl (decide_eq_false fun q => absurd (Value.ref.inj q) (F_w_EDIT_ordinal.ne F_w_NONE_ordinal (by decide))) (by decide) (by decide) ?_
    show Steps p.tables e below (T5.setTop (mkF m 29 #[rv a1, rv w_EDIT, iv (0 : Int32), iv (0 : Int32)] [])) _
    refine XS.aloadN X5.here hx rfl (hb hby d_prog_34_method_1_code_29) rfl rfl ?_
    show Steps p.tables e below (T5.setTop (mkF m 30 #[rv a1, rv w_EDIT, iv (0 : Int32), iv (0 : Int32)] [(.ref a1)])) _
    refine XS.aloadN X5.here hx rfl (hb hby d_prog_34_method_1_code_30) rfl rfl ?_
    show Steps p.tables e below (T5.setTop (mkF m 31 #[rv a1, rv w_EDIT, iv (0 : Int32), iv (0 : Int32)] [(.ref w_EDIT), (.ref a1)])) _
    exact k
  obtain ⟨T8, h8, X8, e8, W8, st8⟩ := putF X5 hx hZ hown (host := "") (Or.inl (hw _ (List.mem_of_getElem? (i := 23) rfl))) Via.refl e5 a_1 a_0 (Or.inr ⟨(hw _ (List.mem_of_getElem? (i := 24) rfl)), rfl, hnm⟩) (hw _ (List.mem_of_getElem? (i := 9) rfl)) (ty := (.object "caseward/policy/Access$Level")) (by decide) rfl rfl (g := (mkF m 31 #[rv a1, rv w_EDIT, iv (0 : Int32), iv (0 : Int32)] [(.ref w_EDIT), (.ref a1)])) rfl rfl (hb hby d_prog_34_method_1_code_31)
  have O8 := O0.wr W8 ga1
  have N8 := Fr.snoc X8 N2 ga1
  have K8 : Keep h0 h8 [a1] := (Keep.refl h0 [a1]).wr W8 (Or.inl (List.mem_of_getElem? (i := 0) rfl))
  have fw8 : Fld Z h8 a1 "caseward/policy/Access" "level" "Lcaseward/policy/Access$Level;" (.ref w_EDIT) := a_1.same W8
  have k9 : Way p e below S0 T8 (mkF m 34 #[rv a1, rv w_EDIT, iv (0 : Int32), iv (0 : Int32)] []) := fun t k => k7 t (st8 _ k)
  have k10 : Way p e below S0 T8 (mkF m 36 #[rv a1, rv w_EDIT, iv (0 : Int32), iv (0 : Int32)] [(.int (0 : Int32)), (.ref a1)]) := by
    intro t k
    refine k9 t ?_
    refine XS.aloadN X8.here hx rfl (hb hby d_prog_34_method_1_code_34) rfl rfl ?_
    show Steps p.tables e below (T8.setTop (mkF m 35 #[rv a1, rv w_EDIT, iv (0 : Int32), iv (0 : Int32)] [(.ref a1)])) _
    refine XS.iloadN X8.here hx rfl (hb hby d_prog_34_method_1_code_35) rfl ?_
    show Steps p.tables e below (T8.setTop (mkF m 36 #[rv a1, rv w_EDIT, iv (0 : Int32), iv (0 : Int32)] [(.int (0 : Int32)), (.ref a1)])) _
    exact k
  have f11 : Fld Z h8 a1 "caseward/policy/Access" "pii" "Z" (.int (0 : Int32)) := (a_2.other W8 (Or.inr (slot_ne (Or.inr (hw _ (List.mem_of_getElem? (i := 26) rfl))) (Or.inr (hw _ (List.mem_of_getElem? (i := 24) rfl))) (by decide) (t := .boolean) (t' := (.object "caseward/policy/Access$Level")) (by decide) (by decide))))
  have f12 : Exa Z h8 a1 "caseward/policy/Access" := (a_0.wr W8)
  obtain ⟨T13, h13, X13, e13, W13, st13⟩ := putFN X8 hx hZ hown (hw _ (List.mem_of_getElem? (i := 25) rfl)) Via.refl e8 f11 f12 (Or.inr ⟨(hw _ (List.mem_of_getElem? (i := 26) rfl)), rfl, hnm⟩) (hw _ (List.mem_of_getElem? (i := 9) rfl)) (ty := .boolean) (v' := (.int (0 : Int32))) (by decide) rfl rfl (g := (mkF m 36 #[rv a1, rv w_EDIT, iv (0 : Int32), iv (0 : Int32)] [(.int (0 : Int32)), (.ref a1)])) rfl rfl (hb hby d_prog_34_method_1_code_36)
  have O13 := O8.wr W13 ga1
  have N13 := Fr.snoc X13 N8 ga1
  have K13 : Keep h0 h13 [a1] := K8.wr W13 (Or.inl (List.mem_of_getElem? (i := 0) rfl))
  have fw13 : Fld Z h13 a1 "caseward/policy/Access" "pii" "Z" (.int (0 : Int32)) := f11.same W13
  have k14 : Way p e below S0 T13 (mkF m 39 #[rv a1, rv w_EDIT, iv (0 : Int32), iv (0 : Int32)] []) := fun t k => k10 t (st13 _ k)
  have k15 : Way p e below S0 T13 (mkF m 41 #[rv a1, rv w_EDIT, iv (0 : Int32), iv (0 : Int32)] [(.int (0 : Int32)), (.ref a1)]) := by
    intro t k
    refine k14 t ?_
    refine XS.aloadN X13.here hx rfl (hb hby d_prog_34_method_1_code_39) rfl rfl ?_
    show Steps p.tables e below (T13.setTop (mkF m 40 #[rv a1, rv w_EDIT, iv (0 : Int32), iv (0 : Int32)] [(.ref a1)])) _
    refine XS.iloadN X13.here hx rfl (hb hby d_prog_34_method_1_code_40) rfl ?_
    show Steps p.tables e below (T13.setTop (mkF m 41 #[rv a1, rv w_EDIT, iv (0 : Int32), iv (0 : Int32)] [(.int (0 : Int32)), (.ref a1)])) _
    exact k
  have f16 : Fld Z h13 a1 "caseward/policy/Access" "unblinded" "Z" (.int (0 : Int32)) := ((a_3.other W8 (Or.inr (slot_ne (Or.inr (hw _ (List.mem_of_getElem? (i := 28) rfl))) (Or.inr (hw _ (List.mem_of_getElem? (i := 24) rfl))) (by decide) (t := .boolean) (t' := (.object "caseward/policy/Access$Level")) (by decide) (by decide)))).other W13 (Or.inr (slot_ne (Or.inr (hw _ (List.mem_of_getElem? (i := 28) rfl))) (Or.inr (hw _ (List.mem_of_getElem? (i := 26) rfl))) (by decide) (t := .boolean) (t' := .boolean) (by decide) (by decide))))
  have f17 : Exa Z h13 a1 "caseward/policy/Access" := (f12.wr W13)
  obtain ⟨T18, h18, X18, e18, W18, st18⟩ := putFN X13 hx hZ hown (hw _ (List.mem_of_getElem? (i := 27) rfl)) Via.refl e13 f16 f17 (Or.inr ⟨(hw _ (List.mem_of_getElem? (i := 28) rfl)), rfl, hnm⟩) (hw _ (List.mem_of_getElem? (i := 9) rfl)) (ty := .boolean) (v' := (.int (0 : Int32))) (by decide) rfl rfl (g := (mkF m 41 #[rv a1, rv w_EDIT, iv (0 : Int32), iv (0 : Int32)] [(.int (0 : Int32)), (.ref a1)])) rfl rfl (hb hby d_prog_34_method_1_code_41)
  have O18 := O13.wr W18 ga1
  have N18 := Fr.snoc X18 N13 ga1
  have K18 : Keep h0 h18 [a1] := K13.wr W18 (Or.inl (List.mem_of_getElem? (i := 0) rfl))
  have fw18 : Fld Z h18 a1 "caseward/policy/Access" "unblinded" "Z" (.int (0 : Int32)) := f16.same W18
  have k19 : Way p e below S0 T18 (mkF m 44 #[rv a1, rv w_EDIT, iv (0 : Int32), iv (0 : Int32)] []) := fun t k => k15 t (st18 _ k)
  obtain ⟨fs, hr, hrun, hended, hW, hsame⟩ := X18.leave (v := none) (fun _ => rfl)
  have f20 : Exa Z h18 a1 "caseward/policy/Access" := (f17.wr W18)
  have f21 : Fld Z h18 a1 "caseward/policy/Access" "pii" "Z" (.int (0 : Int32)) := (fw13.other W18 (Or.inr (slot_ne (Or.inr (hw _ (List.mem_of_getElem? (i := 26) rfl))) (Or.inr (hw _ (List.mem_of_getElem? (i := 28) rfl))) (by decide) (t := .boolean) (t' := .boolean) (by decide) (by decide))))
  refine ⟨_, _, k19 _ (X18.returnOut hx Bd.returns (hb hby d_prog_34_method_1_code_44) hr), hrun, hended, _, _, rfl, ?_, ⟨_, rfl⟩, hW, hsame.mono (by decide) (by decide)⟩
  show Q_init_EDIT00 Z w_NONE w_VIEW w_EDIT wCS a1 h0 n0 _ T18.heap _
  rw [e18]
  exact ⟨rfl, N18, K18, f20, f21⟩
def Q_init_EDIT01 (Z : State) (w_NONE : Addr) (w_VIEW : Addr) (w_EDIT : Addr) (wCS : Int32) (a1 : Addr) (h0 : Heap) (n0 : Nat) (v : Option Value) (h : Heap) (L : List Loc) : Prop := (v = none) ∧ (Fr n0 L) ∧ (Keep h0 h [a1]) ∧ (Exa Z h a1 "caseward/policy/Access") ∧ (Fld Z h a1 "caseward/policy/Access" "pii" "Z" (.int (0 : Int32)))
set_option maxRecDepth 65536 in
set_option maxHeartbeats 40000000 in
theorem init_EDIT01 (l : Launch) (Z : State) (a0 : Array Value) (hw : ∀ d ∈ tables_1, d.before a0 Z = true) (ws : List Jvm.Cond) (w_NONE : Addr) (w_VIEW : Addr) (w_EDIT : Addr) (wCS : Int32) (G : Gst Z w_NONE w_VIEW w_EDIT wCS) (a1 : Addr) (h0 : Heap) (n0 : Nat) (O0 : Old Z n0 h0) (a_0 : Exa Z h0 a1 "caseward/policy/Access") (a_1 : Fld Z h0 a1 "caseward/policy/Access" "level" "Lcaseward/policy/Access$Level;" .null) (a_2 : Fld Z h0 a1 "caseward/policy/Access" "pii" "Z" (.int (0 : Int32))) (a_3 : Fld Z h0 a1 "caseward/policy/Access" "unblinded" "Z" (.int (0 : Int32))) (ga1 : n0 ≤ a1) :
    MetFree l (⟨"caseward/policy/Access", "<init>", "(Lcaseward/policy/Access$Level;ZZ)V"⟩ : MethodName) (head1 (Jvm.Cond.code (⟨"caseward/policy/Access", "<init>", "(Lcaseward/policy/Access$Level;ZZ)V"⟩ : MethodName) prog_34_method_1_code 4 none :: ws) ({ frames := 2, cells := 0, slots := 0, locals := 24 } : Room)) (fun a U => a = #[(.ref a1), (.ref w_EDIT), (.int (0 : Int32)), (.int (1 : Int32))] ∧ Z.Warmed39 U.vm ∧ U.heap = h0) (fun _ _ _ _ _ => True) (fun _ U o U' => ∃ v L, o = .returned v ∧ Q_init_EDIT01 Z w_NONE w_VIEW w_EDIT wCS a1 h0 n0 v U'.heap L ∧ FrameEnd U o U' L ({ frames := 2, cells := 0, slots := 0, locals := 24 } : Room).cells ({ frames := 2, cells := 0, slots := 0, locals := 24 } : Room).slots) := by
  refine MetFree.of_bodySF (plainFor_of_name pn_2) hisR ?_
  intro p e s m args below meth c s₁ Bd hml0 hP hK
  obtain ⟨rfl, hZ, hh⟩ := hP
  have hx := Bd.exec
  have hby := Bd.bytes
  have hml : c.maxLocals = 4 := hml0
  have hown : s.vm.findClass "caseward/policy/Access" = some m.cls := findClass_of_methodNamed Bd.named
  have hnm := (name_of_methodNamed Bd.named Bd.method).1
  have X0 : Stand p l e ({ frames := 2, cells := 0, slots := 0, locals := 24 } : Room) s m #[(.ref a1), (.ref w_EDIT), (.int (0 : Int32)), (.int (1 : Int32))] below meth c s₁ [] 0 0 := Stand.of_body Bd
  have e0 : s₁.heap = h0 := by rw [← hh, Bd.state]; rfl
  have N0 := Fr.nil n0
  obtain ⟨S_w_NONE, E_w_NONE, F_w_NONE_ordinal, S_w_VIEW, E_w_VIEW, F_w_VIEW_ordinal, S_w_EDIT, E_w_EDIT, F_w_EDIT_ordinal, S_CS, hCS⟩ := id G
  have k0 : Way p e below (s₁.setTop (entryFrame m #[(.ref a1), (.ref w_EDIT), (.int (0 : Int32)), (.int (1 : Int32))] 4)) s₁ (mkF m 0 #[rv a1, rv w_EDIT, iv (0 : Int32), iv (1 : Int32)] []) := fun t k => castTop (by first | (simp [entryFrame, mkF, argsToLocals, Value.category]; done) | rfl) k
  generalize s₁.setTop (entryFrame m #[(.ref a1), (.ref w_EDIT), (.int (0 : Int32)), (.int (1 : Int32))] 4) = S0 at k0 ⊢
  have k1 : Way p e below S0 s₁ (mkF m 1 #[rv a1, rv w_EDIT, iv (0 : Int32), iv (1 : Int32)] [(.ref a1)]) := by
    intro t k
    refine k0 t ?_
    refine XS.aloadN X0.here hx rfl (hb hby d_prog_34_method_1_code_0) rfl rfl ?_
    show Steps p.tables e below (s₁.setTop (mkF m 1 #[rv a1, rv w_EDIT, iv (0 : Int32), iv (1 : Int32)] [(.ref a1)])) _
    exact k
  obtain ⟨_, _, ⟨T2, L2, kk2, nn2⟩, -, X2, ⟨Lc2, hQ2, l2, y2, z2⟩, st2⟩ := X0.specialBack hx (y := (⟨"java/lang/Record", "<init>", "()V"⟩ : MethodName)) rfl hown (mvT hZ (hw _ (List.mem_of_getElem? (i := 14) rfl))) (mvT hZ (hw _ (List.mem_of_getElem? (i := 15) rfl))) (mvT hZ (hw _ (List.mem_of_getElem? (i := 18) rfl))) (by decide) (backOf (W := 0) (recInit l Z a0 hw [] w_NONE w_VIEW w_EDIT wCS G a1 h0 n0 O0 ) hZ (hw _ (List.mem_of_getElem? (i := 18) rfl)) (hw _ (List.mem_of_getElem? (i := 17) rfl)) (by decide) (by decide)) (g := (mkF m 1 #[rv a1, rv w_EDIT, iv (0 : Int32), iv (1 : Int32)] [(.ref a1)])) rfl (by rw [hml]; rfl) (Steps.refl _) (a := a1) (argsL := []) (rest := []) (lenOf pd_0 rfl) rfl (by show 2 * 0 + _ ≤ _; exact Nat.le_of_eq rfl) (hb hby d_prog_34_method_1_code_1) (fun _ _ => ⟨rfl, e0, (by decide : 0 + 0 ≤ _), (by decide : 0 + 0 ≤ _)⟩)
  dsimp only [Pt.U, Pt.locs, Pt.cells, Pt.slots] at X2 l2 y2 z2 st2 hQ2
  subst l2 y2 z2
  obtain ⟨rfl, Nq2, e2⟩ := hQ2
  have N2 := Fr.app N0 Nq2
  have k3 : Way p e below S0 T2 (mkF m 4 #[rv a1, rv w_EDIT, iv (0 : Int32), iv (1 : Int32)] []) := fun t k => k1 t (st2.trans k)
  have k4 : Way p e below S0 T2 (mkF m 5 #[rv a1, rv w_EDIT, iv (0 : Int32), iv (1 : Int32)] [(.ref w_EDIT)]) := by
    intro t k
    refine k3 t ?_
    refine XS.aloadN X2.here hx rfl (hb hby d_prog_34_method_1_code_4) rfl rfl ?_
    show Steps p.tables e below (T2.setTop (mkF m 5 #[rv a1, rv w_EDIT, iv (0 : Int32), iv (1 : Int32)] [(.ref w_EDIT)])) _
    exact k
  obtain ⟨T5, X5, e5, st5⟩ := getS2 X2 hx hZ hown (host := "") (Or.inl (hw _ (List.mem_of_getElem? (i := 22) rfl))) Via.refl e2 (S_w_NONE.ext O0.2) (g := (mkF m 5 #[rv a1, rv w_EDIT, iv (0 : Int32), iv (1 : Int32)] [(.ref w_EDIT)])) rfl (hb hby d_prog_34_method_1_code_5)
  have k6 : Way p e below S0 T5 (mkF m 8 #[rv a1, rv w_EDIT, iv (0 : Int32), iv (1 : Int32)] [(.ref w_NONE), (.ref w_EDIT)]) := fun t k => k4 t (st5 _ k)
  have k7 : Way p e below S0 T5 (mkF m 31 #[rv a1, rv w_EDIT, iv (0 : Int32), iv (1 : Int32)] [(.ref w_EDIT), (.ref a1)]) := by
    intro t k
    refine k6 t ?_
    refine Jvm.RoadKit.acmp (g := (mkF m 8 #[rv a1, rv w_EDIT, iv (0 : Int32), iv (1 : Int32)] [(.ref w_NONE), (.ref w_EDIT)])) X5 hx rfl rfl rfl (pc0 := 8) (pc' := 29) (same := false) rfl (hb hby d_prog_34_method_1_code_8) rfl (decide_eq_false fun q => absurd (Value.ref.inj q) (F_w_EDIT_ordinal.ne F_w_NONE_ordinal (by decide))) (by decide) (by decide) ?_
    show Steps p.tables e below (T5.setTop (mkF m 29 #[rv a1, rv w_EDIT, iv (0 : Int32), iv (1 : Int32)] [])) _
    refine XS.aloadN X5.here hx rfl (hb hby d_prog_34_method_1_code_29) rfl rfl ?_
    show Steps p.tables e below (T5.setTop (mkF m 30 #[rv a1, rv w_EDIT, iv (0 : Int32), iv (1 : Int32)] [(.ref a1)])) _
    refine XS.aloadN X5.here hx rfl (hb hby d_prog_34_method_1_code_30) rfl rfl ?_
    show Steps p.tables e below (T5.setTop (mkF m 31 #[rv a1, rv w_EDIT, iv (0 : Int32), iv (1 : Int32)] [(.ref w_EDIT), (.ref a1)])) _
    exact k
  obtain ⟨T8, h8, X8, e8, W8, st8⟩ := putF X5 hx hZ hown (host := "") (Or.inl (hw _ (List.mem_of_getElem? (i := 23) rfl))) Via.refl e5 a_1 a_0 (Or.inr ⟨(hw _ (List.mem_of_getElem? (i := 24) rfl)), rfl, hnm⟩) (hw _ (List.mem_of_getElem? (i := 9) rfl)) (ty := (.object "caseward/policy/Access$Level")) (by decide) rfl rfl (g := (mkF m 31 #[rv a1, rv w_EDIT, iv (0 : Int32), iv (1 : Int32)] [(.ref w_EDIT), (.ref a1)])) rfl rfl (hb hby d_prog_34_method_1_code_31)
  have O8 := O0.wr W8 ga1
  have N8 := Fr.snoc X8 N2 ga1
  have K8 : Keep h0 h8 [a1] := (Keep.refl h0 [a1]).wr W8 (Or.inl (List.mem_of_getElem? (i := 0) rfl))
  have fw8 : Fld Z h8 a1 "caseward/policy/Access" "level" "Lcaseward/policy/Access$Level;" (.ref w_EDIT) := a_1.same W8
  have k9 : Way p e below S0 T8 (mkF m 34 #[rv a1, rv w_EDIT, iv (0 : Int32), iv (1 : Int32)] []) := fun t k => k7 t (st8 _ k)
  have k10 : Way p e below S0 T8 (mkF m 36 #[rv a1, rv w_EDIT, iv (0 : Int32), iv (1 : Int32)] [(.int (0 : Int32)), (.ref a1)]) := by
    intro t k
    refine k9 t ?_
    refine XS.aloadN X8.here hx rfl (hb hby d_prog_34_method_1_code_34) rfl rfl ?_
    show Steps p.tables e below (T8.setTop (mkF m 35 #[rv a1, rv w_EDIT, iv (0 : Int32), iv (1 : Int32)] [(.ref a1)])) _
    refine XS.iloadN X8.here hx rfl (hb hby d_prog_34_method_1_code_35) rfl ?_
    show Steps p.tables e below (T8.setTop (mkF m 36 #[rv a1, rv w_EDIT, iv (0 : Int32), iv (1 : Int32)] [(.int (0 : Int32)), (.ref a1)])) _
    exact k
  have f11 : Fld Z h8 a1 "caseward/policy/Access" "pii" "Z" (.int (0 : Int32)) := (a_2.other W8 (Or.inr (slot_ne (Or.inr (hw _ (List.mem_of_getElem? (i := 26) rfl))) (Or.inr (hw _ (List.mem_of_getElem? (i := 24) rfl))) (by decide) (t := .boolean) (t' := (.object "caseward/policy/Access$Level")) (by decide) (by decide))))
  have f12 : Exa Z h8 a1 "caseward/policy/Access" := (a_0.wr W8)
  obtain ⟨T13, h13, X13, e13, W13, st13⟩ := putFN X8 hx hZ hown (hw _ (List.mem_of_getElem? (i := 25) rfl)) Via.refl e8 f11 f12 (Or.inr ⟨(hw _ (List.mem_of_getElem? (i := 26) rfl)), rfl, hnm⟩) (hw _ (List.mem_of_getElem? (i := 9) rfl)) (ty := .boolean) (v' := (.int (0 : Int32))) (by decide) rfl rfl (g := (mkF m 36 #[rv a1, rv w_EDIT, iv (0 : Int32), iv (1 : Int32)] [(.int (0 : Int32)), (.ref a1)])) rfl rfl (hb hby d_prog_34_method_1_code_36)
  have O13 := O8.wr W13 ga1
  have N13 := Fr.snoc X13 N8 ga1
  have K13 : Keep h0 h13 [a1] := K8.wr W13 (Or.inl (List.mem_of_getElem? (i := 0) rfl))
  have fw13 : Fld Z h13 a1 "caseward/policy/Access" "pii" "Z" (.int (0 : Int32)) := f11.same W13
  have k14 : Way p e below S0 T13 (mkF m 39 #[rv a1, rv w_EDIT, iv (0 : Int32), iv (1 : Int32)] []) := fun t k => k10 t (st13 _ k)
  have k15 : Way p e below S0 T13 (mkF m 41 #[rv a1, rv w_EDIT, iv (0 : Int32), iv (1 : Int32)] [(.int (1 : Int32)), (.ref a1)]) := by
    intro t k
    refine k14 t ?_
    refine XS.aloadN X13.here hx rfl (hb hby d_prog_34_method_1_code_39) rfl rfl ?_
    show Steps p.tables e below (T13.setTop (mkF m 40 #[rv a1, rv w_EDIT, iv (0 : Int32), iv (1 : Int32)] [(.ref a1)])) _
    refine XS.iloadN X13.here hx rfl (hb hby d_prog_34_method_1_code_40) rfl ?_
    show Steps p.tables e below (T13.setTop (mkF m 41 #[rv a1, rv w_EDIT, iv (0 : Int32), iv (1 : Int32)] [(.int (1 : Int32)), (.ref a1)])) _
    exact k
  have f16 : Fld Z h13 a1 "caseward/policy/Access" "unblinded" "Z" (.int (0 : Int32)) := ((a_3.other W8 (Or.inr (slot_ne (Or.inr (hw _ (List.mem_of_getElem? (i := 28) rfl))) (Or.inr (hw _ (List.mem_of_getElem? (i := 24) rfl))) (by decide) (t := .boolean) (t' := (.object "caseward/policy/Access$Level")) (by decide) (by decide)))).other W13 (Or.inr (slot_ne (Or.inr (hw _ (List.mem_of_getElem? (i := 28) rfl))) (Or.inr (hw _ (List.mem_of_getElem? (i := 26) rfl))) (by decide) (t := .boolean) (t' := .boolean) (by decide) (by decide))))
  have f17 : Exa Z h13 a1 "caseward/policy/Access" := (f12.wr W13)
  obtain ⟨T18, h18, X18, e18, W18, st18⟩ := putFN X13 hx hZ hown (hw _ (List.mem_of_getElem? (i := 27) rfl)) Via.refl e13 f16 f17 (Or.inr ⟨(hw _ (List.mem_of_getElem? (i := 28) rfl)), rfl, hnm⟩) (hw _ (List.mem_of_getElem? (i := 9) rfl)) (ty := .boolean) (v' := (.int (1 : Int32))) (by decide) rfl rfl (g := (mkF m 41 #[rv a1, rv w_EDIT, iv (0 : Int32), iv (1 : Int32)] [(.int (1 : Int32)), (.ref a1)])) rfl rfl (hb hby d_prog_34_method_1_code_41)
  have O18 := O13.wr W18 ga1
  have N18 := Fr.snoc X18 N13 ga1
  have K18 : Keep h0 h18 [a1] := K13.wr W18 (Or.inl (List.mem_of_getElem? (i := 0) rfl))
  have fw18 : Fld Z h18 a1 "caseward/policy/Access" "unblinded" "Z" (.int (1 : Int32)) := f16.same W18
  have k19 : Way p e below S0 T18 (mkF m 44 #[rv a1, rv w_EDIT, iv (0 : Int32), iv (1 : Int32)] []) := fun t k => k15 t (st18 _ k)
  obtain ⟨fs, hr, hrun, hended, hW, hsame⟩ := X18.leave (v := none) (fun _ => rfl)
  have f20 : Exa Z h18 a1 "caseward/policy/Access" := (f17.wr W18)
  have f21 : Fld Z h18 a1 "caseward/policy/Access" "pii" "Z" (.int (0 : Int32)) := (fw13.other W18 (Or.inr (slot_ne (Or.inr (hw _ (List.mem_of_getElem? (i := 26) rfl))) (Or.inr (hw _ (List.mem_of_getElem? (i := 28) rfl))) (by decide) (t := .boolean) (t' := .boolean) (by decide) (by decide))))
  refine ⟨_, _, k19 _ (X18.returnOut hx Bd.returns (hb hby d_prog_34_method_1_code_44) hr), hrun, hended, _, _, rfl, ?_, ⟨_, rfl⟩, hW, hsame.mono (by decide) (by decide)⟩
  show Q_init_EDIT01 Z w_NONE w_VIEW w_EDIT wCS a1 h0 n0 _ T18.heap _
  rw [e18]
  exact ⟨rfl, N18, K18, f20, f21⟩
def Q_init_EDIT10 (Z : State) (w_NONE : Addr) (w_VIEW : Addr) (w_EDIT : Addr) (wCS : Int32) (a1 : Addr) (h0 : Heap) (n0 : Nat) (v : Option Value) (h : Heap) (L : List Loc) : Prop := (v = none) ∧ (Fr n0 L) ∧ (Keep h0 h [a1]) ∧ (Exa Z h a1 "caseward/policy/Access") ∧ (Fld Z h a1 "caseward/policy/Access" "pii" "Z" (.int (1 : Int32)))
set_option maxRecDepth 65536 in
set_option maxHeartbeats 40000000 in
theorem init_EDIT10 (l : Launch) (Z : State) (a0 : Array Value) (hw : ∀ d ∈ tables_1, d.before a0 Z = true) (ws : List Jvm.Cond) (w_NONE : Addr) (w_VIEW : Addr) (w_EDIT : Addr) (wCS : Int32) (G : Gst Z w_NONE w_VIEW w_EDIT wCS) (a1 : Addr) (h0 : Heap) (n0 : Nat) (O0 : Old Z n0 h0) (a_0 : Exa Z h0 a1 "caseward/policy/Access") (a_1 : Fld Z h0 a1 "caseward/policy/Access" "level" "Lcaseward/policy/Access$Level;" .null) (a_2 : Fld Z h0 a1 "caseward/policy/Access" "pii" "Z" (.int (0 : Int32))) (a_3 : Fld Z h0 a1 "caseward/policy/Access" "unblinded" "Z" (.int (0 : Int32))) (ga1 : n0 ≤ a1) :
    MetFree l (⟨"caseward/policy/Access", "<init>", "(Lcaseward/policy/Access$Level;ZZ)V"⟩ : MethodName) (head1 (Jvm.Cond.code (⟨"caseward/policy/Access", "<init>", "(Lcaseward/policy/Access$Level;ZZ)V"⟩ : MethodName) prog_34_method_1_code 4 none :: ws) ({ frames := 2, cells := 0, slots := 0, locals := 24 } : Room)) (fun a U => a = #[(.ref a1), (.ref w_EDIT), (.int (1 : Int32)), (.int (0 : Int32))] ∧ Z.Warmed39 U.vm ∧ U.heap = h0) (fun _ _ _ _ _ => True) (fun _ U o U' => ∃ v L, o = .returned v ∧ Q_init_EDIT10 Z w_NONE w_VIEW w_EDIT wCS a1 h0 n0 v U'.heap L ∧ FrameEnd U o U' L ({ frames := 2, cells := 0, slots := 0, locals := 24 } : Room).cells ({ frames := 2, cells := 0, slots := 0, locals := 24 } : Room).slots) := by
  refine MetFree.of_bodySF (plainFor_of_name pn_2) hisR ?_
  intro p e s m args below meth c s₁ Bd hml0 hP hK
  obtain ⟨rfl, hZ, hh⟩ := hP
  have hx := Bd.exec
  have hby := Bd.bytes
  have hml : c.maxLocals = 4 := hml0
  have hown : s.vm.findClass "caseward/policy/Access" = some m.cls := findClass_of_methodNamed Bd.named
  have hnm := (name_of_methodNamed Bd.named Bd.method).1
  have X0 : Stand p l e ({ frames := 2, cells := 0, slots := 0, locals := 24 } : Room) s m #[(.ref a1), (.ref w_EDIT), (.int (1 : Int32)), (.int (0 : Int32))] below meth c s₁ [] 0 0 := Stand.of_body Bd
  have e0 : s₁.heap = h0 := by rw [← hh, Bd.state]; rfl
  have N0 := Fr.nil n0
  obtain ⟨S_w_NONE, E_w_NONE, F_w_NONE_ordinal, S_w_VIEW, E_w_VIEW, F_w_VIEW_ordinal, S_w_EDIT, E_w_EDIT, F_w_EDIT_ordinal, S_CS, hCS⟩ := id G
  have k0 : Way p e below (s₁.setTop (entryFrame m #[(.ref a1), (.ref w_EDIT), (.int (1 : Int32)), (.int (0 : Int32))] 4)) s₁ (mkF m 0 #[rv a1, rv w_EDIT, iv (1 : Int32), iv (0 : Int32)] []) := fun t k => castTop (by first | (simp [entryFrame, mkF, argsToLocals, Value.category]; done) | rfl) k
  generalize s₁.setTop (entryFrame m #[(.ref a1), (.ref w_EDIT), (.int (1 : Int32)), (.int (0 : Int32))] 4) = S0 at k0 ⊢
  have k1 : Way p e below S0 s₁ (mkF m 1 #[rv a1, rv w_EDIT, iv (1 : Int32), iv (0 : Int32)] [(.ref a1)]) := by
    intro t k
    refine k0 t ?_
    refine XS.aloadN X0.here hx rfl (hb hby d_prog_34_method_1_code_0) rfl rfl ?_
    show Steps p.tables e below (s₁.setTop (mkF m 1 #[rv a1, rv w_EDIT, iv (1 : Int32), iv (0 : Int32)] [(.ref a1)])) _
    exact k
  obtain ⟨_, _, ⟨T2, L2, kk2, nn2⟩, -, X2, ⟨Lc2, hQ2, l2, y2, z2⟩, st2⟩ := X0.specialBack hx (y := (⟨"java/lang/Record", "<init>", "()V"⟩ : MethodName)) rfl hown (mvT hZ (hw _ (List.mem_of_getElem? (i := 14) rfl))) (mvT hZ (hw _ (List.mem_of_getElem? (i := 15) rfl))) (mvT hZ (hw _ (List.mem_of_getElem? (i := 18) rfl))) (by decide) (backOf (W := 0) (recInit l Z a0 hw [] w_NONE w_VIEW w_EDIT wCS G a1 h0 n0 O0 ) hZ (hw _ (List.mem_of_getElem? (i := 18) rfl)) (hw _ (List.mem_of_getElem? (i := 17) rfl)) (by decide) (by decide)) (g := (mkF m 1 #[rv a1, rv w_EDIT, iv (1 : Int32), iv (0 : Int32)] [(.ref a1)])) rfl (by rw [hml]; rfl) (Steps.refl _) (a := a1) (argsL := []) (rest := []) (lenOf pd_0 rfl) rfl (by show 2 * 0 + _ ≤ _; exact Nat.le_of_eq rfl) (hb hby d_prog_34_method_1_code_1) (fun _ _ => ⟨rfl, e0, (by decide : 0 + 0 ≤ _), (by decide : 0 + 0 ≤ _)⟩)
  dsimp only [Pt.U, Pt.locs, Pt.cells, Pt.slots] at X2 l2 y2 z2 st2 hQ2
  subst l2 y2 z2
  obtain ⟨rfl, Nq2, e2⟩ := hQ2
  have N2 := Fr.app N0 Nq2
  have k3 : Way p e below S0 T2 (mkF m 4 #[rv a1, rv w_EDIT, iv (1 : Int32), iv (0 : Int32)] []) := fun t k => k1 t (st2.trans k)
  have k4 : Way p e below S0 T2 (mkF m 5 #[rv a1, rv w_EDIT, iv (1 : Int32), iv (0 : Int32)] [(.ref w_EDIT)]) := by
    intro t k
    refine k3 t ?_
    refine XS.aloadN X2.here hx rfl (hb hby d_prog_34_method_1_code_4) rfl rfl ?_
    show Steps p.tables e below (T2.setTop (mkF m 5 #[rv a1, rv w_EDIT, iv (1 : Int32), iv (0 : Int32)] [(.ref w_EDIT)])) _
    exact k
  obtain ⟨T5, X5, e5, st5⟩ := getS2 X2 hx hZ hown (host := "") (Or.inl (hw _ (List.mem_of_getElem? (i := 22) rfl))) Via.refl e2 (S_w_NONE.ext O0.2) (g := (mkF m 5 #[rv a1, rv w_EDIT, iv (1 : Int32), iv (0 : Int32)] [(.ref w_EDIT)])) rfl (hb hby d_prog_34_method_1_code_5)
  have k6 : Way p e below S0 T5 (mkF m 8 #[rv a1, rv w_EDIT, iv (1 : Int32), iv (0 : Int32)] [(.ref w_NONE), (.ref w_EDIT)]) := fun t k => k4 t (st5 _ k)
  have k7 : Way p e below S0 T5 (mkF m 31 #[rv a1, rv w_EDIT, iv (1 : Int32), iv (0 : Int32)] [(.ref w_EDIT), (.ref a1)]) := by
    intro t k
    refine k6 t ?_
    refine Jvm.RoadKit.acmp (g := (mkF m 8 #[rv a1, rv w_EDIT, iv (1 : Int32), iv (0 : Int32)] [(.ref w_NONE), (.ref w_EDIT)])) X5 hx rfl rfl rfl (pc0 := 8) (pc' := 29) (same := false) rfl (hb hby d_prog_34_method_1_code_8) rfl (decide_eq_false fun q => absurd (Value.ref.inj q) (F_w_EDIT_ordinal.ne F_w_NONE_ordinal (by decide))) (by decide) (by decide) ?_
    show Steps p.tables e below (T5.setTop (mkF m 29 #[rv a1, rv w_EDIT, iv (1 : Int32), iv (0 : Int32)] [])) _
    refine XS.aloadN X5.here hx rfl (hb hby d_prog_34_method_1_code_29) rfl rfl ?_
    show Steps p.tables e below (T5.setTop (mkF m 30 #[rv a1, rv w_EDIT, iv (1 : Int32), iv (0 : Int32)] [(.ref a1)])) _
    refine XS.aloadN X5.here hx rfl (hb hby d_prog_34_method_1_code_30) rfl rfl ?_
    show Steps p.tables e below (T5.setTop (mkF m 31 #[rv a1, rv w_EDIT, iv (1 : Int32), iv (0 : Int32)] [(.ref w_EDIT), (.ref a1)])) _
    exact k
  obtain ⟨T8, h8, X8, e8, W8, st8⟩ := putF X5 hx hZ hown (host := "") (Or.inl (hw _ (List.mem_of_getElem? (i := 23) rfl))) Via.refl e5 a_1 a_0 (Or.inr ⟨(hw _ (List.mem_of_getElem? (i := 24) rfl)), rfl, hnm⟩) (hw _ (List.mem_of_getElem? (i := 9) rfl)) (ty := (.object "caseward/policy/Access$Level")) (by decide) rfl rfl (g := (mkF m 31 #[rv a1, rv w_EDIT, iv (1 : Int32), iv (0 : Int32)] [(.ref w_EDIT), (.ref a1)])) rfl rfl (hb hby d_prog_34_method_1_code_31)
  have O8 := O0.wr W8 ga1
  have N8 := Fr.snoc X8 N2 ga1
  have K8 : Keep h0 h8 [a1] := (Keep.refl h0 [a1]).wr W8 (Or.inl (List.mem_of_getElem? (i := 0) rfl))
  have fw8 : Fld Z h8 a1 "caseward/policy/Access" "level" "Lcaseward/policy/Access$Level;" (.ref w_EDIT) := a_1.same W8
  have k9 : Way p e below S0 T8 (mkF m 34 #[rv a1, rv w_EDIT, iv (1 : Int32), iv (0 : Int32)] []) := fun t k => k7 t (st8 _ k)
  have k10 : Way p e below S0 T8 (mkF m 36 #[rv a1, rv w_EDIT, iv (1 : Int32), iv (0 : Int32)] [(.int (1 : Int32)), (.ref a1)]) := by
    intro t k
    refine k9 t ?_
    refine XS.aloadN X8.here hx rfl (hb hby d_prog_34_method_1_code_34) rfl rfl ?_
    show Steps p.tables e below (T8.setTop (mkF m 35 #[rv a1, rv w_EDIT, iv (1 : Int32), iv (0 : Int32)] [(.ref a1)])) _
    refine XS.iloadN X8.here hx rfl (hb hby d_prog_34_method_1_code_35) rfl ?_
    show Steps p.tables e below (T8.setTop (mkF m 36 #[rv a1, rv w_EDIT, iv (1 : Int32), iv (0 : Int32)] [(.int (1 : Int32)), (.ref a1)])) _
    exact k
  have f11 : Fld Z h8 a1 "caseward/policy/Access" "pii" "Z" (.int (0 : Int32)) := (a_2.other W8 (Or.inr (slot_ne (Or.inr (hw _ (List.mem_of_getElem? (i := 26) rfl))) (Or.inr (hw _ (List.mem_of_getElem? (i := 24) rfl))) (by decide) (t := .boolean) (t' := (.object "caseward/policy/Access$Level")) (by decide) (by decide))))
  have f12 : Exa Z h8 a1 "caseward/policy/Access" := (a_0.wr W8)
  obtain ⟨T13, h13, X13, e13, W13, st13⟩ := putFN X8 hx hZ hown (hw _ (List.mem_of_getElem? (i := 25) rfl)) Via.refl e8 f11 f12 (Or.inr ⟨(hw _ (List.mem_of_getElem? (i := 26) rfl)), rfl, hnm⟩) (hw _ (List.mem_of_getElem? (i := 9) rfl)) (ty := .boolean) (v' := (.int (1 : Int32))) (by decide) rfl rfl (g := (mkF m 36 #[rv a1, rv w_EDIT, iv (1 : Int32), iv (0 : Int32)] [(.int (1 : Int32)), (.ref a1)])) rfl rfl (hb hby d_prog_34_method_1_code_36)
  have O13 := O8.wr W13 ga1
  have N13 := Fr.snoc X13 N8 ga1
  have K13 : Keep h0 h13 [a1] := K8.wr W13 (Or.inl (List.mem_of_getElem? (i := 0) rfl))
  have fw13 : Fld Z h13 a1 "caseward/policy/Access" "pii" "Z" (.int (1 : Int32)) := f11.same W13
  have k14 : Way p e below S0 T13 (mkF m 39 #[rv a1, rv w_EDIT, iv (1 : Int32), iv (0 : Int32)] []) := fun t k => k10 t (st13 _ k)
  have k15 : Way p e below S0 T13 (mkF m 41 #[rv a1, rv w_EDIT, iv (1 : Int32), iv (0 : Int32)] [(.int (0 : Int32)), (.ref a1)]) := by
    intro t k
    refine k14 t ?_
    refine XS.aloadN X13.here hx rfl (hb hby d_prog_34_method_1_code_39) rfl rfl ?_
    show Steps p.tables e below (T13.setTop (mkF m 40 #[rv a1, rv w_EDIT, iv (1 : Int32), iv (0 : Int32)] [(.ref a1)])) _
    refine XS.iloadN X13.here hx rfl (hb hby d_prog_34_method_1_code_40) rfl ?_
    show Steps p.tables e below (T13.setTop (mkF m 41 #[rv a1, rv w_EDIT, iv (1 : Int32), iv (0 : Int32)] [(.int (0 : Int32)), (.ref a1)])) _
    exact k
  have f16 : Fld Z h13 a1 "caseward/policy/Access" "unblinded" "Z" (.int (0 : Int32)) := ((a_3.other W8 (Or.inr (slot_ne (Or.inr (hw _ (List.mem_of_getElem? (i := 28) rfl))) (Or.inr (hw _ (List.mem_of_getElem? (i := 24) rfl))) (by decide) (t := .boolean) (t' := (.object "caseward/policy/Access$Level")) (by decide) (by decide)))).other W13 (Or.inr (slot_ne (Or.inr (hw _ (List.mem_of_getElem? (i := 28) rfl))) (Or.inr (hw _ (List.mem_of_getElem? (i := 26) rfl))) (by decide) (t := .boolean) (t' := .boolean) (by decide) (by decide))))
  have f17 : Exa Z h13 a1 "caseward/policy/Access" := (f12.wr W13)
  obtain ⟨T18, h18, X18, e18, W18, st18⟩ := putFN X13 hx hZ hown (hw _ (List.mem_of_getElem? (i := 27) rfl)) Via.refl e13 f16 f17 (Or.inr ⟨(hw _ (List.mem_of_getElem? (i := 28) rfl)), rfl, hnm⟩) (hw _ (List.mem_of_getElem? (i := 9) rfl)) (ty := .boolean) (v' := (.int (0 : Int32))) (by decide) rfl rfl (g := (mkF m 41 #[rv a1, rv w_EDIT, iv (1 : Int32), iv (0 : Int32)] [(.int (0 : Int32)), (.ref a1)])) rfl rfl (hb hby d_prog_34_method_1_code_41)
  have O18 := O13.wr W18 ga1
  have N18 := Fr.snoc X18 N13 ga1
  have K18 : Keep h0 h18 [a1] := K13.wr W18 (Or.inl (List.mem_of_getElem? (i := 0) rfl))
  have fw18 : Fld Z h18 a1 "caseward/policy/Access" "unblinded" "Z" (.int (0 : Int32)) := f16.same W18
  have k19 : Way p e below S0 T18 (mkF m 44 #[rv a1, rv w_EDIT, iv (1 : Int32), iv (0 : Int32)] []) := fun t k => k15 t (st18 _ k)
  obtain ⟨fs, hr, hrun, hended, hW, hsame⟩ := X18.leave (v := none) (fun _ => rfl)
  have f20 : Exa Z h18 a1 "caseward/policy/Access" := (f17.wr W18)
  have f21 : Fld Z h18 a1 "caseward/policy/Access" "pii" "Z" (.int (1 : Int32)) := (fw13.other W18 (Or.inr (slot_ne (Or.inr (hw _ (List.mem_of_getElem? (i := 26) rfl))) (Or.inr (hw _ (List.mem_of_getElem? (i := 28) rfl))) (by decide) (t := .boolean) (t' := .boolean) (by decide) (by decide))))
  refine ⟨_, _, k19 _ (X18.returnOut hx Bd.returns (hb hby d_prog_34_method_1_code_44) hr), hrun, hended, _, _, rfl, ?_, ⟨_, rfl⟩, hW, hsame.mono (by decide) (by decide)⟩
  show Q_init_EDIT10 Z w_NONE w_VIEW w_EDIT wCS a1 h0 n0 _ T18.heap _
  rw [e18]
  exact ⟨rfl, N18, K18, f20, f21⟩
def Q_init_EDIT11 (Z : State) (w_NONE : Addr) (w_VIEW : Addr) (w_EDIT : Addr) (wCS : Int32) (a1 : Addr) (h0 : Heap) (n0 : Nat) (v : Option Value) (h : Heap) (L : List Loc) : Prop := (v = none) ∧ (Fr n0 L) ∧ (Keep h0 h [a1]) ∧ (Exa Z h a1 "caseward/policy/Access") ∧ (Fld Z h a1 "caseward/policy/Access" "pii" "Z" (.int (1 : Int32)))
set_option maxRecDepth 65536 in
set_option maxHeartbeats 40000000 in
theorem init_EDIT11 (l : Launch) (Z : State) (a0 : Array Value) (hw : ∀ d ∈ tables_1, d.before a0 Z = true) (ws : List Jvm.Cond) (w_NONE : Addr) (w_VIEW : Addr) (w_EDIT : Addr) (wCS : Int32) (G : Gst Z w_NONE w_VIEW w_EDIT wCS) (a1 : Addr) (h0 : Heap) (n0 : Nat) (O0 : Old Z n0 h0) (a_0 : Exa Z h0 a1 "caseward/policy/Access") (a_1 : Fld Z h0 a1 "caseward/policy/Access" "level" "Lcaseward/policy/Access$Level;" .null) (a_2 : Fld Z h0 a1 "caseward/policy/Access" "pii" "Z" (.int (0 : Int32))) (a_3 : Fld Z h0 a1 "caseward/policy/Access" "unblinded" "Z" (.int (0 : Int32))) (ga1 : n0 ≤ a1) :
    MetFree l (⟨"caseward/policy/Access", "<init>", "(Lcaseward/policy/Access$Level;ZZ)V"⟩ : MethodName) (head1 (Jvm.Cond.code (⟨"caseward/policy/Access", "<init>", "(Lcaseward/policy/Access$Level;ZZ)V"⟩ : MethodName) prog_34_method_1_code 4 none :: ws) ({ frames := 2, cells := 0, slots := 0, locals := 24 } : Room)) (fun a U => a = #[(.ref a1), (.ref w_EDIT), (.int (1 : Int32)), (.int (1 : Int32))] ∧ Z.Warmed39 U.vm ∧ U.heap = h0) (fun _ _ _ _ _ => True) (fun _ U o U' => ∃ v L, o = .returned v ∧ Q_init_EDIT11 Z w_NONE w_VIEW w_EDIT wCS a1 h0 n0 v U'.heap L ∧ FrameEnd U o U' L ({ frames := 2, cells := 0, slots := 0, locals := 24 } : Room).cells ({ frames := 2, cells := 0, slots := 0, locals := 24 } : Room).slots) := by
  refine MetFree.of_bodySF (plainFor_of_name pn_2) hisR ?_
  intro p e s m args below meth c s₁ Bd hml0 hP hK
  obtain ⟨rfl, hZ, hh⟩ := hP
  have hx := Bd.exec
  have hby := Bd.bytes
  have hml : c.maxLocals = 4 := hml0
  have hown : s.vm.findClass "caseward/policy/Access" = some m.cls := findClass_of_methodNamed Bd.named
  have hnm := (name_of_methodNamed Bd.named Bd.method).1
  have X0 : Stand p l e ({ frames := 2, cells := 0, slots := 0, locals := 24 } : Room) s m #[(.ref a1), (.ref w_EDIT), (.int (1 : Int32)), (.int (1 : Int32))] below meth c s₁ [] 0 0 := Stand.of_body Bd
  have e0 : s₁.heap = h0 := by rw [← hh, Bd.state]; rfl
  have N0 := Fr.nil n0
  obtain ⟨S_w_NONE, E_w_NONE, F_w_NONE_ordinal, S_w_VIEW, E_w_VIEW, F_w_VIEW_ordinal, S_w_EDIT, E_w_EDIT, F_w_EDIT_ordinal, S_CS, hCS⟩ := id G
  have k0 : Way p e below (s₁.setTop (entryFrame m #[(.ref a1), (.ref w_EDIT), (.int (1 : Int32)), (.int (1 : Int32))] 4)) s₁ (mkF m 0 #[rv a1, rv w_EDIT, iv (1 : Int32), iv (1 : Int32)] []) := fun t k => castTop (by first | (simp [entryFrame, mkF, argsToLocals, Value.category]; done) | rfl) k
  generalize s₁.setTop (entryFrame m #[(.ref a1), (.ref w_EDIT), (.int (1 : Int32)), (.int (1 : Int32))] 4) = S0 at k0 ⊢
  have k1 : Way p e below S0 s₁ (mkF m 1 #[rv a1, rv w_EDIT, iv (1 : Int32), iv (1 : Int32)] [(.ref a1)]) := by
    intro t k
    refine k0 t ?_
    refine XS.aloadN X0.here hx rfl (hb hby d_prog_34_method_1_code_0) rfl rfl ?_
    show Steps p.tables e below (s₁.setTop (mkF m 1 #[rv a1, rv w_EDIT, iv (1 : Int32), iv (1 : Int32)] [(.ref a1)])) _
    exact k
  obtain ⟨_, _, ⟨T2, L2, kk2, nn2⟩, -, X2, ⟨Lc2, hQ2, l2, y2, z2⟩, st2⟩ := X0.specialBack hx (y := (⟨"java/lang/Record", "<init>", "()V"⟩ : MethodName)) rfl hown (mvT hZ (hw _ (List.mem_of_getElem? (i := 14) rfl))) (mvT hZ (hw _ (List.mem_of_getElem? (i := 15) rfl))) (mvT hZ (hw _ (List.mem_of_getElem? (i := 18) rfl))) (by decide) (backOf (W := 0) (recInit l Z a0 hw [] w_NONE w_VIEW w_EDIT wCS G a1 h0 n0 O0 ) hZ (hw _ (List.mem_of_getElem? (i := 18) rfl)) (hw _ (List.mem_of_getElem? (i := 17) rfl)) (by decide) (by decide)) (g := (mkF m 1 #[rv a1, rv w_EDIT, iv (1 : Int32), iv (1 : Int32)] [(.ref a1)])) rfl (by rw [hml]; rfl) (Steps.refl _) (a := a1) (argsL := []) (rest := []) (lenOf pd_0 rfl) rfl (by show 2 * 0 + _ ≤ _; exact Nat.le_of_eq rfl) (hb hby d_prog_34_method_1_code_1) (fun _ _ => ⟨rfl, e0, (by decide : 0 + 0 ≤ _), (by decide : 0 + 0 ≤ _)⟩)
  dsimp only [Pt.U, Pt.locs, Pt.cells, Pt.slots] at X2 l2 y2 z2 st2 hQ2
  subst l2 y2 z2
  obtain ⟨rfl, Nq2, e2⟩ := hQ2
  have N2 := Fr.app N0 Nq2
  have k3 : Way p e below S0 T2 (mkF m 4 #[rv a1, rv w_EDIT, iv (1 : Int32), iv (1 : Int32)] []) := fun t k => k1 t (st2.trans k)
  have k4 : Way p e below S0 T2 (mkF m 5 #[rv a1, rv w_EDIT, iv (1 : Int32), iv (1 : Int32)] [(.ref w_EDIT)]) := by
    intro t k
    refine k3 t ?_
    refine XS.aloadN X2.here hx rfl (hb hby d_prog_34_method_1_code_4) rfl rfl ?_
    show Steps p.tables e below (T2.setTop (mkF m 5 #[rv a1, rv w_EDIT, iv (1 : Int32), iv (1 : Int32)] [(.ref w_EDIT)])) _
    exact k
  obtain ⟨T5, X5, e5, st5⟩ := getS2 X2 hx hZ hown (host := "") (Or.inl (hw _ (List.mem_of_getElem? (i := 22) rfl))) Via.refl e2 (S_w_NONE.ext O0.2) (g := (mkF m 5 #[rv a1, rv w_EDIT, iv (1 : Int32), iv (1 : Int32)] [(.ref w_EDIT)])) rfl (hb hby d_prog_34_method_1_code_5)
  have k6 : Way p e below S0 T5 (mkF m 8 #[rv a1, rv w_EDIT, iv (1 : Int32), iv (1 : Int32)] [(.ref w_NONE), (.ref w_EDIT)]) := fun t k => k4 t (st5 _ k)
  have k7 : Way p e below S0 T5 (mkF m 31 #[rv a1, rv w_EDIT, iv (1 : Int32), iv (1 : Int32)] [(.ref w_EDIT), (.ref a1)]) := by
    intro t k
    refine k6 t ?_
    refine Jvm.RoadKit.acmp (g := (mkF m 8 #[rv a1, rv w_EDIT, iv (1 : Int32), iv (1 : Int32)] [(.ref w_NONE), (.ref w_EDIT)])) X5 hx rfl rfl rfl (pc0 := 8) (pc' := 29) (same := false) rfl (hb hby d_prog_34_method_1_code_8) rfl (decide_eq_false fun q => absurd (Value.ref.inj q) (F_w_EDIT_ordinal.ne F_w_NONE_ordinal (by decide))) (by decide) (by decide) ?_
    show Steps p.tables e below (T5.setTop (mkF m 29 #[rv a1, rv w_EDIT, iv (1 : Int32), iv (1 : Int32)] [])) _
    refine XS.aloadN X5.here hx rfl (hb hby d_prog_34_method_1_code_29) rfl rfl ?_
    show Steps p.tables e below (T5.setTop (mkF m 30 #[rv a1, rv w_EDIT, iv (1 : Int32), iv (1 : Int32)] [(.ref a1)])) _
    refine XS.aloadN X5.here hx rfl (hb hby d_prog_34_method_1_code_30) rfl rfl ?_
    show Steps p.tables e below (T5.setTop (mkF m 31 #[rv a1, rv w_EDIT, iv (1 : Int32), iv (1 : Int32)] [(.ref w_EDIT), (.ref a1)])) _
    exact k
  obtain ⟨T8, h8, X8, e8, W8, st8⟩ := putF X5 hx hZ hown (host := "") (Or.inl (hw _ (List.mem_of_getElem? (i := 23) rfl))) Via.refl e5 a_1 a_0 (Or.inr ⟨(hw _ (List.mem_of_getElem? (i := 24) rfl)), rfl, hnm⟩) (hw _ (List.mem_of_getElem? (i := 9) rfl)) (ty := (.object "caseward/policy/Access$Level")) (by decide) rfl rfl (g := (mkF m 31 #[rv a1, rv w_EDIT, iv (1 : Int32), iv (1 : Int32)] [(.ref w_EDIT), (.ref a1)])) rfl rfl (hb hby d_prog_34_method_1_code_31)
  have O8 := O0.wr W8 ga1
  have N8 := Fr.snoc X8 N2 ga1
  have K8 : Keep h0 h8 [a1] := (Keep.refl h0 [a1]).wr W8 (Or.inl (List.mem_of_getElem? (i := 0) rfl))
  have fw8 : Fld Z h8 a1 "caseward/policy/Access" "level" "Lcaseward/policy/Access$Level;" (.ref w_EDIT) := a_1.same W8
  have k9 : Way p e below S0 T8 (mkF m 34 #[rv a1, rv w_EDIT, iv (1 : Int32), iv (1 : Int32)] []) := fun t k => k7 t (st8 _ k)
  have k10 : Way p e below S0 T8 (mkF m 36 #[rv a1, rv w_EDIT, iv (1 : Int32), iv (1 : Int32)] [(.int (1 : Int32)), (.ref a1)]) := by
    intro t k
    refine k9 t ?_
    refine XS.aloadN X8.here hx rfl (hb hby d_prog_34_method_1_code_34) rfl rfl ?_
    show Steps p.tables e below (T8.setTop (mkF m 35 #[rv a1, rv w_EDIT, iv (1 : Int32), iv (1 : Int32)] [(.ref a1)])) _
    refine XS.iloadN X8.here hx rfl (hb hby d_prog_34_method_1_code_35) rfl ?_
    show Steps p.tables e below (T8.setTop (mkF m 36 #[rv a1, rv w_EDIT, iv (1 : Int32), iv (1 : Int32)] [(.int (1 : Int32)), (.ref a1)])) _
    exact k
  have f11 : Fld Z h8 a1 "caseward/policy/Access" "pii" "Z" (.int (0 : Int32)) := (a_2.other W8 (Or.inr (slot_ne (Or.inr (hw _ (List.mem_of_getElem? (i := 26) rfl))) (Or.inr (hw _ (List.mem_of_getElem? (i := 24) rfl))) (by decide) (t := .boolean) (t' := (.object "caseward/policy/Access$Level")) (by decide) (by decide))))
  have f12 : Exa Z h8 a1 "caseward/policy/Access" := (a_0.wr W8)
  obtain ⟨T13, h13, X13, e13, W13, st13⟩ := putFN X8 hx hZ hown (hw _ (List.mem_of_getElem? (i := 25) rfl)) Via.refl e8 f11 f12 (Or.inr ⟨(hw _ (List.mem_of_getElem? (i := 26) rfl)), rfl, hnm⟩) (hw _ (List.mem_of_getElem? (i := 9) rfl)) (ty := .boolean) (v' := (.int (1 : Int32))) (by decide) rfl rfl (g := (mkF m 36 #[rv a1, rv w_EDIT, iv (1 : Int32), iv (1 : Int32)] [(.int (1 : Int32)), (.ref a1)])) rfl rfl (hb hby d_prog_34_method_1_code_36)
  have O13 := O8.wr W13 ga1
  have N13 := Fr.snoc X13 N8 ga1
  have K13 : Keep h0 h13 [a1] := K8.wr W13 (Or.inl (List.mem_of_getElem? (i := 0) rfl))
  have fw13 : Fld Z h13 a1 "caseward/policy/Access" "pii" "Z" (.int (1 : Int32)) := f11.same W13
  have k14 : Way p e below S0 T13 (mkF m 39 #[rv a1, rv w_EDIT, iv (1 : Int32), iv (1 : Int32)] []) := fun t k => k10 t (st13 _ k)
  have k15 : Way p e below S0 T13 (mkF m 41 #[rv a1, rv w_EDIT, iv (1 : Int32), iv (1 : Int32)] [(.int (1 : Int32)), (.ref a1)]) := by
    intro t k
    refine k14 t ?_
    refine XS.aloadN X13.here hx rfl (hb hby d_prog_34_method_1_code_39) rfl rfl ?_
    show Steps p.tables e below (T13.setTop (mkF m 40 #[rv a1, rv w_EDIT, iv (1 : Int32), iv (1 : Int32)] [(.ref a1)])) _
    refine XS.iloadN X13.here hx rfl (hb hby d_prog_34_method_1_code_40) rfl ?_
    show Steps p.tables e below (T13.setTop (mkF m 41 #[rv a1, rv w_EDIT, iv (1 : Int32), iv (1 : Int32)] [(.int (1 : Int32)), (.ref a1)])) _
    exact k
  have f16 : Fld Z h13 a1 "caseward/policy/Access" "unblinded" "Z" (.int (0 : Int32)) := ((a_3.other W8 (Or.inr (slot_ne (Or.inr (hw _ (List.mem_of_getElem? (i := 28) rfl))) (Or.inr (hw _ (List.mem_of_getElem? (i := 24) rfl))) (by decide) (t := .boolean) (t' := (.object "caseward/policy/Access$Level")) (by decide) (by decide)))).other W13 (Or.inr (slot_ne (Or.inr (hw _ (List.mem_of_getElem? (i := 28) rfl))) (Or.inr (hw _ (List.mem_of_getElem? (i := 26) rfl))) (by decide) (t := .boolean) (t' := .boolean) (by decide) (by decide))))
  have f17 : Exa Z h13 a1 "caseward/policy/Access" := (f12.wr W13)
  obtain ⟨T18, h18, X18, e18, W18, st18⟩ := putFN X13 hx hZ hown (hw _ (List.mem_of_getElem? (i := 27) rfl)) Via.refl e13 f16 f17 (Or.inr ⟨(hw _ (List.mem_of_getElem? (i := 28) rfl)), rfl, hnm⟩) (hw _ (List.mem_of_getElem? (i := 9) rfl)) (ty := .boolean) (v' := (.int (1 : Int32))) (by decide) rfl rfl (g := (mkF m 41 #[rv a1, rv w_EDIT, iv (1 : Int32), iv (1 : Int32)] [(.int (1 : Int32)), (.ref a1)])) rfl rfl (hb hby d_prog_34_method_1_code_41)
  have O18 := O13.wr W18 ga1
  have N18 := Fr.snoc X18 N13 ga1
  have K18 : Keep h0 h18 [a1] := K13.wr W18 (Or.inl (List.mem_of_getElem? (i := 0) rfl))
  have fw18 : Fld Z h18 a1 "caseward/policy/Access" "unblinded" "Z" (.int (1 : Int32)) := f16.same W18
  have k19 : Way p e below S0 T18 (mkF m 44 #[rv a1, rv w_EDIT, iv (1 : Int32), iv (1 : Int32)] []) := fun t k => k15 t (st18 _ k)
  obtain ⟨fs, hr, hrun, hended, hW, hsame⟩ := X18.leave (v := none) (fun _ => rfl)
  have f20 : Exa Z h18 a1 "caseward/policy/Access" := (f17.wr W18)
  have f21 : Fld Z h18 a1 "caseward/policy/Access" "pii" "Z" (.int (1 : Int32)) := (fw13.other W18 (Or.inr (slot_ne (Or.inr (hw _ (List.mem_of_getElem? (i := 26) rfl))) (Or.inr (hw _ (List.mem_of_getElem? (i := 28) rfl))) (by decide) (t := .boolean) (t' := .boolean) (by decide) (by decide))))
  refine ⟨_, _, k19 _ (X18.returnOut hx Bd.returns (hb hby d_prog_34_method_1_code_44) hr), hrun, hended, _, _, rfl, ?_, ⟨_, rfl⟩, hW, hsame.mono (by decide) (by decide)⟩
  show Q_init_EDIT11 Z w_NONE w_VIEW w_EDIT wCS a1 h0 n0 _ T18.heap _
  rw [e18]
  exact ⟨rfl, N18, K18, f20, f21⟩
def Q_piiWord0 (Z : State) (w_NONE : Addr) (w_VIEW : Addr) (w_EDIT : Addr) (wCS : Int32) (a1 : Addr) (h0 : Heap) (n0 : Nat) (v : Option Value) (h : Heap) (L : List Loc) : Prop := ∃ a2 : Addr, ∃ a3 : Addr, ∃ kk1 : ClassId, (v = some (.ref a2)) ∧ (Fr n0 L) ∧ (Keep h0 h []) ∧ (Exa Z h a2 "java/lang/String") ∧ (Fld Z h a2 "java/lang/String" "coder" "B" (.int (0 : Int32))) ∧ (Fld Z h a2 "java/lang/String" "value" "[B" (.ref a3)) ∧ (Arv Z h a3 kk1 .byte (6 : Int32) [(.int (109 : Int32)), (.int (97 : Int32)), (.int (115 : Int32)), (.int (107 : Int32)), (.int (101 : Int32)), (.int (100 : Int32))] (.int (0 : Int32)))
set_option maxRecDepth 65536 in
set_option maxHeartbeats 40000000 in
theorem piiWord0 (l : Launch) (Z : State) (a0 : Array Value) (hw : ∀ d ∈ tables_1, d.before a0 Z = true) (ws : List Jvm.Cond) (w_NONE : Addr) (w_VIEW : Addr) (w_EDIT : Addr) (wCS : Int32) (G : Gst Z w_NONE w_VIEW w_EDIT wCS) (a1 : Addr) (h0 : Heap) (n0 : Nat) (O0 : Old Z n0 h0) (a_0 : Fld Z h0 a1 "caseward/policy/Access" "pii" "Z" (.int (0 : Int32))) :
    MetFree l (⟨"caseward/policy/Access", "piiWord", "()Ljava/lang/String;"⟩ : MethodName) (head1 (Jvm.Cond.code (⟨"caseward/policy/Access", "piiWord", "()Ljava/lang/String;"⟩ : MethodName) prog_34_method_8_code 1 (some (.object "java/lang/String")) :: ws) ({ frames := 0, cells := 2, slots := 28, locals := 0 } : Room)) (fun a U => a = #[(.ref a1)] ∧ Z.Warmed39 U.vm ∧ U.heap = h0 ∧ CHv Z own_EL U.vm h0) (fun _ _ _ _ _ => True) (fun _ U o U' => ∃ v L, o = .returned v ∧ Q_piiWord0 Z w_NONE w_VIEW w_EDIT wCS a1 h0 n0 v U'.heap L ∧ CHr Z own_EL U.vm U.heap U'.vm U'.heap ∧ ReturnedEndW U o U' L ({ frames := 0, cells := 2, slots := 28, locals := 0 } : Room).cells ({ frames := 0, cells := 2, slots := 28, locals := 0 } : Room).slots) := by
  refine MetFree.of_bodySF (plainFor_of_name pn_2) hisR ?_
  intro p e s m args below meth c s₁ Bd hml0 hP hK
  obtain ⟨rfl, hZ, hh, H0⟩ := hP
  have hx := Bd.exec
  have hby := Bd.bytes
  have hml : c.maxLocals = 1 := hml0
  have hown : s.vm.findClass "caseward/policy/Access" = some m.cls := findClass_of_methodNamed Bd.named
  have hnm := (name_of_methodNamed Bd.named Bd.method).1
  have X0 : Stand p l e ({ frames := 0, cells := 2, slots := 28, locals := 0 } : Room) s m #[(.ref a1)] below meth c s₁ [] 0 0 := Stand.of_body Bd
  have e0 : s₁.heap = h0 := by rw [← hh, Bd.state]; rfl
  have N0 := Fr.nil n0
  have R0 : CHr Z own_EL s.vm h0 s.vm h0 := CHr.refl H0
  have X0 : Stand p l e ({ frames := 0, cells := 2, slots := 28, locals := 0 } : Room) (s.setVm s.vm) m #[(.ref a1)] below meth c s₁ [] 0 0 := X0
  have hS0 : s.Since s.vm 0 := (State.WarmedH.refl s).since 0
  obtain ⟨S_w_NONE, E_w_NONE, F_w_NONE_ordinal, S_w_VIEW, E_w_VIEW, F_w_VIEW_ordinal, S_w_EDIT, E_w_EDIT, F_w_EDIT_ordinal, S_CS, hCS⟩ := id G
  have k0 : Way p e below (s₁.setTop (entryFrame m #[(.ref a1)] 1)) s₁ (mkF m 0 #[rv a1] []) := fun t k => castTop (by first | (simp [entryFrame, mkF, argsToLocals, Value.category]; done) | rfl) k
  generalize s₁.setTop (entryFrame m #[(.ref a1)] 1) = S0 at k0 ⊢
  have k1 : Way p e below S0 s₁ (mkF m 1 #[rv a1] [(.ref a1)]) := by
    intro t k
    refine k0 t ?_
    refine XS.aloadN X0.here hx rfl (hb hby d_prog_34_method_8_code_0) rfl rfl ?_
    show Steps p.tables e below (s₁.setTop (mkF m 1 #[rv a1] [(.ref a1)])) _
    exact k
  obtain ⟨T2, X2, e2, st2⟩ := getF X0 hx hZ hown (host := "") (Or.inl (hw _ (List.mem_of_getElem? (i := 25) rfl))) Via.refl e0 a_0 (g := (mkF m 1 #[rv a1] [(.ref a1)])) rfl rfl (hb hby d_prog_34_method_8_code_1)
  have k3 : Way p e below S0 T2 (mkF m 4 #[rv a1] [(.int (0 : Int32))]) := fun t k => k1 t (st2 _ k)
  have k4 : Way p e below S0 T2 (mkF m 12 #[rv a1] []) := by
    intro t k
    refine k3 t ?_
    refine XS.ifYes X2.here hx rfl (pc0 := 4) (pc' := 12) rfl (hb hby d_prog_34_method_8_code_4) rfl ((if0 _ _).trans (teq ((by decide) : (0 : Int32) = (0 : Int32))).1) (by decide) (by decide) ?_
    show Steps p.tables e below (T2.setTop (mkF m 12 #[rv a1] [])) _
    exact k
  obtain ⟨la5, T5, h5, ks5, lb5, lk5, X5, e5, E5, hS5, hk5, hZ5, ho5, Fe5, Fc5, Fv5, Va5, -, -, Rr5, Li5, Sa5, st5⟩ := ldcCH (s := s) (vm0 := s.vm) (EL := own_EL) X2 hx hZ hown (hw _ (List.mem_of_getElem? (i := 34) rfl)) (own_strW hw) e2 hS0 (Nat.zero_le _) (own_EW hw) (by decide) R0.1 (vs := [(.int (109 : Int32)), (.int (97 : Int32)), (.int (115 : Int32)), (.int (107 : Int32)), (.int (101 : Int32)), (.int (100 : Int32))]) (z := (6 : Int32)) ⟨by decide, by decide⟩ (by decide) (by decide) (g := (mkF m 12 #[rv a1] [])) rfl (hb hby d_prog_34_method_8_code_12) (n := 24) (by decide) (by decide) (by decide) (by decide)
  have hZ := hZ5
  have hown := ho5
  have R5 : CHr Z own_EL s.vm h0 T5.vm h5 := R0.trans Rr5
  have O5 := O0.ext E5
  have K5 : Keep h0 h5 [] := (Keep.refl h0 []).ext E5
  have k6 : Way p e below S0 T5 (mkF m 14 #[rv a1] [(.ref la5)]) := fun t k => k4 t (st5 _ k)
  obtain ⟨fs, hr, hrun, hended, hRW⟩ := Stand.leaveW (s := s) (vm₁ := T5.vm) X5 hS5 (by rw [e5]; exact (Nat.le_trans hk5 (Nat.le_refl _))) (v := some (.ref la5)) (fun h => by rw [Bd.returns] at h; cases h)
  have RF : CHr Z own_EL s.vm h0 T5.vm h5 := R5.trans (CHv.at (s := s) (vm0 := T5.vm) X5 hZ (own_EW hw) R5.1)
  refine ⟨_, _, k6 _ (retOut X5 hx Bd.returns rfl (Or.inr (Or.inr (Or.inr (Or.inr ⟨rfl, rfl, rfl⟩)))) (hb hby d_prog_34_method_8_code_14) hr), hrun, hended, _, _, rfl, ?_, (by show CHr Z own_EL s.vm s.heap T5.vm T5.heap; rw [hh, e5]; exact RF), own_rw hRW (by decide) (by decide)⟩
  show Q_piiWord0 Z w_NONE w_VIEW w_EDIT wCS a1 h0 n0 _ T5.heap _
  rw [e5]
  exact ⟨la5, lb5, lk5, rfl, N0, K5, Fe5, Fc5, Fv5, Va5⟩
def Q_piiWord1 (Z : State) (w_NONE : Addr) (w_VIEW : Addr) (w_EDIT : Addr) (wCS : Int32) (a1 : Addr) (h0 : Heap) (n0 : Nat) (v : Option Value) (h : Heap) (L : List Loc) : Prop := ∃ a2 : Addr, ∃ a3 : Addr, ∃ kk1 : ClassId, (v = some (.ref a2)) ∧ (Fr n0 L) ∧ (Keep h0 h []) ∧ (Exa Z h a2 "java/lang/String") ∧ (Fld Z h a2 "java/lang/String" "coder" "B" (.int (0 : Int32))) ∧ (Fld Z h a2 "java/lang/String" "value" "[B" (.ref a3)) ∧ (Arv Z h a3 kk1 .byte (8 : Int32) [(.int (117 : Int32)), (.int (110 : Int32)), (.int (109 : Int32)), (.int (97 : Int32)), (.int (115 : Int32)), (.int (107 : Int32)), (.int (101 : Int32)), (.int (100 : Int32))] (.int (0 : Int32)))
set_option maxRecDepth 65536 in
set_option maxHeartbeats 40000000 in
theorem piiWord1 (l : Launch) (Z : State) (a0 : Array Value) (hw : ∀ d ∈ tables_1, d.before a0 Z = true) (ws : List Jvm.Cond) (w_NONE : Addr) (w_VIEW : Addr) (w_EDIT : Addr) (wCS : Int32) (G : Gst Z w_NONE w_VIEW w_EDIT wCS) (a1 : Addr) (h0 : Heap) (n0 : Nat) (O0 : Old Z n0 h0) (a_0 : Fld Z h0 a1 "caseward/policy/Access" "pii" "Z" (.int (1 : Int32))) :
    MetFree l (⟨"caseward/policy/Access", "piiWord", "()Ljava/lang/String;"⟩ : MethodName) (head1 (Jvm.Cond.code (⟨"caseward/policy/Access", "piiWord", "()Ljava/lang/String;"⟩ : MethodName) prog_34_method_8_code 1 (some (.object "java/lang/String")) :: ws) ({ frames := 0, cells := 2, slots := 36, locals := 0 } : Room)) (fun a U => a = #[(.ref a1)] ∧ Z.Warmed39 U.vm ∧ U.heap = h0 ∧ CHv Z own_EL U.vm h0) (fun _ _ _ _ _ => True) (fun _ U o U' => ∃ v L, o = .returned v ∧ Q_piiWord1 Z w_NONE w_VIEW w_EDIT wCS a1 h0 n0 v U'.heap L ∧ CHr Z own_EL U.vm U.heap U'.vm U'.heap ∧ ReturnedEndW U o U' L ({ frames := 0, cells := 2, slots := 36, locals := 0 } : Room).cells ({ frames := 0, cells := 2, slots := 36, locals := 0 } : Room).slots) := by
  refine MetFree.of_bodySF (plainFor_of_name pn_2) hisR ?_
  intro p e s m args below meth c s₁ Bd hml0 hP hK
  obtain ⟨rfl, hZ, hh, H0⟩ := hP
  have hx := Bd.exec
  have hby := Bd.bytes
  have hml : c.maxLocals = 1 := hml0
  have hown : s.vm.findClass "caseward/policy/Access" = some m.cls := findClass_of_methodNamed Bd.named
  have hnm := (name_of_methodNamed Bd.named Bd.method).1
  have X0 : Stand p l e ({ frames := 0, cells := 2, slots := 36, locals := 0 } : Room) s m #[(.ref a1)] below meth c s₁ [] 0 0 := Stand.of_body Bd
  have e0 : s₁.heap = h0 := by rw [← hh, Bd.state]; rfl
  have N0 := Fr.nil n0
  have R0 : CHr Z own_EL s.vm h0 s.vm h0 := CHr.refl H0
  have X0 : Stand p l e ({ frames := 0, cells := 2, slots := 36, locals := 0 } : Room) (s.setVm s.vm) m #[(.ref a1)] below meth c s₁ [] 0 0 := X0
  have hS0 : s.Since s.vm 0 := (State.WarmedH.refl s).since 0
  obtain ⟨S_w_NONE, E_w_NONE, F_w_NONE_ordinal, S_w_VIEW, E_w_VIEW, F_w_VIEW_ordinal, S_w_EDIT, E_w_EDIT, F_w_EDIT_ordinal, S_CS, hCS⟩ := id G
  have k0 : Way p e below (s₁.setTop (entryFrame m #[(.ref a1)] 1)) s₁ (mkF m 0 #[rv a1] []) := fun t k => castTop (by first | (simp [entryFrame, mkF, argsToLocals, Value.category]; done) | rfl) k
  generalize s₁.setTop (entryFrame m #[(.ref a1)] 1) = S0 at k0 ⊢
  have k1 : Way p e below S0 s₁ (mkF m 1 #[rv a1] [(.ref a1)]) := by
    intro t k
    refine k0 t ?_
    refine XS.aloadN X0.here hx rfl (hb hby d_prog_34_method_8_code_0) rfl rfl ?_
    show Steps p.tables e below (s₁.setTop (mkF m 1 #[rv a1] [(.ref a1)])) _
    exact k
  obtain ⟨T2, X2, e2, st2⟩ := getF X0 hx hZ hown (host := "") (Or.inl (hw _ (List.mem_of_getElem? (i := 25) rfl))) Via.refl e0 a_0 (g := (mkF m 1 #[rv a1] [(.ref a1)])) rfl rfl (hb hby d_prog_34_method_8_code_1)
  have k3 : Way p e below S0 T2 (mkF m 4 #[rv a1] [(.int (1 : Int32))]) := fun t k => k1 t (st2 _ k)
  have k4 : Way p e below S0 T2 (mkF m 7 #[rv a1] []) := by
    intro t k
    refine k3 t ?_
    refine XS.ifNo X2.here hx rfl (hb hby d_prog_34_method_8_code_4) rfl ((if0 _ _).trans (feq ((by decide) : ¬ ((1 : Int32) = (0 : Int32)))).1) ?_
    show Steps p.tables e below (T2.setTop (mkF m 7 #[rv a1] [])) _
    exact k
  obtain ⟨la5, T5, h5, ks5, lb5, lk5, X5, e5, E5, hS5, hk5, hZ5, ho5, Fe5, Fc5, Fv5, Va5, -, -, Rr5, Li5, Sa5, st5⟩ := ldcCH (s := s) (vm0 := s.vm) (EL := own_EL) X2 hx hZ hown (hw _ (List.mem_of_getElem? (i := 60) rfl)) (own_strW hw) e2 hS0 (Nat.zero_le _) (own_EW hw) (by decide) R0.1 (vs := [(.int (117 : Int32)), (.int (110 : Int32)), (.int (109 : Int32)), (.int (97 : Int32)), (.int (115 : Int32)), (.int (107 : Int32)), (.int (101 : Int32)), (.int (100 : Int32))]) (z := (8 : Int32)) ⟨by decide, by decide⟩ (by decide) (by decide) (g := (mkF m 7 #[rv a1] [])) rfl (hb hby d_prog_34_method_8_code_7) (n := 32) (by decide) (by decide) (by decide) (by decide)
  have hZ := hZ5
  have hown := ho5
  have R5 : CHr Z own_EL s.vm h0 T5.vm h5 := R0.trans Rr5
  have O5 := O0.ext E5
  have K5 : Keep h0 h5 [] := (Keep.refl h0 []).ext E5
  have k6 : Way p e below S0 T5 (mkF m 9 #[rv a1] [(.ref la5)]) := fun t k => k4 t (st5 _ k)
  have k7 : Way p e below S0 T5 (mkF m 14 #[rv a1] [(.ref la5)]) := by
    intro t k
    refine k6 t ?_
    refine XS.goto X5.here hx rfl (pc0 := 9) (pc' := 14) rfl (hb hby d_prog_34_method_8_code_9) (by decide) (by decide) ?_
    show Steps p.tables e below (T5.setTop (mkF m 14 #[rv a1] [(.ref la5)])) _
    exact k
  obtain ⟨fs, hr, hrun, hended, hRW⟩ := Stand.leaveW (s := s) (vm₁ := T5.vm) X5 hS5 (by rw [e5]; exact (Nat.le_trans hk5 (Nat.le_refl _))) (v := some (.ref la5)) (fun h => by rw [Bd.returns] at h; cases h)
  have RF : CHr Z own_EL s.vm h0 T5.vm h5 := R5.trans (CHv.at (s := s) (vm0 := T5.vm) X5 hZ (own_EW hw) R5.1)
  refine ⟨_, _, k7 _ (retOut X5 hx Bd.returns rfl (Or.inr (Or.inr (Or.inr (Or.inr ⟨rfl, rfl, rfl⟩)))) (hb hby d_prog_34_method_8_code_14) hr), hrun, hended, _, _, rfl, ?_, (by show CHr Z own_EL s.vm s.heap T5.vm T5.heap; rw [hh, e5]; exact RF), own_rw hRW (by decide) (by decide)⟩
  show Q_piiWord1 Z w_NONE w_VIEW w_EDIT wCS a1 h0 n0 _ T5.heap _
  rw [e5]
  exact ⟨la5, lb5, lk5, rfl, N0, K5, Fe5, Fc5, Fv5, Va5⟩
def Q_leq00 (Z : State) (w_NONE : Addr) (w_VIEW : Addr) (w_EDIT : Addr) (wCS : Int32) (b1 : Addr) (b2 : Addr) (kk1 : ClassId) (kk2 : ClassId) (h0 : Heap) (n0 : Nat) (v : Option Value) (h : Heap) (L : List Loc) : Prop := (v = some (.int (1 : Int32))) ∧ (Fr n0 L) ∧ (h = h0)
set_option maxRecDepth 65536 in
set_option maxHeartbeats 40000000 in
theorem leq00 (l : Launch) (Z : State) (a0 : Array Value) (hw : ∀ d ∈ tables_1, d.before a0 Z = true) (ws : List Jvm.Cond) (w_NONE : Addr) (w_VIEW : Addr) (w_EDIT : Addr) (wCS : Int32) (G : Gst Z w_NONE w_VIEW w_EDIT wCS) (b1 : Addr) (b2 : Addr) (kk1 : ClassId) (kk2 : ClassId) (h0 : Heap) (n0 : Nat) (O0 : Old Z n0 h0) (a_0 : Arv Z h0 b1 kk1 .byte (6 : Int32) [(.int (109 : Int32)), (.int (97 : Int32)), (.int (115 : Int32)), (.int (107 : Int32)), (.int (101 : Int32)), (.int (100 : Int32))] (.int (0 : Int32))) (a_1 : Arv Z h0 b2 kk2 .byte (6 : Int32) [(.int (109 : Int32)), (.int (97 : Int32)), (.int (115 : Int32)), (.int (107 : Int32)), (.int (101 : Int32)), (.int (100 : Int32))] (.int (0 : Int32))) :
    MetFree l (⟨"java/lang/StringLatin1", "equals", "([B[B)Z"⟩ : MethodName) (head1 (Jvm.Cond.code (⟨"java/lang/StringLatin1", "equals", "([B[B)Z"⟩ : MethodName) jdk_43_method_13_code 3 (some .boolean) :: ws) ({ frames := 0, cells := 0, slots := 0, locals := 0 } : Room)) (fun a U => a = #[(.ref b1), (.ref b2)] ∧ Z.Warmed39 U.vm ∧ U.heap = h0) (fun _ _ _ _ _ => True) (fun _ U o U' => ∃ v L, o = .returned v ∧ Q_leq00 Z w_NONE w_VIEW w_EDIT wCS b1 b2 kk1 kk2 h0 n0 v U'.heap L ∧ FrameEnd U o U' L ({ frames := 0, cells := 0, slots := 0, locals := 0 } : Room).cells ({ frames := 0, cells := 0, slots := 0, locals := 0 } : Room).slots) := by
  refine MetFree.of_bodySF (plainFor_of_name pn_3) hisR ?_
  intro p e s m args below meth c s₁ Bd hml0 hP hK
  obtain ⟨rfl, hZ, hh⟩ := hP
  have hx := Bd.exec
  have hby := Bd.bytes
  have hml : c.maxLocals = 3 := hml0
  have hown : s.vm.findClass "java/lang/StringLatin1" = some m.cls := findClass_of_methodNamed Bd.named
  have hnm := (name_of_methodNamed Bd.named Bd.method).1
  have X0 : Stand p l e ({ frames := 0, cells := 0, slots := 0, locals := 0 } : Room) s m #[(.ref b1), (.ref b2)] below meth c s₁ [] 0 0 := Stand.of_body Bd
  have e0 : s₁.heap = h0 := by rw [← hh, Bd.state]; rfl
  have N0 := Fr.nil n0
  obtain ⟨S_w_NONE, E_w_NONE, F_w_NONE_ordinal, S_w_VIEW, E_w_VIEW, F_w_VIEW_ordinal, S_w_EDIT, E_w_EDIT, F_w_EDIT_ordinal, S_CS, hCS⟩ := id G
  have k0 : Way p e below (s₁.setTop (entryFrame m #[(.ref b1), (.ref b2)] 3)) s₁ (mkF m 0 #[rv b1, rv b2, .unset] []) := fun t k => castTop (by first | (simp [entryFrame, mkF, argsToLocals, Value.category]; done) | rfl) k
  generalize s₁.setTop (entryFrame m #[(.ref b1), (.ref b2)] 3) = S0 at k0 ⊢
  have k1 : Way p e below S0 s₁ (mkF m 1 #[rv b1, rv b2, .unset] [(.ref b1)]) := by
    intro t k
    refine k0 t ?_
    refine XS.aloadN X0.here hx rfl (hb hby d_jdk_43_method_13_code_0) rfl rfl ?_
    show Steps p.tables e below (s₁.setTop (mkF m 1 #[rv b1, rv b2, .unset] [(.ref b1)])) _
    exact k
  obtain ⟨cl2, Ar2, -, S2, M2, -, -⟩ := id (a_0)
  have k3 : Way p e below S0 s₁ (mkF m 2 #[rv b1, rv b2, .unset] [(.int (6 : Int32))]) := fun t k => k1 t (X0.arraylength hx (by rw [e0]; exact Ar2.1) (State.isArrayOf_alike hZ.alike Ar2.2.1) (g := (mkF m 1 #[rv b1, rv b2, .unset] [(.ref b1)])) rfl rfl (hb hby d_jdk_43_method_13_code_1) _ (by rw [len_of S2 M2]; exact k))
  have k4 : Way p e below S0 s₁ (mkF m 3 #[rv b1, rv b2, .unset] [(.ref b2), (.int (6 : Int32))]) := by
    intro t k
    refine k3 t ?_
    refine XS.aloadN X0.here hx rfl (hb hby d_jdk_43_method_13_code_2) rfl rfl ?_
    show Steps p.tables e below (s₁.setTop (mkF m 3 #[rv b1, rv b2, .unset] [(.ref b2), (.int (6 : Int32))])) _
    exact k
  obtain ⟨cl5, Ar5, -, S5, M5, -, -⟩ := id (a_1)
  have k6 : Way p e below S0 s₁ (mkF m 4 #[rv b1, rv b2, .unset] [(.int (6 : Int32)), (.int (6 : Int32))]) := fun t k => k4 t (X0.arraylength hx (by rw [e0]; exact Ar5.1) (State.isArrayOf_alike hZ.alike Ar5.2.1) (g := (mkF m 3 #[rv b1, rv b2, .unset] [(.ref b2), (.int (6 : Int32))])) rfl rfl (hb hby d_jdk_43_method_13_code_3) _ (by rw [len_of S5 M5]; exact k))
  have k7 : Way p e below S0 s₁ (mkF m 11 #[rv b1, rv b2, iv (0 : Int32)] [(.ref b1), (.int (0 : Int32))]) := by
    intro t k
    refine k6 t ?_
    refine XS.icmpNo X0.here hx rfl (hb hby d_jdk_43_method_13_code_4) rfl (teq ((by decide) : (6 : Int32) = (6 : Int32))).2 ?_
    show Steps p.tables e below (s₁.setTop (mkF m 7 #[rv b1, rv b2, .unset] [])) _
    refine XS.iconst X0.here hx rfl (hb hby d_jdk_43_method_13_code_7) ?_
    show Steps p.tables e below (s₁.setTop (mkF m 8 #[rv b1, rv b2, .unset] [(.int (0 : Int32))])) _
    refine XS.istoreN X0.here hx rfl (hb hby d_jdk_43_method_13_code_8) rfl (l' := #[rv b1, rv b2, iv (0 : Int32)]) rfl ?_
    show Steps p.tables e below (s₁.setTop (mkF m 9 #[rv b1, rv b2, iv (0 : Int32)] [])) _
    refine XS.iloadN X0.here hx rfl (hb hby d_jdk_43_method_13_code_9) rfl ?_
    show Steps p.tables e below (s₁.setTop (mkF m 10 #[rv b1, rv b2, iv (0 : Int32)] [(.int (0 : Int32))])) _
    refine XS.aloadN X0.here hx rfl (hb hby d_jdk_43_method_13_code_10) rfl rfl ?_
    show Steps p.tables e below (s₁.setTop (mkF m 11 #[rv b1, rv b2, iv (0 : Int32)] [(.ref b1), (.int (0 : Int32))])) _
    exact k
  obtain ⟨cl8, Ar8, -, S8, M8, -, -⟩ := id (a_0)
  have k9 : Way p e below S0 s₁ (mkF m 12 #[rv b1, rv b2, iv (0 : Int32)] [(.int (6 : Int32)), (.int (0 : Int32))]) := fun t k => k7 t (X0.arraylength hx (by rw [e0]; exact Ar8.1) (State.isArrayOf_alike hZ.alike Ar8.2.1) (g := (mkF m 11 #[rv b1, rv b2, iv (0 : Int32)] [(.ref b1), (.int (0 : Int32))])) rfl rfl (hb hby d_jdk_43_method_13_code_11) _ (by rw [len_of S8 M8]; exact k))
  have k10 : Way p e below S0 s₁ (mkF m 17 #[rv b1, rv b2, iv (0 : Int32)] [(.int (0 : Int32)), (.ref b1)]) := by
    intro t k
    refine k9 t ?_
    refine XS.icmpNo X0.here hx rfl (hb hby d_jdk_43_method_13_code_12) rfl (tlt ((by decide) : (0 : Int32) < (6 : Int32))).2.1 ?_
    show Steps p.tables e below (s₁.setTop (mkF m 15 #[rv b1, rv b2, iv (0 : Int32)] [])) _
    refine XS.aloadN X0.here hx rfl (hb hby d_jdk_43_method_13_code_15) rfl rfl ?_
    show Steps p.tables e below (s₁.setTop (mkF m 16 #[rv b1, rv b2, iv (0 : Int32)] [(.ref b1)])) _
    refine XS.iloadN X0.here hx rfl (hb hby d_jdk_43_method_13_code_16) rfl ?_
    show Steps p.tables e below (s₁.setTop (mkF m 17 #[rv b1, rv b2, iv (0 : Int32)] [(.int (0 : Int32)), (.ref b1)])) _
    exact k
  obtain ⟨cl11, Ar11, qc11, S11, M11, U11, G11⟩ := id (a_0)
  have hin11 : ¬ ((0 : Int32) < 0 ∨ cl11.slots.size ≤ ((0 : Int32)).toNatClampNeg) := inb_of S11 ⟨by decide, by decide⟩
  have hat11 : cl11.slots[((0 : Int32)).toNatClampNeg]? = some (.int (109 : Int32)) := Has.at U11 hin11 rfl
  have k12 : Way p e below S0 s₁ (mkF m 18 #[rv b1, rv b2, iv (0 : Int32)] [(.int (109 : Int32))]) := fun t k => k10 t (X0.baloadBytes hx (j := (0 : Int32)) (v := (.int (109 : Int32))) (by rw [e0]; exact Ar11.1) (State.isArrayOf_alike hZ.alike Ar11.2.1) Ar11.2.2 hin11 hat11 (g := (mkF m 17 #[rv b1, rv b2, iv (0 : Int32)] [(.int (0 : Int32)), (.ref b1)])) rfl rfl (hb hby d_jdk_43_method_13_code_17) _ k)
  have k13 : Way p e below S0 s₁ (mkF m 20 #[rv b1, rv b2, iv (0 : Int32)] [(.int (0 : Int32)), (.ref b2), (.int (109 : Int32))]) := by
    intro t k
    refine k12 t ?_
    refine XS.aloadN X0.here hx rfl (hb hby d_jdk_43_method_13_code_18) rfl rfl ?_
    show Steps p.tables e below (s₁.setTop (mkF m 19 #[rv b1, rv b2, iv (0 : Int32)] [(.ref b2), (.int (109 : Int32))])) _
    refine XS.iloadN X0.here hx rfl (hb hby d_jdk_43_method_13_code_19) rfl ?_
    show Steps p.tables e below (s₁.setTop (mkF m 20 #[rv b1, rv b2, iv (0 : Int32)] [(.int (0 : Int32)), (.ref b2), (.int (109 : Int32))])) _
    exact k
  obtain ⟨cl14, Ar14, qc14, S14, M14, U14, G14⟩ := id (a_1)
  have hin14 : ¬ ((0 : Int32) < 0 ∨ cl14.slots.size ≤ ((0 : Int32)).toNatClampNeg) := inb_of S14 ⟨by decide, by decide⟩
  have hat14 : cl14.slots[((0 : Int32)).toNatClampNeg]? = some (.int (109 : Int32)) := Has.at U14 hin14 rfl
  have k15 : Way p e below S0 s₁ (mkF m 21 #[rv b1, rv b2, iv (0 : Int32)] [(.int (109 : Int32)), (.int (109 : Int32))]) := fun t k => k13 t (X0.baloadBytes hx (j := (0 : Int32)) (v := (.int (109 : Int32))) (by rw [e0]; exact Ar14.1) (State.isArrayOf_alike hZ.alike Ar14.2.1) Ar14.2.2 hin14 hat14 (g := (mkF m 20 #[rv b1, rv b2, iv (0 : Int32)] [(.int (0 : Int32)), (.ref b2), (.int (109 : Int32))])) rfl rfl (hb hby d_jdk_43_method_13_code_20) _ k)
  have k16 : Way p e below S0 s₁ (mkF m 11 #[rv b1, rv b2, iv (1 : Int32)] [(.ref b1), (.int (1 : Int32))]) := by
    intro t k
    refine k15 t ?_
    refine XS.icmpYes X0.here hx rfl (pc0 := 21) (pc' := 26) rfl (hb hby d_jdk_43_method_13_code_21) rfl (teq ((by decide) : (109 : Int32) = (109 : Int32))).1 (by decide) (by decide) ?_
    show Steps p.tables e below (s₁.setTop (mkF m 26 #[rv b1, rv b2, iv (0 : Int32)] [])) _
    refine XS.iinc X0.here hx rfl (hb hby d_jdk_43_method_13_code_26) rfl (l' := #[rv b1, rv b2, iv (1 : Int32)]) rfl ?_
    show Steps p.tables e below (s₁.setTop (mkF m 29 #[rv b1, rv b2, iv (1 : Int32)] [])) _
    refine XS.goto X0.here hx rfl (pc0 := 29) (pc' := 9) rfl (hb hby d_jdk_43_method_13_code_29) (by decide) (by decide) ?_
    show Steps p.tables e below (s₁.setTop (mkF m 9 #[rv b1, rv b2, iv (1 : Int32)] [])) _
    refine XS.iloadN X0.here hx rfl (hb hby d_jdk_43_method_13_code_9) rfl ?_
    show Steps p.tables e below (s₁.setTop (mkF m 10 #[rv b1, rv b2, iv (1 : Int32)] [(.int (1 : Int32))])) _
    refine XS.aloadN X0.here hx rfl (hb hby d_jdk_43_method_13_code_10) rfl rfl ?_
    show Steps p.tables e below (s₁.setTop (mkF m 11 #[rv b1, rv b2, iv (1 : Int32)] [(.ref b1), (.int (1 : Int32))])) _
    exact k
  obtain ⟨cl17, Ar17, -, S17, M17, -, -⟩ := id (a_0)
  have k18 : Way p e below S0 s₁ (mkF m 12 #[rv b1, rv b2, iv (1 : Int32)] [(.int (6 : Int32)), (.int (1 : Int32))]) := fun t k => k16 t (X0.arraylength hx (by rw [e0]; exact Ar17.1) (State.isArrayOf_alike hZ.alike Ar17.2.1) (g := (mkF m 11 #[rv b1, rv b2, iv (1 : Int32)] [(.ref b1), (.int (1 : Int32))])) rfl rfl (hb hby d_jdk_43_method_13_code_11) _ (by rw [len_of S17 M17]; exact k))
  have k19 : Way p e below S0 s₁ (mkF m 17 #[rv b1, rv b2, iv (1 : Int32)] [(.int (1 : Int32)), (.ref b1)]) := by
    intro t k
    refine k18 t ?_
    refine XS.icmpNo X0.here hx rfl (hb hby d_jdk_43_method_13_code_12) rfl (tlt ((by decide) : (1 : Int32) < (6 : Int32))).2.1 ?_
    show Steps p.tables e below (s₁.setTop (mkF m 15 #[rv b1, rv b2, iv (1 : Int32)] [])) _
    refine XS.aloadN X0.here hx rfl (hb hby d_jdk_43_method_13_code_15) rfl rfl ?_
    show Steps p.tables e below (s₁.setTop (mkF m 16 #[rv b1, rv b2, iv (1 : Int32)] [(.ref b1)])) _
    refine XS.iloadN X0.here hx rfl (hb hby d_jdk_43_method_13_code_16) rfl ?_
    show Steps p.tables e below (s₁.setTop (mkF m 17 #[rv b1, rv b2, iv (1 : Int32)] [(.int (1 : Int32)), (.ref b1)])) _
    exact k
  obtain ⟨cl20, Ar20, qc20, S20, M20, U20, G20⟩ := id (a_0)
  have hin20 : ¬ ((1 : Int32) < 0 ∨ cl20.slots.size ≤ ((1 : Int32)).toNatClampNeg) := inb_of S20 ⟨by decide, by decide⟩
  have hat20 : cl20.slots[((1 : Int32)).toNatClampNeg]? = some (.int (97 : Int32)) := Has.at U20 hin20 rfl
  have k21 : Way p e below S0 s₁ (mkF m 18 #[rv b1, rv b2, iv (1 : Int32)] [(.int (97 : Int32))]) := fun t k => k19 t (X0.baloadBytes hx (j := (1 : Int32)) (v := (.int (97 : Int32))) (by rw [e0]; exact Ar20.1) (State.isArrayOf_alike hZ.alike Ar20.2.1) Ar20.2.2 hin20 hat20 (g := (mkF m 17 #[rv b1, rv b2, iv (1 : Int32)] [(.int (1 : Int32)), (.ref b1)])) rfl rfl (hb hby d_jdk_43_method_13_code_17) _ k)
  have k22 : Way p e below S0 s₁ (mkF m 20 #[rv b1, rv b2, iv (1 : Int32)] [(.int (1 : Int32)), (.ref b2), (.int (97 : Int32))]) := by
    intro t k
    refine k21 t ?_
    refine XS.aloadN X0.here hx rfl (hb hby d_jdk_43_method_13_code_18) rfl rfl ?_
    show Steps p.tables e below (s₁.setTop (mkF m 19 #[rv b1, rv b2, iv (1 : Int32)] [(.ref b2), (.int (97 : Int32))])) _
    refine XS.iloadN X0.here hx rfl (hb hby d_jdk_43_method_13_code_19) rfl ?_
    show Steps p.tables e below (s₁.setTop (mkF m 20 #[rv b1, rv b2, iv (1 : Int32)] [(.int (1 : Int32)), (.ref b2), (.int (97 : Int32))])) _
    exact k
  obtain ⟨cl23, Ar23, qc23, S23, M23, U23, G23⟩ := id (a_1)
  have hin23 : ¬ ((1 : Int32) < 0 ∨ cl23.slots.size ≤ ((1 : Int32)).toNatClampNeg) := inb_of S23 ⟨by decide, by decide⟩
  have hat23 : cl23.slots[((1 : Int32)).toNatClampNeg]? = some (.int (97 : Int32)) := Has.at U23 hin23 rfl
  have k24 : Way p e below S0 s₁ (mkF m 21 #[rv b1, rv b2, iv (1 : Int32)] [(.int (97 : Int32)), (.int (97 : Int32))]) := fun t k => k22 t (X0.baloadBytes hx (j := (1 : Int32)) (v := (.int (97 : Int32))) (by rw [e0]; exact Ar23.1) (State.isArrayOf_alike hZ.alike Ar23.2.1) Ar23.2.2 hin23 hat23 (g := (mkF m 20 #[rv b1, rv b2, iv (1 : Int32)] [(.int (1 : Int32)), (.ref b2), (.int (97 : Int32))])) rfl rfl (hb hby d_jdk_43_method_13_code_20) _ k)
  have k25 : Way p e below S0 s₁ (mkF m 11 #[rv b1, rv b2, iv (2 : Int32)] [(.ref b1), (.int (2 : Int32))]) := by
    intro t k
    refine k24 t ?_
    refine XS.icmpYes X0.here hx rfl (pc0 := 21) (pc' := 26) rfl (hb hby d_jdk_43_method_13_code_21) rfl (teq ((by decide) : (97 : Int32) = (97 : Int32))).1 (by decide) (by decide) ?_
    show Steps p.tables e below (s₁.setTop (mkF m 26 #[rv b1, rv b2, iv (1 : Int32)] [])) _
    refine XS.iinc X0.here hx rfl (hb hby d_jdk_43_method_13_code_26) rfl (l' := #[rv b1, rv b2, iv (2 : Int32)]) rfl ?_
    show Steps p.tables e below (s₁.setTop (mkF m 29 #[rv b1, rv b2, iv (2 : Int32)] [])) _
    refine XS.goto X0.here hx rfl (pc0 := 29) (pc' := 9) rfl (hb hby d_jdk_43_method_13_code_29) (by decide) (by decide) ?_
    show Steps p.tables e below (s₁.setTop (mkF m 9 #[rv b1, rv b2, iv (2 : Int32)] [])) _
    refine XS.iloadN X0.here hx rfl (hb hby d_jdk_43_method_13_code_9) rfl ?_
    show Steps p.tables e below (s₁.setTop (mkF m 10 #[rv b1, rv b2, iv (2 : Int32)] [(.int (2 : Int32))])) _
    refine XS.aloadN X0.here hx rfl (hb hby d_jdk_43_method_13_code_10) rfl rfl ?_
    show Steps p.tables e below (s₁.setTop (mkF m 11 #[rv b1, rv b2, iv (2 : Int32)] [(.ref b1), (.int (2 : Int32))])) _
    exact k
  obtain ⟨cl26, Ar26, -, S26, M26, -, -⟩ := id (a_0)
  have k27 : Way p e below S0 s₁ (mkF m 12 #[rv b1, rv b2, iv (2 : Int32)] [(.int (6 : Int32)), (.int (2 : Int32))]) := fun t k => k25 t (X0.arraylength hx (by rw [e0]; exact Ar26.1) (State.isArrayOf_alike hZ.alike Ar26.2.1) (g := (mkF m 11 #[rv b1, rv b2, iv (2 : Int32)] [(.ref b1), (.int (2 : Int32))])) rfl rfl (hb hby d_jdk_43_method_13_code_11) _ (by rw [len_of S26 M26]; exact k))
  have k28 : Way p e below S0 s₁ (mkF m 17 #[rv b1, rv b2, iv (2 : Int32)] [(.int (2 : Int32)), (.ref b1)]) := by
    intro t k
    refine k27 t ?_
    refine XS.icmpNo X0.here hx rfl (hb hby d_jdk_43_method_13_code_12) rfl (tlt ((by decide) : (2 : Int32) < (6 : Int32))).2.1 ?_
    show Steps p.tables e below (s₁.setTop (mkF m 15 #[rv b1, rv b2, iv (2 : Int32)] [])) _
    refine XS.aloadN X0.here hx rfl (hb hby d_jdk_43_method_13_code_15) rfl rfl ?_
    show Steps p.tables e below (s₁.setTop (mkF m 16 #[rv b1, rv b2, iv (2 : Int32)] [(.ref b1)])) _
    refine XS.iloadN X0.here hx rfl (hb hby d_jdk_43_method_13_code_16) rfl ?_
    show Steps p.tables e below (s₁.setTop (mkF m 17 #[rv b1, rv b2, iv (2 : Int32)] [(.int (2 : Int32)), (.ref b1)])) _
    exact k
  obtain ⟨cl29, Ar29, qc29, S29, M29, U29, G29⟩ := id (a_0)
  have hin29 : ¬ ((2 : Int32) < 0 ∨ cl29.slots.size ≤ ((2 : Int32)).toNatClampNeg) := inb_of S29 ⟨by decide, by decide⟩
  have hat29 : cl29.slots[((2 : Int32)).toNatClampNeg]? = some (.int (115 : Int32)) := Has.at U29 hin29 rfl
  have k30 : Way p e below S0 s₁ (mkF m 18 #[rv b1, rv b2, iv (2 : Int32)] [(.int (115 : Int32))]) := fun t k => k28 t (X0.baloadBytes hx (j := (2 : Int32)) (v := (.int (115 : Int32))) (by rw [e0]; exact Ar29.1) (State.isArrayOf_alike hZ.alike Ar29.2.1) Ar29.2.2 hin29 hat29 (g := (mkF m 17 #[rv b1, rv b2, iv (2 : Int32)] [(.int (2 : Int32)), (.ref b1)])) rfl rfl (hb hby d_jdk_43_method_13_code_17) _ k)
  have k31 : Way p e below S0 s₁ (mkF m 20 #[rv b1, rv b2, iv (2 : Int32)] [(.int (2 : Int32)), (.ref b2), (.int (115 : Int32))]) := by
    intro t k
    refine k30 t ?_
    refine XS.aloadN X0.here hx rfl (hb hby d_jdk_43_method_13_code_18) rfl rfl ?_
    show Steps p.tables e below (s₁.setTop (mkF m 19 #[rv b1, rv b2, iv (2 : Int32)] [(.ref b2), (.int (115 : Int32))])) _
    refine XS.iloadN X0.here hx rfl (hb hby d_jdk_43_method_13_code_19) rfl ?_
    show Steps p.tables e below (s₁.setTop (mkF m 20 #[rv b1, rv b2, iv (2 : Int32)] [(.int (2 : Int32)), (.ref b2), (.int (115 : Int32))])) _
    exact k
  obtain ⟨cl32, Ar32, qc32, S32, M32, U32, G32⟩ := id (a_1)
  have hin32 : ¬ ((2 : Int32) < 0 ∨ cl32.slots.size ≤ ((2 : Int32)).toNatClampNeg) := inb_of S32 ⟨by decide, by decide⟩
  have hat32 : cl32.slots[((2 : Int32)).toNatClampNeg]? = some (.int (115 : Int32)) := Has.at U32 hin32 rfl
  have k33 : Way p e below S0 s₁ (mkF m 21 #[rv b1, rv b2, iv (2 : Int32)] [(.int (115 : Int32)), (.int (115 : Int32))]) := fun t k => k31 t (X0.baloadBytes hx (j := (2 : Int32)) (v := (.int (115 : Int32))) (by rw [e0]; exact Ar32.1) (State.isArrayOf_alike hZ.alike Ar32.2.1) Ar32.2.2 hin32 hat32 (g := (mkF m 20 #[rv b1, rv b2, iv (2 : Int32)] [(.int (2 : Int32)), (.ref b2), (.int (115 : Int32))])) rfl rfl (hb hby d_jdk_43_method_13_code_20) _ k)
  have k34 : Way p e below S0 s₁ (mkF m 11 #[rv b1, rv b2, iv (3 : Int32)] [(.ref b1), (.int (3 : Int32))]) := by
    intro t k
    refine k33 t ?_
    refine XS.icmpYes X0.here hx rfl (pc0 := 21) (pc' := 26) rfl (hb hby d_jdk_43_method_13_code_21) rfl (teq ((by decide) : (115 : Int32) = (115 : Int32))).1 (by decide) (by decide) ?_
    show Steps p.tables e below (s₁.setTop (mkF m 26 #[rv b1, rv b2, iv (2 : Int32)] [])) _
    refine XS.iinc X0.here hx rfl (hb hby d_jdk_43_method_13_code_26) rfl (l' := #[rv b1, rv b2, iv (3 : Int32)]) rfl ?_
    show Steps p.tables e below (s₁.setTop (mkF m 29 #[rv b1, rv b2, iv (3 : Int32)] [])) _
    refine XS.goto X0.here hx rfl (pc0 := 29) (pc' := 9) rfl (hb hby d_jdk_43_method_13_code_29) (by decide) (by decide) ?_
    show Steps p.tables e below (s₁.setTop (mkF m 9 #[rv b1, rv b2, iv (3 : Int32)] [])) _
    refine XS.iloadN X0.here hx rfl (hb hby d_jdk_43_method_13_code_9) rfl ?_
    show Steps p.tables e below (s₁.setTop (mkF m 10 #[rv b1, rv b2, iv (3 : Int32)] [(.int (3 : Int32))])) _
    refine XS.aloadN X0.here hx rfl (hb hby d_jdk_43_method_13_code_10) rfl rfl ?_
    show Steps p.tables e below (s₁.setTop (mkF m 11 #[rv b1, rv b2, iv (3 : Int32)] [(.ref b1), (.int (3 : Int32))])) _
    exact k
  obtain ⟨cl35, Ar35, -, S35, M35, -, -⟩ := id (a_0)
  have k36 : Way p e below S0 s₁ (mkF m 12 #[rv b1, rv b2, iv (3 : Int32)] [(.int (6 : Int32)), (.int (3 : Int32))]) := fun t k => k34 t (X0.arraylength hx (by rw [e0]; exact Ar35.1) (State.isArrayOf_alike hZ.alike Ar35.2.1) (g := (mkF m 11 #[rv b1, rv b2, iv (3 : Int32)] [(.ref b1), (.int (3 : Int32))])) rfl rfl (hb hby d_jdk_43_method_13_code_11) _ (by rw [len_of S35 M35]; exact k))
  have k37 : Way p e below S0 s₁ (mkF m 17 #[rv b1, rv b2, iv (3 : Int32)] [(.int (3 : Int32)), (.ref b1)]) := by
    intro t k
    refine k36 t ?_
    refine XS.icmpNo X0.here hx rfl (hb hby d_jdk_43_method_13_code_12) rfl (tlt ((by decide) : (3 : Int32) < (6 : Int32))).2.1 ?_
    show Steps p.tables e below (s₁.setTop (mkF m 15 #[rv b1, rv b2, iv (3 : Int32)] [])) _
    refine XS.aloadN X0.here hx rfl (hb hby d_jdk_43_method_13_code_15) rfl rfl ?_
    show Steps p.tables e below (s₁.setTop (mkF m 16 #[rv b1, rv b2, iv (3 : Int32)] [(.ref b1)])) _
    refine XS.iloadN X0.here hx rfl (hb hby d_jdk_43_method_13_code_16) rfl ?_
    show Steps p.tables e below (s₁.setTop (mkF m 17 #[rv b1, rv b2, iv (3 : Int32)] [(.int (3 : Int32)), (.ref b1)])) _
    exact k
  obtain ⟨cl38, Ar38, qc38, S38, M38, U38, G38⟩ := id (a_0)
  have hin38 : ¬ ((3 : Int32) < 0 ∨ cl38.slots.size ≤ ((3 : Int32)).toNatClampNeg) := inb_of S38 ⟨by decide, by decide⟩
  have hat38 : cl38.slots[((3 : Int32)).toNatClampNeg]? = some (.int (107 : Int32)) := Has.at U38 hin38 rfl
  have k39 : Way p e below S0 s₁ (mkF m 18 #[rv b1, rv b2, iv (3 : Int32)] [(.int (107 : Int32))]) := fun t k => k37 t (X0.baloadBytes hx (j := (3 : Int32)) (v := (.int (107 : Int32))) (by rw [e0]; exact Ar38.1) (State.isArrayOf_alike hZ.alike Ar38.2.1) Ar38.2.2 hin38 hat38 (g := (mkF m 17 #[rv b1, rv b2, iv (3 : Int32)] [(.int (3 : Int32)), (.ref b1)])) rfl rfl (hb hby d_jdk_43_method_13_code_17) _ k)
  have k40 : Way p e below S0 s₁ (mkF m 20 #[rv b1, rv b2, iv (3 : Int32)] [(.int (3 : Int32)), (.ref b2), (.int (107 : Int32))]) := by
    intro t k
    refine k39 t ?_
    refine XS.aloadN X0.here hx rfl (hb hby d_jdk_43_method_13_code_18) rfl rfl ?_
    show Steps p.tables e below (s₁.setTop (mkF m 19 #[rv b1, rv b2, iv (3 : Int32)] [(.ref b2), (.int (107 : Int32))])) _
    refine XS.iloadN X0.here hx rfl (hb hby d_jdk_43_method_13_code_19) rfl ?_
    show Steps p.tables e below (s₁.setTop (mkF m 20 #[rv b1, rv b2, iv (3 : Int32)] [(.int (3 : Int32)), (.ref b2), (.int (107 : Int32))])) _
    exact k
  obtain ⟨cl41, Ar41, qc41, S41, M41, U41, G41⟩ := id (a_1)
  have hin41 : ¬ ((3 : Int32) < 0 ∨ cl41.slots.size ≤ ((3 : Int32)).toNatClampNeg) := inb_of S41 ⟨by decide, by decide⟩
  have hat41 : cl41.slots[((3 : Int32)).toNatClampNeg]? = some (.int (107 : Int32)) := Has.at U41 hin41 rfl
  have k42 : Way p e below S0 s₁ (mkF m 21 #[rv b1, rv b2, iv (3 : Int32)] [(.int (107 : Int32)), (.int (107 : Int32))]) := fun t k => k40 t (X0.baloadBytes hx (j := (3 : Int32)) (v := (.int (107 : Int32))) (by rw [e0]; exact Ar41.1) (State.isArrayOf_alike hZ.alike Ar41.2.1) Ar41.2.2 hin41 hat41 (g := (mkF m 20 #[rv b1, rv b2, iv (3 : Int32)] [(.int (3 : Int32)), (.ref b2), (.int (107 : Int32))])) rfl rfl (hb hby d_jdk_43_method_13_code_20) _ k)
  have k43 : Way p e below S0 s₁ (mkF m 11 #[rv b1, rv b2, iv (4 : Int32)] [(.ref b1), (.int (4 : Int32))]) := by
    intro t k
    refine k42 t ?_
    refine XS.icmpYes X0.here hx rfl (pc0 := 21) (pc' := 26) rfl (hb hby d_jdk_43_method_13_code_21) rfl (teq ((by decide) : (107 : Int32) = (107 : Int32))).1 (by decide) (by decide) ?_
    show Steps p.tables e below (s₁.setTop (mkF m 26 #[rv b1, rv b2, iv (3 : Int32)] [])) _
    refine XS.iinc X0.here hx rfl (hb hby d_jdk_43_method_13_code_26) rfl (l' := #[rv b1, rv b2, iv (4 : Int32)]) rfl ?_
    show Steps p.tables e below (s₁.setTop (mkF m 29 #[rv b1, rv b2, iv (4 : Int32)] [])) _
    refine XS.goto X0.here hx rfl (pc0 := 29) (pc' := 9) rfl (hb hby d_jdk_43_method_13_code_29) (by decide) (by decide) ?_
    show Steps p.tables e below (s₁.setTop (mkF m 9 #[rv b1, rv b2, iv (4 : Int32)] [])) _
    refine XS.iloadN X0.here hx rfl (hb hby d_jdk_43_method_13_code_9) rfl ?_
    show Steps p.tables e below (s₁.setTop (mkF m 10 #[rv b1, rv b2, iv (4 : Int32)] [(.int (4 : Int32))])) _
    refine XS.aloadN X0.here hx rfl (hb hby d_jdk_43_method_13_code_10) rfl rfl ?_
    show Steps p.tables e below (s₁.setTop (mkF m 11 #[rv b1, rv b2, iv (4 : Int32)] [(.ref b1), (.int (4 : Int32))])) _
    exact k
  obtain ⟨cl44, Ar44, -, S44, M44, -, -⟩ := id (a_0)
  have k45 : Way p e below S0 s₁ (mkF m 12 #[rv b1, rv b2, iv (4 : Int32)] [(.int (6 : Int32)), (.int (4 : Int32))]) := fun t k => k43 t (X0.arraylength hx (by rw [e0]; exact Ar44.1) (State.isArrayOf_alike hZ.alike Ar44.2.1) (g := (mkF m 11 #[rv b1, rv b2, iv (4 : Int32)] [(.ref b1), (.int (4 : Int32))])) rfl rfl (hb hby d_jdk_43_method_13_code_11) _ (by rw [len_of S44 M44]; exact k))
  have k46 : Way p e below S0 s₁ (mkF m 17 #[rv b1, rv b2, iv (4 : Int32)] [(.int (4 : Int32)), (.ref b1)]) := by
    intro t k
    refine k45 t ?_
    refine XS.icmpNo X0.here hx rfl (hb hby d_jdk_43_method_13_code_12) rfl (tlt ((by decide) : (4 : Int32) < (6 : Int32))).2.1 ?_
    show Steps p.tables e below (s₁.setTop (mkF m 15 #[rv b1, rv b2, iv (4 : Int32)] [])) _
    refine XS.aloadN X0.here hx rfl (hb hby d_jdk_43_method_13_code_15) rfl rfl ?_
    show Steps p.tables e below (s₁.setTop (mkF m 16 #[rv b1, rv b2, iv (4 : Int32)] [(.ref b1)])) _
    refine XS.iloadN X0.here hx rfl (hb hby d_jdk_43_method_13_code_16) rfl ?_
    show Steps p.tables e below (s₁.setTop (mkF m 17 #[rv b1, rv b2, iv (4 : Int32)] [(.int (4 : Int32)), (.ref b1)])) _
    exact k
  obtain ⟨cl47, Ar47, qc47, S47, M47, U47, G47⟩ := id (a_0)
  have hin47 : ¬ ((4 : Int32) < 0 ∨ cl47.slots.size ≤ ((4 : Int32)).toNatClampNeg) := inb_of S47 ⟨by decide, by decide⟩
  have hat47 : cl47.slots[((4 : Int32)).toNatClampNeg]? = some (.int (101 : Int32)) := Has.at U47 hin47 rfl
  have k48 : Way p e below S0 s₁ (mkF m 18 #[rv b1, rv b2, iv (4 : Int32)] [(.int (101 : Int32))]) := fun t k => k46 t (X0.baloadBytes hx (j := (4 : Int32)) (v := (.int (101 : Int32))) (by rw [e0]; exact Ar47.1) (State.isArrayOf_alike hZ.alike Ar47.2.1) Ar47.2.2 hin47 hat47 (g := (mkF m 17 #[rv b1, rv b2, iv (4 : Int32)] [(.int (4 : Int32)), (.ref b1)])) rfl rfl (hb hby d_jdk_43_method_13_code_17) _ k)
  have k49 : Way p e below S0 s₁ (mkF m 20 #[rv b1, rv b2, iv (4 : Int32)] [(.int (4 : Int32)), (.ref b2), (.int (101 : Int32))]) := by
    intro t k
    refine k48 t ?_
    refine XS.aloadN X0.here hx rfl (hb hby d_jdk_43_method_13_code_18) rfl rfl ?_
    show Steps p.tables e below (s₁.setTop (mkF m 19 #[rv b1, rv b2, iv (4 : Int32)] [(.ref b2), (.int (101 : Int32))])) _
    refine XS.iloadN X0.here hx rfl (hb hby d_jdk_43_method_13_code_19) rfl ?_
    show Steps p.tables e below (s₁.setTop (mkF m 20 #[rv b1, rv b2, iv (4 : Int32)] [(.int (4 : Int32)), (.ref b2), (.int (101 : Int32))])) _
    exact k
  obtain ⟨cl50, Ar50, qc50, S50, M50, U50, G50⟩ := id (a_1)
  have hin50 : ¬ ((4 : Int32) < 0 ∨ cl50.slots.size ≤ ((4 : Int32)).toNatClampNeg) := inb_of S50 ⟨by decide, by decide⟩
  have hat50 : cl50.slots[((4 : Int32)).toNatClampNeg]? = some (.int (101 : Int32)) := Has.at U50 hin50 rfl
  have k51 : Way p e below S0 s₁ (mkF m 21 #[rv b1, rv b2, iv (4 : Int32)] [(.int (101 : Int32)), (.int (101 : Int32))]) := fun t k => k49 t (X0.baloadBytes hx (j := (4 : Int32)) (v := (.int (101 : Int32))) (by rw [e0]; exact Ar50.1) (State.isArrayOf_alike hZ.alike Ar50.2.1) Ar50.2.2 hin50 hat50 (g := (mkF m 20 #[rv b1, rv b2, iv (4 : Int32)] [(.int (4 : Int32)), (.ref b2), (.int (101 : Int32))])) rfl rfl (hb hby d_jdk_43_method_13_code_20) _ k)
  have k52 : Way p e below S0 s₁ (mkF m 11 #[rv b1, rv b2, iv (5 : Int32)] [(.ref b1), (.int (5 : Int32))]) := by
    intro t k
    refine k51 t ?_
    refine XS.icmpYes X0.here hx rfl (pc0 := 21) (pc' := 26) rfl (hb hby d_jdk_43_method_13_code_21) rfl (teq ((by decide) : (101 : Int32) = (101 : Int32))).1 (by decide) (by decide) ?_
    show Steps p.tables e below (s₁.setTop (mkF m 26 #[rv b1, rv b2, iv (4 : Int32)] [])) _
    refine XS.iinc X0.here hx rfl (hb hby d_jdk_43_method_13_code_26) rfl (l' := #[rv b1, rv b2, iv (5 : Int32)]) rfl ?_
    show Steps p.tables e below (s₁.setTop (mkF m 29 #[rv b1, rv b2, iv (5 : Int32)] [])) _
    refine XS.goto X0.here hx rfl (pc0 := 29) (pc' := 9) rfl (hb hby d_jdk_43_method_13_code_29) (by decide) (by decide) ?_
    show Steps p.tables e below (s₁.setTop (mkF m 9 #[rv b1, rv b2, iv (5 : Int32)] [])) _
    refine XS.iloadN X0.here hx rfl (hb hby d_jdk_43_method_13_code_9) rfl ?_
    show Steps p.tables e below (s₁.setTop (mkF m 10 #[rv b1, rv b2, iv (5 : Int32)] [(.int (5 : Int32))])) _
    refine XS.aloadN X0.here hx rfl (hb hby d_jdk_43_method_13_code_10) rfl rfl ?_
    show Steps p.tables e below (s₁.setTop (mkF m 11 #[rv b1, rv b2, iv (5 : Int32)] [(.ref b1), (.int (5 : Int32))])) _
    exact k
  obtain ⟨cl53, Ar53, -, S53, M53, -, -⟩ := id (a_0)
  have k54 : Way p e below S0 s₁ (mkF m 12 #[rv b1, rv b2, iv (5 : Int32)] [(.int (6 : Int32)), (.int (5 : Int32))]) := fun t k => k52 t (X0.arraylength hx (by rw [e0]; exact Ar53.1) (State.isArrayOf_alike hZ.alike Ar53.2.1) (g := (mkF m 11 #[rv b1, rv b2, iv (5 : Int32)] [(.ref b1), (.int (5 : Int32))])) rfl rfl (hb hby d_jdk_43_method_13_code_11) _ (by rw [len_of S53 M53]; exact k))
  have k55 : Way p e below S0 s₁ (mkF m 17 #[rv b1, rv b2, iv (5 : Int32)] [(.int (5 : Int32)), (.ref b1)]) := by
    intro t k
    refine k54 t ?_
    refine XS.icmpNo X0.here hx rfl (hb hby d_jdk_43_method_13_code_12) rfl (tlt ((by decide) : (5 : Int32) < (6 : Int32))).2.1 ?_
    show Steps p.tables e below (s₁.setTop (mkF m 15 #[rv b1, rv b2, iv (5 : Int32)] [])) _
    refine XS.aloadN X0.here hx rfl (hb hby d_jdk_43_method_13_code_15) rfl rfl ?_
    show Steps p.tables e below (s₁.setTop (mkF m 16 #[rv b1, rv b2, iv (5 : Int32)] [(.ref b1)])) _
    refine XS.iloadN X0.here hx rfl (hb hby d_jdk_43_method_13_code_16) rfl ?_
    show Steps p.tables e below (s₁.setTop (mkF m 17 #[rv b1, rv b2, iv (5 : Int32)] [(.int (5 : Int32)), (.ref b1)])) _
    exact k
  obtain ⟨cl56, Ar56, qc56, S56, M56, U56, G56⟩ := id (a_0)
  have hin56 : ¬ ((5 : Int32) < 0 ∨ cl56.slots.size ≤ ((5 : Int32)).toNatClampNeg) := inb_of S56 ⟨by decide, by decide⟩
  have hat56 : cl56.slots[((5 : Int32)).toNatClampNeg]? = some (.int (100 : Int32)) := Has.at U56 hin56 rfl
  have k57 : Way p e below S0 s₁ (mkF m 18 #[rv b1, rv b2, iv (5 : Int32)] [(.int (100 : Int32))]) := fun t k => k55 t (X0.baloadBytes hx (j := (5 : Int32)) (v := (.int (100 : Int32))) (by rw [e0]; exact Ar56.1) (State.isArrayOf_alike hZ.alike Ar56.2.1) Ar56.2.2 hin56 hat56 (g := (mkF m 17 #[rv b1, rv b2, iv (5 : Int32)] [(.int (5 : Int32)), (.ref b1)])) rfl rfl (hb hby d_jdk_43_method_13_code_17) _ k)
  have k58 : Way p e below S0 s₁ (mkF m 20 #[rv b1, rv b2, iv (5 : Int32)] [(.int (5 : Int32)), (.ref b2), (.int (100 : Int32))]) := by
    intro t k
    refine k57 t ?_
    refine XS.aloadN X0.here hx rfl (hb hby d_jdk_43_method_13_code_18) rfl rfl ?_
    show Steps p.tables e below (s₁.setTop (mkF m 19 #[rv b1, rv b2, iv (5 : Int32)] [(.ref b2), (.int (100 : Int32))])) _
    refine XS.iloadN X0.here hx rfl (hb hby d_jdk_43_method_13_code_19) rfl ?_
    show Steps p.tables e below (s₁.setTop (mkF m 20 #[rv b1, rv b2, iv (5 : Int32)] [(.int (5 : Int32)), (.ref b2), (.int (100 : Int32))])) _
    exact k
  obtain ⟨cl59, Ar59, qc59, S59, M59, U59, G59⟩ := id (a_1)
  have hin59 : ¬ ((5 : Int32) < 0 ∨ cl59.slots.size ≤ ((5 : Int32)).toNatClampNeg) := inb_of S59 ⟨by decide, by decide⟩
  have hat59 : cl59.slots[((5 : Int32)).toNatClampNeg]? = some (.int (100 : Int32)) := Has.at U59 hin59 rfl
  have k60 : Way p e below S0 s₁ (mkF m 21 #[rv b1, rv b2, iv (5 : Int32)] [(.int (100 : Int32)), (.int (100 : Int32))]) := fun t k => k58 t (X0.baloadBytes hx (j := (5 : Int32)) (v := (.int (100 : Int32))) (by rw [e0]; exact Ar59.1) (State.isArrayOf_alike hZ.alike Ar59.2.1) Ar59.2.2 hin59 hat59 (g := (mkF m 20 #[rv b1, rv b2, iv (5 : Int32)] [(.int (5 : Int32)), (.ref b2), (.int (100 : Int32))])) rfl rfl (hb hby d_jdk_43_method_13_code_20) _ k)
  have k61 : Way p e below S0 s₁ (mkF m 11 #[rv b1, rv b2, iv (6 : Int32)] [(.ref b1), (.int (6 : Int32))]) := by
    intro t k
    refine k60 t ?_
    refine XS.icmpYes X0.here hx rfl (pc0 := 21) (pc' := 26) rfl (hb hby d_jdk_43_method_13_code_21) rfl (teq ((by decide) : (100 : Int32) = (100 : Int32))).1 (by decide) (by decide) ?_
    show Steps p.tables e below (s₁.setTop (mkF m 26 #[rv b1, rv b2, iv (5 : Int32)] [])) _
    refine XS.iinc X0.here hx rfl (hb hby d_jdk_43_method_13_code_26) rfl (l' := #[rv b1, rv b2, iv (6 : Int32)]) rfl ?_
    show Steps p.tables e below (s₁.setTop (mkF m 29 #[rv b1, rv b2, iv (6 : Int32)] [])) _
    refine XS.goto X0.here hx rfl (pc0 := 29) (pc' := 9) rfl (hb hby d_jdk_43_method_13_code_29) (by decide) (by decide) ?_
    show Steps p.tables e below (s₁.setTop (mkF m 9 #[rv b1, rv b2, iv (6 : Int32)] [])) _
    refine XS.iloadN X0.here hx rfl (hb hby d_jdk_43_method_13_code_9) rfl ?_
    show Steps p.tables e below (s₁.setTop (mkF m 10 #[rv b1, rv b2, iv (6 : Int32)] [(.int (6 : Int32))])) _
    refine XS.aloadN X0.here hx rfl (hb hby d_jdk_43_method_13_code_10) rfl rfl ?_
    show Steps p.tables e below (s₁.setTop (mkF m 11 #[rv b1, rv b2, iv (6 : Int32)] [(.ref b1), (.int (6 : Int32))])) _
    exact k
  obtain ⟨cl62, Ar62, -, S62, M62, -, -⟩ := id (a_0)
  have k63 : Way p e below S0 s₁ (mkF m 12 #[rv b1, rv b2, iv (6 : Int32)] [(.int (6 : Int32)), (.int (6 : Int32))]) := fun t k => k61 t (X0.arraylength hx (by rw [e0]; exact Ar62.1) (State.isArrayOf_alike hZ.alike Ar62.2.1) (g := (mkF m 11 #[rv b1, rv b2, iv (6 : Int32)] [(.ref b1), (.int (6 : Int32))])) rfl rfl (hb hby d_jdk_43_method_13_code_11) _ (by rw [len_of S62 M62]; exact k))
  have k64 : Way p e below S0 s₁ (mkF m 33 #[rv b1, rv b2, iv (6 : Int32)] [(.int (1 : Int32))]) := by
    intro t k
    refine k63 t ?_
    refine XS.icmpYes X0.here hx rfl (pc0 := 12) (pc' := 32) rfl (hb hby d_jdk_43_method_13_code_12) rfl (flt ((by decide) : ¬ ((6 : Int32) < (6 : Int32)))).2.1 (by decide) (by decide) ?_
    show Steps p.tables e below (s₁.setTop (mkF m 32 #[rv b1, rv b2, iv (6 : Int32)] [])) _
    refine XS.iconst X0.here hx rfl (hb hby d_jdk_43_method_13_code_32) ?_
    show Steps p.tables e below (s₁.setTop (mkF m 33 #[rv b1, rv b2, iv (6 : Int32)] [(.int (1 : Int32))])) _
    exact k
  obtain ⟨fs, hr, hrun, hended, hW, hsame⟩ := X0.leave (v := some (.int (1 : Int32))) (fun h => by rw [Bd.returns] at h; cases h)
  refine ⟨_, _, k64 _ (retN X0 hx (t := .boolean) Bd.returns (by simp) (hb hby d_jdk_43_method_13_code_33) hr), hrun, hended, _, _, rfl, ?_, ⟨_, rfl⟩, hW, hsame.mono (by decide) (by decide)⟩
  show Q_leq00 Z w_NONE w_VIEW w_EDIT wCS b1 b2 kk1 kk2 h0 n0 _ s₁.heap _
  rw [e0]
  exact ⟨rfl, N0, rfl⟩
def Q_leq01 (Z : State) (w_NONE : Addr) (w_VIEW : Addr) (w_EDIT : Addr) (wCS : Int32) (b1 : Addr) (b2 : Addr) (kk1 : ClassId) (kk2 : ClassId) (h0 : Heap) (n0 : Nat) (v : Option Value) (h : Heap) (L : List Loc) : Prop := (v = some (.int (0 : Int32))) ∧ (Fr n0 L) ∧ (h = h0)
set_option maxRecDepth 65536 in
set_option maxHeartbeats 40000000 in
theorem leq01 (l : Launch) (Z : State) (a0 : Array Value) (hw : ∀ d ∈ tables_1, d.before a0 Z = true) (ws : List Jvm.Cond) (w_NONE : Addr) (w_VIEW : Addr) (w_EDIT : Addr) (wCS : Int32) (G : Gst Z w_NONE w_VIEW w_EDIT wCS) (b1 : Addr) (b2 : Addr) (kk1 : ClassId) (kk2 : ClassId) (h0 : Heap) (n0 : Nat) (O0 : Old Z n0 h0) (a_0 : Arv Z h0 b1 kk1 .byte (6 : Int32) [(.int (109 : Int32)), (.int (97 : Int32)), (.int (115 : Int32)), (.int (107 : Int32)), (.int (101 : Int32)), (.int (100 : Int32))] (.int (0 : Int32))) (a_1 : Arv Z h0 b2 kk2 .byte (8 : Int32) [(.int (117 : Int32)), (.int (110 : Int32)), (.int (109 : Int32)), (.int (97 : Int32)), (.int (115 : Int32)), (.int (107 : Int32)), (.int (101 : Int32)), (.int (100 : Int32))] (.int (0 : Int32))) :
    MetFree l (⟨"java/lang/StringLatin1", "equals", "([B[B)Z"⟩ : MethodName) (head1 (Jvm.Cond.code (⟨"java/lang/StringLatin1", "equals", "([B[B)Z"⟩ : MethodName) jdk_43_method_13_code 3 (some .boolean) :: ws) ({ frames := 0, cells := 0, slots := 0, locals := 0 } : Room)) (fun a U => a = #[(.ref b1), (.ref b2)] ∧ Z.Warmed39 U.vm ∧ U.heap = h0) (fun _ _ _ _ _ => True) (fun _ U o U' => ∃ v L, o = .returned v ∧ Q_leq01 Z w_NONE w_VIEW w_EDIT wCS b1 b2 kk1 kk2 h0 n0 v U'.heap L ∧ FrameEnd U o U' L ({ frames := 0, cells := 0, slots := 0, locals := 0 } : Room).cells ({ frames := 0, cells := 0, slots := 0, locals := 0 } : Room).slots) := by
  refine MetFree.of_bodySF (plainFor_of_name pn_3) hisR ?_
  intro p e s m args below meth c s₁ Bd hml0 hP hK
  obtain ⟨rfl, hZ, hh⟩ := hP
  have hx := Bd.exec
  have hby := Bd.bytes
  have hml : c.maxLocals = 3 := hml0
  have hown : s.vm.findClass "java/lang/StringLatin1" = some m.cls := findClass_of_methodNamed Bd.named
  have hnm := (name_of_methodNamed Bd.named Bd.method).1
  have X0 : Stand p l e ({ frames := 0, cells := 0, slots := 0, locals := 0 } : Room) s m #[(.ref b1), (.ref b2)] below meth c s₁ [] 0 0 := Stand.of_body Bd
  have e0 : s₁.heap = h0 := by rw [← hh, Bd.state]; rfl
  have N0 := Fr.nil n0
  obtain ⟨S_w_NONE, E_w_NONE, F_w_NONE_ordinal, S_w_VIEW, E_w_VIEW, F_w_VIEW_ordinal, S_w_EDIT, E_w_EDIT, F_w_EDIT_ordinal, S_CS, hCS⟩ := id G
  have k0 : Way p e below (s₁.setTop (entryFrame m #[(.ref b1), (.ref b2)] 3)) s₁ (mkF m 0 #[rv b1, rv b2, .unset] []) := fun t k => castTop (by first | (simp [entryFrame, mkF, argsToLocals, Value.category]; done) | rfl) k
  generalize s₁.setTop (entryFrame m #[(.ref b1), (.ref b2)] 3) = S0 at k0 ⊢
  have k1 : Way p e below S0 s₁ (mkF m 1 #[rv b1, rv b2, .unset] [(.ref b1)]) := by
    intro t k
    refine k0 t ?_
    refine XS.aloadN X0.here hx rfl (hb hby d_jdk_43_method_13_code_0) rfl rfl ?_
    show Steps p.tables e below (s₁.setTop (mkF m 1 #[rv b1, rv b2, .unset] [(.ref b1)])) _
    exact k
  obtain ⟨cl2, Ar2, -, S2, M2, -, -⟩ := id (a_0)
  have k3 : Way p e below S0 s₁ (mkF m 2 #[rv b1, rv b2, .unset] [(.int (6 : Int32))]) := fun t k => k1 t (X0.arraylength hx (by rw [e0]; exact Ar2.1) (State.isArrayOf_alike hZ.alike Ar2.2.1) (g := (mkF m 1 #[rv b1, rv b2, .unset] [(.ref b1)])) rfl rfl (hb hby d_jdk_43_method_13_code_1) _ (by rw [len_of S2 M2]; exact k))
  have k4 : Way p e below S0 s₁ (mkF m 3 #[rv b1, rv b2, .unset] [(.ref b2), (.int (6 : Int32))]) := by
    intro t k
    refine k3 t ?_
    refine XS.aloadN X0.here hx rfl (hb hby d_jdk_43_method_13_code_2) rfl rfl ?_
    show Steps p.tables e below (s₁.setTop (mkF m 3 #[rv b1, rv b2, .unset] [(.ref b2), (.int (6 : Int32))])) _
    exact k
  obtain ⟨cl5, Ar5, -, S5, M5, -, -⟩ := id (a_1)
  have k6 : Way p e below S0 s₁ (mkF m 4 #[rv b1, rv b2, .unset] [(.int (8 : Int32)), (.int (6 : Int32))]) := fun t k => k4 t (X0.arraylength hx (by rw [e0]; exact Ar5.1) (State.isArrayOf_alike hZ.alike Ar5.2.1) (g := (mkF m 3 #[rv b1, rv b2, .unset] [(.ref b2), (.int (6 : Int32))])) rfl rfl (hb hby d_jdk_43_method_13_code_3) _ (by rw [len_of S5 M5]; exact k))
  have k7 : Way p e below S0 s₁ (mkF m 35 #[rv b1, rv b2, .unset] [(.int (0 : Int32))]) := by
    intro t k
    refine k6 t ?_
    refine XS.icmpYes X0.here hx rfl (pc0 := 4) (pc' := 34) rfl (hb hby d_jdk_43_method_13_code_4) rfl (feq ((by decide) : ¬ ((6 : Int32) = (8 : Int32)))).2 (by decide) (by decide) ?_
    show Steps p.tables e below (s₁.setTop (mkF m 34 #[rv b1, rv b2, .unset] [])) _
    refine XS.iconst X0.here hx rfl (hb hby d_jdk_43_method_13_code_34) ?_
    show Steps p.tables e below (s₁.setTop (mkF m 35 #[rv b1, rv b2, .unset] [(.int (0 : Int32))])) _
    exact k
  obtain ⟨fs, hr, hrun, hended, hW, hsame⟩ := X0.leave (v := some (.int (0 : Int32))) (fun h => by rw [Bd.returns] at h; cases h)
  refine ⟨_, _, k7 _ (retN X0 hx (t := .boolean) Bd.returns (by simp) (hb hby d_jdk_43_method_13_code_35) hr), hrun, hended, _, _, rfl, ?_, ⟨_, rfl⟩, hW, hsame.mono (by decide) (by decide)⟩
  show Q_leq01 Z w_NONE w_VIEW w_EDIT wCS b1 b2 kk1 kk2 h0 n0 _ s₁.heap _
  rw [e0]
  exact ⟨rfl, N0, rfl⟩
def Q_leq10 (Z : State) (w_NONE : Addr) (w_VIEW : Addr) (w_EDIT : Addr) (wCS : Int32) (b1 : Addr) (b2 : Addr) (kk1 : ClassId) (kk2 : ClassId) (h0 : Heap) (n0 : Nat) (v : Option Value) (h : Heap) (L : List Loc) : Prop := (v = some (.int (0 : Int32))) ∧ (Fr n0 L) ∧ (h = h0)
set_option maxRecDepth 65536 in
set_option maxHeartbeats 40000000 in
theorem leq10 (l : Launch) (Z : State) (a0 : Array Value) (hw : ∀ d ∈ tables_1, d.before a0 Z = true) (ws : List Jvm.Cond) (w_NONE : Addr) (w_VIEW : Addr) (w_EDIT : Addr) (wCS : Int32) (G : Gst Z w_NONE w_VIEW w_EDIT wCS) (b1 : Addr) (b2 : Addr) (kk1 : ClassId) (kk2 : ClassId) (h0 : Heap) (n0 : Nat) (O0 : Old Z n0 h0) (a_0 : Arv Z h0 b1 kk1 .byte (8 : Int32) [(.int (117 : Int32)), (.int (110 : Int32)), (.int (109 : Int32)), (.int (97 : Int32)), (.int (115 : Int32)), (.int (107 : Int32)), (.int (101 : Int32)), (.int (100 : Int32))] (.int (0 : Int32))) (a_1 : Arv Z h0 b2 kk2 .byte (6 : Int32) [(.int (109 : Int32)), (.int (97 : Int32)), (.int (115 : Int32)), (.int (107 : Int32)), (.int (101 : Int32)), (.int (100 : Int32))] (.int (0 : Int32))) :
    MetFree l (⟨"java/lang/StringLatin1", "equals", "([B[B)Z"⟩ : MethodName) (head1 (Jvm.Cond.code (⟨"java/lang/StringLatin1", "equals", "([B[B)Z"⟩ : MethodName) jdk_43_method_13_code 3 (some .boolean) :: ws) ({ frames := 0, cells := 0, slots := 0, locals := 0 } : Room)) (fun a U => a = #[(.ref b1), (.ref b2)] ∧ Z.Warmed39 U.vm ∧ U.heap = h0) (fun _ _ _ _ _ => True) (fun _ U o U' => ∃ v L, o = .returned v ∧ Q_leq10 Z w_NONE w_VIEW w_EDIT wCS b1 b2 kk1 kk2 h0 n0 v U'.heap L ∧ FrameEnd U o U' L ({ frames := 0, cells := 0, slots := 0, locals := 0 } : Room).cells ({ frames := 0, cells := 0, slots := 0, locals := 0 } : Room).slots) := by
  refine MetFree.of_bodySF (plainFor_of_name pn_3) hisR ?_
  intro p e s m args below meth c s₁ Bd hml0 hP hK
  obtain ⟨rfl, hZ, hh⟩ := hP
  have hx := Bd.exec
  have hby := Bd.bytes
  have hml : c.maxLocals = 3 := hml0
  have hown : s.vm.findClass "java/lang/StringLatin1" = some m.cls := findClass_of_methodNamed Bd.named
  have hnm := (name_of_methodNamed Bd.named Bd.method).1
  have X0 : Stand p l e ({ frames := 0, cells := 0, slots := 0, locals := 0 } : Room) s m #[(.ref b1), (.ref b2)] below meth c s₁ [] 0 0 := Stand.of_body Bd
  have e0 : s₁.heap = h0 := by rw [← hh, Bd.state]; rfl
  have N0 := Fr.nil n0
  obtain ⟨S_w_NONE, E_w_NONE, F_w_NONE_ordinal, S_w_VIEW, E_w_VIEW, F_w_VIEW_ordinal, S_w_EDIT, E_w_EDIT, F_w_EDIT_ordinal, S_CS, hCS⟩ := id G
  have k0 : Way p e below (s₁.setTop (entryFrame m #[(.ref b1), (.ref b2)] 3)) s₁ (mkF m 0 #[rv b1, rv b2, .unset] []) := fun t k => castTop (by first | (simp [entryFrame, mkF, argsToLocals, Value.category]; done) | rfl) k
  generalize s₁.setTop (entryFrame m #[(.ref b1), (.ref b2)] 3) = S0 at k0 ⊢
  have k1 : Way p e below S0 s₁ (mkF m 1 #[rv b1, rv b2, .unset] [(.ref b1)]) := by
    intro t k
    refine k0 t ?_
    refine XS.aloadN X0.here hx rfl (hb hby d_jdk_43_method_13_code_0) rfl rfl ?_
    show Steps p.tables e below (s₁.setTop (mkF m 1 #[rv b1, rv b2, .unset] [(.ref b1)])) _
    exact k
  obtain ⟨cl2, Ar2, -, S2, M2, -, -⟩ := id (a_0)
  have k3 : Way p e below S0 s₁ (mkF m 2 #[rv b1, rv b2, .unset] [(.int (8 : Int32))]) := fun t k => k1 t (X0.arraylength hx (by rw [e0]; exact Ar2.1) (State.isArrayOf_alike hZ.alike Ar2.2.1) (g := (mkF m 1 #[rv b1, rv b2, .unset] [(.ref b1)])) rfl rfl (hb hby d_jdk_43_method_13_code_1) _ (by rw [len_of S2 M2]; exact k))
  have k4 : Way p e below S0 s₁ (mkF m 3 #[rv b1, rv b2, .unset] [(.ref b2), (.int (8 : Int32))]) := by
    intro t k
    refine k3 t ?_
    refine XS.aloadN X0.here hx rfl (hb hby d_jdk_43_method_13_code_2) rfl rfl ?_
    show Steps p.tables e below (s₁.setTop (mkF m 3 #[rv b1, rv b2, .unset] [(.ref b2), (.int (8 : Int32))])) _
    exact k
  obtain ⟨cl5, Ar5, -, S5, M5, -, -⟩ := id (a_1)
  have k6 : Way p e below S0 s₁ (mkF m 4 #[rv b1, rv b2, .unset] [(.int (6 : Int32)), (.int (8 : Int32))]) := fun t k => k4 t (X0.arraylength hx (by rw [e0]; exact Ar5.1) (State.isArrayOf_alike hZ.alike Ar5.2.1) (g := (mkF m 3 #[rv b1, rv b2, .unset] [(.ref b2), (.int (8 : Int32))])) rfl rfl (hb hby d_jdk_43_method_13_code_3) _ (by rw [len_of S5 M5]; exact k))
  have k7 : Way p e below S0 s₁ (mkF m 35 #[rv b1, rv b2, .unset] [(.int (0 : Int32))]) := by
    intro t k
    refine k6 t ?_
    refine XS.icmpYes X0.here hx rfl (pc0 := 4) (pc' := 34) rfl (hb hby d_jdk_43_method_13_code_4) rfl (feq ((by decide) : ¬ ((8 : Int32) = (6 : Int32)))).2 (by decide) (by decide) ?_
    show Steps p.tables e below (s₁.setTop (mkF m 34 #[rv b1, rv b2, .unset] [])) _
    refine XS.iconst X0.here hx rfl (hb hby d_jdk_43_method_13_code_34) ?_
    show Steps p.tables e below (s₁.setTop (mkF m 35 #[rv b1, rv b2, .unset] [(.int (0 : Int32))])) _
    exact k
  obtain ⟨fs, hr, hrun, hended, hW, hsame⟩ := X0.leave (v := some (.int (0 : Int32))) (fun h => by rw [Bd.returns] at h; cases h)
  refine ⟨_, _, k7 _ (retN X0 hx (t := .boolean) Bd.returns (by simp) (hb hby d_jdk_43_method_13_code_35) hr), hrun, hended, _, _, rfl, ?_, ⟨_, rfl⟩, hW, hsame.mono (by decide) (by decide)⟩
  show Q_leq10 Z w_NONE w_VIEW w_EDIT wCS b1 b2 kk1 kk2 h0 n0 _ s₁.heap _
  rw [e0]
  exact ⟨rfl, N0, rfl⟩
def Q_leq11 (Z : State) (w_NONE : Addr) (w_VIEW : Addr) (w_EDIT : Addr) (wCS : Int32) (b1 : Addr) (b2 : Addr) (kk1 : ClassId) (kk2 : ClassId) (h0 : Heap) (n0 : Nat) (v : Option Value) (h : Heap) (L : List Loc) : Prop := (v = some (.int (1 : Int32))) ∧ (Fr n0 L) ∧ (h = h0)
set_option maxRecDepth 65536 in
set_option maxHeartbeats 40000000 in
theorem leq11 (l : Launch) (Z : State) (a0 : Array Value) (hw : ∀ d ∈ tables_1, d.before a0 Z = true) (ws : List Jvm.Cond) (w_NONE : Addr) (w_VIEW : Addr) (w_EDIT : Addr) (wCS : Int32) (G : Gst Z w_NONE w_VIEW w_EDIT wCS) (b1 : Addr) (b2 : Addr) (kk1 : ClassId) (kk2 : ClassId) (h0 : Heap) (n0 : Nat) (O0 : Old Z n0 h0) (a_0 : Arv Z h0 b1 kk1 .byte (8 : Int32) [(.int (117 : Int32)), (.int (110 : Int32)), (.int (109 : Int32)), (.int (97 : Int32)), (.int (115 : Int32)), (.int (107 : Int32)), (.int (101 : Int32)), (.int (100 : Int32))] (.int (0 : Int32))) (a_1 : Arv Z h0 b2 kk2 .byte (8 : Int32) [(.int (117 : Int32)), (.int (110 : Int32)), (.int (109 : Int32)), (.int (97 : Int32)), (.int (115 : Int32)), (.int (107 : Int32)), (.int (101 : Int32)), (.int (100 : Int32))] (.int (0 : Int32))) :
    MetFree l (⟨"java/lang/StringLatin1", "equals", "([B[B)Z"⟩ : MethodName) (head1 (Jvm.Cond.code (⟨"java/lang/StringLatin1", "equals", "([B[B)Z"⟩ : MethodName) jdk_43_method_13_code 3 (some .boolean) :: ws) ({ frames := 0, cells := 0, slots := 0, locals := 0 } : Room)) (fun a U => a = #[(.ref b1), (.ref b2)] ∧ Z.Warmed39 U.vm ∧ U.heap = h0) (fun _ _ _ _ _ => True) (fun _ U o U' => ∃ v L, o = .returned v ∧ Q_leq11 Z w_NONE w_VIEW w_EDIT wCS b1 b2 kk1 kk2 h0 n0 v U'.heap L ∧ FrameEnd U o U' L ({ frames := 0, cells := 0, slots := 0, locals := 0 } : Room).cells ({ frames := 0, cells := 0, slots := 0, locals := 0 } : Room).slots) := by
  refine MetFree.of_bodySF (plainFor_of_name pn_3) hisR ?_
  intro p e s m args below meth c s₁ Bd hml0 hP hK
  obtain ⟨rfl, hZ, hh⟩ := hP
  have hx := Bd.exec
  have hby := Bd.bytes
  have hml : c.maxLocals = 3 := hml0
  have hown : s.vm.findClass "java/lang/StringLatin1" = some m.cls := findClass_of_methodNamed Bd.named
  have hnm := (name_of_methodNamed Bd.named Bd.method).1
  have X0 : Stand p l e ({ frames := 0, cells := 0, slots := 0, locals := 0 } : Room) s m #[(.ref b1), (.ref b2)] below meth c s₁ [] 0 0 := Stand.of_body Bd
  have e0 : s₁.heap = h0 := by rw [← hh, Bd.state]; rfl
  have N0 := Fr.nil n0
  obtain ⟨S_w_NONE, E_w_NONE, F_w_NONE_ordinal, S_w_VIEW, E_w_VIEW, F_w_VIEW_ordinal, S_w_EDIT, E_w_EDIT, F_w_EDIT_ordinal, S_CS, hCS⟩ := id G
  have k0 : Way p e below (s₁.setTop (entryFrame m #[(.ref b1), (.ref b2)] 3)) s₁ (mkF m 0 #[rv b1, rv b2, .unset] []) := fun t k => castTop (by first | (simp [entryFrame, mkF, argsToLocals, Value.category]; done) | rfl) k
  generalize s₁.setTop (entryFrame m #[(.ref b1), (.ref b2)] 3) = S0 at k0 ⊢
  have k1 : Way p e below S0 s₁ (mkF m 1 #[rv b1, rv b2, .unset] [(.ref b1)]) := by
    intro t k
    refine k0 t ?_
    refine XS.aloadN X0.here hx rfl (hb hby d_jdk_43_method_13_code_0) rfl rfl ?_
    show Steps p.tables e below (s₁.setTop (mkF m 1 #[rv b1, rv b2, .unset] [(.ref b1)])) _
    exact k
  obtain ⟨cl2, Ar2, -, S2, M2, -, -⟩ := id (a_0)
  have k3 : Way p e below S0 s₁ (mkF m 2 #[rv b1, rv b2, .unset] [(.int (8 : Int32))]) := fun t k => k1 t (X0.arraylength hx (by rw [e0]; exact Ar2.1) (State.isArrayOf_alike hZ.alike Ar2.2.1) (g := (mkF m 1 #[rv b1, rv b2, .unset] [(.ref b1)])) rfl rfl (hb hby d_jdk_43_method_13_code_1) _ (by rw [len_of S2 M2]; exact k))
  have k4 : Way p e below S0 s₁ (mkF m 3 #[rv b1, rv b2, .unset] [(.ref b2), (.int (8 : Int32))]) := by
    intro t k
    refine k3 t ?_
    refine XS.aloadN X0.here hx rfl (hb hby d_jdk_43_method_13_code_2) rfl rfl ?_
    show Steps p.tables e below (s₁.setTop (mkF m 3 #[rv b1, rv b2, .unset] [(.ref b2), (.int (8 : Int32))])) _
    exact k
  obtain ⟨cl5, Ar5, -, S5, M5, -, -⟩ := id (a_1)
  have k6 : Way p e below S0 s₁ (mkF m 4 #[rv b1, rv b2, .unset] [(.int (8 : Int32)), (.int (8 : Int32))]) := fun t k => k4 t (X0.arraylength hx (by rw [e0]; exact Ar5.1) (State.isArrayOf_alike hZ.alike Ar5.2.1) (g := (mkF m 3 #[rv b1, rv b2, .unset] [(.ref b2), (.int (8 : Int32))])) rfl rfl (hb hby d_jdk_43_method_13_code_3) _ (by rw [len_of S5 M5]; exact k))
  have k7 : Way p e below S0 s₁ (mkF m 11 #[rv b1, rv b2, iv (0 : Int32)] [(.ref b1), (.int (0 : Int32))]) := by
    intro t k
    refine k6 t ?_
    refine XS.icmpNo X0.here hx rfl (hb hby d_jdk_43_method_13_code_4) rfl (teq ((by decide) : (8 : Int32) = (8 : Int32))).2 ?_
    show Steps p.tables e below (s₁.setTop (mkF m 7 #[rv b1, rv b2, .unset] [])) _
    refine XS.iconst X0.here hx rfl (hb hby d_jdk_43_method_13_code_7) ?_
    show Steps p.tables e below (s₁.setTop (mkF m 8 #[rv b1, rv b2, .unset] [(.int (0 : Int32))])) _
    refine XS.istoreN X0.here hx rfl (hb hby d_jdk_43_method_13_code_8) rfl (l' := #[rv b1, rv b2, iv (0 : Int32)]) rfl ?_
    show Steps p.tables e below (s₁.setTop (mkF m 9 #[rv b1, rv b2, iv (0 : Int32)] [])) _
    refine XS.iloadN X0.here hx rfl (hb hby d_jdk_43_method_13_code_9) rfl ?_
    show Steps p.tables e below (s₁.setTop (mkF m 10 #[rv b1, rv b2, iv (0 : Int32)] [(.int (0 : Int32))])) _
    refine XS.aloadN X0.here hx rfl (hb hby d_jdk_43_method_13_code_10) rfl rfl ?_
    show Steps p.tables e below (s₁.setTop (mkF m 11 #[rv b1, rv b2, iv (0 : Int32)] [(.ref b1), (.int (0 : Int32))])) _
    exact k
  obtain ⟨cl8, Ar8, -, S8, M8, -, -⟩ := id (a_0)
  have k9 : Way p e below S0 s₁ (mkF m 12 #[rv b1, rv b2, iv (0 : Int32)] [(.int (8 : Int32)), (.int (0 : Int32))]) := fun t k => k7 t (X0.arraylength hx (by rw [e0]; exact Ar8.1) (State.isArrayOf_alike hZ.alike Ar8.2.1) (g := (mkF m 11 #[rv b1, rv b2, iv (0 : Int32)] [(.ref b1), (.int (0 : Int32))])) rfl rfl (hb hby d_jdk_43_method_13_code_11) _ (by rw [len_of S8 M8]; exact k))
  have k10 : Way p e below S0 s₁ (mkF m 17 #[rv b1, rv b2, iv (0 : Int32)] [(.int (0 : Int32)), (.ref b1)]) := by
    intro t k
    refine k9 t ?_
    refine XS.icmpNo X0.here hx rfl (hb hby d_jdk_43_method_13_code_12) rfl (tlt ((by decide) : (0 : Int32) < (8 : Int32))).2.1 ?_
    show Steps p.tables e below (s₁.setTop (mkF m 15 #[rv b1, rv b2, iv (0 : Int32)] [])) _
    refine XS.aloadN X0.here hx rfl (hb hby d_jdk_43_method_13_code_15) rfl rfl ?_
    show Steps p.tables e below (s₁.setTop (mkF m 16 #[rv b1, rv b2, iv (0 : Int32)] [(.ref b1)])) _
    refine XS.iloadN X0.here hx rfl (hb hby d_jdk_43_method_13_code_16) rfl ?_
    show Steps p.tables e below (s₁.setTop (mkF m 17 #[rv b1, rv b2, iv (0 : Int32)] [(.int (0 : Int32)), (.ref b1)])) _
    exact k
  obtain ⟨cl11, Ar11, qc11, S11, M11, U11, G11⟩ := id (a_0)
  have hin11 : ¬ ((0 : Int32) < 0 ∨ cl11.slots.size ≤ ((0 : Int32)).toNatClampNeg) := inb_of S11 ⟨by decide, by decide⟩
  have hat11 : cl11.slots[((0 : Int32)).toNatClampNeg]? = some (.int (117 : Int32)) := Has.at U11 hin11 rfl
  have k12 : Way p e below S0 s₁ (mkF m 18 #[rv b1, rv b2, iv (0 : Int32)] [(.int (117 : Int32))]) := fun t k => k10 t (X0.baloadBytes hx (j := (0 : Int32)) (v := (.int (117 : Int32))) (by rw [e0]; exact Ar11.1) (State.isArrayOf_alike hZ.alike Ar11.2.1) Ar11.2.2 hin11 hat11 (g := (mkF m 17 #[rv b1, rv b2, iv (0 : Int32)] [(.int (0 : Int32)), (.ref b1)])) rfl rfl (hb hby d_jdk_43_method_13_code_17) _ k)
  have k13 : Way p e below S0 s₁ (mkF m 20 #[rv b1, rv b2, iv (0 : Int32)] [(.int (0 : Int32)), (.ref b2), (.int (117 : Int32))]) := by
    intro t k
    refine k12 t ?_
    refine XS.aloadN X0.here hx rfl (hb hby d_jdk_43_method_13_code_18) rfl rfl ?_
    show Steps p.tables e below (s₁.setTop (mkF m 19 #[rv b1, rv b2, iv (0 : Int32)] [(.ref b2), (.int (117 : Int32))])) _
    refine XS.iloadN X0.here hx rfl (hb hby d_jdk_43_method_13_code_19) rfl ?_
    show Steps p.tables e below (s₁.setTop (mkF m 20 #[rv b1, rv b2, iv (0 : Int32)] [(.int (0 : Int32)), (.ref b2), (.int (117 : Int32))])) _
    exact k
  obtain ⟨cl14, Ar14, qc14, S14, M14, U14, G14⟩ := id (a_1)
  have hin14 : ¬ ((0 : Int32) < 0 ∨ cl14.slots.size ≤ ((0 : Int32)).toNatClampNeg) := inb_of S14 ⟨by decide, by decide⟩
  have hat14 : cl14.slots[((0 : Int32)).toNatClampNeg]? = some (.int (117 : Int32)) := Has.at U14 hin14 rfl
  have k15 : Way p e below S0 s₁ (mkF m 21 #[rv b1, rv b2, iv (0 : Int32)] [(.int (117 : Int32)), (.int (117 : Int32))]) := fun t k => k13 t (X0.baloadBytes hx (j := (0 : Int32)) (v := (.int (117 : Int32))) (by rw [e0]; exact Ar14.1) (State.isArrayOf_alike hZ.alike Ar14.2.1) Ar14.2.2 hin14 hat14 (g := (mkF m 20 #[rv b1, rv b2, iv (0 : Int32)] [(.int (0 : Int32)), (.ref b2), (.int (117 : Int32))])) rfl rfl (hb hby d_jdk_43_method_13_code_20) _ k)
  have k16 : Way p e below S0 s₁ (mkF m 11 #[rv b1, rv b2, iv (1 : Int32)] [(.ref b1), (.int (1 : Int32))]) := by
    intro t k
    refine k15 t ?_
    refine XS.icmpYes X0.here hx rfl (pc0 := 21) (pc' := 26) rfl (hb hby d_jdk_43_method_13_code_21) rfl (teq ((by decide) : (117 : Int32) = (117 : Int32))).1 (by decide) (by decide) ?_
    show Steps p.tables e below (s₁.setTop (mkF m 26 #[rv b1, rv b2, iv (0 : Int32)] [])) _
    refine XS.iinc X0.here hx rfl (hb hby d_jdk_43_method_13_code_26) rfl (l' := #[rv b1, rv b2, iv (1 : Int32)]) rfl ?_
    show Steps p.tables e below (s₁.setTop (mkF m 29 #[rv b1, rv b2, iv (1 : Int32)] [])) _
    refine XS.goto X0.here hx rfl (pc0 := 29) (pc' := 9) rfl (hb hby d_jdk_43_method_13_code_29) (by decide) (by decide) ?_
    show Steps p.tables e below (s₁.setTop (mkF m 9 #[rv b1, rv b2, iv (1 : Int32)] [])) _
    refine XS.iloadN X0.here hx rfl (hb hby d_jdk_43_method_13_code_9) rfl ?_
    show Steps p.tables e below (s₁.setTop (mkF m 10 #[rv b1, rv b2, iv (1 : Int32)] [(.int (1 : Int32))])) _
    refine XS.aloadN X0.here hx rfl (hb hby d_jdk_43_method_13_code_10) rfl rfl ?_
    show Steps p.tables e below (s₁.setTop (mkF m 11 #[rv b1, rv b2, iv (1 : Int32)] [(.ref b1), (.int (1 : Int32))])) _
    exact k
  obtain ⟨cl17, Ar17, -, S17, M17, -, -⟩ := id (a_0)
  have k18 : Way p e below S0 s₁ (mkF m 12 #[rv b1, rv b2, iv (1 : Int32)] [(.int (8 : Int32)), (.int (1 : Int32))]) := fun t k => k16 t (X0.arraylength hx (by rw [e0]; exact Ar17.1) (State.isArrayOf_alike hZ.alike Ar17.2.1) (g := (mkF m 11 #[rv b1, rv b2, iv (1 : Int32)] [(.ref b1), (.int (1 : Int32))])) rfl rfl (hb hby d_jdk_43_method_13_code_11) _ (by rw [len_of S17 M17]; exact k))
  have k19 : Way p e below S0 s₁ (mkF m 17 #[rv b1, rv b2, iv (1 : Int32)] [(.int (1 : Int32)), (.ref b1)]) := by
    intro t k
    refine k18 t ?_
    refine XS.icmpNo X0.here hx rfl (hb hby d_jdk_43_method_13_code_12) rfl (tlt ((by decide) : (1 : Int32) < (8 : Int32))).2.1 ?_
    show Steps p.tables e below (s₁.setTop (mkF m 15 #[rv b1, rv b2, iv (1 : Int32)] [])) _
    refine XS.aloadN X0.here hx rfl (hb hby d_jdk_43_method_13_code_15) rfl rfl ?_
    show Steps p.tables e below (s₁.setTop (mkF m 16 #[rv b1, rv b2, iv (1 : Int32)] [(.ref b1)])) _
    refine XS.iloadN X0.here hx rfl (hb hby d_jdk_43_method_13_code_16) rfl ?_
    show Steps p.tables e below (s₁.setTop (mkF m 17 #[rv b1, rv b2, iv (1 : Int32)] [(.int (1 : Int32)), (.ref b1)])) _
    exact k
  obtain ⟨cl20, Ar20, qc20, S20, M20, U20, G20⟩ := id (a_0)
  have hin20 : ¬ ((1 : Int32) < 0 ∨ cl20.slots.size ≤ ((1 : Int32)).toNatClampNeg) := inb_of S20 ⟨by decide, by decide⟩
  have hat20 : cl20.slots[((1 : Int32)).toNatClampNeg]? = some (.int (110 : Int32)) := Has.at U20 hin20 rfl
  have k21 : Way p e below S0 s₁ (mkF m 18 #[rv b1, rv b2, iv (1 : Int32)] [(.int (110 : Int32))]) := fun t k => k19 t (X0.baloadBytes hx (j := (1 : Int32)) (v := (.int (110 : Int32))) (by rw [e0]; exact Ar20.1) (State.isArrayOf_alike hZ.alike Ar20.2.1) Ar20.2.2 hin20 hat20 (g := (mkF m 17 #[rv b1, rv b2, iv (1 : Int32)] [(.int (1 : Int32)), (.ref b1)])) rfl rfl (hb hby d_jdk_43_method_13_code_17) _ k)
  have k22 : Way p e below S0 s₁ (mkF m 20 #[rv b1, rv b2, iv (1 : Int32)] [(.int (1 : Int32)), (.ref b2), (.int (110 : Int32))]) := by
    intro t k
    refine k21 t ?_
    refine XS.aloadN X0.here hx rfl (hb hby d_jdk_43_method_13_code_18) rfl rfl ?_
    show Steps p.tables e below (s₁.setTop (mkF m 19 #[rv b1, rv b2, iv (1 : Int32)] [(.ref b2), (.int (110 : Int32))])) _
    refine XS.iloadN X0.here hx rfl (hb hby d_jdk_43_method_13_code_19) rfl ?_
    show Steps p.tables e below (s₁.setTop (mkF m 20 #[rv b1, rv b2, iv (1 : Int32)] [(.int (1 : Int32)), (.ref b2), (.int (110 : Int32))])) _
    exact k
  obtain ⟨cl23, Ar23, qc23, S23, M23, U23, G23⟩ := id (a_1)
  have hin23 : ¬ ((1 : Int32) < 0 ∨ cl23.slots.size ≤ ((1 : Int32)).toNatClampNeg) := inb_of S23 ⟨by decide, by decide⟩
  have hat23 : cl23.slots[((1 : Int32)).toNatClampNeg]? = some (.int (110 : Int32)) := Has.at U23 hin23 rfl
  have k24 : Way p e below S0 s₁ (mkF m 21 #[rv b1, rv b2, iv (1 : Int32)] [(.int (110 : Int32)), (.int (110 : Int32))]) := fun t k => k22 t (X0.baloadBytes hx (j := (1 : Int32)) (v := (.int (110 : Int32))) (by rw [e0]; exact Ar23.1) (State.isArrayOf_alike hZ.alike Ar23.2.1) Ar23.2.2 hin23 hat23 (g := (mkF m 20 #[rv b1, rv b2, iv (1 : Int32)] [(.int (1 : Int32)), (.ref b2), (.int (110 : Int32))])) rfl rfl (hb hby d_jdk_43_method_13_code_20) _ k)
  have k25 : Way p e below S0 s₁ (mkF m 11 #[rv b1, rv b2, iv (2 : Int32)] [(.ref b1), (.int (2 : Int32))]) := by
    intro t k
    refine k24 t ?_
    refine XS.icmpYes X0.here hx rfl (pc0 := 21) (pc' := 26) rfl (hb hby d_jdk_43_method_13_code_21) rfl (teq ((by decide) : (110 : Int32) = (110 : Int32))).1 (by decide) (by decide) ?_
    show Steps p.tables e below (s₁.setTop (mkF m 26 #[rv b1, rv b2, iv (1 : Int32)] [])) _
    refine XS.iinc X0.here hx rfl (hb hby d_jdk_43_method_13_code_26) rfl (l' := #[rv b1, rv b2, iv (2 : Int32)]) rfl ?_
    show Steps p.tables e below (s₁.setTop (mkF m 29 #[rv b1, rv b2, iv (2 : Int32)] [])) _
    refine XS.goto X0.here hx rfl (pc0 := 29) (pc' := 9) rfl (hb hby d_jdk_43_method_13_code_29) (by decide) (by decide) ?_
    show Steps p.tables e below (s₁.setTop (mkF m 9 #[rv b1, rv b2, iv (2 : Int32)] [])) _
    refine XS.iloadN X0.here hx rfl (hb hby d_jdk_43_method_13_code_9) rfl ?_
    show Steps p.tables e below (s₁.setTop (mkF m 10 #[rv b1, rv b2, iv (2 : Int32)] [(.int (2 : Int32))])) _
    refine XS.aloadN X0.here hx rfl (hb hby d_jdk_43_method_13_code_10) rfl rfl ?_
    show Steps p.tables e below (s₁.setTop (mkF m 11 #[rv b1, rv b2, iv (2 : Int32)] [(.ref b1), (.int (2 : Int32))])) _
    exact k
  obtain ⟨cl26, Ar26, -, S26, M26, -, -⟩ := id (a_0)
  have k27 : Way p e below S0 s₁ (mkF m 12 #[rv b1, rv b2, iv (2 : Int32)] [(.int (8 : Int32)), (.int (2 : Int32))]) := fun t k => k25 t (X0.arraylength hx (by rw [e0]; exact Ar26.1) (State.isArrayOf_alike hZ.alike Ar26.2.1) (g := (mkF m 11 #[rv b1, rv b2, iv (2 : Int32)] [(.ref b1), (.int (2 : Int32))])) rfl rfl (hb hby d_jdk_43_method_13_code_11) _ (by rw [len_of S26 M26]; exact k))
  have k28 : Way p e below S0 s₁ (mkF m 17 #[rv b1, rv b2, iv (2 : Int32)] [(.int (2 : Int32)), (.ref b1)]) := by
    intro t k
    refine k27 t ?_
    refine XS.icmpNo X0.here hx rfl (hb hby d_jdk_43_method_13_code_12) rfl (tlt ((by decide) : (2 : Int32) < (8 : Int32))).2.1 ?_
    show Steps p.tables e below (s₁.setTop (mkF m 15 #[rv b1, rv b2, iv (2 : Int32)] [])) _
    refine XS.aloadN X0.here hx rfl (hb hby d_jdk_43_method_13_code_15) rfl rfl ?_
    show Steps p.tables e below (s₁.setTop (mkF m 16 #[rv b1, rv b2, iv (2 : Int32)] [(.ref b1)])) _
    refine XS.iloadN X0.here hx rfl (hb hby d_jdk_43_method_13_code_16) rfl ?_
    show Steps p.tables e below (s₁.setTop (mkF m 17 #[rv b1, rv b2, iv (2 : Int32)] [(.int (2 : Int32)), (.ref b1)])) _
    exact k
  obtain ⟨cl29, Ar29, qc29, S29, M29, U29, G29⟩ := id (a_0)
  have hin29 : ¬ ((2 : Int32) < 0 ∨ cl29.slots.size ≤ ((2 : Int32)).toNatClampNeg) := inb_of S29 ⟨by decide, by decide⟩
  have hat29 : cl29.slots[((2 : Int32)).toNatClampNeg]? = some (.int (109 : Int32)) := Has.at U29 hin29 rfl
  have k30 : Way p e below S0 s₁ (mkF m 18 #[rv b1, rv b2, iv (2 : Int32)] [(.int (109 : Int32))]) := fun t k => k28 t (X0.baloadBytes hx (j := (2 : Int32)) (v := (.int (109 : Int32))) (by rw [e0]; exact Ar29.1) (State.isArrayOf_alike hZ.alike Ar29.2.1) Ar29.2.2 hin29 hat29 (g := (mkF m 17 #[rv b1, rv b2, iv (2 : Int32)] [(.int (2 : Int32)), (.ref b1)])) rfl rfl (hb hby d_jdk_43_method_13_code_17) _ k)
  have k31 : Way p e below S0 s₁ (mkF m 20 #[rv b1, rv b2, iv (2 : Int32)] [(.int (2 : Int32)), (.ref b2), (.int (109 : Int32))]) := by
    intro t k
    refine k30 t ?_
    refine XS.aloadN X0.here hx rfl (hb hby d_jdk_43_method_13_code_18) rfl rfl ?_
    show Steps p.tables e below (s₁.setTop (mkF m 19 #[rv b1, rv b2, iv (2 : Int32)] [(.ref b2), (.int (109 : Int32))])) _
    refine XS.iloadN X0.here hx rfl (hb hby d_jdk_43_method_13_code_19) rfl ?_
    show Steps p.tables e below (s₁.setTop (mkF m 20 #[rv b1, rv b2, iv (2 : Int32)] [(.int (2 : Int32)), (.ref b2), (.int (109 : Int32))])) _
    exact k
  obtain ⟨cl32, Ar32, qc32, S32, M32, U32, G32⟩ := id (a_1)
  have hin32 : ¬ ((2 : Int32) < 0 ∨ cl32.slots.size ≤ ((2 : Int32)).toNatClampNeg) := inb_of S32 ⟨by decide, by decide⟩
  have hat32 : cl32.slots[((2 : Int32)).toNatClampNeg]? = some (.int (109 : Int32)) := Has.at U32 hin32 rfl
  have k33 : Way p e below S0 s₁ (mkF m 21 #[rv b1, rv b2, iv (2 : Int32)] [(.int (109 : Int32)), (.int (109 : Int32))]) := fun t k => k31 t (X0.baloadBytes hx (j := (2 : Int32)) (v := (.int (109 : Int32))) (by rw [e0]; exact Ar32.1) (State.isArrayOf_alike hZ.alike Ar32.2.1) Ar32.2.2 hin32 hat32 (g := (mkF m 20 #[rv b1, rv b2, iv (2 : Int32)] [(.int (2 : Int32)), (.ref b2), (.int (109 : Int32))])) rfl rfl (hb hby d_jdk_43_method_13_code_20) _ k)
  have k34 : Way p e below S0 s₁ (mkF m 11 #[rv b1, rv b2, iv (3 : Int32)] [(.ref b1), (.int (3 : Int32))]) := by
    intro t k
    refine k33 t ?_
    refine XS.icmpYes X0.here hx rfl (pc0 := 21) (pc' := 26) rfl (hb hby d_jdk_43_method_13_code_21) rfl (teq ((by decide) : (109 : Int32) = (109 : Int32))).1 (by decide) (by decide) ?_
    show Steps p.tables e below (s₁.setTop (mkF m 26 #[rv b1, rv b2, iv (2 : Int32)] [])) _
    refine XS.iinc X0.here hx rfl (hb hby d_jdk_43_method_13_code_26) rfl (l' := #[rv b1, rv b2, iv (3 : Int32)]) rfl ?_
    show Steps p.tables e below (s₁.setTop (mkF m 29 #[rv b1, rv b2, iv (3 : Int32)] [])) _
    refine XS.goto X0.here hx rfl (pc0 := 29) (pc' := 9) rfl (hb hby d_jdk_43_method_13_code_29) (by decide) (by decide) ?_
    show Steps p.tables e below (s₁.setTop (mkF m 9 #[rv b1, rv b2, iv (3 : Int32)] [])) _
    refine XS.iloadN X0.here hx rfl (hb hby d_jdk_43_method_13_code_9) rfl ?_
    show Steps p.tables e below (s₁.setTop (mkF m 10 #[rv b1, rv b2, iv (3 : Int32)] [(.int (3 : Int32))])) _
    refine XS.aloadN X0.here hx rfl (hb hby d_jdk_43_method_13_code_10) rfl rfl ?_
    show Steps p.tables e below (s₁.setTop (mkF m 11 #[rv b1, rv b2, iv (3 : Int32)] [(.ref b1), (.int (3 : Int32))])) _
    exact k
  obtain ⟨cl35, Ar35, -, S35, M35, -, -⟩ := id (a_0)
  have k36 : Way p e below S0 s₁ (mkF m 12 #[rv b1, rv b2, iv (3 : Int32)] [(.int (8 : Int32)), (.int (3 : Int32))]) := fun t k => k34 t (X0.arraylength hx (by rw [e0]; exact Ar35.1) (State.isArrayOf_alike hZ.alike Ar35.2.1) (g := (mkF m 11 #[rv b1, rv b2, iv (3 : Int32)] [(.ref b1), (.int (3 : Int32))])) rfl rfl (hb hby d_jdk_43_method_13_code_11) _ (by rw [len_of S35 M35]; exact k))
  have k37 : Way p e below S0 s₁ (mkF m 17 #[rv b1, rv b2, iv (3 : Int32)] [(.int (3 : Int32)), (.ref b1)]) := by
    intro t k
    refine k36 t ?_
    refine XS.icmpNo X0.here hx rfl (hb hby d_jdk_43_method_13_code_12) rfl (tlt ((by decide) : (3 : Int32) < (8 : Int32))).2.1 ?_
    show Steps p.tables e below (s₁.setTop (mkF m 15 #[rv b1, rv b2, iv (3 : Int32)] [])) _
    refine XS.aloadN X0.here hx rfl (hb hby d_jdk_43_method_13_code_15) rfl rfl ?_
    show Steps p.tables e below (s₁.setTop (mkF m 16 #[rv b1, rv b2, iv (3 : Int32)] [(.ref b1)])) _
    refine XS.iloadN X0.here hx rfl (hb hby d_jdk_43_method_13_code_16) rfl ?_
    show Steps p.tables e below (s₁.setTop (mkF m 17 #[rv b1, rv b2, iv (3 : Int32)] [(.int (3 : Int32)), (.ref b1)])) _
    exact k
  obtain ⟨cl38, Ar38, qc38, S38, M38, U38, G38⟩ := id (a_0)
  have hin38 : ¬ ((3 : Int32) < 0 ∨ cl38.slots.size ≤ ((3 : Int32)).toNatClampNeg) := inb_of S38 ⟨by decide, by decide⟩
  have hat38 : cl38.slots[((3 : Int32)).toNatClampNeg]? = some (.int (97 : Int32)) := Has.at U38 hin38 rfl
  have k39 : Way p e below S0 s₁ (mkF m 18 #[rv b1, rv b2, iv (3 : Int32)] [(.int (97 : Int32))]) := fun t k => k37 t (X0.baloadBytes hx (j := (3 : Int32)) (v := (.int (97 : Int32))) (by rw [e0]; exact Ar38.1) (State.isArrayOf_alike hZ.alike Ar38.2.1) Ar38.2.2 hin38 hat38 (g := (mkF m 17 #[rv b1, rv b2, iv (3 : Int32)] [(.int (3 : Int32)), (.ref b1)])) rfl rfl (hb hby d_jdk_43_method_13_code_17) _ k)
  have k40 : Way p e below S0 s₁ (mkF m 20 #[rv b1, rv b2, iv (3 : Int32)] [(.int (3 : Int32)), (.ref b2), (.int (97 : Int32))]) := by
    intro t k
    refine k39 t ?_
    refine XS.aloadN X0.here hx rfl (hb hby d_jdk_43_method_13_code_18) rfl rfl ?_
    show Steps p.tables e below (s₁.setTop (mkF m 19 #[rv b1, rv b2, iv (3 : Int32)] [(.ref b2), (.int (97 : Int32))])) _
    refine XS.iloadN X0.here hx rfl (hb hby d_jdk_43_method_13_code_19) rfl ?_
    show Steps p.tables e below (s₁.setTop (mkF m 20 #[rv b1, rv b2, iv (3 : Int32)] [(.int (3 : Int32)), (.ref b2), (.int (97 : Int32))])) _
    exact k
  obtain ⟨cl41, Ar41, qc41, S41, M41, U41, G41⟩ := id (a_1)
  have hin41 : ¬ ((3 : Int32) < 0 ∨ cl41.slots.size ≤ ((3 : Int32)).toNatClampNeg) := inb_of S41 ⟨by decide, by decide⟩
  have hat41 : cl41.slots[((3 : Int32)).toNatClampNeg]? = some (.int (97 : Int32)) := Has.at U41 hin41 rfl
  have k42 : Way p e below S0 s₁ (mkF m 21 #[rv b1, rv b2, iv (3 : Int32)] [(.int (97 : Int32)), (.int (97 : Int32))]) := fun t k => k40 t (X0.baloadBytes hx (j := (3 : Int32)) (v := (.int (97 : Int32))) (by rw [e0]; exact Ar41.1) (State.isArrayOf_alike hZ.alike Ar41.2.1) Ar41.2.2 hin41 hat41 (g := (mkF m 20 #[rv b1, rv b2, iv (3 : Int32)] [(.int (3 : Int32)), (.ref b2), (.int (97 : Int32))])) rfl rfl (hb hby d_jdk_43_method_13_code_20) _ k)
  have k43 : Way p e below S0 s₁ (mkF m 11 #[rv b1, rv b2, iv (4 : Int32)] [(.ref b1), (.int (4 : Int32))]) := by
    intro t k
    refine k42 t ?_
    refine XS.icmpYes X0.here hx rfl (pc0 := 21) (pc' := 26) rfl (hb hby d_jdk_43_method_13_code_21) rfl (teq ((by decide) : (97 : Int32) = (97 : Int32))).1 (by decide) (by decide) ?_
    show Steps p.tables e below (s₁.setTop (mkF m 26 #[rv b1, rv b2, iv (3 : Int32)] [])) _
    refine XS.iinc X0.here hx rfl (hb hby d_jdk_43_method_13_code_26) rfl (l' := #[rv b1, rv b2, iv (4 : Int32)]) rfl ?_
    show Steps p.tables e below (s₁.setTop (mkF m 29 #[rv b1, rv b2, iv (4 : Int32)] [])) _
    refine XS.goto X0.here hx rfl (pc0 := 29) (pc' := 9) rfl (hb hby d_jdk_43_method_13_code_29) (by decide) (by decide) ?_
    show Steps p.tables e below (s₁.setTop (mkF m 9 #[rv b1, rv b2, iv (4 : Int32)] [])) _
    refine XS.iloadN X0.here hx rfl (hb hby d_jdk_43_method_13_code_9) rfl ?_
    show Steps p.tables e below (s₁.setTop (mkF m 10 #[rv b1, rv b2, iv (4 : Int32)] [(.int (4 : Int32))])) _
    refine XS.aloadN X0.here hx rfl (hb hby d_jdk_43_method_13_code_10) rfl rfl ?_
    show Steps p.tables e below (s₁.setTop (mkF m 11 #[rv b1, rv b2, iv (4 : Int32)] [(.ref b1), (.int (4 : Int32))])) _
    exact k
  obtain ⟨cl44, Ar44, -, S44, M44, -, -⟩ := id (a_0)
  have k45 : Way p e below S0 s₁ (mkF m 12 #[rv b1, rv b2, iv (4 : Int32)] [(.int (8 : Int32)), (.int (4 : Int32))]) := fun t k => k43 t (X0.arraylength hx (by rw [e0]; exact Ar44.1) (State.isArrayOf_alike hZ.alike Ar44.2.1) (g := (mkF m 11 #[rv b1, rv b2, iv (4 : Int32)] [(.ref b1), (.int (4 : Int32))])) rfl rfl (hb hby d_jdk_43_method_13_code_11) _ (by rw [len_of S44 M44]; exact k))
  have k46 : Way p e below S0 s₁ (mkF m 17 #[rv b1, rv b2, iv (4 : Int32)] [(.int (4 : Int32)), (.ref b1)]) := by
    intro t k
    refine k45 t ?_
    refine XS.icmpNo X0.here hx rfl (hb hby d_jdk_43_method_13_code_12) rfl (tlt ((by decide) : (4 : Int32) < (8 : Int32))).2.1 ?_
    show Steps p.tables e below (s₁.setTop (mkF m 15 #[rv b1, rv b2, iv (4 : Int32)] [])) _
    refine XS.aloadN X0.here hx rfl (hb hby d_jdk_43_method_13_code_15) rfl rfl ?_
    show Steps p.tables e below (s₁.setTop (mkF m 16 #[rv b1, rv b2, iv (4 : Int32)] [(.ref b1)])) _
    refine XS.iloadN X0.here hx rfl (hb hby d_jdk_43_method_13_code_16) rfl ?_
    show Steps p.tables e below (s₁.setTop (mkF m 17 #[rv b1, rv b2, iv (4 : Int32)] [(.int (4 : Int32)), (.ref b1)])) _
    exact k
  obtain ⟨cl47, Ar47, qc47, S47, M47, U47, G47⟩ := id (a_0)
  have hin47 : ¬ ((4 : Int32) < 0 ∨ cl47.slots.size ≤ ((4 : Int32)).toNatClampNeg) := inb_of S47 ⟨by decide, by decide⟩
  have hat47 : cl47.slots[((4 : Int32)).toNatClampNeg]? = some (.int (115 : Int32)) := Has.at U47 hin47 rfl
  have k48 : Way p e below S0 s₁ (mkF m 18 #[rv b1, rv b2, iv (4 : Int32)] [(.int (115 : Int32))]) := fun t k => k46 t (X0.baloadBytes hx (j := (4 : Int32)) (v := (.int (115 : Int32))) (by rw [e0]; exact Ar47.1) (State.isArrayOf_alike hZ.alike Ar47.2.1) Ar47.2.2 hin47 hat47 (g := (mkF m 17 #[rv b1, rv b2, iv (4 : Int32)] [(.int (4 : Int32)), (.ref b1)])) rfl rfl (hb hby d_jdk_43_method_13_code_17) _ k)
  have k49 : Way p e below S0 s₁ (mkF m 20 #[rv b1, rv b2, iv (4 : Int32)] [(.int (4 : Int32)), (.ref b2), (.int (115 : Int32))]) := by
    intro t k
    refine k48 t ?_
    refine XS.aloadN X0.here hx rfl (hb hby d_jdk_43_method_13_code_18) rfl rfl ?_
    show Steps p.tables e below (s₁.setTop (mkF m 19 #[rv b1, rv b2, iv (4 : Int32)] [(.ref b2), (.int (115 : Int32))])) _
    refine XS.iloadN X0.here hx rfl (hb hby d_jdk_43_method_13_code_19) rfl ?_
    show Steps p.tables e below (s₁.setTop (mkF m 20 #[rv b1, rv b2, iv (4 : Int32)] [(.int (4 : Int32)), (.ref b2), (.int (115 : Int32))])) _
    exact k
  obtain ⟨cl50, Ar50, qc50, S50, M50, U50, G50⟩ := id (a_1)
  have hin50 : ¬ ((4 : Int32) < 0 ∨ cl50.slots.size ≤ ((4 : Int32)).toNatClampNeg) := inb_of S50 ⟨by decide, by decide⟩
  have hat50 : cl50.slots[((4 : Int32)).toNatClampNeg]? = some (.int (115 : Int32)) := Has.at U50 hin50 rfl
  have k51 : Way p e below S0 s₁ (mkF m 21 #[rv b1, rv b2, iv (4 : Int32)] [(.int (115 : Int32)), (.int (115 : Int32))]) := fun t k => k49 t (X0.baloadBytes hx (j := (4 : Int32)) (v := (.int (115 : Int32))) (by rw [e0]; exact Ar50.1) (State.isArrayOf_alike hZ.alike Ar50.2.1) Ar50.2.2 hin50 hat50 (g := (mkF m 20 #[rv b1, rv b2, iv (4 : Int32)] [(.int (4 : Int32)), (.ref b2), (.int (115 : Int32))])) rfl rfl (hb hby d_jdk_43_method_13_code_20) _ k)
  have k52 : Way p e below S0 s₁ (mkF m 11 #[rv b1, rv b2, iv (5 : Int32)] [(.ref b1), (.int (5 : Int32))]) := by
    intro t k
    refine k51 t ?_
    refine XS.icmpYes X0.here hx rfl (pc0 := 21) (pc' := 26) rfl (hb hby d_jdk_43_method_13_code_21) rfl (teq ((by decide) : (115 : Int32) = (115 : Int32))).1 (by decide) (by decide) ?_
    show Steps p.tables e below (s₁.setTop (mkF m 26 #[rv b1, rv b2, iv (4 : Int32)] [])) _
    refine XS.iinc X0.here hx rfl (hb hby d_jdk_43_method_13_code_26) rfl (l' := #[rv b1, rv b2, iv (5 : Int32)]) rfl ?_
    show Steps p.tables e below (s₁.setTop (mkF m 29 #[rv b1, rv b2, iv (5 : Int32)] [])) _
    refine XS.goto X0.here hx rfl (pc0 := 29) (pc' := 9) rfl (hb hby d_jdk_43_method_13_code_29) (by decide) (by decide) ?_
    show Steps p.tables e below (s₁.setTop (mkF m 9 #[rv b1, rv b2, iv (5 : Int32)] [])) _
    refine XS.iloadN X0.here hx rfl (hb hby d_jdk_43_method_13_code_9) rfl ?_
    show Steps p.tables e below (s₁.setTop (mkF m 10 #[rv b1, rv b2, iv (5 : Int32)] [(.int (5 : Int32))])) _
    refine XS.aloadN X0.here hx rfl (hb hby d_jdk_43_method_13_code_10) rfl rfl ?_
    show Steps p.tables e below (s₁.setTop (mkF m 11 #[rv b1, rv b2, iv (5 : Int32)] [(.ref b1), (.int (5 : Int32))])) _
    exact k
  obtain ⟨cl53, Ar53, -, S53, M53, -, -⟩ := id (a_0)
  have k54 : Way p e below S0 s₁ (mkF m 12 #[rv b1, rv b2, iv (5 : Int32)] [(.int (8 : Int32)), (.int (5 : Int32))]) := fun t k => k52 t (X0.arraylength hx (by rw [e0]; exact Ar53.1) (State.isArrayOf_alike hZ.alike Ar53.2.1) (g := (mkF m 11 #[rv b1, rv b2, iv (5 : Int32)] [(.ref b1), (.int (5 : Int32))])) rfl rfl (hb hby d_jdk_43_method_13_code_11) _ (by rw [len_of S53 M53]; exact k))
  have k55 : Way p e below S0 s₁ (mkF m 17 #[rv b1, rv b2, iv (5 : Int32)] [(.int (5 : Int32)), (.ref b1)]) := by
    intro t k
    refine k54 t ?_
    refine XS.icmpNo X0.here hx rfl (hb hby d_jdk_43_method_13_code_12) rfl (tlt ((by decide) : (5 : Int32) < (8 : Int32))).2.1 ?_
    show Steps p.tables e below (s₁.setTop (mkF m 15 #[rv b1, rv b2, iv (5 : Int32)] [])) _
    refine XS.aloadN X0.here hx rfl (hb hby d_jdk_43_method_13_code_15) rfl rfl ?_
    show Steps p.tables e below (s₁.setTop (mkF m 16 #[rv b1, rv b2, iv (5 : Int32)] [(.ref b1)])) _
    refine XS.iloadN X0.here hx rfl (hb hby d_jdk_43_method_13_code_16) rfl ?_
    show Steps p.tables e below (s₁.setTop (mkF m 17 #[rv b1, rv b2, iv (5 : Int32)] [(.int (5 : Int32)), (.ref b1)])) _
    exact k
  obtain ⟨cl56, Ar56, qc56, S56, M56, U56, G56⟩ := id (a_0)
  have hin56 : ¬ ((5 : Int32) < 0 ∨ cl56.slots.size ≤ ((5 : Int32)).toNatClampNeg) := inb_of S56 ⟨by decide, by decide⟩
  have hat56 : cl56.slots[((5 : Int32)).toNatClampNeg]? = some (.int (107 : Int32)) := Has.at U56 hin56 rfl
  have k57 : Way p e below S0 s₁ (mkF m 18 #[rv b1, rv b2, iv (5 : Int32)] [(.int (107 : Int32))]) := fun t k => k55 t (X0.baloadBytes hx (j := (5 : Int32)) (v := (.int (107 : Int32))) (by rw [e0]; exact Ar56.1) (State.isArrayOf_alike hZ.alike Ar56.2.1) Ar56.2.2 hin56 hat56 (g := (mkF m 17 #[rv b1, rv b2, iv (5 : Int32)] [(.int (5 : Int32)), (.ref b1)])) rfl rfl (hb hby d_jdk_43_method_13_code_17) _ k)
  have k58 : Way p e below S0 s₁ (mkF m 20 #[rv b1, rv b2, iv (5 : Int32)] [(.int (5 : Int32)), (.ref b2), (.int (107 : Int32))]) := by
    intro t k
    refine k57 t ?_
    refine XS.aloadN X0.here hx rfl (hb hby d_jdk_43_method_13_code_18) rfl rfl ?_
    show Steps p.tables e below (s₁.setTop (mkF m 19 #[rv b1, rv b2, iv (5 : Int32)] [(.ref b2), (.int (107 : Int32))])) _
    refine XS.iloadN X0.here hx rfl (hb hby d_jdk_43_method_13_code_19) rfl ?_
    show Steps p.tables e below (s₁.setTop (mkF m 20 #[rv b1, rv b2, iv (5 : Int32)] [(.int (5 : Int32)), (.ref b2), (.int (107 : Int32))])) _
    exact k
  obtain ⟨cl59, Ar59, qc59, S59, M59, U59, G59⟩ := id (a_1)
  have hin59 : ¬ ((5 : Int32) < 0 ∨ cl59.slots.size ≤ ((5 : Int32)).toNatClampNeg) := inb_of S59 ⟨by decide, by decide⟩
  have hat59 : cl59.slots[((5 : Int32)).toNatClampNeg]? = some (.int (107 : Int32)) := Has.at U59 hin59 rfl
  have k60 : Way p e below S0 s₁ (mkF m 21 #[rv b1, rv b2, iv (5 : Int32)] [(.int (107 : Int32)), (.int (107 : Int32))]) := fun t k => k58 t (X0.baloadBytes hx (j := (5 : Int32)) (v := (.int (107 : Int32))) (by rw [e0]; exact Ar59.1) (State.isArrayOf_alike hZ.alike Ar59.2.1) Ar59.2.2 hin59 hat59 (g := (mkF m 20 #[rv b1, rv b2, iv (5 : Int32)] [(.int (5 : Int32)), (.ref b2), (.int (107 : Int32))])) rfl rfl (hb hby d_jdk_43_method_13_code_20) _ k)
  have k61 : Way p e below S0 s₁ (mkF m 11 #[rv b1, rv b2, iv (6 : Int32)] [(.ref b1), (.int (6 : Int32))]) := by
    intro t k
    refine k60 t ?_
    refine XS.icmpYes X0.here hx rfl (pc0 := 21) (pc' := 26) rfl (hb hby d_jdk_43_method_13_code_21) rfl (teq ((by decide) : (107 : Int32) = (107 : Int32))).1 (by decide) (by decide) ?_
    show Steps p.tables e below (s₁.setTop (mkF m 26 #[rv b1, rv b2, iv (5 : Int32)] [])) _
    refine XS.iinc X0.here hx rfl (hb hby d_jdk_43_method_13_code_26) rfl (l' := #[rv b1, rv b2, iv (6 : Int32)]) rfl ?_
    show Steps p.tables e below (s₁.setTop (mkF m 29 #[rv b1, rv b2, iv (6 : Int32)] [])) _
    refine XS.goto X0.here hx rfl (pc0 := 29) (pc' := 9) rfl (hb hby d_jdk_43_method_13_code_29) (by decide) (by decide) ?_
    show Steps p.tables e below (s₁.setTop (mkF m 9 #[rv b1, rv b2, iv (6 : Int32)] [])) _
    refine XS.iloadN X0.here hx rfl (hb hby d_jdk_43_method_13_code_9) rfl ?_
    show Steps p.tables e below (s₁.setTop (mkF m 10 #[rv b1, rv b2, iv (6 : Int32)] [(.int (6 : Int32))])) _
    refine XS.aloadN X0.here hx rfl (hb hby d_jdk_43_method_13_code_10) rfl rfl ?_
    show Steps p.tables e below (s₁.setTop (mkF m 11 #[rv b1, rv b2, iv (6 : Int32)] [(.ref b1), (.int (6 : Int32))])) _
    exact k
  obtain ⟨cl62, Ar62, -, S62, M62, -, -⟩ := id (a_0)
  have k63 : Way p e below S0 s₁ (mkF m 12 #[rv b1, rv b2, iv (6 : Int32)] [(.int (8 : Int32)), (.int (6 : Int32))]) := fun t k => k61 t (X0.arraylength hx (by rw [e0]; exact Ar62.1) (State.isArrayOf_alike hZ.alike Ar62.2.1) (g := (mkF m 11 #[rv b1, rv b2, iv (6 : Int32)] [(.ref b1), (.int (6 : Int32))])) rfl rfl (hb hby d_jdk_43_method_13_code_11) _ (by rw [len_of S62 M62]; exact k))
  have k64 : Way p e below S0 s₁ (mkF m 17 #[rv b1, rv b2, iv (6 : Int32)] [(.int (6 : Int32)), (.ref b1)]) := by
    intro t k
    refine k63 t ?_
    refine XS.icmpNo X0.here hx rfl (hb hby d_jdk_43_method_13_code_12) rfl (tlt ((by decide) : (6 : Int32) < (8 : Int32))).2.1 ?_
    show Steps p.tables e below (s₁.setTop (mkF m 15 #[rv b1, rv b2, iv (6 : Int32)] [])) _
    refine XS.aloadN X0.here hx rfl (hb hby d_jdk_43_method_13_code_15) rfl rfl ?_
    show Steps p.tables e below (s₁.setTop (mkF m 16 #[rv b1, rv b2, iv (6 : Int32)] [(.ref b1)])) _
    refine XS.iloadN X0.here hx rfl (hb hby d_jdk_43_method_13_code_16) rfl ?_
    show Steps p.tables e below (s₁.setTop (mkF m 17 #[rv b1, rv b2, iv (6 : Int32)] [(.int (6 : Int32)), (.ref b1)])) _
    exact k
  obtain ⟨cl65, Ar65, qc65, S65, M65, U65, G65⟩ := id (a_0)
  have hin65 : ¬ ((6 : Int32) < 0 ∨ cl65.slots.size ≤ ((6 : Int32)).toNatClampNeg) := inb_of S65 ⟨by decide, by decide⟩
  have hat65 : cl65.slots[((6 : Int32)).toNatClampNeg]? = some (.int (101 : Int32)) := Has.at U65 hin65 rfl
  have k66 : Way p e below S0 s₁ (mkF m 18 #[rv b1, rv b2, iv (6 : Int32)] [(.int (101 : Int32))]) := fun t k => k64 t (X0.baloadBytes hx (j := (6 : Int32)) (v := (.int (101 : Int32))) (by rw [e0]; exact Ar65.1) (State.isArrayOf_alike hZ.alike Ar65.2.1) Ar65.2.2 hin65 hat65 (g := (mkF m 17 #[rv b1, rv b2, iv (6 : Int32)] [(.int (6 : Int32)), (.ref b1)])) rfl rfl (hb hby d_jdk_43_method_13_code_17) _ k)
  have k67 : Way p e below S0 s₁ (mkF m 20 #[rv b1, rv b2, iv (6 : Int32)] [(.int (6 : Int32)), (.ref b2), (.int (101 : Int32))]) := by
    intro t k
    refine k66 t ?_
    refine XS.aloadN X0.here hx rfl (hb hby d_jdk_43_method_13_code_18) rfl rfl ?_
    show Steps p.tables e below (s₁.setTop (mkF m 19 #[rv b1, rv b2, iv (6 : Int32)] [(.ref b2), (.int (101 : Int32))])) _
    refine XS.iloadN X0.here hx rfl (hb hby d_jdk_43_method_13_code_19) rfl ?_
    show Steps p.tables e below (s₁.setTop (mkF m 20 #[rv b1, rv b2, iv (6 : Int32)] [(.int (6 : Int32)), (.ref b2), (.int (101 : Int32))])) _
    exact k
  obtain ⟨cl68, Ar68, qc68, S68, M68, U68, G68⟩ := id (a_1)
  have hin68 : ¬ ((6 : Int32) < 0 ∨ cl68.slots.size ≤ ((6 : Int32)).toNatClampNeg) := inb_of S68 ⟨by decide, by decide⟩
  have hat68 : cl68.slots[((6 : Int32)).toNatClampNeg]? = some (.int (101 : Int32)) := Has.at U68 hin68 rfl
  have k69 : Way p e below S0 s₁ (mkF m 21 #[rv b1, rv b2, iv (6 : Int32)] [(.int (101 : Int32)), (.int (101 : Int32))]) := fun t k => k67 t (X0.baloadBytes hx (j := (6 : Int32)) (v := (.int (101 : Int32))) (by rw [e0]; exact Ar68.1) (State.isArrayOf_alike hZ.alike Ar68.2.1) Ar68.2.2 hin68 hat68 (g := (mkF m 20 #[rv b1, rv b2, iv (6 : Int32)] [(.int (6 : Int32)), (.ref b2), (.int (101 : Int32))])) rfl rfl (hb hby d_jdk_43_method_13_code_20) _ k)
  have k70 : Way p e below S0 s₁ (mkF m 11 #[rv b1, rv b2, iv (7 : Int32)] [(.ref b1), (.int (7 : Int32))]) := by
    intro t k
    refine k69 t ?_
    refine XS.icmpYes X0.here hx rfl (pc0 := 21) (pc' := 26) rfl (hb hby d_jdk_43_method_13_code_21) rfl (teq ((by decide) : (101 : Int32) = (101 : Int32))).1 (by decide) (by decide) ?_
    show Steps p.tables e below (s₁.setTop (mkF m 26 #[rv b1, rv b2, iv (6 : Int32)] [])) _
    refine XS.iinc X0.here hx rfl (hb hby d_jdk_43_method_13_code_26) rfl (l' := #[rv b1, rv b2, iv (7 : Int32)]) rfl ?_
    show Steps p.tables e below (s₁.setTop (mkF m 29 #[rv b1, rv b2, iv (7 : Int32)] [])) _
    refine XS.goto X0.here hx rfl (pc0 := 29) (pc' := 9) rfl (hb hby d_jdk_43_method_13_code_29) (by decide) (by decide) ?_
    show Steps p.tables e below (s₁.setTop (mkF m 9 #[rv b1, rv b2, iv (7 : Int32)] [])) _
    refine XS.iloadN X0.here hx rfl (hb hby d_jdk_43_method_13_code_9) rfl ?_
    show Steps p.tables e below (s₁.setTop (mkF m 10 #[rv b1, rv b2, iv (7 : Int32)] [(.int (7 : Int32))])) _
    refine XS.aloadN X0.here hx rfl (hb hby d_jdk_43_method_13_code_10) rfl rfl ?_
    show Steps p.tables e below (s₁.setTop (mkF m 11 #[rv b1, rv b2, iv (7 : Int32)] [(.ref b1), (.int (7 : Int32))])) _
    exact k
  obtain ⟨cl71, Ar71, -, S71, M71, -, -⟩ := id (a_0)
  have k72 : Way p e below S0 s₁ (mkF m 12 #[rv b1, rv b2, iv (7 : Int32)] [(.int (8 : Int32)), (.int (7 : Int32))]) := fun t k => k70 t (X0.arraylength hx (by rw [e0]; exact Ar71.1) (State.isArrayOf_alike hZ.alike Ar71.2.1) (g := (mkF m 11 #[rv b1, rv b2, iv (7 : Int32)] [(.ref b1), (.int (7 : Int32))])) rfl rfl (hb hby d_jdk_43_method_13_code_11) _ (by rw [len_of S71 M71]; exact k))
  have k73 : Way p e below S0 s₁ (mkF m 17 #[rv b1, rv b2, iv (7 : Int32)] [(.int (7 : Int32)), (.ref b1)]) := by
    intro t k
    refine k72 t ?_
    refine XS.icmpNo X0.here hx rfl (hb hby d_jdk_43_method_13_code_12) rfl (tlt ((by decide) : (7 : Int32) < (8 : Int32))).2.1 ?_
    show Steps p.tables e below (s₁.setTop (mkF m 15 #[rv b1, rv b2, iv (7 : Int32)] [])) _
    refine XS.aloadN X0.here hx rfl (hb hby d_jdk_43_method_13_code_15) rfl rfl ?_
    show Steps p.tables e below (s₁.setTop (mkF m 16 #[rv b1, rv b2, iv (7 : Int32)] [(.ref b1)])) _
    refine XS.iloadN X0.here hx rfl (hb hby d_jdk_43_method_13_code_16) rfl ?_
    show Steps p.tables e below (s₁.setTop (mkF m 17 #[rv b1, rv b2, iv (7 : Int32)] [(.int (7 : Int32)), (.ref b1)])) _
    exact k
  obtain ⟨cl74, Ar74, qc74, S74, M74, U74, G74⟩ := id (a_0)
  have hin74 : ¬ ((7 : Int32) < 0 ∨ cl74.slots.size ≤ ((7 : Int32)).toNatClampNeg) := inb_of S74 ⟨by decide, by decide⟩
  have hat74 : cl74.slots[((7 : Int32)).toNatClampNeg]? = some (.int (100 : Int32)) := Has.at U74 hin74 rfl
  have k75 : Way p e below S0 s₁ (mkF m 18 #[rv b1, rv b2, iv (7 : Int32)] [(.int (100 : Int32))]) := fun t k => k73 t (X0.baloadBytes hx (j := (7 : Int32)) (v := (.int (100 : Int32))) (by rw [e0]; exact Ar74.1) (State.isArrayOf_alike hZ.alike Ar74.2.1) Ar74.2.2 hin74 hat74 (g := (mkF m 17 #[rv b1, rv b2, iv (7 : Int32)] [(.int (7 : Int32)), (.ref b1)])) rfl rfl (hb hby d_jdk_43_method_13_code_17) _ k)
  have k76 : Way p e below S0 s₁ (mkF m 20 #[rv b1, rv b2, iv (7 : Int32)] [(.int (7 : Int32)), (.ref b2), (.int (100 : Int32))]) := by
    intro t k
    refine k75 t ?_
    refine XS.aloadN X0.here hx rfl (hb hby d_jdk_43_method_13_code_18) rfl rfl ?_
    show Steps p.tables e below (s₁.setTop (mkF m 19 #[rv b1, rv b2, iv (7 : Int32)] [(.ref b2), (.int (100 : Int32))])) _
    refine XS.iloadN X0.here hx rfl (hb hby d_jdk_43_method_13_code_19) rfl ?_
    show Steps p.tables e below (s₁.setTop (mkF m 20 #[rv b1, rv b2, iv (7 : Int32)] [(.int (7 : Int32)), (.ref b2), (.int (100 : Int32))])) _
    exact k
  obtain ⟨cl77, Ar77, qc77, S77, M77, U77, G77⟩ := id (a_1)
  have hin77 : ¬ ((7 : Int32) < 0 ∨ cl77.slots.size ≤ ((7 : Int32)).toNatClampNeg) := inb_of S77 ⟨by decide, by decide⟩
  have hat77 : cl77.slots[((7 : Int32)).toNatClampNeg]? = some (.int (100 : Int32)) := Has.at U77 hin77 rfl
  have k78 : Way p e below S0 s₁ (mkF m 21 #[rv b1, rv b2, iv (7 : Int32)] [(.int (100 : Int32)), (.int (100 : Int32))]) := fun t k => k76 t (X0.baloadBytes hx (j := (7 : Int32)) (v := (.int (100 : Int32))) (by rw [e0]; exact Ar77.1) (State.isArrayOf_alike hZ.alike Ar77.2.1) Ar77.2.2 hin77 hat77 (g := (mkF m 20 #[rv b1, rv b2, iv (7 : Int32)] [(.int (7 : Int32)), (.ref b2), (.int (100 : Int32))])) rfl rfl (hb hby d_jdk_43_method_13_code_20) _ k)
  have k79 : Way p e below S0 s₁ (mkF m 11 #[rv b1, rv b2, iv (8 : Int32)] [(.ref b1), (.int (8 : Int32))]) := by
    intro t k
    refine k78 t ?_
    refine XS.icmpYes X0.here hx rfl (pc0 := 21) (pc' := 26) rfl (hb hby d_jdk_43_method_13_code_21) rfl (teq ((by decide) : (100 : Int32) = (100 : Int32))).1 (by decide) (by decide) ?_
    show Steps p.tables e below (s₁.setTop (mkF m 26 #[rv b1, rv b2, iv (7 : Int32)] [])) _
    refine XS.iinc X0.here hx rfl (hb hby d_jdk_43_method_13_code_26) rfl (l' := #[rv b1, rv b2, iv (8 : Int32)]) rfl ?_
    show Steps p.tables e below (s₁.setTop (mkF m 29 #[rv b1, rv b2, iv (8 : Int32)] [])) _
    refine XS.goto X0.here hx rfl (pc0 := 29) (pc' := 9) rfl (hb hby d_jdk_43_method_13_code_29) (by decide) (by decide) ?_
    show Steps p.tables e below (s₁.setTop (mkF m 9 #[rv b1, rv b2, iv (8 : Int32)] [])) _
    refine XS.iloadN X0.here hx rfl (hb hby d_jdk_43_method_13_code_9) rfl ?_
    show Steps p.tables e below (s₁.setTop (mkF m 10 #[rv b1, rv b2, iv (8 : Int32)] [(.int (8 : Int32))])) _
    refine XS.aloadN X0.here hx rfl (hb hby d_jdk_43_method_13_code_10) rfl rfl ?_
    show Steps p.tables e below (s₁.setTop (mkF m 11 #[rv b1, rv b2, iv (8 : Int32)] [(.ref b1), (.int (8 : Int32))])) _
    exact k
  obtain ⟨cl80, Ar80, -, S80, M80, -, -⟩ := id (a_0)
  have k81 : Way p e below S0 s₁ (mkF m 12 #[rv b1, rv b2, iv (8 : Int32)] [(.int (8 : Int32)), (.int (8 : Int32))]) := fun t k => k79 t (X0.arraylength hx (by rw [e0]; exact Ar80.1) (State.isArrayOf_alike hZ.alike Ar80.2.1) (g := (mkF m 11 #[rv b1, rv b2, iv (8 : Int32)] [(.ref b1), (.int (8 : Int32))])) rfl rfl (hb hby d_jdk_43_method_13_code_11) _ (by rw [len_of S80 M80]; exact k))
  have k82 : Way p e below S0 s₁ (mkF m 33 #[rv b1, rv b2, iv (8 : Int32)] [(.int (1 : Int32))]) := by
    intro t k
    refine k81 t ?_
    refine XS.icmpYes X0.here hx rfl (pc0 := 12) (pc' := 32) rfl (hb hby d_jdk_43_method_13_code_12) rfl (flt ((by decide) : ¬ ((8 : Int32) < (8 : Int32)))).2.1 (by decide) (by decide) ?_
    show Steps p.tables e below (s₁.setTop (mkF m 32 #[rv b1, rv b2, iv (8 : Int32)] [])) _
    refine XS.iconst X0.here hx rfl (hb hby d_jdk_43_method_13_code_32) ?_
    show Steps p.tables e below (s₁.setTop (mkF m 33 #[rv b1, rv b2, iv (8 : Int32)] [(.int (1 : Int32))])) _
    exact k
  obtain ⟨fs, hr, hrun, hended, hW, hsame⟩ := X0.leave (v := some (.int (1 : Int32))) (fun h => by rw [Bd.returns] at h; cases h)
  refine ⟨_, _, k82 _ (retN X0 hx (t := .boolean) Bd.returns (by simp) (hb hby d_jdk_43_method_13_code_33) hr), hrun, hended, _, _, rfl, ?_, ⟨_, rfl⟩, hW, hsame.mono (by decide) (by decide)⟩
  show Q_leq11 Z w_NONE w_VIEW w_EDIT wCS b1 b2 kk1 kk2 h0 n0 _ s₁.heap _
  rw [e0]
  exact ⟨rfl, N0, rfl⟩
def Q_seq00 (Z : State) (w_NONE : Addr) (w_VIEW : Addr) (w_EDIT : Addr) (wCS : Int32) (a1 : Addr) (a2 : Addr) (b1 : Addr) (b2 : Addr) (kk1 : ClassId) (kk2 : ClassId) (h0 : Heap) (n0 : Nat) (v : Option Value) (h : Heap) (L : List Loc) : Prop := (v = some (.int (1 : Int32))) ∧ (Fr n0 L) ∧ (h = h0)
set_option maxRecDepth 65536 in
set_option maxHeartbeats 40000000 in
theorem seq00 (l : Launch) (Z : State) (a0 : Array Value) (hw : ∀ d ∈ tables_1, d.before a0 Z = true) (ws : List Jvm.Cond) (w_NONE : Addr) (w_VIEW : Addr) (w_EDIT : Addr) (wCS : Int32) (G : Gst Z w_NONE w_VIEW w_EDIT wCS) (a1 : Addr) (a2 : Addr) (b1 : Addr) (b2 : Addr) (kk1 : ClassId) (kk2 : ClassId) (h0 : Heap) (n0 : Nat) (O0 : Old Z n0 h0) (a_0 : Fld Z h0 a1 "java/lang/String" "coder" "B" (.int (0 : Int32))) (a_1 : Fld Z h0 a1 "java/lang/String" "value" "[B" (.ref b1)) (a_2 : Arv Z h0 b1 kk1 .byte (6 : Int32) [(.int (109 : Int32)), (.int (97 : Int32)), (.int (115 : Int32)), (.int (107 : Int32)), (.int (101 : Int32)), (.int (100 : Int32))] (.int (0 : Int32))) (a_3 : Exa Z h0 a2 "java/lang/String") (a_4 : Fld Z h0 a2 "java/lang/String" "coder" "B" (.int (0 : Int32))) (a_5 : Fld Z h0 a2 "java/lang/String" "value" "[B" (.ref b2)) (a_6 : Arv Z h0 b2 kk2 .byte (6 : Int32) [(.int (109 : Int32)), (.int (97 : Int32)), (.int (115 : Int32)), (.int (107 : Int32)), (.int (101 : Int32)), (.int (100 : Int32))] (.int (0 : Int32))) :
    MetFree l (⟨"java/lang/String", "equals", "(Ljava/lang/Object;)Z"⟩ : MethodName) (head1 (Jvm.Cond.code (⟨"java/lang/String", "equals", "(Ljava/lang/Object;)Z"⟩ : MethodName) jdk_42_method_66_code 3 (some .boolean) :: ws) ({ frames := 1, cells := 0, slots := 0, locals := 14 } : Room)) (fun a U => a = #[(.ref a1), (.ref a2)] ∧ Z.Warmed39 U.vm ∧ U.heap = h0) (fun _ _ _ _ _ => True) (fun _ U o U' => ∃ v L, o = .returned v ∧ Q_seq00 Z w_NONE w_VIEW w_EDIT wCS a1 a2 b1 b2 kk1 kk2 h0 n0 v U'.heap L ∧ FrameEnd U o U' L ({ frames := 1, cells := 0, slots := 0, locals := 14 } : Room).cells ({ frames := 1, cells := 0, slots := 0, locals := 14 } : Room).slots) := by
  refine MetFree.of_bodySF (plainFor_of_name pn_4) hisR ?_
  intro p e s m args below meth c s₁ Bd hml0 hP hK
  obtain ⟨rfl, hZ, hh⟩ := hP
  have hx := Bd.exec
  have hby := Bd.bytes
  have hml : c.maxLocals = 3 := hml0
  have hown : s.vm.findClass "java/lang/String" = some m.cls := findClass_of_methodNamed Bd.named
  have hnm := (name_of_methodNamed Bd.named Bd.method).1
  have X0 : Stand p l e ({ frames := 1, cells := 0, slots := 0, locals := 14 } : Room) s m #[(.ref a1), (.ref a2)] below meth c s₁ [] 0 0 := Stand.of_body Bd
  have e0 : s₁.heap = h0 := by rw [← hh, Bd.state]; rfl
  have N0 := Fr.nil n0
  obtain ⟨S_w_NONE, E_w_NONE, F_w_NONE_ordinal, S_w_VIEW, E_w_VIEW, F_w_VIEW_ordinal, S_w_EDIT, E_w_EDIT, F_w_EDIT_ordinal, S_CS, hCS⟩ := id G
  have k0 : Way p e below (s₁.setTop (entryFrame m #[(.ref a1), (.ref a2)] 3)) s₁ (mkF m 0 #[rv a1, rv a2, .unset] []) := fun t k => castTop (by first | (simp [entryFrame, mkF, argsToLocals, Value.category]; done) | rfl) k
  generalize s₁.setTop (entryFrame m #[(.ref a1), (.ref a2)] 3) = S0 at k0 ⊢
  have k2 : Way p e below S0 s₁ (mkF m 2 #[rv a1, rv a2, .unset] [(.ref a2), (.ref a1)]) := by
    intro t k
    refine k0 t ?_
    refine XS.aloadN X0.here hx rfl (hb hby d_jdk_42_method_66_code_0) rfl rfl ?_
    show Steps p.tables e below (s₁.setTop (mkF m 1 #[rv a1, rv a2, .unset] [(.ref a1)])) _
    refine XS.aloadN X0.here hx rfl (hb hby d_jdk_42_method_66_code_1) rfl rfl ?_
    show Steps p.tables e below (s₁.setTop (mkF m 2 #[rv a1, rv a2, .unset] [(.ref a2), (.ref a1)])) _
    exact k
  by_cases hc1 : a1 = a2
  · have k3 : Way p e below S0 s₁ (mkF m 6 #[rv a1, rv a2, .unset] [(.int (1 : Int32))]) := by
      intro t k
      refine k2 t ?_
      refine Jvm.RoadKit.acmp (g := (mkF m 2 #[rv a1, rv a2, .unset] [(.ref a2), (.ref a1)])) X0 hx rfl rfl rfl (pc0 := 2) (pc' := 5) (same := true) rfl (hb hby d_jdk_42_method_66_code_2) rfl (decide_eq_true (congrArg Value.ref hc1)) (by decide) (by decide) ?_
      show Steps p.tables e below (s₁.setTop (mkF m 5 #[rv a1, rv a2, .unset] [])) _
      refine XS.iconst X0.here hx rfl (hb hby d_jdk_42_method_66_code_5) ?_
      show Steps p.tables e below (s₁.setTop (mkF m 6 #[rv a1, rv a2, .unset] [(.int (1 : Int32))])) _
      exact k
    obtain ⟨fs, hr, hrun, hended, hW, hsame⟩ := X0.leave (v := some (.int (1 : Int32))) (fun h => by rw [Bd.returns] at h; cases h)
    refine ⟨_, _, k3 _ (retN X0 hx (t := .boolean) Bd.returns (by simp) (hb hby d_jdk_42_method_66_code_6) hr), hrun, hended, _, _, rfl, ?_, ⟨_, rfl⟩, hW, hsame.mono (by decide) (by decide)⟩
    show Q_seq00 Z w_NONE w_VIEW w_EDIT wCS a1 a2 b1 b2 kk1 kk2 h0 n0 _ s₁.heap _
    rw [e0]
    exact ⟨rfl, N0, rfl⟩
  · have k4 : Way p e below S0 s₁ (mkF m 8 #[rv a1, rv a2, .unset] [(.ref a2)]) := by
      intro t k
      refine k2 t ?_
      refine Jvm.RoadKit.acmp (g := (mkF m 2 #[rv a1, rv a2, .unset] [(.ref a2), (.ref a1)])) X0 hx rfl rfl rfl (pc0 := 2) (pc' := 7) (same := false) rfl (hb hby d_jdk_42_method_66_code_2) rfl (decide_eq_false fun q => absurd (Value.ref.inj q) hc1) (by decide) (by decide) ?_
      show Steps p.tables e below (s₁.setTop (mkF m 7 #[rv a1, rv a2, .unset] [])) _
      refine XS.aloadN X0.here hx rfl (hb hby d_jdk_42_method_66_code_7) rfl rfl ?_
      show Steps p.tables e below (s₁.setTop (mkF m 8 #[rv a1, rv a2, .unset] [(.ref a2)])) _
      exact k
    obtain ⟨T5, X5, e5, st5⟩ := instY X0 hx hZ hown (hw _ (List.mem_of_getElem? (i := 48) rfl)) e0 (Ins.self a_3) (g := (mkF m 8 #[rv a1, rv a2, .unset] [(.ref a2)])) rfl rfl (hb hby d_jdk_42_method_66_code_8)
    have k6 : Way p e below S0 T5 (mkF m 11 #[rv a1, rv a2, .unset] [(.int (1 : Int32))]) := fun t k => k4 t (st5 _ k)
    have k7 : Way p e below S0 T5 (mkF m 15 #[rv a1, rv a2, .unset] [(.ref a2)]) := by
      intro t k
      refine k6 t ?_
      refine XS.ifNo X5.here hx rfl (hb hby d_jdk_42_method_66_code_11) rfl ((if0 _ _).trans (feq ((by decide) : ¬ ((1 : Int32) = (0 : Int32)))).1) ?_
      show Steps p.tables e below (T5.setTop (mkF m 14 #[rv a1, rv a2, .unset] [])) _
      refine XS.aloadN X5.here hx rfl (hb hby d_jdk_42_method_66_code_14) rfl rfl ?_
      show Steps p.tables e below (T5.setTop (mkF m 15 #[rv a1, rv a2, .unset] [(.ref a2)])) _
      exact k
    obtain ⟨T8, X8, e8, st8⟩ := castY X5 hx hZ hown (hw _ (List.mem_of_getElem? (i := 48) rfl)) e5 (Ins.self a_3) (g := (mkF m 15 #[rv a1, rv a2, .unset] [(.ref a2)])) rfl rfl (hb hby d_jdk_42_method_66_code_15)
    have k9 : Way p e below S0 T8 (mkF m 18 #[rv a1, rv a2, .unset] [(.ref a2)]) := fun t k => k7 t (st8 _ k)
    have k10 : Way p e below S0 T8 (mkF m 19 #[rv a1, rv a2, rv a2] []) := by
      intro t k
      refine k9 t ?_
      refine XS.astoreN X8.here hx rfl (hb hby d_jdk_42_method_66_code_18) rfl rfl (l' := #[rv a1, rv a2, rv a2]) rfl ?_
      show Steps p.tables e below (T8.setTop (mkF m 19 #[rv a1, rv a2, rv a2] [])) _
      exact k
    obtain ⟨T11, X11, e11, st11⟩ := getS2 X8 hx hZ hown (host := "") (Or.inl (hw _ (List.mem_of_getElem? (i := 50) rfl))) Via.refl e8 (S_CS.ext O0.2) (g := (mkF m 19 #[rv a1, rv a2, rv a2] [])) rfl (hb hby d_jdk_42_method_66_code_19)
    have k12 : Way p e below S0 T11 (mkF m 22 #[rv a1, rv a2, rv a2] [(.int wCS)]) := fun t k => k10 t (st11 _ k)
    have k13 : Way p e below S0 T11 (mkF m 26 #[rv a1, rv a2, rv a2] [(.ref a1)]) := by
      intro t k
      refine k12 t ?_
      refine XS.ifNo X11.here hx rfl (hb hby d_jdk_42_method_66_code_22) rfl ((if0 _ _).trans (feq (hCS : ¬ (wCS = (0 : Int32)))).1) ?_
      show Steps p.tables e below (T11.setTop (mkF m 25 #[rv a1, rv a2, rv a2] [])) _
      refine XS.aloadN X11.here hx rfl (hb hby d_jdk_42_method_66_code_25) rfl rfl ?_
      show Steps p.tables e below (T11.setTop (mkF m 26 #[rv a1, rv a2, rv a2] [(.ref a1)])) _
      exact k
    obtain ⟨T14, X14, e14, st14⟩ := getF X11 hx hZ hown (host := "") (Or.inl (hw _ (List.mem_of_getElem? (i := 51) rfl))) Via.refl e11 a_0 (g := (mkF m 26 #[rv a1, rv a2, rv a2] [(.ref a1)])) rfl rfl (hb hby d_jdk_42_method_66_code_26)
    have k15 : Way p e below S0 T14 (mkF m 29 #[rv a1, rv a2, rv a2] [(.int (0 : Int32))]) := fun t k => k13 t (st14 _ k)
    have k16 : Way p e below S0 T14 (mkF m 30 #[rv a1, rv a2, rv a2] [(.ref a2), (.int (0 : Int32))]) := by
      intro t k
      refine k15 t ?_
      refine XS.aloadN X14.here hx rfl (hb hby d_jdk_42_method_66_code_29) rfl rfl ?_
      show Steps p.tables e below (T14.setTop (mkF m 30 #[rv a1, rv a2, rv a2] [(.ref a2), (.int (0 : Int32))])) _
      exact k
    obtain ⟨T17, X17, e17, st17⟩ := getF X14 hx hZ hown (host := "") (Or.inl (hw _ (List.mem_of_getElem? (i := 51) rfl))) Via.refl e14 a_4 (g := (mkF m 30 #[rv a1, rv a2, rv a2] [(.ref a2), (.int (0 : Int32))])) rfl rfl (hb hby d_jdk_42_method_66_code_30)
    have k18 : Way p e below S0 T17 (mkF m 33 #[rv a1, rv a2, rv a2] [(.int (0 : Int32)), (.int (0 : Int32))]) := fun t k => k16 t (st17 _ k)
    have k19 : Way p e below S0 T17 (mkF m 37 #[rv a1, rv a2, rv a2] [(.ref a1)]) := by
      intro t k
      refine k18 t ?_
      refine XS.icmpNo X17.here hx rfl (hb hby d_jdk_42_method_66_code_33) rfl (teq ((by decide) : (0 : Int32) = (0 : Int32))).2 ?_
      show Steps p.tables e below (T17.setTop (mkF m 36 #[rv a1, rv a2, rv a2] [])) _
      refine XS.aloadN X17.here hx rfl (hb hby d_jdk_42_method_66_code_36) rfl rfl ?_
      show Steps p.tables e below (T17.setTop (mkF m 37 #[rv a1, rv a2, rv a2] [(.ref a1)])) _
      exact k
    obtain ⟨T20, X20, e20, st20⟩ := getF X17 hx hZ hown (host := "") (Or.inl (hw _ (List.mem_of_getElem? (i := 52) rfl))) Via.refl e17 a_1 (g := (mkF m 37 #[rv a1, rv a2, rv a2] [(.ref a1)])) rfl rfl (hb hby d_jdk_42_method_66_code_37)
    have k21 : Way p e below S0 T20 (mkF m 40 #[rv a1, rv a2, rv a2] [(.ref b1)]) := fun t k => k19 t (st20 _ k)
    have k22 : Way p e below S0 T20 (mkF m 41 #[rv a1, rv a2, rv a2] [(.ref a2), (.ref b1)]) := by
      intro t k
      refine k21 t ?_
      refine XS.aloadN X20.here hx rfl (hb hby d_jdk_42_method_66_code_40) rfl rfl ?_
      show Steps p.tables e below (T20.setTop (mkF m 41 #[rv a1, rv a2, rv a2] [(.ref a2), (.ref b1)])) _
      exact k
    obtain ⟨T23, X23, e23, st23⟩ := getF X20 hx hZ hown (host := "") (Or.inl (hw _ (List.mem_of_getElem? (i := 52) rfl))) Via.refl e20 a_5 (g := (mkF m 41 #[rv a1, rv a2, rv a2] [(.ref a2), (.ref b1)])) rfl rfl (hb hby d_jdk_42_method_66_code_41)
    have k24 : Way p e below S0 T23 (mkF m 44 #[rv a1, rv a2, rv a2] [(.ref b2), (.ref b1)]) := fun t k => k22 t (st23 _ k)
    obtain ⟨_, _, ⟨T25, L25, kk25, nn25⟩, -, X25, ⟨Lc25, hQ25, l25, y25, z25⟩, st25⟩ := Jvm.LawKit.callS X23 hx (y := (⟨"java/lang/StringLatin1", "equals", "([B[B)Z"⟩ : MethodName)) hown (mvT hZ (hw _ (List.mem_of_getElem? (i := 53) rfl))) (mvT hZ (hw _ (List.mem_of_getElem? (i := 54) rfl))) (mvT hZ (hw _ (List.mem_of_getElem? (i := 55) rfl))) (mvT hZ (hw _ (List.mem_of_getElem? (i := 56) rfl))) (by decide) (backOf (W := 0) (leq00 l Z a0 hw [] w_NONE w_VIEW w_EDIT wCS G b1 b2 kk1 kk2 h0 n0 O0 (a_2 : Arv Z h0 b1 kk1 .byte (6 : Int32) [(.int (109 : Int32)), (.int (97 : Int32)), (.int (115 : Int32)), (.int (107 : Int32)), (.int (101 : Int32)), (.int (100 : Int32))] (.int (0 : Int32))) (a_6 : Arv Z h0 b2 kk2 .byte (6 : Int32) [(.int (109 : Int32)), (.int (97 : Int32)), (.int (115 : Int32)), (.int (107 : Int32)), (.int (101 : Int32)), (.int (100 : Int32))] (.int (0 : Int32)))) hZ (hw _ (List.mem_of_getElem? (i := 56) rfl)) (hw _ (List.mem_of_getElem? (i := 55) rfl)) (by decide) (by decide)) (g := (mkF m 44 #[rv a1, rv a2, rv a2] [(.ref b2), (.ref b1)])) rfl (by rw [hml]; rfl) (argsL := [(.ref b1), (.ref b2)]) (rest := []) (lenOf pd_1 rfl) rfl (by show 2 * 0 + _ ≤ _; exact Nat.le_of_eq rfl) (hb hby d_jdk_42_method_66_code_44) (fun _ _ => ⟨rfl, e23, (by decide : 0 + 0 ≤ _), (by decide : 0 + 0 ≤ _)⟩)
    dsimp only [Pt.U, Pt.locs, Pt.cells, Pt.slots] at X25 l25 y25 z25 st25 hQ25
    subst l25 y25 z25
    obtain ⟨rfl, Nq25, e25⟩ := hQ25
    have N25 := Fr.app N0 Nq25
    have k26 : Way p e below S0 T25 (mkF m 47 #[rv a1, rv a2, rv a2] [(.int (1 : Int32))]) := fun t k => k24 t (st25 _ k)
    have k27 : Way p e below S0 T25 (mkF m 55 #[rv a1, rv a2, rv a2] [(.int (1 : Int32))]) := by
      intro t k
      refine k26 t ?_
      refine XS.ifNo X25.here hx rfl (hb hby d_jdk_42_method_66_code_47) rfl ((if0 _ _).trans (feq ((by decide) : ¬ ((1 : Int32) = (0 : Int32)))).1) ?_
      show Steps p.tables e below (T25.setTop (mkF m 50 #[rv a1, rv a2, rv a2] [])) _
      refine XS.iconst X25.here hx rfl (hb hby d_jdk_42_method_66_code_50) ?_
      show Steps p.tables e below (T25.setTop (mkF m 51 #[rv a1, rv a2, rv a2] [(.int (1 : Int32))])) _
      refine XS.goto X25.here hx rfl (pc0 := 51) (pc' := 55) rfl (hb hby d_jdk_42_method_66_code_51) (by decide) (by decide) ?_
      show Steps p.tables e below (T25.setTop (mkF m 55 #[rv a1, rv a2, rv a2] [(.int (1 : Int32))])) _
      exact k
    obtain ⟨fs, hr, hrun, hended, hW, hsame⟩ := X25.leave (v := some (.int (1 : Int32))) (fun h => by rw [Bd.returns] at h; cases h)
    refine ⟨_, _, k27 _ (retN X25 hx (t := .boolean) Bd.returns (by simp) (hb hby d_jdk_42_method_66_code_55) hr), hrun, hended, _, _, rfl, ?_, ⟨_, rfl⟩, hW, hsame.mono (by decide) (by decide)⟩
    show Q_seq00 Z w_NONE w_VIEW w_EDIT wCS a1 a2 b1 b2 kk1 kk2 h0 n0 _ T25.heap _
    rw [e25]
    exact ⟨rfl, N25, rfl⟩
def Q_seq01 (Z : State) (w_NONE : Addr) (w_VIEW : Addr) (w_EDIT : Addr) (wCS : Int32) (a1 : Addr) (a2 : Addr) (b1 : Addr) (b2 : Addr) (kk1 : ClassId) (kk2 : ClassId) (h0 : Heap) (n0 : Nat) (v : Option Value) (h : Heap) (L : List Loc) : Prop := (v = some (.int (0 : Int32))) ∧ (Fr n0 L) ∧ (h = h0)
set_option maxRecDepth 65536 in
set_option maxHeartbeats 40000000 in
theorem seq01 (l : Launch) (Z : State) (a0 : Array Value) (hw : ∀ d ∈ tables_1, d.before a0 Z = true) (ws : List Jvm.Cond) (w_NONE : Addr) (w_VIEW : Addr) (w_EDIT : Addr) (wCS : Int32) (G : Gst Z w_NONE w_VIEW w_EDIT wCS) (a1 : Addr) (a2 : Addr) (b1 : Addr) (b2 : Addr) (kk1 : ClassId) (kk2 : ClassId) (h0 : Heap) (n0 : Nat) (O0 : Old Z n0 h0) (a_0 : Fld Z h0 a1 "java/lang/String" "coder" "B" (.int (0 : Int32))) (a_1 : Fld Z h0 a1 "java/lang/String" "value" "[B" (.ref b1)) (a_2 : Arv Z h0 b1 kk1 .byte (6 : Int32) [(.int (109 : Int32)), (.int (97 : Int32)), (.int (115 : Int32)), (.int (107 : Int32)), (.int (101 : Int32)), (.int (100 : Int32))] (.int (0 : Int32))) (a_3 : Exa Z h0 a2 "java/lang/String") (a_4 : Fld Z h0 a2 "java/lang/String" "coder" "B" (.int (0 : Int32))) (a_5 : Fld Z h0 a2 "java/lang/String" "value" "[B" (.ref b2)) (a_6 : Arv Z h0 b2 kk2 .byte (8 : Int32) [(.int (117 : Int32)), (.int (110 : Int32)), (.int (109 : Int32)), (.int (97 : Int32)), (.int (115 : Int32)), (.int (107 : Int32)), (.int (101 : Int32)), (.int (100 : Int32))] (.int (0 : Int32))) (hne : a1 ≠ a2) :
    MetFree l (⟨"java/lang/String", "equals", "(Ljava/lang/Object;)Z"⟩ : MethodName) (head1 (Jvm.Cond.code (⟨"java/lang/String", "equals", "(Ljava/lang/Object;)Z"⟩ : MethodName) jdk_42_method_66_code 3 (some .boolean) :: ws) ({ frames := 1, cells := 0, slots := 0, locals := 14 } : Room)) (fun a U => a = #[(.ref a1), (.ref a2)] ∧ Z.Warmed39 U.vm ∧ U.heap = h0) (fun _ _ _ _ _ => True) (fun _ U o U' => ∃ v L, o = .returned v ∧ Q_seq01 Z w_NONE w_VIEW w_EDIT wCS a1 a2 b1 b2 kk1 kk2 h0 n0 v U'.heap L ∧ FrameEnd U o U' L ({ frames := 1, cells := 0, slots := 0, locals := 14 } : Room).cells ({ frames := 1, cells := 0, slots := 0, locals := 14 } : Room).slots) := by
  refine MetFree.of_bodySF (plainFor_of_name pn_4) hisR ?_
  intro p e s m args below meth c s₁ Bd hml0 hP hK
  obtain ⟨rfl, hZ, hh⟩ := hP
  have hx := Bd.exec
  have hby := Bd.bytes
  have hml : c.maxLocals = 3 := hml0
  have hown : s.vm.findClass "java/lang/String" = some m.cls := findClass_of_methodNamed Bd.named
  have hnm := (name_of_methodNamed Bd.named Bd.method).1
  have X0 : Stand p l e ({ frames := 1, cells := 0, slots := 0, locals := 14 } : Room) s m #[(.ref a1), (.ref a2)] below meth c s₁ [] 0 0 := Stand.of_body Bd
  have e0 : s₁.heap = h0 := by rw [← hh, Bd.state]; rfl
  have N0 := Fr.nil n0
  obtain ⟨S_w_NONE, E_w_NONE, F_w_NONE_ordinal, S_w_VIEW, E_w_VIEW, F_w_VIEW_ordinal, S_w_EDIT, E_w_EDIT, F_w_EDIT_ordinal, S_CS, hCS⟩ := id G
  have k0 : Way p e below (s₁.setTop (entryFrame m #[(.ref a1), (.ref a2)] 3)) s₁ (mkF m 0 #[rv a1, rv a2, .unset] []) := fun t k => castTop (by first | (simp [entryFrame, mkF, argsToLocals, Value.category]; done) | rfl) k
  generalize s₁.setTop (entryFrame m #[(.ref a1), (.ref a2)] 3) = S0 at k0 ⊢
  have k1 : Way p e below S0 s₁ (mkF m 8 #[rv a1, rv a2, .unset] [(.ref a2)]) := by
    intro t k
    refine k0 t ?_
    refine XS.aloadN X0.here hx rfl (hb hby d_jdk_42_method_66_code_0) rfl rfl ?_
    show Steps p.tables e below (s₁.setTop (mkF m 1 #[rv a1, rv a2, .unset] [(.ref a1)])) _
    refine XS.aloadN X0.here hx rfl (hb hby d_jdk_42_method_66_code_1) rfl rfl ?_
    show Steps p.tables e below (s₁.setTop (mkF m 2 #[rv a1, rv a2, .unset] [(.ref a2), (.ref a1)])) _
    refine Jvm.RoadKit.acmp (g := (mkF m 2 #[rv a1, rv a2, .unset] [(.ref a2), (.ref a1)])) X0 hx rfl rfl rfl (pc0 := 2) (pc' := 7) (same := false) rfl (hb hby d_jdk_42_method_66_code_2) rfl (decide_eq_false fun q => absurd (Value.ref.inj q) hne) (by decide) (by decide) ?_
    show Steps p.tables e below (s₁.setTop (mkF m 7 #[rv a1, rv a2, .unset] [])) _
    refine XS.aloadN X0.here hx rfl (hb hby d_jdk_42_method_66_code_7) rfl rfl ?_
    show Steps p.tables e below (s₁.setTop (mkF m 8 #[rv a1, rv a2, .unset] [(.ref a2)])) _
    exact k
  obtain ⟨T2, X2, e2, st2⟩ := instY X0 hx hZ hown (hw _ (List.mem_of_getElem? (i := 48) rfl)) e0 (Ins.self a_3) (g := (mkF m 8 #[rv a1, rv a2, .unset] [(.ref a2)])) rfl rfl (hb hby d_jdk_42_method_66_code_8)
  have k3 : Way p e below S0 T2 (mkF m 11 #[rv a1, rv a2, .unset] [(.int (1 : Int32))]) := fun t k => k1 t (st2 _ k)
  have k4 : Way p e below S0 T2 (mkF m 15 #[rv a1, rv a2, .unset] [(.ref a2)]) := by
    intro t k
    refine k3 t ?_
    refine XS.ifNo X2.here hx rfl (hb hby d_jdk_42_method_66_code_11) rfl ((if0 _ _).trans (feq ((by decide) : ¬ ((1 : Int32) = (0 : Int32)))).1) ?_
    show Steps p.tables e below (T2.setTop (mkF m 14 #[rv a1, rv a2, .unset] [])) _
    refine XS.aloadN X2.here hx rfl (hb hby d_jdk_42_method_66_code_14) rfl rfl ?_
    show Steps p.tables e below (T2.setTop (mkF m 15 #[rv a1, rv a2, .unset] [(.ref a2)])) _
    exact k
  obtain ⟨T5, X5, e5, st5⟩ := castY X2 hx hZ hown (hw _ (List.mem_of_getElem? (i := 48) rfl)) e2 (Ins.self a_3) (g := (mkF m 15 #[rv a1, rv a2, .unset] [(.ref a2)])) rfl rfl (hb hby d_jdk_42_method_66_code_15)
  have k6 : Way p e below S0 T5 (mkF m 18 #[rv a1, rv a2, .unset] [(.ref a2)]) := fun t k => k4 t (st5 _ k)
  have k7 : Way p e below S0 T5 (mkF m 19 #[rv a1, rv a2, rv a2] []) := by
    intro t k
    refine k6 t ?_
    refine XS.astoreN X5.here hx rfl (hb hby d_jdk_42_method_66_code_18) rfl rfl (l' := #[rv a1, rv a2, rv a2]) rfl ?_
    show Steps p.tables e below (T5.setTop (mkF m 19 #[rv a1, rv a2, rv a2] [])) _
    exact k
  obtain ⟨T8, X8, e8, st8⟩ := getS2 X5 hx hZ hown (host := "") (Or.inl (hw _ (List.mem_of_getElem? (i := 50) rfl))) Via.refl e5 (S_CS.ext O0.2) (g := (mkF m 19 #[rv a1, rv a2, rv a2] [])) rfl (hb hby d_jdk_42_method_66_code_19)
  have k9 : Way p e below S0 T8 (mkF m 22 #[rv a1, rv a2, rv a2] [(.int wCS)]) := fun t k => k7 t (st8 _ k)
  have k10 : Way p e below S0 T8 (mkF m 26 #[rv a1, rv a2, rv a2] [(.ref a1)]) := by
    intro t k
    refine k9 t ?_
    refine XS.ifNo X8.here hx rfl (hb hby d_jdk_42_method_66_code_22) rfl ((if0 _ _).trans (feq (hCS : ¬ (wCS = (0 : Int32)))).1) ?_
    show Steps p.tables e below (T8.setTop (mkF m 25 #[rv a1, rv a2, rv a2] [])) _
    refine XS.aloadN X8.here hx rfl (hb hby d_jdk_42_method_66_code_25) rfl rfl ?_
    show Steps p.tables e below (T8.setTop (mkF m 26 #[rv a1, rv a2, rv a2] [(.ref a1)])) _
    exact k
  obtain ⟨T11, X11, e11, st11⟩ := getF X8 hx hZ hown (host := "") (Or.inl (hw _ (List.mem_of_getElem? (i := 51) rfl))) Via.refl e8 a_0 (g := (mkF m 26 #[rv a1, rv a2, rv a2] [(.ref a1)])) rfl rfl (hb hby d_jdk_42_method_66_code_26)
  have k12 : Way p e below S0 T11 (mkF m 29 #[rv a1, rv a2, rv a2] [(.int (0 : Int32))]) := fun t k => k10 t (st11 _ k)
  have k13 : Way p e below S0 T11 (mkF m 30 #[rv a1, rv a2, rv a2] [(.ref a2), (.int (0 : Int32))]) := by
    intro t k
    refine k12 t ?_
    refine XS.aloadN X11.here hx rfl (hb hby d_jdk_42_method_66_code_29) rfl rfl ?_
    show Steps p.tables e below (T11.setTop (mkF m 30 #[rv a1, rv a2, rv a2] [(.ref a2), (.int (0 : Int32))])) _
    exact k
  obtain ⟨T14, X14, e14, st14⟩ := getF X11 hx hZ hown (host := "") (Or.inl (hw _ (List.mem_of_getElem? (i := 51) rfl))) Via.refl e11 a_4 (g := (mkF m 30 #[rv a1, rv a2, rv a2] [(.ref a2), (.int (0 : Int32))])) rfl rfl (hb hby d_jdk_42_method_66_code_30)
  have k15 : Way p e below S0 T14 (mkF m 33 #[rv a1, rv a2, rv a2] [(.int (0 : Int32)), (.int (0 : Int32))]) := fun t k => k13 t (st14 _ k)
  have k16 : Way p e below S0 T14 (mkF m 37 #[rv a1, rv a2, rv a2] [(.ref a1)]) := by
    intro t k
    refine k15 t ?_
    refine XS.icmpNo X14.here hx rfl (hb hby d_jdk_42_method_66_code_33) rfl (teq ((by decide) : (0 : Int32) = (0 : Int32))).2 ?_
    show Steps p.tables e below (T14.setTop (mkF m 36 #[rv a1, rv a2, rv a2] [])) _
    refine XS.aloadN X14.here hx rfl (hb hby d_jdk_42_method_66_code_36) rfl rfl ?_
    show Steps p.tables e below (T14.setTop (mkF m 37 #[rv a1, rv a2, rv a2] [(.ref a1)])) _
    exact k
  obtain ⟨T17, X17, e17, st17⟩ := getF X14 hx hZ hown (host := "") (Or.inl (hw _ (List.mem_of_getElem? (i := 52) rfl))) Via.refl e14 a_1 (g := (mkF m 37 #[rv a1, rv a2, rv a2] [(.ref a1)])) rfl rfl (hb hby d_jdk_42_method_66_code_37)
  have k18 : Way p e below S0 T17 (mkF m 40 #[rv a1, rv a2, rv a2] [(.ref b1)]) := fun t k => k16 t (st17 _ k)
  have k19 : Way p e below S0 T17 (mkF m 41 #[rv a1, rv a2, rv a2] [(.ref a2), (.ref b1)]) := by
    intro t k
    refine k18 t ?_
    refine XS.aloadN X17.here hx rfl (hb hby d_jdk_42_method_66_code_40) rfl rfl ?_
    show Steps p.tables e below (T17.setTop (mkF m 41 #[rv a1, rv a2, rv a2] [(.ref a2), (.ref b1)])) _
    exact k
  obtain ⟨T20, X20, e20, st20⟩ := getF X17 hx hZ hown (host := "") (Or.inl (hw _ (List.mem_of_getElem? (i := 52) rfl))) Via.refl e17 a_5 (g := (mkF m 41 #[rv a1, rv a2, rv a2] [(.ref a2), (.ref b1)])) rfl rfl (hb hby d_jdk_42_method_66_code_41)
  have k21 : Way p e below S0 T20 (mkF m 44 #[rv a1, rv a2, rv a2] [(.ref b2), (.ref b1)]) := fun t k => k19 t (st20 _ k)
  obtain ⟨_, _, ⟨T22, L22, kk22, nn22⟩, -, X22, ⟨Lc22, hQ22, l22, y22, z22⟩, st22⟩ := Jvm.LawKit.callS X20 hx (y := (⟨"java/lang/StringLatin1", "equals", "([B[B)Z"⟩ : MethodName)) hown (mvT hZ (hw _ (List.mem_of_getElem? (i := 53) rfl))) (mvT hZ (hw _ (List.mem_of_getElem? (i := 54) rfl))) (mvT hZ (hw _ (List.mem_of_getElem? (i := 55) rfl))) (mvT hZ (hw _ (List.mem_of_getElem? (i := 56) rfl))) (by decide) (backOf (W := 0) (leq01 l Z a0 hw [] w_NONE w_VIEW w_EDIT wCS G b1 b2 kk1 kk2 h0 n0 O0 (a_2 : Arv Z h0 b1 kk1 .byte (6 : Int32) [(.int (109 : Int32)), (.int (97 : Int32)), (.int (115 : Int32)), (.int (107 : Int32)), (.int (101 : Int32)), (.int (100 : Int32))] (.int (0 : Int32))) (a_6 : Arv Z h0 b2 kk2 .byte (8 : Int32) [(.int (117 : Int32)), (.int (110 : Int32)), (.int (109 : Int32)), (.int (97 : Int32)), (.int (115 : Int32)), (.int (107 : Int32)), (.int (101 : Int32)), (.int (100 : Int32))] (.int (0 : Int32)))) hZ (hw _ (List.mem_of_getElem? (i := 56) rfl)) (hw _ (List.mem_of_getElem? (i := 55) rfl)) (by decide) (by decide)) (g := (mkF m 44 #[rv a1, rv a2, rv a2] [(.ref b2), (.ref b1)])) rfl (by rw [hml]; rfl) (argsL := [(.ref b1), (.ref b2)]) (rest := []) (lenOf pd_1 rfl) rfl (by show 2 * 0 + _ ≤ _; exact Nat.le_of_eq rfl) (hb hby d_jdk_42_method_66_code_44) (fun _ _ => ⟨rfl, e20, (by decide : 0 + 0 ≤ _), (by decide : 0 + 0 ≤ _)⟩)
  dsimp only [Pt.U, Pt.locs, Pt.cells, Pt.slots] at X22 l22 y22 z22 st22 hQ22
  subst l22 y22 z22
  obtain ⟨rfl, Nq22, e22⟩ := hQ22
  have N22 := Fr.app N0 Nq22
  have k23 : Way p e below S0 T22 (mkF m 47 #[rv a1, rv a2, rv a2] [(.int (0 : Int32))]) := fun t k => k21 t (st22 _ k)
  have k24 : Way p e below S0 T22 (mkF m 55 #[rv a1, rv a2, rv a2] [(.int (0 : Int32))]) := by
    intro t k
    refine k23 t ?_
    refine XS.ifYes X22.here hx rfl (pc0 := 47) (pc' := 54) rfl (hb hby d_jdk_42_method_66_code_47) rfl ((if0 _ _).trans (teq ((by decide) : (0 : Int32) = (0 : Int32))).1) (by decide) (by decide) ?_
    show Steps p.tables e below (T22.setTop (mkF m 54 #[rv a1, rv a2, rv a2] [])) _
    refine XS.iconst X22.here hx rfl (hb hby d_jdk_42_method_66_code_54) ?_
    show Steps p.tables e below (T22.setTop (mkF m 55 #[rv a1, rv a2, rv a2] [(.int (0 : Int32))])) _
    exact k
  obtain ⟨fs, hr, hrun, hended, hW, hsame⟩ := X22.leave (v := some (.int (0 : Int32))) (fun h => by rw [Bd.returns] at h; cases h)
  refine ⟨_, _, k24 _ (retN X22 hx (t := .boolean) Bd.returns (by simp) (hb hby d_jdk_42_method_66_code_55) hr), hrun, hended, _, _, rfl, ?_, ⟨_, rfl⟩, hW, hsame.mono (by decide) (by decide)⟩
  show Q_seq01 Z w_NONE w_VIEW w_EDIT wCS a1 a2 b1 b2 kk1 kk2 h0 n0 _ T22.heap _
  rw [e22]
  exact ⟨rfl, N22, rfl⟩
def Q_seq10 (Z : State) (w_NONE : Addr) (w_VIEW : Addr) (w_EDIT : Addr) (wCS : Int32) (a1 : Addr) (a2 : Addr) (b1 : Addr) (b2 : Addr) (kk1 : ClassId) (kk2 : ClassId) (h0 : Heap) (n0 : Nat) (v : Option Value) (h : Heap) (L : List Loc) : Prop := (v = some (.int (0 : Int32))) ∧ (Fr n0 L) ∧ (h = h0)
set_option maxRecDepth 65536 in
set_option maxHeartbeats 40000000 in
theorem seq10 (l : Launch) (Z : State) (a0 : Array Value) (hw : ∀ d ∈ tables_1, d.before a0 Z = true) (ws : List Jvm.Cond) (w_NONE : Addr) (w_VIEW : Addr) (w_EDIT : Addr) (wCS : Int32) (G : Gst Z w_NONE w_VIEW w_EDIT wCS) (a1 : Addr) (a2 : Addr) (b1 : Addr) (b2 : Addr) (kk1 : ClassId) (kk2 : ClassId) (h0 : Heap) (n0 : Nat) (O0 : Old Z n0 h0) (a_0 : Fld Z h0 a1 "java/lang/String" "coder" "B" (.int (0 : Int32))) (a_1 : Fld Z h0 a1 "java/lang/String" "value" "[B" (.ref b1)) (a_2 : Arv Z h0 b1 kk1 .byte (8 : Int32) [(.int (117 : Int32)), (.int (110 : Int32)), (.int (109 : Int32)), (.int (97 : Int32)), (.int (115 : Int32)), (.int (107 : Int32)), (.int (101 : Int32)), (.int (100 : Int32))] (.int (0 : Int32))) (a_3 : Exa Z h0 a2 "java/lang/String") (a_4 : Fld Z h0 a2 "java/lang/String" "coder" "B" (.int (0 : Int32))) (a_5 : Fld Z h0 a2 "java/lang/String" "value" "[B" (.ref b2)) (a_6 : Arv Z h0 b2 kk2 .byte (6 : Int32) [(.int (109 : Int32)), (.int (97 : Int32)), (.int (115 : Int32)), (.int (107 : Int32)), (.int (101 : Int32)), (.int (100 : Int32))] (.int (0 : Int32))) (hne : a1 ≠ a2) :
    MetFree l (⟨"java/lang/String", "equals", "(Ljava/lang/Object;)Z"⟩ : MethodName) (head1 (Jvm.Cond.code (⟨"java/lang/String", "equals", "(Ljava/lang/Object;)Z"⟩ : MethodName) jdk_42_method_66_code 3 (some .boolean) :: ws) ({ frames := 1, cells := 0, slots := 0, locals := 14 } : Room)) (fun a U => a = #[(.ref a1), (.ref a2)] ∧ Z.Warmed39 U.vm ∧ U.heap = h0) (fun _ _ _ _ _ => True) (fun _ U o U' => ∃ v L, o = .returned v ∧ Q_seq10 Z w_NONE w_VIEW w_EDIT wCS a1 a2 b1 b2 kk1 kk2 h0 n0 v U'.heap L ∧ FrameEnd U o U' L ({ frames := 1, cells := 0, slots := 0, locals := 14 } : Room).cells ({ frames := 1, cells := 0, slots := 0, locals := 14 } : Room).slots) := by
  refine MetFree.of_bodySF (plainFor_of_name pn_4) hisR ?_
  intro p e s m args below meth c s₁ Bd hml0 hP hK
  obtain ⟨rfl, hZ, hh⟩ := hP
  have hx := Bd.exec
  have hby := Bd.bytes
  have hml : c.maxLocals = 3 := hml0
  have hown : s.vm.findClass "java/lang/String" = some m.cls := findClass_of_methodNamed Bd.named
  have hnm := (name_of_methodNamed Bd.named Bd.method).1
  have X0 : Stand p l e ({ frames := 1, cells := 0, slots := 0, locals := 14 } : Room) s m #[(.ref a1), (.ref a2)] below meth c s₁ [] 0 0 := Stand.of_body Bd
  have e0 : s₁.heap = h0 := by rw [← hh, Bd.state]; rfl
  have N0 := Fr.nil n0
  obtain ⟨S_w_NONE, E_w_NONE, F_w_NONE_ordinal, S_w_VIEW, E_w_VIEW, F_w_VIEW_ordinal, S_w_EDIT, E_w_EDIT, F_w_EDIT_ordinal, S_CS, hCS⟩ := id G
  have k0 : Way p e below (s₁.setTop (entryFrame m #[(.ref a1), (.ref a2)] 3)) s₁ (mkF m 0 #[rv a1, rv a2, .unset] []) := fun t k => castTop (by first | (simp [entryFrame, mkF, argsToLocals, Value.category]; done) | rfl) k
  generalize s₁.setTop (entryFrame m #[(.ref a1), (.ref a2)] 3) = S0 at k0 ⊢
  have k1 : Way p e below S0 s₁ (mkF m 8 #[rv a1, rv a2, .unset] [(.ref a2)]) := by
    intro t k
    refine k0 t ?_
    refine XS.aloadN X0.here hx rfl (hb hby d_jdk_42_method_66_code_0) rfl rfl ?_
    show Steps p.tables e below (s₁.setTop (mkF m 1 #[rv a1, rv a2, .unset] [(.ref a1)])) _
    refine XS.aloadN X0.here hx rfl (hb hby d_jdk_42_method_66_code_1) rfl rfl ?_
    show Steps p.tables e below (s₁.setTop (mkF m 2 #[rv a1, rv a2, .unset] [(.ref a2), (.ref a1)])) _
    refine Jvm.RoadKit.acmp (g := (mkF m 2 #[rv a1, rv a2, .unset] [(.ref a2), (.ref a1)])) X0 hx rfl rfl rfl (pc0 := 2) (pc' := 7) (same := false) rfl (hb hby d_jdk_42_method_66_code_2) rfl (decide_eq_false fun q => absurd (Value.ref.inj q) hne) (by decide) (by decide) ?_
    show Steps p.tables e below (s₁.setTop (mkF m 7 #[rv a1, rv a2, .unset] [])) _
    refine XS.aloadN X0.here hx rfl (hb hby d_jdk_42_method_66_code_7) rfl rfl ?_
    show Steps p.tables e below (s₁.setTop (mkF m 8 #[rv a1, rv a2, .unset] [(.ref a2)])) _
    exact k
  obtain ⟨T2, X2, e2, st2⟩ := instY X0 hx hZ hown (hw _ (List.mem_of_getElem? (i := 48) rfl)) e0 (Ins.self a_3) (g := (mkF m 8 #[rv a1, rv a2, .unset] [(.ref a2)])) rfl rfl (hb hby d_jdk_42_method_66_code_8)
  have k3 : Way p e below S0 T2 (mkF m 11 #[rv a1, rv a2, .unset] [(.int (1 : Int32))]) := fun t k => k1 t (st2 _ k)
  have k4 : Way p e below S0 T2 (mkF m 15 #[rv a1, rv a2, .unset] [(.ref a2)]) := by
    intro t k
    refine k3 t ?_
    refine XS.ifNo X2.here hx rfl (hb hby d_jdk_42_method_66_code_11) rfl ((if0 _ _).trans (feq ((by decide) : ¬ ((1 : Int32) = (0 : Int32)))).1) ?_
    show Steps p.tables e below (T2.setTop (mkF m 14 #[rv a1, rv a2, .unset] [])) _
    refine XS.aloadN X2.here hx rfl (hb hby d_jdk_42_method_66_code_14) rfl rfl ?_
    show Steps p.tables e below (T2.setTop (mkF m 15 #[rv a1, rv a2, .unset] [(.ref a2)])) _
    exact k
  obtain ⟨T5, X5, e5, st5⟩ := castY X2 hx hZ hown (hw _ (List.mem_of_getElem? (i := 48) rfl)) e2 (Ins.self a_3) (g := (mkF m 15 #[rv a1, rv a2, .unset] [(.ref a2)])) rfl rfl (hb hby d_jdk_42_method_66_code_15)
  have k6 : Way p e below S0 T5 (mkF m 18 #[rv a1, rv a2, .unset] [(.ref a2)]) := fun t k => k4 t (st5 _ k)
  have k7 : Way p e below S0 T5 (mkF m 19 #[rv a1, rv a2, rv a2] []) := by
    intro t k
    refine k6 t ?_
    refine XS.astoreN X5.here hx rfl (hb hby d_jdk_42_method_66_code_18) rfl rfl (l' := #[rv a1, rv a2, rv a2]) rfl ?_
    show Steps p.tables e below (T5.setTop (mkF m 19 #[rv a1, rv a2, rv a2] [])) _
    exact k
  obtain ⟨T8, X8, e8, st8⟩ := getS2 X5 hx hZ hown (host := "") (Or.inl (hw _ (List.mem_of_getElem? (i := 50) rfl))) Via.refl e5 (S_CS.ext O0.2) (g := (mkF m 19 #[rv a1, rv a2, rv a2] [])) rfl (hb hby d_jdk_42_method_66_code_19)
  have k9 : Way p e below S0 T8 (mkF m 22 #[rv a1, rv a2, rv a2] [(.int wCS)]) := fun t k => k7 t (st8 _ k)
  have k10 : Way p e below S0 T8 (mkF m 26 #[rv a1, rv a2, rv a2] [(.ref a1)]) := by
    intro t k
    refine k9 t ?_
    refine XS.ifNo X8.here hx rfl (hb hby d_jdk_42_method_66_code_22) rfl ((if0 _ _).trans (feq (hCS : ¬ (wCS = (0 : Int32)))).1) ?_
    show Steps p.tables e below (T8.setTop (mkF m 25 #[rv a1, rv a2, rv a2] [])) _
    refine XS.aloadN X8.here hx rfl (hb hby d_jdk_42_method_66_code_25) rfl rfl ?_
    show Steps p.tables e below (T8.setTop (mkF m 26 #[rv a1, rv a2, rv a2] [(.ref a1)])) _
    exact k
  obtain ⟨T11, X11, e11, st11⟩ := getF X8 hx hZ hown (host := "") (Or.inl (hw _ (List.mem_of_getElem? (i := 51) rfl))) Via.refl e8 a_0 (g := (mkF m 26 #[rv a1, rv a2, rv a2] [(.ref a1)])) rfl rfl (hb hby d_jdk_42_method_66_code_26)
  have k12 : Way p e below S0 T11 (mkF m 29 #[rv a1, rv a2, rv a2] [(.int (0 : Int32))]) := fun t k => k10 t (st11 _ k)
  have k13 : Way p e below S0 T11 (mkF m 30 #[rv a1, rv a2, rv a2] [(.ref a2), (.int (0 : Int32))]) := by
    intro t k
    refine k12 t ?_
    refine XS.aloadN X11.here hx rfl (hb hby d_jdk_42_method_66_code_29) rfl rfl ?_
    show Steps p.tables e below (T11.setTop (mkF m 30 #[rv a1, rv a2, rv a2] [(.ref a2), (.int (0 : Int32))])) _
    exact k
  obtain ⟨T14, X14, e14, st14⟩ := getF X11 hx hZ hown (host := "") (Or.inl (hw _ (List.mem_of_getElem? (i := 51) rfl))) Via.refl e11 a_4 (g := (mkF m 30 #[rv a1, rv a2, rv a2] [(.ref a2), (.int (0 : Int32))])) rfl rfl (hb hby d_jdk_42_method_66_code_30)
  have k15 : Way p e below S0 T14 (mkF m 33 #[rv a1, rv a2, rv a2] [(.int (0 : Int32)), (.int (0 : Int32))]) := fun t k => k13 t (st14 _ k)
  have k16 : Way p e below S0 T14 (mkF m 37 #[rv a1, rv a2, rv a2] [(.ref a1)]) := by
    intro t k
    refine k15 t ?_
    refine XS.icmpNo X14.here hx rfl (hb hby d_jdk_42_method_66_code_33) rfl (teq ((by decide) : (0 : Int32) = (0 : Int32))).2 ?_
    show Steps p.tables e below (T14.setTop (mkF m 36 #[rv a1, rv a2, rv a2] [])) _
    refine XS.aloadN X14.here hx rfl (hb hby d_jdk_42_method_66_code_36) rfl rfl ?_
    show Steps p.tables e below (T14.setTop (mkF m 37 #[rv a1, rv a2, rv a2] [(.ref a1)])) _
    exact k
  obtain ⟨T17, X17, e17, st17⟩ := getF X14 hx hZ hown (host := "") (Or.inl (hw _ (List.mem_of_getElem? (i := 52) rfl))) Via.refl e14 a_1 (g := (mkF m 37 #[rv a1, rv a2, rv a2] [(.ref a1)])) rfl rfl (hb hby d_jdk_42_method_66_code_37)
  have k18 : Way p e below S0 T17 (mkF m 40 #[rv a1, rv a2, rv a2] [(.ref b1)]) := fun t k => k16 t (st17 _ k)
  have k19 : Way p e below S0 T17 (mkF m 41 #[rv a1, rv a2, rv a2] [(.ref a2), (.ref b1)]) := by
    intro t k
    refine k18 t ?_
    refine XS.aloadN X17.here hx rfl (hb hby d_jdk_42_method_66_code_40) rfl rfl ?_
    show Steps p.tables e below (T17.setTop (mkF m 41 #[rv a1, rv a2, rv a2] [(.ref a2), (.ref b1)])) _
    exact k
  obtain ⟨T20, X20, e20, st20⟩ := getF X17 hx hZ hown (host := "") (Or.inl (hw _ (List.mem_of_getElem? (i := 52) rfl))) Via.refl e17 a_5 (g := (mkF m 41 #[rv a1, rv a2, rv a2] [(.ref a2), (.ref b1)])) rfl rfl (hb hby d_jdk_42_method_66_code_41)
  have k21 : Way p e below S0 T20 (mkF m 44 #[rv a1, rv a2, rv a2] [(.ref b2), (.ref b1)]) := fun t k => k19 t (st20 _ k)
  obtain ⟨_, _, ⟨T22, L22, kk22, nn22⟩, -, X22, ⟨Lc22, hQ22, l22, y22, z22⟩, st22⟩ := Jvm.LawKit.callS X20 hx (y := (⟨"java/lang/StringLatin1", "equals", "([B[B)Z"⟩ : MethodName)) hown (mvT hZ (hw _ (List.mem_of_getElem? (i := 53) rfl))) (mvT hZ (hw _ (List.mem_of_getElem? (i := 54) rfl))) (mvT hZ (hw _ (List.mem_of_getElem? (i := 55) rfl))) (mvT hZ (hw _ (List.mem_of_getElem? (i := 56) rfl))) (by decide) (backOf (W := 0) (leq10 l Z a0 hw [] w_NONE w_VIEW w_EDIT wCS G b1 b2 kk1 kk2 h0 n0 O0 (a_2 : Arv Z h0 b1 kk1 .byte (8 : Int32) [(.int (117 : Int32)), (.int (110 : Int32)), (.int (109 : Int32)), (.int (97 : Int32)), (.int (115 : Int32)), (.int (107 : Int32)), (.int (101 : Int32)), (.int (100 : Int32))] (.int (0 : Int32))) (a_6 : Arv Z h0 b2 kk2 .byte (6 : Int32) [(.int (109 : Int32)), (.int (97 : Int32)), (.int (115 : Int32)), (.int (107 : Int32)), (.int (101 : Int32)), (.int (100 : Int32))] (.int (0 : Int32)))) hZ (hw _ (List.mem_of_getElem? (i := 56) rfl)) (hw _ (List.mem_of_getElem? (i := 55) rfl)) (by decide) (by decide)) (g := (mkF m 44 #[rv a1, rv a2, rv a2] [(.ref b2), (.ref b1)])) rfl (by rw [hml]; rfl) (argsL := [(.ref b1), (.ref b2)]) (rest := []) (lenOf pd_1 rfl) rfl (by show 2 * 0 + _ ≤ _; exact Nat.le_of_eq rfl) (hb hby d_jdk_42_method_66_code_44) (fun _ _ => ⟨rfl, e20, (by decide : 0 + 0 ≤ _), (by decide : 0 + 0 ≤ _)⟩)
  dsimp only [Pt.U, Pt.locs, Pt.cells, Pt.slots] at X22 l22 y22 z22 st22 hQ22
  subst l22 y22 z22
  obtain ⟨rfl, Nq22, e22⟩ := hQ22
  have N22 := Fr.app N0 Nq22
  have k23 : Way p e below S0 T22 (mkF m 47 #[rv a1, rv a2, rv a2] [(.int (0 : Int32))]) := fun t k => k21 t (st22 _ k)
  have k24 : Way p e below S0 T22 (mkF m 55 #[rv a1, rv a2, rv a2] [(.int (0 : Int32))]) := by
    intro t k
    refine k23 t ?_
    refine XS.ifYes X22.here hx rfl (pc0 := 47) (pc' := 54) rfl (hb hby d_jdk_42_method_66_code_47) rfl ((if0 _ _).trans (teq ((by decide) : (0 : Int32) = (0 : Int32))).1) (by decide) (by decide) ?_
    show Steps p.tables e below (T22.setTop (mkF m 54 #[rv a1, rv a2, rv a2] [])) _
    refine XS.iconst X22.here hx rfl (hb hby d_jdk_42_method_66_code_54) ?_
    show Steps p.tables e below (T22.setTop (mkF m 55 #[rv a1, rv a2, rv a2] [(.int (0 : Int32))])) _
    exact k
  obtain ⟨fs, hr, hrun, hended, hW, hsame⟩ := X22.leave (v := some (.int (0 : Int32))) (fun h => by rw [Bd.returns] at h; cases h)
  refine ⟨_, _, k24 _ (retN X22 hx (t := .boolean) Bd.returns (by simp) (hb hby d_jdk_42_method_66_code_55) hr), hrun, hended, _, _, rfl, ?_, ⟨_, rfl⟩, hW, hsame.mono (by decide) (by decide)⟩
  show Q_seq10 Z w_NONE w_VIEW w_EDIT wCS a1 a2 b1 b2 kk1 kk2 h0 n0 _ T22.heap _
  rw [e22]
  exact ⟨rfl, N22, rfl⟩
def Q_seq11 (Z : State) (w_NONE : Addr) (w_VIEW : Addr) (w_EDIT : Addr) (wCS : Int32) (a1 : Addr) (a2 : Addr) (b1 : Addr) (b2 : Addr) (kk1 : ClassId) (kk2 : ClassId) (h0 : Heap) (n0 : Nat) (v : Option Value) (h : Heap) (L : List Loc) : Prop := (v = some (.int (1 : Int32))) ∧ (Fr n0 L) ∧ (h = h0)
set_option maxRecDepth 65536 in
set_option maxHeartbeats 40000000 in
theorem seq11 (l : Launch) (Z : State) (a0 : Array Value) (hw : ∀ d ∈ tables_1, d.before a0 Z = true) (ws : List Jvm.Cond) (w_NONE : Addr) (w_VIEW : Addr) (w_EDIT : Addr) (wCS : Int32) (G : Gst Z w_NONE w_VIEW w_EDIT wCS) (a1 : Addr) (a2 : Addr) (b1 : Addr) (b2 : Addr) (kk1 : ClassId) (kk2 : ClassId) (h0 : Heap) (n0 : Nat) (O0 : Old Z n0 h0) (a_0 : Fld Z h0 a1 "java/lang/String" "coder" "B" (.int (0 : Int32))) (a_1 : Fld Z h0 a1 "java/lang/String" "value" "[B" (.ref b1)) (a_2 : Arv Z h0 b1 kk1 .byte (8 : Int32) [(.int (117 : Int32)), (.int (110 : Int32)), (.int (109 : Int32)), (.int (97 : Int32)), (.int (115 : Int32)), (.int (107 : Int32)), (.int (101 : Int32)), (.int (100 : Int32))] (.int (0 : Int32))) (a_3 : Exa Z h0 a2 "java/lang/String") (a_4 : Fld Z h0 a2 "java/lang/String" "coder" "B" (.int (0 : Int32))) (a_5 : Fld Z h0 a2 "java/lang/String" "value" "[B" (.ref b2)) (a_6 : Arv Z h0 b2 kk2 .byte (8 : Int32) [(.int (117 : Int32)), (.int (110 : Int32)), (.int (109 : Int32)), (.int (97 : Int32)), (.int (115 : Int32)), (.int (107 : Int32)), (.int (101 : Int32)), (.int (100 : Int32))] (.int (0 : Int32))) :
    MetFree l (⟨"java/lang/String", "equals", "(Ljava/lang/Object;)Z"⟩ : MethodName) (head1 (Jvm.Cond.code (⟨"java/lang/String", "equals", "(Ljava/lang/Object;)Z"⟩ : MethodName) jdk_42_method_66_code 3 (some .boolean) :: ws) ({ frames := 1, cells := 0, slots := 0, locals := 14 } : Room)) (fun a U => a = #[(.ref a1), (.ref a2)] ∧ Z.Warmed39 U.vm ∧ U.heap = h0) (fun _ _ _ _ _ => True) (fun _ U o U' => ∃ v L, o = .returned v ∧ Q_seq11 Z w_NONE w_VIEW w_EDIT wCS a1 a2 b1 b2 kk1 kk2 h0 n0 v U'.heap L ∧ FrameEnd U o U' L ({ frames := 1, cells := 0, slots := 0, locals := 14 } : Room).cells ({ frames := 1, cells := 0, slots := 0, locals := 14 } : Room).slots) := by
  refine MetFree.of_bodySF (plainFor_of_name pn_4) hisR ?_
  intro p e s m args below meth c s₁ Bd hml0 hP hK
  obtain ⟨rfl, hZ, hh⟩ := hP
  have hx := Bd.exec
  have hby := Bd.bytes
  have hml : c.maxLocals = 3 := hml0
  have hown : s.vm.findClass "java/lang/String" = some m.cls := findClass_of_methodNamed Bd.named
  have hnm := (name_of_methodNamed Bd.named Bd.method).1
  have X0 : Stand p l e ({ frames := 1, cells := 0, slots := 0, locals := 14 } : Room) s m #[(.ref a1), (.ref a2)] below meth c s₁ [] 0 0 := Stand.of_body Bd
  have e0 : s₁.heap = h0 := by rw [← hh, Bd.state]; rfl
  have N0 := Fr.nil n0
  obtain ⟨S_w_NONE, E_w_NONE, F_w_NONE_ordinal, S_w_VIEW, E_w_VIEW, F_w_VIEW_ordinal, S_w_EDIT, E_w_EDIT, F_w_EDIT_ordinal, S_CS, hCS⟩ := id G
  have k0 : Way p e below (s₁.setTop (entryFrame m #[(.ref a1), (.ref a2)] 3)) s₁ (mkF m 0 #[rv a1, rv a2, .unset] []) := fun t k => castTop (by first | (simp [entryFrame, mkF, argsToLocals, Value.category]; done) | rfl) k
  generalize s₁.setTop (entryFrame m #[(.ref a1), (.ref a2)] 3) = S0 at k0 ⊢
  have k2 : Way p e below S0 s₁ (mkF m 2 #[rv a1, rv a2, .unset] [(.ref a2), (.ref a1)]) := by
    intro t k
    refine k0 t ?_
    refine XS.aloadN X0.here hx rfl (hb hby d_jdk_42_method_66_code_0) rfl rfl ?_
    show Steps p.tables e below (s₁.setTop (mkF m 1 #[rv a1, rv a2, .unset] [(.ref a1)])) _
    refine XS.aloadN X0.here hx rfl (hb hby d_jdk_42_method_66_code_1) rfl rfl ?_
    show Steps p.tables e below (s₁.setTop (mkF m 2 #[rv a1, rv a2, .unset] [(.ref a2), (.ref a1)])) _
    exact k
  by_cases hc1 : a1 = a2
  · have k3 : Way p e below S0 s₁ (mkF m 6 #[rv a1, rv a2, .unset] [(.int (1 : Int32))]) := by
      intro t k
      refine k2 t ?_
      refine Jvm.RoadKit.acmp (g := (mkF m 2 #[rv a1, rv a2, .unset] [(.ref a2), (.ref a1)])) X0 hx rfl rfl rfl (pc0 := 2) (pc' := 5) (same := true) rfl (hb hby d_jdk_42_method_66_code_2) rfl (decide_eq_true (congrArg Value.ref hc1)) (by decide) (by decide) ?_
      show Steps p.tables e below (s₁.setTop (mkF m 5 #[rv a1, rv a2, .unset] [])) _
      refine XS.iconst X0.here hx rfl (hb hby d_jdk_42_method_66_code_5) ?_
      show Steps p.tables e below (s₁.setTop (mkF m 6 #[rv a1, rv a2, .unset] [(.int (1 : Int32))])) _
      exact k
    obtain ⟨fs, hr, hrun, hended, hW, hsame⟩ := X0.leave (v := some (.int (1 : Int32))) (fun h => by rw [Bd.returns] at h; cases h)
    refine ⟨_, _, k3 _ (retN X0 hx (t := .boolean) Bd.returns (by simp) (hb hby d_jdk_42_method_66_code_6) hr), hrun, hended, _, _, rfl, ?_, ⟨_, rfl⟩, hW, hsame.mono (by decide) (by decide)⟩
    show Q_seq11 Z w_NONE w_VIEW w_EDIT wCS a1 a2 b1 b2 kk1 kk2 h0 n0 _ s₁.heap _
    rw [e0]
    exact ⟨rfl, N0, rfl⟩
  · have k4 : Way p e below S0 s₁ (mkF m 8 #[rv a1, rv a2, .unset] [(.ref a2)]) := by
      intro t k
      refine k2 t ?_
      refine Jvm.RoadKit.acmp (g := (mkF m 2 #[rv a1, rv a2, .unset] [(.ref a2), (.ref a1)])) X0 hx rfl rfl rfl (pc0 := 2) (pc' := 7) (same := false) rfl (hb hby d_jdk_42_method_66_code_2) rfl (decide_eq_false fun q => absurd (Value.ref.inj q) hc1) (by decide) (by decide) ?_
      show Steps p.tables e below (s₁.setTop (mkF m 7 #[rv a1, rv a2, .unset] [])) _
      refine XS.aloadN X0.here hx rfl (hb hby d_jdk_42_method_66_code_7) rfl rfl ?_
      show Steps p.tables e below (s₁.setTop (mkF m 8 #[rv a1, rv a2, .unset] [(.ref a2)])) _
      exact k
    obtain ⟨T5, X5, e5, st5⟩ := instY X0 hx hZ hown (hw _ (List.mem_of_getElem? (i := 48) rfl)) e0 (Ins.self a_3) (g := (mkF m 8 #[rv a1, rv a2, .unset] [(.ref a2)])) rfl rfl (hb hby d_jdk_42_method_66_code_8)
    have k6 : Way p e below S0 T5 (mkF m 11 #[rv a1, rv a2, .unset] [(.int (1 : Int32))]) := fun t k => k4 t (st5 _ k)
    have k7 : Way p e below S0 T5 (mkF m 15 #[rv a1, rv a2, .unset] [(.ref a2)]) := by
      intro t k
      refine k6 t ?_
      refine XS.ifNo X5.here hx rfl (hb hby d_jdk_42_method_66_code_11) rfl ((if0 _ _).trans (feq ((by decide) : ¬ ((1 : Int32) = (0 : Int32)))).1) ?_
      show Steps p.tables e below (T5.setTop (mkF m 14 #[rv a1, rv a2, .unset] [])) _
      refine XS.aloadN X5.here hx rfl (hb hby d_jdk_42_method_66_code_14) rfl rfl ?_
      show Steps p.tables e below (T5.setTop (mkF m 15 #[rv a1, rv a2, .unset] [(.ref a2)])) _
      exact k
    obtain ⟨T8, X8, e8, st8⟩ := castY X5 hx hZ hown (hw _ (List.mem_of_getElem? (i := 48) rfl)) e5 (Ins.self a_3) (g := (mkF m 15 #[rv a1, rv a2, .unset] [(.ref a2)])) rfl rfl (hb hby d_jdk_42_method_66_code_15)
    have k9 : Way p e below S0 T8 (mkF m 18 #[rv a1, rv a2, .unset] [(.ref a2)]) := fun t k => k7 t (st8 _ k)
    have k10 : Way p e below S0 T8 (mkF m 19 #[rv a1, rv a2, rv a2] []) := by
      intro t k
      refine k9 t ?_
      refine XS.astoreN X8.here hx rfl (hb hby d_jdk_42_method_66_code_18) rfl rfl (l' := #[rv a1, rv a2, rv a2]) rfl ?_
      show Steps p.tables e below (T8.setTop (mkF m 19 #[rv a1, rv a2, rv a2] [])) _
      exact k
    obtain ⟨T11, X11, e11, st11⟩ := getS2 X8 hx hZ hown (host := "") (Or.inl (hw _ (List.mem_of_getElem? (i := 50) rfl))) Via.refl e8 (S_CS.ext O0.2) (g := (mkF m 19 #[rv a1, rv a2, rv a2] [])) rfl (hb hby d_jdk_42_method_66_code_19)
    have k12 : Way p e below S0 T11 (mkF m 22 #[rv a1, rv a2, rv a2] [(.int wCS)]) := fun t k => k10 t (st11 _ k)
    have k13 : Way p e below S0 T11 (mkF m 26 #[rv a1, rv a2, rv a2] [(.ref a1)]) := by
      intro t k
      refine k12 t ?_
      refine XS.ifNo X11.here hx rfl (hb hby d_jdk_42_method_66_code_22) rfl ((if0 _ _).trans (feq (hCS : ¬ (wCS = (0 : Int32)))).1) ?_
      show Steps p.tables e below (T11.setTop (mkF m 25 #[rv a1, rv a2, rv a2] [])) _
      refine XS.aloadN X11.here hx rfl (hb hby d_jdk_42_method_66_code_25) rfl rfl ?_
      show Steps p.tables e below (T11.setTop (mkF m 26 #[rv a1, rv a2, rv a2] [(.ref a1)])) _
      exact k
    obtain ⟨T14, X14, e14, st14⟩ := getF X11 hx hZ hown (host := "") (Or.inl (hw _ (List.mem_of_getElem? (i := 51) rfl))) Via.refl e11 a_0 (g := (mkF m 26 #[rv a1, rv a2, rv a2] [(.ref a1)])) rfl rfl (hb hby d_jdk_42_method_66_code_26)
    have k15 : Way p e below S0 T14 (mkF m 29 #[rv a1, rv a2, rv a2] [(.int (0 : Int32))]) := fun t k => k13 t (st14 _ k)
    have k16 : Way p e below S0 T14 (mkF m 30 #[rv a1, rv a2, rv a2] [(.ref a2), (.int (0 : Int32))]) := by
      intro t k
      refine k15 t ?_
      refine XS.aloadN X14.here hx rfl (hb hby d_jdk_42_method_66_code_29) rfl rfl ?_
      show Steps p.tables e below (T14.setTop (mkF m 30 #[rv a1, rv a2, rv a2] [(.ref a2), (.int (0 : Int32))])) _
      exact k
    obtain ⟨T17, X17, e17, st17⟩ := getF X14 hx hZ hown (host := "") (Or.inl (hw _ (List.mem_of_getElem? (i := 51) rfl))) Via.refl e14 a_4 (g := (mkF m 30 #[rv a1, rv a2, rv a2] [(.ref a2), (.int (0 : Int32))])) rfl rfl (hb hby d_jdk_42_method_66_code_30)
    have k18 : Way p e below S0 T17 (mkF m 33 #[rv a1, rv a2, rv a2] [(.int (0 : Int32)), (.int (0 : Int32))]) := fun t k => k16 t (st17 _ k)
    have k19 : Way p e below S0 T17 (mkF m 37 #[rv a1, rv a2, rv a2] [(.ref a1)]) := by
      intro t k
      refine k18 t ?_
      refine XS.icmpNo X17.here hx rfl (hb hby d_jdk_42_method_66_code_33) rfl (teq ((by decide) : (0 : Int32) = (0 : Int32))).2 ?_
      show Steps p.tables e below (T17.setTop (mkF m 36 #[rv a1, rv a2, rv a2] [])) _
      refine XS.aloadN X17.here hx rfl (hb hby d_jdk_42_method_66_code_36) rfl rfl ?_
      show Steps p.tables e below (T17.setTop (mkF m 37 #[rv a1, rv a2, rv a2] [(.ref a1)])) _
      exact k
    obtain ⟨T20, X20, e20, st20⟩ := getF X17 hx hZ hown (host := "") (Or.inl (hw _ (List.mem_of_getElem? (i := 52) rfl))) Via.refl e17 a_1 (g := (mkF m 37 #[rv a1, rv a2, rv a2] [(.ref a1)])) rfl rfl (hb hby d_jdk_42_method_66_code_37)
    have k21 : Way p e below S0 T20 (mkF m 40 #[rv a1, rv a2, rv a2] [(.ref b1)]) := fun t k => k19 t (st20 _ k)
    have k22 : Way p e below S0 T20 (mkF m 41 #[rv a1, rv a2, rv a2] [(.ref a2), (.ref b1)]) := by
      intro t k
      refine k21 t ?_
      refine XS.aloadN X20.here hx rfl (hb hby d_jdk_42_method_66_code_40) rfl rfl ?_
      show Steps p.tables e below (T20.setTop (mkF m 41 #[rv a1, rv a2, rv a2] [(.ref a2), (.ref b1)])) _
      exact k
    obtain ⟨T23, X23, e23, st23⟩ := getF X20 hx hZ hown (host := "") (Or.inl (hw _ (List.mem_of_getElem? (i := 52) rfl))) Via.refl e20 a_5 (g := (mkF m 41 #[rv a1, rv a2, rv a2] [(.ref a2), (.ref b1)])) rfl rfl (hb hby d_jdk_42_method_66_code_41)
    have k24 : Way p e below S0 T23 (mkF m 44 #[rv a1, rv a2, rv a2] [(.ref b2), (.ref b1)]) := fun t k => k22 t (st23 _ k)
    obtain ⟨_, _, ⟨T25, L25, kk25, nn25⟩, -, X25, ⟨Lc25, hQ25, l25, y25, z25⟩, st25⟩ := Jvm.LawKit.callS X23 hx (y := (⟨"java/lang/StringLatin1", "equals", "([B[B)Z"⟩ : MethodName)) hown (mvT hZ (hw _ (List.mem_of_getElem? (i := 53) rfl))) (mvT hZ (hw _ (List.mem_of_getElem? (i := 54) rfl))) (mvT hZ (hw _ (List.mem_of_getElem? (i := 55) rfl))) (mvT hZ (hw _ (List.mem_of_getElem? (i := 56) rfl))) (by decide) (backOf (W := 0) (leq11 l Z a0 hw [] w_NONE w_VIEW w_EDIT wCS G b1 b2 kk1 kk2 h0 n0 O0 (a_2 : Arv Z h0 b1 kk1 .byte (8 : Int32) [(.int (117 : Int32)), (.int (110 : Int32)), (.int (109 : Int32)), (.int (97 : Int32)), (.int (115 : Int32)), (.int (107 : Int32)), (.int (101 : Int32)), (.int (100 : Int32))] (.int (0 : Int32))) (a_6 : Arv Z h0 b2 kk2 .byte (8 : Int32) [(.int (117 : Int32)), (.int (110 : Int32)), (.int (109 : Int32)), (.int (97 : Int32)), (.int (115 : Int32)), (.int (107 : Int32)), (.int (101 : Int32)), (.int (100 : Int32))] (.int (0 : Int32)))) hZ (hw _ (List.mem_of_getElem? (i := 56) rfl)) (hw _ (List.mem_of_getElem? (i := 55) rfl)) (by decide) (by decide)) (g := (mkF m 44 #[rv a1, rv a2, rv a2] [(.ref b2), (.ref b1)])) rfl (by rw [hml]; rfl) (argsL := [(.ref b1), (.ref b2)]) (rest := []) (lenOf pd_1 rfl) rfl (by show 2 * 0 + _ ≤ _; exact Nat.le_of_eq rfl) (hb hby d_jdk_42_method_66_code_44) (fun _ _ => ⟨rfl, e23, (by decide : 0 + 0 ≤ _), (by decide : 0 + 0 ≤ _)⟩)
    dsimp only [Pt.U, Pt.locs, Pt.cells, Pt.slots] at X25 l25 y25 z25 st25 hQ25
    subst l25 y25 z25
    obtain ⟨rfl, Nq25, e25⟩ := hQ25
    have N25 := Fr.app N0 Nq25
    have k26 : Way p e below S0 T25 (mkF m 47 #[rv a1, rv a2, rv a2] [(.int (1 : Int32))]) := fun t k => k24 t (st25 _ k)
    have k27 : Way p e below S0 T25 (mkF m 55 #[rv a1, rv a2, rv a2] [(.int (1 : Int32))]) := by
      intro t k
      refine k26 t ?_
      refine XS.ifNo X25.here hx rfl (hb hby d_jdk_42_method_66_code_47) rfl ((if0 _ _).trans (feq ((by decide) : ¬ ((1 : Int32) = (0 : Int32)))).1) ?_
      show Steps p.tables e below (T25.setTop (mkF m 50 #[rv a1, rv a2, rv a2] [])) _
      refine XS.iconst X25.here hx rfl (hb hby d_jdk_42_method_66_code_50) ?_
      show Steps p.tables e below (T25.setTop (mkF m 51 #[rv a1, rv a2, rv a2] [(.int (1 : Int32))])) _
      refine XS.goto X25.here hx rfl (pc0 := 51) (pc' := 55) rfl (hb hby d_jdk_42_method_66_code_51) (by decide) (by decide) ?_
      show Steps p.tables e below (T25.setTop (mkF m 55 #[rv a1, rv a2, rv a2] [(.int (1 : Int32))])) _
      exact k
    obtain ⟨fs, hr, hrun, hended, hW, hsame⟩ := X25.leave (v := some (.int (1 : Int32))) (fun h => by rw [Bd.returns] at h; cases h)
    refine ⟨_, _, k27 _ (retN X25 hx (t := .boolean) Bd.returns (by simp) (hb hby d_jdk_42_method_66_code_55) hr), hrun, hended, _, _, rfl, ?_, ⟨_, rfl⟩, hW, hsame.mono (by decide) (by decide)⟩
    show Q_seq11 Z w_NONE w_VIEW w_EDIT wCS a1 a2 b1 b2 kk1 kk2 h0 n0 _ T25.heap _
    rw [e25]
    exact ⟨rfl, N25, rfl⟩
def Q_law_met (Z : State) (w_NONE : Addr) (w_VIEW : Addr) (w_EDIT : Addr) (wCS : Int32) (p1 : Int32) (p2 : Int32) (h0 : Heap) (n0 : Nat) (v : Option Value) (h : Heap) (L : List Loc) : Prop := (v = some (.int (1 : Int32))) ∧ (Fr n0 L)
set_option maxRecDepth 65536 in
set_option maxHeartbeats 40000000 in
theorem law_met (l : Launch) (Z : State) (a0 : Array Value) (hw : ∀ d ∈ tables_1, d.before a0 Z = true) (ws : List Jvm.Cond) (w_NONE : Addr) (w_VIEW : Addr) (w_EDIT : Addr) (wCS : Int32) (G : Gst Z w_NONE w_VIEW w_EDIT wCS) (p1 : Int32) (p2 : Int32) (h0 : Heap) (n0 : Nat) (O0 : Old Z n0 h0) :
    MetFree l x (head1 (Jvm.Cond.code x code maxLocals ret :: ws) room_1) (fun a U => a = #[(.int p1), (.int p2)] ∧ Z.Warmed39 U.vm ∧ U.heap = h0 ∧ CHv Z own_EL U.vm h0) (fun _ _ _ _ _ => True) (fun _ U o U' => ∃ v L, o = .returned v ∧ Q_law_met Z w_NONE w_VIEW w_EDIT wCS p1 p2 h0 n0 v U'.heap L ∧ CHr Z own_EL U.vm U.heap U'.vm U'.heap ∧ ReturnedEndW U o U' L 24 4224) := by
  refine MetFree.of_bodySF (plainFor_of_name pn_0) hisR ?_
  intro p e s m args below meth c s₁ Bd hml0 hP hK
  obtain ⟨rfl, hZ, hh, H0⟩ := hP
  have hx := Bd.exec
  have hby := Bd.bytes
  have hml : c.maxLocals = 9 := hml0
  have hown : s.vm.findClass "caseward/policy/AccessPiiWordPinLaw" = some m.cls := findClass_of_methodNamed Bd.named
  have hnm := (name_of_methodNamed Bd.named Bd.method).1
  have X0 : Stand p l e room_1 s m #[(.int p1), (.int p2)] below meth c s₁ [] 0 0 := Stand.of_body Bd
  have e0 : s₁.heap = h0 := by rw [← hh, Bd.state]; rfl
  have N0 := Fr.nil n0
  have R0 : CHr Z own_EL s.vm h0 s.vm h0 := CHr.refl H0
  have X0 : Stand p l e room_1 (s.setVm s.vm) m #[(.int p1), (.int p2)] below meth c s₁ [] 0 0 := X0
  have hS0 : s.Since s.vm 0 := (State.WarmedH.refl s).since 0
  obtain ⟨S_w_NONE, E_w_NONE, F_w_NONE_ordinal, S_w_VIEW, E_w_VIEW, F_w_VIEW_ordinal, S_w_EDIT, E_w_EDIT, F_w_EDIT_ordinal, S_CS, hCS⟩ := id G
  have k0 : Way p e below (s₁.setTop (entryFrame m #[(.int p1), (.int p2)] maxLocals)) s₁ (mkF m 0 #[iv p1, iv p2, .unset, .unset, .unset, .unset, .unset, .unset, .unset] []) := fun t k => castTop (by first | (simp [entryFrame, mkF, argsToLocals, Value.category, maxLocals]; done) | rfl) k
  generalize s₁.setTop (entryFrame m #[(.int p1), (.int p2)] maxLocals) = S0 at k0 ⊢
  have k1 : Way p e below S0 s₁ (mkF m 1 #[iv p1, iv p2, .unset, .unset, .unset, .unset, .unset, .unset, .unset] [(.int p1)]) := by
    intro t k
    refine k0 t ?_
    refine XS.iloadN X0.here hx rfl (hb hby at_0) rfl ?_
    show Steps p.tables e below (s₁.setTop (mkF m 1 #[iv p1, iv p2, .unset, .unset, .unset, .unset, .unset, .unset, .unset] [(.int p1)])) _
    exact k
  obtain ⟨_, _, ⟨T2, L2, kk2, nn2⟩, -, X2, ⟨Lc2, hQ2, l2, y2, z2⟩, st2⟩ := Jvm.LawKit.callS X0 hx (y := (⟨"caseward/policy/AccessPiiWordPinLaw", "level", "(I)Lcaseward/policy/Access$Level;"⟩ : MethodName)) hown (mvT hZ (hw _ (List.mem_of_getElem? (i := 0) rfl))) (mvT hZ (hw _ (List.mem_of_getElem? (i := 1) rfl))) (mvT hZ (hw _ (List.mem_of_getElem? (i := 2) rfl))) (mvT hZ (hw _ (List.mem_of_getElem? (i := 3) rfl))) (by decide) (backOf (W := 0) (lev l Z a0 hw [] w_NONE w_VIEW w_EDIT wCS G p1 h0 n0 O0 ) hZ (hw _ (List.mem_of_getElem? (i := 3) rfl)) (hw _ (List.mem_of_getElem? (i := 2) rfl)) (by decide) (by decide)) (g := (mkF m 1 #[iv p1, iv p2, .unset, .unset, .unset, .unset, .unset, .unset, .unset] [(.int p1)])) rfl (by rw [hml]; rfl) (argsL := [(.int p1)]) (rest := []) (lenOf pd_2 rfl) rfl (by show 2 * 0 + _ ≤ _; exact Nat.le_of_eq rfl) (hb hby at_1) (fun _ _ => ⟨rfl, e0, (by decide : 0 + 0 ≤ _), (by decide : 0 + 0 ≤ _)⟩)
  dsimp only [Pt.U, Pt.locs, Pt.cells, Pt.slots] at X2 l2 y2 z2 st2 hQ2
  subst l2 y2 z2
  obtain ⟨a1_2, rfl, Nq2, e2, po2_0⟩ := hQ2
  have N2 := Fr.app N0 Nq2
  have k3 : Way p e below S0 T2 (mkF m 4 #[iv p1, iv p2, .unset, .unset, .unset, .unset, .unset, .unset, .unset] [(.ref a1_2)]) := fun t k => k1 t (st2 _ k)
  have k4 : Way p e below S0 T2 (mkF m 5 #[iv p1, iv p2, rv a1_2, .unset, .unset, .unset, .unset, .unset, .unset] []) := by
    intro t k
    refine k3 t ?_
    refine XS.astoreN X2.here hx rfl (hb hby at_4) rfl rfl (l' := #[iv p1, iv p2, rv a1_2, .unset, .unset, .unset, .unset, .unset, .unset]) rfl ?_
    show Steps p.tables e below (T2.setTop (mkF m 5 #[iv p1, iv p2, rv a1_2, .unset, .unset, .unset, .unset, .unset, .unset] [])) _
    exact k
  rcases po2_0 with hl2 | hl2 | hl2
  · have k5 : Way p e below S0 T2 (mkF m 5 #[iv p1, iv p2, rv w_NONE, .unset, .unset, .unset, .unset, .unset, .unset] []) := by have q := k4; rw [hl2] at q; exact q
    have k7 : Way p e below S0 T2 (mkF m 8 #[iv p1, iv p2, rv w_NONE, .unset, .unset, .unset, .unset, .unset, .unset] [(.int (p2 &&& (1 : Int32)))]) := by
      intro t k
      refine k5 t ?_
      refine XS.iloadN X2.here hx rfl (hb hby at_5) rfl ?_
      show Steps p.tables e below (T2.setTop (mkF m 6 #[iv p1, iv p2, rv w_NONE, .unset, .unset, .unset, .unset, .unset, .unset] [(.int p2)])) _
      refine XS.iconst X2.here hx rfl (hb hby at_6) ?_
      show Steps p.tables e below (T2.setTop (mkF m 7 #[iv p1, iv p2, rv w_NONE, .unset, .unset, .unset, .unset, .unset, .unset] [(.int (1 : Int32)), (.int p2)])) _
      refine XS.iand X2.here hx rfl (hb hby at_7) rfl ?_
      show Steps p.tables e below (T2.setTop (mkF m 8 #[iv p1, iv p2, rv w_NONE, .unset, .unset, .unset, .unset, .unset, .unset] [(.int (p2 &&& (1 : Int32)))])) _
      exact k
    by_cases hc6 : (p2 &&& (1 : Int32)) = (0 : Int32)
    · have k9 : Way p e below S0 T2 (mkF m 20 #[iv p1, iv p2, rv w_NONE, iv (0 : Int32), .unset, .unset, .unset, .unset, .unset] [(.int (p2 &&& (2 : Int32)))]) := by
        intro t k
        refine k7 t ?_
        refine XS.ifYes X2.here hx rfl (pc0 := 8) (pc' := 15) rfl (hb hby at_8) rfl ((if0 _ _).trans (teq (hc6 : (p2 &&& (1 : Int32)) = (0 : Int32))).1) (by decide) (by decide) ?_
        show Steps p.tables e below (T2.setTop (mkF m 15 #[iv p1, iv p2, rv w_NONE, .unset, .unset, .unset, .unset, .unset, .unset] [])) _
        refine XS.iconst X2.here hx rfl (hb hby at_15) ?_
        show Steps p.tables e below (T2.setTop (mkF m 16 #[iv p1, iv p2, rv w_NONE, .unset, .unset, .unset, .unset, .unset, .unset] [(.int (0 : Int32))])) _
        refine XS.istoreN X2.here hx rfl (hb hby at_16) rfl (l' := #[iv p1, iv p2, rv w_NONE, iv (0 : Int32), .unset, .unset, .unset, .unset, .unset]) rfl ?_
        show Steps p.tables e below (T2.setTop (mkF m 17 #[iv p1, iv p2, rv w_NONE, iv (0 : Int32), .unset, .unset, .unset, .unset, .unset] [])) _
        refine XS.iloadN X2.here hx rfl (hb hby at_17) rfl ?_
        show Steps p.tables e below (T2.setTop (mkF m 18 #[iv p1, iv p2, rv w_NONE, iv (0 : Int32), .unset, .unset, .unset, .unset, .unset] [(.int p2)])) _
        refine XS.iconst X2.here hx rfl (hb hby at_18) ?_
        show Steps p.tables e below (T2.setTop (mkF m 19 #[iv p1, iv p2, rv w_NONE, iv (0 : Int32), .unset, .unset, .unset, .unset, .unset] [(.int (2 : Int32)), (.int p2)])) _
        refine XS.iand X2.here hx rfl (hb hby at_19) rfl ?_
        show Steps p.tables e below (T2.setTop (mkF m 20 #[iv p1, iv p2, rv w_NONE, iv (0 : Int32), .unset, .unset, .unset, .unset, .unset] [(.int (p2 &&& (2 : Int32)))])) _
        exact k
      by_cases hc8 : (p2 &&& (2 : Int32)) = (0 : Int32)
      · have k10 : Way p e below S0 T2 (mkF m 31 #[iv p1, iv p2, rv w_NONE, iv (0 : Int32), iv (0 : Int32), .unset, .unset, .unset, .unset] [(.ref w_NONE)]) := by
          intro t k
          refine k9 t ?_
          refine XS.ifYes X2.here hx rfl (pc0 := 20) (pc' := 27) rfl (hb hby at_20) rfl ((if0 _ _).trans (teq (hc8 : (p2 &&& (2 : Int32)) = (0 : Int32))).1) (by decide) (by decide) ?_
          show Steps p.tables e below (T2.setTop (mkF m 27 #[iv p1, iv p2, rv w_NONE, iv (0 : Int32), .unset, .unset, .unset, .unset, .unset] [])) _
          refine XS.iconst X2.here hx rfl (hb hby at_27) ?_
          show Steps p.tables e below (T2.setTop (mkF m 28 #[iv p1, iv p2, rv w_NONE, iv (0 : Int32), .unset, .unset, .unset, .unset, .unset] [(.int (0 : Int32))])) _
          refine XS.istore X2.here hx rfl (hb hby at_28) rfl (l' := #[iv p1, iv p2, rv w_NONE, iv (0 : Int32), iv (0 : Int32), .unset, .unset, .unset, .unset]) rfl ?_
          show Steps p.tables e below (T2.setTop (mkF m 30 #[iv p1, iv p2, rv w_NONE, iv (0 : Int32), iv (0 : Int32), .unset, .unset, .unset, .unset] [])) _
          refine XS.aloadN X2.here hx rfl (hb hby at_30) rfl rfl ?_
          show Steps p.tables e below (T2.setTop (mkF m 31 #[iv p1, iv p2, rv w_NONE, iv (0 : Int32), iv (0 : Int32), .unset, .unset, .unset, .unset] [(.ref w_NONE)])) _
          exact k
        obtain ⟨T11, X11, e11, st11⟩ := getS2 X2 hx hZ hown (host := "") (Or.inl (hw _ (List.mem_of_getElem? (i := 5) rfl))) Via.refl e2 (S_w_NONE.ext O0.2) (g := (mkF m 31 #[iv p1, iv p2, rv w_NONE, iv (0 : Int32), iv (0 : Int32), .unset, .unset, .unset, .unset] [(.ref w_NONE)])) rfl (hb hby at_31)
        have k12 : Way p e below S0 T11 (mkF m 34 #[iv p1, iv p2, rv w_NONE, iv (0 : Int32), iv (0 : Int32), .unset, .unset, .unset, .unset] [(.ref w_NONE), (.ref w_NONE)]) := fun t k => k10 t (st11 _ k)
        have k13 : Way p e below S0 T11 (mkF m 42 #[iv p1, iv p2, rv w_NONE, iv (0 : Int32), iv (0 : Int32), .unset, .unset, .unset, .unset] []) := by
          intro t k
          refine k12 t ?_
          refine Jvm.RoadKit.acmp (g := (mkF m 34 #[iv p1, iv p2, rv w_NONE, iv (0 : Int32), iv (0 : Int32), .unset, .unset, .unset, .unset] [(.ref w_NONE), (.ref w_NONE)])) X11 hx rfl rfl rfl (pc0 := 34) (pc' := 37) (same := true) rfl (hb hby at_34) rfl (decide_eq_true rfl) (by decide) (by decide) ?_
          show Steps p.tables e below (T11.setTop (mkF m 37 #[iv p1, iv p2, rv w_NONE, iv (0 : Int32), iv (0 : Int32), .unset, .unset, .unset, .unset] [])) _
          refine XS.iconst X11.here hx rfl (hb hby at_37) ?_
          show Steps p.tables e below (T11.setTop (mkF m 38 #[iv p1, iv p2, rv w_NONE, iv (0 : Int32), iv (0 : Int32), .unset, .unset, .unset, .unset] [(.int (0 : Int32))])) _
          refine XS.istoreN X11.here hx rfl (hb hby at_38) rfl (l' := #[iv p1, iv p2, rv w_NONE, iv (0 : Int32), iv (0 : Int32), .unset, .unset, .unset, .unset]) rfl ?_
          show Steps p.tables e below (T11.setTop (mkF m 39 #[iv p1, iv p2, rv w_NONE, iv (0 : Int32), iv (0 : Int32), .unset, .unset, .unset, .unset] [])) _
          refine XS.iconst X11.here hx rfl (hb hby at_39) ?_
          show Steps p.tables e below (T11.setTop (mkF m 40 #[iv p1, iv p2, rv w_NONE, iv (0 : Int32), iv (0 : Int32), .unset, .unset, .unset, .unset] [(.int (0 : Int32))])) _
          refine XS.istore X11.here hx rfl (hb hby at_40) rfl (l' := #[iv p1, iv p2, rv w_NONE, iv (0 : Int32), iv (0 : Int32), .unset, .unset, .unset, .unset]) rfl ?_
          show Steps p.tables e below (T11.setTop (mkF m 42 #[iv p1, iv p2, rv w_NONE, iv (0 : Int32), iv (0 : Int32), .unset, .unset, .unset, .unset] [])) _
          exact k
        obtain ⟨T14, h14, X14, e14, E14, A14, D14, U14, st14⟩ := newO X11 hx hZ hown (hw _ (List.mem_of_getElem? (i := 8) rfl)) (hw _ (List.mem_of_getElem? (i := 9) rfl)) (hw _ (List.mem_of_getElem? (i := 10) rfl)) e11 (g := (mkF m 42 #[iv p1, iv p2, rv w_NONE, iv (0 : Int32), iv (0 : Int32), .unset, .unset, .unset, .unset] [])) rfl (hb hby at_42) (by decide) (by decide)
        obtain ⟨b14, g14⟩ : ∃ z, z = h0.size := ⟨_, rfl⟩
        rw [← g14] at A14 D14 U14 st14
        have R14 : CHr Z own_EL s.vm h0 s.vm h14 := R0.trans (CHr.ext E14 R0.1)
        have O14 := O0.ext E14
        have i14_level : Fld Z h14 b14 "caseward/policy/Access" "level" "Lcaseward/policy/Access$Level;" .null := D14 (Or.inr (hw _ (List.mem_of_getElem? (i := 24) rfl))) (ty := (.object "caseward/policy/Access$Level")) (by decide)
        have i14_pii : Fld Z h14 b14 "caseward/policy/Access" "pii" "Z" (.int (0 : Int32)) := D14 (Or.inr (hw _ (List.mem_of_getElem? (i := 26) rfl))) (ty := .boolean) (by decide)
        have i14_unblinded : Fld Z h14 b14 "caseward/policy/Access" "unblinded" "Z" (.int (0 : Int32)) := D14 (Or.inr (hw _ (List.mem_of_getElem? (i := 28) rfl))) (ty := .boolean) (by decide)
        have k15 : Way p e below S0 T14 (mkF m 45 #[iv p1, iv p2, rv w_NONE, iv (0 : Int32), iv (0 : Int32), .unset, .unset, .unset, .unset] [(.ref b14)]) := fun t k => k13 t (st14 _ k)
        have k16 : Way p e below S0 T14 (mkF m 50 #[iv p1, iv p2, rv w_NONE, iv (0 : Int32), iv (0 : Int32), .unset, .unset, .unset, .unset] [(.int (0 : Int32)), (.int (0 : Int32)), (.ref w_NONE), (.ref b14), (.ref b14)]) := by
          intro t k
          refine k15 t ?_
          refine XS.dup X14.here hx rfl (hb hby at_45) rfl rfl ?_
          show Steps p.tables e below (T14.setTop (mkF m 46 #[iv p1, iv p2, rv w_NONE, iv (0 : Int32), iv (0 : Int32), .unset, .unset, .unset, .unset] [(.ref b14), (.ref b14)])) _
          refine XS.aloadN X14.here hx rfl (hb hby at_46) rfl rfl ?_
          show Steps p.tables e below (T14.setTop (mkF m 47 #[iv p1, iv p2, rv w_NONE, iv (0 : Int32), iv (0 : Int32), .unset, .unset, .unset, .unset] [(.ref w_NONE), (.ref b14), (.ref b14)])) _
          refine XS.iloadN X14.here hx rfl (hb hby at_47) rfl ?_
          show Steps p.tables e below (T14.setTop (mkF m 48 #[iv p1, iv p2, rv w_NONE, iv (0 : Int32), iv (0 : Int32), .unset, .unset, .unset, .unset] [(.int (0 : Int32)), (.ref w_NONE), (.ref b14), (.ref b14)])) _
          refine XS.iload X14.here hx rfl (hb hby at_48) rfl ?_
          show Steps p.tables e below (T14.setTop (mkF m 50 #[iv p1, iv p2, rv w_NONE, iv (0 : Int32), iv (0 : Int32), .unset, .unset, .unset, .unset] [(.int (0 : Int32)), (.int (0 : Int32)), (.ref w_NONE), (.ref b14), (.ref b14)])) _
          exact k
        have ge17 : n0 ≤ b14 := Nat.le_trans (own_old O0) (Nat.le_of_eq g14.symm)
        obtain ⟨_, _, ⟨T18, L18, kk18, nn18⟩, -, X18, ⟨Lc18, hQ18, l18, y18, z18⟩, st18⟩ := X14.specialBack hx (y := (⟨"caseward/policy/Access", "<init>", "(Lcaseward/policy/Access$Level;ZZ)V"⟩ : MethodName)) rfl hown (mvT hZ (hw _ (List.mem_of_getElem? (i := 11) rfl))) (mvT hZ (hw _ (List.mem_of_getElem? (i := 12) rfl))) (mvT hZ (hw _ (List.mem_of_getElem? (i := 13) rfl))) (by decide) (backOf (W := 1) (init_NONE00 l Z a0 hw [] w_NONE w_VIEW w_EDIT wCS G b14 h14 n0 O14 (A14 : Exa Z h14 b14 "caseward/policy/Access") (i14_level : Fld Z h14 b14 "caseward/policy/Access" "level" "Lcaseward/policy/Access$Level;" .null) (i14_pii : Fld Z h14 b14 "caseward/policy/Access" "pii" "Z" (.int (0 : Int32))) (i14_unblinded : Fld Z h14 b14 "caseward/policy/Access" "unblinded" "Z" (.int (0 : Int32))) (ge17 : n0 ≤ b14)) hZ (hw _ (List.mem_of_getElem? (i := 13) rfl)) (hw _ (List.mem_of_getElem? (i := 10) rfl)) (by decide) (by decide)) (g := (mkF m 50 #[iv p1, iv p2, rv w_NONE, iv (0 : Int32), iv (0 : Int32), .unset, .unset, .unset, .unset] [(.int (0 : Int32)), (.int (0 : Int32)), (.ref w_NONE), (.ref b14), (.ref b14)])) rfl (by rw [hml]; rfl) (Steps.refl _) (a := b14) (argsL := [(.ref w_NONE), (.int (0 : Int32)), (.int (0 : Int32))]) (rest := [(.ref b14)]) (lenOf pd_3 rfl) rfl (by show 2 * 0 + _ ≤ _; exact Nat.le_of_eq rfl) (hb hby at_50) (fun _ _ => ⟨rfl, e14, (by decide : 1 + 0 ≤ _), (by decide : 3 + 0 ≤ _)⟩)
        dsimp only [Pt.U, Pt.locs, Pt.cells, Pt.slots] at X18 l18 y18 z18 st18 hQ18
        subst l18 y18 z18
        obtain ⟨rfl, Nq18, Kq18, po18_0, po18_1⟩ := hQ18
        have N18 := Fr.app N2 Nq18
        have O18 := O14.keep Kq18 (allS ge17 all0)
        have R18 : CHr Z own_EL s.vm h0 s.vm T18.heap := R14.trans (CHr.keep Kq18 (sfS (Safe.exa hZ.alike A14 (by decide) (by decide)) sf0) R14.1)
        have k19 : Way p e below S0 T18 (mkF m 53 #[iv p1, iv p2, rv w_NONE, iv (0 : Int32), iv (0 : Int32), .unset, .unset, .unset, .unset] [(.ref b14)]) := fun t k => k16 t (st18.trans k)
        have k20 : Way p e below S0 T18 (mkF m 57 #[iv p1, iv p2, rv w_NONE, iv (0 : Int32), iv (0 : Int32), rv b14, .unset, .unset, .unset] [(.ref b14)]) := by
          intro t k
          refine k19 t ?_
          refine XS.astore X18.here hx rfl (hb hby at_53) rfl rfl (l' := #[iv p1, iv p2, rv w_NONE, iv (0 : Int32), iv (0 : Int32), rv b14, .unset, .unset, .unset]) rfl ?_
          show Steps p.tables e below (T18.setTop (mkF m 55 #[iv p1, iv p2, rv w_NONE, iv (0 : Int32), iv (0 : Int32), rv b14, .unset, .unset, .unset] [])) _
          refine XS.aload X18.here hx rfl (hb hby at_55) rfl rfl ?_
          show Steps p.tables e below (T18.setTop (mkF m 57 #[iv p1, iv p2, rv w_NONE, iv (0 : Int32), iv (0 : Int32), rv b14, .unset, .unset, .unset] [(.ref b14)])) _
          exact k
        obtain ⟨cq21, kq21, qq21a, qq21b, qq21c⟩ := isOf hZ rfl po18_0
        obtain ⟨_, _, ⟨T21, L21, kk21, nn21⟩, -, Xr21, hSr21, hgr21, ⟨Lc21, hQ21, l21, y21, z21, Rr21⟩, st21⟩ := X18.virtualBackS hx (y := (⟨"caseward/policy/Access", "piiWord", "()Ljava/lang/String;"⟩ : MethodName)) (z := (⟨"caseward/policy/Access", "piiWord", "()Ljava/lang/String;"⟩ : MethodName)) hown (mvT hZ (hw _ (List.mem_of_getElem? (i := 29) rfl))) (mvT hZ (hw _ (List.mem_of_getElem? (i := 30) rfl))) (notFace_of_selects (args := #[]) (mvT hZ (hw _ (List.mem_of_getElem? (i := 32) rfl)))) (mvT hZ (hw _ (List.mem_of_getElem? (i := 32) rfl))) (mvT hZ (hw _ (List.mem_of_getElem? (i := 31) rfl))) (by decide) (backOfSH (s := s) (vm0 := s.vm) (W := 0) (piiWord0 l Z a0 hw [] w_NONE w_VIEW w_EDIT wCS G b14 T18.heap n0 O18 (po18_1 : Fld Z T18.heap b14 "caseward/policy/Access" "pii" "Z" (.int (0 : Int32)))) hZ (hw _ (List.mem_of_getElem? (i := 33) rfl)) (hw _ (List.mem_of_getElem? (i := 10) rfl)) (by decide) (by decide) (own_EW hw) R18.1) qq21a qq21c (g := (mkF m 57 #[iv p1, iv p2, rv w_NONE, iv (0 : Int32), iv (0 : Int32), rv b14, .unset, .unset, .unset] [(.ref b14)])) rfl (by rw [hml]; rfl) (Steps.refl _) (argsL := []) (rest := []) (lenOf pd_4 rfl) rfl (by show 2 * 0 + _ ≤ _; exact Nat.le_of_eq rfl) (hb hby at_57) (fun _ _ => ⟨rfl, rfl, (by decide : 1 + 2 ≤ _), (by decide : 3 + 28 ≤ _)⟩)
        dsimp only [Pt.U, Pt.locs, Pt.cells, Pt.slots] at Xr21 hSr21 hgr21 l21 y21 z21 st21 hQ21 Rr21
        subst l21 y21 z21
        obtain ⟨X21, hS21, hZ21, ho21⟩ := rebS (s := s) (vm0 := s.vm) hS0 (Nat.zero_le _) Xr21 hSr21 hgr21 hZ hown
        have hZ := hZ21
        have hown := ho21
        obtain ⟨a2_21, a3_21, kk1_21, rfl, Nq21, Kq21, po21_0, po21_1, po21_2, po21_3⟩ := hQ21
        have N21 := Fr.app N18 Nq21
        have O21 := O18.keep Kq21 all0
        have R21 : CHr Z own_EL s.vm h0 T21.vm T21.heap := R18.trans Rr21
        have k22 : Way p e below S0 T21 (mkF m 60 #[iv p1, iv p2, rv w_NONE, iv (0 : Int32), iv (0 : Int32), rv b14, .unset, .unset, .unset] [(.ref a2_21)]) := fun t k => k20 t (st21.trans k)
        have k23 : Way p e below S0 T21 (mkF m 71 #[iv p1, iv p2, rv w_NONE, iv (0 : Int32), iv (0 : Int32), rv b14, rv a2_21, .unset, .unset] [(.ref a2_21)]) := by
          intro t k
          refine k22 t ?_
          refine XS.astore X21.here hx rfl (hb hby at_60) rfl rfl (l' := #[iv p1, iv p2, rv w_NONE, iv (0 : Int32), iv (0 : Int32), rv b14, rv a2_21, .unset, .unset]) rfl ?_
          show Steps p.tables e below (T21.setTop (mkF m 62 #[iv p1, iv p2, rv w_NONE, iv (0 : Int32), iv (0 : Int32), rv b14, rv a2_21, .unset, .unset] [])) _
          refine XS.aload X21.here hx rfl (hb hby at_62) rfl rfl ?_
          show Steps p.tables e below (T21.setTop (mkF m 64 #[iv p1, iv p2, rv w_NONE, iv (0 : Int32), iv (0 : Int32), rv b14, rv a2_21, .unset, .unset] [(.ref a2_21)])) _
          refine XS.ifnonnullYes X21.here hx rfl (pc0 := 64) (pc' := 69) rfl (hb hby at_64) rfl (by decide) (by decide) ?_
          show Steps p.tables e below (T21.setTop (mkF m 69 #[iv p1, iv p2, rv w_NONE, iv (0 : Int32), iv (0 : Int32), rv b14, rv a2_21, .unset, .unset] [])) _
          refine XS.aload X21.here hx rfl (hb hby at_69) rfl rfl ?_
          show Steps p.tables e below (T21.setTop (mkF m 71 #[iv p1, iv p2, rv w_NONE, iv (0 : Int32), iv (0 : Int32), rv b14, rv a2_21, .unset, .unset] [(.ref a2_21)])) _
          exact k
        obtain ⟨la24, T24, h24, ks24, lb24, lk24, X24, e24, E24, hS24, hk24, hZ24, ho24, Fe24, Fc24, Fv24, Va24, -, -, Rr24, Li24, Sa24, st24⟩ := ldcCH (s := s) (vm0 := T21.vm) (EL := own_EL) X21 hx hZ hown (hw _ (List.mem_of_getElem? (i := 42) rfl)) (own_strW hw) rfl hS21 (Nat.le_trans (Nat.le_refl _) (Nat.le_refl _)) (own_EW hw) (by decide) R21.1 (vs := [(.int (117 : Int32)), (.int (110 : Int32)), (.int (109 : Int32)), (.int (97 : Int32)), (.int (115 : Int32)), (.int (107 : Int32)), (.int (101 : Int32)), (.int (100 : Int32))]) (z := (8 : Int32)) ⟨by decide, by decide⟩ (by decide) (by decide) (g := (mkF m 71 #[iv p1, iv p2, rv w_NONE, iv (0 : Int32), iv (0 : Int32), rv b14, rv a2_21, .unset, .unset] [(.ref a2_21)])) rfl (hb hby at_71) (n := 32) (by decide) (by decide) (by decide) (by decide)
        have hZ := hZ24
        have hown := ho24
        have R24 : CHr Z own_EL s.vm h0 T24.vm h24 := R21.trans Rr24
        have O24 := O21.ext E24
        have k25 : Way p e below S0 T24 (mkF m 73 #[iv p1, iv p2, rv w_NONE, iv (0 : Int32), iv (0 : Int32), rv b14, rv a2_21, .unset, .unset] [(.ref la24), (.ref a2_21)]) := fun t k => k23 t (st24 _ k)
        have f26 : Fld Z h24 a2_21 "java/lang/String" "value" "[B" (.ref a3_21) := (po21_2.ext E24)
        have f27 : Arv Z h24 a3_21 kk1_21 .byte (6 : Int32) [(.int (109 : Int32)), (.int (97 : Int32)), (.int (115 : Int32)), (.int (107 : Int32)), (.int (101 : Int32)), (.int (100 : Int32))] (.int (0 : Int32)) := (po21_3.ext E24)
        have f28 : Fld Z h24 a2_21 "java/lang/String" "coder" "B" (.int (0 : Int32)) := (po21_1.ext E24)
        have f30 : Exa Z h24 a2_21 "java/lang/String" := (po21_0.ext E24)
        obtain ⟨cq29, kq29, qq29a, qq29b, qq29c⟩ := isOf hZ e24 f30
        obtain ⟨_, _, ⟨T29, L29, kk29, nn29⟩, -, X29, ⟨Lc29, hQ29, l29, y29, z29⟩, st29⟩ := X24.virtualBack hx (y := (⟨"java/lang/String", "equals", "(Ljava/lang/Object;)Z"⟩ : MethodName)) (z := (⟨"java/lang/String", "equals", "(Ljava/lang/Object;)Z"⟩ : MethodName)) hown (mvT hZ (hw _ (List.mem_of_getElem? (i := 43) rfl))) (mvT hZ (hw _ (List.mem_of_getElem? (i := 44) rfl))) (notFace_of_selects (args := #[]) (mvT hZ (hw _ (List.mem_of_getElem? (i := 46) rfl)))) (mvT hZ (hw _ (List.mem_of_getElem? (i := 46) rfl))) (mvT hZ (hw _ (List.mem_of_getElem? (i := 45) rfl))) (by decide) (backOf (W := 0) (seq01 l Z a0 hw [] w_NONE w_VIEW w_EDIT wCS G a2_21 la24 a3_21 lb24 kk1_21 lk24 h24 n0 O24 (f28 : Fld Z h24 a2_21 "java/lang/String" "coder" "B" (.int (0 : Int32))) (f26 : Fld Z h24 a2_21 "java/lang/String" "value" "[B" (.ref a3_21)) (f27 : Arv Z h24 a3_21 kk1_21 .byte (6 : Int32) [(.int (109 : Int32)), (.int (97 : Int32)), (.int (115 : Int32)), (.int (107 : Int32)), (.int (101 : Int32)), (.int (100 : Int32))] (.int (0 : Int32))) (Fe24 : Exa Z h24 la24 "java/lang/String") (Fc24 : Fld Z h24 la24 "java/lang/String" "coder" "B" (.int (0 : Int32))) (Fv24 : Fld Z h24 la24 "java/lang/String" "value" "[B" (.ref lb24)) (Va24 : Arv Z h24 lb24 lk24 .byte (8 : Int32) [(.int (117 : Int32)), (.int (110 : Int32)), (.int (109 : Int32)), (.int (97 : Int32)), (.int (115 : Int32)), (.int (107 : Int32)), (.int (101 : Int32)), (.int (100 : Int32))] (.int (0 : Int32))) (Fld.ne f26 Fv24 (fun q => absurd (Value.ref.inj q) (arv_ne f27 Va24 (Or.inl (by decide)))) : a2_21 ≠ la24)) hZ (hw _ (List.mem_of_getElem? (i := 47) rfl)) (hw _ (List.mem_of_getElem? (i := 35) rfl)) (by decide) (by decide)) qq29a qq29c (g := (mkF m 73 #[iv p1, iv p2, rv w_NONE, iv (0 : Int32), iv (0 : Int32), rv b14, rv a2_21, .unset, .unset] [(.ref la24), (.ref a2_21)])) rfl (by rw [hml]; rfl) (Steps.refl _) (argsL := [(.ref la24)]) (rest := []) (lenOf pd_5 rfl) rfl (by show 2 * 0 + _ ≤ _; exact Nat.le_of_eq rfl) (hb hby at_73) (fun _ _ => ⟨rfl, e24, (by decide : 5 + 0 ≤ _), (by decide : 67 + 0 ≤ _)⟩)
        dsimp only [Pt.U, Pt.locs, Pt.cells, Pt.slots] at X29 l29 y29 z29 st29 hQ29
        subst l29 y29 z29
        obtain ⟨rfl, Nq29, e29⟩ := hQ29
        have N29 := Fr.app N21 Nq29
        have k31 : Way p e below S0 T29 (mkF m 76 #[iv p1, iv p2, rv w_NONE, iv (0 : Int32), iv (0 : Int32), rv b14, rv a2_21, .unset, .unset] [(.int (0 : Int32))]) := fun t k => k25 t (st29.trans k)
        have k32 : Way p e below S0 T29 (mkF m 80 #[iv p1, iv p2, rv w_NONE, iv (0 : Int32), iv (0 : Int32), rv b14, rv a2_21, iv (0 : Int32), .unset] [(.ref a2_21)]) := by
          intro t k
          refine k31 t ?_
          refine XS.istore X29.here hx rfl (hb hby at_76) rfl (l' := #[iv p1, iv p2, rv w_NONE, iv (0 : Int32), iv (0 : Int32), rv b14, rv a2_21, iv (0 : Int32), .unset]) rfl ?_
          show Steps p.tables e below (T29.setTop (mkF m 78 #[iv p1, iv p2, rv w_NONE, iv (0 : Int32), iv (0 : Int32), rv b14, rv a2_21, iv (0 : Int32), .unset] [])) _
          refine XS.aload X29.here hx rfl (hb hby at_78) rfl rfl ?_
          show Steps p.tables e below (T29.setTop (mkF m 80 #[iv p1, iv p2, rv w_NONE, iv (0 : Int32), iv (0 : Int32), rv b14, rv a2_21, iv (0 : Int32), .unset] [(.ref a2_21)])) _
          exact k
        obtain ⟨la33, T33, h33, ks33, lb33, lk33, X33, e33, E33, hS33, hk33, hZ33, ho33, Fe33, Fc33, Fv33, Va33, -, -, Rr33, Li33, Sa33, st33⟩ := ldcCH (s := s) (vm0 := T24.vm) (EL := own_EL) X29 hx hZ hown (hw _ (List.mem_of_getElem? (i := 57) rfl)) (own_strW hw) e29 hS24 (Nat.le_trans hk24 (Nat.le_refl _)) (own_EW hw) (by decide) R24.1 (vs := [(.int (109 : Int32)), (.int (97 : Int32)), (.int (115 : Int32)), (.int (107 : Int32)), (.int (101 : Int32)), (.int (100 : Int32))]) (z := (6 : Int32)) ⟨by decide, by decide⟩ (by decide) (by decide) (g := (mkF m 80 #[iv p1, iv p2, rv w_NONE, iv (0 : Int32), iv (0 : Int32), rv b14, rv a2_21, iv (0 : Int32), .unset] [(.ref a2_21)])) rfl (hb hby at_80) (n := 24) (by decide) (by decide) (by decide) (by decide)
        have hZ := hZ33
        have hown := ho33
        have R33 : CHr Z own_EL s.vm h0 T33.vm h33 := R24.trans Rr33
        have O33 := O24.ext E33
        have k34 : Way p e below S0 T33 (mkF m 82 #[iv p1, iv p2, rv w_NONE, iv (0 : Int32), iv (0 : Int32), rv b14, rv a2_21, iv (0 : Int32), .unset] [(.ref la33), (.ref a2_21)]) := fun t k => k32 t (st33 _ k)
        have f35 : Fld Z h33 a2_21 "java/lang/String" "coder" "B" (.int (0 : Int32)) := (f28.ext E33)
        have f36 : Fld Z h33 a2_21 "java/lang/String" "value" "[B" (.ref a3_21) := (f26.ext E33)
        have f37 : Arv Z h33 a3_21 kk1_21 .byte (6 : Int32) [(.int (109 : Int32)), (.int (97 : Int32)), (.int (115 : Int32)), (.int (107 : Int32)), (.int (101 : Int32)), (.int (100 : Int32))] (.int (0 : Int32)) := (f27.ext E33)
        have f39 : Exa Z h33 a2_21 "java/lang/String" := (f30.ext E33)
        obtain ⟨cq38, kq38, qq38a, qq38b, qq38c⟩ := isOf hZ e33 f39
        obtain ⟨_, _, ⟨T38, L38, kk38, nn38⟩, -, X38, ⟨Lc38, hQ38, l38, y38, z38⟩, st38⟩ := X33.virtualBack hx (y := (⟨"java/lang/String", "equals", "(Ljava/lang/Object;)Z"⟩ : MethodName)) (z := (⟨"java/lang/String", "equals", "(Ljava/lang/Object;)Z"⟩ : MethodName)) hown (mvT hZ (hw _ (List.mem_of_getElem? (i := 43) rfl))) (mvT hZ (hw _ (List.mem_of_getElem? (i := 44) rfl))) (notFace_of_selects (args := #[]) (mvT hZ (hw _ (List.mem_of_getElem? (i := 46) rfl)))) (mvT hZ (hw _ (List.mem_of_getElem? (i := 46) rfl))) (mvT hZ (hw _ (List.mem_of_getElem? (i := 45) rfl))) (by decide) (backOf (W := 0) (seq00 l Z a0 hw [] w_NONE w_VIEW w_EDIT wCS G a2_21 la33 a3_21 lb33 kk1_21 lk33 h33 n0 O33 (f35 : Fld Z h33 a2_21 "java/lang/String" "coder" "B" (.int (0 : Int32))) (f36 : Fld Z h33 a2_21 "java/lang/String" "value" "[B" (.ref a3_21)) (f37 : Arv Z h33 a3_21 kk1_21 .byte (6 : Int32) [(.int (109 : Int32)), (.int (97 : Int32)), (.int (115 : Int32)), (.int (107 : Int32)), (.int (101 : Int32)), (.int (100 : Int32))] (.int (0 : Int32))) (Fe33 : Exa Z h33 la33 "java/lang/String") (Fc33 : Fld Z h33 la33 "java/lang/String" "coder" "B" (.int (0 : Int32))) (Fv33 : Fld Z h33 la33 "java/lang/String" "value" "[B" (.ref lb33)) (Va33 : Arv Z h33 lb33 lk33 .byte (6 : Int32) [(.int (109 : Int32)), (.int (97 : Int32)), (.int (115 : Int32)), (.int (107 : Int32)), (.int (101 : Int32)), (.int (100 : Int32))] (.int (0 : Int32)))) hZ (hw _ (List.mem_of_getElem? (i := 47) rfl)) (hw _ (List.mem_of_getElem? (i := 35) rfl)) (by decide) (by decide)) qq38a qq38c (g := (mkF m 82 #[iv p1, iv p2, rv w_NONE, iv (0 : Int32), iv (0 : Int32), rv b14, rv a2_21, iv (0 : Int32), .unset] [(.ref la33), (.ref a2_21)])) rfl (by rw [hml]; rfl) (Steps.refl _) (argsL := [(.ref la33)]) (rest := []) (lenOf pd_5 rfl) rfl (by show 2 * 0 + _ ≤ _; exact Nat.le_of_eq rfl) (hb hby at_82) (fun _ _ => ⟨rfl, e33, (by decide : 7 + 0 ≤ _), (by decide : 95 + 0 ≤ _)⟩)
        dsimp only [Pt.U, Pt.locs, Pt.cells, Pt.slots] at X38 l38 y38 z38 st38 hQ38
        subst l38 y38 z38
        obtain ⟨rfl, Nq38, e38⟩ := hQ38
        have N38 := Fr.app N29 Nq38
        have k40 : Way p e below S0 T38 (mkF m 85 #[iv p1, iv p2, rv w_NONE, iv (0 : Int32), iv (0 : Int32), rv b14, rv a2_21, iv (0 : Int32), .unset] [(.int (1 : Int32))]) := fun t k => k34 t (st38.trans k)
        have k41 : Way p e below S0 T38 (mkF m 112 #[iv p1, iv p2, rv w_NONE, iv (0 : Int32), iv (0 : Int32), rv b14, rv a2_21, iv (0 : Int32), iv (1 : Int32)] [(.int (1 : Int32))]) := by
          intro t k
          refine k40 t ?_
          refine XS.istore X38.here hx rfl (hb hby at_85) rfl (l' := #[iv p1, iv p2, rv w_NONE, iv (0 : Int32), iv (0 : Int32), rv b14, rv a2_21, iv (0 : Int32), iv (1 : Int32)]) rfl ?_
          show Steps p.tables e below (T38.setTop (mkF m 87 #[iv p1, iv p2, rv w_NONE, iv (0 : Int32), iv (0 : Int32), rv b14, rv a2_21, iv (0 : Int32), iv (1 : Int32)] [])) _
          refine XS.iload X38.here hx rfl (hb hby at_87) rfl ?_
          show Steps p.tables e below (T38.setTop (mkF m 89 #[iv p1, iv p2, rv w_NONE, iv (0 : Int32), iv (0 : Int32), rv b14, rv a2_21, iv (0 : Int32), iv (1 : Int32)] [(.int (0 : Int32))])) _
          refine XS.iloadN X38.here hx rfl (hb hby at_89) rfl ?_
          show Steps p.tables e below (T38.setTop (mkF m 90 #[iv p1, iv p2, rv w_NONE, iv (0 : Int32), iv (0 : Int32), rv b14, rv a2_21, iv (0 : Int32), iv (1 : Int32)] [(.int (0 : Int32)), (.int (0 : Int32))])) _
          refine XS.icmpNo X38.here hx rfl (hb hby at_90) rfl (teq ((by decide) : (0 : Int32) = (0 : Int32))).2 ?_
          show Steps p.tables e below (T38.setTop (mkF m 93 #[iv p1, iv p2, rv w_NONE, iv (0 : Int32), iv (0 : Int32), rv b14, rv a2_21, iv (0 : Int32), iv (1 : Int32)] [])) _
          refine XS.iload X38.here hx rfl (hb hby at_93) rfl ?_
          show Steps p.tables e below (T38.setTop (mkF m 95 #[iv p1, iv p2, rv w_NONE, iv (0 : Int32), iv (0 : Int32), rv b14, rv a2_21, iv (0 : Int32), iv (1 : Int32)] [(.int (1 : Int32))])) _
          refine XS.iloadN X38.here hx rfl (hb hby at_95) rfl ?_
          show Steps p.tables e below (T38.setTop (mkF m 96 #[iv p1, iv p2, rv w_NONE, iv (0 : Int32), iv (0 : Int32), rv b14, rv a2_21, iv (0 : Int32), iv (1 : Int32)] [(.int (0 : Int32)), (.int (1 : Int32))])) _
          refine XS.ifNo X38.here hx rfl (hb hby at_96) rfl ((if0 _ _).trans (teq ((by decide) : (0 : Int32) = (0 : Int32))).2) ?_
          show Steps p.tables e below (T38.setTop (mkF m 99 #[iv p1, iv p2, rv w_NONE, iv (0 : Int32), iv (0 : Int32), rv b14, rv a2_21, iv (0 : Int32), iv (1 : Int32)] [(.int (1 : Int32))])) _
          refine XS.iconst X38.here hx rfl (hb hby at_99) ?_
          show Steps p.tables e below (T38.setTop (mkF m 100 #[iv p1, iv p2, rv w_NONE, iv (0 : Int32), iv (0 : Int32), rv b14, rv a2_21, iv (0 : Int32), iv (1 : Int32)] [(.int (1 : Int32)), (.int (1 : Int32))])) _
          refine XS.goto X38.here hx rfl (pc0 := 100) (pc' := 104) rfl (hb hby at_100) (by decide) (by decide) ?_
          show Steps p.tables e below (T38.setTop (mkF m 104 #[iv p1, iv p2, rv w_NONE, iv (0 : Int32), iv (0 : Int32), rv b14, rv a2_21, iv (0 : Int32), iv (1 : Int32)] [(.int (1 : Int32)), (.int (1 : Int32))])) _
          refine XS.icmpNo X38.here hx rfl (hb hby at_104) rfl (teq ((by decide) : (1 : Int32) = (1 : Int32))).2 ?_
          show Steps p.tables e below (T38.setTop (mkF m 107 #[iv p1, iv p2, rv w_NONE, iv (0 : Int32), iv (0 : Int32), rv b14, rv a2_21, iv (0 : Int32), iv (1 : Int32)] [])) _
          refine XS.iconst X38.here hx rfl (hb hby at_107) ?_
          show Steps p.tables e below (T38.setTop (mkF m 108 #[iv p1, iv p2, rv w_NONE, iv (0 : Int32), iv (0 : Int32), rv b14, rv a2_21, iv (0 : Int32), iv (1 : Int32)] [(.int (1 : Int32))])) _
          refine XS.goto X38.here hx rfl (pc0 := 108) (pc' := 112) rfl (hb hby at_108) (by decide) (by decide) ?_
          show Steps p.tables e below (T38.setTop (mkF m 112 #[iv p1, iv p2, rv w_NONE, iv (0 : Int32), iv (0 : Int32), rv b14, rv a2_21, iv (0 : Int32), iv (1 : Int32)] [(.int (1 : Int32))])) _
          exact k
        obtain ⟨fs, hr, hrun, hended, hRW⟩ := Stand.leaveW (s := s) (vm₁ := T33.vm) X38 hS33 (by rw [e38]; exact (Nat.le_trans hk33 (Nat.le_refl _))) (v := some (.int (1 : Int32))) (fun h => by rw [Bd.returns] at h; cases h)
        have RF : CHr Z own_EL s.vm h0 T38.vm h33 := R33.trans (CHv.at (s := s) (vm0 := T33.vm) X38 hZ (own_EW hw) R33.1)
        refine ⟨_, _, k41 _ (retN X38 hx (t := .boolean) Bd.returns (by simp) (hb hby at_112) hr), hrun, hended, _, _, rfl, ?_, (by show CHr Z own_EL s.vm s.heap T38.vm T38.heap; rw [hh, e38]; exact RF), own_rw hRW (by decide) (by decide)⟩
        show Q_law_met Z w_NONE w_VIEW w_EDIT wCS p1 p2 h0 n0 _ T38.heap _
        rw [e38]
        exact ⟨rfl, N38⟩
      · have k42 : Way p e below S0 T2 (mkF m 31 #[iv p1, iv p2, rv w_NONE, iv (0 : Int32), iv (1 : Int32), .unset, .unset, .unset, .unset] [(.ref w_NONE)]) := by
          intro t k
          refine k9 t ?_
          refine XS.ifNo X2.here hx rfl (hb hby at_20) rfl ((if0 _ _).trans (feq (hc8 : ¬ ((p2 &&& (2 : Int32)) = (0 : Int32)))).1) ?_
          show Steps p.tables e below (T2.setTop (mkF m 23 #[iv p1, iv p2, rv w_NONE, iv (0 : Int32), .unset, .unset, .unset, .unset, .unset] [])) _
          refine XS.iconst X2.here hx rfl (hb hby at_23) ?_
          show Steps p.tables e below (T2.setTop (mkF m 24 #[iv p1, iv p2, rv w_NONE, iv (0 : Int32), .unset, .unset, .unset, .unset, .unset] [(.int (1 : Int32))])) _
          refine XS.goto X2.here hx rfl (pc0 := 24) (pc' := 28) rfl (hb hby at_24) (by decide) (by decide) ?_
          show Steps p.tables e below (T2.setTop (mkF m 28 #[iv p1, iv p2, rv w_NONE, iv (0 : Int32), .unset, .unset, .unset, .unset, .unset] [(.int (1 : Int32))])) _
          refine XS.istore X2.here hx rfl (hb hby at_28) rfl (l' := #[iv p1, iv p2, rv w_NONE, iv (0 : Int32), iv (1 : Int32), .unset, .unset, .unset, .unset]) rfl ?_
          show Steps p.tables e below (T2.setTop (mkF m 30 #[iv p1, iv p2, rv w_NONE, iv (0 : Int32), iv (1 : Int32), .unset, .unset, .unset, .unset] [])) _
          refine XS.aloadN X2.here hx rfl (hb hby at_30) rfl rfl ?_
          show Steps p.tables e below (T2.setTop (mkF m 31 #[iv p1, iv p2, rv w_NONE, iv (0 : Int32), iv (1 : Int32), .unset, .unset, .unset, .unset] [(.ref w_NONE)])) _
          exact k
        obtain ⟨T43, X43, e43, st43⟩ := getS2 X2 hx hZ hown (host := "") (Or.inl (hw _ (List.mem_of_getElem? (i := 5) rfl))) Via.refl e2 (S_w_NONE.ext O0.2) (g := (mkF m 31 #[iv p1, iv p2, rv w_NONE, iv (0 : Int32), iv (1 : Int32), .unset, .unset, .unset, .unset] [(.ref w_NONE)])) rfl (hb hby at_31)
        have k44 : Way p e below S0 T43 (mkF m 34 #[iv p1, iv p2, rv w_NONE, iv (0 : Int32), iv (1 : Int32), .unset, .unset, .unset, .unset] [(.ref w_NONE), (.ref w_NONE)]) := fun t k => k42 t (st43 _ k)
        have k45 : Way p e below S0 T43 (mkF m 42 #[iv p1, iv p2, rv w_NONE, iv (0 : Int32), iv (0 : Int32), .unset, .unset, .unset, .unset] []) := by
          intro t k
          refine k44 t ?_
          refine Jvm.RoadKit.acmp (g := (mkF m 34 #[iv p1, iv p2, rv w_NONE, iv (0 : Int32), iv (1 : Int32), .unset, .unset, .unset, .unset] [(.ref w_NONE), (.ref w_NONE)])) X43 hx rfl rfl rfl (pc0 := 34) (pc' := 37) (same := true) rfl (hb hby at_34) rfl (decide_eq_true rfl) (by decide) (by decide) ?_
          show Steps p.tables e below (T43.setTop (mkF m 37 #[iv p1, iv p2, rv w_NONE, iv (0 : Int32), iv (1 : Int32), .unset, .unset, .unset, .unset] [])) _
          refine XS.iconst X43.here hx rfl (hb hby at_37) ?_
          show Steps p.tables e below (T43.setTop (mkF m 38 #[iv p1, iv p2, rv w_NONE, iv (0 : Int32), iv (1 : Int32), .unset, .unset, .unset, .unset] [(.int (0 : Int32))])) _
          refine XS.istoreN X43.here hx rfl (hb hby at_38) rfl (l' := #[iv p1, iv p2, rv w_NONE, iv (0 : Int32), iv (1 : Int32), .unset, .unset, .unset, .unset]) rfl ?_
          show Steps p.tables e below (T43.setTop (mkF m 39 #[iv p1, iv p2, rv w_NONE, iv (0 : Int32), iv (1 : Int32), .unset, .unset, .unset, .unset] [])) _
          refine XS.iconst X43.here hx rfl (hb hby at_39) ?_
          show Steps p.tables e below (T43.setTop (mkF m 40 #[iv p1, iv p2, rv w_NONE, iv (0 : Int32), iv (1 : Int32), .unset, .unset, .unset, .unset] [(.int (0 : Int32))])) _
          refine XS.istore X43.here hx rfl (hb hby at_40) rfl (l' := #[iv p1, iv p2, rv w_NONE, iv (0 : Int32), iv (0 : Int32), .unset, .unset, .unset, .unset]) rfl ?_
          show Steps p.tables e below (T43.setTop (mkF m 42 #[iv p1, iv p2, rv w_NONE, iv (0 : Int32), iv (0 : Int32), .unset, .unset, .unset, .unset] [])) _
          exact k
        obtain ⟨T46, h46, X46, e46, E46, A46, D46, U46, st46⟩ := newO X43 hx hZ hown (hw _ (List.mem_of_getElem? (i := 8) rfl)) (hw _ (List.mem_of_getElem? (i := 9) rfl)) (hw _ (List.mem_of_getElem? (i := 10) rfl)) e43 (g := (mkF m 42 #[iv p1, iv p2, rv w_NONE, iv (0 : Int32), iv (0 : Int32), .unset, .unset, .unset, .unset] [])) rfl (hb hby at_42) (by decide) (by decide)
        obtain ⟨b46, g46⟩ : ∃ z, z = h0.size := ⟨_, rfl⟩
        rw [← g46] at A46 D46 U46 st46
        have R46 : CHr Z own_EL s.vm h0 s.vm h46 := R0.trans (CHr.ext E46 R0.1)
        have O46 := O0.ext E46
        have i46_level : Fld Z h46 b46 "caseward/policy/Access" "level" "Lcaseward/policy/Access$Level;" .null := D46 (Or.inr (hw _ (List.mem_of_getElem? (i := 24) rfl))) (ty := (.object "caseward/policy/Access$Level")) (by decide)
        have i46_pii : Fld Z h46 b46 "caseward/policy/Access" "pii" "Z" (.int (0 : Int32)) := D46 (Or.inr (hw _ (List.mem_of_getElem? (i := 26) rfl))) (ty := .boolean) (by decide)
        have i46_unblinded : Fld Z h46 b46 "caseward/policy/Access" "unblinded" "Z" (.int (0 : Int32)) := D46 (Or.inr (hw _ (List.mem_of_getElem? (i := 28) rfl))) (ty := .boolean) (by decide)
        have k47 : Way p e below S0 T46 (mkF m 45 #[iv p1, iv p2, rv w_NONE, iv (0 : Int32), iv (0 : Int32), .unset, .unset, .unset, .unset] [(.ref b46)]) := fun t k => k45 t (st46 _ k)
        have k48 : Way p e below S0 T46 (mkF m 50 #[iv p1, iv p2, rv w_NONE, iv (0 : Int32), iv (0 : Int32), .unset, .unset, .unset, .unset] [(.int (0 : Int32)), (.int (0 : Int32)), (.ref w_NONE), (.ref b46), (.ref b46)]) := by
          intro t k
          refine k47 t ?_
          refine XS.dup X46.here hx rfl (hb hby at_45) rfl rfl ?_
          show Steps p.tables e below (T46.setTop (mkF m 46 #[iv p1, iv p2, rv w_NONE, iv (0 : Int32), iv (0 : Int32), .unset, .unset, .unset, .unset] [(.ref b46), (.ref b46)])) _
          refine XS.aloadN X46.here hx rfl (hb hby at_46) rfl rfl ?_
          show Steps p.tables e below (T46.setTop (mkF m 47 #[iv p1, iv p2, rv w_NONE, iv (0 : Int32), iv (0 : Int32), .unset, .unset, .unset, .unset] [(.ref w_NONE), (.ref b46), (.ref b46)])) _
          refine XS.iloadN X46.here hx rfl (hb hby at_47) rfl ?_
          show Steps p.tables e below (T46.setTop (mkF m 48 #[iv p1, iv p2, rv w_NONE, iv (0 : Int32), iv (0 : Int32), .unset, .unset, .unset, .unset] [(.int (0 : Int32)), (.ref w_NONE), (.ref b46), (.ref b46)])) _
          refine XS.iload X46.here hx rfl (hb hby at_48) rfl ?_
          show Steps p.tables e below (T46.setTop (mkF m 50 #[iv p1, iv p2, rv w_NONE, iv (0 : Int32), iv (0 : Int32), .unset, .unset, .unset, .unset] [(.int (0 : Int32)), (.int (0 : Int32)), (.ref w_NONE), (.ref b46), (.ref b46)])) _
          exact k
        have ge49 : n0 ≤ b46 := Nat.le_trans (own_old O0) (Nat.le_of_eq g46.symm)
        obtain ⟨_, _, ⟨T50, L50, kk50, nn50⟩, -, X50, ⟨Lc50, hQ50, l50, y50, z50⟩, st50⟩ := X46.specialBack hx (y := (⟨"caseward/policy/Access", "<init>", "(Lcaseward/policy/Access$Level;ZZ)V"⟩ : MethodName)) rfl hown (mvT hZ (hw _ (List.mem_of_getElem? (i := 11) rfl))) (mvT hZ (hw _ (List.mem_of_getElem? (i := 12) rfl))) (mvT hZ (hw _ (List.mem_of_getElem? (i := 13) rfl))) (by decide) (backOf (W := 1) (init_NONE00 l Z a0 hw [] w_NONE w_VIEW w_EDIT wCS G b46 h46 n0 O46 (A46 : Exa Z h46 b46 "caseward/policy/Access") (i46_level : Fld Z h46 b46 "caseward/policy/Access" "level" "Lcaseward/policy/Access$Level;" .null) (i46_pii : Fld Z h46 b46 "caseward/policy/Access" "pii" "Z" (.int (0 : Int32))) (i46_unblinded : Fld Z h46 b46 "caseward/policy/Access" "unblinded" "Z" (.int (0 : Int32))) (ge49 : n0 ≤ b46)) hZ (hw _ (List.mem_of_getElem? (i := 13) rfl)) (hw _ (List.mem_of_getElem? (i := 10) rfl)) (by decide) (by decide)) (g := (mkF m 50 #[iv p1, iv p2, rv w_NONE, iv (0 : Int32), iv (0 : Int32), .unset, .unset, .unset, .unset] [(.int (0 : Int32)), (.int (0 : Int32)), (.ref w_NONE), (.ref b46), (.ref b46)])) rfl (by rw [hml]; rfl) (Steps.refl _) (a := b46) (argsL := [(.ref w_NONE), (.int (0 : Int32)), (.int (0 : Int32))]) (rest := [(.ref b46)]) (lenOf pd_3 rfl) rfl (by show 2 * 0 + _ ≤ _; exact Nat.le_of_eq rfl) (hb hby at_50) (fun _ _ => ⟨rfl, e46, (by decide : 1 + 0 ≤ _), (by decide : 3 + 0 ≤ _)⟩)
        dsimp only [Pt.U, Pt.locs, Pt.cells, Pt.slots] at X50 l50 y50 z50 st50 hQ50
        subst l50 y50 z50
        obtain ⟨rfl, Nq50, Kq50, po50_0, po50_1⟩ := hQ50
        have N50 := Fr.app N2 Nq50
        have O50 := O46.keep Kq50 (allS ge49 all0)
        have R50 : CHr Z own_EL s.vm h0 s.vm T50.heap := R46.trans (CHr.keep Kq50 (sfS (Safe.exa hZ.alike A46 (by decide) (by decide)) sf0) R46.1)
        have k51 : Way p e below S0 T50 (mkF m 53 #[iv p1, iv p2, rv w_NONE, iv (0 : Int32), iv (0 : Int32), .unset, .unset, .unset, .unset] [(.ref b46)]) := fun t k => k48 t (st50.trans k)
        have k52 : Way p e below S0 T50 (mkF m 57 #[iv p1, iv p2, rv w_NONE, iv (0 : Int32), iv (0 : Int32), rv b46, .unset, .unset, .unset] [(.ref b46)]) := by
          intro t k
          refine k51 t ?_
          refine XS.astore X50.here hx rfl (hb hby at_53) rfl rfl (l' := #[iv p1, iv p2, rv w_NONE, iv (0 : Int32), iv (0 : Int32), rv b46, .unset, .unset, .unset]) rfl ?_
          show Steps p.tables e below (T50.setTop (mkF m 55 #[iv p1, iv p2, rv w_NONE, iv (0 : Int32), iv (0 : Int32), rv b46, .unset, .unset, .unset] [])) _
          refine XS.aload X50.here hx rfl (hb hby at_55) rfl rfl ?_
          show Steps p.tables e below (T50.setTop (mkF m 57 #[iv p1, iv p2, rv w_NONE, iv (0 : Int32), iv (0 : Int32), rv b46, .unset, .unset, .unset] [(.ref b46)])) _
          exact k
        obtain ⟨cq53, kq53, qq53a, qq53b, qq53c⟩ := isOf hZ rfl po50_0
        obtain ⟨_, _, ⟨T53, L53, kk53, nn53⟩, -, Xr53, hSr53, hgr53, ⟨Lc53, hQ53, l53, y53, z53, Rr53⟩, st53⟩ := X50.virtualBackS hx (y := (⟨"caseward/policy/Access", "piiWord", "()Ljava/lang/String;"⟩ : MethodName)) (z := (⟨"caseward/policy/Access", "piiWord", "()Ljava/lang/String;"⟩ : MethodName)) hown (mvT hZ (hw _ (List.mem_of_getElem? (i := 29) rfl))) (mvT hZ (hw _ (List.mem_of_getElem? (i := 30) rfl))) (notFace_of_selects (args := #[]) (mvT hZ (hw _ (List.mem_of_getElem? (i := 32) rfl)))) (mvT hZ (hw _ (List.mem_of_getElem? (i := 32) rfl))) (mvT hZ (hw _ (List.mem_of_getElem? (i := 31) rfl))) (by decide) (backOfSH (s := s) (vm0 := s.vm) (W := 0) (piiWord0 l Z a0 hw [] w_NONE w_VIEW w_EDIT wCS G b46 T50.heap n0 O50 (po50_1 : Fld Z T50.heap b46 "caseward/policy/Access" "pii" "Z" (.int (0 : Int32)))) hZ (hw _ (List.mem_of_getElem? (i := 33) rfl)) (hw _ (List.mem_of_getElem? (i := 10) rfl)) (by decide) (by decide) (own_EW hw) R50.1) qq53a qq53c (g := (mkF m 57 #[iv p1, iv p2, rv w_NONE, iv (0 : Int32), iv (0 : Int32), rv b46, .unset, .unset, .unset] [(.ref b46)])) rfl (by rw [hml]; rfl) (Steps.refl _) (argsL := []) (rest := []) (lenOf pd_4 rfl) rfl (by show 2 * 0 + _ ≤ _; exact Nat.le_of_eq rfl) (hb hby at_57) (fun _ _ => ⟨rfl, rfl, (by decide : 1 + 2 ≤ _), (by decide : 3 + 28 ≤ _)⟩)
        dsimp only [Pt.U, Pt.locs, Pt.cells, Pt.slots] at Xr53 hSr53 hgr53 l53 y53 z53 st53 hQ53 Rr53
        subst l53 y53 z53
        obtain ⟨X53, hS53, hZ53, ho53⟩ := rebS (s := s) (vm0 := s.vm) hS0 (Nat.zero_le _) Xr53 hSr53 hgr53 hZ hown
        have hZ := hZ53
        have hown := ho53
        obtain ⟨a2_53, a3_53, kk1_53, rfl, Nq53, Kq53, po53_0, po53_1, po53_2, po53_3⟩ := hQ53
        have N53 := Fr.app N50 Nq53
        have O53 := O50.keep Kq53 all0
        have R53 : CHr Z own_EL s.vm h0 T53.vm T53.heap := R50.trans Rr53
        have k54 : Way p e below S0 T53 (mkF m 60 #[iv p1, iv p2, rv w_NONE, iv (0 : Int32), iv (0 : Int32), rv b46, .unset, .unset, .unset] [(.ref a2_53)]) := fun t k => k52 t (st53.trans k)
        have k55 : Way p e below S0 T53 (mkF m 71 #[iv p1, iv p2, rv w_NONE, iv (0 : Int32), iv (0 : Int32), rv b46, rv a2_53, .unset, .unset] [(.ref a2_53)]) := by
          intro t k
          refine k54 t ?_
          refine XS.astore X53.here hx rfl (hb hby at_60) rfl rfl (l' := #[iv p1, iv p2, rv w_NONE, iv (0 : Int32), iv (0 : Int32), rv b46, rv a2_53, .unset, .unset]) rfl ?_
          show Steps p.tables e below (T53.setTop (mkF m 62 #[iv p1, iv p2, rv w_NONE, iv (0 : Int32), iv (0 : Int32), rv b46, rv a2_53, .unset, .unset] [])) _
          refine XS.aload X53.here hx rfl (hb hby at_62) rfl rfl ?_
          show Steps p.tables e below (T53.setTop (mkF m 64 #[iv p1, iv p2, rv w_NONE, iv (0 : Int32), iv (0 : Int32), rv b46, rv a2_53, .unset, .unset] [(.ref a2_53)])) _
          refine XS.ifnonnullYes X53.here hx rfl (pc0 := 64) (pc' := 69) rfl (hb hby at_64) rfl (by decide) (by decide) ?_
          show Steps p.tables e below (T53.setTop (mkF m 69 #[iv p1, iv p2, rv w_NONE, iv (0 : Int32), iv (0 : Int32), rv b46, rv a2_53, .unset, .unset] [])) _
          refine XS.aload X53.here hx rfl (hb hby at_69) rfl rfl ?_
          show Steps p.tables e below (T53.setTop (mkF m 71 #[iv p1, iv p2, rv w_NONE, iv (0 : Int32), iv (0 : Int32), rv b46, rv a2_53, .unset, .unset] [(.ref a2_53)])) _
          exact k
        obtain ⟨la56, T56, h56, ks56, lb56, lk56, X56, e56, E56, hS56, hk56, hZ56, ho56, Fe56, Fc56, Fv56, Va56, -, -, Rr56, Li56, Sa56, st56⟩ := ldcCH (s := s) (vm0 := T53.vm) (EL := own_EL) X53 hx hZ hown (hw _ (List.mem_of_getElem? (i := 42) rfl)) (own_strW hw) rfl hS53 (Nat.le_trans (Nat.le_refl _) (Nat.le_refl _)) (own_EW hw) (by decide) R53.1 (vs := [(.int (117 : Int32)), (.int (110 : Int32)), (.int (109 : Int32)), (.int (97 : Int32)), (.int (115 : Int32)), (.int (107 : Int32)), (.int (101 : Int32)), (.int (100 : Int32))]) (z := (8 : Int32)) ⟨by decide, by decide⟩ (by decide) (by decide) (g := (mkF m 71 #[iv p1, iv p2, rv w_NONE, iv (0 : Int32), iv (0 : Int32), rv b46, rv a2_53, .unset, .unset] [(.ref a2_53)])) rfl (hb hby at_71) (n := 32) (by decide) (by decide) (by decide) (by decide)
        have hZ := hZ56
        have hown := ho56
        have R56 : CHr Z own_EL s.vm h0 T56.vm h56 := R53.trans Rr56
        have O56 := O53.ext E56
        have k57 : Way p e below S0 T56 (mkF m 73 #[iv p1, iv p2, rv w_NONE, iv (0 : Int32), iv (0 : Int32), rv b46, rv a2_53, .unset, .unset] [(.ref la56), (.ref a2_53)]) := fun t k => k55 t (st56 _ k)
        have f58 : Fld Z h56 a2_53 "java/lang/String" "value" "[B" (.ref a3_53) := (po53_2.ext E56)
        have f59 : Arv Z h56 a3_53 kk1_53 .byte (6 : Int32) [(.int (109 : Int32)), (.int (97 : Int32)), (.int (115 : Int32)), (.int (107 : Int32)), (.int (101 : Int32)), (.int (100 : Int32))] (.int (0 : Int32)) := (po53_3.ext E56)
        have f60 : Fld Z h56 a2_53 "java/lang/String" "coder" "B" (.int (0 : Int32)) := (po53_1.ext E56)
        have f62 : Exa Z h56 a2_53 "java/lang/String" := (po53_0.ext E56)
        obtain ⟨cq61, kq61, qq61a, qq61b, qq61c⟩ := isOf hZ e56 f62
        obtain ⟨_, _, ⟨T61, L61, kk61, nn61⟩, -, X61, ⟨Lc61, hQ61, l61, y61, z61⟩, st61⟩ := X56.virtualBack hx (y := (⟨"java/lang/String", "equals", "(Ljava/lang/Object;)Z"⟩ : MethodName)) (z := (⟨"java/lang/String", "equals", "(Ljava/lang/Object;)Z"⟩ : MethodName)) hown (mvT hZ (hw _ (List.mem_of_getElem? (i := 43) rfl))) (mvT hZ (hw _ (List.mem_of_getElem? (i := 44) rfl))) (notFace_of_selects (args := #[]) (mvT hZ (hw _ (List.mem_of_getElem? (i := 46) rfl)))) (mvT hZ (hw _ (List.mem_of_getElem? (i := 46) rfl))) (mvT hZ (hw _ (List.mem_of_getElem? (i := 45) rfl))) (by decide) (backOf (W := 0) (seq01 l Z a0 hw [] w_NONE w_VIEW w_EDIT wCS G a2_53 la56 a3_53 lb56 kk1_53 lk56 h56 n0 O56 (f60 : Fld Z h56 a2_53 "java/lang/String" "coder" "B" (.int (0 : Int32))) (f58 : Fld Z h56 a2_53 "java/lang/String" "value" "[B" (.ref a3_53)) (f59 : Arv Z h56 a3_53 kk1_53 .byte (6 : Int32) [(.int (109 : Int32)), (.int (97 : Int32)), (.int (115 : Int32)), (.int (107 : Int32)), (.int (101 : Int32)), (.int (100 : Int32))] (.int (0 : Int32))) (Fe56 : Exa Z h56 la56 "java/lang/String") (Fc56 : Fld Z h56 la56 "java/lang/String" "coder" "B" (.int (0 : Int32))) (Fv56 : Fld Z h56 la56 "java/lang/String" "value" "[B" (.ref lb56)) (Va56 : Arv Z h56 lb56 lk56 .byte (8 : Int32) [(.int (117 : Int32)), (.int (110 : Int32)), (.int (109 : Int32)), (.int (97 : Int32)), (.int (115 : Int32)), (.int (107 : Int32)), (.int (101 : Int32)), (.int (100 : Int32))] (.int (0 : Int32))) (Fld.ne f58 Fv56 (fun q => absurd (Value.ref.inj q) (arv_ne f59 Va56 (Or.inl (by decide)))) : a2_53 ≠ la56)) hZ (hw _ (List.mem_of_getElem? (i := 47) rfl)) (hw _ (List.mem_of_getElem? (i := 35) rfl)) (by decide) (by decide)) qq61a qq61c (g := (mkF m 73 #[iv p1, iv p2, rv w_NONE, iv (0 : Int32), iv (0 : Int32), rv b46, rv a2_53, .unset, .unset] [(.ref la56), (.ref a2_53)])) rfl (by rw [hml]; rfl) (Steps.refl _) (argsL := [(.ref la56)]) (rest := []) (lenOf pd_5 rfl) rfl (by show 2 * 0 + _ ≤ _; exact Nat.le_of_eq rfl) (hb hby at_73) (fun _ _ => ⟨rfl, e56, (by decide : 5 + 0 ≤ _), (by decide : 67 + 0 ≤ _)⟩)
        dsimp only [Pt.U, Pt.locs, Pt.cells, Pt.slots] at X61 l61 y61 z61 st61 hQ61
        subst l61 y61 z61
        obtain ⟨rfl, Nq61, e61⟩ := hQ61
        have N61 := Fr.app N53 Nq61
        have k63 : Way p e below S0 T61 (mkF m 76 #[iv p1, iv p2, rv w_NONE, iv (0 : Int32), iv (0 : Int32), rv b46, rv a2_53, .unset, .unset] [(.int (0 : Int32))]) := fun t k => k57 t (st61.trans k)
        have k64 : Way p e below S0 T61 (mkF m 80 #[iv p1, iv p2, rv w_NONE, iv (0 : Int32), iv (0 : Int32), rv b46, rv a2_53, iv (0 : Int32), .unset] [(.ref a2_53)]) := by
          intro t k
          refine k63 t ?_
          refine XS.istore X61.here hx rfl (hb hby at_76) rfl (l' := #[iv p1, iv p2, rv w_NONE, iv (0 : Int32), iv (0 : Int32), rv b46, rv a2_53, iv (0 : Int32), .unset]) rfl ?_
          show Steps p.tables e below (T61.setTop (mkF m 78 #[iv p1, iv p2, rv w_NONE, iv (0 : Int32), iv (0 : Int32), rv b46, rv a2_53, iv (0 : Int32), .unset] [])) _
          refine XS.aload X61.here hx rfl (hb hby at_78) rfl rfl ?_
          show Steps p.tables e below (T61.setTop (mkF m 80 #[iv p1, iv p2, rv w_NONE, iv (0 : Int32), iv (0 : Int32), rv b46, rv a2_53, iv (0 : Int32), .unset] [(.ref a2_53)])) _
          exact k
        obtain ⟨la65, T65, h65, ks65, lb65, lk65, X65, e65, E65, hS65, hk65, hZ65, ho65, Fe65, Fc65, Fv65, Va65, -, -, Rr65, Li65, Sa65, st65⟩ := ldcCH (s := s) (vm0 := T56.vm) (EL := own_EL) X61 hx hZ hown (hw _ (List.mem_of_getElem? (i := 57) rfl)) (own_strW hw) e61 hS56 (Nat.le_trans hk56 (Nat.le_refl _)) (own_EW hw) (by decide) R56.1 (vs := [(.int (109 : Int32)), (.int (97 : Int32)), (.int (115 : Int32)), (.int (107 : Int32)), (.int (101 : Int32)), (.int (100 : Int32))]) (z := (6 : Int32)) ⟨by decide, by decide⟩ (by decide) (by decide) (g := (mkF m 80 #[iv p1, iv p2, rv w_NONE, iv (0 : Int32), iv (0 : Int32), rv b46, rv a2_53, iv (0 : Int32), .unset] [(.ref a2_53)])) rfl (hb hby at_80) (n := 24) (by decide) (by decide) (by decide) (by decide)
        have hZ := hZ65
        have hown := ho65
        have R65 : CHr Z own_EL s.vm h0 T65.vm h65 := R56.trans Rr65
        have O65 := O56.ext E65
        have k66 : Way p e below S0 T65 (mkF m 82 #[iv p1, iv p2, rv w_NONE, iv (0 : Int32), iv (0 : Int32), rv b46, rv a2_53, iv (0 : Int32), .unset] [(.ref la65), (.ref a2_53)]) := fun t k => k64 t (st65 _ k)
        have f67 : Fld Z h65 a2_53 "java/lang/String" "coder" "B" (.int (0 : Int32)) := (f60.ext E65)
        have f68 : Fld Z h65 a2_53 "java/lang/String" "value" "[B" (.ref a3_53) := (f58.ext E65)
        have f69 : Arv Z h65 a3_53 kk1_53 .byte (6 : Int32) [(.int (109 : Int32)), (.int (97 : Int32)), (.int (115 : Int32)), (.int (107 : Int32)), (.int (101 : Int32)), (.int (100 : Int32))] (.int (0 : Int32)) := (f59.ext E65)
        have f71 : Exa Z h65 a2_53 "java/lang/String" := (f62.ext E65)
        obtain ⟨cq70, kq70, qq70a, qq70b, qq70c⟩ := isOf hZ e65 f71
        obtain ⟨_, _, ⟨T70, L70, kk70, nn70⟩, -, X70, ⟨Lc70, hQ70, l70, y70, z70⟩, st70⟩ := X65.virtualBack hx (y := (⟨"java/lang/String", "equals", "(Ljava/lang/Object;)Z"⟩ : MethodName)) (z := (⟨"java/lang/String", "equals", "(Ljava/lang/Object;)Z"⟩ : MethodName)) hown (mvT hZ (hw _ (List.mem_of_getElem? (i := 43) rfl))) (mvT hZ (hw _ (List.mem_of_getElem? (i := 44) rfl))) (notFace_of_selects (args := #[]) (mvT hZ (hw _ (List.mem_of_getElem? (i := 46) rfl)))) (mvT hZ (hw _ (List.mem_of_getElem? (i := 46) rfl))) (mvT hZ (hw _ (List.mem_of_getElem? (i := 45) rfl))) (by decide) (backOf (W := 0) (seq00 l Z a0 hw [] w_NONE w_VIEW w_EDIT wCS G a2_53 la65 a3_53 lb65 kk1_53 lk65 h65 n0 O65 (f67 : Fld Z h65 a2_53 "java/lang/String" "coder" "B" (.int (0 : Int32))) (f68 : Fld Z h65 a2_53 "java/lang/String" "value" "[B" (.ref a3_53)) (f69 : Arv Z h65 a3_53 kk1_53 .byte (6 : Int32) [(.int (109 : Int32)), (.int (97 : Int32)), (.int (115 : Int32)), (.int (107 : Int32)), (.int (101 : Int32)), (.int (100 : Int32))] (.int (0 : Int32))) (Fe65 : Exa Z h65 la65 "java/lang/String") (Fc65 : Fld Z h65 la65 "java/lang/String" "coder" "B" (.int (0 : Int32))) (Fv65 : Fld Z h65 la65 "java/lang/String" "value" "[B" (.ref lb65)) (Va65 : Arv Z h65 lb65 lk65 .byte (6 : Int32) [(.int (109 : Int32)), (.int (97 : Int32)), (.int (115 : Int32)), (.int (107 : Int32)), (.int (101 : Int32)), (.int (100 : Int32))] (.int (0 : Int32)))) hZ (hw _ (List.mem_of_getElem? (i := 47) rfl)) (hw _ (List.mem_of_getElem? (i := 35) rfl)) (by decide) (by decide)) qq70a qq70c (g := (mkF m 82 #[iv p1, iv p2, rv w_NONE, iv (0 : Int32), iv (0 : Int32), rv b46, rv a2_53, iv (0 : Int32), .unset] [(.ref la65), (.ref a2_53)])) rfl (by rw [hml]; rfl) (Steps.refl _) (argsL := [(.ref la65)]) (rest := []) (lenOf pd_5 rfl) rfl (by show 2 * 0 + _ ≤ _; exact Nat.le_of_eq rfl) (hb hby at_82) (fun _ _ => ⟨rfl, e65, (by decide : 7 + 0 ≤ _), (by decide : 95 + 0 ≤ _)⟩)
        dsimp only [Pt.U, Pt.locs, Pt.cells, Pt.slots] at X70 l70 y70 z70 st70 hQ70
        subst l70 y70 z70
        obtain ⟨rfl, Nq70, e70⟩ := hQ70
        have N70 := Fr.app N61 Nq70
        have k72 : Way p e below S0 T70 (mkF m 85 #[iv p1, iv p2, rv w_NONE, iv (0 : Int32), iv (0 : Int32), rv b46, rv a2_53, iv (0 : Int32), .unset] [(.int (1 : Int32))]) := fun t k => k66 t (st70.trans k)
        have k73 : Way p e below S0 T70 (mkF m 112 #[iv p1, iv p2, rv w_NONE, iv (0 : Int32), iv (0 : Int32), rv b46, rv a2_53, iv (0 : Int32), iv (1 : Int32)] [(.int (1 : Int32))]) := by
          intro t k
          refine k72 t ?_
          refine XS.istore X70.here hx rfl (hb hby at_85) rfl (l' := #[iv p1, iv p2, rv w_NONE, iv (0 : Int32), iv (0 : Int32), rv b46, rv a2_53, iv (0 : Int32), iv (1 : Int32)]) rfl ?_
          show Steps p.tables e below (T70.setTop (mkF m 87 #[iv p1, iv p2, rv w_NONE, iv (0 : Int32), iv (0 : Int32), rv b46, rv a2_53, iv (0 : Int32), iv (1 : Int32)] [])) _
          refine XS.iload X70.here hx rfl (hb hby at_87) rfl ?_
          show Steps p.tables e below (T70.setTop (mkF m 89 #[iv p1, iv p2, rv w_NONE, iv (0 : Int32), iv (0 : Int32), rv b46, rv a2_53, iv (0 : Int32), iv (1 : Int32)] [(.int (0 : Int32))])) _
          refine XS.iloadN X70.here hx rfl (hb hby at_89) rfl ?_
          show Steps p.tables e below (T70.setTop (mkF m 90 #[iv p1, iv p2, rv w_NONE, iv (0 : Int32), iv (0 : Int32), rv b46, rv a2_53, iv (0 : Int32), iv (1 : Int32)] [(.int (0 : Int32)), (.int (0 : Int32))])) _
          refine XS.icmpNo X70.here hx rfl (hb hby at_90) rfl (teq ((by decide) : (0 : Int32) = (0 : Int32))).2 ?_
          show Steps p.tables e below (T70.setTop (mkF m 93 #[iv p1, iv p2, rv w_NONE, iv (0 : Int32), iv (0 : Int32), rv b46, rv a2_53, iv (0 : Int32), iv (1 : Int32)] [])) _
          refine XS.iload X70.here hx rfl (hb hby at_93) rfl ?_
          show Steps p.tables e below (T70.setTop (mkF m 95 #[iv p1, iv p2, rv w_NONE, iv (0 : Int32), iv (0 : Int32), rv b46, rv a2_53, iv (0 : Int32), iv (1 : Int32)] [(.int (1 : Int32))])) _
          refine XS.iloadN X70.here hx rfl (hb hby at_95) rfl ?_
          show Steps p.tables e below (T70.setTop (mkF m 96 #[iv p1, iv p2, rv w_NONE, iv (0 : Int32), iv (0 : Int32), rv b46, rv a2_53, iv (0 : Int32), iv (1 : Int32)] [(.int (0 : Int32)), (.int (1 : Int32))])) _
          refine XS.ifNo X70.here hx rfl (hb hby at_96) rfl ((if0 _ _).trans (teq ((by decide) : (0 : Int32) = (0 : Int32))).2) ?_
          show Steps p.tables e below (T70.setTop (mkF m 99 #[iv p1, iv p2, rv w_NONE, iv (0 : Int32), iv (0 : Int32), rv b46, rv a2_53, iv (0 : Int32), iv (1 : Int32)] [(.int (1 : Int32))])) _
          refine XS.iconst X70.here hx rfl (hb hby at_99) ?_
          show Steps p.tables e below (T70.setTop (mkF m 100 #[iv p1, iv p2, rv w_NONE, iv (0 : Int32), iv (0 : Int32), rv b46, rv a2_53, iv (0 : Int32), iv (1 : Int32)] [(.int (1 : Int32)), (.int (1 : Int32))])) _
          refine XS.goto X70.here hx rfl (pc0 := 100) (pc' := 104) rfl (hb hby at_100) (by decide) (by decide) ?_
          show Steps p.tables e below (T70.setTop (mkF m 104 #[iv p1, iv p2, rv w_NONE, iv (0 : Int32), iv (0 : Int32), rv b46, rv a2_53, iv (0 : Int32), iv (1 : Int32)] [(.int (1 : Int32)), (.int (1 : Int32))])) _
          refine XS.icmpNo X70.here hx rfl (hb hby at_104) rfl (teq ((by decide) : (1 : Int32) = (1 : Int32))).2 ?_
          show Steps p.tables e below (T70.setTop (mkF m 107 #[iv p1, iv p2, rv w_NONE, iv (0 : Int32), iv (0 : Int32), rv b46, rv a2_53, iv (0 : Int32), iv (1 : Int32)] [])) _
          refine XS.iconst X70.here hx rfl (hb hby at_107) ?_
          show Steps p.tables e below (T70.setTop (mkF m 108 #[iv p1, iv p2, rv w_NONE, iv (0 : Int32), iv (0 : Int32), rv b46, rv a2_53, iv (0 : Int32), iv (1 : Int32)] [(.int (1 : Int32))])) _
          refine XS.goto X70.here hx rfl (pc0 := 108) (pc' := 112) rfl (hb hby at_108) (by decide) (by decide) ?_
          show Steps p.tables e below (T70.setTop (mkF m 112 #[iv p1, iv p2, rv w_NONE, iv (0 : Int32), iv (0 : Int32), rv b46, rv a2_53, iv (0 : Int32), iv (1 : Int32)] [(.int (1 : Int32))])) _
          exact k
        obtain ⟨fs, hr, hrun, hended, hRW⟩ := Stand.leaveW (s := s) (vm₁ := T65.vm) X70 hS65 (by rw [e70]; exact (Nat.le_trans hk65 (Nat.le_refl _))) (v := some (.int (1 : Int32))) (fun h => by rw [Bd.returns] at h; cases h)
        have RF : CHr Z own_EL s.vm h0 T70.vm h65 := R65.trans (CHv.at (s := s) (vm0 := T65.vm) X70 hZ (own_EW hw) R65.1)
        refine ⟨_, _, k73 _ (retN X70 hx (t := .boolean) Bd.returns (by simp) (hb hby at_112) hr), hrun, hended, _, _, rfl, ?_, (by show CHr Z own_EL s.vm s.heap T70.vm T70.heap; rw [hh, e70]; exact RF), own_rw hRW (by decide) (by decide)⟩
        show Q_law_met Z w_NONE w_VIEW w_EDIT wCS p1 p2 h0 n0 _ T70.heap _
        rw [e70]
        exact ⟨rfl, N70⟩
    · have k75 : Way p e below S0 T2 (mkF m 20 #[iv p1, iv p2, rv w_NONE, iv (1 : Int32), .unset, .unset, .unset, .unset, .unset] [(.int (p2 &&& (2 : Int32)))]) := by
        intro t k
        refine k7 t ?_
        refine XS.ifNo X2.here hx rfl (hb hby at_8) rfl ((if0 _ _).trans (feq (hc6 : ¬ ((p2 &&& (1 : Int32)) = (0 : Int32)))).1) ?_
        show Steps p.tables e below (T2.setTop (mkF m 11 #[iv p1, iv p2, rv w_NONE, .unset, .unset, .unset, .unset, .unset, .unset] [])) _
        refine XS.iconst X2.here hx rfl (hb hby at_11) ?_
        show Steps p.tables e below (T2.setTop (mkF m 12 #[iv p1, iv p2, rv w_NONE, .unset, .unset, .unset, .unset, .unset, .unset] [(.int (1 : Int32))])) _
        refine XS.goto X2.here hx rfl (pc0 := 12) (pc' := 16) rfl (hb hby at_12) (by decide) (by decide) ?_
        show Steps p.tables e below (T2.setTop (mkF m 16 #[iv p1, iv p2, rv w_NONE, .unset, .unset, .unset, .unset, .unset, .unset] [(.int (1 : Int32))])) _
        refine XS.istoreN X2.here hx rfl (hb hby at_16) rfl (l' := #[iv p1, iv p2, rv w_NONE, iv (1 : Int32), .unset, .unset, .unset, .unset, .unset]) rfl ?_
        show Steps p.tables e below (T2.setTop (mkF m 17 #[iv p1, iv p2, rv w_NONE, iv (1 : Int32), .unset, .unset, .unset, .unset, .unset] [])) _
        refine XS.iloadN X2.here hx rfl (hb hby at_17) rfl ?_
        show Steps p.tables e below (T2.setTop (mkF m 18 #[iv p1, iv p2, rv w_NONE, iv (1 : Int32), .unset, .unset, .unset, .unset, .unset] [(.int p2)])) _
        refine XS.iconst X2.here hx rfl (hb hby at_18) ?_
        show Steps p.tables e below (T2.setTop (mkF m 19 #[iv p1, iv p2, rv w_NONE, iv (1 : Int32), .unset, .unset, .unset, .unset, .unset] [(.int (2 : Int32)), (.int p2)])) _
        refine XS.iand X2.here hx rfl (hb hby at_19) rfl ?_
        show Steps p.tables e below (T2.setTop (mkF m 20 #[iv p1, iv p2, rv w_NONE, iv (1 : Int32), .unset, .unset, .unset, .unset, .unset] [(.int (p2 &&& (2 : Int32)))])) _
        exact k
      by_cases hc74 : (p2 &&& (2 : Int32)) = (0 : Int32)
      · have k76 : Way p e below S0 T2 (mkF m 31 #[iv p1, iv p2, rv w_NONE, iv (1 : Int32), iv (0 : Int32), .unset, .unset, .unset, .unset] [(.ref w_NONE)]) := by
          intro t k
          refine k75 t ?_
          refine XS.ifYes X2.here hx rfl (pc0 := 20) (pc' := 27) rfl (hb hby at_20) rfl ((if0 _ _).trans (teq (hc74 : (p2 &&& (2 : Int32)) = (0 : Int32))).1) (by decide) (by decide) ?_
          show Steps p.tables e below (T2.setTop (mkF m 27 #[iv p1, iv p2, rv w_NONE, iv (1 : Int32), .unset, .unset, .unset, .unset, .unset] [])) _
          refine XS.iconst X2.here hx rfl (hb hby at_27) ?_
          show Steps p.tables e below (T2.setTop (mkF m 28 #[iv p1, iv p2, rv w_NONE, iv (1 : Int32), .unset, .unset, .unset, .unset, .unset] [(.int (0 : Int32))])) _
          refine XS.istore X2.here hx rfl (hb hby at_28) rfl (l' := #[iv p1, iv p2, rv w_NONE, iv (1 : Int32), iv (0 : Int32), .unset, .unset, .unset, .unset]) rfl ?_
          show Steps p.tables e below (T2.setTop (mkF m 30 #[iv p1, iv p2, rv w_NONE, iv (1 : Int32), iv (0 : Int32), .unset, .unset, .unset, .unset] [])) _
          refine XS.aloadN X2.here hx rfl (hb hby at_30) rfl rfl ?_
          show Steps p.tables e below (T2.setTop (mkF m 31 #[iv p1, iv p2, rv w_NONE, iv (1 : Int32), iv (0 : Int32), .unset, .unset, .unset, .unset] [(.ref w_NONE)])) _
          exact k
        obtain ⟨T77, X77, e77, st77⟩ := getS2 X2 hx hZ hown (host := "") (Or.inl (hw _ (List.mem_of_getElem? (i := 5) rfl))) Via.refl e2 (S_w_NONE.ext O0.2) (g := (mkF m 31 #[iv p1, iv p2, rv w_NONE, iv (1 : Int32), iv (0 : Int32), .unset, .unset, .unset, .unset] [(.ref w_NONE)])) rfl (hb hby at_31)
        have k78 : Way p e below S0 T77 (mkF m 34 #[iv p1, iv p2, rv w_NONE, iv (1 : Int32), iv (0 : Int32), .unset, .unset, .unset, .unset] [(.ref w_NONE), (.ref w_NONE)]) := fun t k => k76 t (st77 _ k)
        have k79 : Way p e below S0 T77 (mkF m 42 #[iv p1, iv p2, rv w_NONE, iv (0 : Int32), iv (0 : Int32), .unset, .unset, .unset, .unset] []) := by
          intro t k
          refine k78 t ?_
          refine Jvm.RoadKit.acmp (g := (mkF m 34 #[iv p1, iv p2, rv w_NONE, iv (1 : Int32), iv (0 : Int32), .unset, .unset, .unset, .unset] [(.ref w_NONE), (.ref w_NONE)])) X77 hx rfl rfl rfl (pc0 := 34) (pc' := 37) (same := true) rfl (hb hby at_34) rfl (decide_eq_true rfl) (by decide) (by decide) ?_
          show Steps p.tables e below (T77.setTop (mkF m 37 #[iv p1, iv p2, rv w_NONE, iv (1 : Int32), iv (0 : Int32), .unset, .unset, .unset, .unset] [])) _
          refine XS.iconst X77.here hx rfl (hb hby at_37) ?_
          show Steps p.tables e below (T77.setTop (mkF m 38 #[iv p1, iv p2, rv w_NONE, iv (1 : Int32), iv (0 : Int32), .unset, .unset, .unset, .unset] [(.int (0 : Int32))])) _
          refine XS.istoreN X77.here hx rfl (hb hby at_38) rfl (l' := #[iv p1, iv p2, rv w_NONE, iv (0 : Int32), iv (0 : Int32), .unset, .unset, .unset, .unset]) rfl ?_
          show Steps p.tables e below (T77.setTop (mkF m 39 #[iv p1, iv p2, rv w_NONE, iv (0 : Int32), iv (0 : Int32), .unset, .unset, .unset, .unset] [])) _
          refine XS.iconst X77.here hx rfl (hb hby at_39) ?_
          show Steps p.tables e below (T77.setTop (mkF m 40 #[iv p1, iv p2, rv w_NONE, iv (0 : Int32), iv (0 : Int32), .unset, .unset, .unset, .unset] [(.int (0 : Int32))])) _
          refine XS.istore X77.here hx rfl (hb hby at_40) rfl (l' := #[iv p1, iv p2, rv w_NONE, iv (0 : Int32), iv (0 : Int32), .unset, .unset, .unset, .unset]) rfl ?_
          show Steps p.tables e below (T77.setTop (mkF m 42 #[iv p1, iv p2, rv w_NONE, iv (0 : Int32), iv (0 : Int32), .unset, .unset, .unset, .unset] [])) _
          exact k
        obtain ⟨T80, h80, X80, e80, E80, A80, D80, U80, st80⟩ := newO X77 hx hZ hown (hw _ (List.mem_of_getElem? (i := 8) rfl)) (hw _ (List.mem_of_getElem? (i := 9) rfl)) (hw _ (List.mem_of_getElem? (i := 10) rfl)) e77 (g := (mkF m 42 #[iv p1, iv p2, rv w_NONE, iv (0 : Int32), iv (0 : Int32), .unset, .unset, .unset, .unset] [])) rfl (hb hby at_42) (by decide) (by decide)
        obtain ⟨b80, g80⟩ : ∃ z, z = h0.size := ⟨_, rfl⟩
        rw [← g80] at A80 D80 U80 st80
        have R80 : CHr Z own_EL s.vm h0 s.vm h80 := R0.trans (CHr.ext E80 R0.1)
        have O80 := O0.ext E80
        have i80_level : Fld Z h80 b80 "caseward/policy/Access" "level" "Lcaseward/policy/Access$Level;" .null := D80 (Or.inr (hw _ (List.mem_of_getElem? (i := 24) rfl))) (ty := (.object "caseward/policy/Access$Level")) (by decide)
        have i80_pii : Fld Z h80 b80 "caseward/policy/Access" "pii" "Z" (.int (0 : Int32)) := D80 (Or.inr (hw _ (List.mem_of_getElem? (i := 26) rfl))) (ty := .boolean) (by decide)
        have i80_unblinded : Fld Z h80 b80 "caseward/policy/Access" "unblinded" "Z" (.int (0 : Int32)) := D80 (Or.inr (hw _ (List.mem_of_getElem? (i := 28) rfl))) (ty := .boolean) (by decide)
        have k81 : Way p e below S0 T80 (mkF m 45 #[iv p1, iv p2, rv w_NONE, iv (0 : Int32), iv (0 : Int32), .unset, .unset, .unset, .unset] [(.ref b80)]) := fun t k => k79 t (st80 _ k)
        have k82 : Way p e below S0 T80 (mkF m 50 #[iv p1, iv p2, rv w_NONE, iv (0 : Int32), iv (0 : Int32), .unset, .unset, .unset, .unset] [(.int (0 : Int32)), (.int (0 : Int32)), (.ref w_NONE), (.ref b80), (.ref b80)]) := by
          intro t k
          refine k81 t ?_
          refine XS.dup X80.here hx rfl (hb hby at_45) rfl rfl ?_
          show Steps p.tables e below (T80.setTop (mkF m 46 #[iv p1, iv p2, rv w_NONE, iv (0 : Int32), iv (0 : Int32), .unset, .unset, .unset, .unset] [(.ref b80), (.ref b80)])) _
          refine XS.aloadN X80.here hx rfl (hb hby at_46) rfl rfl ?_
          show Steps p.tables e below (T80.setTop (mkF m 47 #[iv p1, iv p2, rv w_NONE, iv (0 : Int32), iv (0 : Int32), .unset, .unset, .unset, .unset] [(.ref w_NONE), (.ref b80), (.ref b80)])) _
          refine XS.iloadN X80.here hx rfl (hb hby at_47) rfl ?_
          show Steps p.tables e below (T80.setTop (mkF m 48 #[iv p1, iv p2, rv w_NONE, iv (0 : Int32), iv (0 : Int32), .unset, .unset, .unset, .unset] [(.int (0 : Int32)), (.ref w_NONE), (.ref b80), (.ref b80)])) _
          refine XS.iload X80.here hx rfl (hb hby at_48) rfl ?_
          show Steps p.tables e below (T80.setTop (mkF m 50 #[iv p1, iv p2, rv w_NONE, iv (0 : Int32), iv (0 : Int32), .unset, .unset, .unset, .unset] [(.int (0 : Int32)), (.int (0 : Int32)), (.ref w_NONE), (.ref b80), (.ref b80)])) _
          exact k
        have ge83 : n0 ≤ b80 := Nat.le_trans (own_old O0) (Nat.le_of_eq g80.symm)
        obtain ⟨_, _, ⟨T84, L84, kk84, nn84⟩, -, X84, ⟨Lc84, hQ84, l84, y84, z84⟩, st84⟩ := X80.specialBack hx (y := (⟨"caseward/policy/Access", "<init>", "(Lcaseward/policy/Access$Level;ZZ)V"⟩ : MethodName)) rfl hown (mvT hZ (hw _ (List.mem_of_getElem? (i := 11) rfl))) (mvT hZ (hw _ (List.mem_of_getElem? (i := 12) rfl))) (mvT hZ (hw _ (List.mem_of_getElem? (i := 13) rfl))) (by decide) (backOf (W := 1) (init_NONE00 l Z a0 hw [] w_NONE w_VIEW w_EDIT wCS G b80 h80 n0 O80 (A80 : Exa Z h80 b80 "caseward/policy/Access") (i80_level : Fld Z h80 b80 "caseward/policy/Access" "level" "Lcaseward/policy/Access$Level;" .null) (i80_pii : Fld Z h80 b80 "caseward/policy/Access" "pii" "Z" (.int (0 : Int32))) (i80_unblinded : Fld Z h80 b80 "caseward/policy/Access" "unblinded" "Z" (.int (0 : Int32))) (ge83 : n0 ≤ b80)) hZ (hw _ (List.mem_of_getElem? (i := 13) rfl)) (hw _ (List.mem_of_getElem? (i := 10) rfl)) (by decide) (by decide)) (g := (mkF m 50 #[iv p1, iv p2, rv w_NONE, iv (0 : Int32), iv (0 : Int32), .unset, .unset, .unset, .unset] [(.int (0 : Int32)), (.int (0 : Int32)), (.ref w_NONE), (.ref b80), (.ref b80)])) rfl (by rw [hml]; rfl) (Steps.refl _) (a := b80) (argsL := [(.ref w_NONE), (.int (0 : Int32)), (.int (0 : Int32))]) (rest := [(.ref b80)]) (lenOf pd_3 rfl) rfl (by show 2 * 0 + _ ≤ _; exact Nat.le_of_eq rfl) (hb hby at_50) (fun _ _ => ⟨rfl, e80, (by decide : 1 + 0 ≤ _), (by decide : 3 + 0 ≤ _)⟩)
        dsimp only [Pt.U, Pt.locs, Pt.cells, Pt.slots] at X84 l84 y84 z84 st84 hQ84
        subst l84 y84 z84
        obtain ⟨rfl, Nq84, Kq84, po84_0, po84_1⟩ := hQ84
        have N84 := Fr.app N2 Nq84
        have O84 := O80.keep Kq84 (allS ge83 all0)
        have R84 : CHr Z own_EL s.vm h0 s.vm T84.heap := R80.trans (CHr.keep Kq84 (sfS (Safe.exa hZ.alike A80 (by decide) (by decide)) sf0) R80.1)
        have k85 : Way p e below S0 T84 (mkF m 53 #[iv p1, iv p2, rv w_NONE, iv (0 : Int32), iv (0 : Int32), .unset, .unset, .unset, .unset] [(.ref b80)]) := fun t k => k82 t (st84.trans k)
        have k86 : Way p e below S0 T84 (mkF m 57 #[iv p1, iv p2, rv w_NONE, iv (0 : Int32), iv (0 : Int32), rv b80, .unset, .unset, .unset] [(.ref b80)]) := by
          intro t k
          refine k85 t ?_
          refine XS.astore X84.here hx rfl (hb hby at_53) rfl rfl (l' := #[iv p1, iv p2, rv w_NONE, iv (0 : Int32), iv (0 : Int32), rv b80, .unset, .unset, .unset]) rfl ?_
          show Steps p.tables e below (T84.setTop (mkF m 55 #[iv p1, iv p2, rv w_NONE, iv (0 : Int32), iv (0 : Int32), rv b80, .unset, .unset, .unset] [])) _
          refine XS.aload X84.here hx rfl (hb hby at_55) rfl rfl ?_
          show Steps p.tables e below (T84.setTop (mkF m 57 #[iv p1, iv p2, rv w_NONE, iv (0 : Int32), iv (0 : Int32), rv b80, .unset, .unset, .unset] [(.ref b80)])) _
          exact k
        obtain ⟨cq87, kq87, qq87a, qq87b, qq87c⟩ := isOf hZ rfl po84_0
        obtain ⟨_, _, ⟨T87, L87, kk87, nn87⟩, -, Xr87, hSr87, hgr87, ⟨Lc87, hQ87, l87, y87, z87, Rr87⟩, st87⟩ := X84.virtualBackS hx (y := (⟨"caseward/policy/Access", "piiWord", "()Ljava/lang/String;"⟩ : MethodName)) (z := (⟨"caseward/policy/Access", "piiWord", "()Ljava/lang/String;"⟩ : MethodName)) hown (mvT hZ (hw _ (List.mem_of_getElem? (i := 29) rfl))) (mvT hZ (hw _ (List.mem_of_getElem? (i := 30) rfl))) (notFace_of_selects (args := #[]) (mvT hZ (hw _ (List.mem_of_getElem? (i := 32) rfl)))) (mvT hZ (hw _ (List.mem_of_getElem? (i := 32) rfl))) (mvT hZ (hw _ (List.mem_of_getElem? (i := 31) rfl))) (by decide) (backOfSH (s := s) (vm0 := s.vm) (W := 0) (piiWord0 l Z a0 hw [] w_NONE w_VIEW w_EDIT wCS G b80 T84.heap n0 O84 (po84_1 : Fld Z T84.heap b80 "caseward/policy/Access" "pii" "Z" (.int (0 : Int32)))) hZ (hw _ (List.mem_of_getElem? (i := 33) rfl)) (hw _ (List.mem_of_getElem? (i := 10) rfl)) (by decide) (by decide) (own_EW hw) R84.1) qq87a qq87c (g := (mkF m 57 #[iv p1, iv p2, rv w_NONE, iv (0 : Int32), iv (0 : Int32), rv b80, .unset, .unset, .unset] [(.ref b80)])) rfl (by rw [hml]; rfl) (Steps.refl _) (argsL := []) (rest := []) (lenOf pd_4 rfl) rfl (by show 2 * 0 + _ ≤ _; exact Nat.le_of_eq rfl) (hb hby at_57) (fun _ _ => ⟨rfl, rfl, (by decide : 1 + 2 ≤ _), (by decide : 3 + 28 ≤ _)⟩)
        dsimp only [Pt.U, Pt.locs, Pt.cells, Pt.slots] at Xr87 hSr87 hgr87 l87 y87 z87 st87 hQ87 Rr87
        subst l87 y87 z87
        obtain ⟨X87, hS87, hZ87, ho87⟩ := rebS (s := s) (vm0 := s.vm) hS0 (Nat.zero_le _) Xr87 hSr87 hgr87 hZ hown
        have hZ := hZ87
        have hown := ho87
        obtain ⟨a2_87, a3_87, kk1_87, rfl, Nq87, Kq87, po87_0, po87_1, po87_2, po87_3⟩ := hQ87
        have N87 := Fr.app N84 Nq87
        have O87 := O84.keep Kq87 all0
        have R87 : CHr Z own_EL s.vm h0 T87.vm T87.heap := R84.trans Rr87
        have k88 : Way p e below S0 T87 (mkF m 60 #[iv p1, iv p2, rv w_NONE, iv (0 : Int32), iv (0 : Int32), rv b80, .unset, .unset, .unset] [(.ref a2_87)]) := fun t k => k86 t (st87.trans k)
        have k89 : Way p e below S0 T87 (mkF m 71 #[iv p1, iv p2, rv w_NONE, iv (0 : Int32), iv (0 : Int32), rv b80, rv a2_87, .unset, .unset] [(.ref a2_87)]) := by
          intro t k
          refine k88 t ?_
          refine XS.astore X87.here hx rfl (hb hby at_60) rfl rfl (l' := #[iv p1, iv p2, rv w_NONE, iv (0 : Int32), iv (0 : Int32), rv b80, rv a2_87, .unset, .unset]) rfl ?_
          show Steps p.tables e below (T87.setTop (mkF m 62 #[iv p1, iv p2, rv w_NONE, iv (0 : Int32), iv (0 : Int32), rv b80, rv a2_87, .unset, .unset] [])) _
          refine XS.aload X87.here hx rfl (hb hby at_62) rfl rfl ?_
          show Steps p.tables e below (T87.setTop (mkF m 64 #[iv p1, iv p2, rv w_NONE, iv (0 : Int32), iv (0 : Int32), rv b80, rv a2_87, .unset, .unset] [(.ref a2_87)])) _
          refine XS.ifnonnullYes X87.here hx rfl (pc0 := 64) (pc' := 69) rfl (hb hby at_64) rfl (by decide) (by decide) ?_
          show Steps p.tables e below (T87.setTop (mkF m 69 #[iv p1, iv p2, rv w_NONE, iv (0 : Int32), iv (0 : Int32), rv b80, rv a2_87, .unset, .unset] [])) _
          refine XS.aload X87.here hx rfl (hb hby at_69) rfl rfl ?_
          show Steps p.tables e below (T87.setTop (mkF m 71 #[iv p1, iv p2, rv w_NONE, iv (0 : Int32), iv (0 : Int32), rv b80, rv a2_87, .unset, .unset] [(.ref a2_87)])) _
          exact k
        obtain ⟨la90, T90, h90, ks90, lb90, lk90, X90, e90, E90, hS90, hk90, hZ90, ho90, Fe90, Fc90, Fv90, Va90, -, -, Rr90, Li90, Sa90, st90⟩ := ldcCH (s := s) (vm0 := T87.vm) (EL := own_EL) X87 hx hZ hown (hw _ (List.mem_of_getElem? (i := 42) rfl)) (own_strW hw) rfl hS87 (Nat.le_trans (Nat.le_refl _) (Nat.le_refl _)) (own_EW hw) (by decide) R87.1 (vs := [(.int (117 : Int32)), (.int (110 : Int32)), (.int (109 : Int32)), (.int (97 : Int32)), (.int (115 : Int32)), (.int (107 : Int32)), (.int (101 : Int32)), (.int (100 : Int32))]) (z := (8 : Int32)) ⟨by decide, by decide⟩ (by decide) (by decide) (g := (mkF m 71 #[iv p1, iv p2, rv w_NONE, iv (0 : Int32), iv (0 : Int32), rv b80, rv a2_87, .unset, .unset] [(.ref a2_87)])) rfl (hb hby at_71) (n := 32) (by decide) (by decide) (by decide) (by decide)
        have hZ := hZ90
        have hown := ho90
        have R90 : CHr Z own_EL s.vm h0 T90.vm h90 := R87.trans Rr90
        have O90 := O87.ext E90
        have k91 : Way p e below S0 T90 (mkF m 73 #[iv p1, iv p2, rv w_NONE, iv (0 : Int32), iv (0 : Int32), rv b80, rv a2_87, .unset, .unset] [(.ref la90), (.ref a2_87)]) := fun t k => k89 t (st90 _ k)
        have f92 : Fld Z h90 a2_87 "java/lang/String" "value" "[B" (.ref a3_87) := (po87_2.ext E90)
        have f93 : Arv Z h90 a3_87 kk1_87 .byte (6 : Int32) [(.int (109 : Int32)), (.int (97 : Int32)), (.int (115 : Int32)), (.int (107 : Int32)), (.int (101 : Int32)), (.int (100 : Int32))] (.int (0 : Int32)) := (po87_3.ext E90)
        have f94 : Fld Z h90 a2_87 "java/lang/String" "coder" "B" (.int (0 : Int32)) := (po87_1.ext E90)
        have f96 : Exa Z h90 a2_87 "java/lang/String" := (po87_0.ext E90)
        obtain ⟨cq95, kq95, qq95a, qq95b, qq95c⟩ := isOf hZ e90 f96
        obtain ⟨_, _, ⟨T95, L95, kk95, nn95⟩, -, X95, ⟨Lc95, hQ95, l95, y95, z95⟩, st95⟩ := X90.virtualBack hx (y := (⟨"java/lang/String", "equals", "(Ljava/lang/Object;)Z"⟩ : MethodName)) (z := (⟨"java/lang/String", "equals", "(Ljava/lang/Object;)Z"⟩ : MethodName)) hown (mvT hZ (hw _ (List.mem_of_getElem? (i := 43) rfl))) (mvT hZ (hw _ (List.mem_of_getElem? (i := 44) rfl))) (notFace_of_selects (args := #[]) (mvT hZ (hw _ (List.mem_of_getElem? (i := 46) rfl)))) (mvT hZ (hw _ (List.mem_of_getElem? (i := 46) rfl))) (mvT hZ (hw _ (List.mem_of_getElem? (i := 45) rfl))) (by decide) (backOf (W := 0) (seq01 l Z a0 hw [] w_NONE w_VIEW w_EDIT wCS G a2_87 la90 a3_87 lb90 kk1_87 lk90 h90 n0 O90 (f94 : Fld Z h90 a2_87 "java/lang/String" "coder" "B" (.int (0 : Int32))) (f92 : Fld Z h90 a2_87 "java/lang/String" "value" "[B" (.ref a3_87)) (f93 : Arv Z h90 a3_87 kk1_87 .byte (6 : Int32) [(.int (109 : Int32)), (.int (97 : Int32)), (.int (115 : Int32)), (.int (107 : Int32)), (.int (101 : Int32)), (.int (100 : Int32))] (.int (0 : Int32))) (Fe90 : Exa Z h90 la90 "java/lang/String") (Fc90 : Fld Z h90 la90 "java/lang/String" "coder" "B" (.int (0 : Int32))) (Fv90 : Fld Z h90 la90 "java/lang/String" "value" "[B" (.ref lb90)) (Va90 : Arv Z h90 lb90 lk90 .byte (8 : Int32) [(.int (117 : Int32)), (.int (110 : Int32)), (.int (109 : Int32)), (.int (97 : Int32)), (.int (115 : Int32)), (.int (107 : Int32)), (.int (101 : Int32)), (.int (100 : Int32))] (.int (0 : Int32))) (Fld.ne f92 Fv90 (fun q => absurd (Value.ref.inj q) (arv_ne f93 Va90 (Or.inl (by decide)))) : a2_87 ≠ la90)) hZ (hw _ (List.mem_of_getElem? (i := 47) rfl)) (hw _ (List.mem_of_getElem? (i := 35) rfl)) (by decide) (by decide)) qq95a qq95c (g := (mkF m 73 #[iv p1, iv p2, rv w_NONE, iv (0 : Int32), iv (0 : Int32), rv b80, rv a2_87, .unset, .unset] [(.ref la90), (.ref a2_87)])) rfl (by rw [hml]; rfl) (Steps.refl _) (argsL := [(.ref la90)]) (rest := []) (lenOf pd_5 rfl) rfl (by show 2 * 0 + _ ≤ _; exact Nat.le_of_eq rfl) (hb hby at_73) (fun _ _ => ⟨rfl, e90, (by decide : 5 + 0 ≤ _), (by decide : 67 + 0 ≤ _)⟩)
        dsimp only [Pt.U, Pt.locs, Pt.cells, Pt.slots] at X95 l95 y95 z95 st95 hQ95
        subst l95 y95 z95
        obtain ⟨rfl, Nq95, e95⟩ := hQ95
        have N95 := Fr.app N87 Nq95
        have k97 : Way p e below S0 T95 (mkF m 76 #[iv p1, iv p2, rv w_NONE, iv (0 : Int32), iv (0 : Int32), rv b80, rv a2_87, .unset, .unset] [(.int (0 : Int32))]) := fun t k => k91 t (st95.trans k)
        have k98 : Way p e below S0 T95 (mkF m 80 #[iv p1, iv p2, rv w_NONE, iv (0 : Int32), iv (0 : Int32), rv b80, rv a2_87, iv (0 : Int32), .unset] [(.ref a2_87)]) := by
          intro t k
          refine k97 t ?_
          refine XS.istore X95.here hx rfl (hb hby at_76) rfl (l' := #[iv p1, iv p2, rv w_NONE, iv (0 : Int32), iv (0 : Int32), rv b80, rv a2_87, iv (0 : Int32), .unset]) rfl ?_
          show Steps p.tables e below (T95.setTop (mkF m 78 #[iv p1, iv p2, rv w_NONE, iv (0 : Int32), iv (0 : Int32), rv b80, rv a2_87, iv (0 : Int32), .unset] [])) _
          refine XS.aload X95.here hx rfl (hb hby at_78) rfl rfl ?_
          show Steps p.tables e below (T95.setTop (mkF m 80 #[iv p1, iv p2, rv w_NONE, iv (0 : Int32), iv (0 : Int32), rv b80, rv a2_87, iv (0 : Int32), .unset] [(.ref a2_87)])) _
          exact k
        obtain ⟨la99, T99, h99, ks99, lb99, lk99, X99, e99, E99, hS99, hk99, hZ99, ho99, Fe99, Fc99, Fv99, Va99, -, -, Rr99, Li99, Sa99, st99⟩ := ldcCH (s := s) (vm0 := T90.vm) (EL := own_EL) X95 hx hZ hown (hw _ (List.mem_of_getElem? (i := 57) rfl)) (own_strW hw) e95 hS90 (Nat.le_trans hk90 (Nat.le_refl _)) (own_EW hw) (by decide) R90.1 (vs := [(.int (109 : Int32)), (.int (97 : Int32)), (.int (115 : Int32)), (.int (107 : Int32)), (.int (101 : Int32)), (.int (100 : Int32))]) (z := (6 : Int32)) ⟨by decide, by decide⟩ (by decide) (by decide) (g := (mkF m 80 #[iv p1, iv p2, rv w_NONE, iv (0 : Int32), iv (0 : Int32), rv b80, rv a2_87, iv (0 : Int32), .unset] [(.ref a2_87)])) rfl (hb hby at_80) (n := 24) (by decide) (by decide) (by decide) (by decide)
        have hZ := hZ99
        have hown := ho99
        have R99 : CHr Z own_EL s.vm h0 T99.vm h99 := R90.trans Rr99
        have O99 := O90.ext E99
        have k100 : Way p e below S0 T99 (mkF m 82 #[iv p1, iv p2, rv w_NONE, iv (0 : Int32), iv (0 : Int32), rv b80, rv a2_87, iv (0 : Int32), .unset] [(.ref la99), (.ref a2_87)]) := fun t k => k98 t (st99 _ k)
        have f101 : Fld Z h99 a2_87 "java/lang/String" "coder" "B" (.int (0 : Int32)) := (f94.ext E99)
        have f102 : Fld Z h99 a2_87 "java/lang/String" "value" "[B" (.ref a3_87) := (f92.ext E99)
        have f103 : Arv Z h99 a3_87 kk1_87 .byte (6 : Int32) [(.int (109 : Int32)), (.int (97 : Int32)), (.int (115 : Int32)), (.int (107 : Int32)), (.int (101 : Int32)), (.int (100 : Int32))] (.int (0 : Int32)) := (f93.ext E99)
        have f105 : Exa Z h99 a2_87 "java/lang/String" := (f96.ext E99)
        obtain ⟨cq104, kq104, qq104a, qq104b, qq104c⟩ := isOf hZ e99 f105
        obtain ⟨_, _, ⟨T104, L104, kk104, nn104⟩, -, X104, ⟨Lc104, hQ104, l104, y104, z104⟩, st104⟩ := X99.virtualBack hx (y := (⟨"java/lang/String", "equals", "(Ljava/lang/Object;)Z"⟩ : MethodName)) (z := (⟨"java/lang/String", "equals", "(Ljava/lang/Object;)Z"⟩ : MethodName)) hown (mvT hZ (hw _ (List.mem_of_getElem? (i := 43) rfl))) (mvT hZ (hw _ (List.mem_of_getElem? (i := 44) rfl))) (notFace_of_selects (args := #[]) (mvT hZ (hw _ (List.mem_of_getElem? (i := 46) rfl)))) (mvT hZ (hw _ (List.mem_of_getElem? (i := 46) rfl))) (mvT hZ (hw _ (List.mem_of_getElem? (i := 45) rfl))) (by decide) (backOf (W := 0) (seq00 l Z a0 hw [] w_NONE w_VIEW w_EDIT wCS G a2_87 la99 a3_87 lb99 kk1_87 lk99 h99 n0 O99 (f101 : Fld Z h99 a2_87 "java/lang/String" "coder" "B" (.int (0 : Int32))) (f102 : Fld Z h99 a2_87 "java/lang/String" "value" "[B" (.ref a3_87)) (f103 : Arv Z h99 a3_87 kk1_87 .byte (6 : Int32) [(.int (109 : Int32)), (.int (97 : Int32)), (.int (115 : Int32)), (.int (107 : Int32)), (.int (101 : Int32)), (.int (100 : Int32))] (.int (0 : Int32))) (Fe99 : Exa Z h99 la99 "java/lang/String") (Fc99 : Fld Z h99 la99 "java/lang/String" "coder" "B" (.int (0 : Int32))) (Fv99 : Fld Z h99 la99 "java/lang/String" "value" "[B" (.ref lb99)) (Va99 : Arv Z h99 lb99 lk99 .byte (6 : Int32) [(.int (109 : Int32)), (.int (97 : Int32)), (.int (115 : Int32)), (.int (107 : Int32)), (.int (101 : Int32)), (.int (100 : Int32))] (.int (0 : Int32)))) hZ (hw _ (List.mem_of_getElem? (i := 47) rfl)) (hw _ (List.mem_of_getElem? (i := 35) rfl)) (by decide) (by decide)) qq104a qq104c (g := (mkF m 82 #[iv p1, iv p2, rv w_NONE, iv (0 : Int32), iv (0 : Int32), rv b80, rv a2_87, iv (0 : Int32), .unset] [(.ref la99), (.ref a2_87)])) rfl (by rw [hml]; rfl) (Steps.refl _) (argsL := [(.ref la99)]) (rest := []) (lenOf pd_5 rfl) rfl (by show 2 * 0 + _ ≤ _; exact Nat.le_of_eq rfl) (hb hby at_82) (fun _ _ => ⟨rfl, e99, (by decide : 7 + 0 ≤ _), (by decide : 95 + 0 ≤ _)⟩)
        dsimp only [Pt.U, Pt.locs, Pt.cells, Pt.slots] at X104 l104 y104 z104 st104 hQ104
        subst l104 y104 z104
        obtain ⟨rfl, Nq104, e104⟩ := hQ104
        have N104 := Fr.app N95 Nq104
        have k106 : Way p e below S0 T104 (mkF m 85 #[iv p1, iv p2, rv w_NONE, iv (0 : Int32), iv (0 : Int32), rv b80, rv a2_87, iv (0 : Int32), .unset] [(.int (1 : Int32))]) := fun t k => k100 t (st104.trans k)
        have k107 : Way p e below S0 T104 (mkF m 112 #[iv p1, iv p2, rv w_NONE, iv (0 : Int32), iv (0 : Int32), rv b80, rv a2_87, iv (0 : Int32), iv (1 : Int32)] [(.int (1 : Int32))]) := by
          intro t k
          refine k106 t ?_
          refine XS.istore X104.here hx rfl (hb hby at_85) rfl (l' := #[iv p1, iv p2, rv w_NONE, iv (0 : Int32), iv (0 : Int32), rv b80, rv a2_87, iv (0 : Int32), iv (1 : Int32)]) rfl ?_
          show Steps p.tables e below (T104.setTop (mkF m 87 #[iv p1, iv p2, rv w_NONE, iv (0 : Int32), iv (0 : Int32), rv b80, rv a2_87, iv (0 : Int32), iv (1 : Int32)] [])) _
          refine XS.iload X104.here hx rfl (hb hby at_87) rfl ?_
          show Steps p.tables e below (T104.setTop (mkF m 89 #[iv p1, iv p2, rv w_NONE, iv (0 : Int32), iv (0 : Int32), rv b80, rv a2_87, iv (0 : Int32), iv (1 : Int32)] [(.int (0 : Int32))])) _
          refine XS.iloadN X104.here hx rfl (hb hby at_89) rfl ?_
          show Steps p.tables e below (T104.setTop (mkF m 90 #[iv p1, iv p2, rv w_NONE, iv (0 : Int32), iv (0 : Int32), rv b80, rv a2_87, iv (0 : Int32), iv (1 : Int32)] [(.int (0 : Int32)), (.int (0 : Int32))])) _
          refine XS.icmpNo X104.here hx rfl (hb hby at_90) rfl (teq ((by decide) : (0 : Int32) = (0 : Int32))).2 ?_
          show Steps p.tables e below (T104.setTop (mkF m 93 #[iv p1, iv p2, rv w_NONE, iv (0 : Int32), iv (0 : Int32), rv b80, rv a2_87, iv (0 : Int32), iv (1 : Int32)] [])) _
          refine XS.iload X104.here hx rfl (hb hby at_93) rfl ?_
          show Steps p.tables e below (T104.setTop (mkF m 95 #[iv p1, iv p2, rv w_NONE, iv (0 : Int32), iv (0 : Int32), rv b80, rv a2_87, iv (0 : Int32), iv (1 : Int32)] [(.int (1 : Int32))])) _
          refine XS.iloadN X104.here hx rfl (hb hby at_95) rfl ?_
          show Steps p.tables e below (T104.setTop (mkF m 96 #[iv p1, iv p2, rv w_NONE, iv (0 : Int32), iv (0 : Int32), rv b80, rv a2_87, iv (0 : Int32), iv (1 : Int32)] [(.int (0 : Int32)), (.int (1 : Int32))])) _
          refine XS.ifNo X104.here hx rfl (hb hby at_96) rfl ((if0 _ _).trans (teq ((by decide) : (0 : Int32) = (0 : Int32))).2) ?_
          show Steps p.tables e below (T104.setTop (mkF m 99 #[iv p1, iv p2, rv w_NONE, iv (0 : Int32), iv (0 : Int32), rv b80, rv a2_87, iv (0 : Int32), iv (1 : Int32)] [(.int (1 : Int32))])) _
          refine XS.iconst X104.here hx rfl (hb hby at_99) ?_
          show Steps p.tables e below (T104.setTop (mkF m 100 #[iv p1, iv p2, rv w_NONE, iv (0 : Int32), iv (0 : Int32), rv b80, rv a2_87, iv (0 : Int32), iv (1 : Int32)] [(.int (1 : Int32)), (.int (1 : Int32))])) _
          refine XS.goto X104.here hx rfl (pc0 := 100) (pc' := 104) rfl (hb hby at_100) (by decide) (by decide) ?_
          show Steps p.tables e below (T104.setTop (mkF m 104 #[iv p1, iv p2, rv w_NONE, iv (0 : Int32), iv (0 : Int32), rv b80, rv a2_87, iv (0 : Int32), iv (1 : Int32)] [(.int (1 : Int32)), (.int (1 : Int32))])) _
          refine XS.icmpNo X104.here hx rfl (hb hby at_104) rfl (teq ((by decide) : (1 : Int32) = (1 : Int32))).2 ?_
          show Steps p.tables e below (T104.setTop (mkF m 107 #[iv p1, iv p2, rv w_NONE, iv (0 : Int32), iv (0 : Int32), rv b80, rv a2_87, iv (0 : Int32), iv (1 : Int32)] [])) _
          refine XS.iconst X104.here hx rfl (hb hby at_107) ?_
          show Steps p.tables e below (T104.setTop (mkF m 108 #[iv p1, iv p2, rv w_NONE, iv (0 : Int32), iv (0 : Int32), rv b80, rv a2_87, iv (0 : Int32), iv (1 : Int32)] [(.int (1 : Int32))])) _
          refine XS.goto X104.here hx rfl (pc0 := 108) (pc' := 112) rfl (hb hby at_108) (by decide) (by decide) ?_
          show Steps p.tables e below (T104.setTop (mkF m 112 #[iv p1, iv p2, rv w_NONE, iv (0 : Int32), iv (0 : Int32), rv b80, rv a2_87, iv (0 : Int32), iv (1 : Int32)] [(.int (1 : Int32))])) _
          exact k
        obtain ⟨fs, hr, hrun, hended, hRW⟩ := Stand.leaveW (s := s) (vm₁ := T99.vm) X104 hS99 (by rw [e104]; exact (Nat.le_trans hk99 (Nat.le_refl _))) (v := some (.int (1 : Int32))) (fun h => by rw [Bd.returns] at h; cases h)
        have RF : CHr Z own_EL s.vm h0 T104.vm h99 := R99.trans (CHv.at (s := s) (vm0 := T99.vm) X104 hZ (own_EW hw) R99.1)
        refine ⟨_, _, k107 _ (retN X104 hx (t := .boolean) Bd.returns (by simp) (hb hby at_112) hr), hrun, hended, _, _, rfl, ?_, (by show CHr Z own_EL s.vm s.heap T104.vm T104.heap; rw [hh, e104]; exact RF), own_rw hRW (by decide) (by decide)⟩
        show Q_law_met Z w_NONE w_VIEW w_EDIT wCS p1 p2 h0 n0 _ T104.heap _
        rw [e104]
        exact ⟨rfl, N104⟩
      · have k108 : Way p e below S0 T2 (mkF m 31 #[iv p1, iv p2, rv w_NONE, iv (1 : Int32), iv (1 : Int32), .unset, .unset, .unset, .unset] [(.ref w_NONE)]) := by
          intro t k
          refine k75 t ?_
          refine XS.ifNo X2.here hx rfl (hb hby at_20) rfl ((if0 _ _).trans (feq (hc74 : ¬ ((p2 &&& (2 : Int32)) = (0 : Int32)))).1) ?_
          show Steps p.tables e below (T2.setTop (mkF m 23 #[iv p1, iv p2, rv w_NONE, iv (1 : Int32), .unset, .unset, .unset, .unset, .unset] [])) _
          refine XS.iconst X2.here hx rfl (hb hby at_23) ?_
          show Steps p.tables e below (T2.setTop (mkF m 24 #[iv p1, iv p2, rv w_NONE, iv (1 : Int32), .unset, .unset, .unset, .unset, .unset] [(.int (1 : Int32))])) _
          refine XS.goto X2.here hx rfl (pc0 := 24) (pc' := 28) rfl (hb hby at_24) (by decide) (by decide) ?_
          show Steps p.tables e below (T2.setTop (mkF m 28 #[iv p1, iv p2, rv w_NONE, iv (1 : Int32), .unset, .unset, .unset, .unset, .unset] [(.int (1 : Int32))])) _
          refine XS.istore X2.here hx rfl (hb hby at_28) rfl (l' := #[iv p1, iv p2, rv w_NONE, iv (1 : Int32), iv (1 : Int32), .unset, .unset, .unset, .unset]) rfl ?_
          show Steps p.tables e below (T2.setTop (mkF m 30 #[iv p1, iv p2, rv w_NONE, iv (1 : Int32), iv (1 : Int32), .unset, .unset, .unset, .unset] [])) _
          refine XS.aloadN X2.here hx rfl (hb hby at_30) rfl rfl ?_
          show Steps p.tables e below (T2.setTop (mkF m 31 #[iv p1, iv p2, rv w_NONE, iv (1 : Int32), iv (1 : Int32), .unset, .unset, .unset, .unset] [(.ref w_NONE)])) _
          exact k
        obtain ⟨T109, X109, e109, st109⟩ := getS2 X2 hx hZ hown (host := "") (Or.inl (hw _ (List.mem_of_getElem? (i := 5) rfl))) Via.refl e2 (S_w_NONE.ext O0.2) (g := (mkF m 31 #[iv p1, iv p2, rv w_NONE, iv (1 : Int32), iv (1 : Int32), .unset, .unset, .unset, .unset] [(.ref w_NONE)])) rfl (hb hby at_31)
        have k110 : Way p e below S0 T109 (mkF m 34 #[iv p1, iv p2, rv w_NONE, iv (1 : Int32), iv (1 : Int32), .unset, .unset, .unset, .unset] [(.ref w_NONE), (.ref w_NONE)]) := fun t k => k108 t (st109 _ k)
        have k111 : Way p e below S0 T109 (mkF m 42 #[iv p1, iv p2, rv w_NONE, iv (0 : Int32), iv (0 : Int32), .unset, .unset, .unset, .unset] []) := by
          intro t k
          refine k110 t ?_
          refine Jvm.RoadKit.acmp (g := (mkF m 34 #[iv p1, iv p2, rv w_NONE, iv (1 : Int32), iv (1 : Int32), .unset, .unset, .unset, .unset] [(.ref w_NONE), (.ref w_NONE)])) X109 hx rfl rfl rfl (pc0 := 34) (pc' := 37) (same := true) rfl (hb hby at_34) rfl (decide_eq_true rfl) (by decide) (by decide) ?_
          show Steps p.tables e below (T109.setTop (mkF m 37 #[iv p1, iv p2, rv w_NONE, iv (1 : Int32), iv (1 : Int32), .unset, .unset, .unset, .unset] [])) _
          refine XS.iconst X109.here hx rfl (hb hby at_37) ?_
          show Steps p.tables e below (T109.setTop (mkF m 38 #[iv p1, iv p2, rv w_NONE, iv (1 : Int32), iv (1 : Int32), .unset, .unset, .unset, .unset] [(.int (0 : Int32))])) _
          refine XS.istoreN X109.here hx rfl (hb hby at_38) rfl (l' := #[iv p1, iv p2, rv w_NONE, iv (0 : Int32), iv (1 : Int32), .unset, .unset, .unset, .unset]) rfl ?_
          show Steps p.tables e below (T109.setTop (mkF m 39 #[iv p1, iv p2, rv w_NONE, iv (0 : Int32), iv (1 : Int32), .unset, .unset, .unset, .unset] [])) _
          refine XS.iconst X109.here hx rfl (hb hby at_39) ?_
          show Steps p.tables e below (T109.setTop (mkF m 40 #[iv p1, iv p2, rv w_NONE, iv (0 : Int32), iv (1 : Int32), .unset, .unset, .unset, .unset] [(.int (0 : Int32))])) _
          refine XS.istore X109.here hx rfl (hb hby at_40) rfl (l' := #[iv p1, iv p2, rv w_NONE, iv (0 : Int32), iv (0 : Int32), .unset, .unset, .unset, .unset]) rfl ?_
          show Steps p.tables e below (T109.setTop (mkF m 42 #[iv p1, iv p2, rv w_NONE, iv (0 : Int32), iv (0 : Int32), .unset, .unset, .unset, .unset] [])) _
          exact k
        obtain ⟨T112, h112, X112, e112, E112, A112, D112, U112, st112⟩ := newO X109 hx hZ hown (hw _ (List.mem_of_getElem? (i := 8) rfl)) (hw _ (List.mem_of_getElem? (i := 9) rfl)) (hw _ (List.mem_of_getElem? (i := 10) rfl)) e109 (g := (mkF m 42 #[iv p1, iv p2, rv w_NONE, iv (0 : Int32), iv (0 : Int32), .unset, .unset, .unset, .unset] [])) rfl (hb hby at_42) (by decide) (by decide)
        obtain ⟨b112, g112⟩ : ∃ z, z = h0.size := ⟨_, rfl⟩
        rw [← g112] at A112 D112 U112 st112
        have R112 : CHr Z own_EL s.vm h0 s.vm h112 := R0.trans (CHr.ext E112 R0.1)
        have O112 := O0.ext E112
        have i112_level : Fld Z h112 b112 "caseward/policy/Access" "level" "Lcaseward/policy/Access$Level;" .null := D112 (Or.inr (hw _ (List.mem_of_getElem? (i := 24) rfl))) (ty := (.object "caseward/policy/Access$Level")) (by decide)
        have i112_pii : Fld Z h112 b112 "caseward/policy/Access" "pii" "Z" (.int (0 : Int32)) := D112 (Or.inr (hw _ (List.mem_of_getElem? (i := 26) rfl))) (ty := .boolean) (by decide)
        have i112_unblinded : Fld Z h112 b112 "caseward/policy/Access" "unblinded" "Z" (.int (0 : Int32)) := D112 (Or.inr (hw _ (List.mem_of_getElem? (i := 28) rfl))) (ty := .boolean) (by decide)
        have k113 : Way p e below S0 T112 (mkF m 45 #[iv p1, iv p2, rv w_NONE, iv (0 : Int32), iv (0 : Int32), .unset, .unset, .unset, .unset] [(.ref b112)]) := fun t k => k111 t (st112 _ k)
        have k114 : Way p e below S0 T112 (mkF m 50 #[iv p1, iv p2, rv w_NONE, iv (0 : Int32), iv (0 : Int32), .unset, .unset, .unset, .unset] [(.int (0 : Int32)), (.int (0 : Int32)), (.ref w_NONE), (.ref b112), (.ref b112)]) := by
          intro t k
          refine k113 t ?_
          refine XS.dup X112.here hx rfl (hb hby at_45) rfl rfl ?_
          show Steps p.tables e below (T112.setTop (mkF m 46 #[iv p1, iv p2, rv w_NONE, iv (0 : Int32), iv (0 : Int32), .unset, .unset, .unset, .unset] [(.ref b112), (.ref b112)])) _
          refine XS.aloadN X112.here hx rfl (hb hby at_46) rfl rfl ?_
          show Steps p.tables e below (T112.setTop (mkF m 47 #[iv p1, iv p2, rv w_NONE, iv (0 : Int32), iv (0 : Int32), .unset, .unset, .unset, .unset] [(.ref w_NONE), (.ref b112), (.ref b112)])) _
          refine XS.iloadN X112.here hx rfl (hb hby at_47) rfl ?_
          show Steps p.tables e below (T112.setTop (mkF m 48 #[iv p1, iv p2, rv w_NONE, iv (0 : Int32), iv (0 : Int32), .unset, .unset, .unset, .unset] [(.int (0 : Int32)), (.ref w_NONE), (.ref b112), (.ref b112)])) _
          refine XS.iload X112.here hx rfl (hb hby at_48) rfl ?_
          show Steps p.tables e below (T112.setTop (mkF m 50 #[iv p1, iv p2, rv w_NONE, iv (0 : Int32), iv (0 : Int32), .unset, .unset, .unset, .unset] [(.int (0 : Int32)), (.int (0 : Int32)), (.ref w_NONE), (.ref b112), (.ref b112)])) _
          exact k
        have ge115 : n0 ≤ b112 := Nat.le_trans (own_old O0) (Nat.le_of_eq g112.symm)
        obtain ⟨_, _, ⟨T116, L116, kk116, nn116⟩, -, X116, ⟨Lc116, hQ116, l116, y116, z116⟩, st116⟩ := X112.specialBack hx (y := (⟨"caseward/policy/Access", "<init>", "(Lcaseward/policy/Access$Level;ZZ)V"⟩ : MethodName)) rfl hown (mvT hZ (hw _ (List.mem_of_getElem? (i := 11) rfl))) (mvT hZ (hw _ (List.mem_of_getElem? (i := 12) rfl))) (mvT hZ (hw _ (List.mem_of_getElem? (i := 13) rfl))) (by decide) (backOf (W := 1) (init_NONE00 l Z a0 hw [] w_NONE w_VIEW w_EDIT wCS G b112 h112 n0 O112 (A112 : Exa Z h112 b112 "caseward/policy/Access") (i112_level : Fld Z h112 b112 "caseward/policy/Access" "level" "Lcaseward/policy/Access$Level;" .null) (i112_pii : Fld Z h112 b112 "caseward/policy/Access" "pii" "Z" (.int (0 : Int32))) (i112_unblinded : Fld Z h112 b112 "caseward/policy/Access" "unblinded" "Z" (.int (0 : Int32))) (ge115 : n0 ≤ b112)) hZ (hw _ (List.mem_of_getElem? (i := 13) rfl)) (hw _ (List.mem_of_getElem? (i := 10) rfl)) (by decide) (by decide)) (g := (mkF m 50 #[iv p1, iv p2, rv w_NONE, iv (0 : Int32), iv (0 : Int32), .unset, .unset, .unset, .unset] [(.int (0 : Int32)), (.int (0 : Int32)), (.ref w_NONE), (.ref b112), (.ref b112)])) rfl (by rw [hml]; rfl) (Steps.refl _) (a := b112) (argsL := [(.ref w_NONE), (.int (0 : Int32)), (.int (0 : Int32))]) (rest := [(.ref b112)]) (lenOf pd_3 rfl) rfl (by show 2 * 0 + _ ≤ _; exact Nat.le_of_eq rfl) (hb hby at_50) (fun _ _ => ⟨rfl, e112, (by decide : 1 + 0 ≤ _), (by decide : 3 + 0 ≤ _)⟩)
        dsimp only [Pt.U, Pt.locs, Pt.cells, Pt.slots] at X116 l116 y116 z116 st116 hQ116
        subst l116 y116 z116
        obtain ⟨rfl, Nq116, Kq116, po116_0, po116_1⟩ := hQ116
        have N116 := Fr.app N2 Nq116
        have O116 := O112.keep Kq116 (allS ge115 all0)
        have R116 : CHr Z own_EL s.vm h0 s.vm T116.heap := R112.trans (CHr.keep Kq116 (sfS (Safe.exa hZ.alike A112 (by decide) (by decide)) sf0) R112.1)
        have k117 : Way p e below S0 T116 (mkF m 53 #[iv p1, iv p2, rv w_NONE, iv (0 : Int32), iv (0 : Int32), .unset, .unset, .unset, .unset] [(.ref b112)]) := fun t k => k114 t (st116.trans k)
        have k118 : Way p e below S0 T116 (mkF m 57 #[iv p1, iv p2, rv w_NONE, iv (0 : Int32), iv (0 : Int32), rv b112, .unset, .unset, .unset] [(.ref b112)]) := by
          intro t k
          refine k117 t ?_
          refine XS.astore X116.here hx rfl (hb hby at_53) rfl rfl (l' := #[iv p1, iv p2, rv w_NONE, iv (0 : Int32), iv (0 : Int32), rv b112, .unset, .unset, .unset]) rfl ?_
          show Steps p.tables e below (T116.setTop (mkF m 55 #[iv p1, iv p2, rv w_NONE, iv (0 : Int32), iv (0 : Int32), rv b112, .unset, .unset, .unset] [])) _
          refine XS.aload X116.here hx rfl (hb hby at_55) rfl rfl ?_
          show Steps p.tables e below (T116.setTop (mkF m 57 #[iv p1, iv p2, rv w_NONE, iv (0 : Int32), iv (0 : Int32), rv b112, .unset, .unset, .unset] [(.ref b112)])) _
          exact k
        obtain ⟨cq119, kq119, qq119a, qq119b, qq119c⟩ := isOf hZ rfl po116_0
        obtain ⟨_, _, ⟨T119, L119, kk119, nn119⟩, -, Xr119, hSr119, hgr119, ⟨Lc119, hQ119, l119, y119, z119, Rr119⟩, st119⟩ := X116.virtualBackS hx (y := (⟨"caseward/policy/Access", "piiWord", "()Ljava/lang/String;"⟩ : MethodName)) (z := (⟨"caseward/policy/Access", "piiWord", "()Ljava/lang/String;"⟩ : MethodName)) hown (mvT hZ (hw _ (List.mem_of_getElem? (i := 29) rfl))) (mvT hZ (hw _ (List.mem_of_getElem? (i := 30) rfl))) (notFace_of_selects (args := #[]) (mvT hZ (hw _ (List.mem_of_getElem? (i := 32) rfl)))) (mvT hZ (hw _ (List.mem_of_getElem? (i := 32) rfl))) (mvT hZ (hw _ (List.mem_of_getElem? (i := 31) rfl))) (by decide) (backOfSH (s := s) (vm0 := s.vm) (W := 0) (piiWord0 l Z a0 hw [] w_NONE w_VIEW w_EDIT wCS G b112 T116.heap n0 O116 (po116_1 : Fld Z T116.heap b112 "caseward/policy/Access" "pii" "Z" (.int (0 : Int32)))) hZ (hw _ (List.mem_of_getElem? (i := 33) rfl)) (hw _ (List.mem_of_getElem? (i := 10) rfl)) (by decide) (by decide) (own_EW hw) R116.1) qq119a qq119c (g := (mkF m 57 #[iv p1, iv p2, rv w_NONE, iv (0 : Int32), iv (0 : Int32), rv b112, .unset, .unset, .unset] [(.ref b112)])) rfl (by rw [hml]; rfl) (Steps.refl _) (argsL := []) (rest := []) (lenOf pd_4 rfl) rfl (by show 2 * 0 + _ ≤ _; exact Nat.le_of_eq rfl) (hb hby at_57) (fun _ _ => ⟨rfl, rfl, (by decide : 1 + 2 ≤ _), (by decide : 3 + 28 ≤ _)⟩)
        dsimp only [Pt.U, Pt.locs, Pt.cells, Pt.slots] at Xr119 hSr119 hgr119 l119 y119 z119 st119 hQ119 Rr119
        subst l119 y119 z119
        obtain ⟨X119, hS119, hZ119, ho119⟩ := rebS (s := s) (vm0 := s.vm) hS0 (Nat.zero_le _) Xr119 hSr119 hgr119 hZ hown
        have hZ := hZ119
        have hown := ho119
        obtain ⟨a2_119, a3_119, kk1_119, rfl, Nq119, Kq119, po119_0, po119_1, po119_2, po119_3⟩ := hQ119
        have N119 := Fr.app N116 Nq119
        have O119 := O116.keep Kq119 all0
        have R119 : CHr Z own_EL s.vm h0 T119.vm T119.heap := R116.trans Rr119
        have k120 : Way p e below S0 T119 (mkF m 60 #[iv p1, iv p2, rv w_NONE, iv (0 : Int32), iv (0 : Int32), rv b112, .unset, .unset, .unset] [(.ref a2_119)]) := fun t k => k118 t (st119.trans k)
        have k121 : Way p e below S0 T119 (mkF m 71 #[iv p1, iv p2, rv w_NONE, iv (0 : Int32), iv (0 : Int32), rv b112, rv a2_119, .unset, .unset] [(.ref a2_119)]) := by
          intro t k
          refine k120 t ?_
          refine XS.astore X119.here hx rfl (hb hby at_60) rfl rfl (l' := #[iv p1, iv p2, rv w_NONE, iv (0 : Int32), iv (0 : Int32), rv b112, rv a2_119, .unset, .unset]) rfl ?_
          show Steps p.tables e below (T119.setTop (mkF m 62 #[iv p1, iv p2, rv w_NONE, iv (0 : Int32), iv (0 : Int32), rv b112, rv a2_119, .unset, .unset] [])) _
          refine XS.aload X119.here hx rfl (hb hby at_62) rfl rfl ?_
          show Steps p.tables e below (T119.setTop (mkF m 64 #[iv p1, iv p2, rv w_NONE, iv (0 : Int32), iv (0 : Int32), rv b112, rv a2_119, .unset, .unset] [(.ref a2_119)])) _
          refine XS.ifnonnullYes X119.here hx rfl (pc0 := 64) (pc' := 69) rfl (hb hby at_64) rfl (by decide) (by decide) ?_
          show Steps p.tables e below (T119.setTop (mkF m 69 #[iv p1, iv p2, rv w_NONE, iv (0 : Int32), iv (0 : Int32), rv b112, rv a2_119, .unset, .unset] [])) _
          refine XS.aload X119.here hx rfl (hb hby at_69) rfl rfl ?_
          show Steps p.tables e below (T119.setTop (mkF m 71 #[iv p1, iv p2, rv w_NONE, iv (0 : Int32), iv (0 : Int32), rv b112, rv a2_119, .unset, .unset] [(.ref a2_119)])) _
          exact k
        obtain ⟨la122, T122, h122, ks122, lb122, lk122, X122, e122, E122, hS122, hk122, hZ122, ho122, Fe122, Fc122, Fv122, Va122, -, -, Rr122, Li122, Sa122, st122⟩ := ldcCH (s := s) (vm0 := T119.vm) (EL := own_EL) X119 hx hZ hown (hw _ (List.mem_of_getElem? (i := 42) rfl)) (own_strW hw) rfl hS119 (Nat.le_trans (Nat.le_refl _) (Nat.le_refl _)) (own_EW hw) (by decide) R119.1 (vs := [(.int (117 : Int32)), (.int (110 : Int32)), (.int (109 : Int32)), (.int (97 : Int32)), (.int (115 : Int32)), (.int (107 : Int32)), (.int (101 : Int32)), (.int (100 : Int32))]) (z := (8 : Int32)) ⟨by decide, by decide⟩ (by decide) (by decide) (g := (mkF m 71 #[iv p1, iv p2, rv w_NONE, iv (0 : Int32), iv (0 : Int32), rv b112, rv a2_119, .unset, .unset] [(.ref a2_119)])) rfl (hb hby at_71) (n := 32) (by decide) (by decide) (by decide) (by decide)
        have hZ := hZ122
        have hown := ho122
        have R122 : CHr Z own_EL s.vm h0 T122.vm h122 := R119.trans Rr122
        have O122 := O119.ext E122
        have k123 : Way p e below S0 T122 (mkF m 73 #[iv p1, iv p2, rv w_NONE, iv (0 : Int32), iv (0 : Int32), rv b112, rv a2_119, .unset, .unset] [(.ref la122), (.ref a2_119)]) := fun t k => k121 t (st122 _ k)
        have f124 : Fld Z h122 a2_119 "java/lang/String" "value" "[B" (.ref a3_119) := (po119_2.ext E122)
        have f125 : Arv Z h122 a3_119 kk1_119 .byte (6 : Int32) [(.int (109 : Int32)), (.int (97 : Int32)), (.int (115 : Int32)), (.int (107 : Int32)), (.int (101 : Int32)), (.int (100 : Int32))] (.int (0 : Int32)) := (po119_3.ext E122)
        have f126 : Fld Z h122 a2_119 "java/lang/String" "coder" "B" (.int (0 : Int32)) := (po119_1.ext E122)
        have f128 : Exa Z h122 a2_119 "java/lang/String" := (po119_0.ext E122)
        obtain ⟨cq127, kq127, qq127a, qq127b, qq127c⟩ := isOf hZ e122 f128
        obtain ⟨_, _, ⟨T127, L127, kk127, nn127⟩, -, X127, ⟨Lc127, hQ127, l127, y127, z127⟩, st127⟩ := X122.virtualBack hx (y := (⟨"java/lang/String", "equals", "(Ljava/lang/Object;)Z"⟩ : MethodName)) (z := (⟨"java/lang/String", "equals", "(Ljava/lang/Object;)Z"⟩ : MethodName)) hown (mvT hZ (hw _ (List.mem_of_getElem? (i := 43) rfl))) (mvT hZ (hw _ (List.mem_of_getElem? (i := 44) rfl))) (notFace_of_selects (args := #[]) (mvT hZ (hw _ (List.mem_of_getElem? (i := 46) rfl)))) (mvT hZ (hw _ (List.mem_of_getElem? (i := 46) rfl))) (mvT hZ (hw _ (List.mem_of_getElem? (i := 45) rfl))) (by decide) (backOf (W := 0) (seq01 l Z a0 hw [] w_NONE w_VIEW w_EDIT wCS G a2_119 la122 a3_119 lb122 kk1_119 lk122 h122 n0 O122 (f126 : Fld Z h122 a2_119 "java/lang/String" "coder" "B" (.int (0 : Int32))) (f124 : Fld Z h122 a2_119 "java/lang/String" "value" "[B" (.ref a3_119)) (f125 : Arv Z h122 a3_119 kk1_119 .byte (6 : Int32) [(.int (109 : Int32)), (.int (97 : Int32)), (.int (115 : Int32)), (.int (107 : Int32)), (.int (101 : Int32)), (.int (100 : Int32))] (.int (0 : Int32))) (Fe122 : Exa Z h122 la122 "java/lang/String") (Fc122 : Fld Z h122 la122 "java/lang/String" "coder" "B" (.int (0 : Int32))) (Fv122 : Fld Z h122 la122 "java/lang/String" "value" "[B" (.ref lb122)) (Va122 : Arv Z h122 lb122 lk122 .byte (8 : Int32) [(.int (117 : Int32)), (.int (110 : Int32)), (.int (109 : Int32)), (.int (97 : Int32)), (.int (115 : Int32)), (.int (107 : Int32)), (.int (101 : Int32)), (.int (100 : Int32))] (.int (0 : Int32))) (Fld.ne f124 Fv122 (fun q => absurd (Value.ref.inj q) (arv_ne f125 Va122 (Or.inl (by decide)))) : a2_119 ≠ la122)) hZ (hw _ (List.mem_of_getElem? (i := 47) rfl)) (hw _ (List.mem_of_getElem? (i := 35) rfl)) (by decide) (by decide)) qq127a qq127c (g := (mkF m 73 #[iv p1, iv p2, rv w_NONE, iv (0 : Int32), iv (0 : Int32), rv b112, rv a2_119, .unset, .unset] [(.ref la122), (.ref a2_119)])) rfl (by rw [hml]; rfl) (Steps.refl _) (argsL := [(.ref la122)]) (rest := []) (lenOf pd_5 rfl) rfl (by show 2 * 0 + _ ≤ _; exact Nat.le_of_eq rfl) (hb hby at_73) (fun _ _ => ⟨rfl, e122, (by decide : 5 + 0 ≤ _), (by decide : 67 + 0 ≤ _)⟩)
        dsimp only [Pt.U, Pt.locs, Pt.cells, Pt.slots] at X127 l127 y127 z127 st127 hQ127
        subst l127 y127 z127
        obtain ⟨rfl, Nq127, e127⟩ := hQ127
        have N127 := Fr.app N119 Nq127
        have k129 : Way p e below S0 T127 (mkF m 76 #[iv p1, iv p2, rv w_NONE, iv (0 : Int32), iv (0 : Int32), rv b112, rv a2_119, .unset, .unset] [(.int (0 : Int32))]) := fun t k => k123 t (st127.trans k)
        have k130 : Way p e below S0 T127 (mkF m 80 #[iv p1, iv p2, rv w_NONE, iv (0 : Int32), iv (0 : Int32), rv b112, rv a2_119, iv (0 : Int32), .unset] [(.ref a2_119)]) := by
          intro t k
          refine k129 t ?_
          refine XS.istore X127.here hx rfl (hb hby at_76) rfl (l' := #[iv p1, iv p2, rv w_NONE, iv (0 : Int32), iv (0 : Int32), rv b112, rv a2_119, iv (0 : Int32), .unset]) rfl ?_
          show Steps p.tables e below (T127.setTop (mkF m 78 #[iv p1, iv p2, rv w_NONE, iv (0 : Int32), iv (0 : Int32), rv b112, rv a2_119, iv (0 : Int32), .unset] [])) _
          refine XS.aload X127.here hx rfl (hb hby at_78) rfl rfl ?_
          show Steps p.tables e below (T127.setTop (mkF m 80 #[iv p1, iv p2, rv w_NONE, iv (0 : Int32), iv (0 : Int32), rv b112, rv a2_119, iv (0 : Int32), .unset] [(.ref a2_119)])) _
          exact k
        obtain ⟨la131, T131, h131, ks131, lb131, lk131, X131, e131, E131, hS131, hk131, hZ131, ho131, Fe131, Fc131, Fv131, Va131, -, -, Rr131, Li131, Sa131, st131⟩ := ldcCH (s := s) (vm0 := T122.vm) (EL := own_EL) X127 hx hZ hown (hw _ (List.mem_of_getElem? (i := 57) rfl)) (own_strW hw) e127 hS122 (Nat.le_trans hk122 (Nat.le_refl _)) (own_EW hw) (by decide) R122.1 (vs := [(.int (109 : Int32)), (.int (97 : Int32)), (.int (115 : Int32)), (.int (107 : Int32)), (.int (101 : Int32)), (.int (100 : Int32))]) (z := (6 : Int32)) ⟨by decide, by decide⟩ (by decide) (by decide) (g := (mkF m 80 #[iv p1, iv p2, rv w_NONE, iv (0 : Int32), iv (0 : Int32), rv b112, rv a2_119, iv (0 : Int32), .unset] [(.ref a2_119)])) rfl (hb hby at_80) (n := 24) (by decide) (by decide) (by decide) (by decide)
        have hZ := hZ131
        have hown := ho131
        have R131 : CHr Z own_EL s.vm h0 T131.vm h131 := R122.trans Rr131
        have O131 := O122.ext E131
        have k132 : Way p e below S0 T131 (mkF m 82 #[iv p1, iv p2, rv w_NONE, iv (0 : Int32), iv (0 : Int32), rv b112, rv a2_119, iv (0 : Int32), .unset] [(.ref la131), (.ref a2_119)]) := fun t k => k130 t (st131 _ k)
        have f133 : Fld Z h131 a2_119 "java/lang/String" "coder" "B" (.int (0 : Int32)) := (f126.ext E131)
        have f134 : Fld Z h131 a2_119 "java/lang/String" "value" "[B" (.ref a3_119) := (f124.ext E131)
        have f135 : Arv Z h131 a3_119 kk1_119 .byte (6 : Int32) [(.int (109 : Int32)), (.int (97 : Int32)), (.int (115 : Int32)), (.int (107 : Int32)), (.int (101 : Int32)), (.int (100 : Int32))] (.int (0 : Int32)) := (f125.ext E131)
        have f137 : Exa Z h131 a2_119 "java/lang/String" := (f128.ext E131)
        obtain ⟨cq136, kq136, qq136a, qq136b, qq136c⟩ := isOf hZ e131 f137
        obtain ⟨_, _, ⟨T136, L136, kk136, nn136⟩, -, X136, ⟨Lc136, hQ136, l136, y136, z136⟩, st136⟩ := X131.virtualBack hx (y := (⟨"java/lang/String", "equals", "(Ljava/lang/Object;)Z"⟩ : MethodName)) (z := (⟨"java/lang/String", "equals", "(Ljava/lang/Object;)Z"⟩ : MethodName)) hown (mvT hZ (hw _ (List.mem_of_getElem? (i := 43) rfl))) (mvT hZ (hw _ (List.mem_of_getElem? (i := 44) rfl))) (notFace_of_selects (args := #[]) (mvT hZ (hw _ (List.mem_of_getElem? (i := 46) rfl)))) (mvT hZ (hw _ (List.mem_of_getElem? (i := 46) rfl))) (mvT hZ (hw _ (List.mem_of_getElem? (i := 45) rfl))) (by decide) (backOf (W := 0) (seq00 l Z a0 hw [] w_NONE w_VIEW w_EDIT wCS G a2_119 la131 a3_119 lb131 kk1_119 lk131 h131 n0 O131 (f133 : Fld Z h131 a2_119 "java/lang/String" "coder" "B" (.int (0 : Int32))) (f134 : Fld Z h131 a2_119 "java/lang/String" "value" "[B" (.ref a3_119)) (f135 : Arv Z h131 a3_119 kk1_119 .byte (6 : Int32) [(.int (109 : Int32)), (.int (97 : Int32)), (.int (115 : Int32)), (.int (107 : Int32)), (.int (101 : Int32)), (.int (100 : Int32))] (.int (0 : Int32))) (Fe131 : Exa Z h131 la131 "java/lang/String") (Fc131 : Fld Z h131 la131 "java/lang/String" "coder" "B" (.int (0 : Int32))) (Fv131 : Fld Z h131 la131 "java/lang/String" "value" "[B" (.ref lb131)) (Va131 : Arv Z h131 lb131 lk131 .byte (6 : Int32) [(.int (109 : Int32)), (.int (97 : Int32)), (.int (115 : Int32)), (.int (107 : Int32)), (.int (101 : Int32)), (.int (100 : Int32))] (.int (0 : Int32)))) hZ (hw _ (List.mem_of_getElem? (i := 47) rfl)) (hw _ (List.mem_of_getElem? (i := 35) rfl)) (by decide) (by decide)) qq136a qq136c (g := (mkF m 82 #[iv p1, iv p2, rv w_NONE, iv (0 : Int32), iv (0 : Int32), rv b112, rv a2_119, iv (0 : Int32), .unset] [(.ref la131), (.ref a2_119)])) rfl (by rw [hml]; rfl) (Steps.refl _) (argsL := [(.ref la131)]) (rest := []) (lenOf pd_5 rfl) rfl (by show 2 * 0 + _ ≤ _; exact Nat.le_of_eq rfl) (hb hby at_82) (fun _ _ => ⟨rfl, e131, (by decide : 7 + 0 ≤ _), (by decide : 95 + 0 ≤ _)⟩)
        dsimp only [Pt.U, Pt.locs, Pt.cells, Pt.slots] at X136 l136 y136 z136 st136 hQ136
        subst l136 y136 z136
        obtain ⟨rfl, Nq136, e136⟩ := hQ136
        have N136 := Fr.app N127 Nq136
        have k138 : Way p e below S0 T136 (mkF m 85 #[iv p1, iv p2, rv w_NONE, iv (0 : Int32), iv (0 : Int32), rv b112, rv a2_119, iv (0 : Int32), .unset] [(.int (1 : Int32))]) := fun t k => k132 t (st136.trans k)
        have k139 : Way p e below S0 T136 (mkF m 112 #[iv p1, iv p2, rv w_NONE, iv (0 : Int32), iv (0 : Int32), rv b112, rv a2_119, iv (0 : Int32), iv (1 : Int32)] [(.int (1 : Int32))]) := by
          intro t k
          refine k138 t ?_
          refine XS.istore X136.here hx rfl (hb hby at_85) rfl (l' := #[iv p1, iv p2, rv w_NONE, iv (0 : Int32), iv (0 : Int32), rv b112, rv a2_119, iv (0 : Int32), iv (1 : Int32)]) rfl ?_
          show Steps p.tables e below (T136.setTop (mkF m 87 #[iv p1, iv p2, rv w_NONE, iv (0 : Int32), iv (0 : Int32), rv b112, rv a2_119, iv (0 : Int32), iv (1 : Int32)] [])) _
          refine XS.iload X136.here hx rfl (hb hby at_87) rfl ?_
          show Steps p.tables e below (T136.setTop (mkF m 89 #[iv p1, iv p2, rv w_NONE, iv (0 : Int32), iv (0 : Int32), rv b112, rv a2_119, iv (0 : Int32), iv (1 : Int32)] [(.int (0 : Int32))])) _
          refine XS.iloadN X136.here hx rfl (hb hby at_89) rfl ?_
          show Steps p.tables e below (T136.setTop (mkF m 90 #[iv p1, iv p2, rv w_NONE, iv (0 : Int32), iv (0 : Int32), rv b112, rv a2_119, iv (0 : Int32), iv (1 : Int32)] [(.int (0 : Int32)), (.int (0 : Int32))])) _
          refine XS.icmpNo X136.here hx rfl (hb hby at_90) rfl (teq ((by decide) : (0 : Int32) = (0 : Int32))).2 ?_
          show Steps p.tables e below (T136.setTop (mkF m 93 #[iv p1, iv p2, rv w_NONE, iv (0 : Int32), iv (0 : Int32), rv b112, rv a2_119, iv (0 : Int32), iv (1 : Int32)] [])) _
          refine XS.iload X136.here hx rfl (hb hby at_93) rfl ?_
          show Steps p.tables e below (T136.setTop (mkF m 95 #[iv p1, iv p2, rv w_NONE, iv (0 : Int32), iv (0 : Int32), rv b112, rv a2_119, iv (0 : Int32), iv (1 : Int32)] [(.int (1 : Int32))])) _
          refine XS.iloadN X136.here hx rfl (hb hby at_95) rfl ?_
          show Steps p.tables e below (T136.setTop (mkF m 96 #[iv p1, iv p2, rv w_NONE, iv (0 : Int32), iv (0 : Int32), rv b112, rv a2_119, iv (0 : Int32), iv (1 : Int32)] [(.int (0 : Int32)), (.int (1 : Int32))])) _
          refine XS.ifNo X136.here hx rfl (hb hby at_96) rfl ((if0 _ _).trans (teq ((by decide) : (0 : Int32) = (0 : Int32))).2) ?_
          show Steps p.tables e below (T136.setTop (mkF m 99 #[iv p1, iv p2, rv w_NONE, iv (0 : Int32), iv (0 : Int32), rv b112, rv a2_119, iv (0 : Int32), iv (1 : Int32)] [(.int (1 : Int32))])) _
          refine XS.iconst X136.here hx rfl (hb hby at_99) ?_
          show Steps p.tables e below (T136.setTop (mkF m 100 #[iv p1, iv p2, rv w_NONE, iv (0 : Int32), iv (0 : Int32), rv b112, rv a2_119, iv (0 : Int32), iv (1 : Int32)] [(.int (1 : Int32)), (.int (1 : Int32))])) _
          refine XS.goto X136.here hx rfl (pc0 := 100) (pc' := 104) rfl (hb hby at_100) (by decide) (by decide) ?_
          show Steps p.tables e below (T136.setTop (mkF m 104 #[iv p1, iv p2, rv w_NONE, iv (0 : Int32), iv (0 : Int32), rv b112, rv a2_119, iv (0 : Int32), iv (1 : Int32)] [(.int (1 : Int32)), (.int (1 : Int32))])) _
          refine XS.icmpNo X136.here hx rfl (hb hby at_104) rfl (teq ((by decide) : (1 : Int32) = (1 : Int32))).2 ?_
          show Steps p.tables e below (T136.setTop (mkF m 107 #[iv p1, iv p2, rv w_NONE, iv (0 : Int32), iv (0 : Int32), rv b112, rv a2_119, iv (0 : Int32), iv (1 : Int32)] [])) _
          refine XS.iconst X136.here hx rfl (hb hby at_107) ?_
          show Steps p.tables e below (T136.setTop (mkF m 108 #[iv p1, iv p2, rv w_NONE, iv (0 : Int32), iv (0 : Int32), rv b112, rv a2_119, iv (0 : Int32), iv (1 : Int32)] [(.int (1 : Int32))])) _
          refine XS.goto X136.here hx rfl (pc0 := 108) (pc' := 112) rfl (hb hby at_108) (by decide) (by decide) ?_
          show Steps p.tables e below (T136.setTop (mkF m 112 #[iv p1, iv p2, rv w_NONE, iv (0 : Int32), iv (0 : Int32), rv b112, rv a2_119, iv (0 : Int32), iv (1 : Int32)] [(.int (1 : Int32))])) _
          exact k
        obtain ⟨fs, hr, hrun, hended, hRW⟩ := Stand.leaveW (s := s) (vm₁ := T131.vm) X136 hS131 (by rw [e136]; exact (Nat.le_trans hk131 (Nat.le_refl _))) (v := some (.int (1 : Int32))) (fun h => by rw [Bd.returns] at h; cases h)
        have RF : CHr Z own_EL s.vm h0 T136.vm h131 := R131.trans (CHv.at (s := s) (vm0 := T131.vm) X136 hZ (own_EW hw) R131.1)
        refine ⟨_, _, k139 _ (retN X136 hx (t := .boolean) Bd.returns (by simp) (hb hby at_112) hr), hrun, hended, _, _, rfl, ?_, (by show CHr Z own_EL s.vm s.heap T136.vm T136.heap; rw [hh, e136]; exact RF), own_rw hRW (by decide) (by decide)⟩
        show Q_law_met Z w_NONE w_VIEW w_EDIT wCS p1 p2 h0 n0 _ T136.heap _
        rw [e136]
        exact ⟨rfl, N136⟩
  · have k140 : Way p e below S0 T2 (mkF m 5 #[iv p1, iv p2, rv w_VIEW, .unset, .unset, .unset, .unset, .unset, .unset] []) := by have q := k4; rw [hl2] at q; exact q
    have k142 : Way p e below S0 T2 (mkF m 8 #[iv p1, iv p2, rv w_VIEW, .unset, .unset, .unset, .unset, .unset, .unset] [(.int (p2 &&& (1 : Int32)))]) := by
      intro t k
      refine k140 t ?_
      refine XS.iloadN X2.here hx rfl (hb hby at_5) rfl ?_
      show Steps p.tables e below (T2.setTop (mkF m 6 #[iv p1, iv p2, rv w_VIEW, .unset, .unset, .unset, .unset, .unset, .unset] [(.int p2)])) _
      refine XS.iconst X2.here hx rfl (hb hby at_6) ?_
      show Steps p.tables e below (T2.setTop (mkF m 7 #[iv p1, iv p2, rv w_VIEW, .unset, .unset, .unset, .unset, .unset, .unset] [(.int (1 : Int32)), (.int p2)])) _
      refine XS.iand X2.here hx rfl (hb hby at_7) rfl ?_
      show Steps p.tables e below (T2.setTop (mkF m 8 #[iv p1, iv p2, rv w_VIEW, .unset, .unset, .unset, .unset, .unset, .unset] [(.int (p2 &&& (1 : Int32)))])) _
      exact k
    by_cases hc141 : (p2 &&& (1 : Int32)) = (0 : Int32)
    · have k144 : Way p e below S0 T2 (mkF m 20 #[iv p1, iv p2, rv w_VIEW, iv (0 : Int32), .unset, .unset, .unset, .unset, .unset] [(.int (p2 &&& (2 : Int32)))]) := by
        intro t k
        refine k142 t ?_
        refine XS.ifYes X2.here hx rfl (pc0 := 8) (pc' := 15) rfl (hb hby at_8) rfl ((if0 _ _).trans (teq (hc141 : (p2 &&& (1 : Int32)) = (0 : Int32))).1) (by decide) (by decide) ?_
        show Steps p.tables e below (T2.setTop (mkF m 15 #[iv p1, iv p2, rv w_VIEW, .unset, .unset, .unset, .unset, .unset, .unset] [])) _
        refine XS.iconst X2.here hx rfl (hb hby at_15) ?_
        show Steps p.tables e below (T2.setTop (mkF m 16 #[iv p1, iv p2, rv w_VIEW, .unset, .unset, .unset, .unset, .unset, .unset] [(.int (0 : Int32))])) _
        refine XS.istoreN X2.here hx rfl (hb hby at_16) rfl (l' := #[iv p1, iv p2, rv w_VIEW, iv (0 : Int32), .unset, .unset, .unset, .unset, .unset]) rfl ?_
        show Steps p.tables e below (T2.setTop (mkF m 17 #[iv p1, iv p2, rv w_VIEW, iv (0 : Int32), .unset, .unset, .unset, .unset, .unset] [])) _
        refine XS.iloadN X2.here hx rfl (hb hby at_17) rfl ?_
        show Steps p.tables e below (T2.setTop (mkF m 18 #[iv p1, iv p2, rv w_VIEW, iv (0 : Int32), .unset, .unset, .unset, .unset, .unset] [(.int p2)])) _
        refine XS.iconst X2.here hx rfl (hb hby at_18) ?_
        show Steps p.tables e below (T2.setTop (mkF m 19 #[iv p1, iv p2, rv w_VIEW, iv (0 : Int32), .unset, .unset, .unset, .unset, .unset] [(.int (2 : Int32)), (.int p2)])) _
        refine XS.iand X2.here hx rfl (hb hby at_19) rfl ?_
        show Steps p.tables e below (T2.setTop (mkF m 20 #[iv p1, iv p2, rv w_VIEW, iv (0 : Int32), .unset, .unset, .unset, .unset, .unset] [(.int (p2 &&& (2 : Int32)))])) _
        exact k
      by_cases hc143 : (p2 &&& (2 : Int32)) = (0 : Int32)
      · have k145 : Way p e below S0 T2 (mkF m 31 #[iv p1, iv p2, rv w_VIEW, iv (0 : Int32), iv (0 : Int32), .unset, .unset, .unset, .unset] [(.ref w_VIEW)]) := by
          intro t k
          refine k144 t ?_
          refine XS.ifYes X2.here hx rfl (pc0 := 20) (pc' := 27) rfl (hb hby at_20) rfl ((if0 _ _).trans (teq (hc143 : (p2 &&& (2 : Int32)) = (0 : Int32))).1) (by decide) (by decide) ?_
          show Steps p.tables e below (T2.setTop (mkF m 27 #[iv p1, iv p2, rv w_VIEW, iv (0 : Int32), .unset, .unset, .unset, .unset, .unset] [])) _
          refine XS.iconst X2.here hx rfl (hb hby at_27) ?_
          show Steps p.tables e below (T2.setTop (mkF m 28 #[iv p1, iv p2, rv w_VIEW, iv (0 : Int32), .unset, .unset, .unset, .unset, .unset] [(.int (0 : Int32))])) _
          refine XS.istore X2.here hx rfl (hb hby at_28) rfl (l' := #[iv p1, iv p2, rv w_VIEW, iv (0 : Int32), iv (0 : Int32), .unset, .unset, .unset, .unset]) rfl ?_
          show Steps p.tables e below (T2.setTop (mkF m 30 #[iv p1, iv p2, rv w_VIEW, iv (0 : Int32), iv (0 : Int32), .unset, .unset, .unset, .unset] [])) _
          refine XS.aloadN X2.here hx rfl (hb hby at_30) rfl rfl ?_
          show Steps p.tables e below (T2.setTop (mkF m 31 #[iv p1, iv p2, rv w_VIEW, iv (0 : Int32), iv (0 : Int32), .unset, .unset, .unset, .unset] [(.ref w_VIEW)])) _
          exact k
        obtain ⟨T146, X146, e146, st146⟩ := getS2 X2 hx hZ hown (host := "") (Or.inl (hw _ (List.mem_of_getElem? (i := 5) rfl))) Via.refl e2 (S_w_NONE.ext O0.2) (g := (mkF m 31 #[iv p1, iv p2, rv w_VIEW, iv (0 : Int32), iv (0 : Int32), .unset, .unset, .unset, .unset] [(.ref w_VIEW)])) rfl (hb hby at_31)
        have k147 : Way p e below S0 T146 (mkF m 34 #[iv p1, iv p2, rv w_VIEW, iv (0 : Int32), iv (0 : Int32), .unset, .unset, .unset, .unset] [(.ref w_NONE), (.ref w_VIEW)]) := fun t k => k145 t (st146 _ k)
        have k148 : Way p e below S0 T146 (mkF m 42 #[iv p1, iv p2, rv w_VIEW, iv (0 : Int32), iv (0 : Int32), .unset, .unset, .unset, .unset] []) := by
          intro t k
          refine k147 t ?_
          refine Jvm.RoadKit.acmp (g := (mkF m 34 #[iv p1, iv p2, rv w_VIEW, iv (0 : Int32), iv (0 : Int32), .unset, .unset, .unset, .unset] [(.ref w_NONE), (.ref w_VIEW)])) X146 hx rfl rfl rfl (pc0 := 34) (pc' := 42) (same := false) rfl (hb hby at_34) rfl (decide_eq_false fun q => absurd (Value.ref.inj q) (F_w_VIEW_ordinal.ne F_w_NONE_ordinal (by decide))) (by decide) (by decide) ?_
          show Steps p.tables e below (T146.setTop (mkF m 42 #[iv p1, iv p2, rv w_VIEW, iv (0 : Int32), iv (0 : Int32), .unset, .unset, .unset, .unset] [])) _
          exact k
        obtain ⟨T149, h149, X149, e149, E149, A149, D149, U149, st149⟩ := newO X146 hx hZ hown (hw _ (List.mem_of_getElem? (i := 8) rfl)) (hw _ (List.mem_of_getElem? (i := 9) rfl)) (hw _ (List.mem_of_getElem? (i := 10) rfl)) e146 (g := (mkF m 42 #[iv p1, iv p2, rv w_VIEW, iv (0 : Int32), iv (0 : Int32), .unset, .unset, .unset, .unset] [])) rfl (hb hby at_42) (by decide) (by decide)
        obtain ⟨b149, g149⟩ : ∃ z, z = h0.size := ⟨_, rfl⟩
        rw [← g149] at A149 D149 U149 st149
        have R149 : CHr Z own_EL s.vm h0 s.vm h149 := R0.trans (CHr.ext E149 R0.1)
        have O149 := O0.ext E149
        have i149_level : Fld Z h149 b149 "caseward/policy/Access" "level" "Lcaseward/policy/Access$Level;" .null := D149 (Or.inr (hw _ (List.mem_of_getElem? (i := 24) rfl))) (ty := (.object "caseward/policy/Access$Level")) (by decide)
        have i149_pii : Fld Z h149 b149 "caseward/policy/Access" "pii" "Z" (.int (0 : Int32)) := D149 (Or.inr (hw _ (List.mem_of_getElem? (i := 26) rfl))) (ty := .boolean) (by decide)
        have i149_unblinded : Fld Z h149 b149 "caseward/policy/Access" "unblinded" "Z" (.int (0 : Int32)) := D149 (Or.inr (hw _ (List.mem_of_getElem? (i := 28) rfl))) (ty := .boolean) (by decide)
        have k150 : Way p e below S0 T149 (mkF m 45 #[iv p1, iv p2, rv w_VIEW, iv (0 : Int32), iv (0 : Int32), .unset, .unset, .unset, .unset] [(.ref b149)]) := fun t k => k148 t (st149 _ k)
        have k151 : Way p e below S0 T149 (mkF m 50 #[iv p1, iv p2, rv w_VIEW, iv (0 : Int32), iv (0 : Int32), .unset, .unset, .unset, .unset] [(.int (0 : Int32)), (.int (0 : Int32)), (.ref w_VIEW), (.ref b149), (.ref b149)]) := by
          intro t k
          refine k150 t ?_
          refine XS.dup X149.here hx rfl (hb hby at_45) rfl rfl ?_
          show Steps p.tables e below (T149.setTop (mkF m 46 #[iv p1, iv p2, rv w_VIEW, iv (0 : Int32), iv (0 : Int32), .unset, .unset, .unset, .unset] [(.ref b149), (.ref b149)])) _
          refine XS.aloadN X149.here hx rfl (hb hby at_46) rfl rfl ?_
          show Steps p.tables e below (T149.setTop (mkF m 47 #[iv p1, iv p2, rv w_VIEW, iv (0 : Int32), iv (0 : Int32), .unset, .unset, .unset, .unset] [(.ref w_VIEW), (.ref b149), (.ref b149)])) _
          refine XS.iloadN X149.here hx rfl (hb hby at_47) rfl ?_
          show Steps p.tables e below (T149.setTop (mkF m 48 #[iv p1, iv p2, rv w_VIEW, iv (0 : Int32), iv (0 : Int32), .unset, .unset, .unset, .unset] [(.int (0 : Int32)), (.ref w_VIEW), (.ref b149), (.ref b149)])) _
          refine XS.iload X149.here hx rfl (hb hby at_48) rfl ?_
          show Steps p.tables e below (T149.setTop (mkF m 50 #[iv p1, iv p2, rv w_VIEW, iv (0 : Int32), iv (0 : Int32), .unset, .unset, .unset, .unset] [(.int (0 : Int32)), (.int (0 : Int32)), (.ref w_VIEW), (.ref b149), (.ref b149)])) _
          exact k
        have ge152 : n0 ≤ b149 := Nat.le_trans (own_old O0) (Nat.le_of_eq g149.symm)
        obtain ⟨_, _, ⟨T153, L153, kk153, nn153⟩, -, X153, ⟨Lc153, hQ153, l153, y153, z153⟩, st153⟩ := X149.specialBack hx (y := (⟨"caseward/policy/Access", "<init>", "(Lcaseward/policy/Access$Level;ZZ)V"⟩ : MethodName)) rfl hown (mvT hZ (hw _ (List.mem_of_getElem? (i := 11) rfl))) (mvT hZ (hw _ (List.mem_of_getElem? (i := 12) rfl))) (mvT hZ (hw _ (List.mem_of_getElem? (i := 13) rfl))) (by decide) (backOf (W := 1) (init_VIEW00 l Z a0 hw [] w_NONE w_VIEW w_EDIT wCS G b149 h149 n0 O149 (A149 : Exa Z h149 b149 "caseward/policy/Access") (i149_level : Fld Z h149 b149 "caseward/policy/Access" "level" "Lcaseward/policy/Access$Level;" .null) (i149_pii : Fld Z h149 b149 "caseward/policy/Access" "pii" "Z" (.int (0 : Int32))) (i149_unblinded : Fld Z h149 b149 "caseward/policy/Access" "unblinded" "Z" (.int (0 : Int32))) (ge152 : n0 ≤ b149)) hZ (hw _ (List.mem_of_getElem? (i := 13) rfl)) (hw _ (List.mem_of_getElem? (i := 10) rfl)) (by decide) (by decide)) (g := (mkF m 50 #[iv p1, iv p2, rv w_VIEW, iv (0 : Int32), iv (0 : Int32), .unset, .unset, .unset, .unset] [(.int (0 : Int32)), (.int (0 : Int32)), (.ref w_VIEW), (.ref b149), (.ref b149)])) rfl (by rw [hml]; rfl) (Steps.refl _) (a := b149) (argsL := [(.ref w_VIEW), (.int (0 : Int32)), (.int (0 : Int32))]) (rest := [(.ref b149)]) (lenOf pd_3 rfl) rfl (by show 2 * 0 + _ ≤ _; exact Nat.le_of_eq rfl) (hb hby at_50) (fun _ _ => ⟨rfl, e149, (by decide : 1 + 0 ≤ _), (by decide : 3 + 0 ≤ _)⟩)
        dsimp only [Pt.U, Pt.locs, Pt.cells, Pt.slots] at X153 l153 y153 z153 st153 hQ153
        subst l153 y153 z153
        obtain ⟨rfl, Nq153, Kq153, po153_0, po153_1⟩ := hQ153
        have N153 := Fr.app N2 Nq153
        have O153 := O149.keep Kq153 (allS ge152 all0)
        have R153 : CHr Z own_EL s.vm h0 s.vm T153.heap := R149.trans (CHr.keep Kq153 (sfS (Safe.exa hZ.alike A149 (by decide) (by decide)) sf0) R149.1)
        have k154 : Way p e below S0 T153 (mkF m 53 #[iv p1, iv p2, rv w_VIEW, iv (0 : Int32), iv (0 : Int32), .unset, .unset, .unset, .unset] [(.ref b149)]) := fun t k => k151 t (st153.trans k)
        have k155 : Way p e below S0 T153 (mkF m 57 #[iv p1, iv p2, rv w_VIEW, iv (0 : Int32), iv (0 : Int32), rv b149, .unset, .unset, .unset] [(.ref b149)]) := by
          intro t k
          refine k154 t ?_
          refine XS.astore X153.here hx rfl (hb hby at_53) rfl rfl (l' := #[iv p1, iv p2, rv w_VIEW, iv (0 : Int32), iv (0 : Int32), rv b149, .unset, .unset, .unset]) rfl ?_
          show Steps p.tables e below (T153.setTop (mkF m 55 #[iv p1, iv p2, rv w_VIEW, iv (0 : Int32), iv (0 : Int32), rv b149, .unset, .unset, .unset] [])) _
          refine XS.aload X153.here hx rfl (hb hby at_55) rfl rfl ?_
          show Steps p.tables e below (T153.setTop (mkF m 57 #[iv p1, iv p2, rv w_VIEW, iv (0 : Int32), iv (0 : Int32), rv b149, .unset, .unset, .unset] [(.ref b149)])) _
          exact k
        obtain ⟨cq156, kq156, qq156a, qq156b, qq156c⟩ := isOf hZ rfl po153_0
        obtain ⟨_, _, ⟨T156, L156, kk156, nn156⟩, -, Xr156, hSr156, hgr156, ⟨Lc156, hQ156, l156, y156, z156, Rr156⟩, st156⟩ := X153.virtualBackS hx (y := (⟨"caseward/policy/Access", "piiWord", "()Ljava/lang/String;"⟩ : MethodName)) (z := (⟨"caseward/policy/Access", "piiWord", "()Ljava/lang/String;"⟩ : MethodName)) hown (mvT hZ (hw _ (List.mem_of_getElem? (i := 29) rfl))) (mvT hZ (hw _ (List.mem_of_getElem? (i := 30) rfl))) (notFace_of_selects (args := #[]) (mvT hZ (hw _ (List.mem_of_getElem? (i := 32) rfl)))) (mvT hZ (hw _ (List.mem_of_getElem? (i := 32) rfl))) (mvT hZ (hw _ (List.mem_of_getElem? (i := 31) rfl))) (by decide) (backOfSH (s := s) (vm0 := s.vm) (W := 0) (piiWord0 l Z a0 hw [] w_NONE w_VIEW w_EDIT wCS G b149 T153.heap n0 O153 (po153_1 : Fld Z T153.heap b149 "caseward/policy/Access" "pii" "Z" (.int (0 : Int32)))) hZ (hw _ (List.mem_of_getElem? (i := 33) rfl)) (hw _ (List.mem_of_getElem? (i := 10) rfl)) (by decide) (by decide) (own_EW hw) R153.1) qq156a qq156c (g := (mkF m 57 #[iv p1, iv p2, rv w_VIEW, iv (0 : Int32), iv (0 : Int32), rv b149, .unset, .unset, .unset] [(.ref b149)])) rfl (by rw [hml]; rfl) (Steps.refl _) (argsL := []) (rest := []) (lenOf pd_4 rfl) rfl (by show 2 * 0 + _ ≤ _; exact Nat.le_of_eq rfl) (hb hby at_57) (fun _ _ => ⟨rfl, rfl, (by decide : 1 + 2 ≤ _), (by decide : 3 + 28 ≤ _)⟩)
        dsimp only [Pt.U, Pt.locs, Pt.cells, Pt.slots] at Xr156 hSr156 hgr156 l156 y156 z156 st156 hQ156 Rr156
        subst l156 y156 z156
        obtain ⟨X156, hS156, hZ156, ho156⟩ := rebS (s := s) (vm0 := s.vm) hS0 (Nat.zero_le _) Xr156 hSr156 hgr156 hZ hown
        have hZ := hZ156
        have hown := ho156
        obtain ⟨a2_156, a3_156, kk1_156, rfl, Nq156, Kq156, po156_0, po156_1, po156_2, po156_3⟩ := hQ156
        have N156 := Fr.app N153 Nq156
        have O156 := O153.keep Kq156 all0
        have R156 : CHr Z own_EL s.vm h0 T156.vm T156.heap := R153.trans Rr156
        have k157 : Way p e below S0 T156 (mkF m 60 #[iv p1, iv p2, rv w_VIEW, iv (0 : Int32), iv (0 : Int32), rv b149, .unset, .unset, .unset] [(.ref a2_156)]) := fun t k => k155 t (st156.trans k)
        have k158 : Way p e below S0 T156 (mkF m 71 #[iv p1, iv p2, rv w_VIEW, iv (0 : Int32), iv (0 : Int32), rv b149, rv a2_156, .unset, .unset] [(.ref a2_156)]) := by
          intro t k
          refine k157 t ?_
          refine XS.astore X156.here hx rfl (hb hby at_60) rfl rfl (l' := #[iv p1, iv p2, rv w_VIEW, iv (0 : Int32), iv (0 : Int32), rv b149, rv a2_156, .unset, .unset]) rfl ?_
          show Steps p.tables e below (T156.setTop (mkF m 62 #[iv p1, iv p2, rv w_VIEW, iv (0 : Int32), iv (0 : Int32), rv b149, rv a2_156, .unset, .unset] [])) _
          refine XS.aload X156.here hx rfl (hb hby at_62) rfl rfl ?_
          show Steps p.tables e below (T156.setTop (mkF m 64 #[iv p1, iv p2, rv w_VIEW, iv (0 : Int32), iv (0 : Int32), rv b149, rv a2_156, .unset, .unset] [(.ref a2_156)])) _
          refine XS.ifnonnullYes X156.here hx rfl (pc0 := 64) (pc' := 69) rfl (hb hby at_64) rfl (by decide) (by decide) ?_
          show Steps p.tables e below (T156.setTop (mkF m 69 #[iv p1, iv p2, rv w_VIEW, iv (0 : Int32), iv (0 : Int32), rv b149, rv a2_156, .unset, .unset] [])) _
          refine XS.aload X156.here hx rfl (hb hby at_69) rfl rfl ?_
          show Steps p.tables e below (T156.setTop (mkF m 71 #[iv p1, iv p2, rv w_VIEW, iv (0 : Int32), iv (0 : Int32), rv b149, rv a2_156, .unset, .unset] [(.ref a2_156)])) _
          exact k
        obtain ⟨la159, T159, h159, ks159, lb159, lk159, X159, e159, E159, hS159, hk159, hZ159, ho159, Fe159, Fc159, Fv159, Va159, -, -, Rr159, Li159, Sa159, st159⟩ := ldcCH (s := s) (vm0 := T156.vm) (EL := own_EL) X156 hx hZ hown (hw _ (List.mem_of_getElem? (i := 42) rfl)) (own_strW hw) rfl hS156 (Nat.le_trans (Nat.le_refl _) (Nat.le_refl _)) (own_EW hw) (by decide) R156.1 (vs := [(.int (117 : Int32)), (.int (110 : Int32)), (.int (109 : Int32)), (.int (97 : Int32)), (.int (115 : Int32)), (.int (107 : Int32)), (.int (101 : Int32)), (.int (100 : Int32))]) (z := (8 : Int32)) ⟨by decide, by decide⟩ (by decide) (by decide) (g := (mkF m 71 #[iv p1, iv p2, rv w_VIEW, iv (0 : Int32), iv (0 : Int32), rv b149, rv a2_156, .unset, .unset] [(.ref a2_156)])) rfl (hb hby at_71) (n := 32) (by decide) (by decide) (by decide) (by decide)
        have hZ := hZ159
        have hown := ho159
        have R159 : CHr Z own_EL s.vm h0 T159.vm h159 := R156.trans Rr159
        have O159 := O156.ext E159
        have k160 : Way p e below S0 T159 (mkF m 73 #[iv p1, iv p2, rv w_VIEW, iv (0 : Int32), iv (0 : Int32), rv b149, rv a2_156, .unset, .unset] [(.ref la159), (.ref a2_156)]) := fun t k => k158 t (st159 _ k)
        have f161 : Fld Z h159 a2_156 "java/lang/String" "value" "[B" (.ref a3_156) := (po156_2.ext E159)
        have f162 : Arv Z h159 a3_156 kk1_156 .byte (6 : Int32) [(.int (109 : Int32)), (.int (97 : Int32)), (.int (115 : Int32)), (.int (107 : Int32)), (.int (101 : Int32)), (.int (100 : Int32))] (.int (0 : Int32)) := (po156_3.ext E159)
        have f163 : Fld Z h159 a2_156 "java/lang/String" "coder" "B" (.int (0 : Int32)) := (po156_1.ext E159)
        have f165 : Exa Z h159 a2_156 "java/lang/String" := (po156_0.ext E159)
        obtain ⟨cq164, kq164, qq164a, qq164b, qq164c⟩ := isOf hZ e159 f165
        obtain ⟨_, _, ⟨T164, L164, kk164, nn164⟩, -, X164, ⟨Lc164, hQ164, l164, y164, z164⟩, st164⟩ := X159.virtualBack hx (y := (⟨"java/lang/String", "equals", "(Ljava/lang/Object;)Z"⟩ : MethodName)) (z := (⟨"java/lang/String", "equals", "(Ljava/lang/Object;)Z"⟩ : MethodName)) hown (mvT hZ (hw _ (List.mem_of_getElem? (i := 43) rfl))) (mvT hZ (hw _ (List.mem_of_getElem? (i := 44) rfl))) (notFace_of_selects (args := #[]) (mvT hZ (hw _ (List.mem_of_getElem? (i := 46) rfl)))) (mvT hZ (hw _ (List.mem_of_getElem? (i := 46) rfl))) (mvT hZ (hw _ (List.mem_of_getElem? (i := 45) rfl))) (by decide) (backOf (W := 0) (seq01 l Z a0 hw [] w_NONE w_VIEW w_EDIT wCS G a2_156 la159 a3_156 lb159 kk1_156 lk159 h159 n0 O159 (f163 : Fld Z h159 a2_156 "java/lang/String" "coder" "B" (.int (0 : Int32))) (f161 : Fld Z h159 a2_156 "java/lang/String" "value" "[B" (.ref a3_156)) (f162 : Arv Z h159 a3_156 kk1_156 .byte (6 : Int32) [(.int (109 : Int32)), (.int (97 : Int32)), (.int (115 : Int32)), (.int (107 : Int32)), (.int (101 : Int32)), (.int (100 : Int32))] (.int (0 : Int32))) (Fe159 : Exa Z h159 la159 "java/lang/String") (Fc159 : Fld Z h159 la159 "java/lang/String" "coder" "B" (.int (0 : Int32))) (Fv159 : Fld Z h159 la159 "java/lang/String" "value" "[B" (.ref lb159)) (Va159 : Arv Z h159 lb159 lk159 .byte (8 : Int32) [(.int (117 : Int32)), (.int (110 : Int32)), (.int (109 : Int32)), (.int (97 : Int32)), (.int (115 : Int32)), (.int (107 : Int32)), (.int (101 : Int32)), (.int (100 : Int32))] (.int (0 : Int32))) (Fld.ne f161 Fv159 (fun q => absurd (Value.ref.inj q) (arv_ne f162 Va159 (Or.inl (by decide)))) : a2_156 ≠ la159)) hZ (hw _ (List.mem_of_getElem? (i := 47) rfl)) (hw _ (List.mem_of_getElem? (i := 35) rfl)) (by decide) (by decide)) qq164a qq164c (g := (mkF m 73 #[iv p1, iv p2, rv w_VIEW, iv (0 : Int32), iv (0 : Int32), rv b149, rv a2_156, .unset, .unset] [(.ref la159), (.ref a2_156)])) rfl (by rw [hml]; rfl) (Steps.refl _) (argsL := [(.ref la159)]) (rest := []) (lenOf pd_5 rfl) rfl (by show 2 * 0 + _ ≤ _; exact Nat.le_of_eq rfl) (hb hby at_73) (fun _ _ => ⟨rfl, e159, (by decide : 5 + 0 ≤ _), (by decide : 67 + 0 ≤ _)⟩)
        dsimp only [Pt.U, Pt.locs, Pt.cells, Pt.slots] at X164 l164 y164 z164 st164 hQ164
        subst l164 y164 z164
        obtain ⟨rfl, Nq164, e164⟩ := hQ164
        have N164 := Fr.app N156 Nq164
        have k166 : Way p e below S0 T164 (mkF m 76 #[iv p1, iv p2, rv w_VIEW, iv (0 : Int32), iv (0 : Int32), rv b149, rv a2_156, .unset, .unset] [(.int (0 : Int32))]) := fun t k => k160 t (st164.trans k)
        have k167 : Way p e below S0 T164 (mkF m 80 #[iv p1, iv p2, rv w_VIEW, iv (0 : Int32), iv (0 : Int32), rv b149, rv a2_156, iv (0 : Int32), .unset] [(.ref a2_156)]) := by
          intro t k
          refine k166 t ?_
          refine XS.istore X164.here hx rfl (hb hby at_76) rfl (l' := #[iv p1, iv p2, rv w_VIEW, iv (0 : Int32), iv (0 : Int32), rv b149, rv a2_156, iv (0 : Int32), .unset]) rfl ?_
          show Steps p.tables e below (T164.setTop (mkF m 78 #[iv p1, iv p2, rv w_VIEW, iv (0 : Int32), iv (0 : Int32), rv b149, rv a2_156, iv (0 : Int32), .unset] [])) _
          refine XS.aload X164.here hx rfl (hb hby at_78) rfl rfl ?_
          show Steps p.tables e below (T164.setTop (mkF m 80 #[iv p1, iv p2, rv w_VIEW, iv (0 : Int32), iv (0 : Int32), rv b149, rv a2_156, iv (0 : Int32), .unset] [(.ref a2_156)])) _
          exact k
        obtain ⟨la168, T168, h168, ks168, lb168, lk168, X168, e168, E168, hS168, hk168, hZ168, ho168, Fe168, Fc168, Fv168, Va168, -, -, Rr168, Li168, Sa168, st168⟩ := ldcCH (s := s) (vm0 := T159.vm) (EL := own_EL) X164 hx hZ hown (hw _ (List.mem_of_getElem? (i := 57) rfl)) (own_strW hw) e164 hS159 (Nat.le_trans hk159 (Nat.le_refl _)) (own_EW hw) (by decide) R159.1 (vs := [(.int (109 : Int32)), (.int (97 : Int32)), (.int (115 : Int32)), (.int (107 : Int32)), (.int (101 : Int32)), (.int (100 : Int32))]) (z := (6 : Int32)) ⟨by decide, by decide⟩ (by decide) (by decide) (g := (mkF m 80 #[iv p1, iv p2, rv w_VIEW, iv (0 : Int32), iv (0 : Int32), rv b149, rv a2_156, iv (0 : Int32), .unset] [(.ref a2_156)])) rfl (hb hby at_80) (n := 24) (by decide) (by decide) (by decide) (by decide)
        have hZ := hZ168
        have hown := ho168
        have R168 : CHr Z own_EL s.vm h0 T168.vm h168 := R159.trans Rr168
        have O168 := O159.ext E168
        have k169 : Way p e below S0 T168 (mkF m 82 #[iv p1, iv p2, rv w_VIEW, iv (0 : Int32), iv (0 : Int32), rv b149, rv a2_156, iv (0 : Int32), .unset] [(.ref la168), (.ref a2_156)]) := fun t k => k167 t (st168 _ k)
        have f170 : Fld Z h168 a2_156 "java/lang/String" "coder" "B" (.int (0 : Int32)) := (f163.ext E168)
        have f171 : Fld Z h168 a2_156 "java/lang/String" "value" "[B" (.ref a3_156) := (f161.ext E168)
        have f172 : Arv Z h168 a3_156 kk1_156 .byte (6 : Int32) [(.int (109 : Int32)), (.int (97 : Int32)), (.int (115 : Int32)), (.int (107 : Int32)), (.int (101 : Int32)), (.int (100 : Int32))] (.int (0 : Int32)) := (f162.ext E168)
        have f174 : Exa Z h168 a2_156 "java/lang/String" := (f165.ext E168)
        obtain ⟨cq173, kq173, qq173a, qq173b, qq173c⟩ := isOf hZ e168 f174
        obtain ⟨_, _, ⟨T173, L173, kk173, nn173⟩, -, X173, ⟨Lc173, hQ173, l173, y173, z173⟩, st173⟩ := X168.virtualBack hx (y := (⟨"java/lang/String", "equals", "(Ljava/lang/Object;)Z"⟩ : MethodName)) (z := (⟨"java/lang/String", "equals", "(Ljava/lang/Object;)Z"⟩ : MethodName)) hown (mvT hZ (hw _ (List.mem_of_getElem? (i := 43) rfl))) (mvT hZ (hw _ (List.mem_of_getElem? (i := 44) rfl))) (notFace_of_selects (args := #[]) (mvT hZ (hw _ (List.mem_of_getElem? (i := 46) rfl)))) (mvT hZ (hw _ (List.mem_of_getElem? (i := 46) rfl))) (mvT hZ (hw _ (List.mem_of_getElem? (i := 45) rfl))) (by decide) (backOf (W := 0) (seq00 l Z a0 hw [] w_NONE w_VIEW w_EDIT wCS G a2_156 la168 a3_156 lb168 kk1_156 lk168 h168 n0 O168 (f170 : Fld Z h168 a2_156 "java/lang/String" "coder" "B" (.int (0 : Int32))) (f171 : Fld Z h168 a2_156 "java/lang/String" "value" "[B" (.ref a3_156)) (f172 : Arv Z h168 a3_156 kk1_156 .byte (6 : Int32) [(.int (109 : Int32)), (.int (97 : Int32)), (.int (115 : Int32)), (.int (107 : Int32)), (.int (101 : Int32)), (.int (100 : Int32))] (.int (0 : Int32))) (Fe168 : Exa Z h168 la168 "java/lang/String") (Fc168 : Fld Z h168 la168 "java/lang/String" "coder" "B" (.int (0 : Int32))) (Fv168 : Fld Z h168 la168 "java/lang/String" "value" "[B" (.ref lb168)) (Va168 : Arv Z h168 lb168 lk168 .byte (6 : Int32) [(.int (109 : Int32)), (.int (97 : Int32)), (.int (115 : Int32)), (.int (107 : Int32)), (.int (101 : Int32)), (.int (100 : Int32))] (.int (0 : Int32)))) hZ (hw _ (List.mem_of_getElem? (i := 47) rfl)) (hw _ (List.mem_of_getElem? (i := 35) rfl)) (by decide) (by decide)) qq173a qq173c (g := (mkF m 82 #[iv p1, iv p2, rv w_VIEW, iv (0 : Int32), iv (0 : Int32), rv b149, rv a2_156, iv (0 : Int32), .unset] [(.ref la168), (.ref a2_156)])) rfl (by rw [hml]; rfl) (Steps.refl _) (argsL := [(.ref la168)]) (rest := []) (lenOf pd_5 rfl) rfl (by show 2 * 0 + _ ≤ _; exact Nat.le_of_eq rfl) (hb hby at_82) (fun _ _ => ⟨rfl, e168, (by decide : 7 + 0 ≤ _), (by decide : 95 + 0 ≤ _)⟩)
        dsimp only [Pt.U, Pt.locs, Pt.cells, Pt.slots] at X173 l173 y173 z173 st173 hQ173
        subst l173 y173 z173
        obtain ⟨rfl, Nq173, e173⟩ := hQ173
        have N173 := Fr.app N164 Nq173
        have k175 : Way p e below S0 T173 (mkF m 85 #[iv p1, iv p2, rv w_VIEW, iv (0 : Int32), iv (0 : Int32), rv b149, rv a2_156, iv (0 : Int32), .unset] [(.int (1 : Int32))]) := fun t k => k169 t (st173.trans k)
        have k176 : Way p e below S0 T173 (mkF m 112 #[iv p1, iv p2, rv w_VIEW, iv (0 : Int32), iv (0 : Int32), rv b149, rv a2_156, iv (0 : Int32), iv (1 : Int32)] [(.int (1 : Int32))]) := by
          intro t k
          refine k175 t ?_
          refine XS.istore X173.here hx rfl (hb hby at_85) rfl (l' := #[iv p1, iv p2, rv w_VIEW, iv (0 : Int32), iv (0 : Int32), rv b149, rv a2_156, iv (0 : Int32), iv (1 : Int32)]) rfl ?_
          show Steps p.tables e below (T173.setTop (mkF m 87 #[iv p1, iv p2, rv w_VIEW, iv (0 : Int32), iv (0 : Int32), rv b149, rv a2_156, iv (0 : Int32), iv (1 : Int32)] [])) _
          refine XS.iload X173.here hx rfl (hb hby at_87) rfl ?_
          show Steps p.tables e below (T173.setTop (mkF m 89 #[iv p1, iv p2, rv w_VIEW, iv (0 : Int32), iv (0 : Int32), rv b149, rv a2_156, iv (0 : Int32), iv (1 : Int32)] [(.int (0 : Int32))])) _
          refine XS.iloadN X173.here hx rfl (hb hby at_89) rfl ?_
          show Steps p.tables e below (T173.setTop (mkF m 90 #[iv p1, iv p2, rv w_VIEW, iv (0 : Int32), iv (0 : Int32), rv b149, rv a2_156, iv (0 : Int32), iv (1 : Int32)] [(.int (0 : Int32)), (.int (0 : Int32))])) _
          refine XS.icmpNo X173.here hx rfl (hb hby at_90) rfl (teq ((by decide) : (0 : Int32) = (0 : Int32))).2 ?_
          show Steps p.tables e below (T173.setTop (mkF m 93 #[iv p1, iv p2, rv w_VIEW, iv (0 : Int32), iv (0 : Int32), rv b149, rv a2_156, iv (0 : Int32), iv (1 : Int32)] [])) _
          refine XS.iload X173.here hx rfl (hb hby at_93) rfl ?_
          show Steps p.tables e below (T173.setTop (mkF m 95 #[iv p1, iv p2, rv w_VIEW, iv (0 : Int32), iv (0 : Int32), rv b149, rv a2_156, iv (0 : Int32), iv (1 : Int32)] [(.int (1 : Int32))])) _
          refine XS.iloadN X173.here hx rfl (hb hby at_95) rfl ?_
          show Steps p.tables e below (T173.setTop (mkF m 96 #[iv p1, iv p2, rv w_VIEW, iv (0 : Int32), iv (0 : Int32), rv b149, rv a2_156, iv (0 : Int32), iv (1 : Int32)] [(.int (0 : Int32)), (.int (1 : Int32))])) _
          refine XS.ifNo X173.here hx rfl (hb hby at_96) rfl ((if0 _ _).trans (teq ((by decide) : (0 : Int32) = (0 : Int32))).2) ?_
          show Steps p.tables e below (T173.setTop (mkF m 99 #[iv p1, iv p2, rv w_VIEW, iv (0 : Int32), iv (0 : Int32), rv b149, rv a2_156, iv (0 : Int32), iv (1 : Int32)] [(.int (1 : Int32))])) _
          refine XS.iconst X173.here hx rfl (hb hby at_99) ?_
          show Steps p.tables e below (T173.setTop (mkF m 100 #[iv p1, iv p2, rv w_VIEW, iv (0 : Int32), iv (0 : Int32), rv b149, rv a2_156, iv (0 : Int32), iv (1 : Int32)] [(.int (1 : Int32)), (.int (1 : Int32))])) _
          refine XS.goto X173.here hx rfl (pc0 := 100) (pc' := 104) rfl (hb hby at_100) (by decide) (by decide) ?_
          show Steps p.tables e below (T173.setTop (mkF m 104 #[iv p1, iv p2, rv w_VIEW, iv (0 : Int32), iv (0 : Int32), rv b149, rv a2_156, iv (0 : Int32), iv (1 : Int32)] [(.int (1 : Int32)), (.int (1 : Int32))])) _
          refine XS.icmpNo X173.here hx rfl (hb hby at_104) rfl (teq ((by decide) : (1 : Int32) = (1 : Int32))).2 ?_
          show Steps p.tables e below (T173.setTop (mkF m 107 #[iv p1, iv p2, rv w_VIEW, iv (0 : Int32), iv (0 : Int32), rv b149, rv a2_156, iv (0 : Int32), iv (1 : Int32)] [])) _
          refine XS.iconst X173.here hx rfl (hb hby at_107) ?_
          show Steps p.tables e below (T173.setTop (mkF m 108 #[iv p1, iv p2, rv w_VIEW, iv (0 : Int32), iv (0 : Int32), rv b149, rv a2_156, iv (0 : Int32), iv (1 : Int32)] [(.int (1 : Int32))])) _
          refine XS.goto X173.here hx rfl (pc0 := 108) (pc' := 112) rfl (hb hby at_108) (by decide) (by decide) ?_
          show Steps p.tables e below (T173.setTop (mkF m 112 #[iv p1, iv p2, rv w_VIEW, iv (0 : Int32), iv (0 : Int32), rv b149, rv a2_156, iv (0 : Int32), iv (1 : Int32)] [(.int (1 : Int32))])) _
          exact k
        obtain ⟨fs, hr, hrun, hended, hRW⟩ := Stand.leaveW (s := s) (vm₁ := T168.vm) X173 hS168 (by rw [e173]; exact (Nat.le_trans hk168 (Nat.le_refl _))) (v := some (.int (1 : Int32))) (fun h => by rw [Bd.returns] at h; cases h)
        have RF : CHr Z own_EL s.vm h0 T173.vm h168 := R168.trans (CHv.at (s := s) (vm0 := T168.vm) X173 hZ (own_EW hw) R168.1)
        refine ⟨_, _, k176 _ (retN X173 hx (t := .boolean) Bd.returns (by simp) (hb hby at_112) hr), hrun, hended, _, _, rfl, ?_, (by show CHr Z own_EL s.vm s.heap T173.vm T173.heap; rw [hh, e173]; exact RF), own_rw hRW (by decide) (by decide)⟩
        show Q_law_met Z w_NONE w_VIEW w_EDIT wCS p1 p2 h0 n0 _ T173.heap _
        rw [e173]
        exact ⟨rfl, N173⟩
      · have k177 : Way p e below S0 T2 (mkF m 31 #[iv p1, iv p2, rv w_VIEW, iv (0 : Int32), iv (1 : Int32), .unset, .unset, .unset, .unset] [(.ref w_VIEW)]) := by
          intro t k
          refine k144 t ?_
          refine XS.ifNo X2.here hx rfl (hb hby at_20) rfl ((if0 _ _).trans (feq (hc143 : ¬ ((p2 &&& (2 : Int32)) = (0 : Int32)))).1) ?_
          show Steps p.tables e below (T2.setTop (mkF m 23 #[iv p1, iv p2, rv w_VIEW, iv (0 : Int32), .unset, .unset, .unset, .unset, .unset] [])) _
          refine XS.iconst X2.here hx rfl (hb hby at_23) ?_
          show Steps p.tables e below (T2.setTop (mkF m 24 #[iv p1, iv p2, rv w_VIEW, iv (0 : Int32), .unset, .unset, .unset, .unset, .unset] [(.int (1 : Int32))])) _
          refine XS.goto X2.here hx rfl (pc0 := 24) (pc' := 28) rfl (hb hby at_24) (by decide) (by decide) ?_
          show Steps p.tables e below (T2.setTop (mkF m 28 #[iv p1, iv p2, rv w_VIEW, iv (0 : Int32), .unset, .unset, .unset, .unset, .unset] [(.int (1 : Int32))])) _
          refine XS.istore X2.here hx rfl (hb hby at_28) rfl (l' := #[iv p1, iv p2, rv w_VIEW, iv (0 : Int32), iv (1 : Int32), .unset, .unset, .unset, .unset]) rfl ?_
          show Steps p.tables e below (T2.setTop (mkF m 30 #[iv p1, iv p2, rv w_VIEW, iv (0 : Int32), iv (1 : Int32), .unset, .unset, .unset, .unset] [])) _
          refine XS.aloadN X2.here hx rfl (hb hby at_30) rfl rfl ?_
          show Steps p.tables e below (T2.setTop (mkF m 31 #[iv p1, iv p2, rv w_VIEW, iv (0 : Int32), iv (1 : Int32), .unset, .unset, .unset, .unset] [(.ref w_VIEW)])) _
          exact k
        obtain ⟨T178, X178, e178, st178⟩ := getS2 X2 hx hZ hown (host := "") (Or.inl (hw _ (List.mem_of_getElem? (i := 5) rfl))) Via.refl e2 (S_w_NONE.ext O0.2) (g := (mkF m 31 #[iv p1, iv p2, rv w_VIEW, iv (0 : Int32), iv (1 : Int32), .unset, .unset, .unset, .unset] [(.ref w_VIEW)])) rfl (hb hby at_31)
        have k179 : Way p e below S0 T178 (mkF m 34 #[iv p1, iv p2, rv w_VIEW, iv (0 : Int32), iv (1 : Int32), .unset, .unset, .unset, .unset] [(.ref w_NONE), (.ref w_VIEW)]) := fun t k => k177 t (st178 _ k)
        have k180 : Way p e below S0 T178 (mkF m 42 #[iv p1, iv p2, rv w_VIEW, iv (0 : Int32), iv (1 : Int32), .unset, .unset, .unset, .unset] []) := by
          intro t k
          refine k179 t ?_
          refine Jvm.RoadKit.acmp (g := (mkF m 34 #[iv p1, iv p2, rv w_VIEW, iv (0 : Int32), iv (1 : Int32), .unset, .unset, .unset, .unset] [(.ref w_NONE), (.ref w_VIEW)])) X178 hx rfl rfl rfl (pc0 := 34) (pc' := 42) (same := false) rfl (hb hby at_34) rfl (decide_eq_false fun q => absurd (Value.ref.inj q) (F_w_VIEW_ordinal.ne F_w_NONE_ordinal (by decide))) (by decide) (by decide) ?_
          show Steps p.tables e below (T178.setTop (mkF m 42 #[iv p1, iv p2, rv w_VIEW, iv (0 : Int32), iv (1 : Int32), .unset, .unset, .unset, .unset] [])) _
          exact k
        obtain ⟨T181, h181, X181, e181, E181, A181, D181, U181, st181⟩ := newO X178 hx hZ hown (hw _ (List.mem_of_getElem? (i := 8) rfl)) (hw _ (List.mem_of_getElem? (i := 9) rfl)) (hw _ (List.mem_of_getElem? (i := 10) rfl)) e178 (g := (mkF m 42 #[iv p1, iv p2, rv w_VIEW, iv (0 : Int32), iv (1 : Int32), .unset, .unset, .unset, .unset] [])) rfl (hb hby at_42) (by decide) (by decide)
        obtain ⟨b181, g181⟩ : ∃ z, z = h0.size := ⟨_, rfl⟩
        rw [← g181] at A181 D181 U181 st181
        have R181 : CHr Z own_EL s.vm h0 s.vm h181 := R0.trans (CHr.ext E181 R0.1)
        have O181 := O0.ext E181
        have i181_level : Fld Z h181 b181 "caseward/policy/Access" "level" "Lcaseward/policy/Access$Level;" .null := D181 (Or.inr (hw _ (List.mem_of_getElem? (i := 24) rfl))) (ty := (.object "caseward/policy/Access$Level")) (by decide)
        have i181_pii : Fld Z h181 b181 "caseward/policy/Access" "pii" "Z" (.int (0 : Int32)) := D181 (Or.inr (hw _ (List.mem_of_getElem? (i := 26) rfl))) (ty := .boolean) (by decide)
        have i181_unblinded : Fld Z h181 b181 "caseward/policy/Access" "unblinded" "Z" (.int (0 : Int32)) := D181 (Or.inr (hw _ (List.mem_of_getElem? (i := 28) rfl))) (ty := .boolean) (by decide)
        have k182 : Way p e below S0 T181 (mkF m 45 #[iv p1, iv p2, rv w_VIEW, iv (0 : Int32), iv (1 : Int32), .unset, .unset, .unset, .unset] [(.ref b181)]) := fun t k => k180 t (st181 _ k)
        have k183 : Way p e below S0 T181 (mkF m 50 #[iv p1, iv p2, rv w_VIEW, iv (0 : Int32), iv (1 : Int32), .unset, .unset, .unset, .unset] [(.int (1 : Int32)), (.int (0 : Int32)), (.ref w_VIEW), (.ref b181), (.ref b181)]) := by
          intro t k
          refine k182 t ?_
          refine XS.dup X181.here hx rfl (hb hby at_45) rfl rfl ?_
          show Steps p.tables e below (T181.setTop (mkF m 46 #[iv p1, iv p2, rv w_VIEW, iv (0 : Int32), iv (1 : Int32), .unset, .unset, .unset, .unset] [(.ref b181), (.ref b181)])) _
          refine XS.aloadN X181.here hx rfl (hb hby at_46) rfl rfl ?_
          show Steps p.tables e below (T181.setTop (mkF m 47 #[iv p1, iv p2, rv w_VIEW, iv (0 : Int32), iv (1 : Int32), .unset, .unset, .unset, .unset] [(.ref w_VIEW), (.ref b181), (.ref b181)])) _
          refine XS.iloadN X181.here hx rfl (hb hby at_47) rfl ?_
          show Steps p.tables e below (T181.setTop (mkF m 48 #[iv p1, iv p2, rv w_VIEW, iv (0 : Int32), iv (1 : Int32), .unset, .unset, .unset, .unset] [(.int (0 : Int32)), (.ref w_VIEW), (.ref b181), (.ref b181)])) _
          refine XS.iload X181.here hx rfl (hb hby at_48) rfl ?_
          show Steps p.tables e below (T181.setTop (mkF m 50 #[iv p1, iv p2, rv w_VIEW, iv (0 : Int32), iv (1 : Int32), .unset, .unset, .unset, .unset] [(.int (1 : Int32)), (.int (0 : Int32)), (.ref w_VIEW), (.ref b181), (.ref b181)])) _
          exact k
        have ge184 : n0 ≤ b181 := Nat.le_trans (own_old O0) (Nat.le_of_eq g181.symm)
        obtain ⟨_, _, ⟨T185, L185, kk185, nn185⟩, -, X185, ⟨Lc185, hQ185, l185, y185, z185⟩, st185⟩ := X181.specialBack hx (y := (⟨"caseward/policy/Access", "<init>", "(Lcaseward/policy/Access$Level;ZZ)V"⟩ : MethodName)) rfl hown (mvT hZ (hw _ (List.mem_of_getElem? (i := 11) rfl))) (mvT hZ (hw _ (List.mem_of_getElem? (i := 12) rfl))) (mvT hZ (hw _ (List.mem_of_getElem? (i := 13) rfl))) (by decide) (backOf (W := 1) (init_VIEW01 l Z a0 hw [] w_NONE w_VIEW w_EDIT wCS G b181 h181 n0 O181 (A181 : Exa Z h181 b181 "caseward/policy/Access") (i181_level : Fld Z h181 b181 "caseward/policy/Access" "level" "Lcaseward/policy/Access$Level;" .null) (i181_pii : Fld Z h181 b181 "caseward/policy/Access" "pii" "Z" (.int (0 : Int32))) (i181_unblinded : Fld Z h181 b181 "caseward/policy/Access" "unblinded" "Z" (.int (0 : Int32))) (ge184 : n0 ≤ b181)) hZ (hw _ (List.mem_of_getElem? (i := 13) rfl)) (hw _ (List.mem_of_getElem? (i := 10) rfl)) (by decide) (by decide)) (g := (mkF m 50 #[iv p1, iv p2, rv w_VIEW, iv (0 : Int32), iv (1 : Int32), .unset, .unset, .unset, .unset] [(.int (1 : Int32)), (.int (0 : Int32)), (.ref w_VIEW), (.ref b181), (.ref b181)])) rfl (by rw [hml]; rfl) (Steps.refl _) (a := b181) (argsL := [(.ref w_VIEW), (.int (0 : Int32)), (.int (1 : Int32))]) (rest := [(.ref b181)]) (lenOf pd_3 rfl) rfl (by show 2 * 0 + _ ≤ _; exact Nat.le_of_eq rfl) (hb hby at_50) (fun _ _ => ⟨rfl, e181, (by decide : 1 + 0 ≤ _), (by decide : 3 + 0 ≤ _)⟩)
        dsimp only [Pt.U, Pt.locs, Pt.cells, Pt.slots] at X185 l185 y185 z185 st185 hQ185
        subst l185 y185 z185
        obtain ⟨rfl, Nq185, Kq185, po185_0, po185_1⟩ := hQ185
        have N185 := Fr.app N2 Nq185
        have O185 := O181.keep Kq185 (allS ge184 all0)
        have R185 : CHr Z own_EL s.vm h0 s.vm T185.heap := R181.trans (CHr.keep Kq185 (sfS (Safe.exa hZ.alike A181 (by decide) (by decide)) sf0) R181.1)
        have k186 : Way p e below S0 T185 (mkF m 53 #[iv p1, iv p2, rv w_VIEW, iv (0 : Int32), iv (1 : Int32), .unset, .unset, .unset, .unset] [(.ref b181)]) := fun t k => k183 t (st185.trans k)
        have k187 : Way p e below S0 T185 (mkF m 57 #[iv p1, iv p2, rv w_VIEW, iv (0 : Int32), iv (1 : Int32), rv b181, .unset, .unset, .unset] [(.ref b181)]) := by
          intro t k
          refine k186 t ?_
          refine XS.astore X185.here hx rfl (hb hby at_53) rfl rfl (l' := #[iv p1, iv p2, rv w_VIEW, iv (0 : Int32), iv (1 : Int32), rv b181, .unset, .unset, .unset]) rfl ?_
          show Steps p.tables e below (T185.setTop (mkF m 55 #[iv p1, iv p2, rv w_VIEW, iv (0 : Int32), iv (1 : Int32), rv b181, .unset, .unset, .unset] [])) _
          refine XS.aload X185.here hx rfl (hb hby at_55) rfl rfl ?_
          show Steps p.tables e below (T185.setTop (mkF m 57 #[iv p1, iv p2, rv w_VIEW, iv (0 : Int32), iv (1 : Int32), rv b181, .unset, .unset, .unset] [(.ref b181)])) _
          exact k
        obtain ⟨cq188, kq188, qq188a, qq188b, qq188c⟩ := isOf hZ rfl po185_0
        obtain ⟨_, _, ⟨T188, L188, kk188, nn188⟩, -, Xr188, hSr188, hgr188, ⟨Lc188, hQ188, l188, y188, z188, Rr188⟩, st188⟩ := X185.virtualBackS hx (y := (⟨"caseward/policy/Access", "piiWord", "()Ljava/lang/String;"⟩ : MethodName)) (z := (⟨"caseward/policy/Access", "piiWord", "()Ljava/lang/String;"⟩ : MethodName)) hown (mvT hZ (hw _ (List.mem_of_getElem? (i := 29) rfl))) (mvT hZ (hw _ (List.mem_of_getElem? (i := 30) rfl))) (notFace_of_selects (args := #[]) (mvT hZ (hw _ (List.mem_of_getElem? (i := 32) rfl)))) (mvT hZ (hw _ (List.mem_of_getElem? (i := 32) rfl))) (mvT hZ (hw _ (List.mem_of_getElem? (i := 31) rfl))) (by decide) (backOfSH (s := s) (vm0 := s.vm) (W := 0) (piiWord0 l Z a0 hw [] w_NONE w_VIEW w_EDIT wCS G b181 T185.heap n0 O185 (po185_1 : Fld Z T185.heap b181 "caseward/policy/Access" "pii" "Z" (.int (0 : Int32)))) hZ (hw _ (List.mem_of_getElem? (i := 33) rfl)) (hw _ (List.mem_of_getElem? (i := 10) rfl)) (by decide) (by decide) (own_EW hw) R185.1) qq188a qq188c (g := (mkF m 57 #[iv p1, iv p2, rv w_VIEW, iv (0 : Int32), iv (1 : Int32), rv b181, .unset, .unset, .unset] [(.ref b181)])) rfl (by rw [hml]; rfl) (Steps.refl _) (argsL := []) (rest := []) (lenOf pd_4 rfl) rfl (by show 2 * 0 + _ ≤ _; exact Nat.le_of_eq rfl) (hb hby at_57) (fun _ _ => ⟨rfl, rfl, (by decide : 1 + 2 ≤ _), (by decide : 3 + 28 ≤ _)⟩)
        dsimp only [Pt.U, Pt.locs, Pt.cells, Pt.slots] at Xr188 hSr188 hgr188 l188 y188 z188 st188 hQ188 Rr188
        subst l188 y188 z188
        obtain ⟨X188, hS188, hZ188, ho188⟩ := rebS (s := s) (vm0 := s.vm) hS0 (Nat.zero_le _) Xr188 hSr188 hgr188 hZ hown
        have hZ := hZ188
        have hown := ho188
        obtain ⟨a2_188, a3_188, kk1_188, rfl, Nq188, Kq188, po188_0, po188_1, po188_2, po188_3⟩ := hQ188
        have N188 := Fr.app N185 Nq188
        have O188 := O185.keep Kq188 all0
        have R188 : CHr Z own_EL s.vm h0 T188.vm T188.heap := R185.trans Rr188
        have k189 : Way p e below S0 T188 (mkF m 60 #[iv p1, iv p2, rv w_VIEW, iv (0 : Int32), iv (1 : Int32), rv b181, .unset, .unset, .unset] [(.ref a2_188)]) := fun t k => k187 t (st188.trans k)
        have k190 : Way p e below S0 T188 (mkF m 71 #[iv p1, iv p2, rv w_VIEW, iv (0 : Int32), iv (1 : Int32), rv b181, rv a2_188, .unset, .unset] [(.ref a2_188)]) := by
          intro t k
          refine k189 t ?_
          refine XS.astore X188.here hx rfl (hb hby at_60) rfl rfl (l' := #[iv p1, iv p2, rv w_VIEW, iv (0 : Int32), iv (1 : Int32), rv b181, rv a2_188, .unset, .unset]) rfl ?_
          show Steps p.tables e below (T188.setTop (mkF m 62 #[iv p1, iv p2, rv w_VIEW, iv (0 : Int32), iv (1 : Int32), rv b181, rv a2_188, .unset, .unset] [])) _
          refine XS.aload X188.here hx rfl (hb hby at_62) rfl rfl ?_
          show Steps p.tables e below (T188.setTop (mkF m 64 #[iv p1, iv p2, rv w_VIEW, iv (0 : Int32), iv (1 : Int32), rv b181, rv a2_188, .unset, .unset] [(.ref a2_188)])) _
          refine XS.ifnonnullYes X188.here hx rfl (pc0 := 64) (pc' := 69) rfl (hb hby at_64) rfl (by decide) (by decide) ?_
          show Steps p.tables e below (T188.setTop (mkF m 69 #[iv p1, iv p2, rv w_VIEW, iv (0 : Int32), iv (1 : Int32), rv b181, rv a2_188, .unset, .unset] [])) _
          refine XS.aload X188.here hx rfl (hb hby at_69) rfl rfl ?_
          show Steps p.tables e below (T188.setTop (mkF m 71 #[iv p1, iv p2, rv w_VIEW, iv (0 : Int32), iv (1 : Int32), rv b181, rv a2_188, .unset, .unset] [(.ref a2_188)])) _
          exact k
        obtain ⟨la191, T191, h191, ks191, lb191, lk191, X191, e191, E191, hS191, hk191, hZ191, ho191, Fe191, Fc191, Fv191, Va191, -, -, Rr191, Li191, Sa191, st191⟩ := ldcCH (s := s) (vm0 := T188.vm) (EL := own_EL) X188 hx hZ hown (hw _ (List.mem_of_getElem? (i := 42) rfl)) (own_strW hw) rfl hS188 (Nat.le_trans (Nat.le_refl _) (Nat.le_refl _)) (own_EW hw) (by decide) R188.1 (vs := [(.int (117 : Int32)), (.int (110 : Int32)), (.int (109 : Int32)), (.int (97 : Int32)), (.int (115 : Int32)), (.int (107 : Int32)), (.int (101 : Int32)), (.int (100 : Int32))]) (z := (8 : Int32)) ⟨by decide, by decide⟩ (by decide) (by decide) (g := (mkF m 71 #[iv p1, iv p2, rv w_VIEW, iv (0 : Int32), iv (1 : Int32), rv b181, rv a2_188, .unset, .unset] [(.ref a2_188)])) rfl (hb hby at_71) (n := 32) (by decide) (by decide) (by decide) (by decide)
        have hZ := hZ191
        have hown := ho191
        have R191 : CHr Z own_EL s.vm h0 T191.vm h191 := R188.trans Rr191
        have O191 := O188.ext E191
        have k192 : Way p e below S0 T191 (mkF m 73 #[iv p1, iv p2, rv w_VIEW, iv (0 : Int32), iv (1 : Int32), rv b181, rv a2_188, .unset, .unset] [(.ref la191), (.ref a2_188)]) := fun t k => k190 t (st191 _ k)
        have f193 : Fld Z h191 a2_188 "java/lang/String" "value" "[B" (.ref a3_188) := (po188_2.ext E191)
        have f194 : Arv Z h191 a3_188 kk1_188 .byte (6 : Int32) [(.int (109 : Int32)), (.int (97 : Int32)), (.int (115 : Int32)), (.int (107 : Int32)), (.int (101 : Int32)), (.int (100 : Int32))] (.int (0 : Int32)) := (po188_3.ext E191)
        have f195 : Fld Z h191 a2_188 "java/lang/String" "coder" "B" (.int (0 : Int32)) := (po188_1.ext E191)
        have f197 : Exa Z h191 a2_188 "java/lang/String" := (po188_0.ext E191)
        obtain ⟨cq196, kq196, qq196a, qq196b, qq196c⟩ := isOf hZ e191 f197
        obtain ⟨_, _, ⟨T196, L196, kk196, nn196⟩, -, X196, ⟨Lc196, hQ196, l196, y196, z196⟩, st196⟩ := X191.virtualBack hx (y := (⟨"java/lang/String", "equals", "(Ljava/lang/Object;)Z"⟩ : MethodName)) (z := (⟨"java/lang/String", "equals", "(Ljava/lang/Object;)Z"⟩ : MethodName)) hown (mvT hZ (hw _ (List.mem_of_getElem? (i := 43) rfl))) (mvT hZ (hw _ (List.mem_of_getElem? (i := 44) rfl))) (notFace_of_selects (args := #[]) (mvT hZ (hw _ (List.mem_of_getElem? (i := 46) rfl)))) (mvT hZ (hw _ (List.mem_of_getElem? (i := 46) rfl))) (mvT hZ (hw _ (List.mem_of_getElem? (i := 45) rfl))) (by decide) (backOf (W := 0) (seq01 l Z a0 hw [] w_NONE w_VIEW w_EDIT wCS G a2_188 la191 a3_188 lb191 kk1_188 lk191 h191 n0 O191 (f195 : Fld Z h191 a2_188 "java/lang/String" "coder" "B" (.int (0 : Int32))) (f193 : Fld Z h191 a2_188 "java/lang/String" "value" "[B" (.ref a3_188)) (f194 : Arv Z h191 a3_188 kk1_188 .byte (6 : Int32) [(.int (109 : Int32)), (.int (97 : Int32)), (.int (115 : Int32)), (.int (107 : Int32)), (.int (101 : Int32)), (.int (100 : Int32))] (.int (0 : Int32))) (Fe191 : Exa Z h191 la191 "java/lang/String") (Fc191 : Fld Z h191 la191 "java/lang/String" "coder" "B" (.int (0 : Int32))) (Fv191 : Fld Z h191 la191 "java/lang/String" "value" "[B" (.ref lb191)) (Va191 : Arv Z h191 lb191 lk191 .byte (8 : Int32) [(.int (117 : Int32)), (.int (110 : Int32)), (.int (109 : Int32)), (.int (97 : Int32)), (.int (115 : Int32)), (.int (107 : Int32)), (.int (101 : Int32)), (.int (100 : Int32))] (.int (0 : Int32))) (Fld.ne f193 Fv191 (fun q => absurd (Value.ref.inj q) (arv_ne f194 Va191 (Or.inl (by decide)))) : a2_188 ≠ la191)) hZ (hw _ (List.mem_of_getElem? (i := 47) rfl)) (hw _ (List.mem_of_getElem? (i := 35) rfl)) (by decide) (by decide)) qq196a qq196c (g := (mkF m 73 #[iv p1, iv p2, rv w_VIEW, iv (0 : Int32), iv (1 : Int32), rv b181, rv a2_188, .unset, .unset] [(.ref la191), (.ref a2_188)])) rfl (by rw [hml]; rfl) (Steps.refl _) (argsL := [(.ref la191)]) (rest := []) (lenOf pd_5 rfl) rfl (by show 2 * 0 + _ ≤ _; exact Nat.le_of_eq rfl) (hb hby at_73) (fun _ _ => ⟨rfl, e191, (by decide : 5 + 0 ≤ _), (by decide : 67 + 0 ≤ _)⟩)
        dsimp only [Pt.U, Pt.locs, Pt.cells, Pt.slots] at X196 l196 y196 z196 st196 hQ196
        subst l196 y196 z196
        obtain ⟨rfl, Nq196, e196⟩ := hQ196
        have N196 := Fr.app N188 Nq196
        have k198 : Way p e below S0 T196 (mkF m 76 #[iv p1, iv p2, rv w_VIEW, iv (0 : Int32), iv (1 : Int32), rv b181, rv a2_188, .unset, .unset] [(.int (0 : Int32))]) := fun t k => k192 t (st196.trans k)
        have k199 : Way p e below S0 T196 (mkF m 80 #[iv p1, iv p2, rv w_VIEW, iv (0 : Int32), iv (1 : Int32), rv b181, rv a2_188, iv (0 : Int32), .unset] [(.ref a2_188)]) := by
          intro t k
          refine k198 t ?_
          refine XS.istore X196.here hx rfl (hb hby at_76) rfl (l' := #[iv p1, iv p2, rv w_VIEW, iv (0 : Int32), iv (1 : Int32), rv b181, rv a2_188, iv (0 : Int32), .unset]) rfl ?_
          show Steps p.tables e below (T196.setTop (mkF m 78 #[iv p1, iv p2, rv w_VIEW, iv (0 : Int32), iv (1 : Int32), rv b181, rv a2_188, iv (0 : Int32), .unset] [])) _
          refine XS.aload X196.here hx rfl (hb hby at_78) rfl rfl ?_
          show Steps p.tables e below (T196.setTop (mkF m 80 #[iv p1, iv p2, rv w_VIEW, iv (0 : Int32), iv (1 : Int32), rv b181, rv a2_188, iv (0 : Int32), .unset] [(.ref a2_188)])) _
          exact k
        obtain ⟨la200, T200, h200, ks200, lb200, lk200, X200, e200, E200, hS200, hk200, hZ200, ho200, Fe200, Fc200, Fv200, Va200, -, -, Rr200, Li200, Sa200, st200⟩ := ldcCH (s := s) (vm0 := T191.vm) (EL := own_EL) X196 hx hZ hown (hw _ (List.mem_of_getElem? (i := 57) rfl)) (own_strW hw) e196 hS191 (Nat.le_trans hk191 (Nat.le_refl _)) (own_EW hw) (by decide) R191.1 (vs := [(.int (109 : Int32)), (.int (97 : Int32)), (.int (115 : Int32)), (.int (107 : Int32)), (.int (101 : Int32)), (.int (100 : Int32))]) (z := (6 : Int32)) ⟨by decide, by decide⟩ (by decide) (by decide) (g := (mkF m 80 #[iv p1, iv p2, rv w_VIEW, iv (0 : Int32), iv (1 : Int32), rv b181, rv a2_188, iv (0 : Int32), .unset] [(.ref a2_188)])) rfl (hb hby at_80) (n := 24) (by decide) (by decide) (by decide) (by decide)
        have hZ := hZ200
        have hown := ho200
        have R200 : CHr Z own_EL s.vm h0 T200.vm h200 := R191.trans Rr200
        have O200 := O191.ext E200
        have k201 : Way p e below S0 T200 (mkF m 82 #[iv p1, iv p2, rv w_VIEW, iv (0 : Int32), iv (1 : Int32), rv b181, rv a2_188, iv (0 : Int32), .unset] [(.ref la200), (.ref a2_188)]) := fun t k => k199 t (st200 _ k)
        have f202 : Fld Z h200 a2_188 "java/lang/String" "coder" "B" (.int (0 : Int32)) := (f195.ext E200)
        have f203 : Fld Z h200 a2_188 "java/lang/String" "value" "[B" (.ref a3_188) := (f193.ext E200)
        have f204 : Arv Z h200 a3_188 kk1_188 .byte (6 : Int32) [(.int (109 : Int32)), (.int (97 : Int32)), (.int (115 : Int32)), (.int (107 : Int32)), (.int (101 : Int32)), (.int (100 : Int32))] (.int (0 : Int32)) := (f194.ext E200)
        have f206 : Exa Z h200 a2_188 "java/lang/String" := (f197.ext E200)
        obtain ⟨cq205, kq205, qq205a, qq205b, qq205c⟩ := isOf hZ e200 f206
        obtain ⟨_, _, ⟨T205, L205, kk205, nn205⟩, -, X205, ⟨Lc205, hQ205, l205, y205, z205⟩, st205⟩ := X200.virtualBack hx (y := (⟨"java/lang/String", "equals", "(Ljava/lang/Object;)Z"⟩ : MethodName)) (z := (⟨"java/lang/String", "equals", "(Ljava/lang/Object;)Z"⟩ : MethodName)) hown (mvT hZ (hw _ (List.mem_of_getElem? (i := 43) rfl))) (mvT hZ (hw _ (List.mem_of_getElem? (i := 44) rfl))) (notFace_of_selects (args := #[]) (mvT hZ (hw _ (List.mem_of_getElem? (i := 46) rfl)))) (mvT hZ (hw _ (List.mem_of_getElem? (i := 46) rfl))) (mvT hZ (hw _ (List.mem_of_getElem? (i := 45) rfl))) (by decide) (backOf (W := 0) (seq00 l Z a0 hw [] w_NONE w_VIEW w_EDIT wCS G a2_188 la200 a3_188 lb200 kk1_188 lk200 h200 n0 O200 (f202 : Fld Z h200 a2_188 "java/lang/String" "coder" "B" (.int (0 : Int32))) (f203 : Fld Z h200 a2_188 "java/lang/String" "value" "[B" (.ref a3_188)) (f204 : Arv Z h200 a3_188 kk1_188 .byte (6 : Int32) [(.int (109 : Int32)), (.int (97 : Int32)), (.int (115 : Int32)), (.int (107 : Int32)), (.int (101 : Int32)), (.int (100 : Int32))] (.int (0 : Int32))) (Fe200 : Exa Z h200 la200 "java/lang/String") (Fc200 : Fld Z h200 la200 "java/lang/String" "coder" "B" (.int (0 : Int32))) (Fv200 : Fld Z h200 la200 "java/lang/String" "value" "[B" (.ref lb200)) (Va200 : Arv Z h200 lb200 lk200 .byte (6 : Int32) [(.int (109 : Int32)), (.int (97 : Int32)), (.int (115 : Int32)), (.int (107 : Int32)), (.int (101 : Int32)), (.int (100 : Int32))] (.int (0 : Int32)))) hZ (hw _ (List.mem_of_getElem? (i := 47) rfl)) (hw _ (List.mem_of_getElem? (i := 35) rfl)) (by decide) (by decide)) qq205a qq205c (g := (mkF m 82 #[iv p1, iv p2, rv w_VIEW, iv (0 : Int32), iv (1 : Int32), rv b181, rv a2_188, iv (0 : Int32), .unset] [(.ref la200), (.ref a2_188)])) rfl (by rw [hml]; rfl) (Steps.refl _) (argsL := [(.ref la200)]) (rest := []) (lenOf pd_5 rfl) rfl (by show 2 * 0 + _ ≤ _; exact Nat.le_of_eq rfl) (hb hby at_82) (fun _ _ => ⟨rfl, e200, (by decide : 7 + 0 ≤ _), (by decide : 95 + 0 ≤ _)⟩)
        dsimp only [Pt.U, Pt.locs, Pt.cells, Pt.slots] at X205 l205 y205 z205 st205 hQ205
        subst l205 y205 z205
        obtain ⟨rfl, Nq205, e205⟩ := hQ205
        have N205 := Fr.app N196 Nq205
        have k207 : Way p e below S0 T205 (mkF m 85 #[iv p1, iv p2, rv w_VIEW, iv (0 : Int32), iv (1 : Int32), rv b181, rv a2_188, iv (0 : Int32), .unset] [(.int (1 : Int32))]) := fun t k => k201 t (st205.trans k)
        have k208 : Way p e below S0 T205 (mkF m 112 #[iv p1, iv p2, rv w_VIEW, iv (0 : Int32), iv (1 : Int32), rv b181, rv a2_188, iv (0 : Int32), iv (1 : Int32)] [(.int (1 : Int32))]) := by
          intro t k
          refine k207 t ?_
          refine XS.istore X205.here hx rfl (hb hby at_85) rfl (l' := #[iv p1, iv p2, rv w_VIEW, iv (0 : Int32), iv (1 : Int32), rv b181, rv a2_188, iv (0 : Int32), iv (1 : Int32)]) rfl ?_
          show Steps p.tables e below (T205.setTop (mkF m 87 #[iv p1, iv p2, rv w_VIEW, iv (0 : Int32), iv (1 : Int32), rv b181, rv a2_188, iv (0 : Int32), iv (1 : Int32)] [])) _
          refine XS.iload X205.here hx rfl (hb hby at_87) rfl ?_
          show Steps p.tables e below (T205.setTop (mkF m 89 #[iv p1, iv p2, rv w_VIEW, iv (0 : Int32), iv (1 : Int32), rv b181, rv a2_188, iv (0 : Int32), iv (1 : Int32)] [(.int (0 : Int32))])) _
          refine XS.iloadN X205.here hx rfl (hb hby at_89) rfl ?_
          show Steps p.tables e below (T205.setTop (mkF m 90 #[iv p1, iv p2, rv w_VIEW, iv (0 : Int32), iv (1 : Int32), rv b181, rv a2_188, iv (0 : Int32), iv (1 : Int32)] [(.int (0 : Int32)), (.int (0 : Int32))])) _
          refine XS.icmpNo X205.here hx rfl (hb hby at_90) rfl (teq ((by decide) : (0 : Int32) = (0 : Int32))).2 ?_
          show Steps p.tables e below (T205.setTop (mkF m 93 #[iv p1, iv p2, rv w_VIEW, iv (0 : Int32), iv (1 : Int32), rv b181, rv a2_188, iv (0 : Int32), iv (1 : Int32)] [])) _
          refine XS.iload X205.here hx rfl (hb hby at_93) rfl ?_
          show Steps p.tables e below (T205.setTop (mkF m 95 #[iv p1, iv p2, rv w_VIEW, iv (0 : Int32), iv (1 : Int32), rv b181, rv a2_188, iv (0 : Int32), iv (1 : Int32)] [(.int (1 : Int32))])) _
          refine XS.iloadN X205.here hx rfl (hb hby at_95) rfl ?_
          show Steps p.tables e below (T205.setTop (mkF m 96 #[iv p1, iv p2, rv w_VIEW, iv (0 : Int32), iv (1 : Int32), rv b181, rv a2_188, iv (0 : Int32), iv (1 : Int32)] [(.int (0 : Int32)), (.int (1 : Int32))])) _
          refine XS.ifNo X205.here hx rfl (hb hby at_96) rfl ((if0 _ _).trans (teq ((by decide) : (0 : Int32) = (0 : Int32))).2) ?_
          show Steps p.tables e below (T205.setTop (mkF m 99 #[iv p1, iv p2, rv w_VIEW, iv (0 : Int32), iv (1 : Int32), rv b181, rv a2_188, iv (0 : Int32), iv (1 : Int32)] [(.int (1 : Int32))])) _
          refine XS.iconst X205.here hx rfl (hb hby at_99) ?_
          show Steps p.tables e below (T205.setTop (mkF m 100 #[iv p1, iv p2, rv w_VIEW, iv (0 : Int32), iv (1 : Int32), rv b181, rv a2_188, iv (0 : Int32), iv (1 : Int32)] [(.int (1 : Int32)), (.int (1 : Int32))])) _
          refine XS.goto X205.here hx rfl (pc0 := 100) (pc' := 104) rfl (hb hby at_100) (by decide) (by decide) ?_
          show Steps p.tables e below (T205.setTop (mkF m 104 #[iv p1, iv p2, rv w_VIEW, iv (0 : Int32), iv (1 : Int32), rv b181, rv a2_188, iv (0 : Int32), iv (1 : Int32)] [(.int (1 : Int32)), (.int (1 : Int32))])) _
          refine XS.icmpNo X205.here hx rfl (hb hby at_104) rfl (teq ((by decide) : (1 : Int32) = (1 : Int32))).2 ?_
          show Steps p.tables e below (T205.setTop (mkF m 107 #[iv p1, iv p2, rv w_VIEW, iv (0 : Int32), iv (1 : Int32), rv b181, rv a2_188, iv (0 : Int32), iv (1 : Int32)] [])) _
          refine XS.iconst X205.here hx rfl (hb hby at_107) ?_
          show Steps p.tables e below (T205.setTop (mkF m 108 #[iv p1, iv p2, rv w_VIEW, iv (0 : Int32), iv (1 : Int32), rv b181, rv a2_188, iv (0 : Int32), iv (1 : Int32)] [(.int (1 : Int32))])) _
          refine XS.goto X205.here hx rfl (pc0 := 108) (pc' := 112) rfl (hb hby at_108) (by decide) (by decide) ?_
          show Steps p.tables e below (T205.setTop (mkF m 112 #[iv p1, iv p2, rv w_VIEW, iv (0 : Int32), iv (1 : Int32), rv b181, rv a2_188, iv (0 : Int32), iv (1 : Int32)] [(.int (1 : Int32))])) _
          exact k
        obtain ⟨fs, hr, hrun, hended, hRW⟩ := Stand.leaveW (s := s) (vm₁ := T200.vm) X205 hS200 (by rw [e205]; exact (Nat.le_trans hk200 (Nat.le_refl _))) (v := some (.int (1 : Int32))) (fun h => by rw [Bd.returns] at h; cases h)
        have RF : CHr Z own_EL s.vm h0 T205.vm h200 := R200.trans (CHv.at (s := s) (vm0 := T200.vm) X205 hZ (own_EW hw) R200.1)
        refine ⟨_, _, k208 _ (retN X205 hx (t := .boolean) Bd.returns (by simp) (hb hby at_112) hr), hrun, hended, _, _, rfl, ?_, (by show CHr Z own_EL s.vm s.heap T205.vm T205.heap; rw [hh, e205]; exact RF), own_rw hRW (by decide) (by decide)⟩
        show Q_law_met Z w_NONE w_VIEW w_EDIT wCS p1 p2 h0 n0 _ T205.heap _
        rw [e205]
        exact ⟨rfl, N205⟩
    · have k210 : Way p e below S0 T2 (mkF m 20 #[iv p1, iv p2, rv w_VIEW, iv (1 : Int32), .unset, .unset, .unset, .unset, .unset] [(.int (p2 &&& (2 : Int32)))]) := by
        intro t k
        refine k142 t ?_
        refine XS.ifNo X2.here hx rfl (hb hby at_8) rfl ((if0 _ _).trans (feq (hc141 : ¬ ((p2 &&& (1 : Int32)) = (0 : Int32)))).1) ?_
        show Steps p.tables e below (T2.setTop (mkF m 11 #[iv p1, iv p2, rv w_VIEW, .unset, .unset, .unset, .unset, .unset, .unset] [])) _
        refine XS.iconst X2.here hx rfl (hb hby at_11) ?_
        show Steps p.tables e below (T2.setTop (mkF m 12 #[iv p1, iv p2, rv w_VIEW, .unset, .unset, .unset, .unset, .unset, .unset] [(.int (1 : Int32))])) _
        refine XS.goto X2.here hx rfl (pc0 := 12) (pc' := 16) rfl (hb hby at_12) (by decide) (by decide) ?_
        show Steps p.tables e below (T2.setTop (mkF m 16 #[iv p1, iv p2, rv w_VIEW, .unset, .unset, .unset, .unset, .unset, .unset] [(.int (1 : Int32))])) _
        refine XS.istoreN X2.here hx rfl (hb hby at_16) rfl (l' := #[iv p1, iv p2, rv w_VIEW, iv (1 : Int32), .unset, .unset, .unset, .unset, .unset]) rfl ?_
        show Steps p.tables e below (T2.setTop (mkF m 17 #[iv p1, iv p2, rv w_VIEW, iv (1 : Int32), .unset, .unset, .unset, .unset, .unset] [])) _
        refine XS.iloadN X2.here hx rfl (hb hby at_17) rfl ?_
        show Steps p.tables e below (T2.setTop (mkF m 18 #[iv p1, iv p2, rv w_VIEW, iv (1 : Int32), .unset, .unset, .unset, .unset, .unset] [(.int p2)])) _
        refine XS.iconst X2.here hx rfl (hb hby at_18) ?_
        show Steps p.tables e below (T2.setTop (mkF m 19 #[iv p1, iv p2, rv w_VIEW, iv (1 : Int32), .unset, .unset, .unset, .unset, .unset] [(.int (2 : Int32)), (.int p2)])) _
        refine XS.iand X2.here hx rfl (hb hby at_19) rfl ?_
        show Steps p.tables e below (T2.setTop (mkF m 20 #[iv p1, iv p2, rv w_VIEW, iv (1 : Int32), .unset, .unset, .unset, .unset, .unset] [(.int (p2 &&& (2 : Int32)))])) _
        exact k
      by_cases hc209 : (p2 &&& (2 : Int32)) = (0 : Int32)
      · have k211 : Way p e below S0 T2 (mkF m 31 #[iv p1, iv p2, rv w_VIEW, iv (1 : Int32), iv (0 : Int32), .unset, .unset, .unset, .unset] [(.ref w_VIEW)]) := by
          intro t k
          refine k210 t ?_
          refine XS.ifYes X2.here hx rfl (pc0 := 20) (pc' := 27) rfl (hb hby at_20) rfl ((if0 _ _).trans (teq (hc209 : (p2 &&& (2 : Int32)) = (0 : Int32))).1) (by decide) (by decide) ?_
          show Steps p.tables e below (T2.setTop (mkF m 27 #[iv p1, iv p2, rv w_VIEW, iv (1 : Int32), .unset, .unset, .unset, .unset, .unset] [])) _
          refine XS.iconst X2.here hx rfl (hb hby at_27) ?_
          show Steps p.tables e below (T2.setTop (mkF m 28 #[iv p1, iv p2, rv w_VIEW, iv (1 : Int32), .unset, .unset, .unset, .unset, .unset] [(.int (0 : Int32))])) _
          refine XS.istore X2.here hx rfl (hb hby at_28) rfl (l' := #[iv p1, iv p2, rv w_VIEW, iv (1 : Int32), iv (0 : Int32), .unset, .unset, .unset, .unset]) rfl ?_
          show Steps p.tables e below (T2.setTop (mkF m 30 #[iv p1, iv p2, rv w_VIEW, iv (1 : Int32), iv (0 : Int32), .unset, .unset, .unset, .unset] [])) _
          refine XS.aloadN X2.here hx rfl (hb hby at_30) rfl rfl ?_
          show Steps p.tables e below (T2.setTop (mkF m 31 #[iv p1, iv p2, rv w_VIEW, iv (1 : Int32), iv (0 : Int32), .unset, .unset, .unset, .unset] [(.ref w_VIEW)])) _
          exact k
        obtain ⟨T212, X212, e212, st212⟩ := getS2 X2 hx hZ hown (host := "") (Or.inl (hw _ (List.mem_of_getElem? (i := 5) rfl))) Via.refl e2 (S_w_NONE.ext O0.2) (g := (mkF m 31 #[iv p1, iv p2, rv w_VIEW, iv (1 : Int32), iv (0 : Int32), .unset, .unset, .unset, .unset] [(.ref w_VIEW)])) rfl (hb hby at_31)
        have k213 : Way p e below S0 T212 (mkF m 34 #[iv p1, iv p2, rv w_VIEW, iv (1 : Int32), iv (0 : Int32), .unset, .unset, .unset, .unset] [(.ref w_NONE), (.ref w_VIEW)]) := fun t k => k211 t (st212 _ k)
        have k214 : Way p e below S0 T212 (mkF m 42 #[iv p1, iv p2, rv w_VIEW, iv (1 : Int32), iv (0 : Int32), .unset, .unset, .unset, .unset] []) := by
          intro t k
          refine k213 t ?_
          refine Jvm.RoadKit.acmp (g := (mkF m 34 #[iv p1, iv p2, rv w_VIEW, iv (1 : Int32), iv (0 : Int32), .unset, .unset, .unset, .unset] [(.ref w_NONE), (.ref w_VIEW)])) X212 hx rfl rfl rfl (pc0 := 34) (pc' := 42) (same := false) rfl (hb hby at_34) rfl (decide_eq_false fun q => absurd (Value.ref.inj q) (F_w_VIEW_ordinal.ne F_w_NONE_ordinal (by decide))) (by decide) (by decide) ?_
          show Steps p.tables e below (T212.setTop (mkF m 42 #[iv p1, iv p2, rv w_VIEW, iv (1 : Int32), iv (0 : Int32), .unset, .unset, .unset, .unset] [])) _
          exact k
        obtain ⟨T215, h215, X215, e215, E215, A215, D215, U215, st215⟩ := newO X212 hx hZ hown (hw _ (List.mem_of_getElem? (i := 8) rfl)) (hw _ (List.mem_of_getElem? (i := 9) rfl)) (hw _ (List.mem_of_getElem? (i := 10) rfl)) e212 (g := (mkF m 42 #[iv p1, iv p2, rv w_VIEW, iv (1 : Int32), iv (0 : Int32), .unset, .unset, .unset, .unset] [])) rfl (hb hby at_42) (by decide) (by decide)
        obtain ⟨b215, g215⟩ : ∃ z, z = h0.size := ⟨_, rfl⟩
        rw [← g215] at A215 D215 U215 st215
        have R215 : CHr Z own_EL s.vm h0 s.vm h215 := R0.trans (CHr.ext E215 R0.1)
        have O215 := O0.ext E215
        have i215_level : Fld Z h215 b215 "caseward/policy/Access" "level" "Lcaseward/policy/Access$Level;" .null := D215 (Or.inr (hw _ (List.mem_of_getElem? (i := 24) rfl))) (ty := (.object "caseward/policy/Access$Level")) (by decide)
        have i215_pii : Fld Z h215 b215 "caseward/policy/Access" "pii" "Z" (.int (0 : Int32)) := D215 (Or.inr (hw _ (List.mem_of_getElem? (i := 26) rfl))) (ty := .boolean) (by decide)
        have i215_unblinded : Fld Z h215 b215 "caseward/policy/Access" "unblinded" "Z" (.int (0 : Int32)) := D215 (Or.inr (hw _ (List.mem_of_getElem? (i := 28) rfl))) (ty := .boolean) (by decide)
        have k216 : Way p e below S0 T215 (mkF m 45 #[iv p1, iv p2, rv w_VIEW, iv (1 : Int32), iv (0 : Int32), .unset, .unset, .unset, .unset] [(.ref b215)]) := fun t k => k214 t (st215 _ k)
        have k217 : Way p e below S0 T215 (mkF m 50 #[iv p1, iv p2, rv w_VIEW, iv (1 : Int32), iv (0 : Int32), .unset, .unset, .unset, .unset] [(.int (0 : Int32)), (.int (1 : Int32)), (.ref w_VIEW), (.ref b215), (.ref b215)]) := by
          intro t k
          refine k216 t ?_
          refine XS.dup X215.here hx rfl (hb hby at_45) rfl rfl ?_
          show Steps p.tables e below (T215.setTop (mkF m 46 #[iv p1, iv p2, rv w_VIEW, iv (1 : Int32), iv (0 : Int32), .unset, .unset, .unset, .unset] [(.ref b215), (.ref b215)])) _
          refine XS.aloadN X215.here hx rfl (hb hby at_46) rfl rfl ?_
          show Steps p.tables e below (T215.setTop (mkF m 47 #[iv p1, iv p2, rv w_VIEW, iv (1 : Int32), iv (0 : Int32), .unset, .unset, .unset, .unset] [(.ref w_VIEW), (.ref b215), (.ref b215)])) _
          refine XS.iloadN X215.here hx rfl (hb hby at_47) rfl ?_
          show Steps p.tables e below (T215.setTop (mkF m 48 #[iv p1, iv p2, rv w_VIEW, iv (1 : Int32), iv (0 : Int32), .unset, .unset, .unset, .unset] [(.int (1 : Int32)), (.ref w_VIEW), (.ref b215), (.ref b215)])) _
          refine XS.iload X215.here hx rfl (hb hby at_48) rfl ?_
          show Steps p.tables e below (T215.setTop (mkF m 50 #[iv p1, iv p2, rv w_VIEW, iv (1 : Int32), iv (0 : Int32), .unset, .unset, .unset, .unset] [(.int (0 : Int32)), (.int (1 : Int32)), (.ref w_VIEW), (.ref b215), (.ref b215)])) _
          exact k
        have ge218 : n0 ≤ b215 := Nat.le_trans (own_old O0) (Nat.le_of_eq g215.symm)
        obtain ⟨_, _, ⟨T219, L219, kk219, nn219⟩, -, X219, ⟨Lc219, hQ219, l219, y219, z219⟩, st219⟩ := X215.specialBack hx (y := (⟨"caseward/policy/Access", "<init>", "(Lcaseward/policy/Access$Level;ZZ)V"⟩ : MethodName)) rfl hown (mvT hZ (hw _ (List.mem_of_getElem? (i := 11) rfl))) (mvT hZ (hw _ (List.mem_of_getElem? (i := 12) rfl))) (mvT hZ (hw _ (List.mem_of_getElem? (i := 13) rfl))) (by decide) (backOf (W := 1) (init_VIEW10 l Z a0 hw [] w_NONE w_VIEW w_EDIT wCS G b215 h215 n0 O215 (A215 : Exa Z h215 b215 "caseward/policy/Access") (i215_level : Fld Z h215 b215 "caseward/policy/Access" "level" "Lcaseward/policy/Access$Level;" .null) (i215_pii : Fld Z h215 b215 "caseward/policy/Access" "pii" "Z" (.int (0 : Int32))) (i215_unblinded : Fld Z h215 b215 "caseward/policy/Access" "unblinded" "Z" (.int (0 : Int32))) (ge218 : n0 ≤ b215)) hZ (hw _ (List.mem_of_getElem? (i := 13) rfl)) (hw _ (List.mem_of_getElem? (i := 10) rfl)) (by decide) (by decide)) (g := (mkF m 50 #[iv p1, iv p2, rv w_VIEW, iv (1 : Int32), iv (0 : Int32), .unset, .unset, .unset, .unset] [(.int (0 : Int32)), (.int (1 : Int32)), (.ref w_VIEW), (.ref b215), (.ref b215)])) rfl (by rw [hml]; rfl) (Steps.refl _) (a := b215) (argsL := [(.ref w_VIEW), (.int (1 : Int32)), (.int (0 : Int32))]) (rest := [(.ref b215)]) (lenOf pd_3 rfl) rfl (by show 2 * 0 + _ ≤ _; exact Nat.le_of_eq rfl) (hb hby at_50) (fun _ _ => ⟨rfl, e215, (by decide : 1 + 0 ≤ _), (by decide : 3 + 0 ≤ _)⟩)
        dsimp only [Pt.U, Pt.locs, Pt.cells, Pt.slots] at X219 l219 y219 z219 st219 hQ219
        subst l219 y219 z219
        obtain ⟨rfl, Nq219, Kq219, po219_0, po219_1⟩ := hQ219
        have N219 := Fr.app N2 Nq219
        have O219 := O215.keep Kq219 (allS ge218 all0)
        have R219 : CHr Z own_EL s.vm h0 s.vm T219.heap := R215.trans (CHr.keep Kq219 (sfS (Safe.exa hZ.alike A215 (by decide) (by decide)) sf0) R215.1)
        have k220 : Way p e below S0 T219 (mkF m 53 #[iv p1, iv p2, rv w_VIEW, iv (1 : Int32), iv (0 : Int32), .unset, .unset, .unset, .unset] [(.ref b215)]) := fun t k => k217 t (st219.trans k)
        have k221 : Way p e below S0 T219 (mkF m 57 #[iv p1, iv p2, rv w_VIEW, iv (1 : Int32), iv (0 : Int32), rv b215, .unset, .unset, .unset] [(.ref b215)]) := by
          intro t k
          refine k220 t ?_
          refine XS.astore X219.here hx rfl (hb hby at_53) rfl rfl (l' := #[iv p1, iv p2, rv w_VIEW, iv (1 : Int32), iv (0 : Int32), rv b215, .unset, .unset, .unset]) rfl ?_
          show Steps p.tables e below (T219.setTop (mkF m 55 #[iv p1, iv p2, rv w_VIEW, iv (1 : Int32), iv (0 : Int32), rv b215, .unset, .unset, .unset] [])) _
          refine XS.aload X219.here hx rfl (hb hby at_55) rfl rfl ?_
          show Steps p.tables e below (T219.setTop (mkF m 57 #[iv p1, iv p2, rv w_VIEW, iv (1 : Int32), iv (0 : Int32), rv b215, .unset, .unset, .unset] [(.ref b215)])) _
          exact k
        obtain ⟨cq222, kq222, qq222a, qq222b, qq222c⟩ := isOf hZ rfl po219_0
        obtain ⟨_, _, ⟨T222, L222, kk222, nn222⟩, -, Xr222, hSr222, hgr222, ⟨Lc222, hQ222, l222, y222, z222, Rr222⟩, st222⟩ := X219.virtualBackS hx (y := (⟨"caseward/policy/Access", "piiWord", "()Ljava/lang/String;"⟩ : MethodName)) (z := (⟨"caseward/policy/Access", "piiWord", "()Ljava/lang/String;"⟩ : MethodName)) hown (mvT hZ (hw _ (List.mem_of_getElem? (i := 29) rfl))) (mvT hZ (hw _ (List.mem_of_getElem? (i := 30) rfl))) (notFace_of_selects (args := #[]) (mvT hZ (hw _ (List.mem_of_getElem? (i := 32) rfl)))) (mvT hZ (hw _ (List.mem_of_getElem? (i := 32) rfl))) (mvT hZ (hw _ (List.mem_of_getElem? (i := 31) rfl))) (by decide) (backOfSH (s := s) (vm0 := s.vm) (W := 0) (piiWord1 l Z a0 hw [] w_NONE w_VIEW w_EDIT wCS G b215 T219.heap n0 O219 (po219_1 : Fld Z T219.heap b215 "caseward/policy/Access" "pii" "Z" (.int (1 : Int32)))) hZ (hw _ (List.mem_of_getElem? (i := 33) rfl)) (hw _ (List.mem_of_getElem? (i := 10) rfl)) (by decide) (by decide) (own_EW hw) R219.1) qq222a qq222c (g := (mkF m 57 #[iv p1, iv p2, rv w_VIEW, iv (1 : Int32), iv (0 : Int32), rv b215, .unset, .unset, .unset] [(.ref b215)])) rfl (by rw [hml]; rfl) (Steps.refl _) (argsL := []) (rest := []) (lenOf pd_4 rfl) rfl (by show 2 * 0 + _ ≤ _; exact Nat.le_of_eq rfl) (hb hby at_57) (fun _ _ => ⟨rfl, rfl, (by decide : 1 + 2 ≤ _), (by decide : 3 + 36 ≤ _)⟩)
        dsimp only [Pt.U, Pt.locs, Pt.cells, Pt.slots] at Xr222 hSr222 hgr222 l222 y222 z222 st222 hQ222 Rr222
        subst l222 y222 z222
        obtain ⟨X222, hS222, hZ222, ho222⟩ := rebS (s := s) (vm0 := s.vm) hS0 (Nat.zero_le _) Xr222 hSr222 hgr222 hZ hown
        have hZ := hZ222
        have hown := ho222
        obtain ⟨a2_222, a3_222, kk1_222, rfl, Nq222, Kq222, po222_0, po222_1, po222_2, po222_3⟩ := hQ222
        have N222 := Fr.app N219 Nq222
        have O222 := O219.keep Kq222 all0
        have R222 : CHr Z own_EL s.vm h0 T222.vm T222.heap := R219.trans Rr222
        have k223 : Way p e below S0 T222 (mkF m 60 #[iv p1, iv p2, rv w_VIEW, iv (1 : Int32), iv (0 : Int32), rv b215, .unset, .unset, .unset] [(.ref a2_222)]) := fun t k => k221 t (st222.trans k)
        have k224 : Way p e below S0 T222 (mkF m 71 #[iv p1, iv p2, rv w_VIEW, iv (1 : Int32), iv (0 : Int32), rv b215, rv a2_222, .unset, .unset] [(.ref a2_222)]) := by
          intro t k
          refine k223 t ?_
          refine XS.astore X222.here hx rfl (hb hby at_60) rfl rfl (l' := #[iv p1, iv p2, rv w_VIEW, iv (1 : Int32), iv (0 : Int32), rv b215, rv a2_222, .unset, .unset]) rfl ?_
          show Steps p.tables e below (T222.setTop (mkF m 62 #[iv p1, iv p2, rv w_VIEW, iv (1 : Int32), iv (0 : Int32), rv b215, rv a2_222, .unset, .unset] [])) _
          refine XS.aload X222.here hx rfl (hb hby at_62) rfl rfl ?_
          show Steps p.tables e below (T222.setTop (mkF m 64 #[iv p1, iv p2, rv w_VIEW, iv (1 : Int32), iv (0 : Int32), rv b215, rv a2_222, .unset, .unset] [(.ref a2_222)])) _
          refine XS.ifnonnullYes X222.here hx rfl (pc0 := 64) (pc' := 69) rfl (hb hby at_64) rfl (by decide) (by decide) ?_
          show Steps p.tables e below (T222.setTop (mkF m 69 #[iv p1, iv p2, rv w_VIEW, iv (1 : Int32), iv (0 : Int32), rv b215, rv a2_222, .unset, .unset] [])) _
          refine XS.aload X222.here hx rfl (hb hby at_69) rfl rfl ?_
          show Steps p.tables e below (T222.setTop (mkF m 71 #[iv p1, iv p2, rv w_VIEW, iv (1 : Int32), iv (0 : Int32), rv b215, rv a2_222, .unset, .unset] [(.ref a2_222)])) _
          exact k
        obtain ⟨la225, T225, h225, ks225, lb225, lk225, X225, e225, E225, hS225, hk225, hZ225, ho225, Fe225, Fc225, Fv225, Va225, -, -, Rr225, Li225, Sa225, st225⟩ := ldcCH (s := s) (vm0 := T222.vm) (EL := own_EL) X222 hx hZ hown (hw _ (List.mem_of_getElem? (i := 42) rfl)) (own_strW hw) rfl hS222 (Nat.le_trans (Nat.le_refl _) (Nat.le_refl _)) (own_EW hw) (by decide) R222.1 (vs := [(.int (117 : Int32)), (.int (110 : Int32)), (.int (109 : Int32)), (.int (97 : Int32)), (.int (115 : Int32)), (.int (107 : Int32)), (.int (101 : Int32)), (.int (100 : Int32))]) (z := (8 : Int32)) ⟨by decide, by decide⟩ (by decide) (by decide) (g := (mkF m 71 #[iv p1, iv p2, rv w_VIEW, iv (1 : Int32), iv (0 : Int32), rv b215, rv a2_222, .unset, .unset] [(.ref a2_222)])) rfl (hb hby at_71) (n := 32) (by decide) (by decide) (by decide) (by decide)
        have hZ := hZ225
        have hown := ho225
        have R225 : CHr Z own_EL s.vm h0 T225.vm h225 := R222.trans Rr225
        have O225 := O222.ext E225
        have k226 : Way p e below S0 T225 (mkF m 73 #[iv p1, iv p2, rv w_VIEW, iv (1 : Int32), iv (0 : Int32), rv b215, rv a2_222, .unset, .unset] [(.ref la225), (.ref a2_222)]) := fun t k => k224 t (st225 _ k)
        have f227 : Fld Z h225 a2_222 "java/lang/String" "coder" "B" (.int (0 : Int32)) := (po222_1.ext E225)
        have f228 : Fld Z h225 a2_222 "java/lang/String" "value" "[B" (.ref a3_222) := (po222_2.ext E225)
        have f229 : Arv Z h225 a3_222 kk1_222 .byte (8 : Int32) [(.int (117 : Int32)), (.int (110 : Int32)), (.int (109 : Int32)), (.int (97 : Int32)), (.int (115 : Int32)), (.int (107 : Int32)), (.int (101 : Int32)), (.int (100 : Int32))] (.int (0 : Int32)) := (po222_3.ext E225)
        have f231 : Exa Z h225 a2_222 "java/lang/String" := (po222_0.ext E225)
        obtain ⟨cq230, kq230, qq230a, qq230b, qq230c⟩ := isOf hZ e225 f231
        obtain ⟨_, _, ⟨T230, L230, kk230, nn230⟩, -, X230, ⟨Lc230, hQ230, l230, y230, z230⟩, st230⟩ := X225.virtualBack hx (y := (⟨"java/lang/String", "equals", "(Ljava/lang/Object;)Z"⟩ : MethodName)) (z := (⟨"java/lang/String", "equals", "(Ljava/lang/Object;)Z"⟩ : MethodName)) hown (mvT hZ (hw _ (List.mem_of_getElem? (i := 43) rfl))) (mvT hZ (hw _ (List.mem_of_getElem? (i := 44) rfl))) (notFace_of_selects (args := #[]) (mvT hZ (hw _ (List.mem_of_getElem? (i := 46) rfl)))) (mvT hZ (hw _ (List.mem_of_getElem? (i := 46) rfl))) (mvT hZ (hw _ (List.mem_of_getElem? (i := 45) rfl))) (by decide) (backOf (W := 0) (seq11 l Z a0 hw [] w_NONE w_VIEW w_EDIT wCS G a2_222 la225 a3_222 lb225 kk1_222 lk225 h225 n0 O225 (f227 : Fld Z h225 a2_222 "java/lang/String" "coder" "B" (.int (0 : Int32))) (f228 : Fld Z h225 a2_222 "java/lang/String" "value" "[B" (.ref a3_222)) (f229 : Arv Z h225 a3_222 kk1_222 .byte (8 : Int32) [(.int (117 : Int32)), (.int (110 : Int32)), (.int (109 : Int32)), (.int (97 : Int32)), (.int (115 : Int32)), (.int (107 : Int32)), (.int (101 : Int32)), (.int (100 : Int32))] (.int (0 : Int32))) (Fe225 : Exa Z h225 la225 "java/lang/String") (Fc225 : Fld Z h225 la225 "java/lang/String" "coder" "B" (.int (0 : Int32))) (Fv225 : Fld Z h225 la225 "java/lang/String" "value" "[B" (.ref lb225)) (Va225 : Arv Z h225 lb225 lk225 .byte (8 : Int32) [(.int (117 : Int32)), (.int (110 : Int32)), (.int (109 : Int32)), (.int (97 : Int32)), (.int (115 : Int32)), (.int (107 : Int32)), (.int (101 : Int32)), (.int (100 : Int32))] (.int (0 : Int32)))) hZ (hw _ (List.mem_of_getElem? (i := 47) rfl)) (hw _ (List.mem_of_getElem? (i := 35) rfl)) (by decide) (by decide)) qq230a qq230c (g := (mkF m 73 #[iv p1, iv p2, rv w_VIEW, iv (1 : Int32), iv (0 : Int32), rv b215, rv a2_222, .unset, .unset] [(.ref la225), (.ref a2_222)])) rfl (by rw [hml]; rfl) (Steps.refl _) (argsL := [(.ref la225)]) (rest := []) (lenOf pd_5 rfl) rfl (by show 2 * 0 + _ ≤ _; exact Nat.le_of_eq rfl) (hb hby at_73) (fun _ _ => ⟨rfl, e225, (by decide : 5 + 0 ≤ _), (by decide : 75 + 0 ≤ _)⟩)
        dsimp only [Pt.U, Pt.locs, Pt.cells, Pt.slots] at X230 l230 y230 z230 st230 hQ230
        subst l230 y230 z230
        obtain ⟨rfl, Nq230, e230⟩ := hQ230
        have N230 := Fr.app N222 Nq230
        have k232 : Way p e below S0 T230 (mkF m 76 #[iv p1, iv p2, rv w_VIEW, iv (1 : Int32), iv (0 : Int32), rv b215, rv a2_222, .unset, .unset] [(.int (1 : Int32))]) := fun t k => k226 t (st230.trans k)
        have k233 : Way p e below S0 T230 (mkF m 80 #[iv p1, iv p2, rv w_VIEW, iv (1 : Int32), iv (0 : Int32), rv b215, rv a2_222, iv (1 : Int32), .unset] [(.ref a2_222)]) := by
          intro t k
          refine k232 t ?_
          refine XS.istore X230.here hx rfl (hb hby at_76) rfl (l' := #[iv p1, iv p2, rv w_VIEW, iv (1 : Int32), iv (0 : Int32), rv b215, rv a2_222, iv (1 : Int32), .unset]) rfl ?_
          show Steps p.tables e below (T230.setTop (mkF m 78 #[iv p1, iv p2, rv w_VIEW, iv (1 : Int32), iv (0 : Int32), rv b215, rv a2_222, iv (1 : Int32), .unset] [])) _
          refine XS.aload X230.here hx rfl (hb hby at_78) rfl rfl ?_
          show Steps p.tables e below (T230.setTop (mkF m 80 #[iv p1, iv p2, rv w_VIEW, iv (1 : Int32), iv (0 : Int32), rv b215, rv a2_222, iv (1 : Int32), .unset] [(.ref a2_222)])) _
          exact k
        obtain ⟨la234, T234, h234, ks234, lb234, lk234, X234, e234, E234, hS234, hk234, hZ234, ho234, Fe234, Fc234, Fv234, Va234, -, -, Rr234, Li234, Sa234, st234⟩ := ldcCH (s := s) (vm0 := T225.vm) (EL := own_EL) X230 hx hZ hown (hw _ (List.mem_of_getElem? (i := 57) rfl)) (own_strW hw) e230 hS225 (Nat.le_trans hk225 (Nat.le_refl _)) (own_EW hw) (by decide) R225.1 (vs := [(.int (109 : Int32)), (.int (97 : Int32)), (.int (115 : Int32)), (.int (107 : Int32)), (.int (101 : Int32)), (.int (100 : Int32))]) (z := (6 : Int32)) ⟨by decide, by decide⟩ (by decide) (by decide) (g := (mkF m 80 #[iv p1, iv p2, rv w_VIEW, iv (1 : Int32), iv (0 : Int32), rv b215, rv a2_222, iv (1 : Int32), .unset] [(.ref a2_222)])) rfl (hb hby at_80) (n := 24) (by decide) (by decide) (by decide) (by decide)
        have hZ := hZ234
        have hown := ho234
        have R234 : CHr Z own_EL s.vm h0 T234.vm h234 := R225.trans Rr234
        have O234 := O225.ext E234
        have k235 : Way p e below S0 T234 (mkF m 82 #[iv p1, iv p2, rv w_VIEW, iv (1 : Int32), iv (0 : Int32), rv b215, rv a2_222, iv (1 : Int32), .unset] [(.ref la234), (.ref a2_222)]) := fun t k => k233 t (st234 _ k)
        have f236 : Fld Z h234 a2_222 "java/lang/String" "value" "[B" (.ref a3_222) := (f228.ext E234)
        have f237 : Arv Z h234 a3_222 kk1_222 .byte (8 : Int32) [(.int (117 : Int32)), (.int (110 : Int32)), (.int (109 : Int32)), (.int (97 : Int32)), (.int (115 : Int32)), (.int (107 : Int32)), (.int (101 : Int32)), (.int (100 : Int32))] (.int (0 : Int32)) := (f229.ext E234)
        have f238 : Fld Z h234 a2_222 "java/lang/String" "coder" "B" (.int (0 : Int32)) := (f227.ext E234)
        have f240 : Exa Z h234 a2_222 "java/lang/String" := (f231.ext E234)
        obtain ⟨cq239, kq239, qq239a, qq239b, qq239c⟩ := isOf hZ e234 f240
        obtain ⟨_, _, ⟨T239, L239, kk239, nn239⟩, -, X239, ⟨Lc239, hQ239, l239, y239, z239⟩, st239⟩ := X234.virtualBack hx (y := (⟨"java/lang/String", "equals", "(Ljava/lang/Object;)Z"⟩ : MethodName)) (z := (⟨"java/lang/String", "equals", "(Ljava/lang/Object;)Z"⟩ : MethodName)) hown (mvT hZ (hw _ (List.mem_of_getElem? (i := 43) rfl))) (mvT hZ (hw _ (List.mem_of_getElem? (i := 44) rfl))) (notFace_of_selects (args := #[]) (mvT hZ (hw _ (List.mem_of_getElem? (i := 46) rfl)))) (mvT hZ (hw _ (List.mem_of_getElem? (i := 46) rfl))) (mvT hZ (hw _ (List.mem_of_getElem? (i := 45) rfl))) (by decide) (backOf (W := 0) (seq10 l Z a0 hw [] w_NONE w_VIEW w_EDIT wCS G a2_222 la234 a3_222 lb234 kk1_222 lk234 h234 n0 O234 (f238 : Fld Z h234 a2_222 "java/lang/String" "coder" "B" (.int (0 : Int32))) (f236 : Fld Z h234 a2_222 "java/lang/String" "value" "[B" (.ref a3_222)) (f237 : Arv Z h234 a3_222 kk1_222 .byte (8 : Int32) [(.int (117 : Int32)), (.int (110 : Int32)), (.int (109 : Int32)), (.int (97 : Int32)), (.int (115 : Int32)), (.int (107 : Int32)), (.int (101 : Int32)), (.int (100 : Int32))] (.int (0 : Int32))) (Fe234 : Exa Z h234 la234 "java/lang/String") (Fc234 : Fld Z h234 la234 "java/lang/String" "coder" "B" (.int (0 : Int32))) (Fv234 : Fld Z h234 la234 "java/lang/String" "value" "[B" (.ref lb234)) (Va234 : Arv Z h234 lb234 lk234 .byte (6 : Int32) [(.int (109 : Int32)), (.int (97 : Int32)), (.int (115 : Int32)), (.int (107 : Int32)), (.int (101 : Int32)), (.int (100 : Int32))] (.int (0 : Int32))) (Fld.ne f236 Fv234 (fun q => absurd (Value.ref.inj q) (arv_ne f237 Va234 (Or.inl (by decide)))) : a2_222 ≠ la234)) hZ (hw _ (List.mem_of_getElem? (i := 47) rfl)) (hw _ (List.mem_of_getElem? (i := 35) rfl)) (by decide) (by decide)) qq239a qq239c (g := (mkF m 82 #[iv p1, iv p2, rv w_VIEW, iv (1 : Int32), iv (0 : Int32), rv b215, rv a2_222, iv (1 : Int32), .unset] [(.ref la234), (.ref a2_222)])) rfl (by rw [hml]; rfl) (Steps.refl _) (argsL := [(.ref la234)]) (rest := []) (lenOf pd_5 rfl) rfl (by show 2 * 0 + _ ≤ _; exact Nat.le_of_eq rfl) (hb hby at_82) (fun _ _ => ⟨rfl, e234, (by decide : 7 + 0 ≤ _), (by decide : 103 + 0 ≤ _)⟩)
        dsimp only [Pt.U, Pt.locs, Pt.cells, Pt.slots] at X239 l239 y239 z239 st239 hQ239
        subst l239 y239 z239
        obtain ⟨rfl, Nq239, e239⟩ := hQ239
        have N239 := Fr.app N230 Nq239
        have k241 : Way p e below S0 T239 (mkF m 85 #[iv p1, iv p2, rv w_VIEW, iv (1 : Int32), iv (0 : Int32), rv b215, rv a2_222, iv (1 : Int32), .unset] [(.int (0 : Int32))]) := fun t k => k235 t (st239.trans k)
        have k242 : Way p e below S0 T239 (mkF m 112 #[iv p1, iv p2, rv w_VIEW, iv (1 : Int32), iv (0 : Int32), rv b215, rv a2_222, iv (1 : Int32), iv (0 : Int32)] [(.int (1 : Int32))]) := by
          intro t k
          refine k241 t ?_
          refine XS.istore X239.here hx rfl (hb hby at_85) rfl (l' := #[iv p1, iv p2, rv w_VIEW, iv (1 : Int32), iv (0 : Int32), rv b215, rv a2_222, iv (1 : Int32), iv (0 : Int32)]) rfl ?_
          show Steps p.tables e below (T239.setTop (mkF m 87 #[iv p1, iv p2, rv w_VIEW, iv (1 : Int32), iv (0 : Int32), rv b215, rv a2_222, iv (1 : Int32), iv (0 : Int32)] [])) _
          refine XS.iload X239.here hx rfl (hb hby at_87) rfl ?_
          show Steps p.tables e below (T239.setTop (mkF m 89 #[iv p1, iv p2, rv w_VIEW, iv (1 : Int32), iv (0 : Int32), rv b215, rv a2_222, iv (1 : Int32), iv (0 : Int32)] [(.int (1 : Int32))])) _
          refine XS.iloadN X239.here hx rfl (hb hby at_89) rfl ?_
          show Steps p.tables e below (T239.setTop (mkF m 90 #[iv p1, iv p2, rv w_VIEW, iv (1 : Int32), iv (0 : Int32), rv b215, rv a2_222, iv (1 : Int32), iv (0 : Int32)] [(.int (1 : Int32)), (.int (1 : Int32))])) _
          refine XS.icmpNo X239.here hx rfl (hb hby at_90) rfl (teq ((by decide) : (1 : Int32) = (1 : Int32))).2 ?_
          show Steps p.tables e below (T239.setTop (mkF m 93 #[iv p1, iv p2, rv w_VIEW, iv (1 : Int32), iv (0 : Int32), rv b215, rv a2_222, iv (1 : Int32), iv (0 : Int32)] [])) _
          refine XS.iload X239.here hx rfl (hb hby at_93) rfl ?_
          show Steps p.tables e below (T239.setTop (mkF m 95 #[iv p1, iv p2, rv w_VIEW, iv (1 : Int32), iv (0 : Int32), rv b215, rv a2_222, iv (1 : Int32), iv (0 : Int32)] [(.int (0 : Int32))])) _
          refine XS.iloadN X239.here hx rfl (hb hby at_95) rfl ?_
          show Steps p.tables e below (T239.setTop (mkF m 96 #[iv p1, iv p2, rv w_VIEW, iv (1 : Int32), iv (0 : Int32), rv b215, rv a2_222, iv (1 : Int32), iv (0 : Int32)] [(.int (1 : Int32)), (.int (0 : Int32))])) _
          refine XS.ifYes X239.here hx rfl (pc0 := 96) (pc' := 103) rfl (hb hby at_96) rfl ((if0 _ _).trans (feq ((by decide) : ¬ ((1 : Int32) = (0 : Int32)))).2) (by decide) (by decide) ?_
          show Steps p.tables e below (T239.setTop (mkF m 103 #[iv p1, iv p2, rv w_VIEW, iv (1 : Int32), iv (0 : Int32), rv b215, rv a2_222, iv (1 : Int32), iv (0 : Int32)] [(.int (0 : Int32))])) _
          refine XS.iconst X239.here hx rfl (hb hby at_103) ?_
          show Steps p.tables e below (T239.setTop (mkF m 104 #[iv p1, iv p2, rv w_VIEW, iv (1 : Int32), iv (0 : Int32), rv b215, rv a2_222, iv (1 : Int32), iv (0 : Int32)] [(.int (0 : Int32)), (.int (0 : Int32))])) _
          refine XS.icmpNo X239.here hx rfl (hb hby at_104) rfl (teq ((by decide) : (0 : Int32) = (0 : Int32))).2 ?_
          show Steps p.tables e below (T239.setTop (mkF m 107 #[iv p1, iv p2, rv w_VIEW, iv (1 : Int32), iv (0 : Int32), rv b215, rv a2_222, iv (1 : Int32), iv (0 : Int32)] [])) _
          refine XS.iconst X239.here hx rfl (hb hby at_107) ?_
          show Steps p.tables e below (T239.setTop (mkF m 108 #[iv p1, iv p2, rv w_VIEW, iv (1 : Int32), iv (0 : Int32), rv b215, rv a2_222, iv (1 : Int32), iv (0 : Int32)] [(.int (1 : Int32))])) _
          refine XS.goto X239.here hx rfl (pc0 := 108) (pc' := 112) rfl (hb hby at_108) (by decide) (by decide) ?_
          show Steps p.tables e below (T239.setTop (mkF m 112 #[iv p1, iv p2, rv w_VIEW, iv (1 : Int32), iv (0 : Int32), rv b215, rv a2_222, iv (1 : Int32), iv (0 : Int32)] [(.int (1 : Int32))])) _
          exact k
        obtain ⟨fs, hr, hrun, hended, hRW⟩ := Stand.leaveW (s := s) (vm₁ := T234.vm) X239 hS234 (by rw [e239]; exact (Nat.le_trans hk234 (Nat.le_refl _))) (v := some (.int (1 : Int32))) (fun h => by rw [Bd.returns] at h; cases h)
        have RF : CHr Z own_EL s.vm h0 T239.vm h234 := R234.trans (CHv.at (s := s) (vm0 := T234.vm) X239 hZ (own_EW hw) R234.1)
        refine ⟨_, _, k242 _ (retN X239 hx (t := .boolean) Bd.returns (by simp) (hb hby at_112) hr), hrun, hended, _, _, rfl, ?_, (by show CHr Z own_EL s.vm s.heap T239.vm T239.heap; rw [hh, e239]; exact RF), own_rw hRW (by decide) (by decide)⟩
        show Q_law_met Z w_NONE w_VIEW w_EDIT wCS p1 p2 h0 n0 _ T239.heap _
        rw [e239]
        exact ⟨rfl, N239⟩
      · have k243 : Way p e below S0 T2 (mkF m 31 #[iv p1, iv p2, rv w_VIEW, iv (1 : Int32), iv (1 : Int32), .unset, .unset, .unset, .unset] [(.ref w_VIEW)]) := by
          intro t k
          refine k210 t ?_
          refine XS.ifNo X2.here hx rfl (hb hby at_20) rfl ((if0 _ _).trans (feq (hc209 : ¬ ((p2 &&& (2 : Int32)) = (0 : Int32)))).1) ?_
          show Steps p.tables e below (T2.setTop (mkF m 23 #[iv p1, iv p2, rv w_VIEW, iv (1 : Int32), .unset, .unset, .unset, .unset, .unset] [])) _
          refine XS.iconst X2.here hx rfl (hb hby at_23) ?_
          show Steps p.tables e below (T2.setTop (mkF m 24 #[iv p1, iv p2, rv w_VIEW, iv (1 : Int32), .unset, .unset, .unset, .unset, .unset] [(.int (1 : Int32))])) _
          refine XS.goto X2.here hx rfl (pc0 := 24) (pc' := 28) rfl (hb hby at_24) (by decide) (by decide) ?_
          show Steps p.tables e below (T2.setTop (mkF m 28 #[iv p1, iv p2, rv w_VIEW, iv (1 : Int32), .unset, .unset, .unset, .unset, .unset] [(.int (1 : Int32))])) _
          refine XS.istore X2.here hx rfl (hb hby at_28) rfl (l' := #[iv p1, iv p2, rv w_VIEW, iv (1 : Int32), iv (1 : Int32), .unset, .unset, .unset, .unset]) rfl ?_
          show Steps p.tables e below (T2.setTop (mkF m 30 #[iv p1, iv p2, rv w_VIEW, iv (1 : Int32), iv (1 : Int32), .unset, .unset, .unset, .unset] [])) _
          refine XS.aloadN X2.here hx rfl (hb hby at_30) rfl rfl ?_
          show Steps p.tables e below (T2.setTop (mkF m 31 #[iv p1, iv p2, rv w_VIEW, iv (1 : Int32), iv (1 : Int32), .unset, .unset, .unset, .unset] [(.ref w_VIEW)])) _
          exact k
        obtain ⟨T244, X244, e244, st244⟩ := getS2 X2 hx hZ hown (host := "") (Or.inl (hw _ (List.mem_of_getElem? (i := 5) rfl))) Via.refl e2 (S_w_NONE.ext O0.2) (g := (mkF m 31 #[iv p1, iv p2, rv w_VIEW, iv (1 : Int32), iv (1 : Int32), .unset, .unset, .unset, .unset] [(.ref w_VIEW)])) rfl (hb hby at_31)
        have k245 : Way p e below S0 T244 (mkF m 34 #[iv p1, iv p2, rv w_VIEW, iv (1 : Int32), iv (1 : Int32), .unset, .unset, .unset, .unset] [(.ref w_NONE), (.ref w_VIEW)]) := fun t k => k243 t (st244 _ k)
        have k246 : Way p e below S0 T244 (mkF m 42 #[iv p1, iv p2, rv w_VIEW, iv (1 : Int32), iv (1 : Int32), .unset, .unset, .unset, .unset] []) := by
          intro t k
          refine k245 t ?_
          refine Jvm.RoadKit.acmp (g := (mkF m 34 #[iv p1, iv p2, rv w_VIEW, iv (1 : Int32), iv (1 : Int32), .unset, .unset, .unset, .unset] [(.ref w_NONE), (.ref w_VIEW)])) X244 hx rfl rfl rfl (pc0 := 34) (pc' := 42) (same := false) rfl (hb hby at_34) rfl (decide_eq_false fun q => absurd (Value.ref.inj q) (F_w_VIEW_ordinal.ne F_w_NONE_ordinal (by decide))) (by decide) (by decide) ?_
          show Steps p.tables e below (T244.setTop (mkF m 42 #[iv p1, iv p2, rv w_VIEW, iv (1 : Int32), iv (1 : Int32), .unset, .unset, .unset, .unset] [])) _
          exact k
        obtain ⟨T247, h247, X247, e247, E247, A247, D247, U247, st247⟩ := newO X244 hx hZ hown (hw _ (List.mem_of_getElem? (i := 8) rfl)) (hw _ (List.mem_of_getElem? (i := 9) rfl)) (hw _ (List.mem_of_getElem? (i := 10) rfl)) e244 (g := (mkF m 42 #[iv p1, iv p2, rv w_VIEW, iv (1 : Int32), iv (1 : Int32), .unset, .unset, .unset, .unset] [])) rfl (hb hby at_42) (by decide) (by decide)
        obtain ⟨b247, g247⟩ : ∃ z, z = h0.size := ⟨_, rfl⟩
        rw [← g247] at A247 D247 U247 st247
        have R247 : CHr Z own_EL s.vm h0 s.vm h247 := R0.trans (CHr.ext E247 R0.1)
        have O247 := O0.ext E247
        have i247_level : Fld Z h247 b247 "caseward/policy/Access" "level" "Lcaseward/policy/Access$Level;" .null := D247 (Or.inr (hw _ (List.mem_of_getElem? (i := 24) rfl))) (ty := (.object "caseward/policy/Access$Level")) (by decide)
        have i247_pii : Fld Z h247 b247 "caseward/policy/Access" "pii" "Z" (.int (0 : Int32)) := D247 (Or.inr (hw _ (List.mem_of_getElem? (i := 26) rfl))) (ty := .boolean) (by decide)
        have i247_unblinded : Fld Z h247 b247 "caseward/policy/Access" "unblinded" "Z" (.int (0 : Int32)) := D247 (Or.inr (hw _ (List.mem_of_getElem? (i := 28) rfl))) (ty := .boolean) (by decide)
        have k248 : Way p e below S0 T247 (mkF m 45 #[iv p1, iv p2, rv w_VIEW, iv (1 : Int32), iv (1 : Int32), .unset, .unset, .unset, .unset] [(.ref b247)]) := fun t k => k246 t (st247 _ k)
        have k249 : Way p e below S0 T247 (mkF m 50 #[iv p1, iv p2, rv w_VIEW, iv (1 : Int32), iv (1 : Int32), .unset, .unset, .unset, .unset] [(.int (1 : Int32)), (.int (1 : Int32)), (.ref w_VIEW), (.ref b247), (.ref b247)]) := by
          intro t k
          refine k248 t ?_
          refine XS.dup X247.here hx rfl (hb hby at_45) rfl rfl ?_
          show Steps p.tables e below (T247.setTop (mkF m 46 #[iv p1, iv p2, rv w_VIEW, iv (1 : Int32), iv (1 : Int32), .unset, .unset, .unset, .unset] [(.ref b247), (.ref b247)])) _
          refine XS.aloadN X247.here hx rfl (hb hby at_46) rfl rfl ?_
          show Steps p.tables e below (T247.setTop (mkF m 47 #[iv p1, iv p2, rv w_VIEW, iv (1 : Int32), iv (1 : Int32), .unset, .unset, .unset, .unset] [(.ref w_VIEW), (.ref b247), (.ref b247)])) _
          refine XS.iloadN X247.here hx rfl (hb hby at_47) rfl ?_
          show Steps p.tables e below (T247.setTop (mkF m 48 #[iv p1, iv p2, rv w_VIEW, iv (1 : Int32), iv (1 : Int32), .unset, .unset, .unset, .unset] [(.int (1 : Int32)), (.ref w_VIEW), (.ref b247), (.ref b247)])) _
          refine XS.iload X247.here hx rfl (hb hby at_48) rfl ?_
          show Steps p.tables e below (T247.setTop (mkF m 50 #[iv p1, iv p2, rv w_VIEW, iv (1 : Int32), iv (1 : Int32), .unset, .unset, .unset, .unset] [(.int (1 : Int32)), (.int (1 : Int32)), (.ref w_VIEW), (.ref b247), (.ref b247)])) _
          exact k
        have ge250 : n0 ≤ b247 := Nat.le_trans (own_old O0) (Nat.le_of_eq g247.symm)
        obtain ⟨_, _, ⟨T251, L251, kk251, nn251⟩, -, X251, ⟨Lc251, hQ251, l251, y251, z251⟩, st251⟩ := X247.specialBack hx (y := (⟨"caseward/policy/Access", "<init>", "(Lcaseward/policy/Access$Level;ZZ)V"⟩ : MethodName)) rfl hown (mvT hZ (hw _ (List.mem_of_getElem? (i := 11) rfl))) (mvT hZ (hw _ (List.mem_of_getElem? (i := 12) rfl))) (mvT hZ (hw _ (List.mem_of_getElem? (i := 13) rfl))) (by decide) (backOf (W := 1) (init_VIEW11 l Z a0 hw [] w_NONE w_VIEW w_EDIT wCS G b247 h247 n0 O247 (A247 : Exa Z h247 b247 "caseward/policy/Access") (i247_level : Fld Z h247 b247 "caseward/policy/Access" "level" "Lcaseward/policy/Access$Level;" .null) (i247_pii : Fld Z h247 b247 "caseward/policy/Access" "pii" "Z" (.int (0 : Int32))) (i247_unblinded : Fld Z h247 b247 "caseward/policy/Access" "unblinded" "Z" (.int (0 : Int32))) (ge250 : n0 ≤ b247)) hZ (hw _ (List.mem_of_getElem? (i := 13) rfl)) (hw _ (List.mem_of_getElem? (i := 10) rfl)) (by decide) (by decide)) (g := (mkF m 50 #[iv p1, iv p2, rv w_VIEW, iv (1 : Int32), iv (1 : Int32), .unset, .unset, .unset, .unset] [(.int (1 : Int32)), (.int (1 : Int32)), (.ref w_VIEW), (.ref b247), (.ref b247)])) rfl (by rw [hml]; rfl) (Steps.refl _) (a := b247) (argsL := [(.ref w_VIEW), (.int (1 : Int32)), (.int (1 : Int32))]) (rest := [(.ref b247)]) (lenOf pd_3 rfl) rfl (by show 2 * 0 + _ ≤ _; exact Nat.le_of_eq rfl) (hb hby at_50) (fun _ _ => ⟨rfl, e247, (by decide : 1 + 0 ≤ _), (by decide : 3 + 0 ≤ _)⟩)
        dsimp only [Pt.U, Pt.locs, Pt.cells, Pt.slots] at X251 l251 y251 z251 st251 hQ251
        subst l251 y251 z251
        obtain ⟨rfl, Nq251, Kq251, po251_0, po251_1⟩ := hQ251
        have N251 := Fr.app N2 Nq251
        have O251 := O247.keep Kq251 (allS ge250 all0)
        have R251 : CHr Z own_EL s.vm h0 s.vm T251.heap := R247.trans (CHr.keep Kq251 (sfS (Safe.exa hZ.alike A247 (by decide) (by decide)) sf0) R247.1)
        have k252 : Way p e below S0 T251 (mkF m 53 #[iv p1, iv p2, rv w_VIEW, iv (1 : Int32), iv (1 : Int32), .unset, .unset, .unset, .unset] [(.ref b247)]) := fun t k => k249 t (st251.trans k)
        have k253 : Way p e below S0 T251 (mkF m 57 #[iv p1, iv p2, rv w_VIEW, iv (1 : Int32), iv (1 : Int32), rv b247, .unset, .unset, .unset] [(.ref b247)]) := by
          intro t k
          refine k252 t ?_
          refine XS.astore X251.here hx rfl (hb hby at_53) rfl rfl (l' := #[iv p1, iv p2, rv w_VIEW, iv (1 : Int32), iv (1 : Int32), rv b247, .unset, .unset, .unset]) rfl ?_
          show Steps p.tables e below (T251.setTop (mkF m 55 #[iv p1, iv p2, rv w_VIEW, iv (1 : Int32), iv (1 : Int32), rv b247, .unset, .unset, .unset] [])) _
          refine XS.aload X251.here hx rfl (hb hby at_55) rfl rfl ?_
          show Steps p.tables e below (T251.setTop (mkF m 57 #[iv p1, iv p2, rv w_VIEW, iv (1 : Int32), iv (1 : Int32), rv b247, .unset, .unset, .unset] [(.ref b247)])) _
          exact k
        obtain ⟨cq254, kq254, qq254a, qq254b, qq254c⟩ := isOf hZ rfl po251_0
        obtain ⟨_, _, ⟨T254, L254, kk254, nn254⟩, -, Xr254, hSr254, hgr254, ⟨Lc254, hQ254, l254, y254, z254, Rr254⟩, st254⟩ := X251.virtualBackS hx (y := (⟨"caseward/policy/Access", "piiWord", "()Ljava/lang/String;"⟩ : MethodName)) (z := (⟨"caseward/policy/Access", "piiWord", "()Ljava/lang/String;"⟩ : MethodName)) hown (mvT hZ (hw _ (List.mem_of_getElem? (i := 29) rfl))) (mvT hZ (hw _ (List.mem_of_getElem? (i := 30) rfl))) (notFace_of_selects (args := #[]) (mvT hZ (hw _ (List.mem_of_getElem? (i := 32) rfl)))) (mvT hZ (hw _ (List.mem_of_getElem? (i := 32) rfl))) (mvT hZ (hw _ (List.mem_of_getElem? (i := 31) rfl))) (by decide) (backOfSH (s := s) (vm0 := s.vm) (W := 0) (piiWord1 l Z a0 hw [] w_NONE w_VIEW w_EDIT wCS G b247 T251.heap n0 O251 (po251_1 : Fld Z T251.heap b247 "caseward/policy/Access" "pii" "Z" (.int (1 : Int32)))) hZ (hw _ (List.mem_of_getElem? (i := 33) rfl)) (hw _ (List.mem_of_getElem? (i := 10) rfl)) (by decide) (by decide) (own_EW hw) R251.1) qq254a qq254c (g := (mkF m 57 #[iv p1, iv p2, rv w_VIEW, iv (1 : Int32), iv (1 : Int32), rv b247, .unset, .unset, .unset] [(.ref b247)])) rfl (by rw [hml]; rfl) (Steps.refl _) (argsL := []) (rest := []) (lenOf pd_4 rfl) rfl (by show 2 * 0 + _ ≤ _; exact Nat.le_of_eq rfl) (hb hby at_57) (fun _ _ => ⟨rfl, rfl, (by decide : 1 + 2 ≤ _), (by decide : 3 + 36 ≤ _)⟩)
        dsimp only [Pt.U, Pt.locs, Pt.cells, Pt.slots] at Xr254 hSr254 hgr254 l254 y254 z254 st254 hQ254 Rr254
        subst l254 y254 z254
        obtain ⟨X254, hS254, hZ254, ho254⟩ := rebS (s := s) (vm0 := s.vm) hS0 (Nat.zero_le _) Xr254 hSr254 hgr254 hZ hown
        have hZ := hZ254
        have hown := ho254
        obtain ⟨a2_254, a3_254, kk1_254, rfl, Nq254, Kq254, po254_0, po254_1, po254_2, po254_3⟩ := hQ254
        have N254 := Fr.app N251 Nq254
        have O254 := O251.keep Kq254 all0
        have R254 : CHr Z own_EL s.vm h0 T254.vm T254.heap := R251.trans Rr254
        have k255 : Way p e below S0 T254 (mkF m 60 #[iv p1, iv p2, rv w_VIEW, iv (1 : Int32), iv (1 : Int32), rv b247, .unset, .unset, .unset] [(.ref a2_254)]) := fun t k => k253 t (st254.trans k)
        have k256 : Way p e below S0 T254 (mkF m 71 #[iv p1, iv p2, rv w_VIEW, iv (1 : Int32), iv (1 : Int32), rv b247, rv a2_254, .unset, .unset] [(.ref a2_254)]) := by
          intro t k
          refine k255 t ?_
          refine XS.astore X254.here hx rfl (hb hby at_60) rfl rfl (l' := #[iv p1, iv p2, rv w_VIEW, iv (1 : Int32), iv (1 : Int32), rv b247, rv a2_254, .unset, .unset]) rfl ?_
          show Steps p.tables e below (T254.setTop (mkF m 62 #[iv p1, iv p2, rv w_VIEW, iv (1 : Int32), iv (1 : Int32), rv b247, rv a2_254, .unset, .unset] [])) _
          refine XS.aload X254.here hx rfl (hb hby at_62) rfl rfl ?_
          show Steps p.tables e below (T254.setTop (mkF m 64 #[iv p1, iv p2, rv w_VIEW, iv (1 : Int32), iv (1 : Int32), rv b247, rv a2_254, .unset, .unset] [(.ref a2_254)])) _
          refine XS.ifnonnullYes X254.here hx rfl (pc0 := 64) (pc' := 69) rfl (hb hby at_64) rfl (by decide) (by decide) ?_
          show Steps p.tables e below (T254.setTop (mkF m 69 #[iv p1, iv p2, rv w_VIEW, iv (1 : Int32), iv (1 : Int32), rv b247, rv a2_254, .unset, .unset] [])) _
          refine XS.aload X254.here hx rfl (hb hby at_69) rfl rfl ?_
          show Steps p.tables e below (T254.setTop (mkF m 71 #[iv p1, iv p2, rv w_VIEW, iv (1 : Int32), iv (1 : Int32), rv b247, rv a2_254, .unset, .unset] [(.ref a2_254)])) _
          exact k
        obtain ⟨la257, T257, h257, ks257, lb257, lk257, X257, e257, E257, hS257, hk257, hZ257, ho257, Fe257, Fc257, Fv257, Va257, -, -, Rr257, Li257, Sa257, st257⟩ := ldcCH (s := s) (vm0 := T254.vm) (EL := own_EL) X254 hx hZ hown (hw _ (List.mem_of_getElem? (i := 42) rfl)) (own_strW hw) rfl hS254 (Nat.le_trans (Nat.le_refl _) (Nat.le_refl _)) (own_EW hw) (by decide) R254.1 (vs := [(.int (117 : Int32)), (.int (110 : Int32)), (.int (109 : Int32)), (.int (97 : Int32)), (.int (115 : Int32)), (.int (107 : Int32)), (.int (101 : Int32)), (.int (100 : Int32))]) (z := (8 : Int32)) ⟨by decide, by decide⟩ (by decide) (by decide) (g := (mkF m 71 #[iv p1, iv p2, rv w_VIEW, iv (1 : Int32), iv (1 : Int32), rv b247, rv a2_254, .unset, .unset] [(.ref a2_254)])) rfl (hb hby at_71) (n := 32) (by decide) (by decide) (by decide) (by decide)
        have hZ := hZ257
        have hown := ho257
        have R257 : CHr Z own_EL s.vm h0 T257.vm h257 := R254.trans Rr257
        have O257 := O254.ext E257
        have k258 : Way p e below S0 T257 (mkF m 73 #[iv p1, iv p2, rv w_VIEW, iv (1 : Int32), iv (1 : Int32), rv b247, rv a2_254, .unset, .unset] [(.ref la257), (.ref a2_254)]) := fun t k => k256 t (st257 _ k)
        have f259 : Fld Z h257 a2_254 "java/lang/String" "coder" "B" (.int (0 : Int32)) := (po254_1.ext E257)
        have f260 : Fld Z h257 a2_254 "java/lang/String" "value" "[B" (.ref a3_254) := (po254_2.ext E257)
        have f261 : Arv Z h257 a3_254 kk1_254 .byte (8 : Int32) [(.int (117 : Int32)), (.int (110 : Int32)), (.int (109 : Int32)), (.int (97 : Int32)), (.int (115 : Int32)), (.int (107 : Int32)), (.int (101 : Int32)), (.int (100 : Int32))] (.int (0 : Int32)) := (po254_3.ext E257)
        have f263 : Exa Z h257 a2_254 "java/lang/String" := (po254_0.ext E257)
        obtain ⟨cq262, kq262, qq262a, qq262b, qq262c⟩ := isOf hZ e257 f263
        obtain ⟨_, _, ⟨T262, L262, kk262, nn262⟩, -, X262, ⟨Lc262, hQ262, l262, y262, z262⟩, st262⟩ := X257.virtualBack hx (y := (⟨"java/lang/String", "equals", "(Ljava/lang/Object;)Z"⟩ : MethodName)) (z := (⟨"java/lang/String", "equals", "(Ljava/lang/Object;)Z"⟩ : MethodName)) hown (mvT hZ (hw _ (List.mem_of_getElem? (i := 43) rfl))) (mvT hZ (hw _ (List.mem_of_getElem? (i := 44) rfl))) (notFace_of_selects (args := #[]) (mvT hZ (hw _ (List.mem_of_getElem? (i := 46) rfl)))) (mvT hZ (hw _ (List.mem_of_getElem? (i := 46) rfl))) (mvT hZ (hw _ (List.mem_of_getElem? (i := 45) rfl))) (by decide) (backOf (W := 0) (seq11 l Z a0 hw [] w_NONE w_VIEW w_EDIT wCS G a2_254 la257 a3_254 lb257 kk1_254 lk257 h257 n0 O257 (f259 : Fld Z h257 a2_254 "java/lang/String" "coder" "B" (.int (0 : Int32))) (f260 : Fld Z h257 a2_254 "java/lang/String" "value" "[B" (.ref a3_254)) (f261 : Arv Z h257 a3_254 kk1_254 .byte (8 : Int32) [(.int (117 : Int32)), (.int (110 : Int32)), (.int (109 : Int32)), (.int (97 : Int32)), (.int (115 : Int32)), (.int (107 : Int32)), (.int (101 : Int32)), (.int (100 : Int32))] (.int (0 : Int32))) (Fe257 : Exa Z h257 la257 "java/lang/String") (Fc257 : Fld Z h257 la257 "java/lang/String" "coder" "B" (.int (0 : Int32))) (Fv257 : Fld Z h257 la257 "java/lang/String" "value" "[B" (.ref lb257)) (Va257 : Arv Z h257 lb257 lk257 .byte (8 : Int32) [(.int (117 : Int32)), (.int (110 : Int32)), (.int (109 : Int32)), (.int (97 : Int32)), (.int (115 : Int32)), (.int (107 : Int32)), (.int (101 : Int32)), (.int (100 : Int32))] (.int (0 : Int32)))) hZ (hw _ (List.mem_of_getElem? (i := 47) rfl)) (hw _ (List.mem_of_getElem? (i := 35) rfl)) (by decide) (by decide)) qq262a qq262c (g := (mkF m 73 #[iv p1, iv p2, rv w_VIEW, iv (1 : Int32), iv (1 : Int32), rv b247, rv a2_254, .unset, .unset] [(.ref la257), (.ref a2_254)])) rfl (by rw [hml]; rfl) (Steps.refl _) (argsL := [(.ref la257)]) (rest := []) (lenOf pd_5 rfl) rfl (by show 2 * 0 + _ ≤ _; exact Nat.le_of_eq rfl) (hb hby at_73) (fun _ _ => ⟨rfl, e257, (by decide : 5 + 0 ≤ _), (by decide : 75 + 0 ≤ _)⟩)
        dsimp only [Pt.U, Pt.locs, Pt.cells, Pt.slots] at X262 l262 y262 z262 st262 hQ262
        subst l262 y262 z262
        obtain ⟨rfl, Nq262, e262⟩ := hQ262
        have N262 := Fr.app N254 Nq262
        have k264 : Way p e below S0 T262 (mkF m 76 #[iv p1, iv p2, rv w_VIEW, iv (1 : Int32), iv (1 : Int32), rv b247, rv a2_254, .unset, .unset] [(.int (1 : Int32))]) := fun t k => k258 t (st262.trans k)
        have k265 : Way p e below S0 T262 (mkF m 80 #[iv p1, iv p2, rv w_VIEW, iv (1 : Int32), iv (1 : Int32), rv b247, rv a2_254, iv (1 : Int32), .unset] [(.ref a2_254)]) := by
          intro t k
          refine k264 t ?_
          refine XS.istore X262.here hx rfl (hb hby at_76) rfl (l' := #[iv p1, iv p2, rv w_VIEW, iv (1 : Int32), iv (1 : Int32), rv b247, rv a2_254, iv (1 : Int32), .unset]) rfl ?_
          show Steps p.tables e below (T262.setTop (mkF m 78 #[iv p1, iv p2, rv w_VIEW, iv (1 : Int32), iv (1 : Int32), rv b247, rv a2_254, iv (1 : Int32), .unset] [])) _
          refine XS.aload X262.here hx rfl (hb hby at_78) rfl rfl ?_
          show Steps p.tables e below (T262.setTop (mkF m 80 #[iv p1, iv p2, rv w_VIEW, iv (1 : Int32), iv (1 : Int32), rv b247, rv a2_254, iv (1 : Int32), .unset] [(.ref a2_254)])) _
          exact k
        obtain ⟨la266, T266, h266, ks266, lb266, lk266, X266, e266, E266, hS266, hk266, hZ266, ho266, Fe266, Fc266, Fv266, Va266, -, -, Rr266, Li266, Sa266, st266⟩ := ldcCH (s := s) (vm0 := T257.vm) (EL := own_EL) X262 hx hZ hown (hw _ (List.mem_of_getElem? (i := 57) rfl)) (own_strW hw) e262 hS257 (Nat.le_trans hk257 (Nat.le_refl _)) (own_EW hw) (by decide) R257.1 (vs := [(.int (109 : Int32)), (.int (97 : Int32)), (.int (115 : Int32)), (.int (107 : Int32)), (.int (101 : Int32)), (.int (100 : Int32))]) (z := (6 : Int32)) ⟨by decide, by decide⟩ (by decide) (by decide) (g := (mkF m 80 #[iv p1, iv p2, rv w_VIEW, iv (1 : Int32), iv (1 : Int32), rv b247, rv a2_254, iv (1 : Int32), .unset] [(.ref a2_254)])) rfl (hb hby at_80) (n := 24) (by decide) (by decide) (by decide) (by decide)
        have hZ := hZ266
        have hown := ho266
        have R266 : CHr Z own_EL s.vm h0 T266.vm h266 := R257.trans Rr266
        have O266 := O257.ext E266
        have k267 : Way p e below S0 T266 (mkF m 82 #[iv p1, iv p2, rv w_VIEW, iv (1 : Int32), iv (1 : Int32), rv b247, rv a2_254, iv (1 : Int32), .unset] [(.ref la266), (.ref a2_254)]) := fun t k => k265 t (st266 _ k)
        have f268 : Fld Z h266 a2_254 "java/lang/String" "value" "[B" (.ref a3_254) := (f260.ext E266)
        have f269 : Arv Z h266 a3_254 kk1_254 .byte (8 : Int32) [(.int (117 : Int32)), (.int (110 : Int32)), (.int (109 : Int32)), (.int (97 : Int32)), (.int (115 : Int32)), (.int (107 : Int32)), (.int (101 : Int32)), (.int (100 : Int32))] (.int (0 : Int32)) := (f261.ext E266)
        have f270 : Fld Z h266 a2_254 "java/lang/String" "coder" "B" (.int (0 : Int32)) := (f259.ext E266)
        have f272 : Exa Z h266 a2_254 "java/lang/String" := (f263.ext E266)
        obtain ⟨cq271, kq271, qq271a, qq271b, qq271c⟩ := isOf hZ e266 f272
        obtain ⟨_, _, ⟨T271, L271, kk271, nn271⟩, -, X271, ⟨Lc271, hQ271, l271, y271, z271⟩, st271⟩ := X266.virtualBack hx (y := (⟨"java/lang/String", "equals", "(Ljava/lang/Object;)Z"⟩ : MethodName)) (z := (⟨"java/lang/String", "equals", "(Ljava/lang/Object;)Z"⟩ : MethodName)) hown (mvT hZ (hw _ (List.mem_of_getElem? (i := 43) rfl))) (mvT hZ (hw _ (List.mem_of_getElem? (i := 44) rfl))) (notFace_of_selects (args := #[]) (mvT hZ (hw _ (List.mem_of_getElem? (i := 46) rfl)))) (mvT hZ (hw _ (List.mem_of_getElem? (i := 46) rfl))) (mvT hZ (hw _ (List.mem_of_getElem? (i := 45) rfl))) (by decide) (backOf (W := 0) (seq10 l Z a0 hw [] w_NONE w_VIEW w_EDIT wCS G a2_254 la266 a3_254 lb266 kk1_254 lk266 h266 n0 O266 (f270 : Fld Z h266 a2_254 "java/lang/String" "coder" "B" (.int (0 : Int32))) (f268 : Fld Z h266 a2_254 "java/lang/String" "value" "[B" (.ref a3_254)) (f269 : Arv Z h266 a3_254 kk1_254 .byte (8 : Int32) [(.int (117 : Int32)), (.int (110 : Int32)), (.int (109 : Int32)), (.int (97 : Int32)), (.int (115 : Int32)), (.int (107 : Int32)), (.int (101 : Int32)), (.int (100 : Int32))] (.int (0 : Int32))) (Fe266 : Exa Z h266 la266 "java/lang/String") (Fc266 : Fld Z h266 la266 "java/lang/String" "coder" "B" (.int (0 : Int32))) (Fv266 : Fld Z h266 la266 "java/lang/String" "value" "[B" (.ref lb266)) (Va266 : Arv Z h266 lb266 lk266 .byte (6 : Int32) [(.int (109 : Int32)), (.int (97 : Int32)), (.int (115 : Int32)), (.int (107 : Int32)), (.int (101 : Int32)), (.int (100 : Int32))] (.int (0 : Int32))) (Fld.ne f268 Fv266 (fun q => absurd (Value.ref.inj q) (arv_ne f269 Va266 (Or.inl (by decide)))) : a2_254 ≠ la266)) hZ (hw _ (List.mem_of_getElem? (i := 47) rfl)) (hw _ (List.mem_of_getElem? (i := 35) rfl)) (by decide) (by decide)) qq271a qq271c (g := (mkF m 82 #[iv p1, iv p2, rv w_VIEW, iv (1 : Int32), iv (1 : Int32), rv b247, rv a2_254, iv (1 : Int32), .unset] [(.ref la266), (.ref a2_254)])) rfl (by rw [hml]; rfl) (Steps.refl _) (argsL := [(.ref la266)]) (rest := []) (lenOf pd_5 rfl) rfl (by show 2 * 0 + _ ≤ _; exact Nat.le_of_eq rfl) (hb hby at_82) (fun _ _ => ⟨rfl, e266, (by decide : 7 + 0 ≤ _), (by decide : 103 + 0 ≤ _)⟩)
        dsimp only [Pt.U, Pt.locs, Pt.cells, Pt.slots] at X271 l271 y271 z271 st271 hQ271
        subst l271 y271 z271
        obtain ⟨rfl, Nq271, e271⟩ := hQ271
        have N271 := Fr.app N262 Nq271
        have k273 : Way p e below S0 T271 (mkF m 85 #[iv p1, iv p2, rv w_VIEW, iv (1 : Int32), iv (1 : Int32), rv b247, rv a2_254, iv (1 : Int32), .unset] [(.int (0 : Int32))]) := fun t k => k267 t (st271.trans k)
        have k274 : Way p e below S0 T271 (mkF m 112 #[iv p1, iv p2, rv w_VIEW, iv (1 : Int32), iv (1 : Int32), rv b247, rv a2_254, iv (1 : Int32), iv (0 : Int32)] [(.int (1 : Int32))]) := by
          intro t k
          refine k273 t ?_
          refine XS.istore X271.here hx rfl (hb hby at_85) rfl (l' := #[iv p1, iv p2, rv w_VIEW, iv (1 : Int32), iv (1 : Int32), rv b247, rv a2_254, iv (1 : Int32), iv (0 : Int32)]) rfl ?_
          show Steps p.tables e below (T271.setTop (mkF m 87 #[iv p1, iv p2, rv w_VIEW, iv (1 : Int32), iv (1 : Int32), rv b247, rv a2_254, iv (1 : Int32), iv (0 : Int32)] [])) _
          refine XS.iload X271.here hx rfl (hb hby at_87) rfl ?_
          show Steps p.tables e below (T271.setTop (mkF m 89 #[iv p1, iv p2, rv w_VIEW, iv (1 : Int32), iv (1 : Int32), rv b247, rv a2_254, iv (1 : Int32), iv (0 : Int32)] [(.int (1 : Int32))])) _
          refine XS.iloadN X271.here hx rfl (hb hby at_89) rfl ?_
          show Steps p.tables e below (T271.setTop (mkF m 90 #[iv p1, iv p2, rv w_VIEW, iv (1 : Int32), iv (1 : Int32), rv b247, rv a2_254, iv (1 : Int32), iv (0 : Int32)] [(.int (1 : Int32)), (.int (1 : Int32))])) _
          refine XS.icmpNo X271.here hx rfl (hb hby at_90) rfl (teq ((by decide) : (1 : Int32) = (1 : Int32))).2 ?_
          show Steps p.tables e below (T271.setTop (mkF m 93 #[iv p1, iv p2, rv w_VIEW, iv (1 : Int32), iv (1 : Int32), rv b247, rv a2_254, iv (1 : Int32), iv (0 : Int32)] [])) _
          refine XS.iload X271.here hx rfl (hb hby at_93) rfl ?_
          show Steps p.tables e below (T271.setTop (mkF m 95 #[iv p1, iv p2, rv w_VIEW, iv (1 : Int32), iv (1 : Int32), rv b247, rv a2_254, iv (1 : Int32), iv (0 : Int32)] [(.int (0 : Int32))])) _
          refine XS.iloadN X271.here hx rfl (hb hby at_95) rfl ?_
          show Steps p.tables e below (T271.setTop (mkF m 96 #[iv p1, iv p2, rv w_VIEW, iv (1 : Int32), iv (1 : Int32), rv b247, rv a2_254, iv (1 : Int32), iv (0 : Int32)] [(.int (1 : Int32)), (.int (0 : Int32))])) _
          refine XS.ifYes X271.here hx rfl (pc0 := 96) (pc' := 103) rfl (hb hby at_96) rfl ((if0 _ _).trans (feq ((by decide) : ¬ ((1 : Int32) = (0 : Int32)))).2) (by decide) (by decide) ?_
          show Steps p.tables e below (T271.setTop (mkF m 103 #[iv p1, iv p2, rv w_VIEW, iv (1 : Int32), iv (1 : Int32), rv b247, rv a2_254, iv (1 : Int32), iv (0 : Int32)] [(.int (0 : Int32))])) _
          refine XS.iconst X271.here hx rfl (hb hby at_103) ?_
          show Steps p.tables e below (T271.setTop (mkF m 104 #[iv p1, iv p2, rv w_VIEW, iv (1 : Int32), iv (1 : Int32), rv b247, rv a2_254, iv (1 : Int32), iv (0 : Int32)] [(.int (0 : Int32)), (.int (0 : Int32))])) _
          refine XS.icmpNo X271.here hx rfl (hb hby at_104) rfl (teq ((by decide) : (0 : Int32) = (0 : Int32))).2 ?_
          show Steps p.tables e below (T271.setTop (mkF m 107 #[iv p1, iv p2, rv w_VIEW, iv (1 : Int32), iv (1 : Int32), rv b247, rv a2_254, iv (1 : Int32), iv (0 : Int32)] [])) _
          refine XS.iconst X271.here hx rfl (hb hby at_107) ?_
          show Steps p.tables e below (T271.setTop (mkF m 108 #[iv p1, iv p2, rv w_VIEW, iv (1 : Int32), iv (1 : Int32), rv b247, rv a2_254, iv (1 : Int32), iv (0 : Int32)] [(.int (1 : Int32))])) _
          refine XS.goto X271.here hx rfl (pc0 := 108) (pc' := 112) rfl (hb hby at_108) (by decide) (by decide) ?_
          show Steps p.tables e below (T271.setTop (mkF m 112 #[iv p1, iv p2, rv w_VIEW, iv (1 : Int32), iv (1 : Int32), rv b247, rv a2_254, iv (1 : Int32), iv (0 : Int32)] [(.int (1 : Int32))])) _
          exact k
        obtain ⟨fs, hr, hrun, hended, hRW⟩ := Stand.leaveW (s := s) (vm₁ := T266.vm) X271 hS266 (by rw [e271]; exact (Nat.le_trans hk266 (Nat.le_refl _))) (v := some (.int (1 : Int32))) (fun h => by rw [Bd.returns] at h; cases h)
        have RF : CHr Z own_EL s.vm h0 T271.vm h266 := R266.trans (CHv.at (s := s) (vm0 := T266.vm) X271 hZ (own_EW hw) R266.1)
        refine ⟨_, _, k274 _ (retN X271 hx (t := .boolean) Bd.returns (by simp) (hb hby at_112) hr), hrun, hended, _, _, rfl, ?_, (by show CHr Z own_EL s.vm s.heap T271.vm T271.heap; rw [hh, e271]; exact RF), own_rw hRW (by decide) (by decide)⟩
        show Q_law_met Z w_NONE w_VIEW w_EDIT wCS p1 p2 h0 n0 _ T271.heap _
        rw [e271]
        exact ⟨rfl, N271⟩
  · have k275 : Way p e below S0 T2 (mkF m 5 #[iv p1, iv p2, rv w_EDIT, .unset, .unset, .unset, .unset, .unset, .unset] []) := by have q := k4; rw [hl2] at q; exact q
    have k277 : Way p e below S0 T2 (mkF m 8 #[iv p1, iv p2, rv w_EDIT, .unset, .unset, .unset, .unset, .unset, .unset] [(.int (p2 &&& (1 : Int32)))]) := by
      intro t k
      refine k275 t ?_
      refine XS.iloadN X2.here hx rfl (hb hby at_5) rfl ?_
      show Steps p.tables e below (T2.setTop (mkF m 6 #[iv p1, iv p2, rv w_EDIT, .unset, .unset, .unset, .unset, .unset, .unset] [(.int p2)])) _
      refine XS.iconst X2.here hx rfl (hb hby at_6) ?_
      show Steps p.tables e below (T2.setTop (mkF m 7 #[iv p1, iv p2, rv w_EDIT, .unset, .unset, .unset, .unset, .unset, .unset] [(.int (1 : Int32)), (.int p2)])) _
      refine XS.iand X2.here hx rfl (hb hby at_7) rfl ?_
      show Steps p.tables e below (T2.setTop (mkF m 8 #[iv p1, iv p2, rv w_EDIT, .unset, .unset, .unset, .unset, .unset, .unset] [(.int (p2 &&& (1 : Int32)))])) _
      exact k
    by_cases hc276 : (p2 &&& (1 : Int32)) = (0 : Int32)
    · have k279 : Way p e below S0 T2 (mkF m 20 #[iv p1, iv p2, rv w_EDIT, iv (0 : Int32), .unset, .unset, .unset, .unset, .unset] [(.int (p2 &&& (2 : Int32)))]) := by
        intro t k
        refine k277 t ?_
        refine XS.ifYes X2.here hx rfl (pc0 := 8) (pc' := 15) rfl (hb hby at_8) rfl ((if0 _ _).trans (teq (hc276 : (p2 &&& (1 : Int32)) = (0 : Int32))).1) (by decide) (by decide) ?_
        show Steps p.tables e below (T2.setTop (mkF m 15 #[iv p1, iv p2, rv w_EDIT, .unset, .unset, .unset, .unset, .unset, .unset] [])) _
        refine XS.iconst X2.here hx rfl (hb hby at_15) ?_
        show Steps p.tables e below (T2.setTop (mkF m 16 #[iv p1, iv p2, rv w_EDIT, .unset, .unset, .unset, .unset, .unset, .unset] [(.int (0 : Int32))])) _
        refine XS.istoreN X2.here hx rfl (hb hby at_16) rfl (l' := #[iv p1, iv p2, rv w_EDIT, iv (0 : Int32), .unset, .unset, .unset, .unset, .unset]) rfl ?_
        show Steps p.tables e below (T2.setTop (mkF m 17 #[iv p1, iv p2, rv w_EDIT, iv (0 : Int32), .unset, .unset, .unset, .unset, .unset] [])) _
        refine XS.iloadN X2.here hx rfl (hb hby at_17) rfl ?_
        show Steps p.tables e below (T2.setTop (mkF m 18 #[iv p1, iv p2, rv w_EDIT, iv (0 : Int32), .unset, .unset, .unset, .unset, .unset] [(.int p2)])) _
        refine XS.iconst X2.here hx rfl (hb hby at_18) ?_
        show Steps p.tables e below (T2.setTop (mkF m 19 #[iv p1, iv p2, rv w_EDIT, iv (0 : Int32), .unset, .unset, .unset, .unset, .unset] [(.int (2 : Int32)), (.int p2)])) _
        refine XS.iand X2.here hx rfl (hb hby at_19) rfl ?_
        show Steps p.tables e below (T2.setTop (mkF m 20 #[iv p1, iv p2, rv w_EDIT, iv (0 : Int32), .unset, .unset, .unset, .unset, .unset] [(.int (p2 &&& (2 : Int32)))])) _
        exact k
      by_cases hc278 : (p2 &&& (2 : Int32)) = (0 : Int32)
      · have k280 : Way p e below S0 T2 (mkF m 31 #[iv p1, iv p2, rv w_EDIT, iv (0 : Int32), iv (0 : Int32), .unset, .unset, .unset, .unset] [(.ref w_EDIT)]) := by
          intro t k
          refine k279 t ?_
          refine XS.ifYes X2.here hx rfl (pc0 := 20) (pc' := 27) rfl (hb hby at_20) rfl ((if0 _ _).trans (teq (hc278 : (p2 &&& (2 : Int32)) = (0 : Int32))).1) (by decide) (by decide) ?_
          show Steps p.tables e below (T2.setTop (mkF m 27 #[iv p1, iv p2, rv w_EDIT, iv (0 : Int32), .unset, .unset, .unset, .unset, .unset] [])) _
          refine XS.iconst X2.here hx rfl (hb hby at_27) ?_
          show Steps p.tables e below (T2.setTop (mkF m 28 #[iv p1, iv p2, rv w_EDIT, iv (0 : Int32), .unset, .unset, .unset, .unset, .unset] [(.int (0 : Int32))])) _
          refine XS.istore X2.here hx rfl (hb hby at_28) rfl (l' := #[iv p1, iv p2, rv w_EDIT, iv (0 : Int32), iv (0 : Int32), .unset, .unset, .unset, .unset]) rfl ?_
          show Steps p.tables e below (T2.setTop (mkF m 30 #[iv p1, iv p2, rv w_EDIT, iv (0 : Int32), iv (0 : Int32), .unset, .unset, .unset, .unset] [])) _
          refine XS.aloadN X2.here hx rfl (hb hby at_30) rfl rfl ?_
          show Steps p.tables e below (T2.setTop (mkF m 31 #[iv p1, iv p2, rv w_EDIT, iv (0 : Int32), iv (0 : Int32), .unset, .unset, .unset, .unset] [(.ref w_EDIT)])) _
          exact k
        obtain ⟨T281, X281, e281, st281⟩ := getS2 X2 hx hZ hown (host := "") (Or.inl (hw _ (List.mem_of_getElem? (i := 5) rfl))) Via.refl e2 (S_w_NONE.ext O0.2) (g := (mkF m 31 #[iv p1, iv p2, rv w_EDIT, iv (0 : Int32), iv (0 : Int32), .unset, .unset, .unset, .unset] [(.ref w_EDIT)])) rfl (hb hby at_31)
        have k282 : Way p e below S0 T281 (mkF m 34 #[iv p1, iv p2, rv w_EDIT, iv (0 : Int32), iv (0 : Int32), .unset, .unset, .unset, .unset] [(.ref w_NONE), (.ref w_EDIT)]) := fun t k => k280 t (st281 _ k)
        have k283 : Way p e below S0 T281 (mkF m 42 #[iv p1, iv p2, rv w_EDIT, iv (0 : Int32), iv (0 : Int32), .unset, .unset, .unset, .unset] []) := by
          intro t k
          refine k282 t ?_
          refine Jvm.RoadKit.acmp (g := (mkF m 34 #[iv p1, iv p2, rv w_EDIT, iv (0 : Int32), iv (0 : Int32), .unset, .unset, .unset, .unset] [(.ref w_NONE), (.ref w_EDIT)])) X281 hx rfl rfl rfl (pc0 := 34) (pc' := 42) (same := false) rfl (hb hby at_34) rfl (decide_eq_false fun q => absurd (Value.ref.inj q) (F_w_EDIT_ordinal.ne F_w_NONE_ordinal (by decide))) (by decide) (by decide) ?_
          show Steps p.tables e below (T281.setTop (mkF m 42 #[iv p1, iv p2, rv w_EDIT, iv (0 : Int32), iv (0 : Int32), .unset, .unset, .unset, .unset] [])) _
          exact k
        obtain ⟨T284, h284, X284, e284, E284, A284, D284, U284, st284⟩ := newO X281 hx hZ hown (hw _ (List.mem_of_getElem? (i := 8) rfl)) (hw _ (List.mem_of_getElem? (i := 9) rfl)) (hw _ (List.mem_of_getElem? (i := 10) rfl)) e281 (g := (mkF m 42 #[iv p1, iv p2, rv w_EDIT, iv (0 : Int32), iv (0 : Int32), .unset, .unset, .unset, .unset] [])) rfl (hb hby at_42) (by decide) (by decide)
        obtain ⟨b284, g284⟩ : ∃ z, z = h0.size := ⟨_, rfl⟩
        rw [← g284] at A284 D284 U284 st284
        have R284 : CHr Z own_EL s.vm h0 s.vm h284 := R0.trans (CHr.ext E284 R0.1)
        have O284 := O0.ext E284
        have i284_level : Fld Z h284 b284 "caseward/policy/Access" "level" "Lcaseward/policy/Access$Level;" .null := D284 (Or.inr (hw _ (List.mem_of_getElem? (i := 24) rfl))) (ty := (.object "caseward/policy/Access$Level")) (by decide)
        have i284_pii : Fld Z h284 b284 "caseward/policy/Access" "pii" "Z" (.int (0 : Int32)) := D284 (Or.inr (hw _ (List.mem_of_getElem? (i := 26) rfl))) (ty := .boolean) (by decide)
        have i284_unblinded : Fld Z h284 b284 "caseward/policy/Access" "unblinded" "Z" (.int (0 : Int32)) := D284 (Or.inr (hw _ (List.mem_of_getElem? (i := 28) rfl))) (ty := .boolean) (by decide)
        have k285 : Way p e below S0 T284 (mkF m 45 #[iv p1, iv p2, rv w_EDIT, iv (0 : Int32), iv (0 : Int32), .unset, .unset, .unset, .unset] [(.ref b284)]) := fun t k => k283 t (st284 _ k)
        have k286 : Way p e below S0 T284 (mkF m 50 #[iv p1, iv p2, rv w_EDIT, iv (0 : Int32), iv (0 : Int32), .unset, .unset, .unset, .unset] [(.int (0 : Int32)), (.int (0 : Int32)), (.ref w_EDIT), (.ref b284), (.ref b284)]) := by
          intro t k
          refine k285 t ?_
          refine XS.dup X284.here hx rfl (hb hby at_45) rfl rfl ?_
          show Steps p.tables e below (T284.setTop (mkF m 46 #[iv p1, iv p2, rv w_EDIT, iv (0 : Int32), iv (0 : Int32), .unset, .unset, .unset, .unset] [(.ref b284), (.ref b284)])) _
          refine XS.aloadN X284.here hx rfl (hb hby at_46) rfl rfl ?_
          show Steps p.tables e below (T284.setTop (mkF m 47 #[iv p1, iv p2, rv w_EDIT, iv (0 : Int32), iv (0 : Int32), .unset, .unset, .unset, .unset] [(.ref w_EDIT), (.ref b284), (.ref b284)])) _
          refine XS.iloadN X284.here hx rfl (hb hby at_47) rfl ?_
          show Steps p.tables e below (T284.setTop (mkF m 48 #[iv p1, iv p2, rv w_EDIT, iv (0 : Int32), iv (0 : Int32), .unset, .unset, .unset, .unset] [(.int (0 : Int32)), (.ref w_EDIT), (.ref b284), (.ref b284)])) _
          refine XS.iload X284.here hx rfl (hb hby at_48) rfl ?_
          show Steps p.tables e below (T284.setTop (mkF m 50 #[iv p1, iv p2, rv w_EDIT, iv (0 : Int32), iv (0 : Int32), .unset, .unset, .unset, .unset] [(.int (0 : Int32)), (.int (0 : Int32)), (.ref w_EDIT), (.ref b284), (.ref b284)])) _
          exact k
        have ge287 : n0 ≤ b284 := Nat.le_trans (own_old O0) (Nat.le_of_eq g284.symm)
        obtain ⟨_, _, ⟨T288, L288, kk288, nn288⟩, -, X288, ⟨Lc288, hQ288, l288, y288, z288⟩, st288⟩ := X284.specialBack hx (y := (⟨"caseward/policy/Access", "<init>", "(Lcaseward/policy/Access$Level;ZZ)V"⟩ : MethodName)) rfl hown (mvT hZ (hw _ (List.mem_of_getElem? (i := 11) rfl))) (mvT hZ (hw _ (List.mem_of_getElem? (i := 12) rfl))) (mvT hZ (hw _ (List.mem_of_getElem? (i := 13) rfl))) (by decide) (backOf (W := 1) (init_EDIT00 l Z a0 hw [] w_NONE w_VIEW w_EDIT wCS G b284 h284 n0 O284 (A284 : Exa Z h284 b284 "caseward/policy/Access") (i284_level : Fld Z h284 b284 "caseward/policy/Access" "level" "Lcaseward/policy/Access$Level;" .null) (i284_pii : Fld Z h284 b284 "caseward/policy/Access" "pii" "Z" (.int (0 : Int32))) (i284_unblinded : Fld Z h284 b284 "caseward/policy/Access" "unblinded" "Z" (.int (0 : Int32))) (ge287 : n0 ≤ b284)) hZ (hw _ (List.mem_of_getElem? (i := 13) rfl)) (hw _ (List.mem_of_getElem? (i := 10) rfl)) (by decide) (by decide)) (g := (mkF m 50 #[iv p1, iv p2, rv w_EDIT, iv (0 : Int32), iv (0 : Int32), .unset, .unset, .unset, .unset] [(.int (0 : Int32)), (.int (0 : Int32)), (.ref w_EDIT), (.ref b284), (.ref b284)])) rfl (by rw [hml]; rfl) (Steps.refl _) (a := b284) (argsL := [(.ref w_EDIT), (.int (0 : Int32)), (.int (0 : Int32))]) (rest := [(.ref b284)]) (lenOf pd_3 rfl) rfl (by show 2 * 0 + _ ≤ _; exact Nat.le_of_eq rfl) (hb hby at_50) (fun _ _ => ⟨rfl, e284, (by decide : 1 + 0 ≤ _), (by decide : 3 + 0 ≤ _)⟩)
        dsimp only [Pt.U, Pt.locs, Pt.cells, Pt.slots] at X288 l288 y288 z288 st288 hQ288
        subst l288 y288 z288
        obtain ⟨rfl, Nq288, Kq288, po288_0, po288_1⟩ := hQ288
        have N288 := Fr.app N2 Nq288
        have O288 := O284.keep Kq288 (allS ge287 all0)
        have R288 : CHr Z own_EL s.vm h0 s.vm T288.heap := R284.trans (CHr.keep Kq288 (sfS (Safe.exa hZ.alike A284 (by decide) (by decide)) sf0) R284.1)
        have k289 : Way p e below S0 T288 (mkF m 53 #[iv p1, iv p2, rv w_EDIT, iv (0 : Int32), iv (0 : Int32), .unset, .unset, .unset, .unset] [(.ref b284)]) := fun t k => k286 t (st288.trans k)
        have k290 : Way p e below S0 T288 (mkF m 57 #[iv p1, iv p2, rv w_EDIT, iv (0 : Int32), iv (0 : Int32), rv b284, .unset, .unset, .unset] [(.ref b284)]) := by
          intro t k
          refine k289 t ?_
          refine XS.astore X288.here hx rfl (hb hby at_53) rfl rfl (l' := #[iv p1, iv p2, rv w_EDIT, iv (0 : Int32), iv (0 : Int32), rv b284, .unset, .unset, .unset]) rfl ?_
          show Steps p.tables e below (T288.setTop (mkF m 55 #[iv p1, iv p2, rv w_EDIT, iv (0 : Int32), iv (0 : Int32), rv b284, .unset, .unset, .unset] [])) _
          refine XS.aload X288.here hx rfl (hb hby at_55) rfl rfl ?_
          show Steps p.tables e below (T288.setTop (mkF m 57 #[iv p1, iv p2, rv w_EDIT, iv (0 : Int32), iv (0 : Int32), rv b284, .unset, .unset, .unset] [(.ref b284)])) _
          exact k
        obtain ⟨cq291, kq291, qq291a, qq291b, qq291c⟩ := isOf hZ rfl po288_0
        obtain ⟨_, _, ⟨T291, L291, kk291, nn291⟩, -, Xr291, hSr291, hgr291, ⟨Lc291, hQ291, l291, y291, z291, Rr291⟩, st291⟩ := X288.virtualBackS hx (y := (⟨"caseward/policy/Access", "piiWord", "()Ljava/lang/String;"⟩ : MethodName)) (z := (⟨"caseward/policy/Access", "piiWord", "()Ljava/lang/String;"⟩ : MethodName)) hown (mvT hZ (hw _ (List.mem_of_getElem? (i := 29) rfl))) (mvT hZ (hw _ (List.mem_of_getElem? (i := 30) rfl))) (notFace_of_selects (args := #[]) (mvT hZ (hw _ (List.mem_of_getElem? (i := 32) rfl)))) (mvT hZ (hw _ (List.mem_of_getElem? (i := 32) rfl))) (mvT hZ (hw _ (List.mem_of_getElem? (i := 31) rfl))) (by decide) (backOfSH (s := s) (vm0 := s.vm) (W := 0) (piiWord0 l Z a0 hw [] w_NONE w_VIEW w_EDIT wCS G b284 T288.heap n0 O288 (po288_1 : Fld Z T288.heap b284 "caseward/policy/Access" "pii" "Z" (.int (0 : Int32)))) hZ (hw _ (List.mem_of_getElem? (i := 33) rfl)) (hw _ (List.mem_of_getElem? (i := 10) rfl)) (by decide) (by decide) (own_EW hw) R288.1) qq291a qq291c (g := (mkF m 57 #[iv p1, iv p2, rv w_EDIT, iv (0 : Int32), iv (0 : Int32), rv b284, .unset, .unset, .unset] [(.ref b284)])) rfl (by rw [hml]; rfl) (Steps.refl _) (argsL := []) (rest := []) (lenOf pd_4 rfl) rfl (by show 2 * 0 + _ ≤ _; exact Nat.le_of_eq rfl) (hb hby at_57) (fun _ _ => ⟨rfl, rfl, (by decide : 1 + 2 ≤ _), (by decide : 3 + 28 ≤ _)⟩)
        dsimp only [Pt.U, Pt.locs, Pt.cells, Pt.slots] at Xr291 hSr291 hgr291 l291 y291 z291 st291 hQ291 Rr291
        subst l291 y291 z291
        obtain ⟨X291, hS291, hZ291, ho291⟩ := rebS (s := s) (vm0 := s.vm) hS0 (Nat.zero_le _) Xr291 hSr291 hgr291 hZ hown
        have hZ := hZ291
        have hown := ho291
        obtain ⟨a2_291, a3_291, kk1_291, rfl, Nq291, Kq291, po291_0, po291_1, po291_2, po291_3⟩ := hQ291
        have N291 := Fr.app N288 Nq291
        have O291 := O288.keep Kq291 all0
        have R291 : CHr Z own_EL s.vm h0 T291.vm T291.heap := R288.trans Rr291
        have k292 : Way p e below S0 T291 (mkF m 60 #[iv p1, iv p2, rv w_EDIT, iv (0 : Int32), iv (0 : Int32), rv b284, .unset, .unset, .unset] [(.ref a2_291)]) := fun t k => k290 t (st291.trans k)
        have k293 : Way p e below S0 T291 (mkF m 71 #[iv p1, iv p2, rv w_EDIT, iv (0 : Int32), iv (0 : Int32), rv b284, rv a2_291, .unset, .unset] [(.ref a2_291)]) := by
          intro t k
          refine k292 t ?_
          refine XS.astore X291.here hx rfl (hb hby at_60) rfl rfl (l' := #[iv p1, iv p2, rv w_EDIT, iv (0 : Int32), iv (0 : Int32), rv b284, rv a2_291, .unset, .unset]) rfl ?_
          show Steps p.tables e below (T291.setTop (mkF m 62 #[iv p1, iv p2, rv w_EDIT, iv (0 : Int32), iv (0 : Int32), rv b284, rv a2_291, .unset, .unset] [])) _
          refine XS.aload X291.here hx rfl (hb hby at_62) rfl rfl ?_
          show Steps p.tables e below (T291.setTop (mkF m 64 #[iv p1, iv p2, rv w_EDIT, iv (0 : Int32), iv (0 : Int32), rv b284, rv a2_291, .unset, .unset] [(.ref a2_291)])) _
          refine XS.ifnonnullYes X291.here hx rfl (pc0 := 64) (pc' := 69) rfl (hb hby at_64) rfl (by decide) (by decide) ?_
          show Steps p.tables e below (T291.setTop (mkF m 69 #[iv p1, iv p2, rv w_EDIT, iv (0 : Int32), iv (0 : Int32), rv b284, rv a2_291, .unset, .unset] [])) _
          refine XS.aload X291.here hx rfl (hb hby at_69) rfl rfl ?_
          show Steps p.tables e below (T291.setTop (mkF m 71 #[iv p1, iv p2, rv w_EDIT, iv (0 : Int32), iv (0 : Int32), rv b284, rv a2_291, .unset, .unset] [(.ref a2_291)])) _
          exact k
        obtain ⟨la294, T294, h294, ks294, lb294, lk294, X294, e294, E294, hS294, hk294, hZ294, ho294, Fe294, Fc294, Fv294, Va294, -, -, Rr294, Li294, Sa294, st294⟩ := ldcCH (s := s) (vm0 := T291.vm) (EL := own_EL) X291 hx hZ hown (hw _ (List.mem_of_getElem? (i := 42) rfl)) (own_strW hw) rfl hS291 (Nat.le_trans (Nat.le_refl _) (Nat.le_refl _)) (own_EW hw) (by decide) R291.1 (vs := [(.int (117 : Int32)), (.int (110 : Int32)), (.int (109 : Int32)), (.int (97 : Int32)), (.int (115 : Int32)), (.int (107 : Int32)), (.int (101 : Int32)), (.int (100 : Int32))]) (z := (8 : Int32)) ⟨by decide, by decide⟩ (by decide) (by decide) (g := (mkF m 71 #[iv p1, iv p2, rv w_EDIT, iv (0 : Int32), iv (0 : Int32), rv b284, rv a2_291, .unset, .unset] [(.ref a2_291)])) rfl (hb hby at_71) (n := 32) (by decide) (by decide) (by decide) (by decide)
        have hZ := hZ294
        have hown := ho294
        have R294 : CHr Z own_EL s.vm h0 T294.vm h294 := R291.trans Rr294
        have O294 := O291.ext E294
        have k295 : Way p e below S0 T294 (mkF m 73 #[iv p1, iv p2, rv w_EDIT, iv (0 : Int32), iv (0 : Int32), rv b284, rv a2_291, .unset, .unset] [(.ref la294), (.ref a2_291)]) := fun t k => k293 t (st294 _ k)
        have f296 : Fld Z h294 a2_291 "java/lang/String" "value" "[B" (.ref a3_291) := (po291_2.ext E294)
        have f297 : Arv Z h294 a3_291 kk1_291 .byte (6 : Int32) [(.int (109 : Int32)), (.int (97 : Int32)), (.int (115 : Int32)), (.int (107 : Int32)), (.int (101 : Int32)), (.int (100 : Int32))] (.int (0 : Int32)) := (po291_3.ext E294)
        have f298 : Fld Z h294 a2_291 "java/lang/String" "coder" "B" (.int (0 : Int32)) := (po291_1.ext E294)
        have f300 : Exa Z h294 a2_291 "java/lang/String" := (po291_0.ext E294)
        obtain ⟨cq299, kq299, qq299a, qq299b, qq299c⟩ := isOf hZ e294 f300
        obtain ⟨_, _, ⟨T299, L299, kk299, nn299⟩, -, X299, ⟨Lc299, hQ299, l299, y299, z299⟩, st299⟩ := X294.virtualBack hx (y := (⟨"java/lang/String", "equals", "(Ljava/lang/Object;)Z"⟩ : MethodName)) (z := (⟨"java/lang/String", "equals", "(Ljava/lang/Object;)Z"⟩ : MethodName)) hown (mvT hZ (hw _ (List.mem_of_getElem? (i := 43) rfl))) (mvT hZ (hw _ (List.mem_of_getElem? (i := 44) rfl))) (notFace_of_selects (args := #[]) (mvT hZ (hw _ (List.mem_of_getElem? (i := 46) rfl)))) (mvT hZ (hw _ (List.mem_of_getElem? (i := 46) rfl))) (mvT hZ (hw _ (List.mem_of_getElem? (i := 45) rfl))) (by decide) (backOf (W := 0) (seq01 l Z a0 hw [] w_NONE w_VIEW w_EDIT wCS G a2_291 la294 a3_291 lb294 kk1_291 lk294 h294 n0 O294 (f298 : Fld Z h294 a2_291 "java/lang/String" "coder" "B" (.int (0 : Int32))) (f296 : Fld Z h294 a2_291 "java/lang/String" "value" "[B" (.ref a3_291)) (f297 : Arv Z h294 a3_291 kk1_291 .byte (6 : Int32) [(.int (109 : Int32)), (.int (97 : Int32)), (.int (115 : Int32)), (.int (107 : Int32)), (.int (101 : Int32)), (.int (100 : Int32))] (.int (0 : Int32))) (Fe294 : Exa Z h294 la294 "java/lang/String") (Fc294 : Fld Z h294 la294 "java/lang/String" "coder" "B" (.int (0 : Int32))) (Fv294 : Fld Z h294 la294 "java/lang/String" "value" "[B" (.ref lb294)) (Va294 : Arv Z h294 lb294 lk294 .byte (8 : Int32) [(.int (117 : Int32)), (.int (110 : Int32)), (.int (109 : Int32)), (.int (97 : Int32)), (.int (115 : Int32)), (.int (107 : Int32)), (.int (101 : Int32)), (.int (100 : Int32))] (.int (0 : Int32))) (Fld.ne f296 Fv294 (fun q => absurd (Value.ref.inj q) (arv_ne f297 Va294 (Or.inl (by decide)))) : a2_291 ≠ la294)) hZ (hw _ (List.mem_of_getElem? (i := 47) rfl)) (hw _ (List.mem_of_getElem? (i := 35) rfl)) (by decide) (by decide)) qq299a qq299c (g := (mkF m 73 #[iv p1, iv p2, rv w_EDIT, iv (0 : Int32), iv (0 : Int32), rv b284, rv a2_291, .unset, .unset] [(.ref la294), (.ref a2_291)])) rfl (by rw [hml]; rfl) (Steps.refl _) (argsL := [(.ref la294)]) (rest := []) (lenOf pd_5 rfl) rfl (by show 2 * 0 + _ ≤ _; exact Nat.le_of_eq rfl) (hb hby at_73) (fun _ _ => ⟨rfl, e294, (by decide : 5 + 0 ≤ _), (by decide : 67 + 0 ≤ _)⟩)
        dsimp only [Pt.U, Pt.locs, Pt.cells, Pt.slots] at X299 l299 y299 z299 st299 hQ299
        subst l299 y299 z299
        obtain ⟨rfl, Nq299, e299⟩ := hQ299
        have N299 := Fr.app N291 Nq299
        have k301 : Way p e below S0 T299 (mkF m 76 #[iv p1, iv p2, rv w_EDIT, iv (0 : Int32), iv (0 : Int32), rv b284, rv a2_291, .unset, .unset] [(.int (0 : Int32))]) := fun t k => k295 t (st299.trans k)
        have k302 : Way p e below S0 T299 (mkF m 80 #[iv p1, iv p2, rv w_EDIT, iv (0 : Int32), iv (0 : Int32), rv b284, rv a2_291, iv (0 : Int32), .unset] [(.ref a2_291)]) := by
          intro t k
          refine k301 t ?_
          refine XS.istore X299.here hx rfl (hb hby at_76) rfl (l' := #[iv p1, iv p2, rv w_EDIT, iv (0 : Int32), iv (0 : Int32), rv b284, rv a2_291, iv (0 : Int32), .unset]) rfl ?_
          show Steps p.tables e below (T299.setTop (mkF m 78 #[iv p1, iv p2, rv w_EDIT, iv (0 : Int32), iv (0 : Int32), rv b284, rv a2_291, iv (0 : Int32), .unset] [])) _
          refine XS.aload X299.here hx rfl (hb hby at_78) rfl rfl ?_
          show Steps p.tables e below (T299.setTop (mkF m 80 #[iv p1, iv p2, rv w_EDIT, iv (0 : Int32), iv (0 : Int32), rv b284, rv a2_291, iv (0 : Int32), .unset] [(.ref a2_291)])) _
          exact k
        obtain ⟨la303, T303, h303, ks303, lb303, lk303, X303, e303, E303, hS303, hk303, hZ303, ho303, Fe303, Fc303, Fv303, Va303, -, -, Rr303, Li303, Sa303, st303⟩ := ldcCH (s := s) (vm0 := T294.vm) (EL := own_EL) X299 hx hZ hown (hw _ (List.mem_of_getElem? (i := 57) rfl)) (own_strW hw) e299 hS294 (Nat.le_trans hk294 (Nat.le_refl _)) (own_EW hw) (by decide) R294.1 (vs := [(.int (109 : Int32)), (.int (97 : Int32)), (.int (115 : Int32)), (.int (107 : Int32)), (.int (101 : Int32)), (.int (100 : Int32))]) (z := (6 : Int32)) ⟨by decide, by decide⟩ (by decide) (by decide) (g := (mkF m 80 #[iv p1, iv p2, rv w_EDIT, iv (0 : Int32), iv (0 : Int32), rv b284, rv a2_291, iv (0 : Int32), .unset] [(.ref a2_291)])) rfl (hb hby at_80) (n := 24) (by decide) (by decide) (by decide) (by decide)
        have hZ := hZ303
        have hown := ho303
        have R303 : CHr Z own_EL s.vm h0 T303.vm h303 := R294.trans Rr303
        have O303 := O294.ext E303
        have k304 : Way p e below S0 T303 (mkF m 82 #[iv p1, iv p2, rv w_EDIT, iv (0 : Int32), iv (0 : Int32), rv b284, rv a2_291, iv (0 : Int32), .unset] [(.ref la303), (.ref a2_291)]) := fun t k => k302 t (st303 _ k)
        have f305 : Fld Z h303 a2_291 "java/lang/String" "coder" "B" (.int (0 : Int32)) := (f298.ext E303)
        have f306 : Fld Z h303 a2_291 "java/lang/String" "value" "[B" (.ref a3_291) := (f296.ext E303)
        have f307 : Arv Z h303 a3_291 kk1_291 .byte (6 : Int32) [(.int (109 : Int32)), (.int (97 : Int32)), (.int (115 : Int32)), (.int (107 : Int32)), (.int (101 : Int32)), (.int (100 : Int32))] (.int (0 : Int32)) := (f297.ext E303)
        have f309 : Exa Z h303 a2_291 "java/lang/String" := (f300.ext E303)
        obtain ⟨cq308, kq308, qq308a, qq308b, qq308c⟩ := isOf hZ e303 f309
        obtain ⟨_, _, ⟨T308, L308, kk308, nn308⟩, -, X308, ⟨Lc308, hQ308, l308, y308, z308⟩, st308⟩ := X303.virtualBack hx (y := (⟨"java/lang/String", "equals", "(Ljava/lang/Object;)Z"⟩ : MethodName)) (z := (⟨"java/lang/String", "equals", "(Ljava/lang/Object;)Z"⟩ : MethodName)) hown (mvT hZ (hw _ (List.mem_of_getElem? (i := 43) rfl))) (mvT hZ (hw _ (List.mem_of_getElem? (i := 44) rfl))) (notFace_of_selects (args := #[]) (mvT hZ (hw _ (List.mem_of_getElem? (i := 46) rfl)))) (mvT hZ (hw _ (List.mem_of_getElem? (i := 46) rfl))) (mvT hZ (hw _ (List.mem_of_getElem? (i := 45) rfl))) (by decide) (backOf (W := 0) (seq00 l Z a0 hw [] w_NONE w_VIEW w_EDIT wCS G a2_291 la303 a3_291 lb303 kk1_291 lk303 h303 n0 O303 (f305 : Fld Z h303 a2_291 "java/lang/String" "coder" "B" (.int (0 : Int32))) (f306 : Fld Z h303 a2_291 "java/lang/String" "value" "[B" (.ref a3_291)) (f307 : Arv Z h303 a3_291 kk1_291 .byte (6 : Int32) [(.int (109 : Int32)), (.int (97 : Int32)), (.int (115 : Int32)), (.int (107 : Int32)), (.int (101 : Int32)), (.int (100 : Int32))] (.int (0 : Int32))) (Fe303 : Exa Z h303 la303 "java/lang/String") (Fc303 : Fld Z h303 la303 "java/lang/String" "coder" "B" (.int (0 : Int32))) (Fv303 : Fld Z h303 la303 "java/lang/String" "value" "[B" (.ref lb303)) (Va303 : Arv Z h303 lb303 lk303 .byte (6 : Int32) [(.int (109 : Int32)), (.int (97 : Int32)), (.int (115 : Int32)), (.int (107 : Int32)), (.int (101 : Int32)), (.int (100 : Int32))] (.int (0 : Int32)))) hZ (hw _ (List.mem_of_getElem? (i := 47) rfl)) (hw _ (List.mem_of_getElem? (i := 35) rfl)) (by decide) (by decide)) qq308a qq308c (g := (mkF m 82 #[iv p1, iv p2, rv w_EDIT, iv (0 : Int32), iv (0 : Int32), rv b284, rv a2_291, iv (0 : Int32), .unset] [(.ref la303), (.ref a2_291)])) rfl (by rw [hml]; rfl) (Steps.refl _) (argsL := [(.ref la303)]) (rest := []) (lenOf pd_5 rfl) rfl (by show 2 * 0 + _ ≤ _; exact Nat.le_of_eq rfl) (hb hby at_82) (fun _ _ => ⟨rfl, e303, (by decide : 7 + 0 ≤ _), (by decide : 95 + 0 ≤ _)⟩)
        dsimp only [Pt.U, Pt.locs, Pt.cells, Pt.slots] at X308 l308 y308 z308 st308 hQ308
        subst l308 y308 z308
        obtain ⟨rfl, Nq308, e308⟩ := hQ308
        have N308 := Fr.app N299 Nq308
        have k310 : Way p e below S0 T308 (mkF m 85 #[iv p1, iv p2, rv w_EDIT, iv (0 : Int32), iv (0 : Int32), rv b284, rv a2_291, iv (0 : Int32), .unset] [(.int (1 : Int32))]) := fun t k => k304 t (st308.trans k)
        have k311 : Way p e below S0 T308 (mkF m 112 #[iv p1, iv p2, rv w_EDIT, iv (0 : Int32), iv (0 : Int32), rv b284, rv a2_291, iv (0 : Int32), iv (1 : Int32)] [(.int (1 : Int32))]) := by
          intro t k
          refine k310 t ?_
          refine XS.istore X308.here hx rfl (hb hby at_85) rfl (l' := #[iv p1, iv p2, rv w_EDIT, iv (0 : Int32), iv (0 : Int32), rv b284, rv a2_291, iv (0 : Int32), iv (1 : Int32)]) rfl ?_
          show Steps p.tables e below (T308.setTop (mkF m 87 #[iv p1, iv p2, rv w_EDIT, iv (0 : Int32), iv (0 : Int32), rv b284, rv a2_291, iv (0 : Int32), iv (1 : Int32)] [])) _
          refine XS.iload X308.here hx rfl (hb hby at_87) rfl ?_
          show Steps p.tables e below (T308.setTop (mkF m 89 #[iv p1, iv p2, rv w_EDIT, iv (0 : Int32), iv (0 : Int32), rv b284, rv a2_291, iv (0 : Int32), iv (1 : Int32)] [(.int (0 : Int32))])) _
          refine XS.iloadN X308.here hx rfl (hb hby at_89) rfl ?_
          show Steps p.tables e below (T308.setTop (mkF m 90 #[iv p1, iv p2, rv w_EDIT, iv (0 : Int32), iv (0 : Int32), rv b284, rv a2_291, iv (0 : Int32), iv (1 : Int32)] [(.int (0 : Int32)), (.int (0 : Int32))])) _
          refine XS.icmpNo X308.here hx rfl (hb hby at_90) rfl (teq ((by decide) : (0 : Int32) = (0 : Int32))).2 ?_
          show Steps p.tables e below (T308.setTop (mkF m 93 #[iv p1, iv p2, rv w_EDIT, iv (0 : Int32), iv (0 : Int32), rv b284, rv a2_291, iv (0 : Int32), iv (1 : Int32)] [])) _
          refine XS.iload X308.here hx rfl (hb hby at_93) rfl ?_
          show Steps p.tables e below (T308.setTop (mkF m 95 #[iv p1, iv p2, rv w_EDIT, iv (0 : Int32), iv (0 : Int32), rv b284, rv a2_291, iv (0 : Int32), iv (1 : Int32)] [(.int (1 : Int32))])) _
          refine XS.iloadN X308.here hx rfl (hb hby at_95) rfl ?_
          show Steps p.tables e below (T308.setTop (mkF m 96 #[iv p1, iv p2, rv w_EDIT, iv (0 : Int32), iv (0 : Int32), rv b284, rv a2_291, iv (0 : Int32), iv (1 : Int32)] [(.int (0 : Int32)), (.int (1 : Int32))])) _
          refine XS.ifNo X308.here hx rfl (hb hby at_96) rfl ((if0 _ _).trans (teq ((by decide) : (0 : Int32) = (0 : Int32))).2) ?_
          show Steps p.tables e below (T308.setTop (mkF m 99 #[iv p1, iv p2, rv w_EDIT, iv (0 : Int32), iv (0 : Int32), rv b284, rv a2_291, iv (0 : Int32), iv (1 : Int32)] [(.int (1 : Int32))])) _
          refine XS.iconst X308.here hx rfl (hb hby at_99) ?_
          show Steps p.tables e below (T308.setTop (mkF m 100 #[iv p1, iv p2, rv w_EDIT, iv (0 : Int32), iv (0 : Int32), rv b284, rv a2_291, iv (0 : Int32), iv (1 : Int32)] [(.int (1 : Int32)), (.int (1 : Int32))])) _
          refine XS.goto X308.here hx rfl (pc0 := 100) (pc' := 104) rfl (hb hby at_100) (by decide) (by decide) ?_
          show Steps p.tables e below (T308.setTop (mkF m 104 #[iv p1, iv p2, rv w_EDIT, iv (0 : Int32), iv (0 : Int32), rv b284, rv a2_291, iv (0 : Int32), iv (1 : Int32)] [(.int (1 : Int32)), (.int (1 : Int32))])) _
          refine XS.icmpNo X308.here hx rfl (hb hby at_104) rfl (teq ((by decide) : (1 : Int32) = (1 : Int32))).2 ?_
          show Steps p.tables e below (T308.setTop (mkF m 107 #[iv p1, iv p2, rv w_EDIT, iv (0 : Int32), iv (0 : Int32), rv b284, rv a2_291, iv (0 : Int32), iv (1 : Int32)] [])) _
          refine XS.iconst X308.here hx rfl (hb hby at_107) ?_
          show Steps p.tables e below (T308.setTop (mkF m 108 #[iv p1, iv p2, rv w_EDIT, iv (0 : Int32), iv (0 : Int32), rv b284, rv a2_291, iv (0 : Int32), iv (1 : Int32)] [(.int (1 : Int32))])) _
          refine XS.goto X308.here hx rfl (pc0 := 108) (pc' := 112) rfl (hb hby at_108) (by decide) (by decide) ?_
          show Steps p.tables e below (T308.setTop (mkF m 112 #[iv p1, iv p2, rv w_EDIT, iv (0 : Int32), iv (0 : Int32), rv b284, rv a2_291, iv (0 : Int32), iv (1 : Int32)] [(.int (1 : Int32))])) _
          exact k
        obtain ⟨fs, hr, hrun, hended, hRW⟩ := Stand.leaveW (s := s) (vm₁ := T303.vm) X308 hS303 (by rw [e308]; exact (Nat.le_trans hk303 (Nat.le_refl _))) (v := some (.int (1 : Int32))) (fun h => by rw [Bd.returns] at h; cases h)
        have RF : CHr Z own_EL s.vm h0 T308.vm h303 := R303.trans (CHv.at (s := s) (vm0 := T303.vm) X308 hZ (own_EW hw) R303.1)
        refine ⟨_, _, k311 _ (retN X308 hx (t := .boolean) Bd.returns (by simp) (hb hby at_112) hr), hrun, hended, _, _, rfl, ?_, (by show CHr Z own_EL s.vm s.heap T308.vm T308.heap; rw [hh, e308]; exact RF), own_rw hRW (by decide) (by decide)⟩
        show Q_law_met Z w_NONE w_VIEW w_EDIT wCS p1 p2 h0 n0 _ T308.heap _
        rw [e308]
        exact ⟨rfl, N308⟩
      · have k312 : Way p e below S0 T2 (mkF m 31 #[iv p1, iv p2, rv w_EDIT, iv (0 : Int32), iv (1 : Int32), .unset, .unset, .unset, .unset] [(.ref w_EDIT)]) := by
          intro t k
          refine k279 t ?_
          refine XS.ifNo X2.here hx rfl (hb hby at_20) rfl ((if0 _ _).trans (feq (hc278 : ¬ ((p2 &&& (2 : Int32)) = (0 : Int32)))).1) ?_
          show Steps p.tables e below (T2.setTop (mkF m 23 #[iv p1, iv p2, rv w_EDIT, iv (0 : Int32), .unset, .unset, .unset, .unset, .unset] [])) _
          refine XS.iconst X2.here hx rfl (hb hby at_23) ?_
          show Steps p.tables e below (T2.setTop (mkF m 24 #[iv p1, iv p2, rv w_EDIT, iv (0 : Int32), .unset, .unset, .unset, .unset, .unset] [(.int (1 : Int32))])) _
          refine XS.goto X2.here hx rfl (pc0 := 24) (pc' := 28) rfl (hb hby at_24) (by decide) (by decide) ?_
          show Steps p.tables e below (T2.setTop (mkF m 28 #[iv p1, iv p2, rv w_EDIT, iv (0 : Int32), .unset, .unset, .unset, .unset, .unset] [(.int (1 : Int32))])) _
          refine XS.istore X2.here hx rfl (hb hby at_28) rfl (l' := #[iv p1, iv p2, rv w_EDIT, iv (0 : Int32), iv (1 : Int32), .unset, .unset, .unset, .unset]) rfl ?_
          show Steps p.tables e below (T2.setTop (mkF m 30 #[iv p1, iv p2, rv w_EDIT, iv (0 : Int32), iv (1 : Int32), .unset, .unset, .unset, .unset] [])) _
          refine XS.aloadN X2.here hx rfl (hb hby at_30) rfl rfl ?_
          show Steps p.tables e below (T2.setTop (mkF m 31 #[iv p1, iv p2, rv w_EDIT, iv (0 : Int32), iv (1 : Int32), .unset, .unset, .unset, .unset] [(.ref w_EDIT)])) _
          exact k
        obtain ⟨T313, X313, e313, st313⟩ := getS2 X2 hx hZ hown (host := "") (Or.inl (hw _ (List.mem_of_getElem? (i := 5) rfl))) Via.refl e2 (S_w_NONE.ext O0.2) (g := (mkF m 31 #[iv p1, iv p2, rv w_EDIT, iv (0 : Int32), iv (1 : Int32), .unset, .unset, .unset, .unset] [(.ref w_EDIT)])) rfl (hb hby at_31)
        have k314 : Way p e below S0 T313 (mkF m 34 #[iv p1, iv p2, rv w_EDIT, iv (0 : Int32), iv (1 : Int32), .unset, .unset, .unset, .unset] [(.ref w_NONE), (.ref w_EDIT)]) := fun t k => k312 t (st313 _ k)
        have k315 : Way p e below S0 T313 (mkF m 42 #[iv p1, iv p2, rv w_EDIT, iv (0 : Int32), iv (1 : Int32), .unset, .unset, .unset, .unset] []) := by
          intro t k
          refine k314 t ?_
          refine Jvm.RoadKit.acmp (g := (mkF m 34 #[iv p1, iv p2, rv w_EDIT, iv (0 : Int32), iv (1 : Int32), .unset, .unset, .unset, .unset] [(.ref w_NONE), (.ref w_EDIT)])) X313 hx rfl rfl rfl (pc0 := 34) (pc' := 42) (same := false) rfl (hb hby at_34) rfl (decide_eq_false fun q => absurd (Value.ref.inj q) (F_w_EDIT_ordinal.ne F_w_NONE_ordinal (by decide))) (by decide) (by decide) ?_
          show Steps p.tables e below (T313.setTop (mkF m 42 #[iv p1, iv p2, rv w_EDIT, iv (0 : Int32), iv (1 : Int32), .unset, .unset, .unset, .unset] [])) _
          exact k
        obtain ⟨T316, h316, X316, e316, E316, A316, D316, U316, st316⟩ := newO X313 hx hZ hown (hw _ (List.mem_of_getElem? (i := 8) rfl)) (hw _ (List.mem_of_getElem? (i := 9) rfl)) (hw _ (List.mem_of_getElem? (i := 10) rfl)) e313 (g := (mkF m 42 #[iv p1, iv p2, rv w_EDIT, iv (0 : Int32), iv (1 : Int32), .unset, .unset, .unset, .unset] [])) rfl (hb hby at_42) (by decide) (by decide)
        obtain ⟨b316, g316⟩ : ∃ z, z = h0.size := ⟨_, rfl⟩
        rw [← g316] at A316 D316 U316 st316
        have R316 : CHr Z own_EL s.vm h0 s.vm h316 := R0.trans (CHr.ext E316 R0.1)
        have O316 := O0.ext E316
        have i316_level : Fld Z h316 b316 "caseward/policy/Access" "level" "Lcaseward/policy/Access$Level;" .null := D316 (Or.inr (hw _ (List.mem_of_getElem? (i := 24) rfl))) (ty := (.object "caseward/policy/Access$Level")) (by decide)
        have i316_pii : Fld Z h316 b316 "caseward/policy/Access" "pii" "Z" (.int (0 : Int32)) := D316 (Or.inr (hw _ (List.mem_of_getElem? (i := 26) rfl))) (ty := .boolean) (by decide)
        have i316_unblinded : Fld Z h316 b316 "caseward/policy/Access" "unblinded" "Z" (.int (0 : Int32)) := D316 (Or.inr (hw _ (List.mem_of_getElem? (i := 28) rfl))) (ty := .boolean) (by decide)
        have k317 : Way p e below S0 T316 (mkF m 45 #[iv p1, iv p2, rv w_EDIT, iv (0 : Int32), iv (1 : Int32), .unset, .unset, .unset, .unset] [(.ref b316)]) := fun t k => k315 t (st316 _ k)
        have k318 : Way p e below S0 T316 (mkF m 50 #[iv p1, iv p2, rv w_EDIT, iv (0 : Int32), iv (1 : Int32), .unset, .unset, .unset, .unset] [(.int (1 : Int32)), (.int (0 : Int32)), (.ref w_EDIT), (.ref b316), (.ref b316)]) := by
          intro t k
          refine k317 t ?_
          refine XS.dup X316.here hx rfl (hb hby at_45) rfl rfl ?_
          show Steps p.tables e below (T316.setTop (mkF m 46 #[iv p1, iv p2, rv w_EDIT, iv (0 : Int32), iv (1 : Int32), .unset, .unset, .unset, .unset] [(.ref b316), (.ref b316)])) _
          refine XS.aloadN X316.here hx rfl (hb hby at_46) rfl rfl ?_
          show Steps p.tables e below (T316.setTop (mkF m 47 #[iv p1, iv p2, rv w_EDIT, iv (0 : Int32), iv (1 : Int32), .unset, .unset, .unset, .unset] [(.ref w_EDIT), (.ref b316), (.ref b316)])) _
          refine XS.iloadN X316.here hx rfl (hb hby at_47) rfl ?_
          show Steps p.tables e below (T316.setTop (mkF m 48 #[iv p1, iv p2, rv w_EDIT, iv (0 : Int32), iv (1 : Int32), .unset, .unset, .unset, .unset] [(.int (0 : Int32)), (.ref w_EDIT), (.ref b316), (.ref b316)])) _
          refine XS.iload X316.here hx rfl (hb hby at_48) rfl ?_
          show Steps p.tables e below (T316.setTop (mkF m 50 #[iv p1, iv p2, rv w_EDIT, iv (0 : Int32), iv (1 : Int32), .unset, .unset, .unset, .unset] [(.int (1 : Int32)), (.int (0 : Int32)), (.ref w_EDIT), (.ref b316), (.ref b316)])) _
          exact k
        have ge319 : n0 ≤ b316 := Nat.le_trans (own_old O0) (Nat.le_of_eq g316.symm)
        obtain ⟨_, _, ⟨T320, L320, kk320, nn320⟩, -, X320, ⟨Lc320, hQ320, l320, y320, z320⟩, st320⟩ := X316.specialBack hx (y := (⟨"caseward/policy/Access", "<init>", "(Lcaseward/policy/Access$Level;ZZ)V"⟩ : MethodName)) rfl hown (mvT hZ (hw _ (List.mem_of_getElem? (i := 11) rfl))) (mvT hZ (hw _ (List.mem_of_getElem? (i := 12) rfl))) (mvT hZ (hw _ (List.mem_of_getElem? (i := 13) rfl))) (by decide) (backOf (W := 1) (init_EDIT01 l Z a0 hw [] w_NONE w_VIEW w_EDIT wCS G b316 h316 n0 O316 (A316 : Exa Z h316 b316 "caseward/policy/Access") (i316_level : Fld Z h316 b316 "caseward/policy/Access" "level" "Lcaseward/policy/Access$Level;" .null) (i316_pii : Fld Z h316 b316 "caseward/policy/Access" "pii" "Z" (.int (0 : Int32))) (i316_unblinded : Fld Z h316 b316 "caseward/policy/Access" "unblinded" "Z" (.int (0 : Int32))) (ge319 : n0 ≤ b316)) hZ (hw _ (List.mem_of_getElem? (i := 13) rfl)) (hw _ (List.mem_of_getElem? (i := 10) rfl)) (by decide) (by decide)) (g := (mkF m 50 #[iv p1, iv p2, rv w_EDIT, iv (0 : Int32), iv (1 : Int32), .unset, .unset, .unset, .unset] [(.int (1 : Int32)), (.int (0 : Int32)), (.ref w_EDIT), (.ref b316), (.ref b316)])) rfl (by rw [hml]; rfl) (Steps.refl _) (a := b316) (argsL := [(.ref w_EDIT), (.int (0 : Int32)), (.int (1 : Int32))]) (rest := [(.ref b316)]) (lenOf pd_3 rfl) rfl (by show 2 * 0 + _ ≤ _; exact Nat.le_of_eq rfl) (hb hby at_50) (fun _ _ => ⟨rfl, e316, (by decide : 1 + 0 ≤ _), (by decide : 3 + 0 ≤ _)⟩)
        dsimp only [Pt.U, Pt.locs, Pt.cells, Pt.slots] at X320 l320 y320 z320 st320 hQ320
        subst l320 y320 z320
        obtain ⟨rfl, Nq320, Kq320, po320_0, po320_1⟩ := hQ320
        have N320 := Fr.app N2 Nq320
        have O320 := O316.keep Kq320 (allS ge319 all0)
        have R320 : CHr Z own_EL s.vm h0 s.vm T320.heap := R316.trans (CHr.keep Kq320 (sfS (Safe.exa hZ.alike A316 (by decide) (by decide)) sf0) R316.1)
        have k321 : Way p e below S0 T320 (mkF m 53 #[iv p1, iv p2, rv w_EDIT, iv (0 : Int32), iv (1 : Int32), .unset, .unset, .unset, .unset] [(.ref b316)]) := fun t k => k318 t (st320.trans k)
        have k322 : Way p e below S0 T320 (mkF m 57 #[iv p1, iv p2, rv w_EDIT, iv (0 : Int32), iv (1 : Int32), rv b316, .unset, .unset, .unset] [(.ref b316)]) := by
          intro t k
          refine k321 t ?_
          refine XS.astore X320.here hx rfl (hb hby at_53) rfl rfl (l' := #[iv p1, iv p2, rv w_EDIT, iv (0 : Int32), iv (1 : Int32), rv b316, .unset, .unset, .unset]) rfl ?_
          show Steps p.tables e below (T320.setTop (mkF m 55 #[iv p1, iv p2, rv w_EDIT, iv (0 : Int32), iv (1 : Int32), rv b316, .unset, .unset, .unset] [])) _
          refine XS.aload X320.here hx rfl (hb hby at_55) rfl rfl ?_
          show Steps p.tables e below (T320.setTop (mkF m 57 #[iv p1, iv p2, rv w_EDIT, iv (0 : Int32), iv (1 : Int32), rv b316, .unset, .unset, .unset] [(.ref b316)])) _
          exact k
        obtain ⟨cq323, kq323, qq323a, qq323b, qq323c⟩ := isOf hZ rfl po320_0
        obtain ⟨_, _, ⟨T323, L323, kk323, nn323⟩, -, Xr323, hSr323, hgr323, ⟨Lc323, hQ323, l323, y323, z323, Rr323⟩, st323⟩ := X320.virtualBackS hx (y := (⟨"caseward/policy/Access", "piiWord", "()Ljava/lang/String;"⟩ : MethodName)) (z := (⟨"caseward/policy/Access", "piiWord", "()Ljava/lang/String;"⟩ : MethodName)) hown (mvT hZ (hw _ (List.mem_of_getElem? (i := 29) rfl))) (mvT hZ (hw _ (List.mem_of_getElem? (i := 30) rfl))) (notFace_of_selects (args := #[]) (mvT hZ (hw _ (List.mem_of_getElem? (i := 32) rfl)))) (mvT hZ (hw _ (List.mem_of_getElem? (i := 32) rfl))) (mvT hZ (hw _ (List.mem_of_getElem? (i := 31) rfl))) (by decide) (backOfSH (s := s) (vm0 := s.vm) (W := 0) (piiWord0 l Z a0 hw [] w_NONE w_VIEW w_EDIT wCS G b316 T320.heap n0 O320 (po320_1 : Fld Z T320.heap b316 "caseward/policy/Access" "pii" "Z" (.int (0 : Int32)))) hZ (hw _ (List.mem_of_getElem? (i := 33) rfl)) (hw _ (List.mem_of_getElem? (i := 10) rfl)) (by decide) (by decide) (own_EW hw) R320.1) qq323a qq323c (g := (mkF m 57 #[iv p1, iv p2, rv w_EDIT, iv (0 : Int32), iv (1 : Int32), rv b316, .unset, .unset, .unset] [(.ref b316)])) rfl (by rw [hml]; rfl) (Steps.refl _) (argsL := []) (rest := []) (lenOf pd_4 rfl) rfl (by show 2 * 0 + _ ≤ _; exact Nat.le_of_eq rfl) (hb hby at_57) (fun _ _ => ⟨rfl, rfl, (by decide : 1 + 2 ≤ _), (by decide : 3 + 28 ≤ _)⟩)
        dsimp only [Pt.U, Pt.locs, Pt.cells, Pt.slots] at Xr323 hSr323 hgr323 l323 y323 z323 st323 hQ323 Rr323
        subst l323 y323 z323
        obtain ⟨X323, hS323, hZ323, ho323⟩ := rebS (s := s) (vm0 := s.vm) hS0 (Nat.zero_le _) Xr323 hSr323 hgr323 hZ hown
        have hZ := hZ323
        have hown := ho323
        obtain ⟨a2_323, a3_323, kk1_323, rfl, Nq323, Kq323, po323_0, po323_1, po323_2, po323_3⟩ := hQ323
        have N323 := Fr.app N320 Nq323
        have O323 := O320.keep Kq323 all0
        have R323 : CHr Z own_EL s.vm h0 T323.vm T323.heap := R320.trans Rr323
        have k324 : Way p e below S0 T323 (mkF m 60 #[iv p1, iv p2, rv w_EDIT, iv (0 : Int32), iv (1 : Int32), rv b316, .unset, .unset, .unset] [(.ref a2_323)]) := fun t k => k322 t (st323.trans k)
        have k325 : Way p e below S0 T323 (mkF m 71 #[iv p1, iv p2, rv w_EDIT, iv (0 : Int32), iv (1 : Int32), rv b316, rv a2_323, .unset, .unset] [(.ref a2_323)]) := by
          intro t k
          refine k324 t ?_
          refine XS.astore X323.here hx rfl (hb hby at_60) rfl rfl (l' := #[iv p1, iv p2, rv w_EDIT, iv (0 : Int32), iv (1 : Int32), rv b316, rv a2_323, .unset, .unset]) rfl ?_
          show Steps p.tables e below (T323.setTop (mkF m 62 #[iv p1, iv p2, rv w_EDIT, iv (0 : Int32), iv (1 : Int32), rv b316, rv a2_323, .unset, .unset] [])) _
          refine XS.aload X323.here hx rfl (hb hby at_62) rfl rfl ?_
          show Steps p.tables e below (T323.setTop (mkF m 64 #[iv p1, iv p2, rv w_EDIT, iv (0 : Int32), iv (1 : Int32), rv b316, rv a2_323, .unset, .unset] [(.ref a2_323)])) _
          refine XS.ifnonnullYes X323.here hx rfl (pc0 := 64) (pc' := 69) rfl (hb hby at_64) rfl (by decide) (by decide) ?_
          show Steps p.tables e below (T323.setTop (mkF m 69 #[iv p1, iv p2, rv w_EDIT, iv (0 : Int32), iv (1 : Int32), rv b316, rv a2_323, .unset, .unset] [])) _
          refine XS.aload X323.here hx rfl (hb hby at_69) rfl rfl ?_
          show Steps p.tables e below (T323.setTop (mkF m 71 #[iv p1, iv p2, rv w_EDIT, iv (0 : Int32), iv (1 : Int32), rv b316, rv a2_323, .unset, .unset] [(.ref a2_323)])) _
          exact k
        obtain ⟨la326, T326, h326, ks326, lb326, lk326, X326, e326, E326, hS326, hk326, hZ326, ho326, Fe326, Fc326, Fv326, Va326, -, -, Rr326, Li326, Sa326, st326⟩ := ldcCH (s := s) (vm0 := T323.vm) (EL := own_EL) X323 hx hZ hown (hw _ (List.mem_of_getElem? (i := 42) rfl)) (own_strW hw) rfl hS323 (Nat.le_trans (Nat.le_refl _) (Nat.le_refl _)) (own_EW hw) (by decide) R323.1 (vs := [(.int (117 : Int32)), (.int (110 : Int32)), (.int (109 : Int32)), (.int (97 : Int32)), (.int (115 : Int32)), (.int (107 : Int32)), (.int (101 : Int32)), (.int (100 : Int32))]) (z := (8 : Int32)) ⟨by decide, by decide⟩ (by decide) (by decide) (g := (mkF m 71 #[iv p1, iv p2, rv w_EDIT, iv (0 : Int32), iv (1 : Int32), rv b316, rv a2_323, .unset, .unset] [(.ref a2_323)])) rfl (hb hby at_71) (n := 32) (by decide) (by decide) (by decide) (by decide)
        have hZ := hZ326
        have hown := ho326
        have R326 : CHr Z own_EL s.vm h0 T326.vm h326 := R323.trans Rr326
        have O326 := O323.ext E326
        have k327 : Way p e below S0 T326 (mkF m 73 #[iv p1, iv p2, rv w_EDIT, iv (0 : Int32), iv (1 : Int32), rv b316, rv a2_323, .unset, .unset] [(.ref la326), (.ref a2_323)]) := fun t k => k325 t (st326 _ k)
        have f328 : Fld Z h326 a2_323 "java/lang/String" "value" "[B" (.ref a3_323) := (po323_2.ext E326)
        have f329 : Arv Z h326 a3_323 kk1_323 .byte (6 : Int32) [(.int (109 : Int32)), (.int (97 : Int32)), (.int (115 : Int32)), (.int (107 : Int32)), (.int (101 : Int32)), (.int (100 : Int32))] (.int (0 : Int32)) := (po323_3.ext E326)
        have f330 : Fld Z h326 a2_323 "java/lang/String" "coder" "B" (.int (0 : Int32)) := (po323_1.ext E326)
        have f332 : Exa Z h326 a2_323 "java/lang/String" := (po323_0.ext E326)
        obtain ⟨cq331, kq331, qq331a, qq331b, qq331c⟩ := isOf hZ e326 f332
        obtain ⟨_, _, ⟨T331, L331, kk331, nn331⟩, -, X331, ⟨Lc331, hQ331, l331, y331, z331⟩, st331⟩ := X326.virtualBack hx (y := (⟨"java/lang/String", "equals", "(Ljava/lang/Object;)Z"⟩ : MethodName)) (z := (⟨"java/lang/String", "equals", "(Ljava/lang/Object;)Z"⟩ : MethodName)) hown (mvT hZ (hw _ (List.mem_of_getElem? (i := 43) rfl))) (mvT hZ (hw _ (List.mem_of_getElem? (i := 44) rfl))) (notFace_of_selects (args := #[]) (mvT hZ (hw _ (List.mem_of_getElem? (i := 46) rfl)))) (mvT hZ (hw _ (List.mem_of_getElem? (i := 46) rfl))) (mvT hZ (hw _ (List.mem_of_getElem? (i := 45) rfl))) (by decide) (backOf (W := 0) (seq01 l Z a0 hw [] w_NONE w_VIEW w_EDIT wCS G a2_323 la326 a3_323 lb326 kk1_323 lk326 h326 n0 O326 (f330 : Fld Z h326 a2_323 "java/lang/String" "coder" "B" (.int (0 : Int32))) (f328 : Fld Z h326 a2_323 "java/lang/String" "value" "[B" (.ref a3_323)) (f329 : Arv Z h326 a3_323 kk1_323 .byte (6 : Int32) [(.int (109 : Int32)), (.int (97 : Int32)), (.int (115 : Int32)), (.int (107 : Int32)), (.int (101 : Int32)), (.int (100 : Int32))] (.int (0 : Int32))) (Fe326 : Exa Z h326 la326 "java/lang/String") (Fc326 : Fld Z h326 la326 "java/lang/String" "coder" "B" (.int (0 : Int32))) (Fv326 : Fld Z h326 la326 "java/lang/String" "value" "[B" (.ref lb326)) (Va326 : Arv Z h326 lb326 lk326 .byte (8 : Int32) [(.int (117 : Int32)), (.int (110 : Int32)), (.int (109 : Int32)), (.int (97 : Int32)), (.int (115 : Int32)), (.int (107 : Int32)), (.int (101 : Int32)), (.int (100 : Int32))] (.int (0 : Int32))) (Fld.ne f328 Fv326 (fun q => absurd (Value.ref.inj q) (arv_ne f329 Va326 (Or.inl (by decide)))) : a2_323 ≠ la326)) hZ (hw _ (List.mem_of_getElem? (i := 47) rfl)) (hw _ (List.mem_of_getElem? (i := 35) rfl)) (by decide) (by decide)) qq331a qq331c (g := (mkF m 73 #[iv p1, iv p2, rv w_EDIT, iv (0 : Int32), iv (1 : Int32), rv b316, rv a2_323, .unset, .unset] [(.ref la326), (.ref a2_323)])) rfl (by rw [hml]; rfl) (Steps.refl _) (argsL := [(.ref la326)]) (rest := []) (lenOf pd_5 rfl) rfl (by show 2 * 0 + _ ≤ _; exact Nat.le_of_eq rfl) (hb hby at_73) (fun _ _ => ⟨rfl, e326, (by decide : 5 + 0 ≤ _), (by decide : 67 + 0 ≤ _)⟩)
        dsimp only [Pt.U, Pt.locs, Pt.cells, Pt.slots] at X331 l331 y331 z331 st331 hQ331
        subst l331 y331 z331
        obtain ⟨rfl, Nq331, e331⟩ := hQ331
        have N331 := Fr.app N323 Nq331
        have k333 : Way p e below S0 T331 (mkF m 76 #[iv p1, iv p2, rv w_EDIT, iv (0 : Int32), iv (1 : Int32), rv b316, rv a2_323, .unset, .unset] [(.int (0 : Int32))]) := fun t k => k327 t (st331.trans k)
        have k334 : Way p e below S0 T331 (mkF m 80 #[iv p1, iv p2, rv w_EDIT, iv (0 : Int32), iv (1 : Int32), rv b316, rv a2_323, iv (0 : Int32), .unset] [(.ref a2_323)]) := by
          intro t k
          refine k333 t ?_
          refine XS.istore X331.here hx rfl (hb hby at_76) rfl (l' := #[iv p1, iv p2, rv w_EDIT, iv (0 : Int32), iv (1 : Int32), rv b316, rv a2_323, iv (0 : Int32), .unset]) rfl ?_
          show Steps p.tables e below (T331.setTop (mkF m 78 #[iv p1, iv p2, rv w_EDIT, iv (0 : Int32), iv (1 : Int32), rv b316, rv a2_323, iv (0 : Int32), .unset] [])) _
          refine XS.aload X331.here hx rfl (hb hby at_78) rfl rfl ?_
          show Steps p.tables e below (T331.setTop (mkF m 80 #[iv p1, iv p2, rv w_EDIT, iv (0 : Int32), iv (1 : Int32), rv b316, rv a2_323, iv (0 : Int32), .unset] [(.ref a2_323)])) _
          exact k
        obtain ⟨la335, T335, h335, ks335, lb335, lk335, X335, e335, E335, hS335, hk335, hZ335, ho335, Fe335, Fc335, Fv335, Va335, -, -, Rr335, Li335, Sa335, st335⟩ := ldcCH (s := s) (vm0 := T326.vm) (EL := own_EL) X331 hx hZ hown (hw _ (List.mem_of_getElem? (i := 57) rfl)) (own_strW hw) e331 hS326 (Nat.le_trans hk326 (Nat.le_refl _)) (own_EW hw) (by decide) R326.1 (vs := [(.int (109 : Int32)), (.int (97 : Int32)), (.int (115 : Int32)), (.int (107 : Int32)), (.int (101 : Int32)), (.int (100 : Int32))]) (z := (6 : Int32)) ⟨by decide, by decide⟩ (by decide) (by decide) (g := (mkF m 80 #[iv p1, iv p2, rv w_EDIT, iv (0 : Int32), iv (1 : Int32), rv b316, rv a2_323, iv (0 : Int32), .unset] [(.ref a2_323)])) rfl (hb hby at_80) (n := 24) (by decide) (by decide) (by decide) (by decide)
        have hZ := hZ335
        have hown := ho335
        have R335 : CHr Z own_EL s.vm h0 T335.vm h335 := R326.trans Rr335
        have O335 := O326.ext E335
        have k336 : Way p e below S0 T335 (mkF m 82 #[iv p1, iv p2, rv w_EDIT, iv (0 : Int32), iv (1 : Int32), rv b316, rv a2_323, iv (0 : Int32), .unset] [(.ref la335), (.ref a2_323)]) := fun t k => k334 t (st335 _ k)
        have f337 : Fld Z h335 a2_323 "java/lang/String" "coder" "B" (.int (0 : Int32)) := (f330.ext E335)
        have f338 : Fld Z h335 a2_323 "java/lang/String" "value" "[B" (.ref a3_323) := (f328.ext E335)
        have f339 : Arv Z h335 a3_323 kk1_323 .byte (6 : Int32) [(.int (109 : Int32)), (.int (97 : Int32)), (.int (115 : Int32)), (.int (107 : Int32)), (.int (101 : Int32)), (.int (100 : Int32))] (.int (0 : Int32)) := (f329.ext E335)
        have f341 : Exa Z h335 a2_323 "java/lang/String" := (f332.ext E335)
        obtain ⟨cq340, kq340, qq340a, qq340b, qq340c⟩ := isOf hZ e335 f341
        obtain ⟨_, _, ⟨T340, L340, kk340, nn340⟩, -, X340, ⟨Lc340, hQ340, l340, y340, z340⟩, st340⟩ := X335.virtualBack hx (y := (⟨"java/lang/String", "equals", "(Ljava/lang/Object;)Z"⟩ : MethodName)) (z := (⟨"java/lang/String", "equals", "(Ljava/lang/Object;)Z"⟩ : MethodName)) hown (mvT hZ (hw _ (List.mem_of_getElem? (i := 43) rfl))) (mvT hZ (hw _ (List.mem_of_getElem? (i := 44) rfl))) (notFace_of_selects (args := #[]) (mvT hZ (hw _ (List.mem_of_getElem? (i := 46) rfl)))) (mvT hZ (hw _ (List.mem_of_getElem? (i := 46) rfl))) (mvT hZ (hw _ (List.mem_of_getElem? (i := 45) rfl))) (by decide) (backOf (W := 0) (seq00 l Z a0 hw [] w_NONE w_VIEW w_EDIT wCS G a2_323 la335 a3_323 lb335 kk1_323 lk335 h335 n0 O335 (f337 : Fld Z h335 a2_323 "java/lang/String" "coder" "B" (.int (0 : Int32))) (f338 : Fld Z h335 a2_323 "java/lang/String" "value" "[B" (.ref a3_323)) (f339 : Arv Z h335 a3_323 kk1_323 .byte (6 : Int32) [(.int (109 : Int32)), (.int (97 : Int32)), (.int (115 : Int32)), (.int (107 : Int32)), (.int (101 : Int32)), (.int (100 : Int32))] (.int (0 : Int32))) (Fe335 : Exa Z h335 la335 "java/lang/String") (Fc335 : Fld Z h335 la335 "java/lang/String" "coder" "B" (.int (0 : Int32))) (Fv335 : Fld Z h335 la335 "java/lang/String" "value" "[B" (.ref lb335)) (Va335 : Arv Z h335 lb335 lk335 .byte (6 : Int32) [(.int (109 : Int32)), (.int (97 : Int32)), (.int (115 : Int32)), (.int (107 : Int32)), (.int (101 : Int32)), (.int (100 : Int32))] (.int (0 : Int32)))) hZ (hw _ (List.mem_of_getElem? (i := 47) rfl)) (hw _ (List.mem_of_getElem? (i := 35) rfl)) (by decide) (by decide)) qq340a qq340c (g := (mkF m 82 #[iv p1, iv p2, rv w_EDIT, iv (0 : Int32), iv (1 : Int32), rv b316, rv a2_323, iv (0 : Int32), .unset] [(.ref la335), (.ref a2_323)])) rfl (by rw [hml]; rfl) (Steps.refl _) (argsL := [(.ref la335)]) (rest := []) (lenOf pd_5 rfl) rfl (by show 2 * 0 + _ ≤ _; exact Nat.le_of_eq rfl) (hb hby at_82) (fun _ _ => ⟨rfl, e335, (by decide : 7 + 0 ≤ _), (by decide : 95 + 0 ≤ _)⟩)
        dsimp only [Pt.U, Pt.locs, Pt.cells, Pt.slots] at X340 l340 y340 z340 st340 hQ340
        subst l340 y340 z340
        obtain ⟨rfl, Nq340, e340⟩ := hQ340
        have N340 := Fr.app N331 Nq340
        have k342 : Way p e below S0 T340 (mkF m 85 #[iv p1, iv p2, rv w_EDIT, iv (0 : Int32), iv (1 : Int32), rv b316, rv a2_323, iv (0 : Int32), .unset] [(.int (1 : Int32))]) := fun t k => k336 t (st340.trans k)
        have k343 : Way p e below S0 T340 (mkF m 112 #[iv p1, iv p2, rv w_EDIT, iv (0 : Int32), iv (1 : Int32), rv b316, rv a2_323, iv (0 : Int32), iv (1 : Int32)] [(.int (1 : Int32))]) := by
          intro t k
          refine k342 t ?_
          refine XS.istore X340.here hx rfl (hb hby at_85) rfl (l' := #[iv p1, iv p2, rv w_EDIT, iv (0 : Int32), iv (1 : Int32), rv b316, rv a2_323, iv (0 : Int32), iv (1 : Int32)]) rfl ?_
          show Steps p.tables e below (T340.setTop (mkF m 87 #[iv p1, iv p2, rv w_EDIT, iv (0 : Int32), iv (1 : Int32), rv b316, rv a2_323, iv (0 : Int32), iv (1 : Int32)] [])) _
          refine XS.iload X340.here hx rfl (hb hby at_87) rfl ?_
          show Steps p.tables e below (T340.setTop (mkF m 89 #[iv p1, iv p2, rv w_EDIT, iv (0 : Int32), iv (1 : Int32), rv b316, rv a2_323, iv (0 : Int32), iv (1 : Int32)] [(.int (0 : Int32))])) _
          refine XS.iloadN X340.here hx rfl (hb hby at_89) rfl ?_
          show Steps p.tables e below (T340.setTop (mkF m 90 #[iv p1, iv p2, rv w_EDIT, iv (0 : Int32), iv (1 : Int32), rv b316, rv a2_323, iv (0 : Int32), iv (1 : Int32)] [(.int (0 : Int32)), (.int (0 : Int32))])) _
          refine XS.icmpNo X340.here hx rfl (hb hby at_90) rfl (teq ((by decide) : (0 : Int32) = (0 : Int32))).2 ?_
          show Steps p.tables e below (T340.setTop (mkF m 93 #[iv p1, iv p2, rv w_EDIT, iv (0 : Int32), iv (1 : Int32), rv b316, rv a2_323, iv (0 : Int32), iv (1 : Int32)] [])) _
          refine XS.iload X340.here hx rfl (hb hby at_93) rfl ?_
          show Steps p.tables e below (T340.setTop (mkF m 95 #[iv p1, iv p2, rv w_EDIT, iv (0 : Int32), iv (1 : Int32), rv b316, rv a2_323, iv (0 : Int32), iv (1 : Int32)] [(.int (1 : Int32))])) _
          refine XS.iloadN X340.here hx rfl (hb hby at_95) rfl ?_
          show Steps p.tables e below (T340.setTop (mkF m 96 #[iv p1, iv p2, rv w_EDIT, iv (0 : Int32), iv (1 : Int32), rv b316, rv a2_323, iv (0 : Int32), iv (1 : Int32)] [(.int (0 : Int32)), (.int (1 : Int32))])) _
          refine XS.ifNo X340.here hx rfl (hb hby at_96) rfl ((if0 _ _).trans (teq ((by decide) : (0 : Int32) = (0 : Int32))).2) ?_
          show Steps p.tables e below (T340.setTop (mkF m 99 #[iv p1, iv p2, rv w_EDIT, iv (0 : Int32), iv (1 : Int32), rv b316, rv a2_323, iv (0 : Int32), iv (1 : Int32)] [(.int (1 : Int32))])) _
          refine XS.iconst X340.here hx rfl (hb hby at_99) ?_
          show Steps p.tables e below (T340.setTop (mkF m 100 #[iv p1, iv p2, rv w_EDIT, iv (0 : Int32), iv (1 : Int32), rv b316, rv a2_323, iv (0 : Int32), iv (1 : Int32)] [(.int (1 : Int32)), (.int (1 : Int32))])) _
          refine XS.goto X340.here hx rfl (pc0 := 100) (pc' := 104) rfl (hb hby at_100) (by decide) (by decide) ?_
          show Steps p.tables e below (T340.setTop (mkF m 104 #[iv p1, iv p2, rv w_EDIT, iv (0 : Int32), iv (1 : Int32), rv b316, rv a2_323, iv (0 : Int32), iv (1 : Int32)] [(.int (1 : Int32)), (.int (1 : Int32))])) _
          refine XS.icmpNo X340.here hx rfl (hb hby at_104) rfl (teq ((by decide) : (1 : Int32) = (1 : Int32))).2 ?_
          show Steps p.tables e below (T340.setTop (mkF m 107 #[iv p1, iv p2, rv w_EDIT, iv (0 : Int32), iv (1 : Int32), rv b316, rv a2_323, iv (0 : Int32), iv (1 : Int32)] [])) _
          refine XS.iconst X340.here hx rfl (hb hby at_107) ?_
          show Steps p.tables e below (T340.setTop (mkF m 108 #[iv p1, iv p2, rv w_EDIT, iv (0 : Int32), iv (1 : Int32), rv b316, rv a2_323, iv (0 : Int32), iv (1 : Int32)] [(.int (1 : Int32))])) _
          refine XS.goto X340.here hx rfl (pc0 := 108) (pc' := 112) rfl (hb hby at_108) (by decide) (by decide) ?_
          show Steps p.tables e below (T340.setTop (mkF m 112 #[iv p1, iv p2, rv w_EDIT, iv (0 : Int32), iv (1 : Int32), rv b316, rv a2_323, iv (0 : Int32), iv (1 : Int32)] [(.int (1 : Int32))])) _
          exact k
        obtain ⟨fs, hr, hrun, hended, hRW⟩ := Stand.leaveW (s := s) (vm₁ := T335.vm) X340 hS335 (by rw [e340]; exact (Nat.le_trans hk335 (Nat.le_refl _))) (v := some (.int (1 : Int32))) (fun h => by rw [Bd.returns] at h; cases h)
        have RF : CHr Z own_EL s.vm h0 T340.vm h335 := R335.trans (CHv.at (s := s) (vm0 := T335.vm) X340 hZ (own_EW hw) R335.1)
        refine ⟨_, _, k343 _ (retN X340 hx (t := .boolean) Bd.returns (by simp) (hb hby at_112) hr), hrun, hended, _, _, rfl, ?_, (by show CHr Z own_EL s.vm s.heap T340.vm T340.heap; rw [hh, e340]; exact RF), own_rw hRW (by decide) (by decide)⟩
        show Q_law_met Z w_NONE w_VIEW w_EDIT wCS p1 p2 h0 n0 _ T340.heap _
        rw [e340]
        exact ⟨rfl, N340⟩
    · have k345 : Way p e below S0 T2 (mkF m 20 #[iv p1, iv p2, rv w_EDIT, iv (1 : Int32), .unset, .unset, .unset, .unset, .unset] [(.int (p2 &&& (2 : Int32)))]) := by
        intro t k
        refine k277 t ?_
        refine XS.ifNo X2.here hx rfl (hb hby at_8) rfl ((if0 _ _).trans (feq (hc276 : ¬ ((p2 &&& (1 : Int32)) = (0 : Int32)))).1) ?_
        show Steps p.tables e below (T2.setTop (mkF m 11 #[iv p1, iv p2, rv w_EDIT, .unset, .unset, .unset, .unset, .unset, .unset] [])) _
        refine XS.iconst X2.here hx rfl (hb hby at_11) ?_
        show Steps p.tables e below (T2.setTop (mkF m 12 #[iv p1, iv p2, rv w_EDIT, .unset, .unset, .unset, .unset, .unset, .unset] [(.int (1 : Int32))])) _
        refine XS.goto X2.here hx rfl (pc0 := 12) (pc' := 16) rfl (hb hby at_12) (by decide) (by decide) ?_
        show Steps p.tables e below (T2.setTop (mkF m 16 #[iv p1, iv p2, rv w_EDIT, .unset, .unset, .unset, .unset, .unset, .unset] [(.int (1 : Int32))])) _
        refine XS.istoreN X2.here hx rfl (hb hby at_16) rfl (l' := #[iv p1, iv p2, rv w_EDIT, iv (1 : Int32), .unset, .unset, .unset, .unset, .unset]) rfl ?_
        show Steps p.tables e below (T2.setTop (mkF m 17 #[iv p1, iv p2, rv w_EDIT, iv (1 : Int32), .unset, .unset, .unset, .unset, .unset] [])) _
        refine XS.iloadN X2.here hx rfl (hb hby at_17) rfl ?_
        show Steps p.tables e below (T2.setTop (mkF m 18 #[iv p1, iv p2, rv w_EDIT, iv (1 : Int32), .unset, .unset, .unset, .unset, .unset] [(.int p2)])) _
        refine XS.iconst X2.here hx rfl (hb hby at_18) ?_
        show Steps p.tables e below (T2.setTop (mkF m 19 #[iv p1, iv p2, rv w_EDIT, iv (1 : Int32), .unset, .unset, .unset, .unset, .unset] [(.int (2 : Int32)), (.int p2)])) _
        refine XS.iand X2.here hx rfl (hb hby at_19) rfl ?_
        show Steps p.tables e below (T2.setTop (mkF m 20 #[iv p1, iv p2, rv w_EDIT, iv (1 : Int32), .unset, .unset, .unset, .unset, .unset] [(.int (p2 &&& (2 : Int32)))])) _
        exact k
      by_cases hc344 : (p2 &&& (2 : Int32)) = (0 : Int32)
      · have k346 : Way p e below S0 T2 (mkF m 31 #[iv p1, iv p2, rv w_EDIT, iv (1 : Int32), iv (0 : Int32), .unset, .unset, .unset, .unset] [(.ref w_EDIT)]) := by
          intro t k
          refine k345 t ?_
          refine XS.ifYes X2.here hx rfl (pc0 := 20) (pc' := 27) rfl (hb hby at_20) rfl ((if0 _ _).trans (teq (hc344 : (p2 &&& (2 : Int32)) = (0 : Int32))).1) (by decide) (by decide) ?_
          show Steps p.tables e below (T2.setTop (mkF m 27 #[iv p1, iv p2, rv w_EDIT, iv (1 : Int32), .unset, .unset, .unset, .unset, .unset] [])) _
          refine XS.iconst X2.here hx rfl (hb hby at_27) ?_
          show Steps p.tables e below (T2.setTop (mkF m 28 #[iv p1, iv p2, rv w_EDIT, iv (1 : Int32), .unset, .unset, .unset, .unset, .unset] [(.int (0 : Int32))])) _
          refine XS.istore X2.here hx rfl (hb hby at_28) rfl (l' := #[iv p1, iv p2, rv w_EDIT, iv (1 : Int32), iv (0 : Int32), .unset, .unset, .unset, .unset]) rfl ?_
          show Steps p.tables e below (T2.setTop (mkF m 30 #[iv p1, iv p2, rv w_EDIT, iv (1 : Int32), iv (0 : Int32), .unset, .unset, .unset, .unset] [])) _
          refine XS.aloadN X2.here hx rfl (hb hby at_30) rfl rfl ?_
          show Steps p.tables e below (T2.setTop (mkF m 31 #[iv p1, iv p2, rv w_EDIT, iv (1 : Int32), iv (0 : Int32), .unset, .unset, .unset, .unset] [(.ref w_EDIT)])) _
          exact k
        obtain ⟨T347, X347, e347, st347⟩ := getS2 X2 hx hZ hown (host := "") (Or.inl (hw _ (List.mem_of_getElem? (i := 5) rfl))) Via.refl e2 (S_w_NONE.ext O0.2) (g := (mkF m 31 #[iv p1, iv p2, rv w_EDIT, iv (1 : Int32), iv (0 : Int32), .unset, .unset, .unset, .unset] [(.ref w_EDIT)])) rfl (hb hby at_31)
        have k348 : Way p e below S0 T347 (mkF m 34 #[iv p1, iv p2, rv w_EDIT, iv (1 : Int32), iv (0 : Int32), .unset, .unset, .unset, .unset] [(.ref w_NONE), (.ref w_EDIT)]) := fun t k => k346 t (st347 _ k)
        have k349 : Way p e below S0 T347 (mkF m 42 #[iv p1, iv p2, rv w_EDIT, iv (1 : Int32), iv (0 : Int32), .unset, .unset, .unset, .unset] []) := by
          intro t k
          refine k348 t ?_
          refine Jvm.RoadKit.acmp (g := (mkF m 34 #[iv p1, iv p2, rv w_EDIT, iv (1 : Int32), iv (0 : Int32), .unset, .unset, .unset, .unset] [(.ref w_NONE), (.ref w_EDIT)])) X347 hx rfl rfl rfl (pc0 := 34) (pc' := 42) (same := false) rfl (hb hby at_34) rfl (decide_eq_false fun q => absurd (Value.ref.inj q) (F_w_EDIT_ordinal.ne F_w_NONE_ordinal (by decide))) (by decide) (by decide) ?_
          show Steps p.tables e below (T347.setTop (mkF m 42 #[iv p1, iv p2, rv w_EDIT, iv (1 : Int32), iv (0 : Int32), .unset, .unset, .unset, .unset] [])) _
          exact k
        obtain ⟨T350, h350, X350, e350, E350, A350, D350, U350, st350⟩ := newO X347 hx hZ hown (hw _ (List.mem_of_getElem? (i := 8) rfl)) (hw _ (List.mem_of_getElem? (i := 9) rfl)) (hw _ (List.mem_of_getElem? (i := 10) rfl)) e347 (g := (mkF m 42 #[iv p1, iv p2, rv w_EDIT, iv (1 : Int32), iv (0 : Int32), .unset, .unset, .unset, .unset] [])) rfl (hb hby at_42) (by decide) (by decide)
        obtain ⟨b350, g350⟩ : ∃ z, z = h0.size := ⟨_, rfl⟩
        rw [← g350] at A350 D350 U350 st350
        have R350 : CHr Z own_EL s.vm h0 s.vm h350 := R0.trans (CHr.ext E350 R0.1)
        have O350 := O0.ext E350
        have i350_level : Fld Z h350 b350 "caseward/policy/Access" "level" "Lcaseward/policy/Access$Level;" .null := D350 (Or.inr (hw _ (List.mem_of_getElem? (i := 24) rfl))) (ty := (.object "caseward/policy/Access$Level")) (by decide)
        have i350_pii : Fld Z h350 b350 "caseward/policy/Access" "pii" "Z" (.int (0 : Int32)) := D350 (Or.inr (hw _ (List.mem_of_getElem? (i := 26) rfl))) (ty := .boolean) (by decide)
        have i350_unblinded : Fld Z h350 b350 "caseward/policy/Access" "unblinded" "Z" (.int (0 : Int32)) := D350 (Or.inr (hw _ (List.mem_of_getElem? (i := 28) rfl))) (ty := .boolean) (by decide)
        have k351 : Way p e below S0 T350 (mkF m 45 #[iv p1, iv p2, rv w_EDIT, iv (1 : Int32), iv (0 : Int32), .unset, .unset, .unset, .unset] [(.ref b350)]) := fun t k => k349 t (st350 _ k)
        have k352 : Way p e below S0 T350 (mkF m 50 #[iv p1, iv p2, rv w_EDIT, iv (1 : Int32), iv (0 : Int32), .unset, .unset, .unset, .unset] [(.int (0 : Int32)), (.int (1 : Int32)), (.ref w_EDIT), (.ref b350), (.ref b350)]) := by
          intro t k
          refine k351 t ?_
          refine XS.dup X350.here hx rfl (hb hby at_45) rfl rfl ?_
          show Steps p.tables e below (T350.setTop (mkF m 46 #[iv p1, iv p2, rv w_EDIT, iv (1 : Int32), iv (0 : Int32), .unset, .unset, .unset, .unset] [(.ref b350), (.ref b350)])) _
          refine XS.aloadN X350.here hx rfl (hb hby at_46) rfl rfl ?_
          show Steps p.tables e below (T350.setTop (mkF m 47 #[iv p1, iv p2, rv w_EDIT, iv (1 : Int32), iv (0 : Int32), .unset, .unset, .unset, .unset] [(.ref w_EDIT), (.ref b350), (.ref b350)])) _
          refine XS.iloadN X350.here hx rfl (hb hby at_47) rfl ?_
          show Steps p.tables e below (T350.setTop (mkF m 48 #[iv p1, iv p2, rv w_EDIT, iv (1 : Int32), iv (0 : Int32), .unset, .unset, .unset, .unset] [(.int (1 : Int32)), (.ref w_EDIT), (.ref b350), (.ref b350)])) _
          refine XS.iload X350.here hx rfl (hb hby at_48) rfl ?_
          show Steps p.tables e below (T350.setTop (mkF m 50 #[iv p1, iv p2, rv w_EDIT, iv (1 : Int32), iv (0 : Int32), .unset, .unset, .unset, .unset] [(.int (0 : Int32)), (.int (1 : Int32)), (.ref w_EDIT), (.ref b350), (.ref b350)])) _
          exact k
        have ge353 : n0 ≤ b350 := Nat.le_trans (own_old O0) (Nat.le_of_eq g350.symm)
        obtain ⟨_, _, ⟨T354, L354, kk354, nn354⟩, -, X354, ⟨Lc354, hQ354, l354, y354, z354⟩, st354⟩ := X350.specialBack hx (y := (⟨"caseward/policy/Access", "<init>", "(Lcaseward/policy/Access$Level;ZZ)V"⟩ : MethodName)) rfl hown (mvT hZ (hw _ (List.mem_of_getElem? (i := 11) rfl))) (mvT hZ (hw _ (List.mem_of_getElem? (i := 12) rfl))) (mvT hZ (hw _ (List.mem_of_getElem? (i := 13) rfl))) (by decide) (backOf (W := 1) (init_EDIT10 l Z a0 hw [] w_NONE w_VIEW w_EDIT wCS G b350 h350 n0 O350 (A350 : Exa Z h350 b350 "caseward/policy/Access") (i350_level : Fld Z h350 b350 "caseward/policy/Access" "level" "Lcaseward/policy/Access$Level;" .null) (i350_pii : Fld Z h350 b350 "caseward/policy/Access" "pii" "Z" (.int (0 : Int32))) (i350_unblinded : Fld Z h350 b350 "caseward/policy/Access" "unblinded" "Z" (.int (0 : Int32))) (ge353 : n0 ≤ b350)) hZ (hw _ (List.mem_of_getElem? (i := 13) rfl)) (hw _ (List.mem_of_getElem? (i := 10) rfl)) (by decide) (by decide)) (g := (mkF m 50 #[iv p1, iv p2, rv w_EDIT, iv (1 : Int32), iv (0 : Int32), .unset, .unset, .unset, .unset] [(.int (0 : Int32)), (.int (1 : Int32)), (.ref w_EDIT), (.ref b350), (.ref b350)])) rfl (by rw [hml]; rfl) (Steps.refl _) (a := b350) (argsL := [(.ref w_EDIT), (.int (1 : Int32)), (.int (0 : Int32))]) (rest := [(.ref b350)]) (lenOf pd_3 rfl) rfl (by show 2 * 0 + _ ≤ _; exact Nat.le_of_eq rfl) (hb hby at_50) (fun _ _ => ⟨rfl, e350, (by decide : 1 + 0 ≤ _), (by decide : 3 + 0 ≤ _)⟩)
        dsimp only [Pt.U, Pt.locs, Pt.cells, Pt.slots] at X354 l354 y354 z354 st354 hQ354
        subst l354 y354 z354
        obtain ⟨rfl, Nq354, Kq354, po354_0, po354_1⟩ := hQ354
        have N354 := Fr.app N2 Nq354
        have O354 := O350.keep Kq354 (allS ge353 all0)
        have R354 : CHr Z own_EL s.vm h0 s.vm T354.heap := R350.trans (CHr.keep Kq354 (sfS (Safe.exa hZ.alike A350 (by decide) (by decide)) sf0) R350.1)
        have k355 : Way p e below S0 T354 (mkF m 53 #[iv p1, iv p2, rv w_EDIT, iv (1 : Int32), iv (0 : Int32), .unset, .unset, .unset, .unset] [(.ref b350)]) := fun t k => k352 t (st354.trans k)
        have k356 : Way p e below S0 T354 (mkF m 57 #[iv p1, iv p2, rv w_EDIT, iv (1 : Int32), iv (0 : Int32), rv b350, .unset, .unset, .unset] [(.ref b350)]) := by
          intro t k
          refine k355 t ?_
          refine XS.astore X354.here hx rfl (hb hby at_53) rfl rfl (l' := #[iv p1, iv p2, rv w_EDIT, iv (1 : Int32), iv (0 : Int32), rv b350, .unset, .unset, .unset]) rfl ?_
          show Steps p.tables e below (T354.setTop (mkF m 55 #[iv p1, iv p2, rv w_EDIT, iv (1 : Int32), iv (0 : Int32), rv b350, .unset, .unset, .unset] [])) _
          refine XS.aload X354.here hx rfl (hb hby at_55) rfl rfl ?_
          show Steps p.tables e below (T354.setTop (mkF m 57 #[iv p1, iv p2, rv w_EDIT, iv (1 : Int32), iv (0 : Int32), rv b350, .unset, .unset, .unset] [(.ref b350)])) _
          exact k
        obtain ⟨cq357, kq357, qq357a, qq357b, qq357c⟩ := isOf hZ rfl po354_0
        obtain ⟨_, _, ⟨T357, L357, kk357, nn357⟩, -, Xr357, hSr357, hgr357, ⟨Lc357, hQ357, l357, y357, z357, Rr357⟩, st357⟩ := X354.virtualBackS hx (y := (⟨"caseward/policy/Access", "piiWord", "()Ljava/lang/String;"⟩ : MethodName)) (z := (⟨"caseward/policy/Access", "piiWord", "()Ljava/lang/String;"⟩ : MethodName)) hown (mvT hZ (hw _ (List.mem_of_getElem? (i := 29) rfl))) (mvT hZ (hw _ (List.mem_of_getElem? (i := 30) rfl))) (notFace_of_selects (args := #[]) (mvT hZ (hw _ (List.mem_of_getElem? (i := 32) rfl)))) (mvT hZ (hw _ (List.mem_of_getElem? (i := 32) rfl))) (mvT hZ (hw _ (List.mem_of_getElem? (i := 31) rfl))) (by decide) (backOfSH (s := s) (vm0 := s.vm) (W := 0) (piiWord1 l Z a0 hw [] w_NONE w_VIEW w_EDIT wCS G b350 T354.heap n0 O354 (po354_1 : Fld Z T354.heap b350 "caseward/policy/Access" "pii" "Z" (.int (1 : Int32)))) hZ (hw _ (List.mem_of_getElem? (i := 33) rfl)) (hw _ (List.mem_of_getElem? (i := 10) rfl)) (by decide) (by decide) (own_EW hw) R354.1) qq357a qq357c (g := (mkF m 57 #[iv p1, iv p2, rv w_EDIT, iv (1 : Int32), iv (0 : Int32), rv b350, .unset, .unset, .unset] [(.ref b350)])) rfl (by rw [hml]; rfl) (Steps.refl _) (argsL := []) (rest := []) (lenOf pd_4 rfl) rfl (by show 2 * 0 + _ ≤ _; exact Nat.le_of_eq rfl) (hb hby at_57) (fun _ _ => ⟨rfl, rfl, (by decide : 1 + 2 ≤ _), (by decide : 3 + 36 ≤ _)⟩)
        dsimp only [Pt.U, Pt.locs, Pt.cells, Pt.slots] at Xr357 hSr357 hgr357 l357 y357 z357 st357 hQ357 Rr357
        subst l357 y357 z357
        obtain ⟨X357, hS357, hZ357, ho357⟩ := rebS (s := s) (vm0 := s.vm) hS0 (Nat.zero_le _) Xr357 hSr357 hgr357 hZ hown
        have hZ := hZ357
        have hown := ho357
        obtain ⟨a2_357, a3_357, kk1_357, rfl, Nq357, Kq357, po357_0, po357_1, po357_2, po357_3⟩ := hQ357
        have N357 := Fr.app N354 Nq357
        have O357 := O354.keep Kq357 all0
        have R357 : CHr Z own_EL s.vm h0 T357.vm T357.heap := R354.trans Rr357
        have k358 : Way p e below S0 T357 (mkF m 60 #[iv p1, iv p2, rv w_EDIT, iv (1 : Int32), iv (0 : Int32), rv b350, .unset, .unset, .unset] [(.ref a2_357)]) := fun t k => k356 t (st357.trans k)
        have k359 : Way p e below S0 T357 (mkF m 71 #[iv p1, iv p2, rv w_EDIT, iv (1 : Int32), iv (0 : Int32), rv b350, rv a2_357, .unset, .unset] [(.ref a2_357)]) := by
          intro t k
          refine k358 t ?_
          refine XS.astore X357.here hx rfl (hb hby at_60) rfl rfl (l' := #[iv p1, iv p2, rv w_EDIT, iv (1 : Int32), iv (0 : Int32), rv b350, rv a2_357, .unset, .unset]) rfl ?_
          show Steps p.tables e below (T357.setTop (mkF m 62 #[iv p1, iv p2, rv w_EDIT, iv (1 : Int32), iv (0 : Int32), rv b350, rv a2_357, .unset, .unset] [])) _
          refine XS.aload X357.here hx rfl (hb hby at_62) rfl rfl ?_
          show Steps p.tables e below (T357.setTop (mkF m 64 #[iv p1, iv p2, rv w_EDIT, iv (1 : Int32), iv (0 : Int32), rv b350, rv a2_357, .unset, .unset] [(.ref a2_357)])) _
          refine XS.ifnonnullYes X357.here hx rfl (pc0 := 64) (pc' := 69) rfl (hb hby at_64) rfl (by decide) (by decide) ?_
          show Steps p.tables e below (T357.setTop (mkF m 69 #[iv p1, iv p2, rv w_EDIT, iv (1 : Int32), iv (0 : Int32), rv b350, rv a2_357, .unset, .unset] [])) _
          refine XS.aload X357.here hx rfl (hb hby at_69) rfl rfl ?_
          show Steps p.tables e below (T357.setTop (mkF m 71 #[iv p1, iv p2, rv w_EDIT, iv (1 : Int32), iv (0 : Int32), rv b350, rv a2_357, .unset, .unset] [(.ref a2_357)])) _
          exact k
        obtain ⟨la360, T360, h360, ks360, lb360, lk360, X360, e360, E360, hS360, hk360, hZ360, ho360, Fe360, Fc360, Fv360, Va360, -, -, Rr360, Li360, Sa360, st360⟩ := ldcCH (s := s) (vm0 := T357.vm) (EL := own_EL) X357 hx hZ hown (hw _ (List.mem_of_getElem? (i := 42) rfl)) (own_strW hw) rfl hS357 (Nat.le_trans (Nat.le_refl _) (Nat.le_refl _)) (own_EW hw) (by decide) R357.1 (vs := [(.int (117 : Int32)), (.int (110 : Int32)), (.int (109 : Int32)), (.int (97 : Int32)), (.int (115 : Int32)), (.int (107 : Int32)), (.int (101 : Int32)), (.int (100 : Int32))]) (z := (8 : Int32)) ⟨by decide, by decide⟩ (by decide) (by decide) (g := (mkF m 71 #[iv p1, iv p2, rv w_EDIT, iv (1 : Int32), iv (0 : Int32), rv b350, rv a2_357, .unset, .unset] [(.ref a2_357)])) rfl (hb hby at_71) (n := 32) (by decide) (by decide) (by decide) (by decide)
        have hZ := hZ360
        have hown := ho360
        have R360 : CHr Z own_EL s.vm h0 T360.vm h360 := R357.trans Rr360
        have O360 := O357.ext E360
        have k361 : Way p e below S0 T360 (mkF m 73 #[iv p1, iv p2, rv w_EDIT, iv (1 : Int32), iv (0 : Int32), rv b350, rv a2_357, .unset, .unset] [(.ref la360), (.ref a2_357)]) := fun t k => k359 t (st360 _ k)
        have f362 : Fld Z h360 a2_357 "java/lang/String" "coder" "B" (.int (0 : Int32)) := (po357_1.ext E360)
        have f363 : Fld Z h360 a2_357 "java/lang/String" "value" "[B" (.ref a3_357) := (po357_2.ext E360)
        have f364 : Arv Z h360 a3_357 kk1_357 .byte (8 : Int32) [(.int (117 : Int32)), (.int (110 : Int32)), (.int (109 : Int32)), (.int (97 : Int32)), (.int (115 : Int32)), (.int (107 : Int32)), (.int (101 : Int32)), (.int (100 : Int32))] (.int (0 : Int32)) := (po357_3.ext E360)
        have f366 : Exa Z h360 a2_357 "java/lang/String" := (po357_0.ext E360)
        obtain ⟨cq365, kq365, qq365a, qq365b, qq365c⟩ := isOf hZ e360 f366
        obtain ⟨_, _, ⟨T365, L365, kk365, nn365⟩, -, X365, ⟨Lc365, hQ365, l365, y365, z365⟩, st365⟩ := X360.virtualBack hx (y := (⟨"java/lang/String", "equals", "(Ljava/lang/Object;)Z"⟩ : MethodName)) (z := (⟨"java/lang/String", "equals", "(Ljava/lang/Object;)Z"⟩ : MethodName)) hown (mvT hZ (hw _ (List.mem_of_getElem? (i := 43) rfl))) (mvT hZ (hw _ (List.mem_of_getElem? (i := 44) rfl))) (notFace_of_selects (args := #[]) (mvT hZ (hw _ (List.mem_of_getElem? (i := 46) rfl)))) (mvT hZ (hw _ (List.mem_of_getElem? (i := 46) rfl))) (mvT hZ (hw _ (List.mem_of_getElem? (i := 45) rfl))) (by decide) (backOf (W := 0) (seq11 l Z a0 hw [] w_NONE w_VIEW w_EDIT wCS G a2_357 la360 a3_357 lb360 kk1_357 lk360 h360 n0 O360 (f362 : Fld Z h360 a2_357 "java/lang/String" "coder" "B" (.int (0 : Int32))) (f363 : Fld Z h360 a2_357 "java/lang/String" "value" "[B" (.ref a3_357)) (f364 : Arv Z h360 a3_357 kk1_357 .byte (8 : Int32) [(.int (117 : Int32)), (.int (110 : Int32)), (.int (109 : Int32)), (.int (97 : Int32)), (.int (115 : Int32)), (.int (107 : Int32)), (.int (101 : Int32)), (.int (100 : Int32))] (.int (0 : Int32))) (Fe360 : Exa Z h360 la360 "java/lang/String") (Fc360 : Fld Z h360 la360 "java/lang/String" "coder" "B" (.int (0 : Int32))) (Fv360 : Fld Z h360 la360 "java/lang/String" "value" "[B" (.ref lb360)) (Va360 : Arv Z h360 lb360 lk360 .byte (8 : Int32) [(.int (117 : Int32)), (.int (110 : Int32)), (.int (109 : Int32)), (.int (97 : Int32)), (.int (115 : Int32)), (.int (107 : Int32)), (.int (101 : Int32)), (.int (100 : Int32))] (.int (0 : Int32)))) hZ (hw _ (List.mem_of_getElem? (i := 47) rfl)) (hw _ (List.mem_of_getElem? (i := 35) rfl)) (by decide) (by decide)) qq365a qq365c (g := (mkF m 73 #[iv p1, iv p2, rv w_EDIT, iv (1 : Int32), iv (0 : Int32), rv b350, rv a2_357, .unset, .unset] [(.ref la360), (.ref a2_357)])) rfl (by rw [hml]; rfl) (Steps.refl _) (argsL := [(.ref la360)]) (rest := []) (lenOf pd_5 rfl) rfl (by show 2 * 0 + _ ≤ _; exact Nat.le_of_eq rfl) (hb hby at_73) (fun _ _ => ⟨rfl, e360, (by decide : 5 + 0 ≤ _), (by decide : 75 + 0 ≤ _)⟩)
        dsimp only [Pt.U, Pt.locs, Pt.cells, Pt.slots] at X365 l365 y365 z365 st365 hQ365
        subst l365 y365 z365
        obtain ⟨rfl, Nq365, e365⟩ := hQ365
        have N365 := Fr.app N357 Nq365
        have k367 : Way p e below S0 T365 (mkF m 76 #[iv p1, iv p2, rv w_EDIT, iv (1 : Int32), iv (0 : Int32), rv b350, rv a2_357, .unset, .unset] [(.int (1 : Int32))]) := fun t k => k361 t (st365.trans k)
        have k368 : Way p e below S0 T365 (mkF m 80 #[iv p1, iv p2, rv w_EDIT, iv (1 : Int32), iv (0 : Int32), rv b350, rv a2_357, iv (1 : Int32), .unset] [(.ref a2_357)]) := by
          intro t k
          refine k367 t ?_
          refine XS.istore X365.here hx rfl (hb hby at_76) rfl (l' := #[iv p1, iv p2, rv w_EDIT, iv (1 : Int32), iv (0 : Int32), rv b350, rv a2_357, iv (1 : Int32), .unset]) rfl ?_
          show Steps p.tables e below (T365.setTop (mkF m 78 #[iv p1, iv p2, rv w_EDIT, iv (1 : Int32), iv (0 : Int32), rv b350, rv a2_357, iv (1 : Int32), .unset] [])) _
          refine XS.aload X365.here hx rfl (hb hby at_78) rfl rfl ?_
          show Steps p.tables e below (T365.setTop (mkF m 80 #[iv p1, iv p2, rv w_EDIT, iv (1 : Int32), iv (0 : Int32), rv b350, rv a2_357, iv (1 : Int32), .unset] [(.ref a2_357)])) _
          exact k
        obtain ⟨la369, T369, h369, ks369, lb369, lk369, X369, e369, E369, hS369, hk369, hZ369, ho369, Fe369, Fc369, Fv369, Va369, -, -, Rr369, Li369, Sa369, st369⟩ := ldcCH (s := s) (vm0 := T360.vm) (EL := own_EL) X365 hx hZ hown (hw _ (List.mem_of_getElem? (i := 57) rfl)) (own_strW hw) e365 hS360 (Nat.le_trans hk360 (Nat.le_refl _)) (own_EW hw) (by decide) R360.1 (vs := [(.int (109 : Int32)), (.int (97 : Int32)), (.int (115 : Int32)), (.int (107 : Int32)), (.int (101 : Int32)), (.int (100 : Int32))]) (z := (6 : Int32)) ⟨by decide, by decide⟩ (by decide) (by decide) (g := (mkF m 80 #[iv p1, iv p2, rv w_EDIT, iv (1 : Int32), iv (0 : Int32), rv b350, rv a2_357, iv (1 : Int32), .unset] [(.ref a2_357)])) rfl (hb hby at_80) (n := 24) (by decide) (by decide) (by decide) (by decide)
        have hZ := hZ369
        have hown := ho369
        have R369 : CHr Z own_EL s.vm h0 T369.vm h369 := R360.trans Rr369
        have O369 := O360.ext E369
        have k370 : Way p e below S0 T369 (mkF m 82 #[iv p1, iv p2, rv w_EDIT, iv (1 : Int32), iv (0 : Int32), rv b350, rv a2_357, iv (1 : Int32), .unset] [(.ref la369), (.ref a2_357)]) := fun t k => k368 t (st369 _ k)
        have f371 : Fld Z h369 a2_357 "java/lang/String" "value" "[B" (.ref a3_357) := (f363.ext E369)
        have f372 : Arv Z h369 a3_357 kk1_357 .byte (8 : Int32) [(.int (117 : Int32)), (.int (110 : Int32)), (.int (109 : Int32)), (.int (97 : Int32)), (.int (115 : Int32)), (.int (107 : Int32)), (.int (101 : Int32)), (.int (100 : Int32))] (.int (0 : Int32)) := (f364.ext E369)
        have f373 : Fld Z h369 a2_357 "java/lang/String" "coder" "B" (.int (0 : Int32)) := (f362.ext E369)
        have f375 : Exa Z h369 a2_357 "java/lang/String" := (f366.ext E369)
        obtain ⟨cq374, kq374, qq374a, qq374b, qq374c⟩ := isOf hZ e369 f375
        obtain ⟨_, _, ⟨T374, L374, kk374, nn374⟩, -, X374, ⟨Lc374, hQ374, l374, y374, z374⟩, st374⟩ := X369.virtualBack hx (y := (⟨"java/lang/String", "equals", "(Ljava/lang/Object;)Z"⟩ : MethodName)) (z := (⟨"java/lang/String", "equals", "(Ljava/lang/Object;)Z"⟩ : MethodName)) hown (mvT hZ (hw _ (List.mem_of_getElem? (i := 43) rfl))) (mvT hZ (hw _ (List.mem_of_getElem? (i := 44) rfl))) (notFace_of_selects (args := #[]) (mvT hZ (hw _ (List.mem_of_getElem? (i := 46) rfl)))) (mvT hZ (hw _ (List.mem_of_getElem? (i := 46) rfl))) (mvT hZ (hw _ (List.mem_of_getElem? (i := 45) rfl))) (by decide) (backOf (W := 0) (seq10 l Z a0 hw [] w_NONE w_VIEW w_EDIT wCS G a2_357 la369 a3_357 lb369 kk1_357 lk369 h369 n0 O369 (f373 : Fld Z h369 a2_357 "java/lang/String" "coder" "B" (.int (0 : Int32))) (f371 : Fld Z h369 a2_357 "java/lang/String" "value" "[B" (.ref a3_357)) (f372 : Arv Z h369 a3_357 kk1_357 .byte (8 : Int32) [(.int (117 : Int32)), (.int (110 : Int32)), (.int (109 : Int32)), (.int (97 : Int32)), (.int (115 : Int32)), (.int (107 : Int32)), (.int (101 : Int32)), (.int (100 : Int32))] (.int (0 : Int32))) (Fe369 : Exa Z h369 la369 "java/lang/String") (Fc369 : Fld Z h369 la369 "java/lang/String" "coder" "B" (.int (0 : Int32))) (Fv369 : Fld Z h369 la369 "java/lang/String" "value" "[B" (.ref lb369)) (Va369 : Arv Z h369 lb369 lk369 .byte (6 : Int32) [(.int (109 : Int32)), (.int (97 : Int32)), (.int (115 : Int32)), (.int (107 : Int32)), (.int (101 : Int32)), (.int (100 : Int32))] (.int (0 : Int32))) (Fld.ne f371 Fv369 (fun q => absurd (Value.ref.inj q) (arv_ne f372 Va369 (Or.inl (by decide)))) : a2_357 ≠ la369)) hZ (hw _ (List.mem_of_getElem? (i := 47) rfl)) (hw _ (List.mem_of_getElem? (i := 35) rfl)) (by decide) (by decide)) qq374a qq374c (g := (mkF m 82 #[iv p1, iv p2, rv w_EDIT, iv (1 : Int32), iv (0 : Int32), rv b350, rv a2_357, iv (1 : Int32), .unset] [(.ref la369), (.ref a2_357)])) rfl (by rw [hml]; rfl) (Steps.refl _) (argsL := [(.ref la369)]) (rest := []) (lenOf pd_5 rfl) rfl (by show 2 * 0 + _ ≤ _; exact Nat.le_of_eq rfl) (hb hby at_82) (fun _ _ => ⟨rfl, e369, (by decide : 7 + 0 ≤ _), (by decide : 103 + 0 ≤ _)⟩)
        dsimp only [Pt.U, Pt.locs, Pt.cells, Pt.slots] at X374 l374 y374 z374 st374 hQ374
        subst l374 y374 z374
        obtain ⟨rfl, Nq374, e374⟩ := hQ374
        have N374 := Fr.app N365 Nq374
        have k376 : Way p e below S0 T374 (mkF m 85 #[iv p1, iv p2, rv w_EDIT, iv (1 : Int32), iv (0 : Int32), rv b350, rv a2_357, iv (1 : Int32), .unset] [(.int (0 : Int32))]) := fun t k => k370 t (st374.trans k)
        have k377 : Way p e below S0 T374 (mkF m 112 #[iv p1, iv p2, rv w_EDIT, iv (1 : Int32), iv (0 : Int32), rv b350, rv a2_357, iv (1 : Int32), iv (0 : Int32)] [(.int (1 : Int32))]) := by
          intro t k
          refine k376 t ?_
          refine XS.istore X374.here hx rfl (hb hby at_85) rfl (l' := #[iv p1, iv p2, rv w_EDIT, iv (1 : Int32), iv (0 : Int32), rv b350, rv a2_357, iv (1 : Int32), iv (0 : Int32)]) rfl ?_
          show Steps p.tables e below (T374.setTop (mkF m 87 #[iv p1, iv p2, rv w_EDIT, iv (1 : Int32), iv (0 : Int32), rv b350, rv a2_357, iv (1 : Int32), iv (0 : Int32)] [])) _
          refine XS.iload X374.here hx rfl (hb hby at_87) rfl ?_
          show Steps p.tables e below (T374.setTop (mkF m 89 #[iv p1, iv p2, rv w_EDIT, iv (1 : Int32), iv (0 : Int32), rv b350, rv a2_357, iv (1 : Int32), iv (0 : Int32)] [(.int (1 : Int32))])) _
          refine XS.iloadN X374.here hx rfl (hb hby at_89) rfl ?_
          show Steps p.tables e below (T374.setTop (mkF m 90 #[iv p1, iv p2, rv w_EDIT, iv (1 : Int32), iv (0 : Int32), rv b350, rv a2_357, iv (1 : Int32), iv (0 : Int32)] [(.int (1 : Int32)), (.int (1 : Int32))])) _
          refine XS.icmpNo X374.here hx rfl (hb hby at_90) rfl (teq ((by decide) : (1 : Int32) = (1 : Int32))).2 ?_
          show Steps p.tables e below (T374.setTop (mkF m 93 #[iv p1, iv p2, rv w_EDIT, iv (1 : Int32), iv (0 : Int32), rv b350, rv a2_357, iv (1 : Int32), iv (0 : Int32)] [])) _
          refine XS.iload X374.here hx rfl (hb hby at_93) rfl ?_
          show Steps p.tables e below (T374.setTop (mkF m 95 #[iv p1, iv p2, rv w_EDIT, iv (1 : Int32), iv (0 : Int32), rv b350, rv a2_357, iv (1 : Int32), iv (0 : Int32)] [(.int (0 : Int32))])) _
          refine XS.iloadN X374.here hx rfl (hb hby at_95) rfl ?_
          show Steps p.tables e below (T374.setTop (mkF m 96 #[iv p1, iv p2, rv w_EDIT, iv (1 : Int32), iv (0 : Int32), rv b350, rv a2_357, iv (1 : Int32), iv (0 : Int32)] [(.int (1 : Int32)), (.int (0 : Int32))])) _
          refine XS.ifYes X374.here hx rfl (pc0 := 96) (pc' := 103) rfl (hb hby at_96) rfl ((if0 _ _).trans (feq ((by decide) : ¬ ((1 : Int32) = (0 : Int32)))).2) (by decide) (by decide) ?_
          show Steps p.tables e below (T374.setTop (mkF m 103 #[iv p1, iv p2, rv w_EDIT, iv (1 : Int32), iv (0 : Int32), rv b350, rv a2_357, iv (1 : Int32), iv (0 : Int32)] [(.int (0 : Int32))])) _
          refine XS.iconst X374.here hx rfl (hb hby at_103) ?_
          show Steps p.tables e below (T374.setTop (mkF m 104 #[iv p1, iv p2, rv w_EDIT, iv (1 : Int32), iv (0 : Int32), rv b350, rv a2_357, iv (1 : Int32), iv (0 : Int32)] [(.int (0 : Int32)), (.int (0 : Int32))])) _
          refine XS.icmpNo X374.here hx rfl (hb hby at_104) rfl (teq ((by decide) : (0 : Int32) = (0 : Int32))).2 ?_
          show Steps p.tables e below (T374.setTop (mkF m 107 #[iv p1, iv p2, rv w_EDIT, iv (1 : Int32), iv (0 : Int32), rv b350, rv a2_357, iv (1 : Int32), iv (0 : Int32)] [])) _
          refine XS.iconst X374.here hx rfl (hb hby at_107) ?_
          show Steps p.tables e below (T374.setTop (mkF m 108 #[iv p1, iv p2, rv w_EDIT, iv (1 : Int32), iv (0 : Int32), rv b350, rv a2_357, iv (1 : Int32), iv (0 : Int32)] [(.int (1 : Int32))])) _
          refine XS.goto X374.here hx rfl (pc0 := 108) (pc' := 112) rfl (hb hby at_108) (by decide) (by decide) ?_
          show Steps p.tables e below (T374.setTop (mkF m 112 #[iv p1, iv p2, rv w_EDIT, iv (1 : Int32), iv (0 : Int32), rv b350, rv a2_357, iv (1 : Int32), iv (0 : Int32)] [(.int (1 : Int32))])) _
          exact k
        obtain ⟨fs, hr, hrun, hended, hRW⟩ := Stand.leaveW (s := s) (vm₁ := T369.vm) X374 hS369 (by rw [e374]; exact (Nat.le_trans hk369 (Nat.le_refl _))) (v := some (.int (1 : Int32))) (fun h => by rw [Bd.returns] at h; cases h)
        have RF : CHr Z own_EL s.vm h0 T374.vm h369 := R369.trans (CHv.at (s := s) (vm0 := T369.vm) X374 hZ (own_EW hw) R369.1)
        refine ⟨_, _, k377 _ (retN X374 hx (t := .boolean) Bd.returns (by simp) (hb hby at_112) hr), hrun, hended, _, _, rfl, ?_, (by show CHr Z own_EL s.vm s.heap T374.vm T374.heap; rw [hh, e374]; exact RF), own_rw hRW (by decide) (by decide)⟩
        show Q_law_met Z w_NONE w_VIEW w_EDIT wCS p1 p2 h0 n0 _ T374.heap _
        rw [e374]
        exact ⟨rfl, N374⟩
      · have k378 : Way p e below S0 T2 (mkF m 31 #[iv p1, iv p2, rv w_EDIT, iv (1 : Int32), iv (1 : Int32), .unset, .unset, .unset, .unset] [(.ref w_EDIT)]) := by
          intro t k
          refine k345 t ?_
          refine XS.ifNo X2.here hx rfl (hb hby at_20) rfl ((if0 _ _).trans (feq (hc344 : ¬ ((p2 &&& (2 : Int32)) = (0 : Int32)))).1) ?_
          show Steps p.tables e below (T2.setTop (mkF m 23 #[iv p1, iv p2, rv w_EDIT, iv (1 : Int32), .unset, .unset, .unset, .unset, .unset] [])) _
          refine XS.iconst X2.here hx rfl (hb hby at_23) ?_
          show Steps p.tables e below (T2.setTop (mkF m 24 #[iv p1, iv p2, rv w_EDIT, iv (1 : Int32), .unset, .unset, .unset, .unset, .unset] [(.int (1 : Int32))])) _
          refine XS.goto X2.here hx rfl (pc0 := 24) (pc' := 28) rfl (hb hby at_24) (by decide) (by decide) ?_
          show Steps p.tables e below (T2.setTop (mkF m 28 #[iv p1, iv p2, rv w_EDIT, iv (1 : Int32), .unset, .unset, .unset, .unset, .unset] [(.int (1 : Int32))])) _
          refine XS.istore X2.here hx rfl (hb hby at_28) rfl (l' := #[iv p1, iv p2, rv w_EDIT, iv (1 : Int32), iv (1 : Int32), .unset, .unset, .unset, .unset]) rfl ?_
          show Steps p.tables e below (T2.setTop (mkF m 30 #[iv p1, iv p2, rv w_EDIT, iv (1 : Int32), iv (1 : Int32), .unset, .unset, .unset, .unset] [])) _
          refine XS.aloadN X2.here hx rfl (hb hby at_30) rfl rfl ?_
          show Steps p.tables e below (T2.setTop (mkF m 31 #[iv p1, iv p2, rv w_EDIT, iv (1 : Int32), iv (1 : Int32), .unset, .unset, .unset, .unset] [(.ref w_EDIT)])) _
          exact k
        obtain ⟨T379, X379, e379, st379⟩ := getS2 X2 hx hZ hown (host := "") (Or.inl (hw _ (List.mem_of_getElem? (i := 5) rfl))) Via.refl e2 (S_w_NONE.ext O0.2) (g := (mkF m 31 #[iv p1, iv p2, rv w_EDIT, iv (1 : Int32), iv (1 : Int32), .unset, .unset, .unset, .unset] [(.ref w_EDIT)])) rfl (hb hby at_31)
        have k380 : Way p e below S0 T379 (mkF m 34 #[iv p1, iv p2, rv w_EDIT, iv (1 : Int32), iv (1 : Int32), .unset, .unset, .unset, .unset] [(.ref w_NONE), (.ref w_EDIT)]) := fun t k => k378 t (st379 _ k)
        have k381 : Way p e below S0 T379 (mkF m 42 #[iv p1, iv p2, rv w_EDIT, iv (1 : Int32), iv (1 : Int32), .unset, .unset, .unset, .unset] []) := by
          intro t k
          refine k380 t ?_
          refine Jvm.RoadKit.acmp (g := (mkF m 34 #[iv p1, iv p2, rv w_EDIT, iv (1 : Int32), iv (1 : Int32), .unset, .unset, .unset, .unset] [(.ref w_NONE), (.ref w_EDIT)])) X379 hx rfl rfl rfl (pc0 := 34) (pc' := 42) (same := false) rfl (hb hby at_34) rfl (decide_eq_false fun q => absurd (Value.ref.inj q) (F_w_EDIT_ordinal.ne F_w_NONE_ordinal (by decide))) (by decide) (by decide) ?_
          show Steps p.tables e below (T379.setTop (mkF m 42 #[iv p1, iv p2, rv w_EDIT, iv (1 : Int32), iv (1 : Int32), .unset, .unset, .unset, .unset] [])) _
          exact k
        obtain ⟨T382, h382, X382, e382, E382, A382, D382, U382, st382⟩ := newO X379 hx hZ hown (hw _ (List.mem_of_getElem? (i := 8) rfl)) (hw _ (List.mem_of_getElem? (i := 9) rfl)) (hw _ (List.mem_of_getElem? (i := 10) rfl)) e379 (g := (mkF m 42 #[iv p1, iv p2, rv w_EDIT, iv (1 : Int32), iv (1 : Int32), .unset, .unset, .unset, .unset] [])) rfl (hb hby at_42) (by decide) (by decide)
        obtain ⟨b382, g382⟩ : ∃ z, z = h0.size := ⟨_, rfl⟩
        rw [← g382] at A382 D382 U382 st382
        have R382 : CHr Z own_EL s.vm h0 s.vm h382 := R0.trans (CHr.ext E382 R0.1)
        have O382 := O0.ext E382
        have i382_level : Fld Z h382 b382 "caseward/policy/Access" "level" "Lcaseward/policy/Access$Level;" .null := D382 (Or.inr (hw _ (List.mem_of_getElem? (i := 24) rfl))) (ty := (.object "caseward/policy/Access$Level")) (by decide)
        have i382_pii : Fld Z h382 b382 "caseward/policy/Access" "pii" "Z" (.int (0 : Int32)) := D382 (Or.inr (hw _ (List.mem_of_getElem? (i := 26) rfl))) (ty := .boolean) (by decide)
        have i382_unblinded : Fld Z h382 b382 "caseward/policy/Access" "unblinded" "Z" (.int (0 : Int32)) := D382 (Or.inr (hw _ (List.mem_of_getElem? (i := 28) rfl))) (ty := .boolean) (by decide)
        have k383 : Way p e below S0 T382 (mkF m 45 #[iv p1, iv p2, rv w_EDIT, iv (1 : Int32), iv (1 : Int32), .unset, .unset, .unset, .unset] [(.ref b382)]) := fun t k => k381 t (st382 _ k)
        have k384 : Way p e below S0 T382 (mkF m 50 #[iv p1, iv p2, rv w_EDIT, iv (1 : Int32), iv (1 : Int32), .unset, .unset, .unset, .unset] [(.int (1 : Int32)), (.int (1 : Int32)), (.ref w_EDIT), (.ref b382), (.ref b382)]) := by
          intro t k
          refine k383 t ?_
          refine XS.dup X382.here hx rfl (hb hby at_45) rfl rfl ?_
          show Steps p.tables e below (T382.setTop (mkF m 46 #[iv p1, iv p2, rv w_EDIT, iv (1 : Int32), iv (1 : Int32), .unset, .unset, .unset, .unset] [(.ref b382), (.ref b382)])) _
          refine XS.aloadN X382.here hx rfl (hb hby at_46) rfl rfl ?_
          show Steps p.tables e below (T382.setTop (mkF m 47 #[iv p1, iv p2, rv w_EDIT, iv (1 : Int32), iv (1 : Int32), .unset, .unset, .unset, .unset] [(.ref w_EDIT), (.ref b382), (.ref b382)])) _
          refine XS.iloadN X382.here hx rfl (hb hby at_47) rfl ?_
          show Steps p.tables e below (T382.setTop (mkF m 48 #[iv p1, iv p2, rv w_EDIT, iv (1 : Int32), iv (1 : Int32), .unset, .unset, .unset, .unset] [(.int (1 : Int32)), (.ref w_EDIT), (.ref b382), (.ref b382)])) _
          refine XS.iload X382.here hx rfl (hb hby at_48) rfl ?_
          show Steps p.tables e below (T382.setTop (mkF m 50 #[iv p1, iv p2, rv w_EDIT, iv (1 : Int32), iv (1 : Int32), .unset, .unset, .unset, .unset] [(.int (1 : Int32)), (.int (1 : Int32)), (.ref w_EDIT), (.ref b382), (.ref b382)])) _
          exact k
        have ge385 : n0 ≤ b382 := Nat.le_trans (own_old O0) (Nat.le_of_eq g382.symm)
        obtain ⟨_, _, ⟨T386, L386, kk386, nn386⟩, -, X386, ⟨Lc386, hQ386, l386, y386, z386⟩, st386⟩ := X382.specialBack hx (y := (⟨"caseward/policy/Access", "<init>", "(Lcaseward/policy/Access$Level;ZZ)V"⟩ : MethodName)) rfl hown (mvT hZ (hw _ (List.mem_of_getElem? (i := 11) rfl))) (mvT hZ (hw _ (List.mem_of_getElem? (i := 12) rfl))) (mvT hZ (hw _ (List.mem_of_getElem? (i := 13) rfl))) (by decide) (backOf (W := 1) (init_EDIT11 l Z a0 hw [] w_NONE w_VIEW w_EDIT wCS G b382 h382 n0 O382 (A382 : Exa Z h382 b382 "caseward/policy/Access") (i382_level : Fld Z h382 b382 "caseward/policy/Access" "level" "Lcaseward/policy/Access$Level;" .null) (i382_pii : Fld Z h382 b382 "caseward/policy/Access" "pii" "Z" (.int (0 : Int32))) (i382_unblinded : Fld Z h382 b382 "caseward/policy/Access" "unblinded" "Z" (.int (0 : Int32))) (ge385 : n0 ≤ b382)) hZ (hw _ (List.mem_of_getElem? (i := 13) rfl)) (hw _ (List.mem_of_getElem? (i := 10) rfl)) (by decide) (by decide)) (g := (mkF m 50 #[iv p1, iv p2, rv w_EDIT, iv (1 : Int32), iv (1 : Int32), .unset, .unset, .unset, .unset] [(.int (1 : Int32)), (.int (1 : Int32)), (.ref w_EDIT), (.ref b382), (.ref b382)])) rfl (by rw [hml]; rfl) (Steps.refl _) (a := b382) (argsL := [(.ref w_EDIT), (.int (1 : Int32)), (.int (1 : Int32))]) (rest := [(.ref b382)]) (lenOf pd_3 rfl) rfl (by show 2 * 0 + _ ≤ _; exact Nat.le_of_eq rfl) (hb hby at_50) (fun _ _ => ⟨rfl, e382, (by decide : 1 + 0 ≤ _), (by decide : 3 + 0 ≤ _)⟩)
        dsimp only [Pt.U, Pt.locs, Pt.cells, Pt.slots] at X386 l386 y386 z386 st386 hQ386
        subst l386 y386 z386
        obtain ⟨rfl, Nq386, Kq386, po386_0, po386_1⟩ := hQ386
        have N386 := Fr.app N2 Nq386
        have O386 := O382.keep Kq386 (allS ge385 all0)
        have R386 : CHr Z own_EL s.vm h0 s.vm T386.heap := R382.trans (CHr.keep Kq386 (sfS (Safe.exa hZ.alike A382 (by decide) (by decide)) sf0) R382.1)
        have k387 : Way p e below S0 T386 (mkF m 53 #[iv p1, iv p2, rv w_EDIT, iv (1 : Int32), iv (1 : Int32), .unset, .unset, .unset, .unset] [(.ref b382)]) := fun t k => k384 t (st386.trans k)
        have k388 : Way p e below S0 T386 (mkF m 57 #[iv p1, iv p2, rv w_EDIT, iv (1 : Int32), iv (1 : Int32), rv b382, .unset, .unset, .unset] [(.ref b382)]) := by
          intro t k
          refine k387 t ?_
          refine XS.astore X386.here hx rfl (hb hby at_53) rfl rfl (l' := #[iv p1, iv p2, rv w_EDIT, iv (1 : Int32), iv (1 : Int32), rv b382, .unset, .unset, .unset]) rfl ?_
          show Steps p.tables e below (T386.setTop (mkF m 55 #[iv p1, iv p2, rv w_EDIT, iv (1 : Int32), iv (1 : Int32), rv b382, .unset, .unset, .unset] [])) _
          refine XS.aload X386.here hx rfl (hb hby at_55) rfl rfl ?_
          show Steps p.tables e below (T386.setTop (mkF m 57 #[iv p1, iv p2, rv w_EDIT, iv (1 : Int32), iv (1 : Int32), rv b382, .unset, .unset, .unset] [(.ref b382)])) _
          exact k
        obtain ⟨cq389, kq389, qq389a, qq389b, qq389c⟩ := isOf hZ rfl po386_0
        obtain ⟨_, _, ⟨T389, L389, kk389, nn389⟩, -, Xr389, hSr389, hgr389, ⟨Lc389, hQ389, l389, y389, z389, Rr389⟩, st389⟩ := X386.virtualBackS hx (y := (⟨"caseward/policy/Access", "piiWord", "()Ljava/lang/String;"⟩ : MethodName)) (z := (⟨"caseward/policy/Access", "piiWord", "()Ljava/lang/String;"⟩ : MethodName)) hown (mvT hZ (hw _ (List.mem_of_getElem? (i := 29) rfl))) (mvT hZ (hw _ (List.mem_of_getElem? (i := 30) rfl))) (notFace_of_selects (args := #[]) (mvT hZ (hw _ (List.mem_of_getElem? (i := 32) rfl)))) (mvT hZ (hw _ (List.mem_of_getElem? (i := 32) rfl))) (mvT hZ (hw _ (List.mem_of_getElem? (i := 31) rfl))) (by decide) (backOfSH (s := s) (vm0 := s.vm) (W := 0) (piiWord1 l Z a0 hw [] w_NONE w_VIEW w_EDIT wCS G b382 T386.heap n0 O386 (po386_1 : Fld Z T386.heap b382 "caseward/policy/Access" "pii" "Z" (.int (1 : Int32)))) hZ (hw _ (List.mem_of_getElem? (i := 33) rfl)) (hw _ (List.mem_of_getElem? (i := 10) rfl)) (by decide) (by decide) (own_EW hw) R386.1) qq389a qq389c (g := (mkF m 57 #[iv p1, iv p2, rv w_EDIT, iv (1 : Int32), iv (1 : Int32), rv b382, .unset, .unset, .unset] [(.ref b382)])) rfl (by rw [hml]; rfl) (Steps.refl _) (argsL := []) (rest := []) (lenOf pd_4 rfl) rfl (by show 2 * 0 + _ ≤ _; exact Nat.le_of_eq rfl) (hb hby at_57) (fun _ _ => ⟨rfl, rfl, (by decide : 1 + 2 ≤ _), (by decide : 3 + 36 ≤ _)⟩)
        dsimp only [Pt.U, Pt.locs, Pt.cells, Pt.slots] at Xr389 hSr389 hgr389 l389 y389 z389 st389 hQ389 Rr389
        subst l389 y389 z389
        obtain ⟨X389, hS389, hZ389, ho389⟩ := rebS (s := s) (vm0 := s.vm) hS0 (Nat.zero_le _) Xr389 hSr389 hgr389 hZ hown
        have hZ := hZ389
        have hown := ho389
        obtain ⟨a2_389, a3_389, kk1_389, rfl, Nq389, Kq389, po389_0, po389_1, po389_2, po389_3⟩ := hQ389
        have N389 := Fr.app N386 Nq389
        have O389 := O386.keep Kq389 all0
        have R389 : CHr Z own_EL s.vm h0 T389.vm T389.heap := R386.trans Rr389
        have k390 : Way p e below S0 T389 (mkF m 60 #[iv p1, iv p2, rv w_EDIT, iv (1 : Int32), iv (1 : Int32), rv b382, .unset, .unset, .unset] [(.ref a2_389)]) := fun t k => k388 t (st389.trans k)
        have k391 : Way p e below S0 T389 (mkF m 71 #[iv p1, iv p2, rv w_EDIT, iv (1 : Int32), iv (1 : Int32), rv b382, rv a2_389, .unset, .unset] [(.ref a2_389)]) := by
          intro t k
          refine k390 t ?_
          refine XS.astore X389.here hx rfl (hb hby at_60) rfl rfl (l' := #[iv p1, iv p2, rv w_EDIT, iv (1 : Int32), iv (1 : Int32), rv b382, rv a2_389, .unset, .unset]) rfl ?_
          show Steps p.tables e below (T389.setTop (mkF m 62 #[iv p1, iv p2, rv w_EDIT, iv (1 : Int32), iv (1 : Int32), rv b382, rv a2_389, .unset, .unset] [])) _
          refine XS.aload X389.here hx rfl (hb hby at_62) rfl rfl ?_
          show Steps p.tables e below (T389.setTop (mkF m 64 #[iv p1, iv p2, rv w_EDIT, iv (1 : Int32), iv (1 : Int32), rv b382, rv a2_389, .unset, .unset] [(.ref a2_389)])) _
          refine XS.ifnonnullYes X389.here hx rfl (pc0 := 64) (pc' := 69) rfl (hb hby at_64) rfl (by decide) (by decide) ?_
          show Steps p.tables e below (T389.setTop (mkF m 69 #[iv p1, iv p2, rv w_EDIT, iv (1 : Int32), iv (1 : Int32), rv b382, rv a2_389, .unset, .unset] [])) _
          refine XS.aload X389.here hx rfl (hb hby at_69) rfl rfl ?_
          show Steps p.tables e below (T389.setTop (mkF m 71 #[iv p1, iv p2, rv w_EDIT, iv (1 : Int32), iv (1 : Int32), rv b382, rv a2_389, .unset, .unset] [(.ref a2_389)])) _
          exact k
        obtain ⟨la392, T392, h392, ks392, lb392, lk392, X392, e392, E392, hS392, hk392, hZ392, ho392, Fe392, Fc392, Fv392, Va392, -, -, Rr392, Li392, Sa392, st392⟩ := ldcCH (s := s) (vm0 := T389.vm) (EL := own_EL) X389 hx hZ hown (hw _ (List.mem_of_getElem? (i := 42) rfl)) (own_strW hw) rfl hS389 (Nat.le_trans (Nat.le_refl _) (Nat.le_refl _)) (own_EW hw) (by decide) R389.1 (vs := [(.int (117 : Int32)), (.int (110 : Int32)), (.int (109 : Int32)), (.int (97 : Int32)), (.int (115 : Int32)), (.int (107 : Int32)), (.int (101 : Int32)), (.int (100 : Int32))]) (z := (8 : Int32)) ⟨by decide, by decide⟩ (by decide) (by decide) (g := (mkF m 71 #[iv p1, iv p2, rv w_EDIT, iv (1 : Int32), iv (1 : Int32), rv b382, rv a2_389, .unset, .unset] [(.ref a2_389)])) rfl (hb hby at_71) (n := 32) (by decide) (by decide) (by decide) (by decide)
        have hZ := hZ392
        have hown := ho392
        have R392 : CHr Z own_EL s.vm h0 T392.vm h392 := R389.trans Rr392
        have O392 := O389.ext E392
        have k393 : Way p e below S0 T392 (mkF m 73 #[iv p1, iv p2, rv w_EDIT, iv (1 : Int32), iv (1 : Int32), rv b382, rv a2_389, .unset, .unset] [(.ref la392), (.ref a2_389)]) := fun t k => k391 t (st392 _ k)
        have f394 : Fld Z h392 a2_389 "java/lang/String" "coder" "B" (.int (0 : Int32)) := (po389_1.ext E392)
        have f395 : Fld Z h392 a2_389 "java/lang/String" "value" "[B" (.ref a3_389) := (po389_2.ext E392)
        have f396 : Arv Z h392 a3_389 kk1_389 .byte (8 : Int32) [(.int (117 : Int32)), (.int (110 : Int32)), (.int (109 : Int32)), (.int (97 : Int32)), (.int (115 : Int32)), (.int (107 : Int32)), (.int (101 : Int32)), (.int (100 : Int32))] (.int (0 : Int32)) := (po389_3.ext E392)
        have f398 : Exa Z h392 a2_389 "java/lang/String" := (po389_0.ext E392)
        obtain ⟨cq397, kq397, qq397a, qq397b, qq397c⟩ := isOf hZ e392 f398
        obtain ⟨_, _, ⟨T397, L397, kk397, nn397⟩, -, X397, ⟨Lc397, hQ397, l397, y397, z397⟩, st397⟩ := X392.virtualBack hx (y := (⟨"java/lang/String", "equals", "(Ljava/lang/Object;)Z"⟩ : MethodName)) (z := (⟨"java/lang/String", "equals", "(Ljava/lang/Object;)Z"⟩ : MethodName)) hown (mvT hZ (hw _ (List.mem_of_getElem? (i := 43) rfl))) (mvT hZ (hw _ (List.mem_of_getElem? (i := 44) rfl))) (notFace_of_selects (args := #[]) (mvT hZ (hw _ (List.mem_of_getElem? (i := 46) rfl)))) (mvT hZ (hw _ (List.mem_of_getElem? (i := 46) rfl))) (mvT hZ (hw _ (List.mem_of_getElem? (i := 45) rfl))) (by decide) (backOf (W := 0) (seq11 l Z a0 hw [] w_NONE w_VIEW w_EDIT wCS G a2_389 la392 a3_389 lb392 kk1_389 lk392 h392 n0 O392 (f394 : Fld Z h392 a2_389 "java/lang/String" "coder" "B" (.int (0 : Int32))) (f395 : Fld Z h392 a2_389 "java/lang/String" "value" "[B" (.ref a3_389)) (f396 : Arv Z h392 a3_389 kk1_389 .byte (8 : Int32) [(.int (117 : Int32)), (.int (110 : Int32)), (.int (109 : Int32)), (.int (97 : Int32)), (.int (115 : Int32)), (.int (107 : Int32)), (.int (101 : Int32)), (.int (100 : Int32))] (.int (0 : Int32))) (Fe392 : Exa Z h392 la392 "java/lang/String") (Fc392 : Fld Z h392 la392 "java/lang/String" "coder" "B" (.int (0 : Int32))) (Fv392 : Fld Z h392 la392 "java/lang/String" "value" "[B" (.ref lb392)) (Va392 : Arv Z h392 lb392 lk392 .byte (8 : Int32) [(.int (117 : Int32)), (.int (110 : Int32)), (.int (109 : Int32)), (.int (97 : Int32)), (.int (115 : Int32)), (.int (107 : Int32)), (.int (101 : Int32)), (.int (100 : Int32))] (.int (0 : Int32)))) hZ (hw _ (List.mem_of_getElem? (i := 47) rfl)) (hw _ (List.mem_of_getElem? (i := 35) rfl)) (by decide) (by decide)) qq397a qq397c (g := (mkF m 73 #[iv p1, iv p2, rv w_EDIT, iv (1 : Int32), iv (1 : Int32), rv b382, rv a2_389, .unset, .unset] [(.ref la392), (.ref a2_389)])) rfl (by rw [hml]; rfl) (Steps.refl _) (argsL := [(.ref la392)]) (rest := []) (lenOf pd_5 rfl) rfl (by show 2 * 0 + _ ≤ _; exact Nat.le_of_eq rfl) (hb hby at_73) (fun _ _ => ⟨rfl, e392, (by decide : 5 + 0 ≤ _), (by decide : 75 + 0 ≤ _)⟩)
        dsimp only [Pt.U, Pt.locs, Pt.cells, Pt.slots] at X397 l397 y397 z397 st397 hQ397
        subst l397 y397 z397
        obtain ⟨rfl, Nq397, e397⟩ := hQ397
        have N397 := Fr.app N389 Nq397
        have k399 : Way p e below S0 T397 (mkF m 76 #[iv p1, iv p2, rv w_EDIT, iv (1 : Int32), iv (1 : Int32), rv b382, rv a2_389, .unset, .unset] [(.int (1 : Int32))]) := fun t k => k393 t (st397.trans k)
        have k400 : Way p e below S0 T397 (mkF m 80 #[iv p1, iv p2, rv w_EDIT, iv (1 : Int32), iv (1 : Int32), rv b382, rv a2_389, iv (1 : Int32), .unset] [(.ref a2_389)]) := by
          intro t k
          refine k399 t ?_
          refine XS.istore X397.here hx rfl (hb hby at_76) rfl (l' := #[iv p1, iv p2, rv w_EDIT, iv (1 : Int32), iv (1 : Int32), rv b382, rv a2_389, iv (1 : Int32), .unset]) rfl ?_
          show Steps p.tables e below (T397.setTop (mkF m 78 #[iv p1, iv p2, rv w_EDIT, iv (1 : Int32), iv (1 : Int32), rv b382, rv a2_389, iv (1 : Int32), .unset] [])) _
          refine XS.aload X397.here hx rfl (hb hby at_78) rfl rfl ?_
          show Steps p.tables e below (T397.setTop (mkF m 80 #[iv p1, iv p2, rv w_EDIT, iv (1 : Int32), iv (1 : Int32), rv b382, rv a2_389, iv (1 : Int32), .unset] [(.ref a2_389)])) _
          exact k
        obtain ⟨la401, T401, h401, ks401, lb401, lk401, X401, e401, E401, hS401, hk401, hZ401, ho401, Fe401, Fc401, Fv401, Va401, -, -, Rr401, Li401, Sa401, st401⟩ := ldcCH (s := s) (vm0 := T392.vm) (EL := own_EL) X397 hx hZ hown (hw _ (List.mem_of_getElem? (i := 57) rfl)) (own_strW hw) e397 hS392 (Nat.le_trans hk392 (Nat.le_refl _)) (own_EW hw) (by decide) R392.1 (vs := [(.int (109 : Int32)), (.int (97 : Int32)), (.int (115 : Int32)), (.int (107 : Int32)), (.int (101 : Int32)), (.int (100 : Int32))]) (z := (6 : Int32)) ⟨by decide, by decide⟩ (by decide) (by decide) (g := (mkF m 80 #[iv p1, iv p2, rv w_EDIT, iv (1 : Int32), iv (1 : Int32), rv b382, rv a2_389, iv (1 : Int32), .unset] [(.ref a2_389)])) rfl (hb hby at_80) (n := 24) (by decide) (by decide) (by decide) (by decide)
        have hZ := hZ401
        have hown := ho401
        have R401 : CHr Z own_EL s.vm h0 T401.vm h401 := R392.trans Rr401
        have O401 := O392.ext E401
        have k402 : Way p e below S0 T401 (mkF m 82 #[iv p1, iv p2, rv w_EDIT, iv (1 : Int32), iv (1 : Int32), rv b382, rv a2_389, iv (1 : Int32), .unset] [(.ref la401), (.ref a2_389)]) := fun t k => k400 t (st401 _ k)
        have f403 : Fld Z h401 a2_389 "java/lang/String" "value" "[B" (.ref a3_389) := (f395.ext E401)
        have f404 : Arv Z h401 a3_389 kk1_389 .byte (8 : Int32) [(.int (117 : Int32)), (.int (110 : Int32)), (.int (109 : Int32)), (.int (97 : Int32)), (.int (115 : Int32)), (.int (107 : Int32)), (.int (101 : Int32)), (.int (100 : Int32))] (.int (0 : Int32)) := (f396.ext E401)
        have f405 : Fld Z h401 a2_389 "java/lang/String" "coder" "B" (.int (0 : Int32)) := (f394.ext E401)
        have f407 : Exa Z h401 a2_389 "java/lang/String" := (f398.ext E401)
        obtain ⟨cq406, kq406, qq406a, qq406b, qq406c⟩ := isOf hZ e401 f407
        obtain ⟨_, _, ⟨T406, L406, kk406, nn406⟩, -, X406, ⟨Lc406, hQ406, l406, y406, z406⟩, st406⟩ := X401.virtualBack hx (y := (⟨"java/lang/String", "equals", "(Ljava/lang/Object;)Z"⟩ : MethodName)) (z := (⟨"java/lang/String", "equals", "(Ljava/lang/Object;)Z"⟩ : MethodName)) hown (mvT hZ (hw _ (List.mem_of_getElem? (i := 43) rfl))) (mvT hZ (hw _ (List.mem_of_getElem? (i := 44) rfl))) (notFace_of_selects (args := #[]) (mvT hZ (hw _ (List.mem_of_getElem? (i := 46) rfl)))) (mvT hZ (hw _ (List.mem_of_getElem? (i := 46) rfl))) (mvT hZ (hw _ (List.mem_of_getElem? (i := 45) rfl))) (by decide) (backOf (W := 0) (seq10 l Z a0 hw [] w_NONE w_VIEW w_EDIT wCS G a2_389 la401 a3_389 lb401 kk1_389 lk401 h401 n0 O401 (f405 : Fld Z h401 a2_389 "java/lang/String" "coder" "B" (.int (0 : Int32))) (f403 : Fld Z h401 a2_389 "java/lang/String" "value" "[B" (.ref a3_389)) (f404 : Arv Z h401 a3_389 kk1_389 .byte (8 : Int32) [(.int (117 : Int32)), (.int (110 : Int32)), (.int (109 : Int32)), (.int (97 : Int32)), (.int (115 : Int32)), (.int (107 : Int32)), (.int (101 : Int32)), (.int (100 : Int32))] (.int (0 : Int32))) (Fe401 : Exa Z h401 la401 "java/lang/String") (Fc401 : Fld Z h401 la401 "java/lang/String" "coder" "B" (.int (0 : Int32))) (Fv401 : Fld Z h401 la401 "java/lang/String" "value" "[B" (.ref lb401)) (Va401 : Arv Z h401 lb401 lk401 .byte (6 : Int32) [(.int (109 : Int32)), (.int (97 : Int32)), (.int (115 : Int32)), (.int (107 : Int32)), (.int (101 : Int32)), (.int (100 : Int32))] (.int (0 : Int32))) (Fld.ne f403 Fv401 (fun q => absurd (Value.ref.inj q) (arv_ne f404 Va401 (Or.inl (by decide)))) : a2_389 ≠ la401)) hZ (hw _ (List.mem_of_getElem? (i := 47) rfl)) (hw _ (List.mem_of_getElem? (i := 35) rfl)) (by decide) (by decide)) qq406a qq406c (g := (mkF m 82 #[iv p1, iv p2, rv w_EDIT, iv (1 : Int32), iv (1 : Int32), rv b382, rv a2_389, iv (1 : Int32), .unset] [(.ref la401), (.ref a2_389)])) rfl (by rw [hml]; rfl) (Steps.refl _) (argsL := [(.ref la401)]) (rest := []) (lenOf pd_5 rfl) rfl (by show 2 * 0 + _ ≤ _; exact Nat.le_of_eq rfl) (hb hby at_82) (fun _ _ => ⟨rfl, e401, (by decide : 7 + 0 ≤ _), (by decide : 103 + 0 ≤ _)⟩)
        dsimp only [Pt.U, Pt.locs, Pt.cells, Pt.slots] at X406 l406 y406 z406 st406 hQ406
        subst l406 y406 z406
        obtain ⟨rfl, Nq406, e406⟩ := hQ406
        have N406 := Fr.app N397 Nq406
        have k408 : Way p e below S0 T406 (mkF m 85 #[iv p1, iv p2, rv w_EDIT, iv (1 : Int32), iv (1 : Int32), rv b382, rv a2_389, iv (1 : Int32), .unset] [(.int (0 : Int32))]) := fun t k => k402 t (st406.trans k)
        have k409 : Way p e below S0 T406 (mkF m 112 #[iv p1, iv p2, rv w_EDIT, iv (1 : Int32), iv (1 : Int32), rv b382, rv a2_389, iv (1 : Int32), iv (0 : Int32)] [(.int (1 : Int32))]) := by
          intro t k
          refine k408 t ?_
          refine XS.istore X406.here hx rfl (hb hby at_85) rfl (l' := #[iv p1, iv p2, rv w_EDIT, iv (1 : Int32), iv (1 : Int32), rv b382, rv a2_389, iv (1 : Int32), iv (0 : Int32)]) rfl ?_
          show Steps p.tables e below (T406.setTop (mkF m 87 #[iv p1, iv p2, rv w_EDIT, iv (1 : Int32), iv (1 : Int32), rv b382, rv a2_389, iv (1 : Int32), iv (0 : Int32)] [])) _
          refine XS.iload X406.here hx rfl (hb hby at_87) rfl ?_
          show Steps p.tables e below (T406.setTop (mkF m 89 #[iv p1, iv p2, rv w_EDIT, iv (1 : Int32), iv (1 : Int32), rv b382, rv a2_389, iv (1 : Int32), iv (0 : Int32)] [(.int (1 : Int32))])) _
          refine XS.iloadN X406.here hx rfl (hb hby at_89) rfl ?_
          show Steps p.tables e below (T406.setTop (mkF m 90 #[iv p1, iv p2, rv w_EDIT, iv (1 : Int32), iv (1 : Int32), rv b382, rv a2_389, iv (1 : Int32), iv (0 : Int32)] [(.int (1 : Int32)), (.int (1 : Int32))])) _
          refine XS.icmpNo X406.here hx rfl (hb hby at_90) rfl (teq ((by decide) : (1 : Int32) = (1 : Int32))).2 ?_
          show Steps p.tables e below (T406.setTop (mkF m 93 #[iv p1, iv p2, rv w_EDIT, iv (1 : Int32), iv (1 : Int32), rv b382, rv a2_389, iv (1 : Int32), iv (0 : Int32)] [])) _
          refine XS.iload X406.here hx rfl (hb hby at_93) rfl ?_
          show Steps p.tables e below (T406.setTop (mkF m 95 #[iv p1, iv p2, rv w_EDIT, iv (1 : Int32), iv (1 : Int32), rv b382, rv a2_389, iv (1 : Int32), iv (0 : Int32)] [(.int (0 : Int32))])) _
          refine XS.iloadN X406.here hx rfl (hb hby at_95) rfl ?_
          show Steps p.tables e below (T406.setTop (mkF m 96 #[iv p1, iv p2, rv w_EDIT, iv (1 : Int32), iv (1 : Int32), rv b382, rv a2_389, iv (1 : Int32), iv (0 : Int32)] [(.int (1 : Int32)), (.int (0 : Int32))])) _
          refine XS.ifYes X406.here hx rfl (pc0 := 96) (pc' := 103) rfl (hb hby at_96) rfl ((if0 _ _).trans (feq ((by decide) : ¬ ((1 : Int32) = (0 : Int32)))).2) (by decide) (by decide) ?_
          show Steps p.tables e below (T406.setTop (mkF m 103 #[iv p1, iv p2, rv w_EDIT, iv (1 : Int32), iv (1 : Int32), rv b382, rv a2_389, iv (1 : Int32), iv (0 : Int32)] [(.int (0 : Int32))])) _
          refine XS.iconst X406.here hx rfl (hb hby at_103) ?_
          show Steps p.tables e below (T406.setTop (mkF m 104 #[iv p1, iv p2, rv w_EDIT, iv (1 : Int32), iv (1 : Int32), rv b382, rv a2_389, iv (1 : Int32), iv (0 : Int32)] [(.int (0 : Int32)), (.int (0 : Int32))])) _
          refine XS.icmpNo X406.here hx rfl (hb hby at_104) rfl (teq ((by decide) : (0 : Int32) = (0 : Int32))).2 ?_
          show Steps p.tables e below (T406.setTop (mkF m 107 #[iv p1, iv p2, rv w_EDIT, iv (1 : Int32), iv (1 : Int32), rv b382, rv a2_389, iv (1 : Int32), iv (0 : Int32)] [])) _
          refine XS.iconst X406.here hx rfl (hb hby at_107) ?_
          show Steps p.tables e below (T406.setTop (mkF m 108 #[iv p1, iv p2, rv w_EDIT, iv (1 : Int32), iv (1 : Int32), rv b382, rv a2_389, iv (1 : Int32), iv (0 : Int32)] [(.int (1 : Int32))])) _
          refine XS.goto X406.here hx rfl (pc0 := 108) (pc' := 112) rfl (hb hby at_108) (by decide) (by decide) ?_
          show Steps p.tables e below (T406.setTop (mkF m 112 #[iv p1, iv p2, rv w_EDIT, iv (1 : Int32), iv (1 : Int32), rv b382, rv a2_389, iv (1 : Int32), iv (0 : Int32)] [(.int (1 : Int32))])) _
          exact k
        obtain ⟨fs, hr, hrun, hended, hRW⟩ := Stand.leaveW (s := s) (vm₁ := T401.vm) X406 hS401 (by rw [e406]; exact (Nat.le_trans hk401 (Nat.le_refl _))) (v := some (.int (1 : Int32))) (fun h => by rw [Bd.returns] at h; cases h)
        have RF : CHr Z own_EL s.vm h0 T406.vm h401 := R401.trans (CHv.at (s := s) (vm0 := T401.vm) X406 hZ (own_EW hw) R401.1)
        refine ⟨_, _, k409 _ (retN X406 hx (t := .boolean) Bd.returns (by simp) (hb hby at_112) hr), hrun, hended, _, _, rfl, ?_, (by show CHr Z own_EL s.vm s.heap T406.vm T406.heap; rw [hh, e406]; exact RF), own_rw hRW (by decide) (by decide)⟩
        show Q_law_met Z w_NONE w_VIEW w_EDIT wCS p1 p2 h0 n0 _ T406.heap _
        rw [e406]
        exact ⟨rfl, N406⟩
set_option maxRecDepth 65536 in
set_option maxHeartbeats 40000000 in
theorem comes_1 {Post : Tables → Env → Array Value → State → Outcome → State → Prop} (hpost : ∀ tb e args s v u, (limb_1_1.after args s (.returned v) u = true ∧ limb_1_2.after args s (.returned v) u = true ∧ True) → ReturnedEndW s (.returned v) u (Jvm.fieldLocs frame_1_writes args s ++ Jvm.arrayLocs frame_1_arrays args s ++ Jvm.staticLocs frame_1_statics s) 24 4224 → Post tb e args s (.returned v) u) :
    ArmFor flags0 classFile x code maxLocals ret World_1 tables_1 room_1 Calls_1 rest_1 Pre_1 Post := by
  intro l hfl _ _ p e ha hc hk s m args below hf hA hF happ hP
  obtain ⟨hcalls, hrest, hpre⟩ := hP
  obtain ⟨-, -, -, hnamed, -, -, -, hat⟩ := (Spec.applies_iff hf).mp happ
  obtain ⟨hg, hn⟩ := and_e (Cond.before_iff.mp (show (Jvm.Cond.and given_1 narrow_1).before args s = true from hpre))
  obtain ⟨g1a, g1b⟩ := and_e hg
  obtain ⟨g2a, g2b⟩ := and_e g1b
  obtain ⟨g3a, g3b⟩ := and_e hn
  obtain ⟨g4a, g4b⟩ := and_e g3b
  obtain ⟨g5a, g5b⟩ := and_e g4b
  obtain ⟨g6a, g6b⟩ := and_e g5b
  obtain ⟨g7a, g7b⟩ := and_e g6b
  obtain ⟨w0, w1, rfl⟩ : ∃ w0 w1 : Value, args = #[w0, w1] := by
    have hs : args.size = 2 := by simpa [Cond.value, given_1] using g1a
    obtain ⟨L⟩ := args
    match L, hs with
    | [w0, w1], _ => exact ⟨w0, w1, rfl⟩
  have hw := fun d (hd : d ∈ tables_1) => atoms_spec (ws := Jvm.Cond.code x code maxLocals ret :: tables_1) hat d (List.mem_cons_of_mem _ hd)
  have hfit : Fit s := fun {y c} hc i hi => by
    obtain ⟨ha, rfl⟩ := Array.getElem?_eq_some_iff.mp hc
    have q := List.all_eq_true.mp ((Array.all_eq_true_iff_forall_mem.mp hF) _ (Array.getElem_mem ha)) i (List.mem_range.mpr hi)
    simpa [Array.getElem?_eq_getElem hi] using q
  obtain ⟨hsets, hown0⟩ := atoms_of _ (rest_1_c_eq ▸ (show rest_1_c.before _ s = true from hrest))
  have hr0 := Cond.before_iff.mp hown0
  obtain ⟨i0, ei0⟩ := is_v g2a
  obtain rfl : w0 = (.int i0) := Option.some.inj ei0
  obtain ⟨i1, ei1⟩ := is_v g2b
  obtain rfl : w1 = (.int i1) := Option.some.inj ei1
  obtain ⟨w_NONE, ev_w_NONE⟩ := exa_v g3a
  have S_w_NONE := Sta.start ev_w_NONE (Or.inr ⟨(hw _ (List.mem_of_getElem? (i := 6) rfl)), (hw _ (List.mem_of_getElem? (i := 7) rfl))⟩)
  have E_w_NONE := Exa.start ev_w_NONE g3a
  obtain ⟨w_EDIT, ev_w_EDIT⟩ := exa_v g4a
  have S_w_EDIT := Sta.start ev_w_EDIT (Or.inr ⟨(hw _ (List.mem_of_getElem? (i := 6) rfl)), (hw _ (List.mem_of_getElem? (i := 59) rfl))⟩)
  have E_w_EDIT := Exa.start ev_w_EDIT g4a
  obtain ⟨w_VIEW, ev_w_VIEW⟩ := exa_v g7a
  have S_w_VIEW := Sta.start ev_w_VIEW (Or.inr ⟨(hw _ (List.mem_of_getElem? (i := 6) rfl)), (hw _ (List.mem_of_getElem? (i := 62) rfl))⟩)
  have E_w_VIEW := Exa.start ev_w_VIEW g7a
  have F_w_EDIT_ordinal := Fld.start (own_eqF ev_w_EDIT g5a)
  have F_w_NONE_ordinal := Fld.start (own_eqF ev_w_NONE g6a)
  have F_w_VIEW_ordinal := Fld.start (own_eqF ev_w_VIEW g7b)
  obtain ⟨wCS, ev_CS⟩ := is_v (Cond.before_iff.mp (hsets _ (List.mem_of_getElem? (i := 1) rfl)))
  have S_CS := Sta.start ev_CS (Or.inl (hsets _ (List.mem_of_getElem? (i := 0) rfl)))
  have hCS : ¬ (wCS = (0 : Int32)) := fun q => by subst q; have u := not_v (Cond.before_iff.mp (hsets _ (List.mem_of_getElem? (i := 2) rfl))); exact absurd u (by rw [eq_i ev_CS (Term.int_eval _) rfl]; decide)
  have G : Gst s w_NONE w_VIEW w_EDIT wCS := ⟨S_w_NONE, E_w_NONE, F_w_NONE_ordinal, S_w_VIEW, E_w_VIEW, F_w_VIEW_ordinal, S_w_EDIT, E_w_EDIT, F_w_EDIT_ordinal, S_CS, hCS⟩
  have H0 : CHv s own_EL s.vm s.heap := CHv.start (own_EW hw) (own_held hcalls) (hsets _ (List.mem_of_getElem? (i := 2) rfl)) (hw _ (List.mem_of_getElem? (i := 37) rfl)) (hw _ (List.mem_of_getElem? (i := 36) rfl))
  obtain ⟨n, o, h1, h2, h3, _, L, rfl, ⟨rfl, N⟩, -, hq⟩ := law_met l s _ hw tables_1 w_NONE w_VIEW w_EDIT wCS G i0 i1 s.heap s.heap.size (Old.start s)  p e ha hc hk s m _ below hf ((Spec.applies_iff_loose hf).mp happ).1 ⟨rfl, State.Warmed39.refl s, rfl, H0⟩ trivial
  refine ⟨n, _, h1, h2, h3, hpost _ _ _ _ _ _ ⟨Cond.after_iff.mpr rfl, Cond.after_iff.mpr (eq_i res_at (Term.int_eval (1)) rfl), trivial⟩ ⟨hq.1, hq.2.1, hq.2.2.1, (hq.2.2.2.sift fun y hy => Or.inr (N y hy)).mono (by decide) (by decide)⟩⟩
theorem main_1_1 : Claimed_1_1 := comes_1 fun _ _ _ _ _ _ h hF => ⟨h.1, hF⟩
theorem main_1_2 : Claimed_1_2 := comes_1 fun _ _ _ _ _ _ h hF => ⟨h.2.1, hF⟩
end Jvm.Pilot.@@N@@
namespace Jvm.Pilot.@@N@@
open Jvm Jvm.ClassFile Sem Op Lib Jvm.Free Jvm.Stand Jvm.Pilot.@@N@@.Jvm.D
/-! MADE BY PROGRAM (witnessworld.py) out of the Statement's table words and the real class files: 20 classes; the members and pool entries that the words name. The judged class is class 1, her method 2. -/
namespace start1
open Jvm.ClassFile
def u (s : String) : CpInfo := .utf8 (stringToUtf16 s)
/-- a pool by its gaps: so many unusable entries, then the entry; so many at the end -/
def gap : Nat → List CpInfo → List CpInfo
  | 0, r => r
  | n + 1, r => .unusable :: gap n r
def poolList (es : List (Nat × CpInfo)) (last : Nat) : List CpInfo := es.foldr (fun e r => gap e.1 (e.2 :: r)) (gap last [])
def pool (es : List (Nat × CpInfo)) (last : Nat) : Array CpInfo := ⟨poolList es last⟩
def fileOf (pool : Array CpInfo) (this : Nat) (attrs : Array Attribute := #[]) (ms : Array MethodInfo := #[]) (fl : Nat := 33) (sup : Nat := 0) (ifs : Array Nat := #[]) (fds : Array FieldInfo := #[]) : ClassFile where
  minorVersion := 0
  majorVersion := 65
  constantPool := pool
  accessFlags := fl
  thisClass := this
  superClass := sup
  interfaces := ifs
  fields := fds
  methods := ms
  attributes := attrs
def plain (name : String) (sup : Option ClassId) : Class where
  name := name
  kind := .ordinary
  loader := none
  accessFlags := 33
  super := sup
  interfaces := #[]
  cf := none
  fields := #[]
  methods := #[]
  instanceTypes := #[]
  staticTypes := #[]
  resolved := #[]
  callSites := []
  init := .initialized
  statics := none
  mirror := none

def pool0 : Array CpInfo := pool [(5, u "<init>"), (0, u "()V"), (1, .class_ 10), (1, u "java/lang/Object")] 113

def k0c0 : Code := { maxStack := 0, maxLocals := 1, code := object_method_1_code, exceptionTable := #[], attributes := #[] }
def k0m0 : Method := { name := "<init>", desc := "()V", sig := { parameters := [], returnType := none }, accessFlags := 1, code := some k0c0 }
/-- java/lang/Object -/
def k0 : Class := { plain "java/lang/Object" none with
  accessFlags := 33
  interfaces := #[]
  cf := some (fileOf pool0 8 #[] #[{ accessFlags := 1, nameIndex := 5, descriptorIndex := 6, attributes := #[] }] 33 0 #[] #[])
  fields := #[]
  methods := #[k0m0]
  instanceTypes := #[]
  staticTypes := #[]
  resolved := Array.replicate 124 none
  statics := none }

def pool1 : Array CpInfo := pool [(2, .class_ 4), (1, u "java/lang/Object"), (0, u "<init>"), (0, u "()V"), (0, .integer 2147483647), (0, .fieldref 9 10), (0, .class_ 11), (0, .nameAndType 12 13), (0, u "caseward/policy/Access$Level"), (0, u "NONE"), (0, u "Lcaseward/policy/Access$Level;"), (0, .fieldref 9 15), (0, .nameAndType 16 13), (0, u "VIEW"), (0, .fieldref 9 18), (0, .nameAndType 19 13), (0, u "EDIT"), (0, .methodref 21 22), (0, .class_ 23), (0, .nameAndType 24 25), (0, u "caseward/policy/AccessPiiWordPinLaw"), (0, u "level"), (0, u "(I)Lcaseward/policy/Access$Level;"), (0, .class_ 27), (0, u "caseward/policy/Access"), (0, .methodref 26 29), (0, .nameAndType 5 30), (0, u "(Lcaseward/policy/Access$Level;ZZ)V"), (0, .methodref 26 32), (0, .nameAndType 33 34), (0, u "piiWord"), (0, u "()Ljava/lang/String;"), (0, .string 36), (0, u "unmasked"), (0, .methodref 38 39), (0, .class_ 40), (0, .nameAndType 41 42), (0, u "java/lang/String"), (0, u "equals"), (0, u "(Ljava/lang/Object;)Z"), (0, .string 44), (0, u "masked"), (3, u "law"), (0, u "(II)Z")] 4

def k1m0 : Method := { name := "<init>", desc := "()V", sig := { parameters := [], returnType := none }, accessFlags := 1, code := none }
def k1c1 : Code := { maxStack := 2, maxLocals := 2, code := method_2_code, exceptionTable := #[], attributes := #[] }
def k1m1 : Method := { name := "level", desc := "(I)Lcaseward/policy/Access$Level;", sig := { parameters := [.int], returnType := some (.object "caseward/policy/Access$Level") }, accessFlags := 10, code := some k1c1 }
def k1c2 : Code := { maxStack := 5, maxLocals := 9, code := code, exceptionTable := #[], attributes := #[] }
def k1m2 : Method := { name := "law", desc := "(II)Z", sig := { parameters := [.int, .int], returnType := some .boolean }, accessFlags := 9, code := some k1c2 }
/-- caseward/policy/AccessPiiWordPinLaw -/
def k1 : Class := { plain "caseward/policy/AccessPiiWordPinLaw" (some 0) with
  accessFlags := 49
  interfaces := #[]
  cf := some (fileOf pool1 21 #[] #[{ accessFlags := 1, nameIndex := 5, descriptorIndex := 6, attributes := #[] }, { accessFlags := 10, nameIndex := 24, descriptorIndex := 25, attributes := #[] }, { accessFlags := 9, nameIndex := 48, descriptorIndex := 49, attributes := #[] }] 49 2 #[] #[])
  fields := #[]
  methods := #[k1m0, k1m1, k1m2]
  instanceTypes := #[]
  staticTypes := #[]
  resolved := Array.replicate 54 none
  statics := none }

def pool2 : Array CpInfo := pool [(1, .class_ 2), (0, u "java/lang/constant/Constable"), (0, .class_ 4), (0, u "java/lang/Object")] 6

/-- java/lang/constant/Constable -/
def k2 : Class := { plain "java/lang/constant/Constable" (some 0) with
  accessFlags := 1537
  interfaces := #[]
  cf := some (fileOf pool2 1 #[] #[] 1537 3 #[] #[])
  fields := #[]
  methods := #[]
  instanceTypes := #[]
  staticTypes := #[]
  resolved := Array.replicate 11 none
  statics := none }

def pool3 : Array CpInfo := pool [(1, .class_ 2), (0, u "java/lang/Comparable"), (0, .class_ 4), (0, u "java/lang/Object")] 7

/-- java/lang/Comparable -/
def k3 : Class := { plain "java/lang/Comparable" (some 0) with
  accessFlags := 1537
  interfaces := #[]
  cf := some (fileOf pool3 1 #[] #[] 1537 3 #[] #[])
  fields := #[]
  methods := #[]
  instanceTypes := #[]
  staticTypes := #[]
  resolved := Array.replicate 12 none
  statics := none }

def pool4 : Array CpInfo := pool [(1, .class_ 2), (0, u "java/io/Serializable"), (0, .class_ 4), (0, u "java/lang/Object")] 2

/-- java/io/Serializable -/
def k4 : Class := { plain "java/io/Serializable" (some 0) with
  accessFlags := 1537
  interfaces := #[]
  cf := some (fileOf pool4 1 #[] #[] 1537 3 #[] #[])
  fields := #[]
  methods := #[]
  instanceTypes := #[]
  staticTypes := #[]
  resolved := Array.replicate 7 none
  statics := none }

def pool5 : Array CpInfo := pool [(2, .class_ 4), (1, u "java/lang/Enum"), (0, u "name"), (0, u "Ljava/lang/String;"), (2, u "ordinal"), (0, u "I"), (1, .class_ 14), (1, u "java/lang/Object"), (4, u "hash"), (86, .class_ 108), (1, u "java/lang/Enum$EnumDesc"), (2, .class_ 112), (0, u "java/lang/constant/Constable"), (0, .class_ 114), (0, u "java/lang/Comparable"), (0, .class_ 116), (0, u "java/io/Serializable")] 87

/-- java/lang/Enum -/
def k5 : Class := { plain "java/lang/Enum" (some 0) with
  accessFlags := 1057
  interfaces := #[2, 3, 4]
  cf := some (fileOf pool5 2 #[.nestMembers #[106]] #[] 1057 12 #[111, 113, 115] #[{ accessFlags := 18, nameIndex := 5, descriptorIndex := 6, attributes := #[] }, { accessFlags := 18, nameIndex := 9, descriptorIndex := 10, attributes := #[] }, { accessFlags := 2, nameIndex := 19, descriptorIndex := 10, attributes := #[] }])
  fields := #[{ name := "name", type := (.object "java/lang/String"), accessFlags := 18, slot := 0, constantValue := 0 }, { name := "ordinal", type := .int, accessFlags := 18, slot := 1, constantValue := 0 }, { name := "hash", type := .int, accessFlags := 2, slot := 2, constantValue := 0 }]
  methods := #[]
  instanceTypes := #[(.object "java/lang/String"), .int, .int]
  staticTypes := #[]
  resolved := Array.replicate 204 none
  statics := none }

def pool6 : Array CpInfo := pool [(1, .class_ 2), (0, u "caseward/policy/Access$Level"), (2, u "NONE"), (0, u "Lcaseward/policy/Access$Level;"), (2, u "VIEW"), (2, u "EDIT"), (2, u "$VALUES"), (0, u "[Lcaseward/policy/Access$Level;"), (6, .class_ 25), (1, u "java/lang/Enum"), (8, u "word"), (0, u "Ljava/lang/String;"), (30, .class_ 67), (0, u "caseward/policy/Access")] 2

/-- caseward/policy/Access$Level -/
def k6 : Class := { plain "caseward/policy/Access$Level" (some 5) with
  accessFlags := 16433
  interfaces := #[]
  cf := some (fileOf pool6 1 #[.nestHost 66] #[] 16433 23 #[] #[{ accessFlags := 16409, nameIndex := 5, descriptorIndex := 6, attributes := #[] }, { accessFlags := 16409, nameIndex := 9, descriptorIndex := 6, attributes := #[] }, { accessFlags := 16409, nameIndex := 12, descriptorIndex := 6, attributes := #[] }, { accessFlags := 18, nameIndex := 34, descriptorIndex := 35, attributes := #[] }, { accessFlags := 4122, nameIndex := 15, descriptorIndex := 16, attributes := #[] }])
  fields := #[{ name := "NONE", type := (.object "caseward/policy/Access$Level"), accessFlags := 16409, slot := 0, constantValue := 0 }, { name := "VIEW", type := (.object "caseward/policy/Access$Level"), accessFlags := 16409, slot := 1, constantValue := 0 }, { name := "EDIT", type := (.object "caseward/policy/Access$Level"), accessFlags := 16409, slot := 2, constantValue := 0 }, { name := "word", type := (.object "java/lang/String"), accessFlags := 18, slot := 3, constantValue := 0 }, { name := "$VALUES", type := (.array (.object "caseward/policy/Access$Level")), accessFlags := 4122, slot := 3, constantValue := 0 }]
  methods := #[]
  instanceTypes := #[(.object "java/lang/String"), .int, .int, (.object "java/lang/String")]
  staticTypes := #[(.object "caseward/policy/Access$Level"), (.object "caseward/policy/Access$Level"), (.object "caseward/policy/Access$Level"), (.array (.object "caseward/policy/Access$Level"))]
  resolved := Array.replicate 70 none
  statics := some 0 }

def pool7 : Array CpInfo := pool [(1, .methodref 2 3), (0, .class_ 4), (0, .nameAndType 5 6), (0, u "java/lang/Object"), (0, u "<init>"), (0, u "()V"), (0, .class_ 8), (0, u "java/lang/Record")] 13

def k7c0 : Code := { maxStack := 1, maxLocals := 1, code := jdk_30_method_1_code, exceptionTable := #[], attributes := #[] }
def k7m0 : Method := { name := "<init>", desc := "()V", sig := { parameters := [], returnType := none }, accessFlags := 4, code := some k7c0 }
/-- java/lang/Record -/
def k7 : Class := { plain "java/lang/Record" (some 0) with
  accessFlags := 1057
  interfaces := #[]
  cf := some (fileOf pool7 7 #[] #[{ accessFlags := 4, nameIndex := 5, descriptorIndex := 6, attributes := #[] }] 1057 2 #[] #[])
  fields := #[]
  methods := #[k7m0]
  instanceTypes := #[]
  staticTypes := #[]
  resolved := Array.replicate 22 none
  statics := none }

def pool8 : Array CpInfo := pool [(1, .methodref 2 3), (0, .class_ 4), (0, .nameAndType 5 6), (0, u "java/lang/Record"), (0, u "<init>"), (0, u "()V"), (0, .fieldref 8 9), (0, .class_ 10), (0, .nameAndType 11 12), (0, u "caseward/policy/Access$Level"), (0, u "NONE"), (0, u "Lcaseward/policy/Access$Level;"), (7, .fieldref 21 22), (0, .class_ 23), (0, .nameAndType 24 12), (0, u "caseward/policy/Access"), (0, u "level"), (0, .fieldref 21 26), (0, .nameAndType 27 28), (0, u "pii"), (0, u "Z"), (0, .fieldref 21 30), (0, .nameAndType 31 28), (0, u "unblinded"), (6, u "(Lcaseward/policy/Access$Level;ZZ)V"), (5, .class_ 46), (1, u "caseward/policy/Access$1"), (33, .string 81), (0, u "unmasked"), (0, .string 83), (0, u "masked"), (25, u "Lcaseward/policy/Access;"), (10, u "piiWord"), (0, u "()Ljava/lang/String;")] 55

def k8c0 : Code := { maxStack := 3, maxLocals := 4, code := prog_34_method_1_code, exceptionTable := #[], attributes := #[] }
def k8m0 : Method := { name := "<init>", desc := "(Lcaseward/policy/Access$Level;ZZ)V", sig := { parameters := [(.object "caseward/policy/Access$Level"), .boolean, .boolean], returnType := none }, accessFlags := 1, code := some k8c0 }
def k8c1 : Code := { maxStack := 1, maxLocals := 1, code := prog_34_method_8_code, exceptionTable := #[], attributes := #[] }
def k8m1 : Method := { name := "piiWord", desc := "()Ljava/lang/String;", sig := { parameters := [], returnType := some (.object "java/lang/String") }, accessFlags := 1, code := some k8c1 }
/-- caseward/policy/Access -/
def k8 : Class := { plain "caseward/policy/Access" (some 7) with
  accessFlags := 49
  interfaces := #[]
  cf := some (fileOf pool8 21 #[.nestMembers #[44, 8]] #[{ accessFlags := 1, nameIndex := 5, descriptorIndex := 38, attributes := #[] }, { accessFlags := 1, nameIndex := 120, descriptorIndex := 121, attributes := #[] }] 49 2 #[] #[{ accessFlags := 18, nameIndex := 24, descriptorIndex := 12, attributes := #[] }, { accessFlags := 18, nameIndex := 27, descriptorIndex := 28, attributes := #[] }, { accessFlags := 18, nameIndex := 31, descriptorIndex := 28, attributes := #[] }, { accessFlags := 25, nameIndex := 11, descriptorIndex := 109, attributes := #[] }])
  fields := #[{ name := "level", type := (.object "caseward/policy/Access$Level"), accessFlags := 18, slot := 0, constantValue := 0 }, { name := "pii", type := .boolean, accessFlags := 18, slot := 1, constantValue := 0 }, { name := "unblinded", type := .boolean, accessFlags := 18, slot := 2, constantValue := 0 }, { name := "NONE", type := (.object "caseward/policy/Access"), accessFlags := 25, slot := 0, constantValue := 0 }]
  methods := #[k8m0, k8m1]
  instanceTypes := #[(.object "caseward/policy/Access$Level"), .boolean, .boolean]
  staticTypes := #[(.object "caseward/policy/Access")]
  resolved := Array.replicate 177 none
  statics := none }

def pool9 : Array CpInfo := pool [(2, .class_ 4), (1, u "java/lang/CharSequence"), (42, .class_ 48), (0, u "java/lang/CharSequence$1CodePointIterator"), (10, .class_ 60), (0, u "java/lang/CharSequence$1CharIterator"), (5, .class_ 67), (0, u "java/lang/Object")] 63

/-- java/lang/CharSequence -/
def k9 : Class := { plain "java/lang/CharSequence" (some 0) with
  accessFlags := 1537
  interfaces := #[]
  cf := some (fileOf pool9 2 #[.nestMembers #[47, 59]] #[] 1537 66 #[] #[])
  fields := #[]
  methods := #[]
  instanceTypes := #[]
  staticTypes := #[]
  resolved := Array.replicate 131 none
  statics := none }

def pool10 : Array CpInfo := pool [(1, .class_ 2), (0, u "java/lang/constant/ConstantDesc"), (0, .class_ 4), (0, u "java/lang/Object")] 32

/-- java/lang/constant/ConstantDesc -/
def k10 : Class := { plain "java/lang/constant/ConstantDesc" (some 0) with
  accessFlags := 1537
  interfaces := #[]
  cf := some (fileOf pool10 1 #[] #[] 1537 3 #[] #[])
  fields := #[]
  methods := #[]
  instanceTypes := #[]
  staticTypes := #[]
  resolved := Array.replicate 37 none
  statics := none }

def pool11 : Array CpInfo := pool [(2, .class_ 4), (1, u "java/lang/Object"), (0, u "<init>"), (0, u "()V"), (2, .fieldref 10 11), (0, .class_ 12), (0, .nameAndType 13 14), (0, u "java/lang/String"), (0, u "value"), (0, u "[B"), (0, .fieldref 10 16), (0, .nameAndType 17 18), (0, u "coder"), (0, u "B"), (2, u "hash"), (0, u "I"), (2, u "hashIsZero"), (0, u "Z"), (11, .fieldref 10 39), (0, .nameAndType 40 26), (0, u "COMPACT_STRINGS"), (66, .class_ 109), (1, u "java/lang/StringLatin1"), (431, .methodref 107 542), (0, .nameAndType 543 544), (0, u "equals"), (0, u "([B[B)Z"), (28, u "(Ljava/lang/Object;)Z"), (1, .class_ 576), (0, u "java/lang/CharSequence"), (22, u "CASE_INSENSITIVE_ORDER"), (0, u "Ljava/util/Comparator;"), (500, u "serialPersistentFields"), (0, u "[Ljava/io/ObjectStreamField;"), (0, .class_ 1104), (0, u "java/lang/String$CaseInsensitiveComparator"), (1, .class_ 1107), (0, u "java/io/Serializable"), (0, .class_ 1109), (0, u "java/lang/Comparable"), (0, .class_ 1111), (0, u "java/lang/constant/Constable"), (0, .class_ 1113), (0, u "java/lang/constant/ConstantDesc"), (2, u "serialVersionUID"), (0, u "J"), (3, u "REPL"), (0, u "C"), (2, u "LATIN1"), (1, u "UTF16")] 323

def k11m0 : Method := { name := "<init>", desc := "()V", sig := { parameters := [], returnType := none }, accessFlags := 1, code := none }
def k11c1 : Code := { maxStack := 2, maxLocals := 3, code := jdk_42_method_66_code, exceptionTable := #[], attributes := #[] }
def k11m1 : Method := { name := "equals", desc := "(Ljava/lang/Object;)Z", sig := { parameters := [(.object "java/lang/Object")], returnType := some .boolean }, accessFlags := 1, code := some k11c1 }
/-- java/lang/String -/
def k11 : Class := { plain "java/lang/String" (some 0) with
  accessFlags := 49
  interfaces := #[4, 3, 9, 2, 10]
  cf := some (fileOf pool11 10 #[.nestMembers #[1103]] #[{ accessFlags := 1, nameIndex := 5, descriptorIndex := 6, attributes := #[] }, { accessFlags := 1, nameIndex := 543, descriptorIndex := 573, attributes := #[] }] 49 2 #[1106, 1108, 575, 1110, 1112] #[{ accessFlags := 18, nameIndex := 13, descriptorIndex := 14, attributes := #[] }, { accessFlags := 18, nameIndex := 17, descriptorIndex := 18, attributes := #[] }, { accessFlags := 2, nameIndex := 21, descriptorIndex := 22, attributes := #[] }, { accessFlags := 2, nameIndex := 25, descriptorIndex := 26, attributes := #[] }, { accessFlags := 26, nameIndex := 1116, descriptorIndex := 1117, attributes := #[] }, { accessFlags := 24, nameIndex := 40, descriptorIndex := 26, attributes := #[] }, { accessFlags := 26, nameIndex := 1101, descriptorIndex := 1102, attributes := #[] }, { accessFlags := 26, nameIndex := 1121, descriptorIndex := 1122, attributes := #[] }, { accessFlags := 25, nameIndex := 599, descriptorIndex := 600, attributes := #[] }, { accessFlags := 24, nameIndex := 1125, descriptorIndex := 18, attributes := #[] }, { accessFlags := 24, nameIndex := 1127, descriptorIndex := 18, attributes := #[] }])
  fields := #[{ name := "value", type := (.array .byte), accessFlags := 18, slot := 0, constantValue := 0 }, { name := "coder", type := .byte, accessFlags := 18, slot := 1, constantValue := 0 }, { name := "hash", type := .int, accessFlags := 2, slot := 2, constantValue := 0 }, { name := "hashIsZero", type := .boolean, accessFlags := 2, slot := 3, constantValue := 0 }, { name := "serialVersionUID", type := .long, accessFlags := 26, slot := 0, constantValue := 0 }, { name := "COMPACT_STRINGS", type := .boolean, accessFlags := 24, slot := 1, constantValue := 0 }, { name := "serialPersistentFields", type := (.array (.object "java/io/ObjectStreamField")), accessFlags := 26, slot := 2, constantValue := 0 }, { name := "REPL", type := .char, accessFlags := 26, slot := 3, constantValue := 0 }, { name := "CASE_INSENSITIVE_ORDER", type := (.object "java/util/Comparator"), accessFlags := 25, slot := 4, constantValue := 0 }, { name := "LATIN1", type := .byte, accessFlags := 24, slot := 5, constantValue := 0 }, { name := "UTF16", type := .byte, accessFlags := 24, slot := 6, constantValue := 0 }]
  methods := #[k11m0, k11m1]
  instanceTypes := #[(.array .byte), .byte, .int, .boolean]
  staticTypes := #[.long, .boolean, (.array (.object "java/io/ObjectStreamField")), .char, (.object "java/util/Comparator"), .byte, .byte]
  resolved := Array.replicate 1451 none
  statics := some 1 }

def pool12 : Array CpInfo := pool [(4, .class_ 6), (1, u "java/lang/Object"), (0, u "<init>"), (0, u "()V"), (5, .class_ 16), (1, u "java/lang/StringLatin1"), (104, u "$assertionsDisabled"), (0, u "Z"), (98, .class_ 223), (1, u "java/lang/StringLatin1$LinesSpliterator"), (57, u "equals"), (0, u "([B[B)Z"), (107, .class_ 391), (0, u "java/lang/StringLatin1$CharsSpliterator")] 3

def k12m0 : Method := { name := "<init>", desc := "()V", sig := { parameters := [], returnType := none }, accessFlags := 0, code := none }
def k12c1 : Code := { maxStack := 3, maxLocals := 3, code := jdk_43_method_13_code, exceptionTable := #[], attributes := #[] }
def k12m1 : Method := { name := "equals", desc := "([B[B)Z", sig := { parameters := [(.array .byte), (.array .byte)], returnType := some .boolean }, accessFlags := 9, code := some k12c1 }
/-- java/lang/StringLatin1 -/
def k12 : Class := { plain "java/lang/StringLatin1" (some 0) with
  accessFlags := 48
  interfaces := #[]
  cf := some (fileOf pool12 14 #[.nestMembers #[390, 221]] #[{ accessFlags := 0, nameIndex := 7, descriptorIndex := 8, attributes := #[] }, { accessFlags := 9, nameIndex := 281, descriptorIndex := 282, attributes := #[] }] 48 4 #[] #[{ accessFlags := 4120, nameIndex := 121, descriptorIndex := 122, attributes := #[] }])
  fields := #[{ name := "$assertionsDisabled", type := .boolean, accessFlags := 4120, slot := 0, constantValue := 0 }]
  methods := #[k12m0, k12m1]
  instanceTypes := #[]
  staticTypes := #[.boolean]
  resolved := Array.replicate 395 none
  statics := none }

def pool13 : Array CpInfo := pool [(2, .class_ 4), (1, u "java/lang/Object"), (0, u "<init>"), (0, u "()V"), (17, .class_ 26), (1, u "jdk/internal/util/Preconditions"), (28, .class_ 56), (0, u "jdk/internal/util/Preconditions$4"), (57, .class_ 115), (0, u "jdk/internal/util/Preconditions$1"), (7, u "SIOOBE_FORMATTER"), (0, u "Ljava/util/function/BiFunction;"), (0, .class_ 126), (0, u "jdk/internal/util/Preconditions$2"), (3, u "AIOOBE_FORMATTER"), (0, .class_ 132), (0, u "jdk/internal/util/Preconditions$3"), (3, u "IOOBE_FORMATTER")] 57

def k13m0 : Method := { name := "<init>", desc := "()V", sig := { parameters := [], returnType := none }, accessFlags := 1, code := none }
/-- jdk/internal/util/Preconditions -/
def k13 : Class := { plain "jdk/internal/util/Preconditions" (some 0) with
  accessFlags := 33
  interfaces := #[]
  cf := some (fileOf pool13 24 #[.nestMembers #[55, 131, 125, 114]] #[{ accessFlags := 1, nameIndex := 5, descriptorIndex := 6, attributes := #[] }] 33 2 #[] #[{ accessFlags := 25, nameIndex := 123, descriptorIndex := 124, attributes := #[] }, { accessFlags := 25, nameIndex := 130, descriptorIndex := 124, attributes := #[] }, { accessFlags := 25, nameIndex := 136, descriptorIndex := 124, attributes := #[] }])
  fields := #[{ name := "SIOOBE_FORMATTER", type := (.object "java/util/function/BiFunction"), accessFlags := 25, slot := 0, constantValue := 0 }, { name := "AIOOBE_FORMATTER", type := (.object "java/util/function/BiFunction"), accessFlags := 25, slot := 1, constantValue := 0 }, { name := "IOOBE_FORMATTER", type := (.object "java/util/function/BiFunction"), accessFlags := 25, slot := 2, constantValue := 0 }]
  methods := #[k13m0]
  instanceTypes := #[]
  staticTypes := #[(.object "java/util/function/BiFunction"), (.object "java/util/function/BiFunction"), (.object "java/util/function/BiFunction")]
  resolved := Array.replicate 194 none
  statics := some 2 }

def pool14 : Array CpInfo := pool [(9, u "<init>"), (6, .class_ 18), (1, u "java/lang/Object"), (0, u "()V"), (1, .class_ 23), (1, u "jdk/internal/util/ArraysSupport"), (0, u "LOG2_ARRAY_LONG_INDEX_SCALE"), (0, u "I"), (2, u "U"), (0, u "Ljdk/internal/misc/Unsafe;"), (8, u "BIG_ENDIAN"), (0, u "Z"), (8, u "LOG2_BYTE_BIT_SIZE"), (4, u "LOG2_ARRAY_INT_INDEX_SCALE"), (54, u "JLA"), (0, u "Ljdk/internal/access/JavaLangAccess;"), (11, u "LOG2_ARRAY_BOOLEAN_INDEX_SCALE"), (9, u "LOG2_ARRAY_BYTE_INDEX_SCALE"), (5, u "LOG2_ARRAY_CHAR_INDEX_SCALE"), (5, u "LOG2_ARRAY_SHORT_INDEX_SCALE"), (18, u "LOG2_ARRAY_FLOAT_INDEX_SCALE"), (24, u "LOG2_ARRAY_DOUBLE_INDEX_SCALE"), (89, u "T_BOOLEAN"), (2, u "T_CHAR"), (1, u "T_FLOAT"), (1, u "T_DOUBLE"), (1, u "T_BYTE"), (1, u "T_SHORT"), (1, u "T_INT"), (1, u "T_LONG"), (1, u "SOFT_MAX_ARRAY_LENGTH")] 83

def k14m0 : Method := { name := "<init>", desc := "()V", sig := { parameters := [], returnType := none }, accessFlags := 2, code := none }
/-- jdk/internal/util/ArraysSupport -/
def k14 : Class := { plain "jdk/internal/util/ArraysSupport" (some 0) with
  accessFlags := 33
  interfaces := #[]
  cf := some (fileOf pool14 21 #[] #[{ accessFlags := 2, nameIndex := 9, descriptorIndex := 19, attributes := #[] }] 33 16 #[] #[{ accessFlags := 24, nameIndex := 28, descriptorIndex := 29, attributes := #[] }, { accessFlags := 26, nameIndex := 38, descriptorIndex := 39, attributes := #[] }, { accessFlags := 25, nameIndex := 121, descriptorIndex := 25, attributes := #[] }, { accessFlags := 25, nameIndex := 131, descriptorIndex := 25, attributes := #[] }, { accessFlags := 25, nameIndex := 137, descriptorIndex := 25, attributes := #[] }, { accessFlags := 25, nameIndex := 143, descriptorIndex := 25, attributes := #[] }, { accessFlags := 25, nameIndex := 53, descriptorIndex := 25, attributes := #[] }, { accessFlags := 25, nameIndex := 24, descriptorIndex := 25, attributes := #[] }, { accessFlags := 25, nameIndex := 162, descriptorIndex := 25, attributes := #[] }, { accessFlags := 25, nameIndex := 187, descriptorIndex := 25, attributes := #[] }, { accessFlags := 26, nameIndex := 48, descriptorIndex := 25, attributes := #[] }, { accessFlags := 25, nameIndex := 277, descriptorIndex := 25, attributes := #[] }, { accessFlags := 25, nameIndex := 280, descriptorIndex := 25, attributes := #[] }, { accessFlags := 25, nameIndex := 282, descriptorIndex := 25, attributes := #[] }, { accessFlags := 25, nameIndex := 284, descriptorIndex := 25, attributes := #[] }, { accessFlags := 25, nameIndex := 286, descriptorIndex := 25, attributes := #[] }, { accessFlags := 25, nameIndex := 288, descriptorIndex := 25, attributes := #[] }, { accessFlags := 25, nameIndex := 290, descriptorIndex := 25, attributes := #[] }, { accessFlags := 25, nameIndex := 292, descriptorIndex := 25, attributes := #[] }, { accessFlags := 26, nameIndex := 108, descriptorIndex := 109, attributes := #[] }, { accessFlags := 25, nameIndex := 294, descriptorIndex := 25, attributes := #[] }])
  fields := #[{ name := "U", type := (.object "jdk/internal/misc/Unsafe"), accessFlags := 24, slot := 0, constantValue := 0 }, { name := "BIG_ENDIAN", type := .boolean, accessFlags := 26, slot := 1, constantValue := 0 }, { name := "LOG2_ARRAY_BOOLEAN_INDEX_SCALE", type := .int, accessFlags := 25, slot := 2, constantValue := 0 }, { name := "LOG2_ARRAY_BYTE_INDEX_SCALE", type := .int, accessFlags := 25, slot := 3, constantValue := 0 }, { name := "LOG2_ARRAY_CHAR_INDEX_SCALE", type := .int, accessFlags := 25, slot := 4, constantValue := 0 }, { name := "LOG2_ARRAY_SHORT_INDEX_SCALE", type := .int, accessFlags := 25, slot := 5, constantValue := 0 }, { name := "LOG2_ARRAY_INT_INDEX_SCALE", type := .int, accessFlags := 25, slot := 6, constantValue := 0 }, { name := "LOG2_ARRAY_LONG_INDEX_SCALE", type := .int, accessFlags := 25, slot := 7, constantValue := 0 }, { name := "LOG2_ARRAY_FLOAT_INDEX_SCALE", type := .int, accessFlags := 25, slot := 8, constantValue := 0 }, { name := "LOG2_ARRAY_DOUBLE_INDEX_SCALE", type := .int, accessFlags := 25, slot := 9, constantValue := 0 }, { name := "LOG2_BYTE_BIT_SIZE", type := .int, accessFlags := 26, slot := 10, constantValue := 0 }, { name := "T_BOOLEAN", type := .int, accessFlags := 25, slot := 11, constantValue := 0 }, { name := "T_CHAR", type := .int, accessFlags := 25, slot := 12, constantValue := 0 }, { name := "T_FLOAT", type := .int, accessFlags := 25, slot := 13, constantValue := 0 }, { name := "T_DOUBLE", type := .int, accessFlags := 25, slot := 14, constantValue := 0 }, { name := "T_BYTE", type := .int, accessFlags := 25, slot := 15, constantValue := 0 }, { name := "T_SHORT", type := .int, accessFlags := 25, slot := 16, constantValue := 0 }, { name := "T_INT", type := .int, accessFlags := 25, slot := 17, constantValue := 0 }, { name := "T_LONG", type := .int, accessFlags := 25, slot := 18, constantValue := 0 }, { name := "JLA", type := (.object "jdk/internal/access/JavaLangAccess"), accessFlags := 26, slot := 19, constantValue := 0 }, { name := "SOFT_MAX_ARRAY_LENGTH", type := .int, accessFlags := 25, slot := 20, constantValue := 0 }]
  methods := #[k14m0]
  instanceTypes := #[]
  staticTypes := #[(.object "jdk/internal/misc/Unsafe"), .boolean, .int, .int, .int, .int, .int, .int, .int, .int, .int, .int, .int, .int, .int, .int, .int, .int, .int, (.object "jdk/internal/access/JavaLangAccess"), .int]
  resolved := Array.replicate 378 none
  statics := none }

def pool15 : Array CpInfo := pool [(1, u "java/lang/Cloneable"), (0, .class_ 1), (0, u "java/lang/Object"), (0, .class_ 3)] 3

/-- java/lang/Cloneable -/
def k15 : Class := { plain "java/lang/Cloneable" (some 0) with
  accessFlags := 1537
  interfaces := #[]
  cf := some (fileOf pool15 2 #[] #[] 1537 4 #[] #[])
  fields := #[]
  methods := #[]
  instanceTypes := #[]
  staticTypes := #[]
  resolved := Array.replicate 8 none
  statics := none }

/-- the primitive byte -/
def k16 : Class := { plain "byte" none with kind := .primitive 'B', accessFlags := 0x411 }
/-- [B -/
def k17 : Class := { plain "[B" (some 0) with kind := .array 16 .byte, interfaces := #[15, 4], accessFlags := 1041 }

/-- the primitive int -/
def k18 : Class := { plain "int" none with kind := .primitive 'I', accessFlags := 0x411 }
/-- [I -/
def k19 : Class := { plain "[I" (some 0) with kind := .array 18 .int, interfaces := #[15, 4], accessFlags := 1041 }

def heap : Heap := #[{ cls := 6, slots := #[.ref 3, .ref 4, .ref 5, .null], vm := .statics 6 },
  { cls := 11, slots := #[.long 0, .int 1, .null, .int 0, .null, .int 0, .int 0], vm := .statics 11 },
  { cls := 13, slots := #[.null, .null, .null], vm := .statics 13 },
  { cls := 6, slots := #[.null, .int 0, .int 0, .null], vm := .none },
  { cls := 6, slots := #[.null, .int 1, .int 0, .null], vm := .none },
  { cls := 6, slots := #[.null, .int 2, .int 0, .null], vm := .none }]
def classes : Array Class := #[k0, k1, k2, k3, k4, k5, k6, k7, k8, k9, k10, k11, k12, k13, k14, k15, k16, k17, k18, k19]
def interned : List (Array UInt16 × Addr) := []
def slotsUsed : Nat := 26
def theMethod : MethodId := ⟨1, 2⟩
def args0 : Array Value := #[.int 5, .int 7]
def aboutOver (below : List Frame) : State where
  vm := { classes := classes, interned := interned.toArray }
  heap := heap
  slotsUsed := slotsUsed
  threads := #[{ frames := .invoking theMethod args0 :: below }]
def below0 : List Frame := [.native { method := ⟨0, 0⟩, args := #[] }]
def about1 : State := aboutOver below0
def p0 : Program := .bare "" "" ""
def e0 : Env := launch0.env 0 0 0
theorem w_frames : about1.frames = Frame.invoking theMethod args0 :: below0 := rfl
set_option maxRecDepth 65536 in
theorem w_args : argsFit about1.vm theMethod args0 = true := by decide +kernel
set_option maxRecDepth 65536 in
theorem w_heap : heapFits about1 = true := by decide +kernel
set_option maxRecDepth 65536 in
theorem w_runnable : about1.curStatus? = some .runnable := by decide +kernel
set_option maxRecDepth 65536 in
theorem w_alone : about1.alone = true := by decide +kernel
set_option maxRecDepth 65536 in
theorem w_named : about1.methodNamed? x = some theMethod := by decide +kernel
set_option maxRecDepth 65536 in
theorem w_hears : about1.hears theMethod below0 = true := by decide +kernel
set_option maxRecDepth 65536 in
theorem w_ripe : about1.ripe theMethod args0 below0 = true := by decide +kernel
theorem w_running : about1.status = .running := rfl
set_option maxRecDepth 65536 in
theorem w_room : about1.hasRoom e0.platform room_1 = true :=
  launch0.hasRoom_least _ room_1 (by decide +kernel) (by decide +kernel) (by decide +kernel) (by decide +kernel) (by decide +kernel) (by decide +kernel)
theorem allAtoms_all (ts : List Jvm.Cond) (a : Array Jvm.Value) (st : Jvm.State) : (allAtoms ts).before a st = ts.all (fun c => c.before a st) := by
  induction ts with
  | nil => rfl
  | cons c t ih =>
    show (Jvm.Cond.and c (allAtoms t)).before a st = _
    rw [Jvm.Cond.before_and, ih, List.all_cons]
def words1 : List Jvm.Cond := Jvm.Cond.code x code maxLocals ret :: tables_1
/-- a 'code' word, met by the world's own term for the bytes: nothing is compared byte by byte -/
theorem code_word {y : MethodName} {bytes : ByteArray} {mx : Nat} {rt : Option FieldType} {a : Array Value} {s : State} {m : MethodId} {meth : Method} {c : Code} (h1 : s.methodNamed? y = some m) (h2 : s.vm.method? m = some meth) (h3 : meth.code = some c) (h4 : c.code = bytes)
    (h5 : (c.maxLocals == mx && c.exceptionTable.isEmpty && decide (c.maxStack ≤ mostOperands) && decide (meth.sig.returnType = rt) && !meth.locks && decide (parseMethodDescriptor y.desc = some meth.sig)) = true) : (Jvm.Cond.code y bytes mx rt).before a s = true := by
  simp only [Bool.and_eq_true, beq_iff_eq, Bool.not_eq_true', decide_eq_true_eq] at h5
  obtain ⟨⟨⟨⟨⟨g1, g2⟩, g3⟩, g4⟩, g5⟩, g6⟩ := h5
  simp [Cond.before, Cond.holds, Cond.value, h1, h2, h3, h4, g1, g2, g3, g4, g5, g6]
def isCode : Jvm.Cond → Bool
  | .code _ _ _ _ => true
  | _ => false
theorem all_split {L : List Jvm.Cond} {P : Jvm.Cond → Bool} (h1 : L.all (fun c => isCode c || P c) = true) (h2 : ∀ c ∈ L.filter isCode, P c = true) : L.all P = true := by
  refine List.all_eq_true.mpr fun c hc => ?_
  have h := List.all_eq_true.mp h1 c hc
  rcases Bool.eq_false_or_eq_true (isCode c) with hi | hi
  · exact h2 c (List.mem_filter.mpr ⟨hc, hi⟩)
  · simpa [hi] using h
set_option maxRecDepth 65536 in
theorem w_c0 : (Jvm.Cond.code x code maxLocals ret).before args0 about1 = true := code_word (m := ⟨1, 2⟩) (meth := k1m2) (c := k1c2) (by decide +kernel) rfl rfl rfl (by decide +kernel)
set_option maxRecDepth 65536 in
theorem w_c1 : (Jvm.Cond.code ({ cls := "caseward/policy/AccessPiiWordPinLaw", name := "level", desc := "(I)Lcaseward/policy/Access$Level;" } : Jvm.MethodName) method_2_code (2 : Nat) (Option.some (Jvm.ClassFile.FieldType.object "caseward/policy/Access$Level"))).before args0 about1 = true := code_word (m := ⟨1, 1⟩) (meth := k1m1) (c := k1c1) (by decide +kernel) rfl rfl rfl (by decide +kernel)
set_option maxRecDepth 65536 in
theorem w_c2 : (Jvm.Cond.code ({ cls := "caseward/policy/Access", name := "<init>", desc := "(Lcaseward/policy/Access$Level;ZZ)V" } : Jvm.MethodName) prog_34_method_1_code (4 : Nat) (Option.none : Option Jvm.ClassFile.FieldType)).before args0 about1 = true := code_word (m := ⟨8, 0⟩) (meth := k8m0) (c := k8c0) (by decide +kernel) rfl rfl rfl (by decide +kernel)
set_option maxRecDepth 65536 in
theorem w_c3 : (Jvm.Cond.code ({ cls := "java/lang/Record", name := "<init>", desc := "()V" } : Jvm.MethodName) jdk_30_method_1_code (1 : Nat) (Option.none : Option Jvm.ClassFile.FieldType)).before args0 about1 = true := code_word (m := ⟨7, 0⟩) (meth := k7m0) (c := k7c0) (by decide +kernel) rfl rfl rfl (by decide +kernel)
set_option maxRecDepth 65536 in
theorem w_c4 : (Jvm.Cond.code ({ cls := "java/lang/Object", name := "<init>", desc := "()V" } : Jvm.MethodName) object_method_1_code (1 : Nat) (Option.none : Option Jvm.ClassFile.FieldType)).before args0 about1 = true := code_word (m := ⟨0, 0⟩) (meth := k0m0) (c := k0c0) (by decide +kernel) rfl rfl rfl (by decide +kernel)
set_option maxRecDepth 65536 in
theorem w_c5 : (Jvm.Cond.code ({ cls := "caseward/policy/Access", name := "piiWord", desc := "()Ljava/lang/String;" } : Jvm.MethodName) prog_34_method_8_code (1 : Nat) (Option.some (Jvm.ClassFile.FieldType.object "java/lang/String"))).before args0 about1 = true := code_word (m := ⟨8, 1⟩) (meth := k8m1) (c := k8c1) (by decide +kernel) rfl rfl rfl (by decide +kernel)
set_option maxRecDepth 65536 in
theorem w_c6 : (Jvm.Cond.code ({ cls := "java/lang/String", name := "equals", desc := "(Ljava/lang/Object;)Z" } : Jvm.MethodName) jdk_42_method_66_code (3 : Nat) (Option.some Jvm.ClassFile.FieldType.boolean)).before args0 about1 = true := code_word (m := ⟨11, 1⟩) (meth := k11m1) (c := k11c1) (by decide +kernel) rfl rfl rfl (by decide +kernel)
set_option maxRecDepth 65536 in
theorem w_c7 : (Jvm.Cond.code ({ cls := "java/lang/StringLatin1", name := "equals", desc := "([B[B)Z" } : Jvm.MethodName) jdk_43_method_13_code (3 : Nat) (Option.some Jvm.ClassFile.FieldType.boolean)).before args0 about1 = true := code_word (m := ⟨12, 1⟩) (meth := k12m1) (c := k12c1) (by decide +kernel) rfl rfl rfl (by decide +kernel)
def codes1 : List Jvm.Cond := [Jvm.Cond.code x code maxLocals ret, Jvm.Cond.code ({ cls := "caseward/policy/AccessPiiWordPinLaw", name := "level", desc := "(I)Lcaseward/policy/Access$Level;" } : Jvm.MethodName) method_2_code (2 : Nat) (Option.some (Jvm.ClassFile.FieldType.object "caseward/policy/Access$Level")), Jvm.Cond.code ({ cls := "caseward/policy/Access", name := "<init>", desc := "(Lcaseward/policy/Access$Level;ZZ)V" } : Jvm.MethodName) prog_34_method_1_code (4 : Nat) (Option.none : Option Jvm.ClassFile.FieldType), Jvm.Cond.code ({ cls := "java/lang/Record", name := "<init>", desc := "()V" } : Jvm.MethodName) jdk_30_method_1_code (1 : Nat) (Option.none : Option Jvm.ClassFile.FieldType), Jvm.Cond.code ({ cls := "java/lang/Object", name := "<init>", desc := "()V" } : Jvm.MethodName) object_method_1_code (1 : Nat) (Option.none : Option Jvm.ClassFile.FieldType), Jvm.Cond.code ({ cls := "caseward/policy/Access", name := "piiWord", desc := "()Ljava/lang/String;" } : Jvm.MethodName) prog_34_method_8_code (1 : Nat) (Option.some (Jvm.ClassFile.FieldType.object "java/lang/String")), Jvm.Cond.code ({ cls := "java/lang/String", name := "equals", desc := "(Ljava/lang/Object;)Z" } : Jvm.MethodName) jdk_42_method_66_code (3 : Nat) (Option.some Jvm.ClassFile.FieldType.boolean), Jvm.Cond.code ({ cls := "java/lang/StringLatin1", name := "equals", desc := "([B[B)Z" } : Jvm.MethodName) jdk_43_method_13_code (3 : Nat) (Option.some Jvm.ClassFile.FieldType.boolean)]
set_option maxRecDepth 65536 in
theorem codes_eq : words1.filter isCode = codes1 := rfl
theorem w_codes : ∀ c ∈ words1.filter isCode, c.before args0 about1 = true := by
  rw [codes_eq]
  intro c hc
  simp only [codes1, List.mem_cons, List.not_mem_nil, or_false] at hc
  rcases hc with rfl | rfl | rfl | rfl | rfl | rfl | rfl | rfl
  · exact w_c0
  · exact w_c1
  · exact w_c2
  · exact w_c3
  · exact w_c4
  · exact w_c5
  · exact w_c6
  · exact w_c7
set_option maxRecDepth 65536 in
theorem w_t1 : (words1.take 24).all (fun c => isCode c || c.before args0 about1) = true := by decide +kernel
set_option maxRecDepth 65536 in
theorem w_t2 : ((words1.drop 24).take 24).all (fun c => isCode c || c.before args0 about1) = true := by decide +kernel
set_option maxRecDepth 65536 in
theorem w_t3 : ((words1.drop 24).drop 24).all (fun c => isCode c || c.before args0 about1) = true := by decide +kernel
theorem w_tables : (allAtoms (Jvm.Cond.code x code maxLocals ret :: tables_1)).before args0 about1 = true := by
  rw [allAtoms_all]
  show words1.all (fun c => c.before args0 about1) = true
  refine all_split ?_ w_codes
  rw [← List.take_append_drop 24 words1, List.all_append, w_t1, ← List.take_append_drop 24 (words1.drop 24), List.all_append, w_t2, w_t3]
  rfl
set_option maxRecDepth 65536 in
theorem w_rest : rest_1_c.before args0 about1 = true := by decide +kernel
set_option maxRecDepth 65536 in
theorem w_case : (Jvm.Cond.and given_1 narrow_1).before args0 about1 = true := by decide +kernel
set_option maxRecDepth 65536 in
theorem w_consts : constsHeld consts_1 about1 := Jvm.Lit.constsHeldB_iff.mp (by decide +kernel)
theorem w_applies : (headSpec (Jvm.Cond.code x code maxLocals ret :: tables_1) room_1).applies x e0.platform about1 = true :=
  (Spec.applies_iff w_frames).mpr ⟨w_running, w_runnable, w_alone, w_named, w_hears, w_ripe, w_room, w_tables⟩
theorem atStart : AtStart classFile x code maxLocals ret World_1 tables_1 room_1 Calls_1 rest_1 Pre_1 launch0 p0 e0 about1 theMethod args0 below0 :=
  ⟨lists_1, trivial, launch0.admits_env _ _ _, launch0.least_env, fairChoices_fair.cas, fairChoices_fair.clock, w_frames, w_args, w_heap, w_applies, ⟨w_consts, trivial⟩, w_rest, w_case⟩
end start1
theorem witness_1 : WitnessClaimed_1 := ⟨start1.p0, start1.e0, start1.about1, start1.theMethod, start1.args0, start1.below0, start1.atStart⟩
end Jvm.Pilot.@@N@@
