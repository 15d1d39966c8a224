import JvmDerived
import JvmDerived.Pilot.@@N@@Statement
import JvmDerived.Pilot.@@N@@Code
set_option linter.unusedVariables false
set_option linter.unusedSimpArgs false
namespace Jvm.Pilot.@@N@@
open Jvm Jvm.ClassFile Sem Op Lib Jvm.Free Jvm.Stand Jvm.LawKit Jvm.RoadKit Bundle Jvm.Pilot.@@N@@.Jvm.D
abbrev Way (p : Program) (e : Env) (below : List Frame) (S0 T : State) (g : JFrame) : Prop := ∀ t, Steps p.tables e below (T.setTop g) t → Steps p.tables e below S0 t
theorem own_old {Z : State} {n0 : Nat} {h : Heap} (O : Old Z n0 h) : n0 ≤ h.size := O.1 ▸ O.2.1
theorem own_eqF {args : Array Value} {s : State} {t : Term} {x : Addr} {C n d : String} {k : Int32} (ht : t.eval args s none [] s = some (.ref x)) (h : (Jvm.Cond.eq (.field t C n d) (.int k)).value args s none s [] = some true) : s.fieldOf? x C n d = some (.int k) :=
  (fld_at ht).symm.trans (Cond.eq_int (Cond.before_iff.mpr h) rfl)
theorem own_mask3 (x : Int32) : (x &&& (3 : Int32)) = (0 : Int32) ∨ (x &&& (3 : Int32)) = (1 : Int32) ∨ (x &&& (3 : Int32)) = (2 : Int32) ∨ (x &&& (3 : Int32)) = (3 : Int32) := by
  have h1 : (x &&& (3 : Int32)).toInt = x.toInt % (2 ^ 2 : Nat) := c_mask x 3 2 (by decide) (by decide)
  have h3 : (x &&& (3 : Int32)).toInt = 0 ∨ (x &&& (3 : Int32)).toInt = 1 ∨ (x &&& (3 : Int32)).toInt = 2 ∨ (x &&& (3 : Int32)).toInt = 3 := by omega
  rcases h3 with h | h | h | h
  · exact Or.inl (Int32.toInt_inj.mp h)
  · exact Or.inr (Or.inl (Int32.toInt_inj.mp h))
  · exact Or.inr (Or.inr (Or.inl (Int32.toInt_inj.mp h)))
  · exact Or.inr (Or.inr (Or.inr ((Int32.toInt_inj.mp h))))
def Gst (Z : State) (w_GREATER_EQUAL : Addr) (w_GREATER : Addr) (w_LESS_EQUAL : Addr) (w_LESS : Addr) : Prop := (Sta Z Z.heap "com/example/inert_quotient/inertquotient/prism/ProbabilityBound$Relation" "GREATER_EQUAL" "Lcom/example/inert_quotient/inertquotient/prism/ProbabilityBound$Relation;" (.ref w_GREATER_EQUAL)) ∧ (Exa Z Z.heap w_GREATER_EQUAL "com/example/inert_quotient/inertquotient/prism/ProbabilityBound$Relation") ∧ (Fld Z Z.heap w_GREATER_EQUAL "java/lang/Enum" "ordinal" "I" (.int (0 : Int32))) ∧ (Sta Z Z.heap "com/example/inert_quotient/inertquotient/prism/ProbabilityBound$Relation" "GREATER" "Lcom/example/inert_quotient/inertquotient/prism/ProbabilityBound$Relation;" (.ref w_GREATER)) ∧ (Exa Z Z.heap w_GREATER "com/example/inert_quotient/inertquotient/prism/ProbabilityBound$Relation") ∧ (Fld Z Z.heap w_GREATER "java/lang/Enum" "ordinal" "I" (.int (1 : Int32))) ∧ (Sta Z Z.heap "com/example/inert_quotient/inertquotient/prism/ProbabilityBound$Relation" "LESS_EQUAL" "Lcom/example/inert_quotient/inertquotient/prism/ProbabilityBound$Relation;" (.ref w_LESS_EQUAL)) ∧ (Exa Z Z.heap w_LESS_EQUAL "com/example/inert_quotient/inertquotient/prism/ProbabilityBound$Relation") ∧ (Fld Z Z.heap w_LESS_EQUAL "java/lang/Enum" "ordinal" "I" (.int (2 : Int32))) ∧ (Sta Z Z.heap "com/example/inert_quotient/inertquotient/prism/ProbabilityBound$Relation" "LESS" "Lcom/example/inert_quotient/inertquotient/prism/ProbabilityBound$Relation;" (.ref w_LESS)) ∧ (Exa Z Z.heap w_LESS "com/example/inert_quotient/inertquotient/prism/ProbabilityBound$Relation") ∧ (Fld Z Z.heap w_LESS "java/lang/Enum" "ordinal" "I" (.int (3 : Int32)))
theorem d_prog_65_method_4_code_0 : decode prog_65_method_4_code 0 = .ok (.aload_n 0, 1) := by decide +kernel
theorem d_prog_65_method_4_code_1 : decode prog_65_method_4_code 1 = .ok (.getstatic 3, 3) := by decide +kernel
theorem d_prog_65_method_4_code_4 : decode prog_65_method_4_code 4 = .ok (.if_acmp .eq 10, 3) := by decide +kernel
theorem d_prog_65_method_4_code_14 : decode prog_65_method_4_code 14 = .ok (.iconst 1, 1) := by decide +kernel
theorem d_prog_65_method_4_code_15 : decode prog_65_method_4_code 15 = .ok (.goto 4, 3) := by decide +kernel
theorem d_prog_65_method_4_code_19 : decode prog_65_method_4_code 19 = .ok (.ireturn, 1) := by decide +kernel
theorem pn_0 : plainName "com/example/inert_quotient/inertquotient/prism/ProbabilityBound$Relation" = true := by first | (simp [plainName, overriddenIn]; done) | decide +kernel
theorem d_prog_65_method_4_code_7 : decode prog_65_method_4_code 7 = .ok (.aload_n 0, 1) := by decide +kernel
theorem d_prog_65_method_4_code_8 : decode prog_65_method_4_code 8 = .ok (.getstatic 7, 3) := by decide +kernel
theorem d_prog_65_method_4_code_11 : decode prog_65_method_4_code 11 = .ok (.if_acmp .ne 7, 3) := by decide +kernel
theorem d_prog_65_method_4_code_18 : decode prog_65_method_4_code 18 = .ok (.iconst 0, 1) := by decide +kernel
theorem d_jdk_37_method_2_code_0 : decode jdk_37_method_2_code 0 = .ok (.aload_n 0, 1) := by decide +kernel
theorem d_jdk_37_method_2_code_1 : decode jdk_37_method_2_code 1 = .ok (.getfield 7, 3) := by decide +kernel
theorem d_jdk_37_method_2_code_4 : decode jdk_37_method_2_code 4 = .ok (.ireturn, 1) := by decide +kernel
theorem pn_1 : plainName "java/lang/Enum" = true := by first | (simp [plainName, overriddenIn]; done) | decide +kernel
theorem d_prog_64_method_1_code_0 : decode prog_64_method_1_code 0 = .ok (.aload_n 0, 1) := by decide +kernel
theorem d_prog_64_method_1_code_1 : decode prog_64_method_1_code 1 = .ok (.invokespecial 1, 3) := by decide +kernel
theorem d_prog_64_method_1_code_4 : decode prog_64_method_1_code 4 = .ok (.aload_n 0, 1) := by decide +kernel
theorem d_prog_64_method_1_code_5 : decode prog_64_method_1_code 5 = .ok (.aload_n 1, 1) := by decide +kernel
theorem d_prog_64_method_1_code_6 : decode prog_64_method_1_code 6 = .ok (.putfield 7, 3) := by decide +kernel
theorem d_prog_64_method_1_code_9 : decode prog_64_method_1_code 9 = .ok (.aload_n 0, 1) := by decide +kernel
theorem d_prog_64_method_1_code_10 : decode prog_64_method_1_code 10 = .ok (.dload_n 2, 1) := by decide +kernel
theorem d_prog_64_method_1_code_11 : decode prog_64_method_1_code 11 = .ok (.putfield 13, 3) := by decide +kernel
theorem d_prog_64_method_1_code_14 : decode prog_64_method_1_code 14 = .ok (.return_, 1) := by decide +kernel
theorem pn_2 : plainName "com/example/inert_quotient/inertquotient/prism/ProbabilityBound" = true := by first | (simp [plainName, overriddenIn]; done) | decide +kernel
theorem d_prog_64_method_5_code_0 : decode prog_64_method_5_code 0 = .ok (.dload_n 1, 1) := by decide +kernel
theorem d_prog_64_method_5_code_1 : decode prog_64_method_5_code 1 = .ok (.aload_n 0, 1) := by decide +kernel
theorem d_prog_64_method_5_code_2 : decode prog_64_method_5_code 2 = .ok (.getfield 13, 3) := by decide +kernel
theorem d_prog_64_method_5_code_5 : decode prog_64_method_5_code 5 = .ok (.dsub, 1) := by decide +kernel
theorem d_prog_64_method_5_code_6 : decode prog_64_method_5_code 6 = .ok (.invokestatic 32, 3) := by decide +kernel
theorem pd_0 : parseMethodDescriptor "(D)D" = some ⟨[.double], some .double⟩ := by decide +kernel
theorem d_prog_64_method_5_code_9 : decode prog_64_method_5_code 9 = .ok (.dload_n 3, 1) := by decide +kernel
theorem d_prog_64_method_5_code_10 : decode prog_64_method_5_code 10 = .ok (.aload_n 0, 1) := by decide +kernel
theorem d_prog_64_method_5_code_11 : decode prog_64_method_5_code 11 = .ok (.getfield 13, 3) := by decide +kernel
theorem d_prog_64_method_5_code_14 : decode prog_64_method_5_code 14 = .ok (.dmul, 1) := by decide +kernel
theorem d_prog_64_method_5_code_15 : decode prog_64_method_5_code 15 = .ok (.dcmp .g, 1) := by decide +kernel
theorem d_prog_64_method_5_code_16 : decode prog_64_method_5_code 16 = .ok (.ifCond .gt 7, 3) := by decide +kernel
theorem d_prog_64_method_5_code_23 : decode prog_64_method_5_code 23 = .ok (.iconst 0, 1) := by decide +kernel
theorem d_prog_64_method_5_code_24 : decode prog_64_method_5_code 24 = .ok (.istore 5, 2) := by decide +kernel
theorem d_prog_64_method_5_code_26 : decode prog_64_method_5_code 26 = .ok (.aload_n 0, 1) := by decide +kernel
theorem d_prog_64_method_5_code_27 : decode prog_64_method_5_code 27 = .ok (.getfield 7, 3) := by decide +kernel
theorem d_prog_64_method_5_code_30 : decode prog_64_method_5_code 30 = .ok (.invokevirtual 38, 3) := by decide +kernel
theorem pd_1 : parseMethodDescriptor "()I" = some ⟨[], some .int⟩ := by decide +kernel
theorem d_prog_64_method_5_code_33 : decode prog_64_method_5_code 33 = .ok (.tableswitch 31 0 3 #[41, 63, 85, 107], 31) := by decide +kernel
theorem d_prog_64_method_5_code_74 : decode prog_64_method_5_code 74 = .ok (.dload_n 1, 1) := by decide +kernel
theorem d_prog_64_method_5_code_75 : decode prog_64_method_5_code 75 = .ok (.aload_n 0, 1) := by decide +kernel
theorem d_prog_64_method_5_code_76 : decode prog_64_method_5_code 76 = .ok (.getfield 13, 3) := by decide +kernel
theorem d_prog_64_method_5_code_79 : decode prog_64_method_5_code 79 = .ok (.dcmp .l, 1) := by decide +kernel
theorem d_prog_64_method_5_code_80 : decode prog_64_method_5_code 80 = .ok (.ifCond .ge 8, 3) := by decide +kernel
theorem d_prog_64_method_5_code_88 : decode prog_64_method_5_code 88 = .ok (.iconst 1, 1) := by decide +kernel
theorem d_prog_64_method_5_code_89 : decode prog_64_method_5_code 89 = .ok (.goto 70, 3) := by decide +kernel
theorem d_prog_64_method_5_code_159 : decode prog_64_method_5_code 159 = .ok (.ireturn, 1) := by decide +kernel
theorem d_prog_64_method_5_code_96 : decode prog_64_method_5_code 96 = .ok (.dload_n 1, 1) := by decide +kernel
theorem d_prog_64_method_5_code_97 : decode prog_64_method_5_code 97 = .ok (.aload_n 0, 1) := by decide +kernel
theorem d_prog_64_method_5_code_98 : decode prog_64_method_5_code 98 = .ok (.getfield 13, 3) := by decide +kernel
theorem d_prog_64_method_5_code_101 : decode prog_64_method_5_code 101 = .ok (.dcmp .l, 1) := by decide +kernel
theorem d_prog_64_method_5_code_102 : decode prog_64_method_5_code 102 = .ok (.ifCond .le 12, 3) := by decide +kernel
theorem d_prog_64_method_5_code_105 : decode prog_64_method_5_code 105 = .ok (.iload 5, 2) := by decide +kernel
theorem d_prog_64_method_5_code_107 : decode prog_64_method_5_code 107 = .ok (.ifCond .ne 7, 3) := by decide +kernel
theorem d_prog_64_method_5_code_110 : decode prog_64_method_5_code 110 = .ok (.iconst 1, 1) := by decide +kernel
theorem d_prog_64_method_5_code_111 : decode prog_64_method_5_code 111 = .ok (.goto 48, 3) := by decide +kernel
theorem d_prog_64_method_5_code_118 : decode prog_64_method_5_code 118 = .ok (.dload_n 1, 1) := by decide +kernel
theorem d_prog_64_method_5_code_119 : decode prog_64_method_5_code 119 = .ok (.aload_n 0, 1) := by decide +kernel
theorem d_prog_64_method_5_code_120 : decode prog_64_method_5_code 120 = .ok (.getfield 13, 3) := by decide +kernel
theorem d_prog_64_method_5_code_123 : decode prog_64_method_5_code 123 = .ok (.dcmp .g, 1) := by decide +kernel
theorem d_prog_64_method_5_code_124 : decode prog_64_method_5_code 124 = .ok (.ifCond .le 8, 3) := by decide +kernel
theorem d_prog_64_method_5_code_127 : decode prog_64_method_5_code 127 = .ok (.iload 5, 2) := by decide +kernel
theorem d_prog_64_method_5_code_129 : decode prog_64_method_5_code 129 = .ok (.ifCond .eq 7, 3) := by decide +kernel
theorem d_prog_64_method_5_code_136 : decode prog_64_method_5_code 136 = .ok (.iconst 0, 1) := by decide +kernel
theorem d_prog_64_method_5_code_137 : decode prog_64_method_5_code 137 = .ok (.goto 22, 3) := by decide +kernel
theorem d_prog_64_method_5_code_140 : decode prog_64_method_5_code 140 = .ok (.dload_n 1, 1) := by decide +kernel
theorem d_prog_64_method_5_code_141 : decode prog_64_method_5_code 141 = .ok (.aload_n 0, 1) := by decide +kernel
theorem d_prog_64_method_5_code_142 : decode prog_64_method_5_code 142 = .ok (.getfield 13, 3) := by decide +kernel
theorem d_prog_64_method_5_code_145 : decode prog_64_method_5_code 145 = .ok (.dcmp .g, 1) := by decide +kernel
theorem d_prog_64_method_5_code_146 : decode prog_64_method_5_code 146 = .ok (.ifCond .ge 12, 3) := by decide +kernel
theorem d_prog_64_method_5_code_158 : decode prog_64_method_5_code 158 = .ok (.iconst 0, 1) := by decide +kernel
theorem pd_2 : parseMethodDescriptor "()Z" = some ⟨[], some .boolean⟩ := by decide +kernel
theorem pd_3 : parseMethodDescriptor "(Lcom/example/inert_quotient/inertquotient/prism/ProbabilityBound$Relation;D)V" = some ⟨[(.object "com/example/inert_quotient/inertquotient/prism/ProbabilityBound$Relation"), .double], none⟩ := by decide +kernel
theorem pd_4 : parseMethodDescriptor "(DD)Z" = some ⟨[.double, .double], some .boolean⟩ := by decide +kernel
theorem pn_3 : plainName "com/example/inert_quotient/inertquotient/prism/RelationIsLowerPinLaw" = true := by first | (simp [plainName, overriddenIn]; done) | decide +kernel
def Q_low0 (Z : State) (w_GREATER_EQUAL : Addr) (w_GREATER : Addr) (w_LESS_EQUAL : Addr) (w_LESS : Addr)  (h0 : Heap) (n0 : Nat) (v : Option Value) (h : Heap) (L : List Loc) : Prop := (v = some (.int (1 : Int32))) ∧ (Fr n0 L) ∧ (h = h0)
set_option maxRecDepth 65536 in
set_option maxHeartbeats 40000000 in
theorem low0 (l : Launch) (Z : State) (a0 : Array Value) (hw : ∀ d ∈ tables_1, d.before a0 Z = true) (ws : List Jvm.Cond) (w_GREATER_EQUAL : Addr) (w_GREATER : Addr) (w_LESS_EQUAL : Addr) (w_LESS : Addr) (G : Gst Z w_GREATER_EQUAL w_GREATER w_LESS_EQUAL w_LESS)  (h0 : Heap) (n0 : Nat) (O0 : Old Z n0 h0) :
    MetFree l (⟨"com/example/inert_quotient/inertquotient/prism/ProbabilityBound$Relation", "isLower", "()Z"⟩ : MethodName) (head1 (Jvm.Cond.code (⟨"com/example/inert_quotient/inertquotient/prism/ProbabilityBound$Relation", "isLower", "()Z"⟩ : MethodName) prog_65_method_4_code 1 (some .boolean) :: ws) ({ frames := 0, cells := 0, slots := 0, locals := 0 } : Room)) (fun a U => a = #[(.ref w_GREATER_EQUAL)] ∧ Z.Warmed39 U.vm ∧ U.heap = h0) (fun _ _ _ _ _ => True) (fun _ U o U' => ∃ v L, o = .returned v ∧ Q_low0 Z w_GREATER_EQUAL w_GREATER w_LESS_EQUAL w_LESS  h0 n0 v U'.heap L ∧ FrameEnd U o U' L ({ frames := 0, cells := 0, slots := 0, locals := 0 } : Room).cells ({ frames := 0, cells := 0, slots := 0, locals := 0 } : Room).slots) := by
  refine MetFree.of_bodySF (plainFor_of_name pn_0) hisR ?_
  intro p e s m args below meth c s₁ Bd hml0 hP hK
  obtain ⟨rfl, hZ, hh⟩ := hP
  have hx := Bd.exec
  have hby := Bd.bytes
  have hml : c.maxLocals = 1 := hml0
  have hown : s.vm.findClass "com/example/inert_quotient/inertquotient/prism/ProbabilityBound$Relation" = some m.cls := findClass_of_methodNamed Bd.named
  have hnm := (name_of_methodNamed Bd.named Bd.method).1
  have X0 : Stand p l e ({ frames := 0, cells := 0, slots := 0, locals := 0 } : Room) s m #[(.ref w_GREATER_EQUAL)] below meth c s₁ [] 0 0 := Stand.of_body Bd
  have e0 : s₁.heap = h0 := by rw [← hh, Bd.state]; rfl
  have N0 := Fr.nil n0
  obtain ⟨S_w_GREATER_EQUAL, E_w_GREATER_EQUAL, F_w_GREATER_EQUAL_ordinal, S_w_GREATER, E_w_GREATER, F_w_GREATER_ordinal, S_w_LESS_EQUAL, E_w_LESS_EQUAL, F_w_LESS_EQUAL_ordinal, S_w_LESS, E_w_LESS, F_w_LESS_ordinal⟩ := id G
  have k0 : Way p e below (s₁.setTop (entryFrame m #[(.ref w_GREATER_EQUAL)] 1)) s₁ (mkF m 0 #[rv w_GREATER_EQUAL] []) := fun t k => castTop (by first | (simp [entryFrame, mkF, argsToLocals, Value.category]; done) | rfl) k
  generalize s₁.setTop (entryFrame m #[(.ref w_GREATER_EQUAL)] 1) = S0 at k0 ⊢
  have k1 : Way p e below S0 s₁ (mkF m 1 #[rv w_GREATER_EQUAL] [(.ref w_GREATER_EQUAL)]) := by
    intro t k
    refine k0 t ?_
    refine XS.aloadN X0.here hx rfl (hb hby d_prog_65_method_4_code_0) rfl rfl ?_
    show Steps p.tables e below (s₁.setTop (mkF m 1 #[rv w_GREATER_EQUAL] [(.ref w_GREATER_EQUAL)])) _
    exact k
  obtain ⟨T2, X2, e2, st2⟩ := getS2 X0 hx hZ hown (host := "") (Or.inl (hw _ (List.mem_of_getElem? (i := 8) rfl))) Via.refl e0 (S_w_GREATER_EQUAL.ext O0.2) (g := (mkF m 1 #[rv w_GREATER_EQUAL] [(.ref w_GREATER_EQUAL)])) rfl (hb hby d_prog_65_method_4_code_1)
  have k3 : Way p e below S0 T2 (mkF m 4 #[rv w_GREATER_EQUAL] [(.ref w_GREATER_EQUAL), (.ref w_GREATER_EQUAL)]) := fun t k => k1 t (st2 _ k)
  have k4 : Way p e below S0 T2 (mkF m 19 #[rv w_GREATER_EQUAL] [(.int (1 : Int32))]) := by
    intro t k
    refine k3 t ?_
    refine Jvm.RoadKit.acmp (g := (mkF m 4 #[rv w_GREATER_EQUAL] [(.ref w_GREATER_EQUAL), (.ref w_GREATER_EQUAL)])) X2 hx rfl rfl rfl (pc0 := 4) (pc' := 14) (same := true) rfl (hb hby d_prog_65_method_4_code_4) rfl (decide_eq_true rfl) (by decide) (by decide) ?_
    show Steps p.tables e below (T2.setTop (mkF m 14 #[rv w_GREATER_EQUAL] [])) _
    refine XS.iconst X2.here hx rfl (hb hby d_prog_65_method_4_code_14) ?_
    show Steps p.tables e below (T2.setTop (mkF m 15 #[rv w_GREATER_EQUAL] [(.int (1 : Int32))])) _
    refine XS.goto X2.here hx rfl (pc0 := 15) (pc' := 19) rfl (hb hby d_prog_65_method_4_code_15) (by decide) (by decide) ?_
    show Steps p.tables e below (T2.setTop (mkF m 19 #[rv w_GREATER_EQUAL] [(.int (1 : Int32))])) _
    exact k
  obtain ⟨fs, hr, hrun, hended, hW, hsame⟩ := X2.leave (v := some (.int (1 : Int32))) (fun h => by rw [Bd.returns] at h; cases h)
  refine ⟨_, _, k4 _ (retN X2 hx (t := .boolean) Bd.returns (by simp) (hb hby d_prog_65_method_4_code_19) hr), hrun, hended, _, _, rfl, ?_, ⟨_, rfl⟩, hW, hsame.mono (by decide) (by decide)⟩
  show Q_low0 Z w_GREATER_EQUAL w_GREATER w_LESS_EQUAL w_LESS  h0 n0 _ T2.heap _
  rw [e2]
  exact ⟨rfl, N0, rfl⟩
def Q_low1 (Z : State) (w_GREATER_EQUAL : Addr) (w_GREATER : Addr) (w_LESS_EQUAL : Addr) (w_LESS : Addr)  (h0 : Heap) (n0 : Nat) (v : Option Value) (h : Heap) (L : List Loc) : Prop := (v = some (.int (1 : Int32))) ∧ (Fr n0 L) ∧ (h = h0)
set_option maxRecDepth 65536 in
set_option maxHeartbeats 40000000 in
theorem low1 (l : Launch) (Z : State) (a0 : Array Value) (hw : ∀ d ∈ tables_1, d.before a0 Z = true) (ws : List Jvm.Cond) (w_GREATER_EQUAL : Addr) (w_GREATER : Addr) (w_LESS_EQUAL : Addr) (w_LESS : Addr) (G : Gst Z w_GREATER_EQUAL w_GREATER w_LESS_EQUAL w_LESS)  (h0 : Heap) (n0 : Nat) (O0 : Old Z n0 h0) :
    MetFree l (⟨"com/example/inert_quotient/inertquotient/prism/ProbabilityBound$Relation", "isLower", "()Z"⟩ : MethodName) (head1 (Jvm.Cond.code (⟨"com/example/inert_quotient/inertquotient/prism/ProbabilityBound$Relation", "isLower", "()Z"⟩ : MethodName) prog_65_method_4_code 1 (some .boolean) :: ws) ({ frames := 0, cells := 0, slots := 0, locals := 0 } : Room)) (fun a U => a = #[(.ref w_GREATER)] ∧ Z.Warmed39 U.vm ∧ U.heap = h0) (fun _ _ _ _ _ => True) (fun _ U o U' => ∃ v L, o = .returned v ∧ Q_low1 Z w_GREATER_EQUAL w_GREATER w_LESS_EQUAL w_LESS  h0 n0 v U'.heap L ∧ FrameEnd U o U' L ({ frames := 0, cells := 0, slots := 0, locals := 0 } : Room).cells ({ frames := 0, cells := 0, slots := 0, locals := 0 } : Room).slots) := by
  refine MetFree.of_bodySF (plainFor_of_name pn_0) hisR ?_
  intro p e s m args below meth c s₁ Bd hml0 hP hK
  obtain ⟨rfl, hZ, hh⟩ := hP
  have hx := Bd.exec
  have hby := Bd.bytes
  have hml : c.maxLocals = 1 := hml0
  have hown : s.vm.findClass "com/example/inert_quotient/inertquotient/prism/ProbabilityBound$Relation" = some m.cls := findClass_of_methodNamed Bd.named
  have hnm := (name_of_methodNamed Bd.named Bd.method).1
  have X0 : Stand p l e ({ frames := 0, cells := 0, slots := 0, locals := 0 } : Room) s m #[(.ref w_GREATER)] below meth c s₁ [] 0 0 := Stand.of_body Bd
  have e0 : s₁.heap = h0 := by rw [← hh, Bd.state]; rfl
  have N0 := Fr.nil n0
  obtain ⟨S_w_GREATER_EQUAL, E_w_GREATER_EQUAL, F_w_GREATER_EQUAL_ordinal, S_w_GREATER, E_w_GREATER, F_w_GREATER_ordinal, S_w_LESS_EQUAL, E_w_LESS_EQUAL, F_w_LESS_EQUAL_ordinal, S_w_LESS, E_w_LESS, F_w_LESS_ordinal⟩ := id G
  have k0 : Way p e below (s₁.setTop (entryFrame m #[(.ref w_GREATER)] 1)) s₁ (mkF m 0 #[rv w_GREATER] []) := fun t k => castTop (by first | (simp [entryFrame, mkF, argsToLocals, Value.category]; done) | rfl) k
  generalize s₁.setTop (entryFrame m #[(.ref w_GREATER)] 1) = S0 at k0 ⊢
  have k1 : Way p e below S0 s₁ (mkF m 1 #[rv w_GREATER] [(.ref w_GREATER)]) := by
    intro t k
    refine k0 t ?_
    refine XS.aloadN X0.here hx rfl (hb hby d_prog_65_method_4_code_0) rfl rfl ?_
    show Steps p.tables e below (s₁.setTop (mkF m 1 #[rv w_GREATER] [(.ref w_GREATER)])) _
    exact k
  obtain ⟨T2, X2, e2, st2⟩ := getS2 X0 hx hZ hown (host := "") (Or.inl (hw _ (List.mem_of_getElem? (i := 8) rfl))) Via.refl e0 (S_w_GREATER_EQUAL.ext O0.2) (g := (mkF m 1 #[rv w_GREATER] [(.ref w_GREATER)])) rfl (hb hby d_prog_65_method_4_code_1)
  have k3 : Way p e below S0 T2 (mkF m 4 #[rv w_GREATER] [(.ref w_GREATER_EQUAL), (.ref w_GREATER)]) := fun t k => k1 t (st2 _ k)
  have k4 : Way p e below S0 T2 (mkF m 8 #[rv w_GREATER] [(.ref w_GREATER)]) := by
    intro t k
    refine k3 t ?_
    refine Jvm.RoadKit.acmp (g := (mkF m 4 #[rv w_GREATER] [(.ref w_GREATER_EQUAL), (.ref w_GREATER)])) X2 hx rfl rfl rfl (pc0 := 4) (pc' := 7) (same := false) rfl (hb hby d_prog_65_method_4_code_4) rfl (decide_eq_false fun q => absurd (Value.ref.inj q) (F_w_GREATER_ordinal.ne F_w_GREATER_EQUAL_ordinal (by decide))) (by decide) (by decide) ?_
    show Steps p.tables e below (T2.setTop (mkF m 7 #[rv w_GREATER] [])) _
    refine XS.aloadN X2.here hx rfl (hb hby d_prog_65_method_4_code_7) rfl rfl ?_
    show Steps p.tables e below (T2.setTop (mkF m 8 #[rv w_GREATER] [(.ref w_GREATER)])) _
    exact k
  obtain ⟨T5, X5, e5, st5⟩ := getS2 X2 hx hZ hown (host := "") (Or.inl (hw _ (List.mem_of_getElem? (i := 42) rfl))) Via.refl e2 (S_w_GREATER.ext O0.2) (g := (mkF m 8 #[rv w_GREATER] [(.ref w_GREATER)])) rfl (hb hby d_prog_65_method_4_code_8)
  have k6 : Way p e below S0 T5 (mkF m 11 #[rv w_GREATER] [(.ref w_GREATER), (.ref w_GREATER)]) := fun t k => k4 t (st5 _ k)
  have k7 : Way p e below S0 T5 (mkF m 19 #[rv w_GREATER] [(.int (1 : Int32))]) := by
    intro t k
    refine k6 t ?_
    refine Jvm.RoadKit.acmp (g := (mkF m 11 #[rv w_GREATER] [(.ref w_GREATER), (.ref w_GREATER)])) X5 hx rfl rfl rfl (pc0 := 11) (pc' := 14) (same := true) rfl (hb hby d_prog_65_method_4_code_11) rfl (decide_eq_true rfl) (by decide) (by decide) ?_
    show Steps p.tables e below (T5.setTop (mkF m 14 #[rv w_GREATER] [])) _
    refine XS.iconst X5.here hx rfl (hb hby d_prog_65_method_4_code_14) ?_
    show Steps p.tables e below (T5.setTop (mkF m 15 #[rv w_GREATER] [(.int (1 : Int32))])) _
    refine XS.goto X5.here hx rfl (pc0 := 15) (pc' := 19) rfl (hb hby d_prog_65_method_4_code_15) (by decide) (by decide) ?_
    show Steps p.tables e below (T5.setTop (mkF m 19 #[rv w_GREATER] [(.int (1 : Int32))])) _
    exact k
  obtain ⟨fs, hr, hrun, hended, hW, hsame⟩ := X5.leave (v := some (.int (1 : Int32))) (fun h => by rw [Bd.returns] at h; cases h)
  refine ⟨_, _, k7 _ (retN X5 hx (t := .boolean) Bd.returns (by simp) (hb hby d_prog_65_method_4_code_19) hr), hrun, hended, _, _, rfl, ?_, ⟨_, rfl⟩, hW, hsame.mono (by decide) (by decide)⟩
  show Q_low1 Z w_GREATER_EQUAL w_GREATER w_LESS_EQUAL w_LESS  h0 n0 _ T5.heap _
  rw [e5]
  exact ⟨rfl, N0, rfl⟩
def Q_low2 (Z : State) (w_GREATER_EQUAL : Addr) (w_GREATER : Addr) (w_LESS_EQUAL : Addr) (w_LESS : Addr)  (h0 : Heap) (n0 : Nat) (v : Option Value) (h : Heap) (L : List Loc) : Prop := (v = some (.int (0 : Int32))) ∧ (Fr n0 L) ∧ (h = h0)
set_option maxRecDepth 65536 in
set_option maxHeartbeats 40000000 in
theorem low2 (l : Launch) (Z : State) (a0 : Array Value) (hw : ∀ d ∈ tables_1, d.before a0 Z = true) (ws : List Jvm.Cond) (w_GREATER_EQUAL : Addr) (w_GREATER : Addr) (w_LESS_EQUAL : Addr) (w_LESS : Addr) (G : Gst Z w_GREATER_EQUAL w_GREATER w_LESS_EQUAL w_LESS)  (h0 : Heap) (n0 : Nat) (O0 : Old Z n0 h0) :
    MetFree l (⟨"com/example/inert_quotient/inertquotient/prism/ProbabilityBound$Relation", "isLower", "()Z"⟩ : MethodName) (head1 (Jvm.Cond.code (⟨"com/example/inert_quotient/inertquotient/prism/ProbabilityBound$Relation", "isLower", "()Z"⟩ : MethodName) prog_65_method_4_code 1 (some .boolean) :: ws) ({ frames := 0, cells := 0, slots := 0, locals := 0 } : Room)) (fun a U => a = #[(.ref w_LESS_EQUAL)] ∧ Z.Warmed39 U.vm ∧ U.heap = h0) (fun _ _ _ _ _ => True) (fun _ U o U' => ∃ v L, o = .returned v ∧ Q_low2 Z w_GREATER_EQUAL w_GREATER w_LESS_EQUAL w_LESS  h0 n0 v U'.heap L ∧ FrameEnd U o U' L ({ frames := 0, cells := 0, slots := 0, locals := 0 } : Room).cells ({ frames := 0, cells := 0, slots := 0, locals := 0 } : Room).slots) := by
  refine MetFree.of_bodySF (plainFor_of_name pn_0) hisR ?_
  intro p e s m args below meth c s₁ Bd hml0 hP hK
  obtain ⟨rfl, hZ, hh⟩ := hP
  have hx := Bd.exec
  have hby := Bd.bytes
  have hml : c.maxLocals = 1 := hml0
  have hown : s.vm.findClass "com/example/inert_quotient/inertquotient/prism/ProbabilityBound$Relation" = some m.cls := findClass_of_methodNamed Bd.named
  have hnm := (name_of_methodNamed Bd.named Bd.method).1
  have X0 : Stand p l e ({ frames := 0, cells := 0, slots := 0, locals := 0 } : Room) s m #[(.ref w_LESS_EQUAL)] below meth c s₁ [] 0 0 := Stand.of_body Bd
  have e0 : s₁.heap = h0 := by rw [← hh, Bd.state]; rfl
  have N0 := Fr.nil n0
  obtain ⟨S_w_GREATER_EQUAL, E_w_GREATER_EQUAL, F_w_GREATER_EQUAL_ordinal, S_w_GREATER, E_w_GREATER, F_w_GREATER_ordinal, S_w_LESS_EQUAL, E_w_LESS_EQUAL, F_w_LESS_EQUAL_ordinal, S_w_LESS, E_w_LESS, F_w_LESS_ordinal⟩ := id G
  have k0 : Way p e below (s₁.setTop (entryFrame m #[(.ref w_LESS_EQUAL)] 1)) s₁ (mkF m 0 #[rv w_LESS_EQUAL] []) := fun t k => castTop (by first | (simp [entryFrame, mkF, argsToLocals, Value.category]; done) | rfl) k
  generalize s₁.setTop (entryFrame m #[(.ref w_LESS_EQUAL)] 1) = S0 at k0 ⊢
  have k1 : Way p e below S0 s₁ (mkF m 1 #[rv w_LESS_EQUAL] [(.ref w_LESS_EQUAL)]) := by
    intro t k
    refine k0 t ?_
    refine XS.aloadN X0.here hx rfl (hb hby d_prog_65_method_4_code_0) rfl rfl ?_
    show Steps p.tables e below (s₁.setTop (mkF m 1 #[rv w_LESS_EQUAL] [(.ref w_LESS_EQUAL)])) _
    exact k
  obtain ⟨T2, X2, e2, st2⟩ := getS2 X0 hx hZ hown (host := "") (Or.inl (hw _ (List.mem_of_getElem? (i := 8) rfl))) Via.refl e0 (S_w_GREATER_EQUAL.ext O0.2) (g := (mkF m 1 #[rv w_LESS_EQUAL] [(.ref w_LESS_EQUAL)])) rfl (hb hby d_prog_65_method_4_code_1)
  have k3 : Way p e below S0 T2 (mkF m 4 #[rv w_LESS_EQUAL] [(.ref w_GREATER_EQUAL), (.ref w_LESS_EQUAL)]) := fun t k => k1 t (st2 _ k)
  have k4 : Way p e below S0 T2 (mkF m 8 #[rv w_LESS_EQUAL] [(.ref w_LESS_EQUAL)]) := by
    intro t k
    refine k3 t ?_
    refine Jvm.RoadKit.acmp (g := (mkF m 4 #[rv w_LESS_EQUAL] [(.ref w_GREATER_EQUAL), (.ref w_LESS_EQUAL)])) X2 hx rfl rfl rfl (pc0 := 4) (pc' := 7) (same := false) rfl (hb hby d_prog_65_method_4_code_4) rfl (decide_eq_false fun q => absurd (Value.ref.inj q) (F_w_LESS_EQUAL_ordinal.ne F_w_GREATER_EQUAL_ordinal (by decide))) (by decide) (by decide) ?_
    show Steps p.tables e below (T2.setTop (mkF m 7 #[rv w_LESS_EQUAL] [])) _
    refine XS.aloadN X2.here hx rfl (hb hby d_prog_65_method_4_code_7) rfl rfl ?_
    show Steps p.tables e below (T2.setTop (mkF m 8 #[rv w_LESS_EQUAL] [(.ref w_LESS_EQUAL)])) _
    exact k
  obtain ⟨T5, X5, e5, st5⟩ := getS2 X2 hx hZ hown (host := "") (Or.inl (hw _ (List.mem_of_getElem? (i := 42) rfl))) Via.refl e2 (S_w_GREATER.ext O0.2) (g := (mkF m 8 #[rv w_LESS_EQUAL] [(.ref w_LESS_EQUAL)])) rfl (hb hby d_prog_65_method_4_code_8)
  have k6 : Way p e below S0 T5 (mkF m 11 #[rv w_LESS_EQUAL] [(.ref w_GREATER), (.ref w_LESS_EQUAL)]) := fun t k => k4 t (st5 _ k)
  have k7 : Way p e below S0 T5 (mkF m 19 #[rv w_LESS_EQUAL] [(.int (0 : Int32))]) := by
    intro t k
    refine k6 t ?_
    refine Jvm.RoadKit.acmp (g := (mkF m 11 #[rv w_LESS_EQUAL] [(.ref w_GREATER), (.ref w_LESS_EQUAL)])) X5 hx rfl rfl rfl (pc0 := 11) (pc' := 18) (same := false) rfl (hb hby d_prog_65_method_4_code_11) rfl (decide_eq_false fun q => absurd (Value.ref.inj q) (F_w_LESS_EQUAL_ordinal.ne F_w_GREATER_ordinal (by decide))) (by decide) (by decide) ?_
    show Steps p.tables e below (T5.setTop (mkF m 18 #[rv w_LESS_EQUAL] [])) _
    refine XS.iconst X5.here hx rfl (hb hby d_prog_65_method_4_code_18) ?_
    show Steps p.tables e below (T5.setTop (mkF m 19 #[rv w_LESS_EQUAL] [(.int (0 : Int32))])) _
    exact k
  obtain ⟨fs, hr, hrun, hended, hW, hsame⟩ := X5.leave (v := some (.int (0 : Int32))) (fun h => by rw [Bd.returns] at h; cases h)
  refine ⟨_, _, k7 _ (retN X5 hx (t := .boolean) Bd.returns (by simp) (hb hby d_prog_65_method_4_code_19) hr), hrun, hended, _, _, rfl, ?_, ⟨_, rfl⟩, hW, hsame.mono (by decide) (by decide)⟩
  show Q_low2 Z w_GREATER_EQUAL w_GREATER w_LESS_EQUAL w_LESS  h0 n0 _ T5.heap _
  rw [e5]
  exact ⟨rfl, N0, rfl⟩
def Q_low3 (Z : State) (w_GREATER_EQUAL : Addr) (w_GREATER : Addr) (w_LESS_EQUAL : Addr) (w_LESS : Addr)  (h0 : Heap) (n0 : Nat) (v : Option Value) (h : Heap) (L : List Loc) : Prop := (v = some (.int (0 : Int32))) ∧ (Fr n0 L) ∧ (h = h0)
set_option maxRecDepth 65536 in
set_option maxHeartbeats 40000000 in
theorem low3 (l : Launch) (Z : State) (a0 : Array Value) (hw : ∀ d ∈ tables_1, d.before a0 Z = true) (ws : List Jvm.Cond) (w_GREATER_EQUAL : Addr) (w_GREATER : Addr) (w_LESS_EQUAL : Addr) (w_LESS : Addr) (G : Gst Z w_GREATER_EQUAL w_GREATER w_LESS_EQUAL w_LESS)  (h0 : Heap) (n0 : Nat) (O0 : Old Z n0 h0) :
    MetFree l (⟨"com/example/inert_quotient/inertquotient/prism/ProbabilityBound$Relation", "isLower", "()Z"⟩ : MethodName) (head1 (Jvm.Cond.code (⟨"com/example/inert_quotient/inertquotient/prism/ProbabilityBound$Relation", "isLower", "()Z"⟩ : MethodName) prog_65_method_4_code 1 (some .boolean) :: ws) ({ frames := 0, cells := 0, slots := 0, locals := 0 } : Room)) (fun a U => a = #[(.ref w_LESS)] ∧ Z.Warmed39 U.vm ∧ U.heap = h0) (fun _ _ _ _ _ => True) (fun _ U o U' => ∃ v L, o = .returned v ∧ Q_low3 Z w_GREATER_EQUAL w_GREATER w_LESS_EQUAL w_LESS  h0 n0 v U'.heap L ∧ FrameEnd U o U' L ({ frames := 0, cells := 0, slots := 0, locals := 0 } : Room).cells ({ frames := 0, cells := 0, slots := 0, locals := 0 } : Room).slots) := by
  refine MetFree.of_bodySF (plainFor_of_name pn_0) hisR ?_
  intro p e s m args below meth c s₁ Bd hml0 hP hK
  obtain ⟨rfl, hZ, hh⟩ := hP
  have hx := Bd.exec
  have hby := Bd.bytes
  have hml : c.maxLocals = 1 := hml0
  have hown : s.vm.findClass "com/example/inert_quotient/inertquotient/prism/ProbabilityBound$Relation" = some m.cls := findClass_of_methodNamed Bd.named
  have hnm := (name_of_methodNamed Bd.named Bd.method).1
  have X0 : Stand p l e ({ frames := 0, cells := 0, slots := 0, locals := 0 } : Room) s m #[(.ref w_LESS)] below meth c s₁ [] 0 0 := Stand.of_body Bd
  have e0 : s₁.heap = h0 := by rw [← hh, Bd.state]; rfl
  have N0 := Fr.nil n0
  obtain ⟨S_w_GREATER_EQUAL, E_w_GREATER_EQUAL, F_w_GREATER_EQUAL_ordinal, S_w_GREATER, E_w_GREATER, F_w_GREATER_ordinal, S_w_LESS_EQUAL, E_w_LESS_EQUAL, F_w_LESS_EQUAL_ordinal, S_w_LESS, E_w_LESS, F_w_LESS_ordinal⟩ := id G
  have k0 : Way p e below (s₁.setTop (entryFrame m #[(.ref w_LESS)] 1)) s₁ (mkF m 0 #[rv w_LESS] []) := fun t k => castTop (by first | (simp [entryFrame, mkF, argsToLocals, Value.category]; done) | rfl) k
  generalize s₁.setTop (entryFrame m #[(.ref w_LESS)] 1) = S0 at k0 ⊢
  have k1 : Way p e below S0 s₁ (mkF m 1 #[rv w_LESS] [(.ref w_LESS)]) := by
    intro t k
    refine k0 t ?_
    refine XS.aloadN X0.here hx rfl (hb hby d_prog_65_method_4_code_0) rfl rfl ?_
    show Steps p.tables e below (s₁.setTop (mkF m 1 #[rv w_LESS] [(.ref w_LESS)])) _
    exact k
  obtain ⟨T2, X2, e2, st2⟩ := getS2 X0 hx hZ hown (host := "") (Or.inl (hw _ (List.mem_of_getElem? (i := 8) rfl))) Via.refl e0 (S_w_GREATER_EQUAL.ext O0.2) (g := (mkF m 1 #[rv w_LESS] [(.ref w_LESS)])) rfl (hb hby d_prog_65_method_4_code_1)
  have k3 : Way p e below S0 T2 (mkF m 4 #[rv w_LESS] [(.ref w_GREATER_EQUAL), (.ref w_LESS)]) := fun t k => k1 t (st2 _ k)
  have k4 : Way p e below S0 T2 (mkF m 8 #[rv w_LESS] [(.ref w_LESS)]) := by
    intro t k
    refine k3 t ?_
    refine Jvm.RoadKit.acmp (g := (mkF m 4 #[rv w_LESS] [(.ref w_GREATER_EQUAL), (.ref w_LESS)])) X2 hx rfl rfl rfl (pc0 := 4) (pc' := 7) (same := false) rfl (hb hby d_prog_65_method_4_code_4) rfl (decide_eq_false fun q => absurd (Value.ref.inj q) (F_w_LESS_ordinal.ne F_w_GREATER_EQUAL_ordinal (by decide))) (by decide) (by decide) ?_
    show Steps p.tables e below (T2.setTop (mkF m 7 #[rv w_LESS] [])) _
    refine XS.aloadN X2.here hx rfl (hb hby d_prog_65_method_4_code_7) rfl rfl ?_
    show Steps p.tables e below (T2.setTop (mkF m 8 #[rv w_LESS] [(.ref w_LESS)])) _
    exact k
  obtain ⟨T5, X5, e5, st5⟩ := getS2 X2 hx hZ hown (host := "") (Or.inl (hw _ (List.mem_of_getElem? (i := 42) rfl))) Via.refl e2 (S_w_GREATER.ext O0.2) (g := (mkF m 8 #[rv w_LESS] [(.ref w_LESS)])) rfl (hb hby d_prog_65_method_4_code_8)
  have k6 : Way p e below S0 T5 (mkF m 11 #[rv w_LESS] [(.ref w_GREATER), (.ref w_LESS)]) := fun t k => k4 t (st5 _ k)
  have k7 : Way p e below S0 T5 (mkF m 19 #[rv w_LESS] [(.int (0 : Int32))]) := by
    intro t k
    refine k6 t ?_
    refine Jvm.RoadKit.acmp (g := (mkF m 11 #[rv w_LESS] [(.ref w_GREATER), (.ref w_LESS)])) X5 hx rfl rfl rfl (pc0 := 11) (pc' := 18) (same := false) rfl (hb hby d_prog_65_method_4_code_11) rfl (decide_eq_false fun q => absurd (Value.ref.inj q) (F_w_LESS_ordinal.ne F_w_GREATER_ordinal (by decide))) (by decide) (by decide) ?_
    show Steps p.tables e below (T5.setTop (mkF m 18 #[rv w_LESS] [])) _
    refine XS.iconst X5.here hx rfl (hb hby d_prog_65_method_4_code_18) ?_
    show Steps p.tables e below (T5.setTop (mkF m 19 #[rv w_LESS] [(.int (0 : Int32))])) _
    exact k
  obtain ⟨fs, hr, hrun, hended, hW, hsame⟩ := X5.leave (v := some (.int (0 : Int32))) (fun h => by rw [Bd.returns] at h; cases h)
  refine ⟨_, _, k7 _ (retN X5 hx (t := .boolean) Bd.returns (by simp) (hb hby d_prog_65_method_4_code_19) hr), hrun, hended, _, _, rfl, ?_, ⟨_, rfl⟩, hW, hsame.mono (by decide) (by decide)⟩
  show Q_low3 Z w_GREATER_EQUAL w_GREATER w_LESS_EQUAL w_LESS  h0 n0 _ T5.heap _
  rw [e5]
  exact ⟨rfl, N0, rfl⟩
def Q_ord (Z : State) (w_GREATER_EQUAL : Addr) (w_GREATER : Addr) (w_LESS_EQUAL : Addr) (w_LESS : Addr) (a1 : Addr) (q1 : Int32) (h0 : Heap) (n0 : Nat) (v : Option Value) (h : Heap) (L : List Loc) : Prop := (v = some (.int q1)) ∧ (Fr n0 L) ∧ (h = h0)
set_option maxRecDepth 65536 in
set_option maxHeartbeats 40000000 in
theorem ord (l : Launch) (Z : State) (a0 : Array Value) (hw : ∀ d ∈ tables_1, d.before a0 Z = true) (ws : List Jvm.Cond) (w_GREATER_EQUAL : Addr) (w_GREATER : Addr) (w_LESS_EQUAL : Addr) (w_LESS : Addr) (G : Gst Z w_GREATER_EQUAL w_GREATER w_LESS_EQUAL w_LESS) (a1 : Addr) (q1 : Int32) (h0 : Heap) (n0 : Nat) (O0 : Old Z n0 h0) (a_0 : Fld Z h0 a1 "java/lang/Enum" "ordinal" "I" (.int q1)) :
    MetFree l (⟨"java/lang/Enum", "ordinal", "()I"⟩ : MethodName) (head1 (Jvm.Cond.code (⟨"java/lang/Enum", "ordinal", "()I"⟩ : MethodName) jdk_37_method_2_code 1 (some .int) :: ws) ({ frames := 0, cells := 0, slots := 0, locals := 0 } : Room)) (fun a U => a = #[(.ref a1)] ∧ Z.Warmed39 U.vm ∧ U.heap = h0) (fun _ _ _ _ _ => True) (fun _ U o U' => ∃ v L, o = .returned v ∧ Q_ord Z w_GREATER_EQUAL w_GREATER w_LESS_EQUAL w_LESS a1 q1 h0 n0 v U'.heap L ∧ FrameEnd U o U' L ({ frames := 0, cells := 0, slots := 0, locals := 0 } : Room).cells ({ frames := 0, cells := 0, slots := 0, locals := 0 } : Room).slots) := by
  refine MetFree.of_bodySF (plainFor_of_name pn_1) hisR ?_
  intro p e s m args below meth c s₁ Bd hml0 hP hK
  obtain ⟨rfl, hZ, hh⟩ := hP
  have hx := Bd.exec
  have hby := Bd.bytes
  have hml : c.maxLocals = 1 := hml0
  have hown : s.vm.findClass "java/lang/Enum" = some m.cls := findClass_of_methodNamed Bd.named
  have hnm := (name_of_methodNamed Bd.named Bd.method).1
  have X0 : Stand p l e ({ frames := 0, cells := 0, slots := 0, locals := 0 } : Room) s m #[(.ref a1)] below meth c s₁ [] 0 0 := Stand.of_body Bd
  have e0 : s₁.heap = h0 := by rw [← hh, Bd.state]; rfl
  have N0 := Fr.nil n0
  obtain ⟨S_w_GREATER_EQUAL, E_w_GREATER_EQUAL, F_w_GREATER_EQUAL_ordinal, S_w_GREATER, E_w_GREATER, F_w_GREATER_ordinal, S_w_LESS_EQUAL, E_w_LESS_EQUAL, F_w_LESS_EQUAL_ordinal, S_w_LESS, E_w_LESS, F_w_LESS_ordinal⟩ := id G
  have k0 : Way p e below (s₁.setTop (entryFrame m #[(.ref a1)] 1)) s₁ (mkF m 0 #[rv a1] []) := fun t k => castTop (by first | (simp [entryFrame, mkF, argsToLocals, Value.category]; done) | rfl) k
  generalize s₁.setTop (entryFrame m #[(.ref a1)] 1) = S0 at k0 ⊢
  have k1 : Way p e below S0 s₁ (mkF m 1 #[rv a1] [(.ref a1)]) := by
    intro t k
    refine k0 t ?_
    refine XS.aloadN X0.here hx rfl (hb hby d_jdk_37_method_2_code_0) rfl rfl ?_
    show Steps p.tables e below (s₁.setTop (mkF m 1 #[rv a1] [(.ref a1)])) _
    exact k
  obtain ⟨T2, X2, e2, st2⟩ := getF X0 hx hZ hown (host := "") (Or.inl (hw _ (List.mem_of_getElem? (i := 38) rfl))) Via.refl e0 a_0 (g := (mkF m 1 #[rv a1] [(.ref a1)])) rfl rfl (hb hby d_jdk_37_method_2_code_1)
  have k3 : Way p e below S0 T2 (mkF m 4 #[rv a1] [(.int q1)]) := fun t k => k1 t (st2 _ k)
  obtain ⟨fs, hr, hrun, hended, hW, hsame⟩ := X2.leave (v := some (.int q1)) (fun h => by rw [Bd.returns] at h; cases h)
  refine ⟨_, _, k3 _ (retOut X2 hx Bd.returns rfl (Or.inl ⟨rfl, Or.inl rfl, _, rfl⟩) (hb hby d_jdk_37_method_2_code_4) hr), hrun, hended, _, _, rfl, ?_, ⟨_, rfl⟩, hW, hsame.mono (by decide) (by decide)⟩
  show Q_ord Z w_GREATER_EQUAL w_GREATER w_LESS_EQUAL w_LESS a1 q1 h0 n0 _ T2.heap _
  rw [e2]
  exact ⟨rfl, N0, rfl⟩
def Q_init (Z : State) (w_GREATER_EQUAL : Addr) (w_GREATER : Addr) (w_LESS_EQUAL : Addr) (w_LESS : Addr) (a1 : Addr) (a2 : Addr) (h0 : Heap) (n0 : Nat) (v : Option Value) (h : Heap) (L : List Loc) : Prop := (v = none) ∧ (Fr n0 L) ∧ (Keep h0 h [a1]) ∧ (Exa Z h a1 "com/example/inert_quotient/inertquotient/prism/ProbabilityBound") ∧ (Fld Z h a1 "com/example/inert_quotient/inertquotient/prism/ProbabilityBound" "relation" "Lcom/example/inert_quotient/inertquotient/prism/ProbabilityBound$Relation;" (.ref a2)) ∧ (Fld Z h a1 "com/example/inert_quotient/inertquotient/prism/ProbabilityBound" "probability" "D" (.double (0 : UInt64)))
set_option maxRecDepth 65536 in
set_option maxHeartbeats 40000000 in
theorem init (l : Launch) (Z : State) (a0 : Array Value) (hw : ∀ d ∈ tables_1, d.before a0 Z = true) (ws : List Jvm.Cond) (w_GREATER_EQUAL : Addr) (w_GREATER : Addr) (w_LESS_EQUAL : Addr) (w_LESS : Addr) (G : Gst Z w_GREATER_EQUAL w_GREATER w_LESS_EQUAL w_LESS) (a1 : Addr) (a2 : Addr) (h0 : Heap) (n0 : Nat) (O0 : Old Z n0 h0) (a_0 : Exa Z h0 a1 "com/example/inert_quotient/inertquotient/prism/ProbabilityBound") (a_1 : Fld Z h0 a1 "com/example/inert_quotient/inertquotient/prism/ProbabilityBound" "relation" "Lcom/example/inert_quotient/inertquotient/prism/ProbabilityBound$Relation;" .null) (a_2 : Fld Z h0 a1 "com/example/inert_quotient/inertquotient/prism/ProbabilityBound" "probability" "D" (.double (0 : UInt64))) (ga1 : n0 ≤ a1) :
    MetFree l (⟨"com/example/inert_quotient/inertquotient/prism/ProbabilityBound", "<init>", "(Lcom/example/inert_quotient/inertquotient/prism/ProbabilityBound$Relation;D)V"⟩ : MethodName) (head1 (Jvm.Cond.code (⟨"com/example/inert_quotient/inertquotient/prism/ProbabilityBound", "<init>", "(Lcom/example/inert_quotient/inertquotient/prism/ProbabilityBound$Relation;D)V"⟩ : MethodName) prog_64_method_1_code 4 none :: ws) ({ frames := 1, cells := 0, slots := 0, locals := 12 } : Room)) (fun a U => a = #[(.ref a1), (.ref a2), (.double (0 : UInt64))] ∧ Z.Warmed39 U.vm ∧ U.heap = h0) (fun _ _ _ _ _ => True) (fun _ U o U' => ∃ v L, o = .returned v ∧ Q_init Z w_GREATER_EQUAL w_GREATER w_LESS_EQUAL w_LESS a1 a2 h0 n0 v U'.heap L ∧ FrameEnd U o U' L ({ frames := 1, cells := 0, slots := 0, locals := 12 } : Room).cells ({ frames := 1, cells := 0, slots := 0, locals := 12 } : Room).slots) := by
  refine MetFree.of_bodySF (plainFor_of_name pn_2) hisR ?_
  intro p e s m args below meth c s₁ Bd hml0 hP hK
  obtain ⟨rfl, hZ, hh⟩ := hP
  have hx := Bd.exec
  have hby := Bd.bytes
  have hml : c.maxLocals = 4 := hml0
  have hown : s.vm.findClass "com/example/inert_quotient/inertquotient/prism/ProbabilityBound" = some m.cls := findClass_of_methodNamed Bd.named
  have hnm := (name_of_methodNamed Bd.named Bd.method).1
  have X0 : Stand p l e ({ frames := 1, cells := 0, slots := 0, locals := 12 } : Room) s m #[(.ref a1), (.ref a2), (.double (0 : UInt64))] below meth c s₁ [] 0 0 := Stand.of_body Bd
  have e0 : s₁.heap = h0 := by rw [← hh, Bd.state]; rfl
  have N0 := Fr.nil n0
  obtain ⟨S_w_GREATER_EQUAL, E_w_GREATER_EQUAL, F_w_GREATER_EQUAL_ordinal, S_w_GREATER, E_w_GREATER, F_w_GREATER_ordinal, S_w_LESS_EQUAL, E_w_LESS_EQUAL, F_w_LESS_EQUAL_ordinal, S_w_LESS, E_w_LESS, F_w_LESS_ordinal⟩ := id G
  have k0 : Way p e below (s₁.setTop (entryFrame m #[(.ref a1), (.ref a2), (.double (0 : UInt64))] 4)) s₁ (mkF m 0 #[rv a1, rv a2, .val (.double (0 : UInt64)), .second] []) := fun t k => castTop (by first | (simp [entryFrame, mkF, argsToLocals, Value.category]; done) | rfl) k
  generalize s₁.setTop (entryFrame m #[(.ref a1), (.ref a2), (.double (0 : UInt64))] 4) = S0 at k0 ⊢
  have k1 : Way p e below S0 s₁ (mkF m 1 #[rv a1, rv a2, .val (.double (0 : UInt64)), .second] [(.ref a1)]) := by
    intro t k
    refine k0 t ?_
    refine XS.aloadN X0.here hx rfl (hb hby d_prog_64_method_1_code_0) rfl rfl ?_
    show Steps p.tables e below (s₁.setTop (mkF m 1 #[rv a1, rv a2, .val (.double (0 : UInt64)), .second] [(.ref a1)])) _
    exact k
  obtain ⟨T2, X2, e2, st2⟩ := initO X0 hx hZ hown (hw _ (List.mem_of_getElem? (i := 15) rfl)) (hw _ (List.mem_of_getElem? (i := 16) rfl)) (hw _ (List.mem_of_getElem? (i := 17) rfl)) e0 (g := (mkF m 1 #[rv a1, rv a2, .val (.double (0 : UInt64)), .second] [(.ref a1)])) rfl (by rw [hml]; rfl) rfl (hb hby d_prog_64_method_1_code_1) (by decide) (W := 0) (by show 2 * 0 + _ ≤ _; exact Nat.le_of_eq rfl) (by decide)
  have k3 : Way p e below S0 T2 (mkF m 4 #[rv a1, rv a2, .val (.double (0 : UInt64)), .second] []) := fun t k => k1 t (st2 _ k)
  have k4 : Way p e below S0 T2 (mkF m 6 #[rv a1, rv a2, .val (.double (0 : UInt64)), .second] [(.ref a2), (.ref a1)]) := by
    intro t k
    refine k3 t ?_
    refine XS.aloadN X2.here hx rfl (hb hby d_prog_64_method_1_code_4) rfl rfl ?_
    show Steps p.tables e below (T2.setTop (mkF m 5 #[rv a1, rv a2, .val (.double (0 : UInt64)), .second] [(.ref a1)])) _
    refine XS.aloadN X2.here hx rfl (hb hby d_prog_64_method_1_code_5) rfl rfl ?_
    show Steps p.tables e below (T2.setTop (mkF m 6 #[rv a1, rv a2, .val (.double (0 : UInt64)), .second] [(.ref a2), (.ref a1)])) _
    exact k
  obtain ⟨T5, h5, X5, e5, W5, st5⟩ := putF X2 hx hZ hown (host := "") (Or.inl (hw _ (List.mem_of_getElem? (i := 18) rfl))) Via.refl e2 a_1 a_0 (Or.inr ⟨(hw _ (List.mem_of_getElem? (i := 19) rfl)), rfl, hnm⟩) (hw _ (List.mem_of_getElem? (i := 10) rfl)) (ty := (.object "com/example/inert_quotient/inertquotient/prism/ProbabilityBound$Relation")) (by decide) rfl rfl (g := (mkF m 6 #[rv a1, rv a2, .val (.double (0 : UInt64)), .second] [(.ref a2), (.ref a1)])) rfl rfl (hb hby d_prog_64_method_1_code_6)
  have O5 := O0.wr W5 ga1
  have N5 := Fr.snoc X5 N0 ga1
  have K5 : Keep h0 h5 [a1] := (Keep.refl h0 [a1]).wr W5 (Or.inl (List.mem_of_getElem? (i := 0) rfl))
  have fw5 : Fld Z h5 a1 "com/example/inert_quotient/inertquotient/prism/ProbabilityBound" "relation" "Lcom/example/inert_quotient/inertquotient/prism/ProbabilityBound$Relation;" (.ref a2) := a_1.same W5
  have k6 : Way p e below S0 T5 (mkF m 9 #[rv a1, rv a2, .val (.double (0 : UInt64)), .second] []) := fun t k => k4 t (st5 _ k)
  have k7 : Way p e below S0 T5 (mkF m 11 #[rv a1, rv a2, .val (.double (0 : UInt64)), .second] [(.double (0 : UInt64)), (.ref a1)]) := by
    intro t k
    refine k6 t ?_
    refine XS.aloadN X5.here hx rfl (hb hby d_prog_64_method_1_code_9) rfl rfl ?_
    show Steps p.tables e below (T5.setTop (mkF m 10 #[rv a1, rv a2, .val (.double (0 : UInt64)), .second] [(.ref a1)])) _
    refine XS.dloadN X5.here hx rfl (hb hby d_prog_64_method_1_code_10) rfl ?_
    show Steps p.tables e below (T5.setTop (mkF m 11 #[rv a1, rv a2, .val (.double (0 : UInt64)), .second] [(.double (0 : UInt64)), (.ref a1)])) _
    exact k
  have f8 : Fld Z h5 a1 "com/example/inert_quotient/inertquotient/prism/ProbabilityBound" "probability" "D" (.double (0 : UInt64)) := (a_2.other W5 (Or.inr (slot_ne (Or.inr (hw _ (List.mem_of_getElem? (i := 21) rfl))) (Or.inr (hw _ (List.mem_of_getElem? (i := 19) rfl))) (by decide) (t := .double) (t' := (.object "com/example/inert_quotient/inertquotient/prism/ProbabilityBound$Relation")) (by decide) (by decide))))
  have f9 : Exa Z h5 a1 "com/example/inert_quotient/inertquotient/prism/ProbabilityBound" := (a_0.wr W5)
  obtain ⟨T10, h10, X10, e10, W10, st10⟩ := putF X5 hx hZ hown (host := "") (Or.inl (hw _ (List.mem_of_getElem? (i := 20) rfl))) Via.refl e5 f8 f9 (Or.inr ⟨(hw _ (List.mem_of_getElem? (i := 21) rfl)), rfl, hnm⟩) (hw _ (List.mem_of_getElem? (i := 10) rfl)) (ty := .double) (by decide) rfl rfl (g := (mkF m 11 #[rv a1, rv a2, .val (.double (0 : UInt64)), .second] [(.double (0 : UInt64)), (.ref a1)])) rfl rfl (hb hby d_prog_64_method_1_code_11)
  have O10 := O5.wr W10 ga1
  have N10 := Fr.snoc X10 N5 ga1
  have K10 : Keep h0 h10 [a1] := K5.wr W10 (Or.inl (List.mem_of_getElem? (i := 0) rfl))
  have fw10 : Fld Z h10 a1 "com/example/inert_quotient/inertquotient/prism/ProbabilityBound" "probability" "D" (.double (0 : UInt64)) := f8.same W10
  have k11 : Way p e below S0 T10 (mkF m 14 #[rv a1, rv a2, .val (.double (0 : UInt64)), .second] []) := fun t k => k7 t (st10 _ k)
  obtain ⟨fs, hr, hrun, hended, hW, hsame⟩ := X10.leave (v := none) (fun _ => rfl)
  have f12 : Exa Z h10 a1 "com/example/inert_quotient/inertquotient/prism/ProbabilityBound" := (f9.wr W10)
  have f13 : Fld Z h10 a1 "com/example/inert_quotient/inertquotient/prism/ProbabilityBound" "relation" "Lcom/example/inert_quotient/inertquotient/prism/ProbabilityBound$Relation;" (.ref a2) := (fw5.other W10 (Or.inr (slot_ne (Or.inr (hw _ (List.mem_of_getElem? (i := 19) rfl))) (Or.inr (hw _ (List.mem_of_getElem? (i := 21) rfl))) (by decide) (t := (.object "com/example/inert_quotient/inertquotient/prism/ProbabilityBound$Relation")) (t' := .double) (by decide) (by decide))))
  refine ⟨_, _, k11 _ (X10.returnOut hx Bd.returns (hb hby d_prog_64_method_1_code_14) hr), hrun, hended, _, _, rfl, ?_, ⟨_, rfl⟩, hW, hsame.mono (by decide) (by decide)⟩
  show Q_init Z w_GREATER_EQUAL w_GREATER w_LESS_EQUAL w_LESS a1 a2 h0 n0 _ T10.heap _
  rw [e10]
  exact ⟨rfl, N10, K10, f12, f13, fw10⟩
def Q_met0 (Z : State) (w_GREATER_EQUAL : Addr) (w_GREATER : Addr) (w_LESS_EQUAL : Addr) (w_LESS : Addr) (a1 : Addr) (h0 : Heap) (n0 : Nat) (v : Option Value) (h : Heap) (L : List Loc) : Prop := (v = some (.int (1 : Int32))) ∧ (Fr n0 L) ∧ (h = h0)
set_option maxRecDepth 65536 in
set_option maxHeartbeats 40000000 in
theorem met0 (l : Launch) (Z : State) (a0 : Array Value) (hw : ∀ d ∈ tables_1, d.before a0 Z = true) (ws : List Jvm.Cond) (w_GREATER_EQUAL : Addr) (w_GREATER : Addr) (w_LESS_EQUAL : Addr) (w_LESS : Addr) (G : Gst Z w_GREATER_EQUAL w_GREATER w_LESS_EQUAL w_LESS) (a1 : Addr) (h0 : Heap) (n0 : Nat) (O0 : Old Z n0 h0) (a_0 : Fld Z h0 a1 "com/example/inert_quotient/inertquotient/prism/ProbabilityBound" "relation" "Lcom/example/inert_quotient/inertquotient/prism/ProbabilityBound$Relation;" (.ref w_GREATER_EQUAL)) (a_1 : Fld Z h0 a1 "com/example/inert_quotient/inertquotient/prism/ProbabilityBound" "probability" "D" (.double (0 : UInt64))) :
    MetFree l (⟨"com/example/inert_quotient/inertquotient/prism/ProbabilityBound", "isMetBy", "(DD)Z"⟩ : MethodName) (head1 (Jvm.Cond.code (⟨"com/example/inert_quotient/inertquotient/prism/ProbabilityBound", "isMetBy", "(DD)Z"⟩ : MethodName) prog_64_method_5_code 6 (some .boolean) :: ws) ({ frames := 1, cells := 0, slots := 0, locals := 13 } : Room)) (fun a U => a = #[(.ref a1), (.double (4607182418800017408 : UInt64)), (.double (0 : UInt64))] ∧ Z.Warmed39 U.vm ∧ U.heap = h0) (fun _ _ _ _ _ => True) (fun _ U o U' => ∃ v L, o = .returned v ∧ Q_met0 Z w_GREATER_EQUAL w_GREATER w_LESS_EQUAL w_LESS a1 h0 n0 v U'.heap L ∧ FrameEnd U o U' L ({ frames := 1, cells := 0, slots := 0, locals := 13 } : Room).cells ({ frames := 1, cells := 0, slots := 0, locals := 13 } : Room).slots) := by
  refine MetFree.of_bodySF (plainFor_of_name pn_2) hisR ?_
  intro p e s m args below meth c s₁ Bd hml0 hP hK
  obtain ⟨rfl, hZ, hh⟩ := hP
  have hx := Bd.exec
  have hby := Bd.bytes
  have hml : c.maxLocals = 6 := hml0
  have hown : s.vm.findClass "com/example/inert_quotient/inertquotient/prism/ProbabilityBound" = some m.cls := findClass_of_methodNamed Bd.named
  have hnm := (name_of_methodNamed Bd.named Bd.method).1
  have X0 : Stand p l e ({ frames := 1, cells := 0, slots := 0, locals := 13 } : Room) s m #[(.ref a1), (.double (4607182418800017408 : UInt64)), (.double (0 : UInt64))] below meth c s₁ [] 0 0 := Stand.of_body Bd
  have e0 : s₁.heap = h0 := by rw [← hh, Bd.state]; rfl
  have N0 := Fr.nil n0
  obtain ⟨S_w_GREATER_EQUAL, E_w_GREATER_EQUAL, F_w_GREATER_EQUAL_ordinal, S_w_GREATER, E_w_GREATER, F_w_GREATER_ordinal, S_w_LESS_EQUAL, E_w_LESS_EQUAL, F_w_LESS_EQUAL_ordinal, S_w_LESS, E_w_LESS, F_w_LESS_ordinal⟩ := id G
  have k0 : Way p e below (s₁.setTop (entryFrame m #[(.ref a1), (.double (4607182418800017408 : UInt64)), (.double (0 : UInt64))] 6)) s₁ (mkF m 0 #[rv a1, .val (.double (4607182418800017408 : UInt64)), .second, .val (.double (0 : UInt64)), .second, .unset] []) := fun t k => castTop (by first | (simp [entryFrame, mkF, argsToLocals, Value.category]; done) | rfl) k
  generalize s₁.setTop (entryFrame m #[(.ref a1), (.double (4607182418800017408 : UInt64)), (.double (0 : UInt64))] 6) = S0 at k0 ⊢
  have k1 : Way p e below S0 s₁ (mkF m 2 #[rv a1, .val (.double (4607182418800017408 : UInt64)), .second, .val (.double (0 : UInt64)), .second, .unset] [(.ref a1), (.double (4607182418800017408 : UInt64))]) := by
    intro t k
    refine k0 t ?_
    refine XS.dloadN X0.here hx rfl (hb hby d_prog_64_method_5_code_0) rfl ?_
    show Steps p.tables e below (s₁.setTop (mkF m 1 #[rv a1, .val (.double (4607182418800017408 : UInt64)), .second, .val (.double (0 : UInt64)), .second, .unset] [(.double (4607182418800017408 : UInt64))])) _
    refine XS.aloadN X0.here hx rfl (hb hby d_prog_64_method_5_code_1) rfl rfl ?_
    show Steps p.tables e below (s₁.setTop (mkF m 2 #[rv a1, .val (.double (4607182418800017408 : UInt64)), .second, .val (.double (0 : UInt64)), .second, .unset] [(.ref a1), (.double (4607182418800017408 : UInt64))])) _
    exact k
  obtain ⟨T2, X2, e2, st2⟩ := getF X0 hx hZ hown (host := "") (Or.inl (hw _ (List.mem_of_getElem? (i := 20) rfl))) Via.refl e0 a_1 (g := (mkF m 2 #[rv a1, .val (.double (4607182418800017408 : UInt64)), .second, .val (.double (0 : UInt64)), .second, .unset] [(.ref a1), (.double (4607182418800017408 : UInt64))])) rfl rfl (hb hby d_prog_64_method_5_code_2)
  have k3 : Way p e below S0 T2 (mkF m 5 #[rv a1, .val (.double (4607182418800017408 : UInt64)), .second, .val (.double (0 : UInt64)), .second, .unset] [(.double (0 : UInt64)), (.double (4607182418800017408 : UInt64))]) := fun t k => k1 t (st2 _ k)
  have k4 : Way p e below S0 T2 (mkF m 6 #[rv a1, .val (.double (4607182418800017408 : UInt64)), .second, .val (.double (0 : UInt64)), .second, .unset] [(.double (4607182418800017408 : UInt64))]) := by
    intro t k
    refine k3 t ?_
    refine XS.dsubS X2.here hx rfl (hb hby d_prog_64_method_5_code_5) rfl (v := (4607182418800017408 : UInt64)) (show FP.dsub (4607182418800017408 : UInt64) (0 : UInt64) &&& 0x7fffffffffffffff ≤ 0x7ff0000000000000 by decide +kernel) (by decide +kernel) ?_
    show Steps p.tables e below (T2.setTop (mkF m 6 #[rv a1, .val (.double (4607182418800017408 : UInt64)), .second, .val (.double (0 : UInt64)), .second, .unset] [(.double (4607182418800017408 : UInt64))])) _
    exact k
  obtain ⟨v5, vm5, B5, -, X5, ⟨hB5, hv5⟩, st5⟩ := Jvm.LawKit.callS X2 hx (y := (⟨"java/lang/Math", "abs", "(D)D"⟩ : MethodName)) hown (mvT hZ (hw _ (List.mem_of_getElem? (i := 27) rfl))) (mvT hZ (hw _ (List.mem_of_getElem? (i := 28) rfl))) (mvT hZ (hw _ (List.mem_of_getElem? (i := 29) rfl))) (mvT hZ (hw _ (List.mem_of_getElem? (i := 30) rfl))) (by decide) (Jvm.Free.NT.Abs64.pays (W := 0) (mvT hZ (hw _ (List.mem_of_getElem? (i := 30) rfl))) (mvT hZ (hw _ (List.mem_of_getElem? (i := 28) rfl))) (by decide) (by decide)) (g := (mkF m 6 #[rv a1, .val (.double (4607182418800017408 : UInt64)), .second, .val (.double (0 : UInt64)), .second, .unset] [(.double (4607182418800017408 : UInt64))])) rfl (by rw [hml]; rfl) (argsL := [(.double (4607182418800017408 : UInt64))]) (rest := []) (lenOf pd_0 rfl) rfl (by show 2 * 0 + _ ≤ _; exact Nat.le_of_eq rfl) (hb hby d_prog_64_method_5_code_6) (fun _ _ => ⟨(4607182418800017408 : UInt64), rfl, by decide⟩)
  have hv5' := hv5 (4607182418800017408 : UInt64) ⟨rfl, by decide⟩
  subst hB5 hv5'
  dsimp only [Pt.U, Pt.locs, Pt.cells, Pt.slots] at X5 st5
  have e5 : (T2.setVm vm5).heap = h0 := e2
  have k6 : Way p e below S0 (T2.setVm vm5) (mkF m 9 #[rv a1, .val (.double (4607182418800017408 : UInt64)), .second, .val (.double (0 : UInt64)), .second, .unset] [(.double (4607182418800017408 : UInt64))]) := fun t k => k4 t (st5 _ k)
  have k7 : Way p e below S0 (T2.setVm vm5) (mkF m 11 #[rv a1, .val (.double (4607182418800017408 : UInt64)), .second, .val (.double (0 : UInt64)), .second, .unset] [(.ref a1), (.double (0 : UInt64)), (.double (4607182418800017408 : UInt64))]) := by
    intro t k
    refine k6 t ?_
    refine XS.dloadN X5.here hx rfl (hb hby d_prog_64_method_5_code_9) rfl ?_
    show Steps p.tables e below ((T2.setVm vm5).setTop (mkF m 10 #[rv a1, .val (.double (4607182418800017408 : UInt64)), .second, .val (.double (0 : UInt64)), .second, .unset] [(.double (0 : UInt64)), (.double (4607182418800017408 : UInt64))])) _
    refine XS.aloadN X5.here hx rfl (hb hby d_prog_64_method_5_code_10) rfl rfl ?_
    show Steps p.tables e below ((T2.setVm vm5).setTop (mkF m 11 #[rv a1, .val (.double (4607182418800017408 : UInt64)), .second, .val (.double (0 : UInt64)), .second, .unset] [(.ref a1), (.double (0 : UInt64)), (.double (4607182418800017408 : UInt64))])) _
    exact k
  obtain ⟨T8, X8, e8, st8⟩ := getF X5 hx hZ hown (host := "") (Or.inl (hw _ (List.mem_of_getElem? (i := 20) rfl))) Via.refl e5 a_1 (g := (mkF m 11 #[rv a1, .val (.double (4607182418800017408 : UInt64)), .second, .val (.double (0 : UInt64)), .second, .unset] [(.ref a1), (.double (0 : UInt64)), (.double (4607182418800017408 : UInt64))])) rfl rfl (hb hby d_prog_64_method_5_code_11)
  have k9 : Way p e below S0 T8 (mkF m 14 #[rv a1, .val (.double (4607182418800017408 : UInt64)), .second, .val (.double (0 : UInt64)), .second, .unset] [(.double (0 : UInt64)), (.double (0 : UInt64)), (.double (4607182418800017408 : UInt64))]) := fun t k => k7 t (st8 _ k)
  have k10 : Way p e below S0 T8 (mkF m 27 #[rv a1, .val (.double (4607182418800017408 : UInt64)), .second, .val (.double (0 : UInt64)), .second, iv (0 : Int32)] [(.ref a1)]) := by
    intro t k
    refine k9 t ?_
    refine XS.dmulS X8.here hx rfl (hb hby d_prog_64_method_5_code_14) rfl (v := (0 : UInt64)) (show FP.dmul (0 : UInt64) (0 : UInt64) &&& 0x7fffffffffffffff ≤ 0x7ff0000000000000 by decide +kernel) (by decide +kernel) ?_
    show Steps p.tables e below (T8.setTop (mkF m 15 #[rv a1, .val (.double (4607182418800017408 : UInt64)), .second, .val (.double (0 : UInt64)), .second, .unset] [(.double (0 : UInt64)), (.double (4607182418800017408 : UInt64))])) _
    refine XS.dcmpS X8.here hx rfl (hb hby d_prog_64_method_5_code_15) rfl (v := (1 : Int32)) (by decide +kernel) ?_
    show Steps p.tables e below (T8.setTop (mkF m 16 #[rv a1, .val (.double (4607182418800017408 : UInt64)), .second, .val (.double (0 : UInt64)), .second, .unset] [(.int (1 : Int32))])) _
    refine XS.ifYes X8.here hx rfl (pc0 := 16) (pc' := 23) rfl (hb hby d_prog_64_method_5_code_16) rfl ((if0 _ _).trans (tlt ((by decide) : (0 : Int32) < (1 : Int32))).2.2.1) (by decide) (by decide) ?_
    show Steps p.tables e below (T8.setTop (mkF m 23 #[rv a1, .val (.double (4607182418800017408 : UInt64)), .second, .val (.double (0 : UInt64)), .second, .unset] [])) _
    refine XS.iconst X8.here hx rfl (hb hby d_prog_64_method_5_code_23) ?_
    show Steps p.tables e below (T8.setTop (mkF m 24 #[rv a1, .val (.double (4607182418800017408 : UInt64)), .second, .val (.double (0 : UInt64)), .second, .unset] [(.int (0 : Int32))])) _
    refine XS.istore X8.here hx rfl (hb hby d_prog_64_method_5_code_24) rfl (l' := #[rv a1, .val (.double (4607182418800017408 : UInt64)), .second, .val (.double (0 : UInt64)), .second, iv (0 : Int32)]) rfl ?_
    show Steps p.tables e below (T8.setTop (mkF m 26 #[rv a1, .val (.double (4607182418800017408 : UInt64)), .second, .val (.double (0 : UInt64)), .second, iv (0 : Int32)] [])) _
    refine XS.aloadN X8.here hx rfl (hb hby d_prog_64_method_5_code_26) rfl rfl ?_
    show Steps p.tables e below (T8.setTop (mkF m 27 #[rv a1, .val (.double (4607182418800017408 : UInt64)), .second, .val (.double (0 : UInt64)), .second, iv (0 : Int32)] [(.ref a1)])) _
    exact k
  obtain ⟨T11, X11, e11, st11⟩ := getF X8 hx hZ hown (host := "") (Or.inl (hw _ (List.mem_of_getElem? (i := 18) rfl))) Via.refl e8 a_0 (g := (mkF m 27 #[rv a1, .val (.double (4607182418800017408 : UInt64)), .second, .val (.double (0 : UInt64)), .second, iv (0 : Int32)] [(.ref a1)])) rfl rfl (hb hby d_prog_64_method_5_code_27)
  have k12 : Way p e below S0 T11 (mkF m 30 #[rv a1, .val (.double (4607182418800017408 : UInt64)), .second, .val (.double (0 : UInt64)), .second, iv (0 : Int32)] [(.ref w_GREATER_EQUAL)]) := fun t k => k10 t (st11 _ k)
  obtain ⟨cq13, kq13, qq13a, qq13b, qq13c⟩ := isOf hZ e11 (E_w_GREATER_EQUAL.ext O0.2)
  obtain ⟨_, _, ⟨T13, L13, kk13, nn13⟩, -, X13, ⟨Lc13, hQ13, l13, y13, z13⟩, st13⟩ := X11.virtualBackUp hx (owner := "java/lang/Enum") (x := (⟨"com/example/inert_quotient/inertquotient/prism/ProbabilityBound$Relation", "ordinal", "()I"⟩ : MethodName)) (y := (⟨"java/lang/Enum", "ordinal", "()I"⟩ : MethodName)) hown (mvT hZ (hw _ (List.mem_of_getElem? (i := 31) rfl))) (mvT hZ (hw _ (List.mem_of_getElem? (i := 32) rfl))) (mvT hZ (hw _ (List.mem_of_getElem? (i := 33) rfl))) (by decide) (mvT hZ (hw _ (List.mem_of_getElem? (i := 35) rfl))) (mvT hZ (hw _ (List.mem_of_getElem? (i := 34) rfl))) (backOf (W := 0) (ord l Z a0 hw [] w_GREATER_EQUAL w_GREATER w_LESS_EQUAL w_LESS G w_GREATER_EQUAL (0 : Int32) h0 n0 O0 ((F_w_GREATER_EQUAL_ordinal.ext O0.2) : Fld Z h0 w_GREATER_EQUAL "java/lang/Enum" "ordinal" "I" (.int (0 : Int32)))) hZ (hw _ (List.mem_of_getElem? (i := 37) rfl)) (hw _ (List.mem_of_getElem? (i := 36) rfl)) (by decide) (by decide)) qq13a qq13c (g := (mkF m 30 #[rv a1, .val (.double (4607182418800017408 : UInt64)), .second, .val (.double (0 : UInt64)), .second, iv (0 : Int32)] [(.ref w_GREATER_EQUAL)])) rfl (by rw [hml]; rfl) (Steps.refl _) (argsL := []) (rest := []) (lenOf pd_1 rfl) rfl (by show 2 * 0 + _ ≤ _; exact Nat.le_of_eq rfl) (hb hby d_prog_64_method_5_code_30) (fun _ _ => ⟨rfl, e11, (by decide : 0 + 0 ≤ _), (by decide : 0 + 0 ≤ _)⟩)
  dsimp only [Pt.U, Pt.locs, Pt.cells, Pt.slots] at X13 l13 y13 z13 st13 hQ13
  subst l13 y13 z13
  obtain ⟨rfl, Nq13, e13⟩ := hQ13
  have N13 := Fr.app N0 Nq13
  have k14 : Way p e below S0 T13 (mkF m 33 #[rv a1, .val (.double (4607182418800017408 : UInt64)), .second, .val (.double (0 : UInt64)), .second, iv (0 : Int32)] [(.int (0 : Int32))]) := fun t k => k12 t (st13.trans k)
  have k15 : Way p e below S0 T13 (mkF m 76 #[rv a1, .val (.double (4607182418800017408 : UInt64)), .second, .val (.double (0 : UInt64)), .second, iv (0 : Int32)] [(.ref a1), (.double (4607182418800017408 : UInt64))]) := by
    intro t k
    refine k14 t ?_
    refine XS.tswIn X13.here hx rfl (pc0 := 33) (pc' := 74) rfl (hb hby d_prog_64_method_5_code_33) (i := (0 : Int32)) rfl (by decide) (o := 41) (by decide) (by decide) (by decide) ?_
    show Steps p.tables e below (T13.setTop (mkF m 74 #[rv a1, .val (.double (4607182418800017408 : UInt64)), .second, .val (.double (0 : UInt64)), .second, iv (0 : Int32)] [])) _
    refine XS.dloadN X13.here hx rfl (hb hby d_prog_64_method_5_code_74) rfl ?_
    show Steps p.tables e below (T13.setTop (mkF m 75 #[rv a1, .val (.double (4607182418800017408 : UInt64)), .second, .val (.double (0 : UInt64)), .second, iv (0 : Int32)] [(.double (4607182418800017408 : UInt64))])) _
    refine XS.aloadN X13.here hx rfl (hb hby d_prog_64_method_5_code_75) rfl rfl ?_
    show Steps p.tables e below (T13.setTop (mkF m 76 #[rv a1, .val (.double (4607182418800017408 : UInt64)), .second, .val (.double (0 : UInt64)), .second, iv (0 : Int32)] [(.ref a1), (.double (4607182418800017408 : UInt64))])) _
    exact k
  obtain ⟨T16, X16, e16, st16⟩ := getF X13 hx hZ hown (host := "") (Or.inl (hw _ (List.mem_of_getElem? (i := 20) rfl))) Via.refl e13 a_1 (g := (mkF m 76 #[rv a1, .val (.double (4607182418800017408 : UInt64)), .second, .val (.double (0 : UInt64)), .second, iv (0 : Int32)] [(.ref a1), (.double (4607182418800017408 : UInt64))])) rfl rfl (hb hby d_prog_64_method_5_code_76)
  have k17 : Way p e below S0 T16 (mkF m 79 #[rv a1, .val (.double (4607182418800017408 : UInt64)), .second, .val (.double (0 : UInt64)), .second, iv (0 : Int32)] [(.double (0 : UInt64)), (.double (4607182418800017408 : UInt64))]) := fun t k => k15 t (st16 _ k)
  have k18 : Way p e below S0 T16 (mkF m 159 #[rv a1, .val (.double (4607182418800017408 : UInt64)), .second, .val (.double (0 : UInt64)), .second, iv (0 : Int32)] [(.int (1 : Int32))]) := by
    intro t k
    refine k17 t ?_
    refine XS.dcmpS X16.here hx rfl (hb hby d_prog_64_method_5_code_79) rfl (v := (1 : Int32)) (by decide +kernel) ?_
    show Steps p.tables e below (T16.setTop (mkF m 80 #[rv a1, .val (.double (4607182418800017408 : UInt64)), .second, .val (.double (0 : UInt64)), .second, iv (0 : Int32)] [(.int (1 : Int32))])) _
    refine XS.ifYes X16.here hx rfl (pc0 := 80) (pc' := 88) rfl (hb hby d_prog_64_method_5_code_80) rfl ((if0 _ _).trans (flt ((by decide) : ¬ ((1 : Int32) < (0 : Int32)))).2.1) (by decide) (by decide) ?_
    show Steps p.tables e below (T16.setTop (mkF m 88 #[rv a1, .val (.double (4607182418800017408 : UInt64)), .second, .val (.double (0 : UInt64)), .second, iv (0 : Int32)] [])) _
    refine XS.iconst X16.here hx rfl (hb hby d_prog_64_method_5_code_88) ?_
    show Steps p.tables e below (T16.setTop (mkF m 89 #[rv a1, .val (.double (4607182418800017408 : UInt64)), .second, .val (.double (0 : UInt64)), .second, iv (0 : Int32)] [(.int (1 : Int32))])) _
    refine XS.goto X16.here hx rfl (pc0 := 89) (pc' := 159) rfl (hb hby d_prog_64_method_5_code_89) (by decide) (by decide) ?_
    show Steps p.tables e below (T16.setTop (mkF m 159 #[rv a1, .val (.double (4607182418800017408 : UInt64)), .second, .val (.double (0 : UInt64)), .second, iv (0 : Int32)] [(.int (1 : Int32))])) _
    exact k
  obtain ⟨fs, hr, hrun, hended, hW, hsame⟩ := X16.leave (v := some (.int (1 : Int32))) (fun h => by rw [Bd.returns] at h; cases h)
  refine ⟨_, _, k18 _ (retN X16 hx (t := .boolean) Bd.returns (by simp) (hb hby d_prog_64_method_5_code_159) hr), hrun, hended, _, _, rfl, ?_, ⟨_, rfl⟩, hW, hsame.mono (by decide) (by decide)⟩
  show Q_met0 Z w_GREATER_EQUAL w_GREATER w_LESS_EQUAL w_LESS a1 h0 n0 _ T16.heap _
  rw [e16]
  exact ⟨rfl, N13, rfl⟩
def Q_met1 (Z : State) (w_GREATER_EQUAL : Addr) (w_GREATER : Addr) (w_LESS_EQUAL : Addr) (w_LESS : Addr) (a1 : Addr) (h0 : Heap) (n0 : Nat) (v : Option Value) (h : Heap) (L : List Loc) : Prop := (v = some (.int (1 : Int32))) ∧ (Fr n0 L) ∧ (h = h0)
set_option maxRecDepth 65536 in
set_option maxHeartbeats 40000000 in
theorem met1 (l : Launch) (Z : State) (a0 : Array Value) (hw : ∀ d ∈ tables_1, d.before a0 Z = true) (ws : List Jvm.Cond) (w_GREATER_EQUAL : Addr) (w_GREATER : Addr) (w_LESS_EQUAL : Addr) (w_LESS : Addr) (G : Gst Z w_GREATER_EQUAL w_GREATER w_LESS_EQUAL w_LESS) (a1 : Addr) (h0 : Heap) (n0 : Nat) (O0 : Old Z n0 h0) (a_0 : Fld Z h0 a1 "com/example/inert_quotient/inertquotient/prism/ProbabilityBound" "relation" "Lcom/example/inert_quotient/inertquotient/prism/ProbabilityBound$Relation;" (.ref w_GREATER)) (a_1 : Fld Z h0 a1 "com/example/inert_quotient/inertquotient/prism/ProbabilityBound" "probability" "D" (.double (0 : UInt64))) :
    MetFree l (⟨"com/example/inert_quotient/inertquotient/prism/ProbabilityBound", "isMetBy", "(DD)Z"⟩ : MethodName) (head1 (Jvm.Cond.code (⟨"com/example/inert_quotient/inertquotient/prism/ProbabilityBound", "isMetBy", "(DD)Z"⟩ : MethodName) prog_64_method_5_code 6 (some .boolean) :: ws) ({ frames := 1, cells := 0, slots := 0, locals := 13 } : Room)) (fun a U => a = #[(.ref a1), (.double (4607182418800017408 : UInt64)), (.double (0 : UInt64))] ∧ Z.Warmed39 U.vm ∧ U.heap = h0) (fun _ _ _ _ _ => True) (fun _ U o U' => ∃ v L, o = .returned v ∧ Q_met1 Z w_GREATER_EQUAL w_GREATER w_LESS_EQUAL w_LESS a1 h0 n0 v U'.heap L ∧ FrameEnd U o U' L ({ frames := 1, cells := 0, slots := 0, locals := 13 } : Room).cells ({ frames := 1, cells := 0, slots := 0, locals := 13 } : Room).slots) := by
  refine MetFree.of_bodySF (plainFor_of_name pn_2) hisR ?_
  intro p e s m args below meth c s₁ Bd hml0 hP hK
  obtain ⟨rfl, hZ, hh⟩ := hP
  have hx := Bd.exec
  have hby := Bd.bytes
  have hml : c.maxLocals = 6 := hml0
  have hown : s.vm.findClass "com/example/inert_quotient/inertquotient/prism/ProbabilityBound" = some m.cls := findClass_of_methodNamed Bd.named
  have hnm := (name_of_methodNamed Bd.named Bd.method).1
  have X0 : Stand p l e ({ frames := 1, cells := 0, slots := 0, locals := 13 } : Room) s m #[(.ref a1), (.double (4607182418800017408 : UInt64)), (.double (0 : UInt64))] below meth c s₁ [] 0 0 := Stand.of_body Bd
  have e0 : s₁.heap = h0 := by rw [← hh, Bd.state]; rfl
  have N0 := Fr.nil n0
  obtain ⟨S_w_GREATER_EQUAL, E_w_GREATER_EQUAL, F_w_GREATER_EQUAL_ordinal, S_w_GREATER, E_w_GREATER, F_w_GREATER_ordinal, S_w_LESS_EQUAL, E_w_LESS_EQUAL, F_w_LESS_EQUAL_ordinal, S_w_LESS, E_w_LESS, F_w_LESS_ordinal⟩ := id G
  have k0 : Way p e below (s₁.setTop (entryFrame m #[(.ref a1), (.double (4607182418800017408 : UInt64)), (.double (0 : UInt64))] 6)) s₁ (mkF m 0 #[rv a1, .val (.double (4607182418800017408 : UInt64)), .second, .val (.double (0 : UInt64)), .second, .unset] []) := fun t k => castTop (by first | (simp [entryFrame, mkF, argsToLocals, Value.category]; done) | rfl) k
  generalize s₁.setTop (entryFrame m #[(.ref a1), (.double (4607182418800017408 : UInt64)), (.double (0 : UInt64))] 6) = S0 at k0 ⊢
  have k1 : Way p e below S0 s₁ (mkF m 2 #[rv a1, .val (.double (4607182418800017408 : UInt64)), .second, .val (.double (0 : UInt64)), .second, .unset] [(.ref a1), (.double (4607182418800017408 : UInt64))]) := by
    intro t k
    refine k0 t ?_
    refine XS.dloadN X0.here hx rfl (hb hby d_prog_64_method_5_code_0) rfl ?_
    show Steps p.tables e below (s₁.setTop (mkF m 1 #[rv a1, .val (.double (4607182418800017408 : UInt64)), .second, .val (.double (0 : UInt64)), .second, .unset] [(.double (4607182418800017408 : UInt64))])) _
    refine XS.aloadN X0.here hx rfl (hb hby d_prog_64_method_5_code_1) rfl rfl ?_
    show Steps p.tables e below (s₁.setTop (mkF m 2 #[rv a1, .val (.double (4607182418800017408 : UInt64)), .second, .val (.double (0 : UInt64)), .second, .unset] [(.ref a1), (.double (4607182418800017408 : UInt64))])) _
    exact k
  obtain ⟨T2, X2, e2, st2⟩ := getF X0 hx hZ hown (host := "") (Or.inl (hw _ (List.mem_of_getElem? (i := 20) rfl))) Via.refl e0 a_1 (g := (mkF m 2 #[rv a1, .val (.double (4607182418800017408 : UInt64)), .second, .val (.double (0 : UInt64)), .second, .unset] [(.ref a1), (.double (4607182418800017408 : UInt64))])) rfl rfl (hb hby d_prog_64_method_5_code_2)
  have k3 : Way p e below S0 T2 (mkF m 5 #[rv a1, .val (.double (4607182418800017408 : UInt64)), .second, .val (.double (0 : UInt64)), .second, .unset] [(.double (0 : UInt64)), (.double (4607182418800017408 : UInt64))]) := fun t k => k1 t (st2 _ k)
  have k4 : Way p e below S0 T2 (mkF m 6 #[rv a1, .val (.double (4607182418800017408 : UInt64)), .second, .val (.double (0 : UInt64)), .second, .unset] [(.double (4607182418800017408 : UInt64))]) := by
    intro t k
    refine k3 t ?_
    refine XS.dsubS X2.here hx rfl (hb hby d_prog_64_method_5_code_5) rfl (v := (4607182418800017408 : UInt64)) (show FP.dsub (4607182418800017408 : UInt64) (0 : UInt64) &&& 0x7fffffffffffffff ≤ 0x7ff0000000000000 by decide +kernel) (by decide +kernel) ?_
    show Steps p.tables e below (T2.setTop (mkF m 6 #[rv a1, .val (.double (4607182418800017408 : UInt64)), .second, .val (.double (0 : UInt64)), .second, .unset] [(.double (4607182418800017408 : UInt64))])) _
    exact k
  obtain ⟨v5, vm5, B5, -, X5, ⟨hB5, hv5⟩, st5⟩ := Jvm.LawKit.callS X2 hx (y := (⟨"java/lang/Math", "abs", "(D)D"⟩ : MethodName)) hown (mvT hZ (hw _ (List.mem_of_getElem? (i := 27) rfl))) (mvT hZ (hw _ (List.mem_of_getElem? (i := 28) rfl))) (mvT hZ (hw _ (List.mem_of_getElem? (i := 29) rfl))) (mvT hZ (hw _ (List.mem_of_getElem? (i := 30) rfl))) (by decide) (Jvm.Free.NT.Abs64.pays (W := 0) (mvT hZ (hw _ (List.mem_of_getElem? (i := 30) rfl))) (mvT hZ (hw _ (List.mem_of_getElem? (i := 28) rfl))) (by decide) (by decide)) (g := (mkF m 6 #[rv a1, .val (.double (4607182418800017408 : UInt64)), .second, .val (.double (0 : UInt64)), .second, .unset] [(.double (4607182418800017408 : UInt64))])) rfl (by rw [hml]; rfl) (argsL := [(.double (4607182418800017408 : UInt64))]) (rest := []) (lenOf pd_0 rfl) rfl (by show 2 * 0 + _ ≤ _; exact Nat.le_of_eq rfl) (hb hby d_prog_64_method_5_code_6) (fun _ _ => ⟨(4607182418800017408 : UInt64), rfl, by decide⟩)
  have hv5' := hv5 (4607182418800017408 : UInt64) ⟨rfl, by decide⟩
  subst hB5 hv5'
  dsimp only [Pt.U, Pt.locs, Pt.cells, Pt.slots] at X5 st5
  have e5 : (T2.setVm vm5).heap = h0 := e2
  have k6 : Way p e below S0 (T2.setVm vm5) (mkF m 9 #[rv a1, .val (.double (4607182418800017408 : UInt64)), .second, .val (.double (0 : UInt64)), .second, .unset] [(.double (4607182418800017408 : UInt64))]) := fun t k => k4 t (st5 _ k)
  have k7 : Way p e below S0 (T2.setVm vm5) (mkF m 11 #[rv a1, .val (.double (4607182418800017408 : UInt64)), .second, .val (.double (0 : UInt64)), .second, .unset] [(.ref a1), (.double (0 : UInt64)), (.double (4607182418800017408 : UInt64))]) := by
    intro t k
    refine k6 t ?_
    refine XS.dloadN X5.here hx rfl (hb hby d_prog_64_method_5_code_9) rfl ?_
    show Steps p.tables e below ((T2.setVm vm5).setTop (mkF m 10 #[rv a1, .val (.double (4607182418800017408 : UInt64)), .second, .val (.double (0 : UInt64)), .second, .unset] [(.double (0 : UInt64)), (.double (4607182418800017408 : UInt64))])) _
    refine XS.aloadN X5.here hx rfl (hb hby d_prog_64_method_5_code_10) rfl rfl ?_
    show Steps p.tables e below ((T2.setVm vm5).setTop (mkF m 11 #[rv a1, .val (.double (4607182418800017408 : UInt64)), .second, .val (.double (0 : UInt64)), .second, .unset] [(.ref a1), (.double (0 : UInt64)), (.double (4607182418800017408 : UInt64))])) _
    exact k
  obtain ⟨T8, X8, e8, st8⟩ := getF X5 hx hZ hown (host := "") (Or.inl (hw _ (List.mem_of_getElem? (i := 20) rfl))) Via.refl e5 a_1 (g := (mkF m 11 #[rv a1, .val (.double (4607182418800017408 : UInt64)), .second, .val (.double (0 : UInt64)), .second, .unset] [(.ref a1), (.double (0 : UInt64)), (.double (4607182418800017408 : UInt64))])) rfl rfl (hb hby d_prog_64_method_5_code_11)
  have k9 : Way p e below S0 T8 (mkF m 14 #[rv a1, .val (.double (4607182418800017408 : UInt64)), .second, .val (.double (0 : UInt64)), .second, .unset] [(.double (0 : UInt64)), (.double (0 : UInt64)), (.double (4607182418800017408 : UInt64))]) := fun t k => k7 t (st8 _ k)
  have k10 : Way p e below S0 T8 (mkF m 27 #[rv a1, .val (.double (4607182418800017408 : UInt64)), .second, .val (.double (0 : UInt64)), .second, iv (0 : Int32)] [(.ref a1)]) := by
    intro t k
    refine k9 t ?_
    refine XS.dmulS X8.here hx rfl (hb hby d_prog_64_method_5_code_14) rfl (v := (0 : UInt64)) (show FP.dmul (0 : UInt64) (0 : UInt64) &&& 0x7fffffffffffffff ≤ 0x7ff0000000000000 by decide +kernel) (by decide +kernel) ?_
    show Steps p.tables e below (T8.setTop (mkF m 15 #[rv a1, .val (.double (4607182418800017408 : UInt64)), .second, .val (.double (0 : UInt64)), .second, .unset] [(.double (0 : UInt64)), (.double (4607182418800017408 : UInt64))])) _
    refine XS.dcmpS X8.here hx rfl (hb hby d_prog_64_method_5_code_15) rfl (v := (1 : Int32)) (by decide +kernel) ?_
    show Steps p.tables e below (T8.setTop (mkF m 16 #[rv a1, .val (.double (4607182418800017408 : UInt64)), .second, .val (.double (0 : UInt64)), .second, .unset] [(.int (1 : Int32))])) _
    refine XS.ifYes X8.here hx rfl (pc0 := 16) (pc' := 23) rfl (hb hby d_prog_64_method_5_code_16) rfl ((if0 _ _).trans (tlt ((by decide) : (0 : Int32) < (1 : Int32))).2.2.1) (by decide) (by decide) ?_
    show Steps p.tables e below (T8.setTop (mkF m 23 #[rv a1, .val (.double (4607182418800017408 : UInt64)), .second, .val (.double (0 : UInt64)), .second, .unset] [])) _
    refine XS.iconst X8.here hx rfl (hb hby d_prog_64_method_5_code_23) ?_
    show Steps p.tables e below (T8.setTop (mkF m 24 #[rv a1, .val (.double (4607182418800017408 : UInt64)), .second, .val (.double (0 : UInt64)), .second, .unset] [(.int (0 : Int32))])) _
    refine XS.istore X8.here hx rfl (hb hby d_prog_64_method_5_code_24) rfl (l' := #[rv a1, .val (.double (4607182418800017408 : UInt64)), .second, .val (.double (0 : UInt64)), .second, iv (0 : Int32)]) rfl ?_
    show Steps p.tables e below (T8.setTop (mkF m 26 #[rv a1, .val (.double (4607182418800017408 : UInt64)), .second, .val (.double (0 : UInt64)), .second, iv (0 : Int32)] [])) _
    refine XS.aloadN X8.here hx rfl (hb hby d_prog_64_method_5_code_26) rfl rfl ?_
    show Steps p.tables e below (T8.setTop (mkF m 27 #[rv a1, .val (.double (4607182418800017408 : UInt64)), .second, .val (.double (0 : UInt64)), .second, iv (0 : Int32)] [(.ref a1)])) _
    exact k
  obtain ⟨T11, X11, e11, st11⟩ := getF X8 hx hZ hown (host := "") (Or.inl (hw _ (List.mem_of_getElem? (i := 18) rfl))) Via.refl e8 a_0 (g := (mkF m 27 #[rv a1, .val (.double (4607182418800017408 : UInt64)), .second, .val (.double (0 : UInt64)), .second, iv (0 : Int32)] [(.ref a1)])) rfl rfl (hb hby d_prog_64_method_5_code_27)
  have k12 : Way p e below S0 T11 (mkF m 30 #[rv a1, .val (.double (4607182418800017408 : UInt64)), .second, .val (.double (0 : UInt64)), .second, iv (0 : Int32)] [(.ref w_GREATER)]) := fun t k => k10 t (st11 _ k)
  obtain ⟨cq13, kq13, qq13a, qq13b, qq13c⟩ := isOf hZ e11 (E_w_GREATER.ext O0.2)
  obtain ⟨_, _, ⟨T13, L13, kk13, nn13⟩, -, X13, ⟨Lc13, hQ13, l13, y13, z13⟩, st13⟩ := X11.virtualBackUp hx (owner := "java/lang/Enum") (x := (⟨"com/example/inert_quotient/inertquotient/prism/ProbabilityBound$Relation", "ordinal", "()I"⟩ : MethodName)) (y := (⟨"java/lang/Enum", "ordinal", "()I"⟩ : MethodName)) hown (mvT hZ (hw _ (List.mem_of_getElem? (i := 31) rfl))) (mvT hZ (hw _ (List.mem_of_getElem? (i := 32) rfl))) (mvT hZ (hw _ (List.mem_of_getElem? (i := 33) rfl))) (by decide) (mvT hZ (hw _ (List.mem_of_getElem? (i := 35) rfl))) (mvT hZ (hw _ (List.mem_of_getElem? (i := 34) rfl))) (backOf (W := 0) (ord l Z a0 hw [] w_GREATER_EQUAL w_GREATER w_LESS_EQUAL w_LESS G w_GREATER (1 : Int32) h0 n0 O0 ((F_w_GREATER_ordinal.ext O0.2) : Fld Z h0 w_GREATER "java/lang/Enum" "ordinal" "I" (.int (1 : Int32)))) hZ (hw _ (List.mem_of_getElem? (i := 37) rfl)) (hw _ (List.mem_of_getElem? (i := 36) rfl)) (by decide) (by decide)) qq13a qq13c (g := (mkF m 30 #[rv a1, .val (.double (4607182418800017408 : UInt64)), .second, .val (.double (0 : UInt64)), .second, iv (0 : Int32)] [(.ref w_GREATER)])) rfl (by rw [hml]; rfl) (Steps.refl _) (argsL := []) (rest := []) (lenOf pd_1 rfl) rfl (by show 2 * 0 + _ ≤ _; exact Nat.le_of_eq rfl) (hb hby d_prog_64_method_5_code_30) (fun _ _ => ⟨rfl, e11, (by decide : 0 + 0 ≤ _), (by decide : 0 + 0 ≤ _)⟩)
  dsimp only [Pt.U, Pt.locs, Pt.cells, Pt.slots] at X13 l13 y13 z13 st13 hQ13
  subst l13 y13 z13
  obtain ⟨rfl, Nq13, e13⟩ := hQ13
  have N13 := Fr.app N0 Nq13
  have k14 : Way p e below S0 T13 (mkF m 33 #[rv a1, .val (.double (4607182418800017408 : UInt64)), .second, .val (.double (0 : UInt64)), .second, iv (0 : Int32)] [(.int (1 : Int32))]) := fun t k => k12 t (st13.trans k)
  have k15 : Way p e below S0 T13 (mkF m 98 #[rv a1, .val (.double (4607182418800017408 : UInt64)), .second, .val (.double (0 : UInt64)), .second, iv (0 : Int32)] [(.ref a1), (.double (4607182418800017408 : UInt64))]) := by
    intro t k
    refine k14 t ?_
    refine XS.tswIn X13.here hx rfl (pc0 := 33) (pc' := 96) rfl (hb hby d_prog_64_method_5_code_33) (i := (1 : Int32)) rfl (by decide) (o := 63) (by decide) (by decide) (by decide) ?_
    show Steps p.tables e below (T13.setTop (mkF m 96 #[rv a1, .val (.double (4607182418800017408 : UInt64)), .second, .val (.double (0 : UInt64)), .second, iv (0 : Int32)] [])) _
    refine XS.dloadN X13.here hx rfl (hb hby d_prog_64_method_5_code_96) rfl ?_
    show Steps p.tables e below (T13.setTop (mkF m 97 #[rv a1, .val (.double (4607182418800017408 : UInt64)), .second, .val (.double (0 : UInt64)), .second, iv (0 : Int32)] [(.double (4607182418800017408 : UInt64))])) _
    refine XS.aloadN X13.here hx rfl (hb hby d_prog_64_method_5_code_97) rfl rfl ?_
    show Steps p.tables e below (T13.setTop (mkF m 98 #[rv a1, .val (.double (4607182418800017408 : UInt64)), .second, .val (.double (0 : UInt64)), .second, iv (0 : Int32)] [(.ref a1), (.double (4607182418800017408 : UInt64))])) _
    exact k
  obtain ⟨T16, X16, e16, st16⟩ := getF X13 hx hZ hown (host := "") (Or.inl (hw _ (List.mem_of_getElem? (i := 20) rfl))) Via.refl e13 a_1 (g := (mkF m 98 #[rv a1, .val (.double (4607182418800017408 : UInt64)), .second, .val (.double (0 : UInt64)), .second, iv (0 : Int32)] [(.ref a1), (.double (4607182418800017408 : UInt64))])) rfl rfl (hb hby d_prog_64_method_5_code_98)
  have k17 : Way p e below S0 T16 (mkF m 101 #[rv a1, .val (.double (4607182418800017408 : UInt64)), .second, .val (.double (0 : UInt64)), .second, iv (0 : Int32)] [(.double (0 : UInt64)), (.double (4607182418800017408 : UInt64))]) := fun t k => k15 t (st16 _ k)
  have k18 : Way p e below S0 T16 (mkF m 159 #[rv a1, .val (.double (4607182418800017408 : UInt64)), .second, .val (.double (0 : UInt64)), .second, iv (0 : Int32)] [(.int (1 : Int32))]) := by
    intro t k
    refine k17 t ?_
    refine XS.dcmpS X16.here hx rfl (hb hby d_prog_64_method_5_code_101) rfl (v := (1 : Int32)) (by decide +kernel) ?_
    show Steps p.tables e below (T16.setTop (mkF m 102 #[rv a1, .val (.double (4607182418800017408 : UInt64)), .second, .val (.double (0 : UInt64)), .second, iv (0 : Int32)] [(.int (1 : Int32))])) _
    refine XS.ifNo X16.here hx rfl (hb hby d_prog_64_method_5_code_102) rfl ((if0 _ _).trans (tlt ((by decide) : (0 : Int32) < (1 : Int32))).2.2.2) ?_
    show Steps p.tables e below (T16.setTop (mkF m 105 #[rv a1, .val (.double (4607182418800017408 : UInt64)), .second, .val (.double (0 : UInt64)), .second, iv (0 : Int32)] [])) _
    refine XS.iload X16.here hx rfl (hb hby d_prog_64_method_5_code_105) rfl ?_
    show Steps p.tables e below (T16.setTop (mkF m 107 #[rv a1, .val (.double (4607182418800017408 : UInt64)), .second, .val (.double (0 : UInt64)), .second, iv (0 : Int32)] [(.int (0 : Int32))])) _
    refine XS.ifNo X16.here hx rfl (hb hby d_prog_64_method_5_code_107) rfl ((if0 _ _).trans (teq ((by decide) : (0 : Int32) = (0 : Int32))).2) ?_
    show Steps p.tables e below (T16.setTop (mkF m 110 #[rv a1, .val (.double (4607182418800017408 : UInt64)), .second, .val (.double (0 : UInt64)), .second, iv (0 : Int32)] [])) _
    refine XS.iconst X16.here hx rfl (hb hby d_prog_64_method_5_code_110) ?_
    show Steps p.tables e below (T16.setTop (mkF m 111 #[rv a1, .val (.double (4607182418800017408 : UInt64)), .second, .val (.double (0 : UInt64)), .second, iv (0 : Int32)] [(.int (1 : Int32))])) _
    refine XS.goto X16.here hx rfl (pc0 := 111) (pc' := 159) rfl (hb hby d_prog_64_method_5_code_111) (by decide) (by decide) ?_
    show Steps p.tables e below (T16.setTop (mkF m 159 #[rv a1, .val (.double (4607182418800017408 : UInt64)), .second, .val (.double (0 : UInt64)), .second, iv (0 : Int32)] [(.int (1 : Int32))])) _
    exact k
  obtain ⟨fs, hr, hrun, hended, hW, hsame⟩ := X16.leave (v := some (.int (1 : Int32))) (fun h => by rw [Bd.returns] at h; cases h)
  refine ⟨_, _, k18 _ (retN X16 hx (t := .boolean) Bd.returns (by simp) (hb hby d_prog_64_method_5_code_159) hr), hrun, hended, _, _, rfl, ?_, ⟨_, rfl⟩, hW, hsame.mono (by decide) (by decide)⟩
  show Q_met1 Z w_GREATER_EQUAL w_GREATER w_LESS_EQUAL w_LESS a1 h0 n0 _ T16.heap _
  rw [e16]
  exact ⟨rfl, N13, rfl⟩
def Q_met2 (Z : State) (w_GREATER_EQUAL : Addr) (w_GREATER : Addr) (w_LESS_EQUAL : Addr) (w_LESS : Addr) (a1 : Addr) (h0 : Heap) (n0 : Nat) (v : Option Value) (h : Heap) (L : List Loc) : Prop := (v = some (.int (0 : Int32))) ∧ (Fr n0 L) ∧ (h = h0)
set_option maxRecDepth 65536 in
set_option maxHeartbeats 40000000 in
theorem met2 (l : Launch) (Z : State) (a0 : Array Value) (hw : ∀ d ∈ tables_1, d.before a0 Z = true) (ws : List Jvm.Cond) (w_GREATER_EQUAL : Addr) (w_GREATER : Addr) (w_LESS_EQUAL : Addr) (w_LESS : Addr) (G : Gst Z w_GREATER_EQUAL w_GREATER w_LESS_EQUAL w_LESS) (a1 : Addr) (h0 : Heap) (n0 : Nat) (O0 : Old Z n0 h0) (a_0 : Fld Z h0 a1 "com/example/inert_quotient/inertquotient/prism/ProbabilityBound" "relation" "Lcom/example/inert_quotient/inertquotient/prism/ProbabilityBound$Relation;" (.ref w_LESS_EQUAL)) (a_1 : Fld Z h0 a1 "com/example/inert_quotient/inertquotient/prism/ProbabilityBound" "probability" "D" (.double (0 : UInt64))) :
    MetFree l (⟨"com/example/inert_quotient/inertquotient/prism/ProbabilityBound", "isMetBy", "(DD)Z"⟩ : MethodName) (head1 (Jvm.Cond.code (⟨"com/example/inert_quotient/inertquotient/prism/ProbabilityBound", "isMetBy", "(DD)Z"⟩ : MethodName) prog_64_method_5_code 6 (some .boolean) :: ws) ({ frames := 1, cells := 0, slots := 0, locals := 13 } : Room)) (fun a U => a = #[(.ref a1), (.double (4607182418800017408 : UInt64)), (.double (0 : UInt64))] ∧ Z.Warmed39 U.vm ∧ U.heap = h0) (fun _ _ _ _ _ => True) (fun _ U o U' => ∃ v L, o = .returned v ∧ Q_met2 Z w_GREATER_EQUAL w_GREATER w_LESS_EQUAL w_LESS a1 h0 n0 v U'.heap L ∧ FrameEnd U o U' L ({ frames := 1, cells := 0, slots := 0, locals := 13 } : Room).cells ({ frames := 1, cells := 0, slots := 0, locals := 13 } : Room).slots) := by
  refine MetFree.of_bodySF (plainFor_of_name pn_2) hisR ?_
  intro p e s m args below meth c s₁ Bd hml0 hP hK
  obtain ⟨rfl, hZ, hh⟩ := hP
  have hx := Bd.exec
  have hby := Bd.bytes
  have hml : c.maxLocals = 6 := hml0
  have hown : s.vm.findClass "com/example/inert_quotient/inertquotient/prism/ProbabilityBound" = some m.cls := findClass_of_methodNamed Bd.named
  have hnm := (name_of_methodNamed Bd.named Bd.method).1
  have X0 : Stand p l e ({ frames := 1, cells := 0, slots := 0, locals := 13 } : Room) s m #[(.ref a1), (.double (4607182418800017408 : UInt64)), (.double (0 : UInt64))] below meth c s₁ [] 0 0 := Stand.of_body Bd
  have e0 : s₁.heap = h0 := by rw [← hh, Bd.state]; rfl
  have N0 := Fr.nil n0
  obtain ⟨S_w_GREATER_EQUAL, E_w_GREATER_EQUAL, F_w_GREATER_EQUAL_ordinal, S_w_GREATER, E_w_GREATER, F_w_GREATER_ordinal, S_w_LESS_EQUAL, E_w_LESS_EQUAL, F_w_LESS_EQUAL_ordinal, S_w_LESS, E_w_LESS, F_w_LESS_ordinal⟩ := id G
  have k0 : Way p e below (s₁.setTop (entryFrame m #[(.ref a1), (.double (4607182418800017408 : UInt64)), (.double (0 : UInt64))] 6)) s₁ (mkF m 0 #[rv a1, .val (.double (4607182418800017408 : UInt64)), .second, .val (.double (0 : UInt64)), .second, .unset] []) := fun t k => castTop (by first | (simp [entryFrame, mkF, argsToLocals, Value.category]; done) | rfl) k
  generalize s₁.setTop (entryFrame m #[(.ref a1), (.double (4607182418800017408 : UInt64)), (.double (0 : UInt64))] 6) = S0 at k0 ⊢
  have k1 : Way p e below S0 s₁ (mkF m 2 #[rv a1, .val (.double (4607182418800017408 : UInt64)), .second, .val (.double (0 : UInt64)), .second, .unset] [(.ref a1), (.double (4607182418800017408 : UInt64))]) := by
    intro t k
    refine k0 t ?_
    refine XS.dloadN X0.here hx rfl (hb hby d_prog_64_method_5_code_0) rfl ?_
    show Steps p.tables e below (s₁.setTop (mkF m 1 #[rv a1, .val (.double (4607182418800017408 : UInt64)), .second, .val (.double (0 : UInt64)), .second, .unset] [(.double (4607182418800017408 : UInt64))])) _
    refine XS.aloadN X0.here hx rfl (hb hby d_prog_64_method_5_code_1) rfl rfl ?_
    show Steps p.tables e below (s₁.setTop (mkF m 2 #[rv a1, .val (.double (4607182418800017408 : UInt64)), .second, .val (.double (0 : UInt64)), .second, .unset] [(.ref a1), (.double (4607182418800017408 : UInt64))])) _
    exact k
  obtain ⟨T2, X2, e2, st2⟩ := getF X0 hx hZ hown (host := "") (Or.inl (hw _ (List.mem_of_getElem? (i := 20) rfl))) Via.refl e0 a_1 (g := (mkF m 2 #[rv a1, .val (.double (4607182418800017408 : UInt64)), .second, .val (.double (0 : UInt64)), .second, .unset] [(.ref a1), (.double (4607182418800017408 : UInt64))])) rfl rfl (hb hby d_prog_64_method_5_code_2)
  have k3 : Way p e below S0 T2 (mkF m 5 #[rv a1, .val (.double (4607182418800017408 : UInt64)), .second, .val (.double (0 : UInt64)), .second, .unset] [(.double (0 : UInt64)), (.double (4607182418800017408 : UInt64))]) := fun t k => k1 t (st2 _ k)
  have k4 : Way p e below S0 T2 (mkF m 6 #[rv a1, .val (.double (4607182418800017408 : UInt64)), .second, .val (.double (0 : UInt64)), .second, .unset] [(.double (4607182418800017408 : UInt64))]) := by
    intro t k
    refine k3 t ?_
    refine XS.dsubS X2.here hx rfl (hb hby d_prog_64_method_5_code_5) rfl (v := (4607182418800017408 : UInt64)) (show FP.dsub (4607182418800017408 : UInt64) (0 : UInt64) &&& 0x7fffffffffffffff ≤ 0x7ff0000000000000 by decide +kernel) (by decide +kernel) ?_
    show Steps p.tables e below (T2.setTop (mkF m 6 #[rv a1, .val (.double (4607182418800017408 : UInt64)), .second, .val (.double (0 : UInt64)), .second, .unset] [(.double (4607182418800017408 : UInt64))])) _
    exact k
  obtain ⟨v5, vm5, B5, -, X5, ⟨hB5, hv5⟩, st5⟩ := Jvm.LawKit.callS X2 hx (y := (⟨"java/lang/Math", "abs", "(D)D"⟩ : MethodName)) hown (mvT hZ (hw _ (List.mem_of_getElem? (i := 27) rfl))) (mvT hZ (hw _ (List.mem_of_getElem? (i := 28) rfl))) (mvT hZ (hw _ (List.mem_of_getElem? (i := 29) rfl))) (mvT hZ (hw _ (List.mem_of_getElem? (i := 30) rfl))) (by decide) (Jvm.Free.NT.Abs64.pays (W := 0) (mvT hZ (hw _ (List.mem_of_getElem? (i := 30) rfl))) (mvT hZ (hw _ (List.mem_of_getElem? (i := 28) rfl))) (by decide) (by decide)) (g := (mkF m 6 #[rv a1, .val (.double (4607182418800017408 : UInt64)), .second, .val (.double (0 : UInt64)), .second, .unset] [(.double (4607182418800017408 : UInt64))])) rfl (by rw [hml]; rfl) (argsL := [(.double (4607182418800017408 : UInt64))]) (rest := []) (lenOf pd_0 rfl) rfl (by show 2 * 0 + _ ≤ _; exact Nat.le_of_eq rfl) (hb hby d_prog_64_method_5_code_6) (fun _ _ => ⟨(4607182418800017408 : UInt64), rfl, by decide⟩)
  have hv5' := hv5 (4607182418800017408 : UInt64) ⟨rfl, by decide⟩
  subst hB5 hv5'
  dsimp only [Pt.U, Pt.locs, Pt.cells, Pt.slots] at X5 st5
  have e5 : (T2.setVm vm5).heap = h0 := e2
  have k6 : Way p e below S0 (T2.setVm vm5) (mkF m 9 #[rv a1, .val (.double (4607182418800017408 : UInt64)), .second, .val (.double (0 : UInt64)), .second, .unset] [(.double (4607182418800017408 : UInt64))]) := fun t k => k4 t (st5 _ k)
  have k7 : Way p e below S0 (T2.setVm vm5) (mkF m 11 #[rv a1, .val (.double (4607182418800017408 : UInt64)), .second, .val (.double (0 : UInt64)), .second, .unset] [(.ref a1), (.double (0 : UInt64)), (.double (4607182418800017408 : UInt64))]) := by
    intro t k
    refine k6 t ?_
    refine XS.dloadN X5.here hx rfl (hb hby d_prog_64_method_5_code_9) rfl ?_
    show Steps p.tables e below ((T2.setVm vm5).setTop (mkF m 10 #[rv a1, .val (.double (4607182418800017408 : UInt64)), .second, .val (.double (0 : UInt64)), .second, .unset] [(.double (0 : UInt64)), (.double (4607182418800017408 : UInt64))])) _
    refine XS.aloadN X5.here hx rfl (hb hby d_prog_64_method_5_code_10) rfl rfl ?_
    show Steps p.tables e below ((T2.setVm vm5).setTop (mkF m 11 #[rv a1, .val (.double (4607182418800017408 : UInt64)), .second, .val (.double (0 : UInt64)), .second, .unset] [(.ref a1), (.double (0 : UInt64)), (.double (4607182418800017408 : UInt64))])) _
    exact k
  obtain ⟨T8, X8, e8, st8⟩ := getF X5 hx hZ hown (host := "") (Or.inl (hw _ (List.mem_of_getElem? (i := 20) rfl))) Via.refl e5 a_1 (g := (mkF m 11 #[rv a1, .val (.double (4607182418800017408 : UInt64)), .second, .val (.double (0 : UInt64)), .second, .unset] [(.ref a1), (.double (0 : UInt64)), (.double (4607182418800017408 : UInt64))])) rfl rfl (hb hby d_prog_64_method_5_code_11)
  have k9 : Way p e below S0 T8 (mkF m 14 #[rv a1, .val (.double (4607182418800017408 : UInt64)), .second, .val (.double (0 : UInt64)), .second, .unset] [(.double (0 : UInt64)), (.double (0 : UInt64)), (.double (4607182418800017408 : UInt64))]) := fun t k => k7 t (st8 _ k)
  have k10 : Way p e below S0 T8 (mkF m 27 #[rv a1, .val (.double (4607182418800017408 : UInt64)), .second, .val (.double (0 : UInt64)), .second, iv (0 : Int32)] [(.ref a1)]) := by
    intro t k
    refine k9 t ?_
    refine XS.dmulS X8.here hx rfl (hb hby d_prog_64_method_5_code_14) rfl (v := (0 : UInt64)) (show FP.dmul (0 : UInt64) (0 : UInt64) &&& 0x7fffffffffffffff ≤ 0x7ff0000000000000 by decide +kernel) (by decide +kernel) ?_
    show Steps p.tables e below (T8.setTop (mkF m 15 #[rv a1, .val (.double (4607182418800017408 : UInt64)), .second, .val (.double (0 : UInt64)), .second, .unset] [(.double (0 : UInt64)), (.double (4607182418800017408 : UInt64))])) _
    refine XS.dcmpS X8.here hx rfl (hb hby d_prog_64_method_5_code_15) rfl (v := (1 : Int32)) (by decide +kernel) ?_
    show Steps p.tables e below (T8.setTop (mkF m 16 #[rv a1, .val (.double (4607182418800017408 : UInt64)), .second, .val (.double (0 : UInt64)), .second, .unset] [(.int (1 : Int32))])) _
    refine XS.ifYes X8.here hx rfl (pc0 := 16) (pc' := 23) rfl (hb hby d_prog_64_method_5_code_16) rfl ((if0 _ _).trans (tlt ((by decide) : (0 : Int32) < (1 : Int32))).2.2.1) (by decide) (by decide) ?_
    show Steps p.tables e below (T8.setTop (mkF m 23 #[rv a1, .val (.double (4607182418800017408 : UInt64)), .second, .val (.double (0 : UInt64)), .second, .unset] [])) _
    refine XS.iconst X8.here hx rfl (hb hby d_prog_64_method_5_code_23) ?_
    show Steps p.tables e below (T8.setTop (mkF m 24 #[rv a1, .val (.double (4607182418800017408 : UInt64)), .second, .val (.double (0 : UInt64)), .second, .unset] [(.int (0 : Int32))])) _
    refine XS.istore X8.here hx rfl (hb hby d_prog_64_method_5_code_24) rfl (l' := #[rv a1, .val (.double (4607182418800017408 : UInt64)), .second, .val (.double (0 : UInt64)), .second, iv (0 : Int32)]) rfl ?_
    show Steps p.tables e below (T8.setTop (mkF m 26 #[rv a1, .val (.double (4607182418800017408 : UInt64)), .second, .val (.double (0 : UInt64)), .second, iv (0 : Int32)] [])) _
    refine XS.aloadN X8.here hx rfl (hb hby d_prog_64_method_5_code_26) rfl rfl ?_
    show Steps p.tables e below (T8.setTop (mkF m 27 #[rv a1, .val (.double (4607182418800017408 : UInt64)), .second, .val (.double (0 : UInt64)), .second, iv (0 : Int32)] [(.ref a1)])) _
    exact k
  obtain ⟨T11, X11, e11, st11⟩ := getF X8 hx hZ hown (host := "") (Or.inl (hw _ (List.mem_of_getElem? (i := 18) rfl))) Via.refl e8 a_0 (g := (mkF m 27 #[rv a1, .val (.double (4607182418800017408 : UInt64)), .second, .val (.double (0 : UInt64)), .second, iv (0 : Int32)] [(.ref a1)])) rfl rfl (hb hby d_prog_64_method_5_code_27)
  have k12 : Way p e below S0 T11 (mkF m 30 #[rv a1, .val (.double (4607182418800017408 : UInt64)), .second, .val (.double (0 : UInt64)), .second, iv (0 : Int32)] [(.ref w_LESS_EQUAL)]) := fun t k => k10 t (st11 _ k)
  obtain ⟨cq13, kq13, qq13a, qq13b, qq13c⟩ := isOf hZ e11 (E_w_LESS_EQUAL.ext O0.2)
  obtain ⟨_, _, ⟨T13, L13, kk13, nn13⟩, -, X13, ⟨Lc13, hQ13, l13, y13, z13⟩, st13⟩ := X11.virtualBackUp hx (owner := "java/lang/Enum") (x := (⟨"com/example/inert_quotient/inertquotient/prism/ProbabilityBound$Relation", "ordinal", "()I"⟩ : MethodName)) (y := (⟨"java/lang/Enum", "ordinal", "()I"⟩ : MethodName)) hown (mvT hZ (hw _ (List.mem_of_getElem? (i := 31) rfl))) (mvT hZ (hw _ (List.mem_of_getElem? (i := 32) rfl))) (mvT hZ (hw _ (List.mem_of_getElem? (i := 33) rfl))) (by decide) (mvT hZ (hw _ (List.mem_of_getElem? (i := 35) rfl))) (mvT hZ (hw _ (List.mem_of_getElem? (i := 34) rfl))) (backOf (W := 0) (ord l Z a0 hw [] w_GREATER_EQUAL w_GREATER w_LESS_EQUAL w_LESS G w_LESS_EQUAL (2 : Int32) h0 n0 O0 ((F_w_LESS_EQUAL_ordinal.ext O0.2) : Fld Z h0 w_LESS_EQUAL "java/lang/Enum" "ordinal" "I" (.int (2 : Int32)))) hZ (hw _ (List.mem_of_getElem? (i := 37) rfl)) (hw _ (List.mem_of_getElem? (i := 36) rfl)) (by decide) (by decide)) qq13a qq13c (g := (mkF m 30 #[rv a1, .val (.double (4607182418800017408 : UInt64)), .second, .val (.double (0 : UInt64)), .second, iv (0 : Int32)] [(.ref w_LESS_EQUAL)])) rfl (by rw [hml]; rfl) (Steps.refl _) (argsL := []) (rest := []) (lenOf pd_1 rfl) rfl (by show 2 * 0 + _ ≤ _; exact Nat.le_of_eq rfl) (hb hby d_prog_64_method_5_code_30) (fun _ _ => ⟨rfl, e11, (by decide : 0 + 0 ≤ _), (by decide : 0 + 0 ≤ _)⟩)
  dsimp only [Pt.U, Pt.locs, Pt.cells, Pt.slots] at X13 l13 y13 z13 st13 hQ13
  subst l13 y13 z13
  obtain ⟨rfl, Nq13, e13⟩ := hQ13
  have N13 := Fr.app N0 Nq13
  have k14 : Way p e below S0 T13 (mkF m 33 #[rv a1, .val (.double (4607182418800017408 : UInt64)), .second, .val (.double (0 : UInt64)), .second, iv (0 : Int32)] [(.int (2 : Int32))]) := fun t k => k12 t (st13.trans k)
  have k15 : Way p e below S0 T13 (mkF m 120 #[rv a1, .val (.double (4607182418800017408 : UInt64)), .second, .val (.double (0 : UInt64)), .second, iv (0 : Int32)] [(.ref a1), (.double (4607182418800017408 : UInt64))]) := by
    intro t k
    refine k14 t ?_
    refine XS.tswIn X13.here hx rfl (pc0 := 33) (pc' := 118) rfl (hb hby d_prog_64_method_5_code_33) (i := (2 : Int32)) rfl (by decide) (o := 85) (by decide) (by decide) (by decide) ?_
    show Steps p.tables e below (T13.setTop (mkF m 118 #[rv a1, .val (.double (4607182418800017408 : UInt64)), .second, .val (.double (0 : UInt64)), .second, iv (0 : Int32)] [])) _
    refine XS.dloadN X13.here hx rfl (hb hby d_prog_64_method_5_code_118) rfl ?_
    show Steps p.tables e below (T13.setTop (mkF m 119 #[rv a1, .val (.double (4607182418800017408 : UInt64)), .second, .val (.double (0 : UInt64)), .second, iv (0 : Int32)] [(.double (4607182418800017408 : UInt64))])) _
    refine XS.aloadN X13.here hx rfl (hb hby d_prog_64_method_5_code_119) rfl rfl ?_
    show Steps p.tables e below (T13.setTop (mkF m 120 #[rv a1, .val (.double (4607182418800017408 : UInt64)), .second, .val (.double (0 : UInt64)), .second, iv (0 : Int32)] [(.ref a1), (.double (4607182418800017408 : UInt64))])) _
    exact k
  obtain ⟨T16, X16, e16, st16⟩ := getF X13 hx hZ hown (host := "") (Or.inl (hw _ (List.mem_of_getElem? (i := 20) rfl))) Via.refl e13 a_1 (g := (mkF m 120 #[rv a1, .val (.double (4607182418800017408 : UInt64)), .second, .val (.double (0 : UInt64)), .second, iv (0 : Int32)] [(.ref a1), (.double (4607182418800017408 : UInt64))])) rfl rfl (hb hby d_prog_64_method_5_code_120)
  have k17 : Way p e below S0 T16 (mkF m 123 #[rv a1, .val (.double (4607182418800017408 : UInt64)), .second, .val (.double (0 : UInt64)), .second, iv (0 : Int32)] [(.double (0 : UInt64)), (.double (4607182418800017408 : UInt64))]) := fun t k => k15 t (st16 _ k)
  have k18 : Way p e below S0 T16 (mkF m 159 #[rv a1, .val (.double (4607182418800017408 : UInt64)), .second, .val (.double (0 : UInt64)), .second, iv (0 : Int32)] [(.int (0 : Int32))]) := by
    intro t k
    refine k17 t ?_
    refine XS.dcmpS X16.here hx rfl (hb hby d_prog_64_method_5_code_123) rfl (v := (1 : Int32)) (by decide +kernel) ?_
    show Steps p.tables e below (T16.setTop (mkF m 124 #[rv a1, .val (.double (4607182418800017408 : UInt64)), .second, .val (.double (0 : UInt64)), .second, iv (0 : Int32)] [(.int (1 : Int32))])) _
    refine XS.ifNo X16.here hx rfl (hb hby d_prog_64_method_5_code_124) rfl ((if0 _ _).trans (tlt ((by decide) : (0 : Int32) < (1 : Int32))).2.2.2) ?_
    show Steps p.tables e below (T16.setTop (mkF m 127 #[rv a1, .val (.double (4607182418800017408 : UInt64)), .second, .val (.double (0 : UInt64)), .second, iv (0 : Int32)] [])) _
    refine XS.iload X16.here hx rfl (hb hby d_prog_64_method_5_code_127) rfl ?_
    show Steps p.tables e below (T16.setTop (mkF m 129 #[rv a1, .val (.double (4607182418800017408 : UInt64)), .second, .val (.double (0 : UInt64)), .second, iv (0 : Int32)] [(.int (0 : Int32))])) _
    refine XS.ifYes X16.here hx rfl (pc0 := 129) (pc' := 136) rfl (hb hby d_prog_64_method_5_code_129) rfl ((if0 _ _).trans (teq ((by decide) : (0 : Int32) = (0 : Int32))).1) (by decide) (by decide) ?_
    show Steps p.tables e below (T16.setTop (mkF m 136 #[rv a1, .val (.double (4607182418800017408 : UInt64)), .second, .val (.double (0 : UInt64)), .second, iv (0 : Int32)] [])) _
    refine XS.iconst X16.here hx rfl (hb hby d_prog_64_method_5_code_136) ?_
    show Steps p.tables e below (T16.setTop (mkF m 137 #[rv a1, .val (.double (4607182418800017408 : UInt64)), .second, .val (.double (0 : UInt64)), .second, iv (0 : Int32)] [(.int (0 : Int32))])) _
    refine XS.goto X16.here hx rfl (pc0 := 137) (pc' := 159) rfl (hb hby d_prog_64_method_5_code_137) (by decide) (by decide) ?_
    show Steps p.tables e below (T16.setTop (mkF m 159 #[rv a1, .val (.double (4607182418800017408 : UInt64)), .second, .val (.double (0 : UInt64)), .second, iv (0 : Int32)] [(.int (0 : Int32))])) _
    exact k
  obtain ⟨fs, hr, hrun, hended, hW, hsame⟩ := X16.leave (v := some (.int (0 : Int32))) (fun h => by rw [Bd.returns] at h; cases h)
  refine ⟨_, _, k18 _ (retN X16 hx (t := .boolean) Bd.returns (by simp) (hb hby d_prog_64_method_5_code_159) hr), hrun, hended, _, _, rfl, ?_, ⟨_, rfl⟩, hW, hsame.mono (by decide) (by decide)⟩
  show Q_met2 Z w_GREATER_EQUAL w_GREATER w_LESS_EQUAL w_LESS a1 h0 n0 _ T16.heap _
  rw [e16]
  exact ⟨rfl, N13, rfl⟩
def Q_met3 (Z : State) (w_GREATER_EQUAL : Addr) (w_GREATER : Addr) (w_LESS_EQUAL : Addr) (w_LESS : Addr) (a1 : Addr) (h0 : Heap) (n0 : Nat) (v : Option Value) (h : Heap) (L : List Loc) : Prop := (v = some (.int (0 : Int32))) ∧ (Fr n0 L) ∧ (h = h0)
set_option maxRecDepth 65536 in
set_option maxHeartbeats 40000000 in
theorem met3 (l : Launch) (Z : State) (a0 : Array Value) (hw : ∀ d ∈ tables_1, d.before a0 Z = true) (ws : List Jvm.Cond) (w_GREATER_EQUAL : Addr) (w_GREATER : Addr) (w_LESS_EQUAL : Addr) (w_LESS : Addr) (G : Gst Z w_GREATER_EQUAL w_GREATER w_LESS_EQUAL w_LESS) (a1 : Addr) (h0 : Heap) (n0 : Nat) (O0 : Old Z n0 h0) (a_0 : Fld Z h0 a1 "com/example/inert_quotient/inertquotient/prism/ProbabilityBound" "relation" "Lcom/example/inert_quotient/inertquotient/prism/ProbabilityBound$Relation;" (.ref w_LESS)) (a_1 : Fld Z h0 a1 "com/example/inert_quotient/inertquotient/prism/ProbabilityBound" "probability" "D" (.double (0 : UInt64))) :
    MetFree l (⟨"com/example/inert_quotient/inertquotient/prism/ProbabilityBound", "isMetBy", "(DD)Z"⟩ : MethodName) (head1 (Jvm.Cond.code (⟨"com/example/inert_quotient/inertquotient/prism/ProbabilityBound", "isMetBy", "(DD)Z"⟩ : MethodName) prog_64_method_5_code 6 (some .boolean) :: ws) ({ frames := 1, cells := 0, slots := 0, locals := 13 } : Room)) (fun a U => a = #[(.ref a1), (.double (4607182418800017408 : UInt64)), (.double (0 : UInt64))] ∧ Z.Warmed39 U.vm ∧ U.heap = h0) (fun _ _ _ _ _ => True) (fun _ U o U' => ∃ v L, o = .returned v ∧ Q_met3 Z w_GREATER_EQUAL w_GREATER w_LESS_EQUAL w_LESS a1 h0 n0 v U'.heap L ∧ FrameEnd U o U' L ({ frames := 1, cells := 0, slots := 0, locals := 13 } : Room).cells ({ frames := 1, cells := 0, slots := 0, locals := 13 } : Room).slots) := by
  refine MetFree.of_bodySF (plainFor_of_name pn_2) hisR ?_
  intro p e s m args below meth c s₁ Bd hml0 hP hK
  obtain ⟨rfl, hZ, hh⟩ := hP
  have hx := Bd.exec
  have hby := Bd.bytes
  have hml : c.maxLocals = 6 := hml0
  have hown : s.vm.findClass "com/example/inert_quotient/inertquotient/prism/ProbabilityBound" = some m.cls := findClass_of_methodNamed Bd.named
  have hnm := (name_of_methodNamed Bd.named Bd.method).1
  have X0 : Stand p l e ({ frames := 1, cells := 0, slots := 0, locals := 13 } : Room) s m #[(.ref a1), (.double (4607182418800017408 : UInt64)), (.double (0 : UInt64))] below meth c s₁ [] 0 0 := Stand.of_body Bd
  have e0 : s₁.heap = h0 := by rw [← hh, Bd.state]; rfl
  have N0 := Fr.nil n0
  obtain ⟨S_w_GREATER_EQUAL, E_w_GREATER_EQUAL, F_w_GREATER_EQUAL_ordinal, S_w_GREATER, E_w_GREATER, F_w_GREATER_ordinal, S_w_LESS_EQUAL, E_w_LESS_EQUAL, F_w_LESS_EQUAL_ordinal, S_w_LESS, E_w_LESS, F_w_LESS_ordinal⟩ := id G
  have k0 : Way p e below (s₁.setTop (entryFrame m #[(.ref a1), (.double (4607182418800017408 : UInt64)), (.double (0 : UInt64))] 6)) s₁ (mkF m 0 #[rv a1, .val (.double (4607182418800017408 : UInt64)), .second, .val (.double (0 : UInt64)), .second, .unset] []) := fun t k => castTop (by first | (simp [entryFrame, mkF, argsToLocals, Value.category]; done) | rfl) k
  generalize s₁.setTop (entryFrame m #[(.ref a1), (.double (4607182418800017408 : UInt64)), (.double (0 : UInt64))] 6) = S0 at k0 ⊢
  have k1 : Way p e below S0 s₁ (mkF m 2 #[rv a1, .val (.double (4607182418800017408 : UInt64)), .second, .val (.double (0 : UInt64)), .second, .unset] [(.ref a1), (.double (4607182418800017408 : UInt64))]) := by
    intro t k
    refine k0 t ?_
    refine XS.dloadN X0.here hx rfl (hb hby d_prog_64_method_5_code_0) rfl ?_
    show Steps p.tables e below (s₁.setTop (mkF m 1 #[rv a1, .val (.double (4607182418800017408 : UInt64)), .second, .val (.double (0 : UInt64)), .second, .unset] [(.double (4607182418800017408 : UInt64))])) _
    refine XS.aloadN X0.here hx rfl (hb hby d_prog_64_method_5_code_1) rfl rfl ?_
    show Steps p.tables e below (s₁.setTop (mkF m 2 #[rv a1, .val (.double (4607182418800017408 : UInt64)), .second, .val (.double (0 : UInt64)), .second, .unset] [(.ref a1), (.double (4607182418800017408 : UInt64))])) _
    exact k
  obtain ⟨T2, X2, e2, st2⟩ := getF X0 hx hZ hown (host := "") (Or.inl (hw _ (List.mem_of_getElem? (i := 20) rfl))) Via.refl e0 a_1 (g := (mkF m 2 #[rv a1, .val (.double (4607182418800017408 : UInt64)), .second, .val (.double (0 : UInt64)), .second, .unset] [(.ref a1), (.double (4607182418800017408 : UInt64))])) rfl rfl (hb hby d_prog_64_method_5_code_2)
  have k3 : Way p e below S0 T2 (mkF m 5 #[rv a1, .val (.double (4607182418800017408 : UInt64)), .second, .val (.double (0 : UInt64)), .second, .unset] [(.double (0 : UInt64)), (.double (4607182418800017408 : UInt64))]) := fun t k => k1 t (st2 _ k)
  have k4 : Way p e below S0 T2 (mkF m 6 #[rv a1, .val (.double (4607182418800017408 : UInt64)), .second, .val (.double (0 : UInt64)), .second, .unset] [(.double (4607182418800017408 : UInt64))]) := by
    intro t k
    refine k3 t ?_
    refine XS.dsubS X2.here hx rfl (hb hby d_prog_64_method_5_code_5) rfl (v := (4607182418800017408 : UInt64)) (show FP.dsub (4607182418800017408 : UInt64) (0 : UInt64) &&& 0x7fffffffffffffff ≤ 0x7ff0000000000000 by decide +kernel) (by decide +kernel) ?_
    show Steps p.tables e below (T2.setTop (mkF m 6 #[rv a1, .val (.double (4607182418800017408 : UInt64)), .second, .val (.double (0 : UInt64)), .second, .unset] [(.double (4607182418800017408 : UInt64))])) _
    exact k
  obtain ⟨v5, vm5, B5, -, X5, ⟨hB5, hv5⟩, st5⟩ := Jvm.LawKit.callS X2 hx (y := (⟨"java/lang/Math", "abs", "(D)D"⟩ : MethodName)) hown (mvT hZ (hw _ (List.mem_of_getElem? (i := 27) rfl))) (mvT hZ (hw _ (List.mem_of_getElem? (i := 28) rfl))) (mvT hZ (hw _ (List.mem_of_getElem? (i := 29) rfl))) (mvT hZ (hw _ (List.mem_of_getElem? (i := 30) rfl))) (by decide) (Jvm.Free.NT.Abs64.pays (W := 0) (mvT hZ (hw _ (List.mem_of_getElem? (i := 30) rfl))) (mvT hZ (hw _ (List.mem_of_getElem? (i := 28) rfl))) (by decide) (by decide)) (g := (mkF m 6 #[rv a1, .val (.double (4607182418800017408 : UInt64)), .second, .val (.double (0 : UInt64)), .second, .unset] [(.double (4607182418800017408 : UInt64))])) rfl (by rw [hml]; rfl) (argsL := [(.double (4607182418800017408 : UInt64))]) (rest := []) (lenOf pd_0 rfl) rfl (by show 2 * 0 + _ ≤ _; exact Nat.le_of_eq rfl) (hb hby d_prog_64_method_5_code_6) (fun _ _ => ⟨(4607182418800017408 : UInt64), rfl, by decide⟩)
  have hv5' := hv5 (4607182418800017408 : UInt64) ⟨rfl, by decide⟩
  subst hB5 hv5'
  dsimp only [Pt.U, Pt.locs, Pt.cells, Pt.slots] at X5 st5
  have e5 : (T2.setVm vm5).heap = h0 := e2
  have k6 : Way p e below S0 (T2.setVm vm5) (mkF m 9 #[rv a1, .val (.double (4607182418800017408 : UInt64)), .second, .val (.double (0 : UInt64)), .second, .unset] [(.double (4607182418800017408 : UInt64))]) := fun t k => k4 t (st5 _ k)
  have k7 : Way p e below S0 (T2.setVm vm5) (mkF m 11 #[rv a1, .val (.double (4607182418800017408 : UInt64)), .second, .val (.double (0 : UInt64)), .second, .unset] [(.ref a1), (.double (0 : UInt64)), (.double (4607182418800017408 : UInt64))]) := by
    intro t k
    refine k6 t ?_
    refine XS.dloadN X5.here hx rfl (hb hby d_prog_64_method_5_code_9) rfl ?_
    show Steps p.tables e below ((T2.setVm vm5).setTop (mkF m 10 #[rv a1, .val (.double (4607182418800017408 : UInt64)), .second, .val (.double (0 : UInt64)), .second, .unset] [(.double (0 : UInt64)), (.double (4607182418800017408 : UInt64))])) _
    refine XS.aloadN X5.here hx rfl (hb hby d_prog_64_method_5_code_10) rfl rfl ?_
    show Steps p.tables e below ((T2.setVm vm5).setTop (mkF m 11 #[rv a1, .val (.double (4607182418800017408 : UInt64)), .second, .val (.double (0 : UInt64)), .second, .unset] [(.ref a1), (.double (0 : UInt64)), (.double (4607182418800017408 : UInt64))])) _
    exact k
  obtain ⟨T8, X8, e8, st8⟩ := getF X5 hx hZ hown (host := "") (Or.inl (hw _ (List.mem_of_getElem? (i := 20) rfl))) Via.refl e5 a_1 (g := (mkF m 11 #[rv a1, .val (.double (4607182418800017408 : UInt64)), .second, .val (.double (0 : UInt64)), .second, .unset] [(.ref a1), (.double (0 : UInt64)), (.double (4607182418800017408 : UInt64))])) rfl rfl (hb hby d_prog_64_method_5_code_11)
  have k9 : Way p e below S0 T8 (mkF m 14 #[rv a1, .val (.double (4607182418800017408 : UInt64)), .second, .val (.double (0 : UInt64)), .second, .unset] [(.double (0 : UInt64)), (.double (0 : UInt64)), (.double (4607182418800017408 : UInt64))]) := fun t k => k7 t (st8 _ k)
  have k10 : Way p e below S0 T8 (mkF m 27 #[rv a1, .val (.double (4607182418800017408 : UInt64)), .second, .val (.double (0 : UInt64)), .second, iv (0 : Int32)] [(.ref a1)]) := by
    intro t k
    refine k9 t ?_
    refine XS.dmulS X8.here hx rfl (hb hby d_prog_64_method_5_code_14) rfl (v := (0 : UInt64)) (show FP.dmul (0 : UInt64) (0 : UInt64) &&& 0x7fffffffffffffff ≤ 0x7ff0000000000000 by decide +kernel) (by decide +kernel) ?_
    show Steps p.tables e below (T8.setTop (mkF m 15 #[rv a1, .val (.double (4607182418800017408 : UInt64)), .second, .val (.double (0 : UInt64)), .second, .unset] [(.double (0 : UInt64)), (.double (4607182418800017408 : UInt64))])) _
    refine XS.dcmpS X8.here hx rfl (hb hby d_prog_64_method_5_code_15) rfl (v := (1 : Int32)) (by decide +kernel) ?_
    show Steps p.tables e below (T8.setTop (mkF m 16 #[rv a1, .val (.double (4607182418800017408 : UInt64)), .second, .val (.double (0 : UInt64)), .second, .unset] [(.int (1 : Int32))])) _
    refine XS.ifYes X8.here hx rfl (pc0 := 16) (pc' := 23) rfl (hb hby d_prog_64_method_5_code_16) rfl ((if0 _ _).trans (tlt ((by decide) : (0 : Int32) < (1 : Int32))).2.2.1) (by decide) (by decide) ?_
    show Steps p.tables e below (T8.setTop (mkF m 23 #[rv a1, .val (.double (4607182418800017408 : UInt64)), .second, .val (.double (0 : UInt64)), .second, .unset] [])) _
    refine XS.iconst X8.here hx rfl (hb hby d_prog_64_method_5_code_23) ?_
    show Steps p.tables e below (T8.setTop (mkF m 24 #[rv a1, .val (.double (4607182418800017408 : UInt64)), .second, .val (.double (0 : UInt64)), .second, .unset] [(.int (0 : Int32))])) _
    refine XS.istore X8.here hx rfl (hb hby d_prog_64_method_5_code_24) rfl (l' := #[rv a1, .val (.double (4607182418800017408 : UInt64)), .second, .val (.double (0 : UInt64)), .second, iv (0 : Int32)]) rfl ?_
    show Steps p.tables e below (T8.setTop (mkF m 26 #[rv a1, .val (.double (4607182418800017408 : UInt64)), .second, .val (.double (0 : UInt64)), .second, iv (0 : Int32)] [])) _
    refine XS.aloadN X8.here hx rfl (hb hby d_prog_64_method_5_code_26) rfl rfl ?_
    show Steps p.tables e below (T8.setTop (mkF m 27 #[rv a1, .val (.double (4607182418800017408 : UInt64)), .second, .val (.double (0 : UInt64)), .second, iv (0 : Int32)] [(.ref a1)])) _
    exact k
  obtain ⟨T11, X11, e11, st11⟩ := getF X8 hx hZ hown (host := "") (Or.inl (hw _ (List.mem_of_getElem? (i := 18) rfl))) Via.refl e8 a_0 (g := (mkF m 27 #[rv a1, .val (.double (4607182418800017408 : UInt64)), .second, .val (.double (0 : UInt64)), .second, iv (0 : Int32)] [(.ref a1)])) rfl rfl (hb hby d_prog_64_method_5_code_27)
  have k12 : Way p e below S0 T11 (mkF m 30 #[rv a1, .val (.double (4607182418800017408 : UInt64)), .second, .val (.double (0 : UInt64)), .second, iv (0 : Int32)] [(.ref w_LESS)]) := fun t k => k10 t (st11 _ k)
  obtain ⟨cq13, kq13, qq13a, qq13b, qq13c⟩ := isOf hZ e11 (E_w_LESS.ext O0.2)
  obtain ⟨_, _, ⟨T13, L13, kk13, nn13⟩, -, X13, ⟨Lc13, hQ13, l13, y13, z13⟩, st13⟩ := X11.virtualBackUp hx (owner := "java/lang/Enum") (x := (⟨"com/example/inert_quotient/inertquotient/prism/ProbabilityBound$Relation", "ordinal", "()I"⟩ : MethodName)) (y := (⟨"java/lang/Enum", "ordinal", "()I"⟩ : MethodName)) hown (mvT hZ (hw _ (List.mem_of_getElem? (i := 31) rfl))) (mvT hZ (hw _ (List.mem_of_getElem? (i := 32) rfl))) (mvT hZ (hw _ (List.mem_of_getElem? (i := 33) rfl))) (by decide) (mvT hZ (hw _ (List.mem_of_getElem? (i := 35) rfl))) (mvT hZ (hw _ (List.mem_of_getElem? (i := 34) rfl))) (backOf (W := 0) (ord l Z a0 hw [] w_GREATER_EQUAL w_GREATER w_LESS_EQUAL w_LESS G w_LESS (3 : Int32) h0 n0 O0 ((F_w_LESS_ordinal.ext O0.2) : Fld Z h0 w_LESS "java/lang/Enum" "ordinal" "I" (.int (3 : Int32)))) hZ (hw _ (List.mem_of_getElem? (i := 37) rfl)) (hw _ (List.mem_of_getElem? (i := 36) rfl)) (by decide) (by decide)) qq13a qq13c (g := (mkF m 30 #[rv a1, .val (.double (4607182418800017408 : UInt64)), .second, .val (.double (0 : UInt64)), .second, iv (0 : Int32)] [(.ref w_LESS)])) rfl (by rw [hml]; rfl) (Steps.refl _) (argsL := []) (rest := []) (lenOf pd_1 rfl) rfl (by show 2 * 0 + _ ≤ _; exact Nat.le_of_eq rfl) (hb hby d_prog_64_method_5_code_30) (fun _ _ => ⟨rfl, e11, (by decide : 0 + 0 ≤ _), (by decide : 0 + 0 ≤ _)⟩)
  dsimp only [Pt.U, Pt.locs, Pt.cells, Pt.slots] at X13 l13 y13 z13 st13 hQ13
  subst l13 y13 z13
  obtain ⟨rfl, Nq13, e13⟩ := hQ13
  have N13 := Fr.app N0 Nq13
  have k14 : Way p e below S0 T13 (mkF m 33 #[rv a1, .val (.double (4607182418800017408 : UInt64)), .second, .val (.double (0 : UInt64)), .second, iv (0 : Int32)] [(.int (3 : Int32))]) := fun t k => k12 t (st13.trans k)
  have k15 : Way p e below S0 T13 (mkF m 142 #[rv a1, .val (.double (4607182418800017408 : UInt64)), .second, .val (.double (0 : UInt64)), .second, iv (0 : Int32)] [(.ref a1), (.double (4607182418800017408 : UInt64))]) := by
    intro t k
    refine k14 t ?_
    refine XS.tswIn X13.here hx rfl (pc0 := 33) (pc' := 140) rfl (hb hby d_prog_64_method_5_code_33) (i := (3 : Int32)) rfl (by decide) (o := 107) (by decide) (by decide) (by decide) ?_
    show Steps p.tables e below (T13.setTop (mkF m 140 #[rv a1, .val (.double (4607182418800017408 : UInt64)), .second, .val (.double (0 : UInt64)), .second, iv (0 : Int32)] [])) _
    refine XS.dloadN X13.here hx rfl (hb hby d_prog_64_method_5_code_140) rfl ?_
    show Steps p.tables e below (T13.setTop (mkF m 141 #[rv a1, .val (.double (4607182418800017408 : UInt64)), .second, .val (.double (0 : UInt64)), .second, iv (0 : Int32)] [(.double (4607182418800017408 : UInt64))])) _
    refine XS.aloadN X13.here hx rfl (hb hby d_prog_64_method_5_code_141) rfl rfl ?_
    show Steps p.tables e below (T13.setTop (mkF m 142 #[rv a1, .val (.double (4607182418800017408 : UInt64)), .second, .val (.double (0 : UInt64)), .second, iv (0 : Int32)] [(.ref a1), (.double (4607182418800017408 : UInt64))])) _
    exact k
  obtain ⟨T16, X16, e16, st16⟩ := getF X13 hx hZ hown (host := "") (Or.inl (hw _ (List.mem_of_getElem? (i := 20) rfl))) Via.refl e13 a_1 (g := (mkF m 142 #[rv a1, .val (.double (4607182418800017408 : UInt64)), .second, .val (.double (0 : UInt64)), .second, iv (0 : Int32)] [(.ref a1), (.double (4607182418800017408 : UInt64))])) rfl rfl (hb hby d_prog_64_method_5_code_142)
  have k17 : Way p e below S0 T16 (mkF m 145 #[rv a1, .val (.double (4607182418800017408 : UInt64)), .second, .val (.double (0 : UInt64)), .second, iv (0 : Int32)] [(.double (0 : UInt64)), (.double (4607182418800017408 : UInt64))]) := fun t k => k15 t (st16 _ k)
  have k18 : Way p e below S0 T16 (mkF m 159 #[rv a1, .val (.double (4607182418800017408 : UInt64)), .second, .val (.double (0 : UInt64)), .second, iv (0 : Int32)] [(.int (0 : Int32))]) := by
    intro t k
    refine k17 t ?_
    refine XS.dcmpS X16.here hx rfl (hb hby d_prog_64_method_5_code_145) rfl (v := (1 : Int32)) (by decide +kernel) ?_
    show Steps p.tables e below (T16.setTop (mkF m 146 #[rv a1, .val (.double (4607182418800017408 : UInt64)), .second, .val (.double (0 : UInt64)), .second, iv (0 : Int32)] [(.int (1 : Int32))])) _
    refine XS.ifYes X16.here hx rfl (pc0 := 146) (pc' := 158) rfl (hb hby d_prog_64_method_5_code_146) rfl ((if0 _ _).trans (flt ((by decide) : ¬ ((1 : Int32) < (0 : Int32)))).2.1) (by decide) (by decide) ?_
    show Steps p.tables e below (T16.setTop (mkF m 158 #[rv a1, .val (.double (4607182418800017408 : UInt64)), .second, .val (.double (0 : UInt64)), .second, iv (0 : Int32)] [])) _
    refine XS.iconst X16.here hx rfl (hb hby d_prog_64_method_5_code_158) ?_
    show Steps p.tables e below (T16.setTop (mkF m 159 #[rv a1, .val (.double (4607182418800017408 : UInt64)), .second, .val (.double (0 : UInt64)), .second, iv (0 : Int32)] [(.int (0 : Int32))])) _
    exact k
  obtain ⟨fs, hr, hrun, hended, hW, hsame⟩ := X16.leave (v := some (.int (0 : Int32))) (fun h => by rw [Bd.returns] at h; cases h)
  refine ⟨_, _, k18 _ (retN X16 hx (t := .boolean) Bd.returns (by simp) (hb hby d_prog_64_method_5_code_159) hr), hrun, hended, _, _, rfl, ?_, ⟨_, rfl⟩, hW, hsame.mono (by decide) (by decide)⟩
  show Q_met3 Z w_GREATER_EQUAL w_GREATER w_LESS_EQUAL w_LESS a1 h0 n0 _ T16.heap _
  rw [e16]
  exact ⟨rfl, N13, rfl⟩
def Q_law_met (Z : State) (w_GREATER_EQUAL : Addr) (w_GREATER : Addr) (w_LESS_EQUAL : Addr) (w_LESS : Addr) (p1 : Int32) (h0 : Heap) (n0 : Nat) (v : Option Value) (h : Heap) (L : List Loc) : Prop := (v = some (.int (1 : Int32))) ∧ (Fr n0 L)
set_option maxRecDepth 65536 in
set_option maxHeartbeats 40000000 in
theorem law_met (l : Launch) (Z : State) (a0 : Array Value) (hw : ∀ d ∈ tables_1, d.before a0 Z = true) (ws : List Jvm.Cond) (w_GREATER_EQUAL : Addr) (w_GREATER : Addr) (w_LESS_EQUAL : Addr) (w_LESS : Addr) (G : Gst Z w_GREATER_EQUAL w_GREATER w_LESS_EQUAL w_LESS) (p1 : Int32) (h0 : Heap) (n0 : Nat) (O0 : Old Z n0 h0) :
    MetFree l x (head1 (Jvm.Cond.code x code maxLocals ret :: ws) room_1) (fun a U => a = #[(.int p1)] ∧ Z.Warmed39 U.vm ∧ U.heap = h0) (fun _ _ _ _ _ => True) (fun _ U o U' => ∃ v L, o = .returned v ∧ Q_law_met Z w_GREATER_EQUAL w_GREATER w_LESS_EQUAL w_LESS p1 h0 n0 v U'.heap L ∧ FrameEnd U o U' L 16 128) := by
  refine MetFree.of_bodySF (plainFor_of_name pn_3) hisR ?_
  intro p e s m args below meth c s₁ Bd hml0 hP hK
  obtain ⟨rfl, hZ, hh⟩ := hP
  have hx := Bd.exec
  have hby := Bd.bytes
  have hml : c.maxLocals = 6 := hml0
  have hown : s.vm.findClass "com/example/inert_quotient/inertquotient/prism/RelationIsLowerPinLaw" = some m.cls := findClass_of_methodNamed Bd.named
  have hnm := (name_of_methodNamed Bd.named Bd.method).1
  have X0 : Stand p l e room_1 s m #[(.int p1)] below meth c s₁ [] 0 0 := Stand.of_body Bd
  have e0 : s₁.heap = h0 := by rw [← hh, Bd.state]; rfl
  have N0 := Fr.nil n0
  obtain ⟨S_w_GREATER_EQUAL, E_w_GREATER_EQUAL, F_w_GREATER_EQUAL_ordinal, S_w_GREATER, E_w_GREATER, F_w_GREATER_ordinal, S_w_LESS_EQUAL, E_w_LESS_EQUAL, F_w_LESS_EQUAL_ordinal, S_w_LESS, E_w_LESS, F_w_LESS_ordinal⟩ := id G
  have k0 : Way p e below (s₁.setTop (entryFrame m #[(.int p1)] maxLocals)) s₁ (mkF m 0 #[iv p1, .unset, .unset, .unset, .unset, .unset] []) := fun t k => castTop (by first | (simp [entryFrame, mkF, argsToLocals, Value.category, maxLocals]; done) | rfl) k
  generalize s₁.setTop (entryFrame m #[(.int p1)] maxLocals) = S0 at k0 ⊢
  have k1 : Way p e below S0 s₁ (mkF m 4 #[iv p1, iv (p1 &&& (3 : Int32)), .unset, .unset, .unset, .unset] []) := by
    intro t k
    refine k0 t ?_
    refine XS.iloadN X0.here hx rfl (hb hby at_0) rfl ?_
    show Steps p.tables e below (s₁.setTop (mkF m 1 #[iv p1, .unset, .unset, .unset, .unset, .unset] [(.int p1)])) _
    refine XS.iconst X0.here hx rfl (hb hby at_1) ?_
    show Steps p.tables e below (s₁.setTop (mkF m 2 #[iv p1, .unset, .unset, .unset, .unset, .unset] [(.int (3 : Int32)), (.int p1)])) _
    refine XS.iand X0.here hx rfl (hb hby at_2) rfl ?_
    show Steps p.tables e below (s₁.setTop (mkF m 3 #[iv p1, .unset, .unset, .unset, .unset, .unset] [(.int (p1 &&& (3 : Int32)))])) _
    refine XS.istoreN X0.here hx rfl (hb hby at_3) rfl (l' := #[iv p1, iv (p1 &&& (3 : Int32)), .unset, .unset, .unset, .unset]) rfl ?_
    show Steps p.tables e below (s₁.setTop (mkF m 4 #[iv p1, iv (p1 &&& (3 : Int32)), .unset, .unset, .unset, .unset] [])) _
    exact k
  have hr2 : (p1 &&& (3 : Int32)) = (0 : Int32) ∨ (p1 &&& (3 : Int32)) = (1 : Int32) ∨ (p1 &&& (3 : Int32)) = (2 : Int32) ∨ (p1 &&& (3 : Int32)) = (3 : Int32) := own_mask3 p1
  rcases hr2 with hi2 | hi2 | hi2 | hi2
  · have k3 : Way p e below S0 s₁ (mkF m 4 #[iv p1, iv (0 : Int32), .unset, .unset, .unset, .unset] []) := by have q := k1; rw [hi2] at q; exact q
    have k4 : Way p e below S0 s₁ (mkF m 8 #[iv p1, iv (0 : Int32), .unset, .unset, .unset, .unset] []) := by
      intro t k
      refine k3 t ?_
      refine XS.iloadN X0.here hx rfl (hb hby at_4) rfl ?_
      show Steps p.tables e below (s₁.setTop (mkF m 5 #[iv p1, iv (0 : Int32), .unset, .unset, .unset, .unset] [(.int (0 : Int32))])) _
      refine XS.ifNo X0.here hx rfl (hb hby at_5) rfl ((if0 _ _).trans (teq ((by decide) : (0 : Int32) = (0 : Int32))).2) ?_
      show Steps p.tables e below (s₁.setTop (mkF m 8 #[iv p1, iv (0 : Int32), .unset, .unset, .unset, .unset] [])) _
      exact k
    obtain ⟨T5, X5, e5, st5⟩ := getS2 X0 hx hZ hown (host := "") (Or.inl (hw _ (List.mem_of_getElem? (i := 0) rfl))) Via.refl e0 (S_w_GREATER_EQUAL.ext O0.2) (g := (mkF m 8 #[iv p1, iv (0 : Int32), .unset, .unset, .unset, .unset] [])) rfl (hb hby at_8)
    have k6 : Way p e below S0 T5 (mkF m 11 #[iv p1, iv (0 : Int32), .unset, .unset, .unset, .unset] [(.ref w_GREATER_EQUAL)]) := fun t k => k4 t (st5 _ k)
    have k7 : Way p e below S0 T5 (mkF m 52 #[iv p1, iv (0 : Int32), rv w_GREATER_EQUAL, iv (1 : Int32), .unset, .unset] [(.ref w_GREATER_EQUAL)]) := by
      intro t k
      refine k6 t ?_
      refine XS.astoreN X5.here hx rfl (hb hby at_11) rfl rfl (l' := #[iv p1, iv (0 : Int32), rv w_GREATER_EQUAL, .unset, .unset, .unset]) rfl ?_
      show Steps p.tables e below (T5.setTop (mkF m 12 #[iv p1, iv (0 : Int32), rv w_GREATER_EQUAL, .unset, .unset, .unset] [])) _
      refine XS.iconst X5.here hx rfl (hb hby at_12) ?_
      show Steps p.tables e below (T5.setTop (mkF m 13 #[iv p1, iv (0 : Int32), rv w_GREATER_EQUAL, .unset, .unset, .unset] [(.int (1 : Int32))])) _
      refine XS.istoreN X5.here hx rfl (hb hby at_13) rfl (l' := #[iv p1, iv (0 : Int32), rv w_GREATER_EQUAL, iv (1 : Int32), .unset, .unset]) rfl ?_
      show Steps p.tables e below (T5.setTop (mkF m 14 #[iv p1, iv (0 : Int32), rv w_GREATER_EQUAL, iv (1 : Int32), .unset, .unset] [])) _
      refine XS.goto X5.here hx rfl (pc0 := 14) (pc' := 51) rfl (hb hby at_14) (by decide) (by decide) ?_
      show Steps p.tables e below (T5.setTop (mkF m 51 #[iv p1, iv (0 : Int32), rv w_GREATER_EQUAL, iv (1 : Int32), .unset, .unset] [])) _
      refine XS.aloadN X5.here hx rfl (hb hby at_51) rfl rfl ?_
      show Steps p.tables e below (T5.setTop (mkF m 52 #[iv p1, iv (0 : Int32), rv w_GREATER_EQUAL, iv (1 : Int32), .unset, .unset] [(.ref w_GREATER_EQUAL)])) _
      exact k
    obtain ⟨cq8, kq8, qq8a, qq8b, qq8c⟩ := isOf hZ e5 (E_w_GREATER_EQUAL.ext O0.2)
    obtain ⟨_, _, ⟨T8, L8, kk8, nn8⟩, -, X8, ⟨Lc8, hQ8, l8, y8, z8⟩, st8⟩ := X5.virtualBack hx (y := (⟨"com/example/inert_quotient/inertquotient/prism/ProbabilityBound$Relation", "isLower", "()Z"⟩ : MethodName)) (z := (⟨"com/example/inert_quotient/inertquotient/prism/ProbabilityBound$Relation", "isLower", "()Z"⟩ : MethodName)) hown (mvT hZ (hw _ (List.mem_of_getElem? (i := 3) rfl))) (mvT hZ (hw _ (List.mem_of_getElem? (i := 4) rfl))) (notFace_of_selects (args := #[]) (mvT hZ (hw _ (List.mem_of_getElem? (i := 6) rfl)))) (mvT hZ (hw _ (List.mem_of_getElem? (i := 6) rfl))) (mvT hZ (hw _ (List.mem_of_getElem? (i := 5) rfl))) (by decide) (backOf (W := 0) (low0 l Z a0 hw [] w_GREATER_EQUAL w_GREATER w_LESS_EQUAL w_LESS G  h0 n0 O0 ) hZ (hw _ (List.mem_of_getElem? (i := 7) rfl)) (hw _ (List.mem_of_getElem? (i := 1) rfl)) (by decide) (by decide)) qq8a qq8c (g := (mkF m 52 #[iv p1, iv (0 : Int32), rv w_GREATER_EQUAL, iv (1 : Int32), .unset, .unset] [(.ref w_GREATER_EQUAL)])) rfl (by rw [hml]; rfl) (Steps.refl _) (argsL := []) (rest := []) (lenOf pd_2 rfl) rfl (by show 2 * 0 + _ ≤ _; exact Nat.le_of_eq rfl) (hb hby at_52) (fun _ _ => ⟨rfl, e5, (by decide : 0 + 0 ≤ _), (by decide : 0 + 0 ≤ _)⟩)
    dsimp only [Pt.U, Pt.locs, Pt.cells, Pt.slots] at X8 l8 y8 z8 st8 hQ8
    subst l8 y8 z8
    obtain ⟨rfl, Nq8, e8⟩ := hQ8
    have N8 := Fr.app N0 Nq8
    have k9 : Way p e below S0 T8 (mkF m 55 #[iv p1, iv (0 : Int32), rv w_GREATER_EQUAL, iv (1 : Int32), .unset, .unset] [(.int (1 : Int32))]) := fun t k => k7 t (st8.trans k)
    have k10 : Way p e below S0 T8 (mkF m 57 #[iv p1, iv (0 : Int32), rv w_GREATER_EQUAL, iv (1 : Int32), iv (1 : Int32), .unset] []) := by
      intro t k
      refine k9 t ?_
      refine XS.istore X8.here hx rfl (hb hby at_55) rfl (l' := #[iv p1, iv (0 : Int32), rv w_GREATER_EQUAL, iv (1 : Int32), iv (1 : Int32), .unset]) rfl ?_
      show Steps p.tables e below (T8.setTop (mkF m 57 #[iv p1, iv (0 : Int32), rv w_GREATER_EQUAL, iv (1 : Int32), iv (1 : Int32), .unset] [])) _
      exact k
    obtain ⟨T11, h11, X11, e11, E11, A11, D11, U11, st11⟩ := newO X8 hx hZ hown (hw _ (List.mem_of_getElem? (i := 9) rfl)) (hw _ (List.mem_of_getElem? (i := 10) rfl)) (hw _ (List.mem_of_getElem? (i := 11) rfl)) e8 (g := (mkF m 57 #[iv p1, iv (0 : Int32), rv w_GREATER_EQUAL, iv (1 : Int32), iv (1 : Int32), .unset] [])) rfl (hb hby at_57) (by decide) (by decide)
    obtain ⟨b11, g11⟩ : ∃ z, z = h0.size := ⟨_, rfl⟩
    rw [← g11] at A11 D11 U11 st11
    have O11 := O0.ext E11
    have i11_relation : Fld Z h11 b11 "com/example/inert_quotient/inertquotient/prism/ProbabilityBound" "relation" "Lcom/example/inert_quotient/inertquotient/prism/ProbabilityBound$Relation;" .null := D11 (Or.inr (hw _ (List.mem_of_getElem? (i := 19) rfl))) (ty := (.object "com/example/inert_quotient/inertquotient/prism/ProbabilityBound$Relation")) (by decide)
    have i11_probability : Fld Z h11 b11 "com/example/inert_quotient/inertquotient/prism/ProbabilityBound" "probability" "D" (.double (0 : UInt64)) := D11 (Or.inr (hw _ (List.mem_of_getElem? (i := 21) rfl))) (ty := .double) (by decide)
    have k12 : Way p e below S0 T11 (mkF m 60 #[iv p1, iv (0 : Int32), rv w_GREATER_EQUAL, iv (1 : Int32), iv (1 : Int32), .unset] [(.ref b11)]) := fun t k => k10 t (st11 _ k)
    have k13 : Way p e below S0 T11 (mkF m 63 #[iv p1, iv (0 : Int32), rv w_GREATER_EQUAL, iv (1 : Int32), iv (1 : Int32), .unset] [(.double (0 : UInt64)), (.ref w_GREATER_EQUAL), (.ref b11), (.ref b11)]) := by
      intro t k
      refine k12 t ?_
      refine XS.dup X11.here hx rfl (hb hby at_60) rfl rfl ?_
      show Steps p.tables e below (T11.setTop (mkF m 61 #[iv p1, iv (0 : Int32), rv w_GREATER_EQUAL, iv (1 : Int32), iv (1 : Int32), .unset] [(.ref b11), (.ref b11)])) _
      refine XS.aloadN X11.here hx rfl (hb hby at_61) rfl rfl ?_
      show Steps p.tables e below (T11.setTop (mkF m 62 #[iv p1, iv (0 : Int32), rv w_GREATER_EQUAL, iv (1 : Int32), iv (1 : Int32), .unset] [(.ref w_GREATER_EQUAL), (.ref b11), (.ref b11)])) _
      refine XS.dconst0 X11.here hx rfl (v := (0 : UInt64)) (hb hby at_62) (by decide +kernel) ?_
      show Steps p.tables e below (T11.setTop (mkF m 63 #[iv p1, iv (0 : Int32), rv w_GREATER_EQUAL, iv (1 : Int32), iv (1 : Int32), .unset] [(.double (0 : UInt64)), (.ref w_GREATER_EQUAL), (.ref b11), (.ref b11)])) _
      exact k
    have ge14 : n0 ≤ b11 := Nat.le_trans (own_old O0) (Nat.le_of_eq g11.symm)
    obtain ⟨_, _, ⟨T15, L15, kk15, nn15⟩, -, X15, ⟨Lc15, hQ15, l15, y15, z15⟩, st15⟩ := X11.specialBack hx (y := (⟨"com/example/inert_quotient/inertquotient/prism/ProbabilityBound", "<init>", "(Lcom/example/inert_quotient/inertquotient/prism/ProbabilityBound$Relation;D)V"⟩ : MethodName)) rfl hown (mvT hZ (hw _ (List.mem_of_getElem? (i := 12) rfl))) (mvT hZ (hw _ (List.mem_of_getElem? (i := 13) rfl))) (mvT hZ (hw _ (List.mem_of_getElem? (i := 14) rfl))) (by decide) (backOf (W := 1) (init l Z a0 hw [] w_GREATER_EQUAL w_GREATER w_LESS_EQUAL w_LESS G b11 w_GREATER_EQUAL h11 n0 O11 (A11 : Exa Z h11 b11 "com/example/inert_quotient/inertquotient/prism/ProbabilityBound") (i11_relation : Fld Z h11 b11 "com/example/inert_quotient/inertquotient/prism/ProbabilityBound" "relation" "Lcom/example/inert_quotient/inertquotient/prism/ProbabilityBound$Relation;" .null) (i11_probability : Fld Z h11 b11 "com/example/inert_quotient/inertquotient/prism/ProbabilityBound" "probability" "D" (.double (0 : UInt64))) (ge14 : n0 ≤ b11)) hZ (hw _ (List.mem_of_getElem? (i := 14) rfl)) (hw _ (List.mem_of_getElem? (i := 11) rfl)) (by decide) (by decide)) (g := (mkF m 63 #[iv p1, iv (0 : Int32), rv w_GREATER_EQUAL, iv (1 : Int32), iv (1 : Int32), .unset] [(.double (0 : UInt64)), (.ref w_GREATER_EQUAL), (.ref b11), (.ref b11)])) rfl (by rw [hml]; rfl) (Steps.refl _) (a := b11) (argsL := [(.ref w_GREATER_EQUAL), (.double (0 : UInt64))]) (rest := [(.ref b11)]) (lenOf pd_3 rfl) rfl (by show 2 * 0 + _ ≤ _; exact Nat.le_of_eq rfl) (hb hby at_63) (fun _ _ => ⟨rfl, e11, (by decide : 1 + 0 ≤ _), (by decide : 2 + 0 ≤ _)⟩)
    dsimp only [Pt.U, Pt.locs, Pt.cells, Pt.slots] at X15 l15 y15 z15 st15 hQ15
    subst l15 y15 z15
    obtain ⟨rfl, Nq15, Kq15, po15_0, po15_1, po15_2⟩ := hQ15
    have N15 := Fr.app N8 Nq15
    have O15 := O11.keep Kq15 (allS ge14 all0)
    have k16 : Way p e below S0 T15 (mkF m 66 #[iv p1, iv (0 : Int32), rv w_GREATER_EQUAL, iv (1 : Int32), iv (1 : Int32), .unset] [(.ref b11)]) := fun t k => k13 t (st15.trans k)
    have k17 : Way p e below S0 T15 (mkF m 68 #[iv p1, iv (0 : Int32), rv w_GREATER_EQUAL, iv (1 : Int32), iv (1 : Int32), .unset] [(.double (0 : UInt64)), (.double (4607182418800017408 : UInt64)), (.ref b11)]) := by
      intro t k
      refine k16 t ?_
      refine XS.dconst1 X15.here hx rfl (v := (4607182418800017408 : UInt64)) (hb hby at_66) (by decide +kernel) ?_
      show Steps p.tables e below (T15.setTop (mkF m 67 #[iv p1, iv (0 : Int32), rv w_GREATER_EQUAL, iv (1 : Int32), iv (1 : Int32), .unset] [(.double (4607182418800017408 : UInt64)), (.ref b11)])) _
      refine XS.dconst0 X15.here hx rfl (v := (0 : UInt64)) (hb hby at_67) (by decide +kernel) ?_
      show Steps p.tables e below (T15.setTop (mkF m 68 #[iv p1, iv (0 : Int32), rv w_GREATER_EQUAL, iv (1 : Int32), iv (1 : Int32), .unset] [(.double (0 : UInt64)), (.double (4607182418800017408 : UInt64)), (.ref b11)])) _
      exact k
    obtain ⟨cq18, kq18, qq18a, qq18b, qq18c⟩ := isOf hZ rfl po15_0
    obtain ⟨_, _, ⟨T18, L18, kk18, nn18⟩, -, X18, ⟨Lc18, hQ18, l18, y18, z18⟩, st18⟩ := X15.virtualBack hx (y := (⟨"com/example/inert_quotient/inertquotient/prism/ProbabilityBound", "isMetBy", "(DD)Z"⟩ : MethodName)) (z := (⟨"com/example/inert_quotient/inertquotient/prism/ProbabilityBound", "isMetBy", "(DD)Z"⟩ : MethodName)) hown (mvT hZ (hw _ (List.mem_of_getElem? (i := 22) rfl))) (mvT hZ (hw _ (List.mem_of_getElem? (i := 23) rfl))) (notFace_of_selects (args := #[]) (mvT hZ (hw _ (List.mem_of_getElem? (i := 25) rfl)))) (mvT hZ (hw _ (List.mem_of_getElem? (i := 25) rfl))) (mvT hZ (hw _ (List.mem_of_getElem? (i := 24) rfl))) (by decide) (backOf (W := 0) (met0 l Z a0 hw [] w_GREATER_EQUAL w_GREATER w_LESS_EQUAL w_LESS G b11 T15.heap n0 O15 (po15_1 : Fld Z T15.heap b11 "com/example/inert_quotient/inertquotient/prism/ProbabilityBound" "relation" "Lcom/example/inert_quotient/inertquotient/prism/ProbabilityBound$Relation;" (.ref w_GREATER_EQUAL)) (po15_2 : Fld Z T15.heap b11 "com/example/inert_quotient/inertquotient/prism/ProbabilityBound" "probability" "D" (.double (0 : UInt64)))) hZ (hw _ (List.mem_of_getElem? (i := 26) rfl)) (hw _ (List.mem_of_getElem? (i := 11) rfl)) (by decide) (by decide)) qq18a qq18c (g := (mkF m 68 #[iv p1, iv (0 : Int32), rv w_GREATER_EQUAL, iv (1 : Int32), iv (1 : Int32), .unset] [(.double (0 : UInt64)), (.double (4607182418800017408 : UInt64)), (.ref b11)])) rfl (by rw [hml]; rfl) (Steps.refl _) (argsL := [(.double (4607182418800017408 : UInt64)), (.double (0 : UInt64))]) (rest := []) (lenOf pd_4 rfl) rfl (by show 2 * 0 + _ ≤ _; exact Nat.le_of_eq rfl) (hb hby at_68) (fun _ _ => ⟨rfl, rfl, (by decide : 1 + 0 ≤ _), (by decide : 2 + 0 ≤ _)⟩)
    dsimp only [Pt.U, Pt.locs, Pt.cells, Pt.slots] at X18 l18 y18 z18 st18 hQ18
    subst l18 y18 z18
    obtain ⟨rfl, Nq18, e18⟩ := hQ18
    have N18 := Fr.app N15 Nq18
    have k19 : Way p e below S0 T18 (mkF m 71 #[iv p1, iv (0 : Int32), rv w_GREATER_EQUAL, iv (1 : Int32), iv (1 : Int32), .unset] [(.int (1 : Int32))]) := fun t k => k17 t (st18.trans k)
    have k20 : Way p e below S0 T18 (mkF m 91 #[iv p1, iv (0 : Int32), rv w_GREATER_EQUAL, iv (1 : Int32), iv (1 : Int32), iv (1 : Int32)] [(.int (1 : Int32))]) := by
      intro t k
      refine k19 t ?_
      refine XS.istore X18.here hx rfl (hb hby at_71) rfl (l' := #[iv p1, iv (0 : Int32), rv w_GREATER_EQUAL, iv (1 : Int32), iv (1 : Int32), iv (1 : Int32)]) rfl ?_
      show Steps p.tables e below (T18.setTop (mkF m 73 #[iv p1, iv (0 : Int32), rv w_GREATER_EQUAL, iv (1 : Int32), iv (1 : Int32), iv (1 : Int32)] [])) _
      refine XS.iload X18.here hx rfl (hb hby at_73) rfl ?_
      show Steps p.tables e below (T18.setTop (mkF m 75 #[iv p1, iv (0 : Int32), rv w_GREATER_EQUAL, iv (1 : Int32), iv (1 : Int32), iv (1 : Int32)] [(.int (1 : Int32))])) _
      refine XS.iloadN X18.here hx rfl (hb hby at_75) rfl ?_
      show Steps p.tables e below (T18.setTop (mkF m 76 #[iv p1, iv (0 : Int32), rv w_GREATER_EQUAL, iv (1 : Int32), iv (1 : Int32), iv (1 : Int32)] [(.int (1 : Int32)), (.int (1 : Int32))])) _
      refine XS.icmpNo X18.here hx rfl (hb hby at_76) rfl (teq ((by decide) : (1 : Int32) = (1 : Int32))).2 ?_
      show Steps p.tables e below (T18.setTop (mkF m 79 #[iv p1, iv (0 : Int32), rv w_GREATER_EQUAL, iv (1 : Int32), iv (1 : Int32), iv (1 : Int32)] [])) _
      refine XS.iload X18.here hx rfl (hb hby at_79) rfl ?_
      show Steps p.tables e below (T18.setTop (mkF m 81 #[iv p1, iv (0 : Int32), rv w_GREATER_EQUAL, iv (1 : Int32), iv (1 : Int32), iv (1 : Int32)] [(.int (1 : Int32))])) _
      refine XS.iload X18.here hx rfl (hb hby at_81) rfl ?_
      show Steps p.tables e below (T18.setTop (mkF m 83 #[iv p1, iv (0 : Int32), rv w_GREATER_EQUAL, iv (1 : Int32), iv (1 : Int32), iv (1 : Int32)] [(.int (1 : Int32)), (.int (1 : Int32))])) _
      refine XS.icmpNo X18.here hx rfl (hb hby at_83) rfl (teq ((by decide) : (1 : Int32) = (1 : Int32))).2 ?_
      show Steps p.tables e below (T18.setTop (mkF m 86 #[iv p1, iv (0 : Int32), rv w_GREATER_EQUAL, iv (1 : Int32), iv (1 : Int32), iv (1 : Int32)] [])) _
      refine XS.iconst X18.here hx rfl (hb hby at_86) ?_
      show Steps p.tables e below (T18.setTop (mkF m 87 #[iv p1, iv (0 : Int32), rv w_GREATER_EQUAL, iv (1 : Int32), iv (1 : Int32), iv (1 : Int32)] [(.int (1 : Int32))])) _
      refine XS.goto X18.here hx rfl (pc0 := 87) (pc' := 91) rfl (hb hby at_87) (by decide) (by decide) ?_
      show Steps p.tables e below (T18.setTop (mkF m 91 #[iv p1, iv (0 : Int32), rv w_GREATER_EQUAL, iv (1 : Int32), iv (1 : Int32), iv (1 : Int32)] [(.int (1 : Int32))])) _
      exact k
    obtain ⟨fs, hr, hrun, hended, hW, hsame⟩ := X18.leave (v := some (.int (1 : Int32))) (fun h => by rw [Bd.returns] at h; cases h)
    refine ⟨_, _, k20 _ (retN X18 hx (t := .boolean) Bd.returns (by simp) (hb hby at_91) hr), hrun, hended, _, _, rfl, ?_, ⟨_, rfl⟩, hW, hsame.mono (by decide) (by decide)⟩
    show Q_law_met Z w_GREATER_EQUAL w_GREATER w_LESS_EQUAL w_LESS p1 h0 n0 _ T18.heap _
    rw [e18]
    exact ⟨rfl, N18⟩
  · have k21 : Way p e below S0 s₁ (mkF m 4 #[iv p1, iv (1 : Int32), .unset, .unset, .unset, .unset] []) := by have q := k1; rw [hi2] at q; exact q
    have k22 : Way p e below S0 s₁ (mkF m 22 #[iv p1, iv (1 : Int32), .unset, .unset, .unset, .unset] []) := by
      intro t k
      refine k21 t ?_
      refine XS.iloadN X0.here hx rfl (hb hby at_4) rfl ?_
      show Steps p.tables e below (s₁.setTop (mkF m 5 #[iv p1, iv (1 : Int32), .unset, .unset, .unset, .unset] [(.int (1 : Int32))])) _
      refine XS.ifYes X0.here hx rfl (pc0 := 5) (pc' := 17) rfl (hb hby at_5) rfl ((if0 _ _).trans (feq ((by decide) : ¬ ((1 : Int32) = (0 : Int32)))).2) (by decide) (by decide) ?_
      show Steps p.tables e below (s₁.setTop (mkF m 17 #[iv p1, iv (1 : Int32), .unset, .unset, .unset, .unset] [])) _
      refine XS.iloadN X0.here hx rfl (hb hby at_17) rfl ?_
      show Steps p.tables e below (s₁.setTop (mkF m 18 #[iv p1, iv (1 : Int32), .unset, .unset, .unset, .unset] [(.int (1 : Int32))])) _
      refine XS.iconst X0.here hx rfl (hb hby at_18) ?_
      show Steps p.tables e below (s₁.setTop (mkF m 19 #[iv p1, iv (1 : Int32), .unset, .unset, .unset, .unset] [(.int (1 : Int32)), (.int (1 : Int32))])) _
      refine XS.icmpNo X0.here hx rfl (hb hby at_19) rfl (teq ((by decide) : (1 : Int32) = (1 : Int32))).2 ?_
      show Steps p.tables e below (s₁.setTop (mkF m 22 #[iv p1, iv (1 : Int32), .unset, .unset, .unset, .unset] [])) _
      exact k
    obtain ⟨T23, X23, e23, st23⟩ := getS2 X0 hx hZ hown (host := "") (Or.inl (hw _ (List.mem_of_getElem? (i := 46) rfl))) Via.refl e0 (S_w_GREATER.ext O0.2) (g := (mkF m 22 #[iv p1, iv (1 : Int32), .unset, .unset, .unset, .unset] [])) rfl (hb hby at_22)
    have k24 : Way p e below S0 T23 (mkF m 25 #[iv p1, iv (1 : Int32), .unset, .unset, .unset, .unset] [(.ref w_GREATER)]) := fun t k => k22 t (st23 _ k)
    have k25 : Way p e below S0 T23 (mkF m 52 #[iv p1, iv (1 : Int32), rv w_GREATER, iv (1 : Int32), .unset, .unset] [(.ref w_GREATER)]) := by
      intro t k
      refine k24 t ?_
      refine XS.astoreN X23.here hx rfl (hb hby at_25) rfl rfl (l' := #[iv p1, iv (1 : Int32), rv w_GREATER, .unset, .unset, .unset]) rfl ?_
      show Steps p.tables e below (T23.setTop (mkF m 26 #[iv p1, iv (1 : Int32), rv w_GREATER, .unset, .unset, .unset] [])) _
      refine XS.iconst X23.here hx rfl (hb hby at_26) ?_
      show Steps p.tables e below (T23.setTop (mkF m 27 #[iv p1, iv (1 : Int32), rv w_GREATER, .unset, .unset, .unset] [(.int (1 : Int32))])) _
      refine XS.istoreN X23.here hx rfl (hb hby at_27) rfl (l' := #[iv p1, iv (1 : Int32), rv w_GREATER, iv (1 : Int32), .unset, .unset]) rfl ?_
      show Steps p.tables e below (T23.setTop (mkF m 28 #[iv p1, iv (1 : Int32), rv w_GREATER, iv (1 : Int32), .unset, .unset] [])) _
      refine XS.goto X23.here hx rfl (pc0 := 28) (pc' := 51) rfl (hb hby at_28) (by decide) (by decide) ?_
      show Steps p.tables e below (T23.setTop (mkF m 51 #[iv p1, iv (1 : Int32), rv w_GREATER, iv (1 : Int32), .unset, .unset] [])) _
      refine XS.aloadN X23.here hx rfl (hb hby at_51) rfl rfl ?_
      show Steps p.tables e below (T23.setTop (mkF m 52 #[iv p1, iv (1 : Int32), rv w_GREATER, iv (1 : Int32), .unset, .unset] [(.ref w_GREATER)])) _
      exact k
    obtain ⟨cq26, kq26, qq26a, qq26b, qq26c⟩ := isOf hZ e23 (E_w_GREATER.ext O0.2)
    obtain ⟨_, _, ⟨T26, L26, kk26, nn26⟩, -, X26, ⟨Lc26, hQ26, l26, y26, z26⟩, st26⟩ := X23.virtualBack hx (y := (⟨"com/example/inert_quotient/inertquotient/prism/ProbabilityBound$Relation", "isLower", "()Z"⟩ : MethodName)) (z := (⟨"com/example/inert_quotient/inertquotient/prism/ProbabilityBound$Relation", "isLower", "()Z"⟩ : MethodName)) hown (mvT hZ (hw _ (List.mem_of_getElem? (i := 3) rfl))) (mvT hZ (hw _ (List.mem_of_getElem? (i := 4) rfl))) (notFace_of_selects (args := #[]) (mvT hZ (hw _ (List.mem_of_getElem? (i := 6) rfl)))) (mvT hZ (hw _ (List.mem_of_getElem? (i := 6) rfl))) (mvT hZ (hw _ (List.mem_of_getElem? (i := 5) rfl))) (by decide) (backOf (W := 0) (low1 l Z a0 hw [] w_GREATER_EQUAL w_GREATER w_LESS_EQUAL w_LESS G  h0 n0 O0 ) hZ (hw _ (List.mem_of_getElem? (i := 7) rfl)) (hw _ (List.mem_of_getElem? (i := 1) rfl)) (by decide) (by decide)) qq26a qq26c (g := (mkF m 52 #[iv p1, iv (1 : Int32), rv w_GREATER, iv (1 : Int32), .unset, .unset] [(.ref w_GREATER)])) rfl (by rw [hml]; rfl) (Steps.refl _) (argsL := []) (rest := []) (lenOf pd_2 rfl) rfl (by show 2 * 0 + _ ≤ _; exact Nat.le_of_eq rfl) (hb hby at_52) (fun _ _ => ⟨rfl, e23, (by decide : 0 + 0 ≤ _), (by decide : 0 + 0 ≤ _)⟩)
    dsimp only [Pt.U, Pt.locs, Pt.cells, Pt.slots] at X26 l26 y26 z26 st26 hQ26
    subst l26 y26 z26
    obtain ⟨rfl, Nq26, e26⟩ := hQ26
    have N26 := Fr.app N0 Nq26
    have k27 : Way p e below S0 T26 (mkF m 55 #[iv p1, iv (1 : Int32), rv w_GREATER, iv (1 : Int32), .unset, .unset] [(.int (1 : Int32))]) := fun t k => k25 t (st26.trans k)
    have k28 : Way p e below S0 T26 (mkF m 57 #[iv p1, iv (1 : Int32), rv w_GREATER, iv (1 : Int32), iv (1 : Int32), .unset] []) := by
      intro t k
      refine k27 t ?_
      refine XS.istore X26.here hx rfl (hb hby at_55) rfl (l' := #[iv p1, iv (1 : Int32), rv w_GREATER, iv (1 : Int32), iv (1 : Int32), .unset]) rfl ?_
      show Steps p.tables e below (T26.setTop (mkF m 57 #[iv p1, iv (1 : Int32), rv w_GREATER, iv (1 : Int32), iv (1 : Int32), .unset] [])) _
      exact k
    obtain ⟨T29, h29, X29, e29, E29, A29, D29, U29, st29⟩ := newO X26 hx hZ hown (hw _ (List.mem_of_getElem? (i := 9) rfl)) (hw _ (List.mem_of_getElem? (i := 10) rfl)) (hw _ (List.mem_of_getElem? (i := 11) rfl)) e26 (g := (mkF m 57 #[iv p1, iv (1 : Int32), rv w_GREATER, iv (1 : Int32), iv (1 : Int32), .unset] [])) rfl (hb hby at_57) (by decide) (by decide)
    obtain ⟨b29, g29⟩ : ∃ z, z = h0.size := ⟨_, rfl⟩
    rw [← g29] at A29 D29 U29 st29
    have O29 := O0.ext E29
    have i29_relation : Fld Z h29 b29 "com/example/inert_quotient/inertquotient/prism/ProbabilityBound" "relation" "Lcom/example/inert_quotient/inertquotient/prism/ProbabilityBound$Relation;" .null := D29 (Or.inr (hw _ (List.mem_of_getElem? (i := 19) rfl))) (ty := (.object "com/example/inert_quotient/inertquotient/prism/ProbabilityBound$Relation")) (by decide)
    have i29_probability : Fld Z h29 b29 "com/example/inert_quotient/inertquotient/prism/ProbabilityBound" "probability" "D" (.double (0 : UInt64)) := D29 (Or.inr (hw _ (List.mem_of_getElem? (i := 21) rfl))) (ty := .double) (by decide)
    have k30 : Way p e below S0 T29 (mkF m 60 #[iv p1, iv (1 : Int32), rv w_GREATER, iv (1 : Int32), iv (1 : Int32), .unset] [(.ref b29)]) := fun t k => k28 t (st29 _ k)
    have k31 : Way p e below S0 T29 (mkF m 63 #[iv p1, iv (1 : Int32), rv w_GREATER, iv (1 : Int32), iv (1 : Int32), .unset] [(.double (0 : UInt64)), (.ref w_GREATER), (.ref b29), (.ref b29)]) := by
      intro t k
      refine k30 t ?_
      refine XS.dup X29.here hx rfl (hb hby at_60) rfl rfl ?_
      show Steps p.tables e below (T29.setTop (mkF m 61 #[iv p1, iv (1 : Int32), rv w_GREATER, iv (1 : Int32), iv (1 : Int32), .unset] [(.ref b29), (.ref b29)])) _
      refine XS.aloadN X29.here hx rfl (hb hby at_61) rfl rfl ?_
      show Steps p.tables e below (T29.setTop (mkF m 62 #[iv p1, iv (1 : Int32), rv w_GREATER, iv (1 : Int32), iv (1 : Int32), .unset] [(.ref w_GREATER), (.ref b29), (.ref b29)])) _
      refine XS.dconst0 X29.here hx rfl (v := (0 : UInt64)) (hb hby at_62) (by decide +kernel) ?_
      show Steps p.tables e below (T29.setTop (mkF m 63 #[iv p1, iv (1 : Int32), rv w_GREATER, iv (1 : Int32), iv (1 : Int32), .unset] [(.double (0 : UInt64)), (.ref w_GREATER), (.ref b29), (.ref b29)])) _
      exact k
    have ge32 : n0 ≤ b29 := Nat.le_trans (own_old O0) (Nat.le_of_eq g29.symm)
    obtain ⟨_, _, ⟨T33, L33, kk33, nn33⟩, -, X33, ⟨Lc33, hQ33, l33, y33, z33⟩, st33⟩ := X29.specialBack hx (y := (⟨"com/example/inert_quotient/inertquotient/prism/ProbabilityBound", "<init>", "(Lcom/example/inert_quotient/inertquotient/prism/ProbabilityBound$Relation;D)V"⟩ : MethodName)) rfl hown (mvT hZ (hw _ (List.mem_of_getElem? (i := 12) rfl))) (mvT hZ (hw _ (List.mem_of_getElem? (i := 13) rfl))) (mvT hZ (hw _ (List.mem_of_getElem? (i := 14) rfl))) (by decide) (backOf (W := 1) (init l Z a0 hw [] w_GREATER_EQUAL w_GREATER w_LESS_EQUAL w_LESS G b29 w_GREATER h29 n0 O29 (A29 : Exa Z h29 b29 "com/example/inert_quotient/inertquotient/prism/ProbabilityBound") (i29_relation : Fld Z h29 b29 "com/example/inert_quotient/inertquotient/prism/ProbabilityBound" "relation" "Lcom/example/inert_quotient/inertquotient/prism/ProbabilityBound$Relation;" .null) (i29_probability : Fld Z h29 b29 "com/example/inert_quotient/inertquotient/prism/ProbabilityBound" "probability" "D" (.double (0 : UInt64))) (ge32 : n0 ≤ b29)) hZ (hw _ (List.mem_of_getElem? (i := 14) rfl)) (hw _ (List.mem_of_getElem? (i := 11) rfl)) (by decide) (by decide)) (g := (mkF m 63 #[iv p1, iv (1 : Int32), rv w_GREATER, iv (1 : Int32), iv (1 : Int32), .unset] [(.double (0 : UInt64)), (.ref w_GREATER), (.ref b29), (.ref b29)])) rfl (by rw [hml]; rfl) (Steps.refl _) (a := b29) (argsL := [(.ref w_GREATER), (.double (0 : UInt64))]) (rest := [(.ref b29)]) (lenOf pd_3 rfl) rfl (by show 2 * 0 + _ ≤ _; exact Nat.le_of_eq rfl) (hb hby at_63) (fun _ _ => ⟨rfl, e29, (by decide : 1 + 0 ≤ _), (by decide : 2 + 0 ≤ _)⟩)
    dsimp only [Pt.U, Pt.locs, Pt.cells, Pt.slots] at X33 l33 y33 z33 st33 hQ33
    subst l33 y33 z33
    obtain ⟨rfl, Nq33, Kq33, po33_0, po33_1, po33_2⟩ := hQ33
    have N33 := Fr.app N26 Nq33
    have O33 := O29.keep Kq33 (allS ge32 all0)
    have k34 : Way p e below S0 T33 (mkF m 66 #[iv p1, iv (1 : Int32), rv w_GREATER, iv (1 : Int32), iv (1 : Int32), .unset] [(.ref b29)]) := fun t k => k31 t (st33.trans k)
    have k35 : Way p e below S0 T33 (mkF m 68 #[iv p1, iv (1 : Int32), rv w_GREATER, iv (1 : Int32), iv (1 : Int32), .unset] [(.double (0 : UInt64)), (.double (4607182418800017408 : UInt64)), (.ref b29)]) := by
      intro t k
      refine k34 t ?_
      refine XS.dconst1 X33.here hx rfl (v := (4607182418800017408 : UInt64)) (hb hby at_66) (by decide +kernel) ?_
      show Steps p.tables e below (T33.setTop (mkF m 67 #[iv p1, iv (1 : Int32), rv w_GREATER, iv (1 : Int32), iv (1 : Int32), .unset] [(.double (4607182418800017408 : UInt64)), (.ref b29)])) _
      refine XS.dconst0 X33.here hx rfl (v := (0 : UInt64)) (hb hby at_67) (by decide +kernel) ?_
      show Steps p.tables e below (T33.setTop (mkF m 68 #[iv p1, iv (1 : Int32), rv w_GREATER, iv (1 : Int32), iv (1 : Int32), .unset] [(.double (0 : UInt64)), (.double (4607182418800017408 : UInt64)), (.ref b29)])) _
      exact k
    obtain ⟨cq36, kq36, qq36a, qq36b, qq36c⟩ := isOf hZ rfl po33_0
    obtain ⟨_, _, ⟨T36, L36, kk36, nn36⟩, -, X36, ⟨Lc36, hQ36, l36, y36, z36⟩, st36⟩ := X33.virtualBack hx (y := (⟨"com/example/inert_quotient/inertquotient/prism/ProbabilityBound", "isMetBy", "(DD)Z"⟩ : MethodName)) (z := (⟨"com/example/inert_quotient/inertquotient/prism/ProbabilityBound", "isMetBy", "(DD)Z"⟩ : MethodName)) hown (mvT hZ (hw _ (List.mem_of_getElem? (i := 22) rfl))) (mvT hZ (hw _ (List.mem_of_getElem? (i := 23) rfl))) (notFace_of_selects (args := #[]) (mvT hZ (hw _ (List.mem_of_getElem? (i := 25) rfl)))) (mvT hZ (hw _ (List.mem_of_getElem? (i := 25) rfl))) (mvT hZ (hw _ (List.mem_of_getElem? (i := 24) rfl))) (by decide) (backOf (W := 0) (met1 l Z a0 hw [] w_GREATER_EQUAL w_GREATER w_LESS_EQUAL w_LESS G b29 T33.heap n0 O33 (po33_1 : Fld Z T33.heap b29 "com/example/inert_quotient/inertquotient/prism/ProbabilityBound" "relation" "Lcom/example/inert_quotient/inertquotient/prism/ProbabilityBound$Relation;" (.ref w_GREATER)) (po33_2 : Fld Z T33.heap b29 "com/example/inert_quotient/inertquotient/prism/ProbabilityBound" "probability" "D" (.double (0 : UInt64)))) hZ (hw _ (List.mem_of_getElem? (i := 26) rfl)) (hw _ (List.mem_of_getElem? (i := 11) rfl)) (by decide) (by decide)) qq36a qq36c (g := (mkF m 68 #[iv p1, iv (1 : Int32), rv w_GREATER, iv (1 : Int32), iv (1 : Int32), .unset] [(.double (0 : UInt64)), (.double (4607182418800017408 : UInt64)), (.ref b29)])) rfl (by rw [hml]; rfl) (Steps.refl _) (argsL := [(.double (4607182418800017408 : UInt64)), (.double (0 : UInt64))]) (rest := []) (lenOf pd_4 rfl) rfl (by show 2 * 0 + _ ≤ _; exact Nat.le_of_eq rfl) (hb hby at_68) (fun _ _ => ⟨rfl, rfl, (by decide : 1 + 0 ≤ _), (by decide : 2 + 0 ≤ _)⟩)
    dsimp only [Pt.U, Pt.locs, Pt.cells, Pt.slots] at X36 l36 y36 z36 st36 hQ36
    subst l36 y36 z36
    obtain ⟨rfl, Nq36, e36⟩ := hQ36
    have N36 := Fr.app N33 Nq36
    have k37 : Way p e below S0 T36 (mkF m 71 #[iv p1, iv (1 : Int32), rv w_GREATER, iv (1 : Int32), iv (1 : Int32), .unset] [(.int (1 : Int32))]) := fun t k => k35 t (st36.trans k)
    have k38 : Way p e below S0 T36 (mkF m 91 #[iv p1, iv (1 : Int32), rv w_GREATER, iv (1 : Int32), iv (1 : Int32), iv (1 : Int32)] [(.int (1 : Int32))]) := by
      intro t k
      refine k37 t ?_
      refine XS.istore X36.here hx rfl (hb hby at_71) rfl (l' := #[iv p1, iv (1 : Int32), rv w_GREATER, iv (1 : Int32), iv (1 : Int32), iv (1 : Int32)]) rfl ?_
      show Steps p.tables e below (T36.setTop (mkF m 73 #[iv p1, iv (1 : Int32), rv w_GREATER, iv (1 : Int32), iv (1 : Int32), iv (1 : Int32)] [])) _
      refine XS.iload X36.here hx rfl (hb hby at_73) rfl ?_
      show Steps p.tables e below (T36.setTop (mkF m 75 #[iv p1, iv (1 : Int32), rv w_GREATER, iv (1 : Int32), iv (1 : Int32), iv (1 : Int32)] [(.int (1 : Int32))])) _
      refine XS.iloadN X36.here hx rfl (hb hby at_75) rfl ?_
      show Steps p.tables e below (T36.setTop (mkF m 76 #[iv p1, iv (1 : Int32), rv w_GREATER, iv (1 : Int32), iv (1 : Int32), iv (1 : Int32)] [(.int (1 : Int32)), (.int (1 : Int32))])) _
      refine XS.icmpNo X36.here hx rfl (hb hby at_76) rfl (teq ((by decide) : (1 : Int32) = (1 : Int32))).2 ?_
      show Steps p.tables e below (T36.setTop (mkF m 79 #[iv p1, iv (1 : Int32), rv w_GREATER, iv (1 : Int32), iv (1 : Int32), iv (1 : Int32)] [])) _
      refine XS.iload X36.here hx rfl (hb hby at_79) rfl ?_
      show Steps p.tables e below (T36.setTop (mkF m 81 #[iv p1, iv (1 : Int32), rv w_GREATER, iv (1 : Int32), iv (1 : Int32), iv (1 : Int32)] [(.int (1 : Int32))])) _
      refine XS.iload X36.here hx rfl (hb hby at_81) rfl ?_
      show Steps p.tables e below (T36.setTop (mkF m 83 #[iv p1, iv (1 : Int32), rv w_GREATER, iv (1 : Int32), iv (1 : Int32), iv (1 : Int32)] [(.int (1 : Int32)), (.int (1 : Int32))])) _
      refine XS.icmpNo X36.here hx rfl (hb hby at_83) rfl (teq ((by decide) : (1 : Int32) = (1 : Int32))).2 ?_
      show Steps p.tables e below (T36.setTop (mkF m 86 #[iv p1, iv (1 : Int32), rv w_GREATER, iv (1 : Int32), iv (1 : Int32), iv (1 : Int32)] [])) _
      refine XS.iconst X36.here hx rfl (hb hby at_86) ?_
      show Steps p.tables e below (T36.setTop (mkF m 87 #[iv p1, iv (1 : Int32), rv w_GREATER, iv (1 : Int32), iv (1 : Int32), iv (1 : Int32)] [(.int (1 : Int32))])) _
      refine XS.goto X36.here hx rfl (pc0 := 87) (pc' := 91) rfl (hb hby at_87) (by decide) (by decide) ?_
      show Steps p.tables e below (T36.setTop (mkF m 91 #[iv p1, iv (1 : Int32), rv w_GREATER, iv (1 : Int32), iv (1 : Int32), iv (1 : Int32)] [(.int (1 : Int32))])) _
      exact k
    obtain ⟨fs, hr, hrun, hended, hW, hsame⟩ := X36.leave (v := some (.int (1 : Int32))) (fun h => by rw [Bd.returns] at h; cases h)
    refine ⟨_, _, k38 _ (retN X36 hx (t := .boolean) Bd.returns (by simp) (hb hby at_91) hr), hrun, hended, _, _, rfl, ?_, ⟨_, rfl⟩, hW, hsame.mono (by decide) (by decide)⟩
    show Q_law_met Z w_GREATER_EQUAL w_GREATER w_LESS_EQUAL w_LESS p1 h0 n0 _ T36.heap _
    rw [e36]
    exact ⟨rfl, N36⟩
  · have k39 : Way p e below S0 s₁ (mkF m 4 #[iv p1, iv (2 : Int32), .unset, .unset, .unset, .unset] []) := by have q := k1; rw [hi2] at q; exact q
    have k40 : Way p e below S0 s₁ (mkF m 36 #[iv p1, iv (2 : Int32), .unset, .unset, .unset, .unset] []) := by
      intro t k
      refine k39 t ?_
      refine XS.iloadN X0.here hx rfl (hb hby at_4) rfl ?_
      show Steps p.tables e below (s₁.setTop (mkF m 5 #[iv p1, iv (2 : Int32), .unset, .unset, .unset, .unset] [(.int (2 : Int32))])) _
      refine XS.ifYes X0.here hx rfl (pc0 := 5) (pc' := 17) rfl (hb hby at_5) rfl ((if0 _ _).trans (feq ((by decide) : ¬ ((2 : Int32) = (0 : Int32)))).2) (by decide) (by decide) ?_
      show Steps p.tables e below (s₁.setTop (mkF m 17 #[iv p1, iv (2 : Int32), .unset, .unset, .unset, .unset] [])) _
      refine XS.iloadN X0.here hx rfl (hb hby at_17) rfl ?_
      show Steps p.tables e below (s₁.setTop (mkF m 18 #[iv p1, iv (2 : Int32), .unset, .unset, .unset, .unset] [(.int (2 : Int32))])) _
      refine XS.iconst X0.here hx rfl (hb hby at_18) ?_
      show Steps p.tables e below (s₁.setTop (mkF m 19 #[iv p1, iv (2 : Int32), .unset, .unset, .unset, .unset] [(.int (1 : Int32)), (.int (2 : Int32))])) _
      refine XS.icmpYes X0.here hx rfl (pc0 := 19) (pc' := 31) rfl (hb hby at_19) rfl (feq ((by decide) : ¬ ((2 : Int32) = (1 : Int32)))).2 (by decide) (by decide) ?_
      show Steps p.tables e below (s₁.setTop (mkF m 31 #[iv p1, iv (2 : Int32), .unset, .unset, .unset, .unset] [])) _
      refine XS.iloadN X0.here hx rfl (hb hby at_31) rfl ?_
      show Steps p.tables e below (s₁.setTop (mkF m 32 #[iv p1, iv (2 : Int32), .unset, .unset, .unset, .unset] [(.int (2 : Int32))])) _
      refine XS.iconst X0.here hx rfl (hb hby at_32) ?_
      show Steps p.tables e below (s₁.setTop (mkF m 33 #[iv p1, iv (2 : Int32), .unset, .unset, .unset, .unset] [(.int (2 : Int32)), (.int (2 : Int32))])) _
      refine XS.icmpNo X0.here hx rfl (hb hby at_33) rfl (teq ((by decide) : (2 : Int32) = (2 : Int32))).2 ?_
      show Steps p.tables e below (s₁.setTop (mkF m 36 #[iv p1, iv (2 : Int32), .unset, .unset, .unset, .unset] [])) _
      exact k
    obtain ⟨T41, X41, e41, st41⟩ := getS2 X0 hx hZ hown (host := "") (Or.inl (hw _ (List.mem_of_getElem? (i := 44) rfl))) Via.refl e0 (S_w_LESS_EQUAL.ext O0.2) (g := (mkF m 36 #[iv p1, iv (2 : Int32), .unset, .unset, .unset, .unset] [])) rfl (hb hby at_36)
    have k42 : Way p e below S0 T41 (mkF m 39 #[iv p1, iv (2 : Int32), .unset, .unset, .unset, .unset] [(.ref w_LESS_EQUAL)]) := fun t k => k40 t (st41 _ k)
    have k43 : Way p e below S0 T41 (mkF m 52 #[iv p1, iv (2 : Int32), rv w_LESS_EQUAL, iv (0 : Int32), .unset, .unset] [(.ref w_LESS_EQUAL)]) := by
      intro t k
      refine k42 t ?_
      refine XS.astoreN X41.here hx rfl (hb hby at_39) rfl rfl (l' := #[iv p1, iv (2 : Int32), rv w_LESS_EQUAL, .unset, .unset, .unset]) rfl ?_
      show Steps p.tables e below (T41.setTop (mkF m 40 #[iv p1, iv (2 : Int32), rv w_LESS_EQUAL, .unset, .unset, .unset] [])) _
      refine XS.iconst X41.here hx rfl (hb hby at_40) ?_
      show Steps p.tables e below (T41.setTop (mkF m 41 #[iv p1, iv (2 : Int32), rv w_LESS_EQUAL, .unset, .unset, .unset] [(.int (0 : Int32))])) _
      refine XS.istoreN X41.here hx rfl (hb hby at_41) rfl (l' := #[iv p1, iv (2 : Int32), rv w_LESS_EQUAL, iv (0 : Int32), .unset, .unset]) rfl ?_
      show Steps p.tables e below (T41.setTop (mkF m 42 #[iv p1, iv (2 : Int32), rv w_LESS_EQUAL, iv (0 : Int32), .unset, .unset] [])) _
      refine XS.goto X41.here hx rfl (pc0 := 42) (pc' := 51) rfl (hb hby at_42) (by decide) (by decide) ?_
      show Steps p.tables e below (T41.setTop (mkF m 51 #[iv p1, iv (2 : Int32), rv w_LESS_EQUAL, iv (0 : Int32), .unset, .unset] [])) _
      refine XS.aloadN X41.here hx rfl (hb hby at_51) rfl rfl ?_
      show Steps p.tables e below (T41.setTop (mkF m 52 #[iv p1, iv (2 : Int32), rv w_LESS_EQUAL, iv (0 : Int32), .unset, .unset] [(.ref w_LESS_EQUAL)])) _
      exact k
    obtain ⟨cq44, kq44, qq44a, qq44b, qq44c⟩ := isOf hZ e41 (E_w_LESS_EQUAL.ext O0.2)
    obtain ⟨_, _, ⟨T44, L44, kk44, nn44⟩, -, X44, ⟨Lc44, hQ44, l44, y44, z44⟩, st44⟩ := X41.virtualBack hx (y := (⟨"com/example/inert_quotient/inertquotient/prism/ProbabilityBound$Relation", "isLower", "()Z"⟩ : MethodName)) (z := (⟨"com/example/inert_quotient/inertquotient/prism/ProbabilityBound$Relation", "isLower", "()Z"⟩ : MethodName)) hown (mvT hZ (hw _ (List.mem_of_getElem? (i := 3) rfl))) (mvT hZ (hw _ (List.mem_of_getElem? (i := 4) rfl))) (notFace_of_selects (args := #[]) (mvT hZ (hw _ (List.mem_of_getElem? (i := 6) rfl)))) (mvT hZ (hw _ (List.mem_of_getElem? (i := 6) rfl))) (mvT hZ (hw _ (List.mem_of_getElem? (i := 5) rfl))) (by decide) (backOf (W := 0) (low2 l Z a0 hw [] w_GREATER_EQUAL w_GREATER w_LESS_EQUAL w_LESS G  h0 n0 O0 ) hZ (hw _ (List.mem_of_getElem? (i := 7) rfl)) (hw _ (List.mem_of_getElem? (i := 1) rfl)) (by decide) (by decide)) qq44a qq44c (g := (mkF m 52 #[iv p1, iv (2 : Int32), rv w_LESS_EQUAL, iv (0 : Int32), .unset, .unset] [(.ref w_LESS_EQUAL)])) rfl (by rw [hml]; rfl) (Steps.refl _) (argsL := []) (rest := []) (lenOf pd_2 rfl) rfl (by show 2 * 0 + _ ≤ _; exact Nat.le_of_eq rfl) (hb hby at_52) (fun _ _ => ⟨rfl, e41, (by decide : 0 + 0 ≤ _), (by decide : 0 + 0 ≤ _)⟩)
    dsimp only [Pt.U, Pt.locs, Pt.cells, Pt.slots] at X44 l44 y44 z44 st44 hQ44
    subst l44 y44 z44
    obtain ⟨rfl, Nq44, e44⟩ := hQ44
    have N44 := Fr.app N0 Nq44
    have k45 : Way p e below S0 T44 (mkF m 55 #[iv p1, iv (2 : Int32), rv w_LESS_EQUAL, iv (0 : Int32), .unset, .unset] [(.int (0 : Int32))]) := fun t k => k43 t (st44.trans k)
    have k46 : Way p e below S0 T44 (mkF m 57 #[iv p1, iv (2 : Int32), rv w_LESS_EQUAL, iv (0 : Int32), iv (0 : Int32), .unset] []) := by
      intro t k
      refine k45 t ?_
      refine XS.istore X44.here hx rfl (hb hby at_55) rfl (l' := #[iv p1, iv (2 : Int32), rv w_LESS_EQUAL, iv (0 : Int32), iv (0 : Int32), .unset]) rfl ?_
      show Steps p.tables e below (T44.setTop (mkF m 57 #[iv p1, iv (2 : Int32), rv w_LESS_EQUAL, iv (0 : Int32), iv (0 : Int32), .unset] [])) _
      exact k
    obtain ⟨T47, h47, X47, e47, E47, A47, D47, U47, st47⟩ := newO X44 hx hZ hown (hw _ (List.mem_of_getElem? (i := 9) rfl)) (hw _ (List.mem_of_getElem? (i := 10) rfl)) (hw _ (List.mem_of_getElem? (i := 11) rfl)) e44 (g := (mkF m 57 #[iv p1, iv (2 : Int32), rv w_LESS_EQUAL, iv (0 : Int32), iv (0 : Int32), .unset] [])) rfl (hb hby at_57) (by decide) (by decide)
    obtain ⟨b47, g47⟩ : ∃ z, z = h0.size := ⟨_, rfl⟩
    rw [← g47] at A47 D47 U47 st47
    have O47 := O0.ext E47
    have i47_relation : Fld Z h47 b47 "com/example/inert_quotient/inertquotient/prism/ProbabilityBound" "relation" "Lcom/example/inert_quotient/inertquotient/prism/ProbabilityBound$Relation;" .null := D47 (Or.inr (hw _ (List.mem_of_getElem? (i := 19) rfl))) (ty := (.object "com/example/inert_quotient/inertquotient/prism/ProbabilityBound$Relation")) (by decide)
    have i47_probability : Fld Z h47 b47 "com/example/inert_quotient/inertquotient/prism/ProbabilityBound" "probability" "D" (.double (0 : UInt64)) := D47 (Or.inr (hw _ (List.mem_of_getElem? (i := 21) rfl))) (ty := .double) (by decide)
    have k48 : Way p e below S0 T47 (mkF m 60 #[iv p1, iv (2 : Int32), rv w_LESS_EQUAL, iv (0 : Int32), iv (0 : Int32), .unset] [(.ref b47)]) := fun t k => k46 t (st47 _ k)
    have k49 : Way p e below S0 T47 (mkF m 63 #[iv p1, iv (2 : Int32), rv w_LESS_EQUAL, iv (0 : Int32), iv (0 : Int32), .unset] [(.double (0 : UInt64)), (.ref w_LESS_EQUAL), (.ref b47), (.ref b47)]) := by
      intro t k
      refine k48 t ?_
      refine XS.dup X47.here hx rfl (hb hby at_60) rfl rfl ?_
      show Steps p.tables e below (T47.setTop (mkF m 61 #[iv p1, iv (2 : Int32), rv w_LESS_EQUAL, iv (0 : Int32), iv (0 : Int32), .unset] [(.ref b47), (.ref b47)])) _
      refine XS.aloadN X47.here hx rfl (hb hby at_61) rfl rfl ?_
      show Steps p.tables e below (T47.setTop (mkF m 62 #[iv p1, iv (2 : Int32), rv w_LESS_EQUAL, iv (0 : Int32), iv (0 : Int32), .unset] [(.ref w_LESS_EQUAL), (.ref b47), (.ref b47)])) _
      refine XS.dconst0 X47.here hx rfl (v := (0 : UInt64)) (hb hby at_62) (by decide +kernel) ?_
      show Steps p.tables e below (T47.setTop (mkF m 63 #[iv p1, iv (2 : Int32), rv w_LESS_EQUAL, iv (0 : Int32), iv (0 : Int32), .unset] [(.double (0 : UInt64)), (.ref w_LESS_EQUAL), (.ref b47), (.ref b47)])) _
      exact k
    have ge50 : n0 ≤ b47 := Nat.le_trans (own_old O0) (Nat.le_of_eq g47.symm)
    obtain ⟨_, _, ⟨T51, L51, kk51, nn51⟩, -, X51, ⟨Lc51, hQ51, l51, y51, z51⟩, st51⟩ := X47.specialBack hx (y := (⟨"com/example/inert_quotient/inertquotient/prism/ProbabilityBound", "<init>", "(Lcom/example/inert_quotient/inertquotient/prism/ProbabilityBound$Relation;D)V"⟩ : MethodName)) rfl hown (mvT hZ (hw _ (List.mem_of_getElem? (i := 12) rfl))) (mvT hZ (hw _ (List.mem_of_getElem? (i := 13) rfl))) (mvT hZ (hw _ (List.mem_of_getElem? (i := 14) rfl))) (by decide) (backOf (W := 1) (init l Z a0 hw [] w_GREATER_EQUAL w_GREATER w_LESS_EQUAL w_LESS G b47 w_LESS_EQUAL h47 n0 O47 (A47 : Exa Z h47 b47 "com/example/inert_quotient/inertquotient/prism/ProbabilityBound") (i47_relation : Fld Z h47 b47 "com/example/inert_quotient/inertquotient/prism/ProbabilityBound" "relation" "Lcom/example/inert_quotient/inertquotient/prism/ProbabilityBound$Relation;" .null) (i47_probability : Fld Z h47 b47 "com/example/inert_quotient/inertquotient/prism/ProbabilityBound" "probability" "D" (.double (0 : UInt64))) (ge50 : n0 ≤ b47)) hZ (hw _ (List.mem_of_getElem? (i := 14) rfl)) (hw _ (List.mem_of_getElem? (i := 11) rfl)) (by decide) (by decide)) (g := (mkF m 63 #[iv p1, iv (2 : Int32), rv w_LESS_EQUAL, iv (0 : Int32), iv (0 : Int32), .unset] [(.double (0 : UInt64)), (.ref w_LESS_EQUAL), (.ref b47), (.ref b47)])) rfl (by rw [hml]; rfl) (Steps.refl _) (a := b47) (argsL := [(.ref w_LESS_EQUAL), (.double (0 : UInt64))]) (rest := [(.ref b47)]) (lenOf pd_3 rfl) rfl (by show 2 * 0 + _ ≤ _; exact Nat.le_of_eq rfl) (hb hby at_63) (fun _ _ => ⟨rfl, e47, (by decide : 1 + 0 ≤ _), (by decide : 2 + 0 ≤ _)⟩)
    dsimp only [Pt.U, Pt.locs, Pt.cells, Pt.slots] at X51 l51 y51 z51 st51 hQ51
    subst l51 y51 z51
    obtain ⟨rfl, Nq51, Kq51, po51_0, po51_1, po51_2⟩ := hQ51
    have N51 := Fr.app N44 Nq51
    have O51 := O47.keep Kq51 (allS ge50 all0)
    have k52 : Way p e below S0 T51 (mkF m 66 #[iv p1, iv (2 : Int32), rv w_LESS_EQUAL, iv (0 : Int32), iv (0 : Int32), .unset] [(.ref b47)]) := fun t k => k49 t (st51.trans k)
    have k53 : Way p e below S0 T51 (mkF m 68 #[iv p1, iv (2 : Int32), rv w_LESS_EQUAL, iv (0 : Int32), iv (0 : Int32), .unset] [(.double (0 : UInt64)), (.double (4607182418800017408 : UInt64)), (.ref b47)]) := by
      intro t k
      refine k52 t ?_
      refine XS.dconst1 X51.here hx rfl (v := (4607182418800017408 : UInt64)) (hb hby at_66) (by decide +kernel) ?_
      show Steps p.tables e below (T51.setTop (mkF m 67 #[iv p1, iv (2 : Int32), rv w_LESS_EQUAL, iv (0 : Int32), iv (0 : Int32), .unset] [(.double (4607182418800017408 : UInt64)), (.ref b47)])) _
      refine XS.dconst0 X51.here hx rfl (v := (0 : UInt64)) (hb hby at_67) (by decide +kernel) ?_
      show Steps p.tables e below (T51.setTop (mkF m 68 #[iv p1, iv (2 : Int32), rv w_LESS_EQUAL, iv (0 : Int32), iv (0 : Int32), .unset] [(.double (0 : UInt64)), (.double (4607182418800017408 : UInt64)), (.ref b47)])) _
      exact k
    obtain ⟨cq54, kq54, qq54a, qq54b, qq54c⟩ := isOf hZ rfl po51_0
    obtain ⟨_, _, ⟨T54, L54, kk54, nn54⟩, -, X54, ⟨Lc54, hQ54, l54, y54, z54⟩, st54⟩ := X51.virtualBack hx (y := (⟨"com/example/inert_quotient/inertquotient/prism/ProbabilityBound", "isMetBy", "(DD)Z"⟩ : MethodName)) (z := (⟨"com/example/inert_quotient/inertquotient/prism/ProbabilityBound", "isMetBy", "(DD)Z"⟩ : MethodName)) hown (mvT hZ (hw _ (List.mem_of_getElem? (i := 22) rfl))) (mvT hZ (hw _ (List.mem_of_getElem? (i := 23) rfl))) (notFace_of_selects (args := #[]) (mvT hZ (hw _ (List.mem_of_getElem? (i := 25) rfl)))) (mvT hZ (hw _ (List.mem_of_getElem? (i := 25) rfl))) (mvT hZ (hw _ (List.mem_of_getElem? (i := 24) rfl))) (by decide) (backOf (W := 0) (met2 l Z a0 hw [] w_GREATER_EQUAL w_GREATER w_LESS_EQUAL w_LESS G b47 T51.heap n0 O51 (po51_1 : Fld Z T51.heap b47 "com/example/inert_quotient/inertquotient/prism/ProbabilityBound" "relation" "Lcom/example/inert_quotient/inertquotient/prism/ProbabilityBound$Relation;" (.ref w_LESS_EQUAL)) (po51_2 : Fld Z T51.heap b47 "com/example/inert_quotient/inertquotient/prism/ProbabilityBound" "probability" "D" (.double (0 : UInt64)))) hZ (hw _ (List.mem_of_getElem? (i := 26) rfl)) (hw _ (List.mem_of_getElem? (i := 11) rfl)) (by decide) (by decide)) qq54a qq54c (g := (mkF m 68 #[iv p1, iv (2 : Int32), rv w_LESS_EQUAL, iv (0 : Int32), iv (0 : Int32), .unset] [(.double (0 : UInt64)), (.double (4607182418800017408 : UInt64)), (.ref b47)])) rfl (by rw [hml]; rfl) (Steps.refl _) (argsL := [(.double (4607182418800017408 : UInt64)), (.double (0 : UInt64))]) (rest := []) (lenOf pd_4 rfl) rfl (by show 2 * 0 + _ ≤ _; exact Nat.le_of_eq rfl) (hb hby at_68) (fun _ _ => ⟨rfl, rfl, (by decide : 1 + 0 ≤ _), (by decide : 2 + 0 ≤ _)⟩)
    dsimp only [Pt.U, Pt.locs, Pt.cells, Pt.slots] at X54 l54 y54 z54 st54 hQ54
    subst l54 y54 z54
    obtain ⟨rfl, Nq54, e54⟩ := hQ54
    have N54 := Fr.app N51 Nq54
    have k55 : Way p e below S0 T54 (mkF m 71 #[iv p1, iv (2 : Int32), rv w_LESS_EQUAL, iv (0 : Int32), iv (0 : Int32), .unset] [(.int (0 : Int32))]) := fun t k => k53 t (st54.trans k)
    have k56 : Way p e below S0 T54 (mkF m 91 #[iv p1, iv (2 : Int32), rv w_LESS_EQUAL, iv (0 : Int32), iv (0 : Int32), iv (0 : Int32)] [(.int (1 : Int32))]) := by
      intro t k
      refine k55 t ?_
      refine XS.istore X54.here hx rfl (hb hby at_71) rfl (l' := #[iv p1, iv (2 : Int32), rv w_LESS_EQUAL, iv (0 : Int32), iv (0 : Int32), iv (0 : Int32)]) rfl ?_
      show Steps p.tables e below (T54.setTop (mkF m 73 #[iv p1, iv (2 : Int32), rv w_LESS_EQUAL, iv (0 : Int32), iv (0 : Int32), iv (0 : Int32)] [])) _
      refine XS.iload X54.here hx rfl (hb hby at_73) rfl ?_
      show Steps p.tables e below (T54.setTop (mkF m 75 #[iv p1, iv (2 : Int32), rv w_LESS_EQUAL, iv (0 : Int32), iv (0 : Int32), iv (0 : Int32)] [(.int (0 : Int32))])) _
      refine XS.iloadN X54.here hx rfl (hb hby at_75) rfl ?_
      show Steps p.tables e below (T54.setTop (mkF m 76 #[iv p1, iv (2 : Int32), rv w_LESS_EQUAL, iv (0 : Int32), iv (0 : Int32), iv (0 : Int32)] [(.int (0 : Int32)), (.int (0 : Int32))])) _
      refine XS.icmpNo X54.here hx rfl (hb hby at_76) rfl (teq ((by decide) : (0 : Int32) = (0 : Int32))).2 ?_
      show Steps p.tables e below (T54.setTop (mkF m 79 #[iv p1, iv (2 : Int32), rv w_LESS_EQUAL, iv (0 : Int32), iv (0 : Int32), iv (0 : Int32)] [])) _
      refine XS.iload X54.here hx rfl (hb hby at_79) rfl ?_
      show Steps p.tables e below (T54.setTop (mkF m 81 #[iv p1, iv (2 : Int32), rv w_LESS_EQUAL, iv (0 : Int32), iv (0 : Int32), iv (0 : Int32)] [(.int (0 : Int32))])) _
      refine XS.iload X54.here hx rfl (hb hby at_81) rfl ?_
      show Steps p.tables e below (T54.setTop (mkF m 83 #[iv p1, iv (2 : Int32), rv w_LESS_EQUAL, iv (0 : Int32), iv (0 : Int32), iv (0 : Int32)] [(.int (0 : Int32)), (.int (0 : Int32))])) _
      refine XS.icmpNo X54.here hx rfl (hb hby at_83) rfl (teq ((by decide) : (0 : Int32) = (0 : Int32))).2 ?_
      show Steps p.tables e below (T54.setTop (mkF m 86 #[iv p1, iv (2 : Int32), rv w_LESS_EQUAL, iv (0 : Int32), iv (0 : Int32), iv (0 : Int32)] [])) _
      refine XS.iconst X54.here hx rfl (hb hby at_86) ?_
      show Steps p.tables e below (T54.setTop (mkF m 87 #[iv p1, iv (2 : Int32), rv w_LESS_EQUAL, iv (0 : Int32), iv (0 : Int32), iv (0 : Int32)] [(.int (1 : Int32))])) _
      refine XS.goto X54.here hx rfl (pc0 := 87) (pc' := 91) rfl (hb hby at_87) (by decide) (by decide) ?_
      show Steps p.tables e below (T54.setTop (mkF m 91 #[iv p1, iv (2 : Int32), rv w_LESS_EQUAL, iv (0 : Int32), iv (0 : Int32), iv (0 : Int32)] [(.int (1 : Int32))])) _
      exact k
    obtain ⟨fs, hr, hrun, hended, hW, hsame⟩ := X54.leave (v := some (.int (1 : Int32))) (fun h => by rw [Bd.returns] at h; cases h)
    refine ⟨_, _, k56 _ (retN X54 hx (t := .boolean) Bd.returns (by simp) (hb hby at_91) hr), hrun, hended, _, _, rfl, ?_, ⟨_, rfl⟩, hW, hsame.mono (by decide) (by decide)⟩
    show Q_law_met Z w_GREATER_EQUAL w_GREATER w_LESS_EQUAL w_LESS p1 h0 n0 _ T54.heap _
    rw [e54]
    exact ⟨rfl, N54⟩
  · have k57 : Way p e below S0 s₁ (mkF m 4 #[iv p1, iv (3 : Int32), .unset, .unset, .unset, .unset] []) := by have q := k1; rw [hi2] at q; exact q
    have k58 : Way p e below S0 s₁ (mkF m 45 #[iv p1, iv (3 : Int32), .unset, .unset, .unset, .unset] []) := by
      intro t k
      refine k57 t ?_
      refine XS.iloadN X0.here hx rfl (hb hby at_4) rfl ?_
      show Steps p.tables e below (s₁.setTop (mkF m 5 #[iv p1, iv (3 : Int32), .unset, .unset, .unset, .unset] [(.int (3 : Int32))])) _
      refine XS.ifYes X0.here hx rfl (pc0 := 5) (pc' := 17) rfl (hb hby at_5) rfl ((if0 _ _).trans (feq ((by decide) : ¬ ((3 : Int32) = (0 : Int32)))).2) (by decide) (by decide) ?_
      show Steps p.tables e below (s₁.setTop (mkF m 17 #[iv p1, iv (3 : Int32), .unset, .unset, .unset, .unset] [])) _
      refine XS.iloadN X0.here hx rfl (hb hby at_17) rfl ?_
      show Steps p.tables e below (s₁.setTop (mkF m 18 #[iv p1, iv (3 : Int32), .unset, .unset, .unset, .unset] [(.int (3 : Int32))])) _
      refine XS.iconst X0.here hx rfl (hb hby at_18) ?_
      show Steps p.tables e below (s₁.setTop (mkF m 19 #[iv p1, iv (3 : Int32), .unset, .unset, .unset, .unset] [(.int (1 : Int32)), (.int (3 : Int32))])) _
      refine XS.icmpYes X0.here hx rfl (pc0 := 19) (pc' := 31) rfl (hb hby at_19) rfl (feq ((by decide) : ¬ ((3 : Int32) = (1 : Int32)))).2 (by decide) (by decide) ?_
      show Steps p.tables e below (s₁.setTop (mkF m 31 #[iv p1, iv (3 : Int32), .unset, .unset, .unset, .unset] [])) _
      refine XS.iloadN X0.here hx rfl (hb hby at_31) rfl ?_
      show Steps p.tables e below (s₁.setTop (mkF m 32 #[iv p1, iv (3 : Int32), .unset, .unset, .unset, .unset] [(.int (3 : Int32))])) _
      refine XS.iconst X0.here hx rfl (hb hby at_32) ?_
      show Steps p.tables e below (s₁.setTop (mkF m 33 #[iv p1, iv (3 : Int32), .unset, .unset, .unset, .unset] [(.int (2 : Int32)), (.int (3 : Int32))])) _
      refine XS.icmpYes X0.here hx rfl (pc0 := 33) (pc' := 45) rfl (hb hby at_33) rfl (feq ((by decide) : ¬ ((3 : Int32) = (2 : Int32)))).2 (by decide) (by decide) ?_
      show Steps p.tables e below (s₁.setTop (mkF m 45 #[iv p1, iv (3 : Int32), .unset, .unset, .unset, .unset] [])) _
      exact k
    obtain ⟨T59, X59, e59, st59⟩ := getS2 X0 hx hZ hown (host := "") (Or.inl (hw _ (List.mem_of_getElem? (i := 40) rfl))) Via.refl e0 (S_w_LESS.ext O0.2) (g := (mkF m 45 #[iv p1, iv (3 : Int32), .unset, .unset, .unset, .unset] [])) rfl (hb hby at_45)
    have k60 : Way p e below S0 T59 (mkF m 48 #[iv p1, iv (3 : Int32), .unset, .unset, .unset, .unset] [(.ref w_LESS)]) := fun t k => k58 t (st59 _ k)
    have k61 : Way p e below S0 T59 (mkF m 52 #[iv p1, iv (3 : Int32), rv w_LESS, iv (0 : Int32), .unset, .unset] [(.ref w_LESS)]) := by
      intro t k
      refine k60 t ?_
      refine XS.astoreN X59.here hx rfl (hb hby at_48) rfl rfl (l' := #[iv p1, iv (3 : Int32), rv w_LESS, .unset, .unset, .unset]) rfl ?_
      show Steps p.tables e below (T59.setTop (mkF m 49 #[iv p1, iv (3 : Int32), rv w_LESS, .unset, .unset, .unset] [])) _
      refine XS.iconst X59.here hx rfl (hb hby at_49) ?_
      show Steps p.tables e below (T59.setTop (mkF m 50 #[iv p1, iv (3 : Int32), rv w_LESS, .unset, .unset, .unset] [(.int (0 : Int32))])) _
      refine XS.istoreN X59.here hx rfl (hb hby at_50) rfl (l' := #[iv p1, iv (3 : Int32), rv w_LESS, iv (0 : Int32), .unset, .unset]) rfl ?_
      show Steps p.tables e below (T59.setTop (mkF m 51 #[iv p1, iv (3 : Int32), rv w_LESS, iv (0 : Int32), .unset, .unset] [])) _
      refine XS.aloadN X59.here hx rfl (hb hby at_51) rfl rfl ?_
      show Steps p.tables e below (T59.setTop (mkF m 52 #[iv p1, iv (3 : Int32), rv w_LESS, iv (0 : Int32), .unset, .unset] [(.ref w_LESS)])) _
      exact k
    obtain ⟨cq62, kq62, qq62a, qq62b, qq62c⟩ := isOf hZ e59 (E_w_LESS.ext O0.2)
    obtain ⟨_, _, ⟨T62, L62, kk62, nn62⟩, -, X62, ⟨Lc62, hQ62, l62, y62, z62⟩, st62⟩ := X59.virtualBack hx (y := (⟨"com/example/inert_quotient/inertquotient/prism/ProbabilityBound$Relation", "isLower", "()Z"⟩ : MethodName)) (z := (⟨"com/example/inert_quotient/inertquotient/prism/ProbabilityBound$Relation", "isLower", "()Z"⟩ : MethodName)) hown (mvT hZ (hw _ (List.mem_of_getElem? (i := 3) rfl))) (mvT hZ (hw _ (List.mem_of_getElem? (i := 4) rfl))) (notFace_of_selects (args := #[]) (mvT hZ (hw _ (List.mem_of_getElem? (i := 6) rfl)))) (mvT hZ (hw _ (List.mem_of_getElem? (i := 6) rfl))) (mvT hZ (hw _ (List.mem_of_getElem? (i := 5) rfl))) (by decide) (backOf (W := 0) (low3 l Z a0 hw [] w_GREATER_EQUAL w_GREATER w_LESS_EQUAL w_LESS G  h0 n0 O0 ) hZ (hw _ (List.mem_of_getElem? (i := 7) rfl)) (hw _ (List.mem_of_getElem? (i := 1) rfl)) (by decide) (by decide)) qq62a qq62c (g := (mkF m 52 #[iv p1, iv (3 : Int32), rv w_LESS, iv (0 : Int32), .unset, .unset] [(.ref w_LESS)])) rfl (by rw [hml]; rfl) (Steps.refl _) (argsL := []) (rest := []) (lenOf pd_2 rfl) rfl (by show 2 * 0 + _ ≤ _; exact Nat.le_of_eq rfl) (hb hby at_52) (fun _ _ => ⟨rfl, e59, (by decide : 0 + 0 ≤ _), (by decide : 0 + 0 ≤ _)⟩)
    dsimp only [Pt.U, Pt.locs, Pt.cells, Pt.slots] at X62 l62 y62 z62 st62 hQ62
    subst l62 y62 z62
    obtain ⟨rfl, Nq62, e62⟩ := hQ62
    have N62 := Fr.app N0 Nq62
    have k63 : Way p e below S0 T62 (mkF m 55 #[iv p1, iv (3 : Int32), rv w_LESS, iv (0 : Int32), .unset, .unset] [(.int (0 : Int32))]) := fun t k => k61 t (st62.trans k)
    have k64 : Way p e below S0 T62 (mkF m 57 #[iv p1, iv (3 : Int32), rv w_LESS, iv (0 : Int32), iv (0 : Int32), .unset] []) := by
      intro t k
      refine k63 t ?_
      refine XS.istore X62.here hx rfl (hb hby at_55) rfl (l' := #[iv p1, iv (3 : Int32), rv w_LESS, iv (0 : Int32), iv (0 : Int32), .unset]) rfl ?_
      show Steps p.tables e below (T62.setTop (mkF m 57 #[iv p1, iv (3 : Int32), rv w_LESS, iv (0 : Int32), iv (0 : Int32), .unset] [])) _
      exact k
    obtain ⟨T65, h65, X65, e65, E65, A65, D65, U65, st65⟩ := newO X62 hx hZ hown (hw _ (List.mem_of_getElem? (i := 9) rfl)) (hw _ (List.mem_of_getElem? (i := 10) rfl)) (hw _ (List.mem_of_getElem? (i := 11) rfl)) e62 (g := (mkF m 57 #[iv p1, iv (3 : Int32), rv w_LESS, iv (0 : Int32), iv (0 : Int32), .unset] [])) rfl (hb hby at_57) (by decide) (by decide)
    obtain ⟨b65, g65⟩ : ∃ z, z = h0.size := ⟨_, rfl⟩
    rw [← g65] at A65 D65 U65 st65
    have O65 := O0.ext E65
    have i65_relation : Fld Z h65 b65 "com/example/inert_quotient/inertquotient/prism/ProbabilityBound" "relation" "Lcom/example/inert_quotient/inertquotient/prism/ProbabilityBound$Relation;" .null := D65 (Or.inr (hw _ (List.mem_of_getElem? (i := 19) rfl))) (ty := (.object "com/example/inert_quotient/inertquotient/prism/ProbabilityBound$Relation")) (by decide)
    have i65_probability : Fld Z h65 b65 "com/example/inert_quotient/inertquotient/prism/ProbabilityBound" "probability" "D" (.double (0 : UInt64)) := D65 (Or.inr (hw _ (List.mem_of_getElem? (i := 21) rfl))) (ty := .double) (by decide)
    have k66 : Way p e below S0 T65 (mkF m 60 #[iv p1, iv (3 : Int32), rv w_LESS, iv (0 : Int32), iv (0 : Int32), .unset] [(.ref b65)]) := fun t k => k64 t (st65 _ k)
    have k67 : Way p e below S0 T65 (mkF m 63 #[iv p1, iv (3 : Int32), rv w_LESS, iv (0 : Int32), iv (0 : Int32), .unset] [(.double (0 : UInt64)), (.ref w_LESS), (.ref b65), (.ref b65)]) := by
      intro t k
      refine k66 t ?_
      refine XS.dup X65.here hx rfl (hb hby at_60) rfl rfl ?_
      show Steps p.tables e below (T65.setTop (mkF m 61 #[iv p1, iv (3 : Int32), rv w_LESS, iv (0 : Int32), iv (0 : Int32), .unset] [(.ref b65), (.ref b65)])) _
      refine XS.aloadN X65.here hx rfl (hb hby at_61) rfl rfl ?_
      show Steps p.tables e below (T65.setTop (mkF m 62 #[iv p1, iv (3 : Int32), rv w_LESS, iv (0 : Int32), iv (0 : Int32), .unset] [(.ref w_LESS), (.ref b65), (.ref b65)])) _
      refine XS.dconst0 X65.here hx rfl (v := (0 : UInt64)) (hb hby at_62) (by decide +kernel) ?_
      show Steps p.tables e below (T65.setTop (mkF m 63 #[iv p1, iv (3 : Int32), rv w_LESS, iv (0 : Int32), iv (0 : Int32), .unset] [(.double (0 : UInt64)), (.ref w_LESS), (.ref b65), (.ref b65)])) _
      exact k
    have ge68 : n0 ≤ b65 := Nat.le_trans (own_old O0) (Nat.le_of_eq g65.symm)
    obtain ⟨_, _, ⟨T69, L69, kk69, nn69⟩, -, X69, ⟨Lc69, hQ69, l69, y69, z69⟩, st69⟩ := X65.specialBack hx (y := (⟨"com/example/inert_quotient/inertquotient/prism/ProbabilityBound", "<init>", "(Lcom/example/inert_quotient/inertquotient/prism/ProbabilityBound$Relation;D)V"⟩ : MethodName)) rfl hown (mvT hZ (hw _ (List.mem_of_getElem? (i := 12) rfl))) (mvT hZ (hw _ (List.mem_of_getElem? (i := 13) rfl))) (mvT hZ (hw _ (List.mem_of_getElem? (i := 14) rfl))) (by decide) (backOf (W := 1) (init l Z a0 hw [] w_GREATER_EQUAL w_GREATER w_LESS_EQUAL w_LESS G b65 w_LESS h65 n0 O65 (A65 : Exa Z h65 b65 "com/example/inert_quotient/inertquotient/prism/ProbabilityBound") (i65_relation : Fld Z h65 b65 "com/example/inert_quotient/inertquotient/prism/ProbabilityBound" "relation" "Lcom/example/inert_quotient/inertquotient/prism/ProbabilityBound$Relation;" .null) (i65_probability : Fld Z h65 b65 "com/example/inert_quotient/inertquotient/prism/ProbabilityBound" "probability" "D" (.double (0 : UInt64))) (ge68 : n0 ≤ b65)) hZ (hw _ (List.mem_of_getElem? (i := 14) rfl)) (hw _ (List.mem_of_getElem? (i := 11) rfl)) (by decide) (by decide)) (g := (mkF m 63 #[iv p1, iv (3 : Int32), rv w_LESS, iv (0 : Int32), iv (0 : Int32), .unset] [(.double (0 : UInt64)), (.ref w_LESS), (.ref b65), (.ref b65)])) rfl (by rw [hml]; rfl) (Steps.refl _) (a := b65) (argsL := [(.ref w_LESS), (.double (0 : UInt64))]) (rest := [(.ref b65)]) (lenOf pd_3 rfl) rfl (by show 2 * 0 + _ ≤ _; exact Nat.le_of_eq rfl) (hb hby at_63) (fun _ _ => ⟨rfl, e65, (by decide : 1 + 0 ≤ _), (by decide : 2 + 0 ≤ _)⟩)
    dsimp only [Pt.U, Pt.locs, Pt.cells, Pt.slots] at X69 l69 y69 z69 st69 hQ69
    subst l69 y69 z69
    obtain ⟨rfl, Nq69, Kq69, po69_0, po69_1, po69_2⟩ := hQ69
    have N69 := Fr.app N62 Nq69
    have O69 := O65.keep Kq69 (allS ge68 all0)
    have k70 : Way p e below S0 T69 (mkF m 66 #[iv p1, iv (3 : Int32), rv w_LESS, iv (0 : Int32), iv (0 : Int32), .unset] [(.ref b65)]) := fun t k => k67 t (st69.trans k)
    have k71 : Way p e below S0 T69 (mkF m 68 #[iv p1, iv (3 : Int32), rv w_LESS, iv (0 : Int32), iv (0 : Int32), .unset] [(.double (0 : UInt64)), (.double (4607182418800017408 : UInt64)), (.ref b65)]) := by
      intro t k
      refine k70 t ?_
      refine XS.dconst1 X69.here hx rfl (v := (4607182418800017408 : UInt64)) (hb hby at_66) (by decide +kernel) ?_
      show Steps p.tables e below (T69.setTop (mkF m 67 #[iv p1, iv (3 : Int32), rv w_LESS, iv (0 : Int32), iv (0 : Int32), .unset] [(.double (4607182418800017408 : UInt64)), (.ref b65)])) _
      refine XS.dconst0 X69.here hx rfl (v := (0 : UInt64)) (hb hby at_67) (by decide +kernel) ?_
      show Steps p.tables e below (T69.setTop (mkF m 68 #[iv p1, iv (3 : Int32), rv w_LESS, iv (0 : Int32), iv (0 : Int32), .unset] [(.double (0 : UInt64)), (.double (4607182418800017408 : UInt64)), (.ref b65)])) _
      exact k
    obtain ⟨cq72, kq72, qq72a, qq72b, qq72c⟩ := isOf hZ rfl po69_0
    obtain ⟨_, _, ⟨T72, L72, kk72, nn72⟩, -, X72, ⟨Lc72, hQ72, l72, y72, z72⟩, st72⟩ := X69.virtualBack hx (y := (⟨"com/example/inert_quotient/inertquotient/prism/ProbabilityBound", "isMetBy", "(DD)Z"⟩ : MethodName)) (z := (⟨"com/example/inert_quotient/inertquotient/prism/ProbabilityBound", "isMetBy", "(DD)Z"⟩ : MethodName)) hown (mvT hZ (hw _ (List.mem_of_getElem? (i := 22) rfl))) (mvT hZ (hw _ (List.mem_of_getElem? (i := 23) rfl))) (notFace_of_selects (args := #[]) (mvT hZ (hw _ (List.mem_of_getElem? (i := 25) rfl)))) (mvT hZ (hw _ (List.mem_of_getElem? (i := 25) rfl))) (mvT hZ (hw _ (List.mem_of_getElem? (i := 24) rfl))) (by decide) (backOf (W := 0) (met3 l Z a0 hw [] w_GREATER_EQUAL w_GREATER w_LESS_EQUAL w_LESS G b65 T69.heap n0 O69 (po69_1 : Fld Z T69.heap b65 "com/example/inert_quotient/inertquotient/prism/ProbabilityBound" "relation" "Lcom/example/inert_quotient/inertquotient/prism/ProbabilityBound$Relation;" (.ref w_LESS)) (po69_2 : Fld Z T69.heap b65 "com/example/inert_quotient/inertquotient/prism/ProbabilityBound" "probability" "D" (.double (0 : UInt64)))) hZ (hw _ (List.mem_of_getElem? (i := 26) rfl)) (hw _ (List.mem_of_getElem? (i := 11) rfl)) (by decide) (by decide)) qq72a qq72c (g := (mkF m 68 #[iv p1, iv (3 : Int32), rv w_LESS, iv (0 : Int32), iv (0 : Int32), .unset] [(.double (0 : UInt64)), (.double (4607182418800017408 : UInt64)), (.ref b65)])) rfl (by rw [hml]; rfl) (Steps.refl _) (argsL := [(.double (4607182418800017408 : UInt64)), (.double (0 : UInt64))]) (rest := []) (lenOf pd_4 rfl) rfl (by show 2 * 0 + _ ≤ _; exact Nat.le_of_eq rfl) (hb hby at_68) (fun _ _ => ⟨rfl, rfl, (by decide : 1 + 0 ≤ _), (by decide : 2 + 0 ≤ _)⟩)
    dsimp only [Pt.U, Pt.locs, Pt.cells, Pt.slots] at X72 l72 y72 z72 st72 hQ72
    subst l72 y72 z72
    obtain ⟨rfl, Nq72, e72⟩ := hQ72
    have N72 := Fr.app N69 Nq72
    have k73 : Way p e below S0 T72 (mkF m 71 #[iv p1, iv (3 : Int32), rv w_LESS, iv (0 : Int32), iv (0 : Int32), .unset] [(.int (0 : Int32))]) := fun t k => k71 t (st72.trans k)
    have k74 : Way p e below S0 T72 (mkF m 91 #[iv p1, iv (3 : Int32), rv w_LESS, iv (0 : Int32), iv (0 : Int32), iv (0 : Int32)] [(.int (1 : Int32))]) := by
      intro t k
      refine k73 t ?_
      refine XS.istore X72.here hx rfl (hb hby at_71) rfl (l' := #[iv p1, iv (3 : Int32), rv w_LESS, iv (0 : Int32), iv (0 : Int32), iv (0 : Int32)]) rfl ?_
      show Steps p.tables e below (T72.setTop (mkF m 73 #[iv p1, iv (3 : Int32), rv w_LESS, iv (0 : Int32), iv (0 : Int32), iv (0 : Int32)] [])) _
      refine XS.iload X72.here hx rfl (hb hby at_73) rfl ?_
      show Steps p.tables e below (T72.setTop (mkF m 75 #[iv p1, iv (3 : Int32), rv w_LESS, iv (0 : Int32), iv (0 : Int32), iv (0 : Int32)] [(.int (0 : Int32))])) _
      refine XS.iloadN X72.here hx rfl (hb hby at_75) rfl ?_
      show Steps p.tables e below (T72.setTop (mkF m 76 #[iv p1, iv (3 : Int32), rv w_LESS, iv (0 : Int32), iv (0 : Int32), iv (0 : Int32)] [(.int (0 : Int32)), (.int (0 : Int32))])) _
      refine XS.icmpNo X72.here hx rfl (hb hby at_76) rfl (teq ((by decide) : (0 : Int32) = (0 : Int32))).2 ?_
      show Steps p.tables e below (T72.setTop (mkF m 79 #[iv p1, iv (3 : Int32), rv w_LESS, iv (0 : Int32), iv (0 : Int32), iv (0 : Int32)] [])) _
      refine XS.iload X72.here hx rfl (hb hby at_79) rfl ?_
      show Steps p.tables e below (T72.setTop (mkF m 81 #[iv p1, iv (3 : Int32), rv w_LESS, iv (0 : Int32), iv (0 : Int32), iv (0 : Int32)] [(.int (0 : Int32))])) _
      refine XS.iload X72.here hx rfl (hb hby at_81) rfl ?_
      show Steps p.tables e below (T72.setTop (mkF m 83 #[iv p1, iv (3 : Int32), rv w_LESS, iv (0 : Int32), iv (0 : Int32), iv (0 : Int32)] [(.int (0 : Int32)), (.int (0 : Int32))])) _
      refine XS.icmpNo X72.here hx rfl (hb hby at_83) rfl (teq ((by decide) : (0 : Int32) = (0 : Int32))).2 ?_
      show Steps p.tables e below (T72.setTop (mkF m 86 #[iv p1, iv (3 : Int32), rv w_LESS, iv (0 : Int32), iv (0 : Int32), iv (0 : Int32)] [])) _
      refine XS.iconst X72.here hx rfl (hb hby at_86) ?_
      show Steps p.tables e below (T72.setTop (mkF m 87 #[iv p1, iv (3 : Int32), rv w_LESS, iv (0 : Int32), iv (0 : Int32), iv (0 : Int32)] [(.int (1 : Int32))])) _
      refine XS.goto X72.here hx rfl (pc0 := 87) (pc' := 91) rfl (hb hby at_87) (by decide) (by decide) ?_
      show Steps p.tables e below (T72.setTop (mkF m 91 #[iv p1, iv (3 : Int32), rv w_LESS, iv (0 : Int32), iv (0 : Int32), iv (0 : Int32)] [(.int (1 : Int32))])) _
      exact k
    obtain ⟨fs, hr, hrun, hended, hW, hsame⟩ := X72.leave (v := some (.int (1 : Int32))) (fun h => by rw [Bd.returns] at h; cases h)
    refine ⟨_, _, k74 _ (retN X72 hx (t := .boolean) Bd.returns (by simp) (hb hby at_91) hr), hrun, hended, _, _, rfl, ?_, ⟨_, rfl⟩, hW, hsame.mono (by decide) (by decide)⟩
    show Q_law_met Z w_GREATER_EQUAL w_GREATER w_LESS_EQUAL w_LESS p1 h0 n0 _ T72.heap _
    rw [e72]
    exact ⟨rfl, N72⟩
set_option maxRecDepth 65536 in
set_option maxHeartbeats 40000000 in
theorem comes_1 {Post : Tables → Env → Array Value → State → Outcome → State → Prop} (hpost : ∀ tb e args s v u, (limb_1_1.after args s (.returned v) u = true ∧ limb_1_2.after args s (.returned v) u = true ∧ True) → FrameEnd s (.returned v) u (Jvm.fieldLocs frame_1_writes args s ++ Jvm.arrayLocs frame_1_arrays args s ++ Jvm.staticLocs frame_1_statics s) 16 128 → Post tb e args s (.returned v) u) :
    ArmFor flags0 classFile x code maxLocals ret World_1 tables_1 room_1 Calls_1 rest_1 Pre_1 Post := by
  intro l hfl _ _ p e ha hc hk s m args below hf hA hF happ hP
  obtain ⟨hcalls, hrest, hpre⟩ := hP
  obtain ⟨-, -, -, hnamed, -, -, -, hat⟩ := (Spec.applies_iff hf).mp happ
  obtain ⟨hg, hn⟩ := and_e (Cond.before_iff.mp (show (Jvm.Cond.and given_1 narrow_1).before args s = true from hpre))
  obtain ⟨g1a, g1b⟩ := and_e hg
  obtain ⟨g2a, g2b⟩ := and_e hn
  obtain ⟨g3a, g3b⟩ := and_e g2b
  obtain ⟨g4a, g4b⟩ := and_e g3b
  obtain ⟨g5a, g5b⟩ := and_e g4b
  obtain ⟨g6a, g6b⟩ := and_e g5b
  obtain ⟨g7a, g7b⟩ := and_e g6b
  obtain ⟨g8a, g8b⟩ := and_e g7b
  obtain ⟨w0, rfl⟩ : ∃ w0 : Value, args = #[w0] := by
    have hs : args.size = 1 := by simpa [Cond.value, given_1] using g1a
    obtain ⟨L⟩ := args
    match L, hs with
    | [w0], _ => exact ⟨w0, rfl⟩
  have hw := fun d (hd : d ∈ tables_1) => atoms_spec (ws := Jvm.Cond.code x code maxLocals ret :: tables_1) hat d (List.mem_cons_of_mem _ hd)
  have hfit : Fit s := fun {y c} hc i hi => by
    obtain ⟨ha, rfl⟩ := Array.getElem?_eq_some_iff.mp hc
    have q := List.all_eq_true.mp ((Array.all_eq_true_iff_forall_mem.mp hF) _ (Array.getElem_mem ha)) i (List.mem_range.mpr hi)
    simpa [Array.getElem?_eq_getElem hi] using q
  obtain ⟨i0, ei0⟩ := is_v g1b
  obtain rfl : w0 = (.int i0) := Option.some.inj ei0
  obtain ⟨w_GREATER_EQUAL, ev_w_GREATER_EQUAL⟩ := exa_v g2a
  have S_w_GREATER_EQUAL := Sta.start ev_w_GREATER_EQUAL (Or.inr ⟨(hw _ (List.mem_of_getElem? (i := 1) rfl)), (hw _ (List.mem_of_getElem? (i := 2) rfl))⟩)
  have E_w_GREATER_EQUAL := Exa.start ev_w_GREATER_EQUAL g2a
  obtain ⟨w_LESS, ev_w_LESS⟩ := exa_v g4a
  have S_w_LESS := Sta.start ev_w_LESS (Or.inr ⟨(hw _ (List.mem_of_getElem? (i := 1) rfl)), (hw _ (List.mem_of_getElem? (i := 41) rfl))⟩)
  have E_w_LESS := Exa.start ev_w_LESS g4a
  obtain ⟨w_GREATER, ev_w_GREATER⟩ := exa_v g6a
  have S_w_GREATER := Sta.start ev_w_GREATER (Or.inr ⟨(hw _ (List.mem_of_getElem? (i := 1) rfl)), (hw _ (List.mem_of_getElem? (i := 43) rfl))⟩)
  have E_w_GREATER := Exa.start ev_w_GREATER g6a
  obtain ⟨w_LESS_EQUAL, ev_w_LESS_EQUAL⟩ := exa_v g8a
  have S_w_LESS_EQUAL := Sta.start ev_w_LESS_EQUAL (Or.inr ⟨(hw _ (List.mem_of_getElem? (i := 1) rfl)), (hw _ (List.mem_of_getElem? (i := 45) rfl))⟩)
  have E_w_LESS_EQUAL := Exa.start ev_w_LESS_EQUAL g8a
  have F_w_GREATER_EQUAL_ordinal := Fld.start (own_eqF ev_w_GREATER_EQUAL g3a)
  have F_w_LESS_ordinal := Fld.start (own_eqF ev_w_LESS g5a)
  have F_w_GREATER_ordinal := Fld.start (own_eqF ev_w_GREATER g7a)
  have F_w_LESS_EQUAL_ordinal := Fld.start (own_eqF ev_w_LESS_EQUAL g8b)
  have G : Gst s w_GREATER_EQUAL w_GREATER w_LESS_EQUAL w_LESS := ⟨S_w_GREATER_EQUAL, E_w_GREATER_EQUAL, F_w_GREATER_EQUAL_ordinal, S_w_GREATER, E_w_GREATER, F_w_GREATER_ordinal, S_w_LESS_EQUAL, E_w_LESS_EQUAL, F_w_LESS_EQUAL_ordinal, S_w_LESS, E_w_LESS, F_w_LESS_ordinal⟩
  obtain ⟨n, o, h1, h2, h3, _, L, rfl, ⟨rfl, N⟩, hq⟩ := law_met l s _ hw tables_1 w_GREATER_EQUAL w_GREATER w_LESS_EQUAL w_LESS G i0 s.heap s.heap.size (Old.start s)  p e ha hc hk s m _ below hf ((Spec.applies_iff_loose hf).mp happ).1 ⟨rfl, State.Warmed39.refl s, rfl⟩ trivial
  refine ⟨n, _, h1, h2, h3, hpost _ _ _ _ _ _ ⟨Cond.after_iff.mpr rfl, Cond.after_iff.mpr (eq_i res_at (Term.int_eval (1)) rfl), trivial⟩ ⟨hq.1, hq.2.1, (hq.2.2.sift fun y hy => Or.inr (N y hy)).mono (by decide) (by decide)⟩⟩
theorem main_1_1 : Claimed_1_1 := comes_1 fun _ _ _ _ _ _ h hF => ⟨h.1, hF⟩
theorem main_1_2 : Claimed_1_2 := comes_1 fun _ _ _ _ _ _ h hF => ⟨h.2.1, hF⟩
end Jvm.Pilot.@@N@@
namespace Jvm.Pilot.@@N@@
open Jvm Jvm.ClassFile Sem Op Lib Jvm.Free Jvm.Stand Jvm.Pilot.@@N@@.Jvm.D
/-! MADE BY PROGRAM (witnessworld.py) out of the Statement's table words and the real class files: 14 classes; the members and pool entries that the words name. The judged class is class 1, her method 1. -/
namespace start1
open Jvm.ClassFile
def u (s : String) : CpInfo := .utf8 (stringToUtf16 s)
/-- a pool by its gaps: so many unusable entries, then the entry; so many at the end -/
def gap : Nat → List CpInfo → List CpInfo
  | 0, r => r
  | n + 1, r => .unusable :: gap n r
def poolList (es : List (Nat × CpInfo)) (last : Nat) : List CpInfo := es.foldr (fun e r => gap e.1 (e.2 :: r)) (gap last [])
def pool (es : List (Nat × CpInfo)) (last : Nat) : Array CpInfo := ⟨poolList es last⟩
def fileOf (pool : Array CpInfo) (this : Nat) (attrs : Array Attribute := #[]) (ms : Array MethodInfo := #[]) (fl : Nat := 33) (sup : Nat := 0) (ifs : Array Nat := #[]) (fds : Array FieldInfo := #[]) : ClassFile where
  minorVersion := 0
  majorVersion := 65
  constantPool := pool
  accessFlags := fl
  thisClass := this
  superClass := sup
  interfaces := ifs
  fields := fds
  methods := ms
  attributes := attrs
def plain (name : String) (sup : Option ClassId) : Class where
  name := name
  kind := .ordinary
  loader := none
  accessFlags := 33
  super := sup
  interfaces := #[]
  cf := none
  fields := #[]
  methods := #[]
  instanceTypes := #[]
  staticTypes := #[]
  resolved := #[]
  callSites := []
  init := .initialized
  statics := none
  mirror := none

def pool0 : Array CpInfo := pool [(5, u "<init>"), (0, u "()V"), (1, .class_ 10), (1, u "java/lang/Object")] 113

def k0c0 : Code := { maxStack := 0, maxLocals := 1, code := object_method_1_code, exceptionTable := #[], attributes := #[] }
def k0m0 : Method := { name := "<init>", desc := "()V", sig := { parameters := [], returnType := none }, accessFlags := 1, code := some k0c0 }
/-- java/lang/Object -/
def k0 : Class := { plain "java/lang/Object" none with
  accessFlags := 33
  interfaces := #[]
  cf := some (fileOf pool0 8 #[] #[{ accessFlags := 1, nameIndex := 5, descriptorIndex := 6, attributes := #[] }] 33 0 #[] #[])
  fields := #[]
  methods := #[k0m0]
  instanceTypes := #[]
  staticTypes := #[]
  resolved := Array.replicate 124 none
  statics := none }

def pool1 : Array CpInfo := pool [(2, .class_ 4), (1, u "java/lang/Object"), (0, u "<init>"), (0, u "()V"), (0, .fieldref 8 9), (0, .class_ 10), (0, .nameAndType 11 12), (0, u "com/example/inert_quotient/inertquotient/prism/ProbabilityBound$Relation"), (0, u "GREATER_EQUAL"), (0, u "Lcom/example/inert_quotient/inertquotient/prism/ProbabilityBound$Relation;"), (0, .fieldref 8 14), (0, .nameAndType 15 12), (0, u "GREATER"), (0, .fieldref 8 17), (0, .nameAndType 18 12), (0, u "LESS_EQUAL"), (0, .fieldref 8 20), (0, .nameAndType 21 12), (0, u "LESS"), (0, .methodref 8 23), (0, .nameAndType 24 25), (0, u "isLower"), (0, u "()Z"), (0, .class_ 27), (0, u "com/example/inert_quotient/inertquotient/prism/ProbabilityBound"), (0, .methodref 26 29), (0, .nameAndType 5 30), (0, u "(Lcom/example/inert_quotient/inertquotient/prism/ProbabilityBound$Relation;D)V"), (0, .methodref 26 32), (0, .nameAndType 33 34), (0, u "isMetBy"), (0, u "(DD)Z"), (0, .class_ 36), (0, u "com/example/inert_quotient/inertquotient/prism/RelationIsLowerPinLaw"), (2, u "law"), (0, u "(I)Z")] 5

def k1m0 : Method := { name := "<init>", desc := "()V", sig := { parameters := [], returnType := none }, accessFlags := 1, code := none }
def k1c1 : Code := { maxStack := 5, maxLocals := 6, code := code, exceptionTable := #[], attributes := #[] }
def k1m1 : Method := { name := "law", desc := "(I)Z", sig := { parameters := [.int], returnType := some .boolean }, accessFlags := 9, code := some k1c1 }
/-- com/example/inert_quotient/inertquotient/prism/RelationIsLowerPinLaw -/
def k1 : Class := { plain "com/example/inert_quotient/inertquotient/prism/RelationIsLowerPinLaw" (some 0) with
  accessFlags := 49
  interfaces := #[]
  cf := some (fileOf pool1 35 #[] #[{ accessFlags := 1, nameIndex := 5, descriptorIndex := 6, attributes := #[] }, { accessFlags := 9, nameIndex := 39, descriptorIndex := 40, attributes := #[] }] 49 2 #[] #[])
  fields := #[]
  methods := #[k1m0, k1m1]
  instanceTypes := #[]
  staticTypes := #[]
  resolved := Array.replicate 46 none
  statics := none }

def pool2 : Array CpInfo := pool [(1, .class_ 2), (0, u "java/lang/constant/Constable"), (0, .class_ 4), (0, u "java/lang/Object")] 6

/-- java/lang/constant/Constable -/
def k2 : Class := { plain "java/lang/constant/Constable" (some 0) with
  accessFlags := 1537
  interfaces := #[]
  cf := some (fileOf pool2 1 #[] #[] 1537 3 #[] #[])
  fields := #[]
  methods := #[]
  instanceTypes := #[]
  staticTypes := #[]
  resolved := Array.replicate 11 none
  statics := none }

def pool3 : Array CpInfo := pool [(1, .class_ 2), (0, u "java/lang/Comparable"), (0, .class_ 4), (0, u "java/lang/Object")] 7

/-- java/lang/Comparable -/
def k3 : Class := { plain "java/lang/Comparable" (some 0) with
  accessFlags := 1537
  interfaces := #[]
  cf := some (fileOf pool3 1 #[] #[] 1537 3 #[] #[])
  fields := #[]
  methods := #[]
  instanceTypes := #[]
  staticTypes := #[]
  resolved := Array.replicate 12 none
  statics := none }

def pool4 : Array CpInfo := pool [(1, .class_ 2), (0, u "java/io/Serializable"), (0, .class_ 4), (0, u "java/lang/Object")] 2

/-- java/io/Serializable -/
def k4 : Class := { plain "java/io/Serializable" (some 0) with
  accessFlags := 1537
  interfaces := #[]
  cf := some (fileOf pool4 1 #[] #[] 1537 3 #[] #[])
  fields := #[]
  methods := #[]
  instanceTypes := #[]
  staticTypes := #[]
  resolved := Array.replicate 7 none
  statics := none }

def pool5 : Array CpInfo := pool [(2, .class_ 4), (1, u "java/lang/Enum"), (0, u "name"), (0, u "Ljava/lang/String;"), (0, .fieldref 2 8), (0, .nameAndType 9 10), (0, u "ordinal"), (0, u "I"), (1, .class_ 14), (1, u "java/lang/Object"), (4, u "hash"), (86, .class_ 108), (1, u "java/lang/Enum$EnumDesc"), (2, .class_ 112), (0, u "java/lang/constant/Constable"), (0, .class_ 114), (0, u "java/lang/Comparable"), (0, .class_ 116), (0, u "java/io/Serializable"), (9, u "()I")] 77

def k5c0 : Code := { maxStack := 1, maxLocals := 1, code := jdk_37_method_2_code, exceptionTable := #[], attributes := #[] }
def k5m0 : Method := { name := "ordinal", desc := "()I", sig := { parameters := [], returnType := some .int }, accessFlags := 17, code := some k5c0 }
/-- java/lang/Enum -/
def k5 : Class := { plain "java/lang/Enum" (some 0) with
  accessFlags := 1057
  interfaces := #[2, 3, 4]
  cf := some (fileOf pool5 2 #[.nestMembers #[106]] #[{ accessFlags := 17, nameIndex := 9, descriptorIndex := 126, attributes := #[] }] 1057 12 #[111, 113, 115] #[{ accessFlags := 18, nameIndex := 5, descriptorIndex := 6, attributes := #[] }, { accessFlags := 18, nameIndex := 9, descriptorIndex := 10, attributes := #[] }, { accessFlags := 2, nameIndex := 19, descriptorIndex := 10, attributes := #[] }])
  fields := #[{ name := "name", type := (.object "java/lang/String"), accessFlags := 18, slot := 0, constantValue := 0 }, { name := "ordinal", type := .int, accessFlags := 18, slot := 1, constantValue := 0 }, { name := "hash", type := .int, accessFlags := 2, slot := 2, constantValue := 0 }]
  methods := #[k5m0]
  instanceTypes := #[(.object "java/lang/String"), .int, .int]
  staticTypes := #[]
  resolved := Array.replicate 204 none
  statics := none }

def pool6 : Array CpInfo := pool [(1, .class_ 2), (0, u "com/example/inert_quotient/inertquotient/prism/ProbabilityBound$Relation"), (0, .fieldref 1 4), (0, .nameAndType 5 6), (0, u "GREATER_EQUAL"), (0, u "Lcom/example/inert_quotient/inertquotient/prism/ProbabilityBound$Relation;"), (0, .fieldref 1 8), (0, .nameAndType 9 6), (0, u "GREATER"), (2, u "LESS_EQUAL"), (2, u "LESS"), (2, u "$VALUES"), (0, u "[Lcom/example/inert_quotient/inertquotient/prism/ProbabilityBound$Relation;"), (6, .class_ 28), (1, u "java/lang/Enum"), (22, u "isLower"), (0, u "()Z"), (6, .class_ 60), (0, u "com/example/inert_quotient/inertquotient/prism/ProbabilityBound")] 2

def k6c0 : Code := { maxStack := 2, maxLocals := 1, code := prog_65_method_4_code, exceptionTable := #[], attributes := #[] }
def k6m0 : Method := { name := "isLower", desc := "()Z", sig := { parameters := [], returnType := some .boolean }, accessFlags := 1, code := some k6c0 }
/-- com/example/inert_quotient/inertquotient/prism/ProbabilityBound$Relation -/
def k6 : Class := { plain "com/example/inert_quotient/inertquotient/prism/ProbabilityBound$Relation" (some 5) with
  accessFlags := 16433
  interfaces := #[]
  cf := some (fileOf pool6 1 #[.nestHost 59] #[{ accessFlags := 1, nameIndex := 51, descriptorIndex := 52, attributes := #[] }] 16433 26 #[] #[{ accessFlags := 16409, nameIndex := 5, descriptorIndex := 6, attributes := #[] }, { accessFlags := 16409, nameIndex := 9, descriptorIndex := 6, attributes := #[] }, { accessFlags := 16409, nameIndex := 12, descriptorIndex := 6, attributes := #[] }, { accessFlags := 16409, nameIndex := 15, descriptorIndex := 6, attributes := #[] }, { accessFlags := 4122, nameIndex := 18, descriptorIndex := 19, attributes := #[] }])
  fields := #[{ name := "GREATER_EQUAL", type := (.object "com/example/inert_quotient/inertquotient/prism/ProbabilityBound$Relation"), accessFlags := 16409, slot := 0, constantValue := 0 }, { name := "GREATER", type := (.object "com/example/inert_quotient/inertquotient/prism/ProbabilityBound$Relation"), accessFlags := 16409, slot := 1, constantValue := 0 }, { name := "LESS_EQUAL", type := (.object "com/example/inert_quotient/inertquotient/prism/ProbabilityBound$Relation"), accessFlags := 16409, slot := 2, constantValue := 0 }, { name := "LESS", type := (.object "com/example/inert_quotient/inertquotient/prism/ProbabilityBound$Relation"), accessFlags := 16409, slot := 3, constantValue := 0 }, { name := "$VALUES", type := (.array (.object "com/example/inert_quotient/inertquotient/prism/ProbabilityBound$Relation")), accessFlags := 4122, slot := 4, constantValue := 0 }]
  methods := #[k6m0]
  instanceTypes := #[(.object "java/lang/String"), .int, .int]
  staticTypes := #[(.object "com/example/inert_quotient/inertquotient/prism/ProbabilityBound$Relation"), (.object "com/example/inert_quotient/inertquotient/prism/ProbabilityBound$Relation"), (.object "com/example/inert_quotient/inertquotient/prism/ProbabilityBound$Relation"), (.object "com/example/inert_quotient/inertquotient/prism/ProbabilityBound$Relation"), (.array (.object "com/example/inert_quotient/inertquotient/prism/ProbabilityBound$Relation"))]
  resolved := Array.replicate 63 none
  statics := some 0 }

def pool7 : Array CpInfo := pool [(1, .methodref 2 3), (0, .class_ 4), (0, .nameAndType 5 6), (0, u "java/lang/Object"), (0, u "<init>"), (0, u "()V"), (0, .fieldref 8 9), (0, .class_ 10), (0, .nameAndType 11 12), (0, u "com/example/inert_quotient/inertquotient/prism/ProbabilityBound"), (0, u "relation"), (0, u "Lcom/example/inert_quotient/inertquotient/prism/ProbabilityBound$Relation;"), (0, .fieldref 8 14), (0, .nameAndType 15 16), (0, u "probability"), (0, u "D"), (1, .class_ 20), (1, u "com/example/inert_quotient/inertquotient/prism/ProbabilityBound$Relation"), (11, .methodref 33 34), (0, .class_ 35), (0, .nameAndType 36 37), (0, u "java/lang/Math"), (0, u "abs"), (0, u "(D)D"), (0, .methodref 18 39), (0, .nameAndType 40 41), (0, u "ordinal"), (0, u "()I"), (5, u "(Lcom/example/inert_quotient/inertquotient/prism/ProbabilityBound$Relation;D)V"), (7, u "isMetBy"), (0, u "(DD)Z")] 5

def k7c0 : Code := { maxStack := 3, maxLocals := 4, code := prog_64_method_1_code, exceptionTable := #[], attributes := #[] }
def k7m0 : Method := { name := "<init>", desc := "(Lcom/example/inert_quotient/inertquotient/prism/ProbabilityBound$Relation;D)V", sig := { parameters := [(.object "com/example/inert_quotient/inertquotient/prism/ProbabilityBound$Relation"), .double], returnType := none }, accessFlags := 0, code := some k7c0 }
def k7c1 : Code := { maxStack := 6, maxLocals := 6, code := prog_64_method_5_code, exceptionTable := #[], attributes := #[] }
def k7m1 : Method := { name := "isMetBy", desc := "(DD)Z", sig := { parameters := [.double, .double], returnType := some .boolean }, accessFlags := 1, code := some k7c1 }
/-- com/example/inert_quotient/inertquotient/prism/ProbabilityBound -/
def k7 : Class := { plain "com/example/inert_quotient/inertquotient/prism/ProbabilityBound" (some 0) with
  accessFlags := 33
  interfaces := #[]
  cf := some (fileOf pool7 8 #[.nestMembers #[18]] #[{ accessFlags := 0, nameIndex := 5, descriptorIndex := 47, attributes := #[] }, { accessFlags := 1, nameIndex := 55, descriptorIndex := 56, attributes := #[] }] 33 2 #[] #[{ accessFlags := 18, nameIndex := 11, descriptorIndex := 12, attributes := #[] }, { accessFlags := 18, nameIndex := 15, descriptorIndex := 16, attributes := #[] }])
  fields := #[{ name := "relation", type := (.object "com/example/inert_quotient/inertquotient/prism/ProbabilityBound$Relation"), accessFlags := 18, slot := 0, constantValue := 0 }, { name := "probability", type := .double, accessFlags := 18, slot := 1, constantValue := 0 }]
  methods := #[k7m0, k7m1]
  instanceTypes := #[(.object "com/example/inert_quotient/inertquotient/prism/ProbabilityBound$Relation"), .double]
  staticTypes := #[]
  resolved := Array.replicate 62 none
  statics := none }

def pool8 : Array CpInfo := pool [(1, .class_ 2), (0, u "java/lang/Math"), (1, .class_ 6), (1, u "java/lang/Object"), (0, u "<init>"), (0, u "()V"), (5, u "(D)D"), (83, .class_ 100), (1, u "java/lang/Math$RandomNumberGeneratorHolder"), (23, u "abs"), (47, u "negativeZeroFloatBits"), (0, u "J"), (2, u "negativeZeroDoubleBits"), (68, u "$assertionsDisabled"), (0, u "Z"), (91, u "twoToTheDoubleScaleDown"), (0, u "D"), (4, u "twoToTheDoubleScaleUp"), (9, u "E"), (3, u "PI"), (2, u "TAU"), (2, u "DEGREES_TO_RADIANS"), (0, u "RADIANS_TO_DEGREES")] 94

def k8m0 : Method := { name := "<init>", desc := "()V", sig := { parameters := [], returnType := none }, accessFlags := 2, code := none }
def k8c1 : Code := { maxStack := 4, maxLocals := 2, code := jdk_29_method_64_code, exceptionTable := #[], attributes := #[] }
def k8m1 : Method := { name := "abs", desc := "(D)D", sig := { parameters := [.double], returnType := some .double }, accessFlags := 9, code := some k8c1 }
/-- java/lang/Math -/
def k8 : Class := { plain "java/lang/Math" (some 0) with
  accessFlags := 49
  interfaces := #[]
  cf := some (fileOf pool8 1 #[.nestMembers #[98]] #[{ accessFlags := 2, nameIndex := 7, descriptorIndex := 8, attributes := #[] }, { accessFlags := 9, nameIndex := 124, descriptorIndex := 14, attributes := #[] }] 49 4 #[] #[{ accessFlags := 25, nameIndex := 354, descriptorIndex := 339, attributes := #[] }, { accessFlags := 25, nameIndex := 358, descriptorIndex := 339, attributes := #[] }, { accessFlags := 25, nameIndex := 361, descriptorIndex := 339, attributes := #[] }, { accessFlags := 26, nameIndex := 364, descriptorIndex := 339, attributes := #[] }, { accessFlags := 26, nameIndex := 365, descriptorIndex := 339, attributes := #[] }, { accessFlags := 26, nameIndex := 172, descriptorIndex := 173, attributes := #[] }, { accessFlags := 26, nameIndex := 176, descriptorIndex := 173, attributes := #[] }, { accessFlags := 8, nameIndex := 344, descriptorIndex := 339, attributes := #[] }, { accessFlags := 8, nameIndex := 338, descriptorIndex := 339, attributes := #[] }, { accessFlags := 4120, nameIndex := 245, descriptorIndex := 246, attributes := #[] }])
  fields := #[{ name := "E", type := .double, accessFlags := 25, slot := 0, constantValue := 0 }, { name := "PI", type := .double, accessFlags := 25, slot := 1, constantValue := 0 }, { name := "TAU", type := .double, accessFlags := 25, slot := 2, constantValue := 0 }, { name := "DEGREES_TO_RADIANS", type := .double, accessFlags := 26, slot := 3, constantValue := 0 }, { name := "RADIANS_TO_DEGREES", type := .double, accessFlags := 26, slot := 4, constantValue := 0 }, { name := "negativeZeroFloatBits", type := .long, accessFlags := 26, slot := 5, constantValue := 0 }, { name := "negativeZeroDoubleBits", type := .long, accessFlags := 26, slot := 6, constantValue := 0 }, { name := "twoToTheDoubleScaleUp", type := .double, accessFlags := 8, slot := 7, constantValue := 0 }, { name := "twoToTheDoubleScaleDown", type := .double, accessFlags := 8, slot := 8, constantValue := 0 }, { name := "$assertionsDisabled", type := .boolean, accessFlags := 4120, slot := 9, constantValue := 0 }]
  methods := #[k8m0, k8m1]
  instanceTypes := #[]
  staticTypes := #[.double, .double, .double, .double, .double, .long, .long, .double, .double, .boolean]
  resolved := Array.replicate 460 none
  statics := none }

def pool9 : Array CpInfo := pool [(1, u "java/lang/Cloneable"), (0, .class_ 1), (0, u "java/lang/Object"), (0, .class_ 3)] 3

/-- java/lang/Cloneable -/
def k9 : Class := { plain "java/lang/Cloneable" (some 0) with
  accessFlags := 1537
  interfaces := #[]
  cf := some (fileOf pool9 2 #[] #[] 1537 4 #[] #[])
  fields := #[]
  methods := #[]
  instanceTypes := #[]
  staticTypes := #[]
  resolved := Array.replicate 8 none
  statics := none }

/-- the primitive byte -/
def k10 : Class := { plain "byte" none with kind := .primitive 'B', accessFlags := 0x411 }
/-- [B -/
def k11 : Class := { plain "[B" (some 0) with kind := .array 10 .byte, interfaces := #[9, 4], accessFlags := 1041 }

/-- the primitive int -/
def k12 : Class := { plain "int" none with kind := .primitive 'I', accessFlags := 0x411 }
/-- [I -/
def k13 : Class := { plain "[I" (some 0) with kind := .array 12 .int, interfaces := #[9, 4], accessFlags := 1041 }

def heap : Heap := #[{ cls := 6, slots := #[.ref 1, .ref 2, .ref 3, .ref 4, .null], vm := .statics 6 },
  { cls := 6, slots := #[.null, .int 0, .int 0], vm := .none },
  { cls := 6, slots := #[.null, .int 1, .int 0], vm := .none },
  { cls := 6, slots := #[.null, .int 2, .int 0], vm := .none },
  { cls := 6, slots := #[.null, .int 3, .int 0], vm := .none }]
def classes : Array Class := #[k0, k1, k2, k3, k4, k5, k6, k7, k8, k9, k10, k11, k12, k13]
def interned : List (Array UInt16 × Addr) := []
def slotsUsed : Nat := 17
def theMethod : MethodId := ⟨1, 1⟩
def args0 : Array Value := #[.int 5]
def aboutOver (below : List Frame) : State where
  vm := { classes := classes, interned := interned.toArray }
  heap := heap
  slotsUsed := slotsUsed
  threads := #[{ frames := .invoking theMethod args0 :: below }]
def below0 : List Frame := [.native { method := ⟨0, 0⟩, args := #[] }]
def about1 : State := aboutOver below0
def p0 : Program := .bare "" "" ""
def e0 : Env := launch0.env 0 0 0
theorem w_frames : about1.frames = Frame.invoking theMethod args0 :: below0 := rfl
set_option maxRecDepth 65536 in
theorem w_args : argsFit about1.vm theMethod args0 = true := by decide +kernel
set_option maxRecDepth 65536 in
theorem w_heap : heapFits about1 = true := by decide +kernel
set_option maxRecDepth 65536 in
theorem w_runnable : about1.curStatus? = some .runnable := by decide +kernel
set_option maxRecDepth 65536 in
theorem w_alone : about1.alone = true := by decide +kernel
set_option maxRecDepth 65536 in
theorem w_named : about1.methodNamed? x = some theMethod := by decide +kernel
set_option maxRecDepth 65536 in
theorem w_hears : about1.hears theMethod below0 = true := by decide +kernel
set_option maxRecDepth 65536 in
theorem w_ripe : about1.ripe theMethod args0 below0 = true := by decide +kernel
theorem w_running : about1.status = .running := rfl
set_option maxRecDepth 65536 in
theorem w_room : about1.hasRoom e0.platform room_1 = true :=
  launch0.hasRoom_least _ room_1 (by decide +kernel) (by decide +kernel) (by decide +kernel) (by decide +kernel) (by decide +kernel) (by decide +kernel)
theorem allAtoms_all (ts : List Jvm.Cond) (a : Array Jvm.Value) (st : Jvm.State) : (allAtoms ts).before a st = ts.all (fun c => c.before a st) := by
  induction ts with
  | nil => rfl
  | cons c t ih =>
    show (Jvm.Cond.and c (allAtoms t)).before a st = _
    rw [Jvm.Cond.before_and, ih, List.all_cons]
def words1 : List Jvm.Cond := Jvm.Cond.code x code maxLocals ret :: tables_1
/-- a 'code' word, met by the world's own term for the bytes: nothing is compared byte by byte -/
theorem code_word {y : MethodName} {bytes : ByteArray} {mx : Nat} {rt : Option FieldType} {a : Array Value} {s : State} {m : MethodId} {meth : Method} {c : Code} (h1 : s.methodNamed? y = some m) (h2 : s.vm.method? m = some meth) (h3 : meth.code = some c) (h4 : c.code = bytes)
    (h5 : (c.maxLocals == mx && c.exceptionTable.isEmpty && decide (c.maxStack ≤ mostOperands) && decide (meth.sig.returnType = rt) && !meth.locks && decide (parseMethodDescriptor y.desc = some meth.sig)) = true) : (Jvm.Cond.code y bytes mx rt).before a s = true := by
  simp only [Bool.and_eq_true, beq_iff_eq, Bool.not_eq_true', decide_eq_true_eq] at h5
  obtain ⟨⟨⟨⟨⟨g1, g2⟩, g3⟩, g4⟩, g5⟩, g6⟩ := h5
  simp [Cond.before, Cond.holds, Cond.value, h1, h2, h3, h4, g1, g2, g3, g4, g5, g6]
def isCode : Jvm.Cond → Bool
  | .code _ _ _ _ => true
  | _ => false
theorem all_split {L : List Jvm.Cond} {P : Jvm.Cond → Bool} (h1 : L.all (fun c => isCode c || P c) = true) (h2 : ∀ c ∈ L.filter isCode, P c = true) : L.all P = true := by
  refine List.all_eq_true.mpr fun c hc => ?_
  have h := List.all_eq_true.mp h1 c hc
  rcases Bool.eq_false_or_eq_true (isCode c) with hi | hi
  · exact h2 c (List.mem_filter.mpr ⟨hc, hi⟩)
  · simpa [hi] using h
set_option maxRecDepth 65536 in
theorem w_c0 : (Jvm.Cond.code x code maxLocals ret).before args0 about1 = true := code_word (m := ⟨1, 1⟩) (meth := k1m1) (c := k1c1) (by decide +kernel) rfl rfl rfl (by decide +kernel)
set_option maxRecDepth 65536 in
theorem w_c1 : (Jvm.Cond.code ({ cls := "com/example/inert_quotient/inertquotient/prism/ProbabilityBound$Relation", name := "isLower", desc := "()Z" } : Jvm.MethodName) prog_65_method_4_code (1 : Nat) (Option.some Jvm.ClassFile.FieldType.boolean)).before args0 about1 = true := code_word (m := ⟨6, 0⟩) (meth := k6m0) (c := k6c0) (by decide +kernel) rfl rfl rfl (by decide +kernel)
set_option maxRecDepth 65536 in
theorem w_c2 : (Jvm.Cond.code ({ cls := "com/example/inert_quotient/inertquotient/prism/ProbabilityBound", name := "<init>", desc := "(Lcom/example/inert_quotient/inertquotient/prism/ProbabilityBound$Relation;D)V" } : Jvm.MethodName) prog_64_method_1_code (4 : Nat) (Option.none : Option Jvm.ClassFile.FieldType)).before args0 about1 = true := code_word (m := ⟨7, 0⟩) (meth := k7m0) (c := k7c0) (by decide +kernel) rfl rfl rfl (by decide +kernel)
set_option maxRecDepth 65536 in
theorem w_c3 : (Jvm.Cond.code ({ cls := "java/lang/Object", name := "<init>", desc := "()V" } : Jvm.MethodName) object_method_1_code (1 : Nat) (Option.none : Option Jvm.ClassFile.FieldType)).before args0 about1 = true := code_word (m := ⟨0, 0⟩) (meth := k0m0) (c := k0c0) (by decide +kernel) rfl rfl rfl (by decide +kernel)
set_option maxRecDepth 65536 in
theorem w_c4 : (Jvm.Cond.code ({ cls := "com/example/inert_quotient/inertquotient/prism/ProbabilityBound", name := "isMetBy", desc := "(DD)Z" } : Jvm.MethodName) prog_64_method_5_code (6 : Nat) (Option.some Jvm.ClassFile.FieldType.boolean)).before args0 about1 = true := code_word (m := ⟨7, 1⟩) (meth := k7m1) (c := k7c1) (by decide +kernel) rfl rfl rfl (by decide +kernel)
set_option maxRecDepth 65536 in
theorem w_c5 : (Jvm.Cond.code ({ cls := "java/lang/Math", name := "abs", desc := "(D)D" } : Jvm.MethodName) jdk_29_method_64_code (2 : Nat) (Option.some Jvm.ClassFile.FieldType.double)).before args0 about1 = true := code_word (m := ⟨8, 1⟩) (meth := k8m1) (c := k8c1) (by decide +kernel) rfl rfl rfl (by decide +kernel)
set_option maxRecDepth 65536 in
theorem w_c6 : (Jvm.Cond.code ({ cls := "java/lang/Enum", name := "ordinal", desc := "()I" } : Jvm.MethodName) jdk_37_method_2_code (1 : Nat) (Option.some Jvm.ClassFile.FieldType.int)).before args0 about1 = true := code_word (m := ⟨5, 0⟩) (meth := k5m0) (c := k5c0) (by decide +kernel) rfl rfl rfl (by decide +kernel)
def codes1 : List Jvm.Cond := [Jvm.Cond.code x code maxLocals ret, Jvm.Cond.code ({ cls := "com/example/inert_quotient/inertquotient/prism/ProbabilityBound$Relation", name := "isLower", desc := "()Z" } : Jvm.MethodName) prog_65_method_4_code (1 : Nat) (Option.some Jvm.ClassFile.FieldType.boolean), Jvm.Cond.code ({ cls := "com/example/inert_quotient/inertquotient/prism/ProbabilityBound", name := "<init>", desc := "(Lcom/example/inert_quotient/inertquotient/prism/ProbabilityBound$Relation;D)V" } : Jvm.MethodName) prog_64_method_1_code (4 : Nat) (Option.none : Option Jvm.ClassFile.FieldType), Jvm.Cond.code ({ cls := "java/lang/Object", name := "<init>", desc := "()V" } : Jvm.MethodName) object_method_1_code (1 : Nat) (Option.none : Option Jvm.ClassFile.FieldType), Jvm.Cond.code ({ cls := "com/example/inert_quotient/inertquotient/prism/ProbabilityBound", name := "isMetBy", desc := "(DD)Z" } : Jvm.MethodName) prog_64_method_5_code (6 : Nat) (Option.some Jvm.ClassFile.FieldType.boolean), Jvm.Cond.code ({ cls := "java/lang/Math", name := "abs", desc := "(D)D" } : Jvm.MethodName) jdk_29_method_64_code (2 : Nat) (Option.some Jvm.ClassFile.FieldType.double), Jvm.Cond.code ({ cls := "java/lang/Enum", name := "ordinal", desc := "()I" } : Jvm.MethodName) jdk_37_method_2_code (1 : Nat) (Option.some Jvm.ClassFile.FieldType.int)]
set_option maxRecDepth 65536 in
theorem codes_eq : words1.filter isCode = codes1 := rfl
theorem w_codes : ∀ c ∈ words1.filter isCode, c.before args0 about1 = true := by
  rw [codes_eq]
  intro c hc
  simp only [codes1, List.mem_cons, List.not_mem_nil, or_false] at hc
  rcases hc with rfl | rfl | rfl | rfl | rfl | rfl | rfl
  · exact w_c0
  · exact w_c1
  · exact w_c2
  · exact w_c3
  · exact w_c4
  · exact w_c5
  · exact w_c6
set_option maxRecDepth 65536 in
theorem w_t1 : (words1.take 24).all (fun c => isCode c || c.before args0 about1) = true := by decide +kernel
set_option maxRecDepth 65536 in
theorem w_t2 : (words1.drop 24).all (fun c => isCode c || c.before args0 about1) = true := by decide +kernel
theorem w_tables : (allAtoms (Jvm.Cond.code x code maxLocals ret :: tables_1)).before args0 about1 = true := by
  rw [allAtoms_all]
  show words1.all (fun c => c.before args0 about1) = true
  refine all_split ?_ w_codes
  rw [← List.take_append_drop 24 words1, List.all_append, w_t1, w_t2]
  rfl
set_option maxRecDepth 65536 in
theorem w_case : (Jvm.Cond.and given_1 narrow_1).before args0 about1 = true := by decide +kernel
theorem w_applies : (headSpec (Jvm.Cond.code x code maxLocals ret :: tables_1) room_1).applies x e0.platform about1 = true :=
  (Spec.applies_iff w_frames).mpr ⟨w_running, w_runnable, w_alone, w_named, w_hears, w_ripe, w_room, w_tables⟩
theorem atStart : AtStart classFile x code maxLocals ret World_1 tables_1 room_1 Calls_1 rest_1 Pre_1 launch0 p0 e0 about1 theMethod args0 below0 :=
  ⟨lists_1, trivial, launch0.admits_env _ _ _, launch0.least_env, fairChoices_fair.cas, fairChoices_fair.clock, w_frames, w_args, w_heap, w_applies, trivial, trivial, w_case⟩
end start1
theorem witness_1 : WitnessClaimed_1 := ⟨start1.p0, start1.e0, start1.about1, start1.theMethod, start1.args0, start1.below0, start1.atStart⟩
end Jvm.Pilot.@@N@@
