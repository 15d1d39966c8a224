import JvmDerived
import JvmDerived.Pilot.@@N@@Statement
import JvmDerived.Pilot.@@N@@Code
set_option linter.unusedVariables false
set_option linter.unusedSimpArgs false
namespace Jvm.Pilot.@@N@@
open Jvm Jvm.ClassFile Sem Op Lib Jvm.Free Jvm.Stand Jvm.LawKit Jvm.RoadKit Bundle Jvm.Pilot.@@N@@.Jvm.D
abbrev Way (p : Program) (e : Env) (below : List Frame) (S0 T : State) (g : JFrame) : Prop := ∀ t, Steps p.tables e below (T.setTop g) t → Steps p.tables e below S0 t
theorem own_old {Z : State} {n0 : Nat} {h : Heap} (O : Old Z n0 h) : n0 ≤ h.size := O.1 ▸ O.2.1
theorem own_lsw {tb : Tables} [Ours tb] {e : Env} {below : List Frame} {T target : State} {m : MethodId} {c : Code} {g : JFrame} (h : At T m c below) (hx : tb.exec = Jvm.exec) (hg : g.method = m) {dflt : Int} {pairs : Array (Int × Int)} {len : Nat} {pc0 pc' : Nat} (hpc : g.pc = pc0) (hd : decode c.code g.pc = .ok (.lookupswitch dflt pairs, len)) {i : Int32} {rest : List Value} (hs : g.stack = .int i :: rest) {off : Int}
    (hoff : lookupswitch.offset pairs.toList dflt i.toInt = off) (ho : 0 ≤ (pc0 : Int) + off) (hp : ((pc0 : Int) + off).toNat = pc') (hsort : (pairs.toList.zip pairs.toList.tail).all (fun q => decide (q.1.1 < q.2.1)) = true)
    (hr : Steps tb e below (T.setTop { g with pc := pc', stack := rest }) target) : Steps tb e below (T.setTop g) target := by
  subst hg hpc hp
  have hq : ∀ (a b a_1 b_1 : Int), ((a, b), a_1, b_1) ∈ pairs.toList.zip pairs.toList.tail → a < a_1 := fun a b a1 b1 hm => of_decide_eq_true (List.all_eq_true.mp hsort _ hm)
  jvm_step h [h.top, hx, hd, hs, hoff, ho, lookupswitch.wp_chain]
  exact ⟨hq, hr⟩
theorem own_eqF {args : Array Value} {s : State} {t : Term} {x : Addr} {C n d : String} {k : Int32} (ht : t.eval args s none [] s = some (.ref x)) (h : (Jvm.Cond.eq (.field t C n d) (.int k)).value args s none s [] = some true) : s.fieldOf? x C n d = some (.int k) :=
  (fld_at ht).symm.trans (Cond.eq_int (Cond.before_iff.mpr h) rfl)
theorem own_mask3 (x : Int32) : (x &&& (3 : Int32)) = (0 : Int32) ∨ (x &&& (3 : Int32)) = (1 : Int32) ∨ (x &&& (3 : Int32)) = (2 : Int32) ∨ (x &&& (3 : Int32)) = (3 : Int32) := by
  have h1 : (x &&& (3 : Int32)).toInt = x.toInt % (2 ^ 2 : Nat) := c_mask x 3 2 (by decide) (by decide)
  have h3 : (x &&& (3 : Int32)).toInt = 0 ∨ (x &&& (3 : Int32)).toInt = 1 ∨ (x &&& (3 : Int32)).toInt = 2 ∨ (x &&& (3 : Int32)).toInt = 3 := by omega
  rcases h3 with h | h | h | h
  · exact Or.inl (Int32.toInt_inj.mp h)
  · exact Or.inr (Or.inl (Int32.toInt_inj.mp h))
  · exact Or.inr (Or.inr (Or.inl (Int32.toInt_inj.mp h)))
  · exact Or.inr (Or.inr (Or.inr ((Int32.toInt_inj.mp h))))
def Gst (Z : State) (w_POOL : Addr) (w_NO_RULE : Addr) (w_ONE_RULE : Addr) (w_MANY_RULES : Addr) : Prop := (Sta Z Z.heap "com/example/rulework/bench/Burst" "POOL" "Lcom/example/rulework/bench/Burst;" (.ref w_POOL)) ∧ (Exa Z Z.heap w_POOL "com/example/rulework/bench/Burst") ∧ (Fld Z Z.heap w_POOL "java/lang/Enum" "ordinal" "I" (.int (0 : Int32))) ∧ (Sta Z Z.heap "com/example/rulework/bench/Burst" "NO_RULE" "Lcom/example/rulework/bench/Burst;" (.ref w_NO_RULE)) ∧ (Exa Z Z.heap w_NO_RULE "com/example/rulework/bench/Burst") ∧ (Fld Z Z.heap w_NO_RULE "java/lang/Enum" "ordinal" "I" (.int (1 : Int32))) ∧ (Sta Z Z.heap "com/example/rulework/bench/Burst" "ONE_RULE" "Lcom/example/rulework/bench/Burst;" (.ref w_ONE_RULE)) ∧ (Exa Z Z.heap w_ONE_RULE "com/example/rulework/bench/Burst") ∧ (Fld Z Z.heap w_ONE_RULE "java/lang/Enum" "ordinal" "I" (.int (2 : Int32))) ∧ (Sta Z Z.heap "com/example/rulework/bench/Burst" "MANY_RULES" "Lcom/example/rulework/bench/Burst;" (.ref w_MANY_RULES)) ∧ (Exa Z Z.heap w_MANY_RULES "com/example/rulework/bench/Burst") ∧ (Fld Z Z.heap w_MANY_RULES "java/lang/Enum" "ordinal" "I" (.int (3 : Int32)))
theorem d_method_2_code_0 : decode method_2_code 0 = .ok (.iload_n 0, 1) := by decide +kernel
theorem d_method_2_code_1 : decode method_2_code 1 = .ok (.ifCond .ne 7, 3) := by decide +kernel
theorem d_method_2_code_4 : decode method_2_code 4 = .ok (.getstatic 7, 3) := by decide +kernel
theorem d_method_2_code_7 : decode method_2_code 7 = .ok (.areturn, 1) := by decide +kernel
theorem pn_0 : plainName "com/example/rulework/bench/BurstRuleCountPinLaw" = true := by first | (simp [plainName, overriddenIn]; done) | decide +kernel
theorem d_method_2_code_8 : decode method_2_code 8 = .ok (.iload_n 0, 1) := by decide +kernel
theorem d_method_2_code_9 : decode method_2_code 9 = .ok (.iconst 1, 1) := by decide +kernel
theorem d_method_2_code_10 : decode method_2_code 10 = .ok (.if_icmp .ne 7, 3) := by decide +kernel
theorem d_method_2_code_13 : decode method_2_code 13 = .ok (.getstatic 13, 3) := by decide +kernel
theorem d_method_2_code_16 : decode method_2_code 16 = .ok (.areturn, 1) := by decide +kernel
theorem d_method_2_code_17 : decode method_2_code 17 = .ok (.iload_n 0, 1) := by decide +kernel
theorem d_method_2_code_18 : decode method_2_code 18 = .ok (.iconst 2, 1) := by decide +kernel
theorem d_method_2_code_19 : decode method_2_code 19 = .ok (.if_icmp .ne 7, 3) := by decide +kernel
theorem d_method_2_code_22 : decode method_2_code 22 = .ok (.getstatic 16, 3) := by decide +kernel
theorem d_method_2_code_25 : decode method_2_code 25 = .ok (.areturn, 1) := by decide +kernel
theorem d_method_2_code_26 : decode method_2_code 26 = .ok (.getstatic 19, 3) := by decide +kernel
theorem d_method_2_code_29 : decode method_2_code 29 = .ok (.areturn, 1) := by decide +kernel
theorem d_jdk_37_method_2_code_0 : decode jdk_37_method_2_code 0 = .ok (.aload_n 0, 1) := by decide +kernel
theorem d_jdk_37_method_2_code_1 : decode jdk_37_method_2_code 1 = .ok (.getfield 7, 3) := by decide +kernel
theorem d_jdk_37_method_2_code_4 : decode jdk_37_method_2_code 4 = .ok (.ireturn, 1) := by decide +kernel
theorem pn_1 : plainName "java/lang/Enum" = true := by first | (simp [plainName, overriddenIn]; done) | decide +kernel
theorem d_prog_1_method_4_code_0 : decode prog_1_method_4_code 0 = .ok (.aload_n 0, 1) := by decide +kernel
theorem d_prog_1_method_4_code_1 : decode prog_1_method_4_code 1 = .ok (.invokevirtual 39, 3) := by decide +kernel
theorem pd_0 : parseMethodDescriptor "()I" = some ⟨[], some .int⟩ := by decide +kernel
theorem d_prog_1_method_4_code_4 : decode prog_1_method_4_code 4 = .ok (.lookupswitch 32 #[(2, 28), (3, 30)], 28) := by decide +kernel
theorem d_prog_1_method_4_code_36 : decode prog_1_method_4_code 36 = .ok (.iconst 0, 1) := by decide +kernel
theorem d_prog_1_method_4_code_37 : decode prog_1_method_4_code 37 = .ok (.ireturn, 1) := by decide +kernel
theorem pn_2 : plainName "com/example/rulework/bench/Burst" = true := by first | (simp [plainName, overriddenIn]; done) | decide +kernel
theorem d_prog_1_method_4_code_32 : decode prog_1_method_4_code 32 = .ok (.iconst 1, 1) := by decide +kernel
theorem d_prog_1_method_4_code_33 : decode prog_1_method_4_code 33 = .ok (.ireturn, 1) := by decide +kernel
theorem d_prog_1_method_4_code_34 : decode prog_1_method_4_code 34 = .ok (.iload_n 1, 1) := by decide +kernel
theorem d_prog_1_method_4_code_35 : decode prog_1_method_4_code 35 = .ok (.ireturn, 1) := by decide +kernel
theorem d_method_3_code_0 : decode method_3_code 0 = .ok (.iload_n 0, 1) := by decide +kernel
theorem d_method_3_code_1 : decode method_3_code 1 = .ok (.iconst 2, 1) := by decide +kernel
theorem d_method_3_code_2 : decode method_3_code 2 = .ok (.if_icmp .ne 5, 3) := by decide +kernel
theorem d_method_3_code_7 : decode method_3_code 7 = .ok (.iload_n 0, 1) := by decide +kernel
theorem d_method_3_code_8 : decode method_3_code 8 = .ok (.iconst 3, 1) := by decide +kernel
theorem d_method_3_code_9 : decode method_3_code 9 = .ok (.if_icmp .ne 5, 3) := by decide +kernel
theorem d_method_3_code_14 : decode method_3_code 14 = .ok (.iconst 0, 1) := by decide +kernel
theorem d_method_3_code_15 : decode method_3_code 15 = .ok (.ireturn, 1) := by decide +kernel
theorem d_method_3_code_5 : decode method_3_code 5 = .ok (.iconst 1, 1) := by decide +kernel
theorem d_method_3_code_6 : decode method_3_code 6 = .ok (.ireturn, 1) := by decide +kernel
theorem d_method_3_code_12 : decode method_3_code 12 = .ok (.iload_n 1, 1) := by decide +kernel
theorem d_method_3_code_13 : decode method_3_code 13 = .ok (.ireturn, 1) := by decide +kernel
theorem pd_1 : parseMethodDescriptor "(I)Lcom/example/rulework/bench/Burst;" = some ⟨[.int], some (.object "com/example/rulework/bench/Burst")⟩ := by decide +kernel
theorem pd_2 : parseMethodDescriptor "(I)I" = some ⟨[.int], some .int⟩ := by decide +kernel
theorem pd_3 : parseMethodDescriptor "(II)I" = some ⟨[.int, .int], some .int⟩ := by decide +kernel
def Q_pick0 (Z : State) (w_POOL : Addr) (w_NO_RULE : Addr) (w_ONE_RULE : Addr) (w_MANY_RULES : Addr)  (h0 : Heap) (n0 : Nat) (v : Option Value) (h : Heap) (L : List Loc) : Prop := (v = some (.ref w_POOL)) ∧ (Fr n0 L) ∧ (h = h0)
set_option maxRecDepth 65536 in
set_option maxHeartbeats 40000000 in
theorem pick0 (l : Launch) (Z : State) (a0 : Array Value) (hw : ∀ d ∈ tables_1, d.before a0 Z = true) (ws : List Jvm.Cond) (w_POOL : Addr) (w_NO_RULE : Addr) (w_ONE_RULE : Addr) (w_MANY_RULES : Addr) (G : Gst Z w_POOL w_NO_RULE w_ONE_RULE w_MANY_RULES)  (h0 : Heap) (n0 : Nat) (O0 : Old Z n0 h0) :
    MetFree l (⟨"com/example/rulework/bench/BurstRuleCountPinLaw", "pick", "(I)Lcom/example/rulework/bench/Burst;"⟩ : MethodName) (head1 (Jvm.Cond.code (⟨"com/example/rulework/bench/BurstRuleCountPinLaw", "pick", "(I)Lcom/example/rulework/bench/Burst;"⟩ : MethodName) method_2_code 1 (some (.object "com/example/rulework/bench/Burst")) :: ws) ({ frames := 0, cells := 0, slots := 0, locals := 0 } : Room)) (fun a U => a = #[(.int (0 : Int32))] ∧ Z.Warmed39 U.vm ∧ U.heap = h0) (fun _ _ _ _ _ => True) (fun _ U o U' => ∃ v L, o = .returned v ∧ Q_pick0 Z w_POOL w_NO_RULE w_ONE_RULE w_MANY_RULES  h0 n0 v U'.heap L ∧ FrameEnd U o U' L ({ frames := 0, cells := 0, slots := 0, locals := 0 } : Room).cells ({ frames := 0, cells := 0, slots := 0, locals := 0 } : Room).slots) := by
  refine MetFree.of_bodySF (plainFor_of_name pn_0) hisR ?_
  intro p e s m args below meth c s₁ Bd hml0 hP hK
  obtain ⟨rfl, hZ, hh⟩ := hP
  have hx := Bd.exec
  have hby := Bd.bytes
  have hml : c.maxLocals = 1 := hml0
  have hown : s.vm.findClass "com/example/rulework/bench/BurstRuleCountPinLaw" = some m.cls := findClass_of_methodNamed Bd.named
  have hnm := (name_of_methodNamed Bd.named Bd.method).1
  have X0 : Stand p l e ({ frames := 0, cells := 0, slots := 0, locals := 0 } : Room) s m #[(.int (0 : Int32))] below meth c s₁ [] 0 0 := Stand.of_body Bd
  have e0 : s₁.heap = h0 := by rw [← hh, Bd.state]; rfl
  have N0 := Fr.nil n0
  obtain ⟨S_w_POOL, E_w_POOL, F_w_POOL_ordinal, S_w_NO_RULE, E_w_NO_RULE, F_w_NO_RULE_ordinal, S_w_ONE_RULE, E_w_ONE_RULE, F_w_ONE_RULE_ordinal, S_w_MANY_RULES, E_w_MANY_RULES, F_w_MANY_RULES_ordinal⟩ := id G
  have k0 : Way p e below (s₁.setTop (entryFrame m #[(.int (0 : Int32))] 1)) s₁ (mkF m 0 #[iv (0 : Int32)] []) := fun t k => castTop (by first | (simp [entryFrame, mkF, argsToLocals, Value.category]; done) | rfl) k
  generalize s₁.setTop (entryFrame m #[(.int (0 : Int32))] 1) = S0 at k0 ⊢
  have k1 : Way p e below S0 s₁ (mkF m 4 #[iv (0 : Int32)] []) := by
    intro t k
    refine k0 t ?_
    refine XS.iloadN X0.here hx rfl (hb hby d_method_2_code_0) rfl ?_
    show Steps p.tables e below (s₁.setTop (mkF m 1 #[iv (0 : Int32)] [(.int (0 : Int32))])) _
    refine XS.ifNo X0.here hx rfl (hb hby d_method_2_code_1) rfl ((if0 _ _).trans (teq ((by decide) : (0 : Int32) = (0 : Int32))).2) ?_
    show Steps p.tables e below (s₁.setTop (mkF m 4 #[iv (0 : Int32)] [])) _
    exact k
  obtain ⟨T2, X2, e2, st2⟩ := getS2 X0 hx hZ hown (host := "") (Or.inl (hw _ (List.mem_of_getElem? (i := 4) rfl))) Via.refl e0 (S_w_POOL.ext O0.2) (g := (mkF m 4 #[iv (0 : Int32)] [])) rfl (hb hby d_method_2_code_4)
  have k3 : Way p e below S0 T2 (mkF m 7 #[iv (0 : Int32)] [(.ref w_POOL)]) := fun t k => k1 t (st2 _ k)
  obtain ⟨fs, hr, hrun, hended, hW, hsame⟩ := X2.leave (v := some (.ref w_POOL)) (fun h => by rw [Bd.returns] at h; cases h)
  refine ⟨_, _, k3 _ (retOut X2 hx Bd.returns rfl (Or.inr (Or.inr (Or.inr (Or.inr ⟨rfl, rfl, rfl⟩)))) (hb hby d_method_2_code_7) hr), hrun, hended, _, _, rfl, ?_, ⟨_, rfl⟩, hW, hsame.mono (by decide) (by decide)⟩
  show Q_pick0 Z w_POOL w_NO_RULE w_ONE_RULE w_MANY_RULES  h0 n0 _ T2.heap _
  rw [e2]
  exact ⟨rfl, N0, rfl⟩
def Q_pick1 (Z : State) (w_POOL : Addr) (w_NO_RULE : Addr) (w_ONE_RULE : Addr) (w_MANY_RULES : Addr)  (h0 : Heap) (n0 : Nat) (v : Option Value) (h : Heap) (L : List Loc) : Prop := (v = some (.ref w_NO_RULE)) ∧ (Fr n0 L) ∧ (h = h0)
set_option maxRecDepth 65536 in
set_option maxHeartbeats 40000000 in
theorem pick1 (l : Launch) (Z : State) (a0 : Array Value) (hw : ∀ d ∈ tables_1, d.before a0 Z = true) (ws : List Jvm.Cond) (w_POOL : Addr) (w_NO_RULE : Addr) (w_ONE_RULE : Addr) (w_MANY_RULES : Addr) (G : Gst Z w_POOL w_NO_RULE w_ONE_RULE w_MANY_RULES)  (h0 : Heap) (n0 : Nat) (O0 : Old Z n0 h0) :
    MetFree l (⟨"com/example/rulework/bench/BurstRuleCountPinLaw", "pick", "(I)Lcom/example/rulework/bench/Burst;"⟩ : MethodName) (head1 (Jvm.Cond.code (⟨"com/example/rulework/bench/BurstRuleCountPinLaw", "pick", "(I)Lcom/example/rulework/bench/Burst;"⟩ : MethodName) method_2_code 1 (some (.object "com/example/rulework/bench/Burst")) :: ws) ({ frames := 0, cells := 0, slots := 0, locals := 0 } : Room)) (fun a U => a = #[(.int (1 : Int32))] ∧ Z.Warmed39 U.vm ∧ U.heap = h0) (fun _ _ _ _ _ => True) (fun _ U o U' => ∃ v L, o = .returned v ∧ Q_pick1 Z w_POOL w_NO_RULE w_ONE_RULE w_MANY_RULES  h0 n0 v U'.heap L ∧ FrameEnd U o U' L ({ frames := 0, cells := 0, slots := 0, locals := 0 } : Room).cells ({ frames := 0, cells := 0, slots := 0, locals := 0 } : Room).slots) := by
  refine MetFree.of_bodySF (plainFor_of_name pn_0) hisR ?_
  intro p e s m args below meth c s₁ Bd hml0 hP hK
  obtain ⟨rfl, hZ, hh⟩ := hP
  have hx := Bd.exec
  have hby := Bd.bytes
  have hml : c.maxLocals = 1 := hml0
  have hown : s.vm.findClass "com/example/rulework/bench/BurstRuleCountPinLaw" = some m.cls := findClass_of_methodNamed Bd.named
  have hnm := (name_of_methodNamed Bd.named Bd.method).1
  have X0 : Stand p l e ({ frames := 0, cells := 0, slots := 0, locals := 0 } : Room) s m #[(.int (1 : Int32))] below meth c s₁ [] 0 0 := Stand.of_body Bd
  have e0 : s₁.heap = h0 := by rw [← hh, Bd.state]; rfl
  have N0 := Fr.nil n0
  obtain ⟨S_w_POOL, E_w_POOL, F_w_POOL_ordinal, S_w_NO_RULE, E_w_NO_RULE, F_w_NO_RULE_ordinal, S_w_ONE_RULE, E_w_ONE_RULE, F_w_ONE_RULE_ordinal, S_w_MANY_RULES, E_w_MANY_RULES, F_w_MANY_RULES_ordinal⟩ := id G
  have k0 : Way p e below (s₁.setTop (entryFrame m #[(.int (1 : Int32))] 1)) s₁ (mkF m 0 #[iv (1 : Int32)] []) := fun t k => castTop (by first | (simp [entryFrame, mkF, argsToLocals, Value.category]; done) | rfl) k
  generalize s₁.setTop (entryFrame m #[(.int (1 : Int32))] 1) = S0 at k0 ⊢
  have k1 : Way p e below S0 s₁ (mkF m 13 #[iv (1 : Int32)] []) := by
    intro t k
    refine k0 t ?_
    refine XS.iloadN X0.here hx rfl (hb hby d_method_2_code_0) rfl ?_
    show Steps p.tables e below (s₁.setTop (mkF m 1 #[iv (1 : Int32)] [(.int (1 : Int32))])) _
    refine XS.ifYes X0.here hx rfl (pc0 := 1) (pc' := 8) rfl (hb hby d_method_2_code_1) rfl ((if0 _ _).trans (feq ((by decide) : ¬ ((1 : Int32) = (0 : Int32)))).2) (by decide) (by decide) ?_
    show Steps p.tables e below (s₁.setTop (mkF m 8 #[iv (1 : Int32)] [])) _
    refine XS.iloadN X0.here hx rfl (hb hby d_method_2_code_8) rfl ?_
    show Steps p.tables e below (s₁.setTop (mkF m 9 #[iv (1 : Int32)] [(.int (1 : Int32))])) _
    refine XS.iconst X0.here hx rfl (hb hby d_method_2_code_9) ?_
    show Steps p.tables e below (s₁.setTop (mkF m 10 #[iv (1 : Int32)] [(.int (1 : Int32)), (.int (1 : Int32))])) _
    refine XS.icmpNo X0.here hx rfl (hb hby d_method_2_code_10) rfl (teq ((by decide) : (1 : Int32) = (1 : Int32))).2 ?_
    show Steps p.tables e below (s₁.setTop (mkF m 13 #[iv (1 : Int32)] [])) _
    exact k
  obtain ⟨T2, X2, e2, st2⟩ := getS2 X0 hx hZ hown (host := "") (Or.inl (hw _ (List.mem_of_getElem? (i := 26) rfl))) Via.refl e0 (S_w_NO_RULE.ext O0.2) (g := (mkF m 13 #[iv (1 : Int32)] [])) rfl (hb hby d_method_2_code_13)
  have k3 : Way p e below S0 T2 (mkF m 16 #[iv (1 : Int32)] [(.ref w_NO_RULE)]) := fun t k => k1 t (st2 _ k)
  obtain ⟨fs, hr, hrun, hended, hW, hsame⟩ := X2.leave (v := some (.ref w_NO_RULE)) (fun h => by rw [Bd.returns] at h; cases h)
  refine ⟨_, _, k3 _ (retOut X2 hx Bd.returns rfl (Or.inr (Or.inr (Or.inr (Or.inr ⟨rfl, rfl, rfl⟩)))) (hb hby d_method_2_code_16) hr), hrun, hended, _, _, rfl, ?_, ⟨_, rfl⟩, hW, hsame.mono (by decide) (by decide)⟩
  show Q_pick1 Z w_POOL w_NO_RULE w_ONE_RULE w_MANY_RULES  h0 n0 _ T2.heap _
  rw [e2]
  exact ⟨rfl, N0, rfl⟩
def Q_pick2 (Z : State) (w_POOL : Addr) (w_NO_RULE : Addr) (w_ONE_RULE : Addr) (w_MANY_RULES : Addr)  (h0 : Heap) (n0 : Nat) (v : Option Value) (h : Heap) (L : List Loc) : Prop := (v = some (.ref w_ONE_RULE)) ∧ (Fr n0 L) ∧ (h = h0)
set_option maxRecDepth 65536 in
set_option maxHeartbeats 40000000 in
theorem pick2 (l : Launch) (Z : State) (a0 : Array Value) (hw : ∀ d ∈ tables_1, d.before a0 Z = true) (ws : List Jvm.Cond) (w_POOL : Addr) (w_NO_RULE : Addr) (w_ONE_RULE : Addr) (w_MANY_RULES : Addr) (G : Gst Z w_POOL w_NO_RULE w_ONE_RULE w_MANY_RULES)  (h0 : Heap) (n0 : Nat) (O0 : Old Z n0 h0) :
    MetFree l (⟨"com/example/rulework/bench/BurstRuleCountPinLaw", "pick", "(I)Lcom/example/rulework/bench/Burst;"⟩ : MethodName) (head1 (Jvm.Cond.code (⟨"com/example/rulework/bench/BurstRuleCountPinLaw", "pick", "(I)Lcom/example/rulework/bench/Burst;"⟩ : MethodName) method_2_code 1 (some (.object "com/example/rulework/bench/Burst")) :: ws) ({ frames := 0, cells := 0, slots := 0, locals := 0 } : Room)) (fun a U => a = #[(.int (2 : Int32))] ∧ Z.Warmed39 U.vm ∧ U.heap = h0) (fun _ _ _ _ _ => True) (fun _ U o U' => ∃ v L, o = .returned v ∧ Q_pick2 Z w_POOL w_NO_RULE w_ONE_RULE w_MANY_RULES  h0 n0 v U'.heap L ∧ FrameEnd U o U' L ({ frames := 0, cells := 0, slots := 0, locals := 0 } : Room).cells ({ frames := 0, cells := 0, slots := 0, locals := 0 } : Room).slots) := by
  refine MetFree.of_bodySF (plainFor_of_name pn_0) hisR ?_
  intro p e s m args below meth c s₁ Bd hml0 hP hK
  obtain ⟨rfl, hZ, hh⟩ := hP
  have hx := Bd.exec
  have hby := Bd.bytes
  have hml : c.maxLocals = 1 := hml0
  have hown : s.vm.findClass "com/example/rulework/bench/BurstRuleCountPinLaw" = some m.cls := findClass_of_methodNamed Bd.named
  have hnm := (name_of_methodNamed Bd.named Bd.method).1
  have X0 : Stand p l e ({ frames := 0, cells := 0, slots := 0, locals := 0 } : Room) s m #[(.int (2 : Int32))] below meth c s₁ [] 0 0 := Stand.of_body Bd
  have e0 : s₁.heap = h0 := by rw [← hh, Bd.state]; rfl
  have N0 := Fr.nil n0
  obtain ⟨S_w_POOL, E_w_POOL, F_w_POOL_ordinal, S_w_NO_RULE, E_w_NO_RULE, F_w_NO_RULE_ordinal, S_w_ONE_RULE, E_w_ONE_RULE, F_w_ONE_RULE_ordinal, S_w_MANY_RULES, E_w_MANY_RULES, F_w_MANY_RULES_ordinal⟩ := id G
  have k0 : Way p e below (s₁.setTop (entryFrame m #[(.int (2 : Int32))] 1)) s₁ (mkF m 0 #[iv (2 : Int32)] []) := fun t k => castTop (by first | (simp [entryFrame, mkF, argsToLocals, Value.category]; done) | rfl) k
  generalize s₁.setTop (entryFrame m #[(.int (2 : Int32))] 1) = S0 at k0 ⊢
  have k1 : Way p e below S0 s₁ (mkF m 22 #[iv (2 : Int32)] []) := by
    intro t k
    refine k0 t ?_
    refine XS.iloadN X0.here hx rfl (hb hby d_method_2_code_0) rfl ?_
    show Steps p.tables e below (s₁.setTop (mkF m 1 #[iv (2 : Int32)] [(.int (2 : Int32))])) _
    refine XS.ifYes X0.here hx rfl (pc0 := 1) (pc' := 8) rfl (hb hby d_method_2_code_1) rfl ((if0 _ _).trans (feq ((by decide) : ¬ ((2 : Int32) = (0 : Int32)))).2) (by decide) (by decide) ?_
    show Steps p.tables e below (s₁.setTop (mkF m 8 #[iv (2 : Int32)] [])) _
    refine XS.iloadN X0.here hx rfl (hb hby d_method_2_code_8) rfl ?_
    show Steps p.tables e below (s₁.setTop (mkF m 9 #[iv (2 : Int32)] [(.int (2 : Int32))])) _
    refine XS.iconst X0.here hx rfl (hb hby d_method_2_code_9) ?_
    show Steps p.tables e below (s₁.setTop (mkF m 10 #[iv (2 : Int32)] [(.int (1 : Int32)), (.int (2 : Int32))])) _
    refine XS.icmpYes X0.here hx rfl (pc0 := 10) (pc' := 17) rfl (hb hby d_method_2_code_10) rfl (feq ((by decide) : ¬ ((2 : Int32) = (1 : Int32)))).2 (by decide) (by decide) ?_
    show Steps p.tables e below (s₁.setTop (mkF m 17 #[iv (2 : Int32)] [])) _
    refine XS.iloadN X0.here hx rfl (hb hby d_method_2_code_17) rfl ?_
    show Steps p.tables e below (s₁.setTop (mkF m 18 #[iv (2 : Int32)] [(.int (2 : Int32))])) _
    refine XS.iconst X0.here hx rfl (hb hby d_method_2_code_18) ?_
    show Steps p.tables e below (s₁.setTop (mkF m 19 #[iv (2 : Int32)] [(.int (2 : Int32)), (.int (2 : Int32))])) _
    refine XS.icmpNo X0.here hx rfl (hb hby d_method_2_code_19) rfl (teq ((by decide) : (2 : Int32) = (2 : Int32))).2 ?_
    show Steps p.tables e below (s₁.setTop (mkF m 22 #[iv (2 : Int32)] [])) _
    exact k
  obtain ⟨T2, X2, e2, st2⟩ := getS2 X0 hx hZ hown (host := "") (Or.inl (hw _ (List.mem_of_getElem? (i := 24) rfl))) Via.refl e0 (S_w_ONE_RULE.ext O0.2) (g := (mkF m 22 #[iv (2 : Int32)] [])) rfl (hb hby d_method_2_code_22)
  have k3 : Way p e below S0 T2 (mkF m 25 #[iv (2 : Int32)] [(.ref w_ONE_RULE)]) := fun t k => k1 t (st2 _ k)
  obtain ⟨fs, hr, hrun, hended, hW, hsame⟩ := X2.leave (v := some (.ref w_ONE_RULE)) (fun h => by rw [Bd.returns] at h; cases h)
  refine ⟨_, _, k3 _ (retOut X2 hx Bd.returns rfl (Or.inr (Or.inr (Or.inr (Or.inr ⟨rfl, rfl, rfl⟩)))) (hb hby d_method_2_code_25) hr), hrun, hended, _, _, rfl, ?_, ⟨_, rfl⟩, hW, hsame.mono (by decide) (by decide)⟩
  show Q_pick2 Z w_POOL w_NO_RULE w_ONE_RULE w_MANY_RULES  h0 n0 _ T2.heap _
  rw [e2]
  exact ⟨rfl, N0, rfl⟩
def Q_pick3 (Z : State) (w_POOL : Addr) (w_NO_RULE : Addr) (w_ONE_RULE : Addr) (w_MANY_RULES : Addr)  (h0 : Heap) (n0 : Nat) (v : Option Value) (h : Heap) (L : List Loc) : Prop := (v = some (.ref w_MANY_RULES)) ∧ (Fr n0 L) ∧ (h = h0)
set_option maxRecDepth 65536 in
set_option maxHeartbeats 40000000 in
theorem pick3 (l : Launch) (Z : State) (a0 : Array Value) (hw : ∀ d ∈ tables_1, d.before a0 Z = true) (ws : List Jvm.Cond) (w_POOL : Addr) (w_NO_RULE : Addr) (w_ONE_RULE : Addr) (w_MANY_RULES : Addr) (G : Gst Z w_POOL w_NO_RULE w_ONE_RULE w_MANY_RULES)  (h0 : Heap) (n0 : Nat) (O0 : Old Z n0 h0) :
    MetFree l (⟨"com/example/rulework/bench/BurstRuleCountPinLaw", "pick", "(I)Lcom/example/rulework/bench/Burst;"⟩ : MethodName) (head1 (Jvm.Cond.code (⟨"com/example/rulework/bench/BurstRuleCountPinLaw", "pick", "(I)Lcom/example/rulework/bench/Burst;"⟩ : MethodName) method_2_code 1 (some (.object "com/example/rulework/bench/Burst")) :: ws) ({ frames := 0, cells := 0, slots := 0, locals := 0 } : Room)) (fun a U => a = #[(.int (3 : Int32))] ∧ Z.Warmed39 U.vm ∧ U.heap = h0) (fun _ _ _ _ _ => True) (fun _ U o U' => ∃ v L, o = .returned v ∧ Q_pick3 Z w_POOL w_NO_RULE w_ONE_RULE w_MANY_RULES  h0 n0 v U'.heap L ∧ FrameEnd U o U' L ({ frames := 0, cells := 0, slots := 0, locals := 0 } : Room).cells ({ frames := 0, cells := 0, slots := 0, locals := 0 } : Room).slots) := by
  refine MetFree.of_bodySF (plainFor_of_name pn_0) hisR ?_
  intro p e s m args below meth c s₁ Bd hml0 hP hK
  obtain ⟨rfl, hZ, hh⟩ := hP
  have hx := Bd.exec
  have hby := Bd.bytes
  have hml : c.maxLocals = 1 := hml0
  have hown : s.vm.findClass "com/example/rulework/bench/BurstRuleCountPinLaw" = some m.cls := findClass_of_methodNamed Bd.named
  have hnm := (name_of_methodNamed Bd.named Bd.method).1
  have X0 : Stand p l e ({ frames := 0, cells := 0, slots := 0, locals := 0 } : Room) s m #[(.int (3 : Int32))] below meth c s₁ [] 0 0 := Stand.of_body Bd
  have e0 : s₁.heap = h0 := by rw [← hh, Bd.state]; rfl
  have N0 := Fr.nil n0
  obtain ⟨S_w_POOL, E_w_POOL, F_w_POOL_ordinal, S_w_NO_RULE, E_w_NO_RULE, F_w_NO_RULE_ordinal, S_w_ONE_RULE, E_w_ONE_RULE, F_w_ONE_RULE_ordinal, S_w_MANY_RULES, E_w_MANY_RULES, F_w_MANY_RULES_ordinal⟩ := id G
  have k0 : Way p e below (s₁.setTop (entryFrame m #[(.int (3 : Int32))] 1)) s₁ (mkF m 0 #[iv (3 : Int32)] []) := fun t k => castTop (by first | (simp [entryFrame, mkF, argsToLocals, Value.category]; done) | rfl) k
  generalize s₁.setTop (entryFrame m #[(.int (3 : Int32))] 1) = S0 at k0 ⊢
  have k1 : Way p e below S0 s₁ (mkF m 26 #[iv (3 : Int32)] []) := by
    intro t k
    refine k0 t ?_
    refine XS.iloadN X0.here hx rfl (hb hby d_method_2_code_0) rfl ?_
    show Steps p.tables e below (s₁.setTop (mkF m 1 #[iv (3 : Int32)] [(.int (3 : Int32))])) _
    refine XS.ifYes X0.here hx rfl (pc0 := 1) (pc' := 8) rfl (hb hby d_method_2_code_1) rfl ((if0 _ _).trans (feq ((by decide) : ¬ ((3 : Int32) = (0 : Int32)))).2) (by decide) (by decide) ?_
    show Steps p.tables e below (s₁.setTop (mkF m 8 #[iv (3 : Int32)] [])) _
    refine XS.iloadN X0.here hx rfl (hb hby d_method_2_code_8) rfl ?_
    show Steps p.tables e below (s₁.setTop (mkF m 9 #[iv (3 : Int32)] [(.int (3 : Int32))])) _
    refine XS.iconst X0.here hx rfl (hb hby d_method_2_code_9) ?_
    show Steps p.tables e below (s₁.setTop (mkF m 10 #[iv (3 : Int32)] [(.int (1 : Int32)), (.int (3 : Int32))])) _
    refine XS.icmpYes X0.here hx rfl (pc0 := 10) (pc' := 17) rfl (hb hby d_method_2_code_10) rfl (feq ((by decide) : ¬ ((3 : Int32) = (1 : Int32)))).2 (by decide) (by decide) ?_
    show Steps p.tables e below (s₁.setTop (mkF m 17 #[iv (3 : Int32)] [])) _
    refine XS.iloadN X0.here hx rfl (hb hby d_method_2_code_17) rfl ?_
    show Steps p.tables e below (s₁.setTop (mkF m 18 #[iv (3 : Int32)] [(.int (3 : Int32))])) _
    refine XS.iconst X0.here hx rfl (hb hby d_method_2_code_18) ?_
    show Steps p.tables e below (s₁.setTop (mkF m 19 #[iv (3 : Int32)] [(.int (2 : Int32)), (.int (3 : Int32))])) _
    refine XS.icmpYes X0.here hx rfl (pc0 := 19) (pc' := 26) rfl (hb hby d_method_2_code_19) rfl (feq ((by decide) : ¬ ((3 : Int32) = (2 : Int32)))).2 (by decide) (by decide) ?_
    show Steps p.tables e below (s₁.setTop (mkF m 26 #[iv (3 : Int32)] [])) _
    exact k
  obtain ⟨T2, X2, e2, st2⟩ := getS2 X0 hx hZ hown (host := "") (Or.inl (hw _ (List.mem_of_getElem? (i := 28) rfl))) Via.refl e0 (S_w_MANY_RULES.ext O0.2) (g := (mkF m 26 #[iv (3 : Int32)] [])) rfl (hb hby d_method_2_code_26)
  have k3 : Way p e below S0 T2 (mkF m 29 #[iv (3 : Int32)] [(.ref w_MANY_RULES)]) := fun t k => k1 t (st2 _ k)
  obtain ⟨fs, hr, hrun, hended, hW, hsame⟩ := X2.leave (v := some (.ref w_MANY_RULES)) (fun h => by rw [Bd.returns] at h; cases h)
  refine ⟨_, _, k3 _ (retOut X2 hx Bd.returns rfl (Or.inr (Or.inr (Or.inr (Or.inr ⟨rfl, rfl, rfl⟩)))) (hb hby d_method_2_code_29) hr), hrun, hended, _, _, rfl, ?_, ⟨_, rfl⟩, hW, hsame.mono (by decide) (by decide)⟩
  show Q_pick3 Z w_POOL w_NO_RULE w_ONE_RULE w_MANY_RULES  h0 n0 _ T2.heap _
  rw [e2]
  exact ⟨rfl, N0, rfl⟩
def Q_ord (Z : State) (w_POOL : Addr) (w_NO_RULE : Addr) (w_ONE_RULE : Addr) (w_MANY_RULES : Addr) (a1 : Addr) (q1 : Int32) (h0 : Heap) (n0 : Nat) (v : Option Value) (h : Heap) (L : List Loc) : Prop := (v = some (.int q1)) ∧ (Fr n0 L) ∧ (h = h0)
set_option maxRecDepth 65536 in
set_option maxHeartbeats 40000000 in
theorem ord (l : Launch) (Z : State) (a0 : Array Value) (hw : ∀ d ∈ tables_1, d.before a0 Z = true) (ws : List Jvm.Cond) (w_POOL : Addr) (w_NO_RULE : Addr) (w_ONE_RULE : Addr) (w_MANY_RULES : Addr) (G : Gst Z w_POOL w_NO_RULE w_ONE_RULE w_MANY_RULES) (a1 : Addr) (q1 : Int32) (h0 : Heap) (n0 : Nat) (O0 : Old Z n0 h0) (a_0 : Fld Z h0 a1 "java/lang/Enum" "ordinal" "I" (.int q1)) :
    MetFree l (⟨"java/lang/Enum", "ordinal", "()I"⟩ : MethodName) (head1 (Jvm.Cond.code (⟨"java/lang/Enum", "ordinal", "()I"⟩ : MethodName) jdk_37_method_2_code 1 (some .int) :: ws) ({ frames := 0, cells := 0, slots := 0, locals := 0 } : Room)) (fun a U => a = #[(.ref a1)] ∧ Z.Warmed39 U.vm ∧ U.heap = h0) (fun _ _ _ _ _ => True) (fun _ U o U' => ∃ v L, o = .returned v ∧ Q_ord Z w_POOL w_NO_RULE w_ONE_RULE w_MANY_RULES a1 q1 h0 n0 v U'.heap L ∧ FrameEnd U o U' L ({ frames := 0, cells := 0, slots := 0, locals := 0 } : Room).cells ({ frames := 0, cells := 0, slots := 0, locals := 0 } : Room).slots) := by
  refine MetFree.of_bodySF (plainFor_of_name pn_1) hisR ?_
  intro p e s m args below meth c s₁ Bd hml0 hP hK
  obtain ⟨rfl, hZ, hh⟩ := hP
  have hx := Bd.exec
  have hby := Bd.bytes
  have hml : c.maxLocals = 1 := hml0
  have hown : s.vm.findClass "java/lang/Enum" = some m.cls := findClass_of_methodNamed Bd.named
  have hnm := (name_of_methodNamed Bd.named Bd.method).1
  have X0 : Stand p l e ({ frames := 0, cells := 0, slots := 0, locals := 0 } : Room) s m #[(.ref a1)] below meth c s₁ [] 0 0 := Stand.of_body Bd
  have e0 : s₁.heap = h0 := by rw [← hh, Bd.state]; rfl
  have N0 := Fr.nil n0
  obtain ⟨S_w_POOL, E_w_POOL, F_w_POOL_ordinal, S_w_NO_RULE, E_w_NO_RULE, F_w_NO_RULE_ordinal, S_w_ONE_RULE, E_w_ONE_RULE, F_w_ONE_RULE_ordinal, S_w_MANY_RULES, E_w_MANY_RULES, F_w_MANY_RULES_ordinal⟩ := id G
  have k0 : Way p e below (s₁.setTop (entryFrame m #[(.ref a1)] 1)) s₁ (mkF m 0 #[rv a1] []) := fun t k => castTop (by first | (simp [entryFrame, mkF, argsToLocals, Value.category]; done) | rfl) k
  generalize s₁.setTop (entryFrame m #[(.ref a1)] 1) = S0 at k0 ⊢
  have k1 : Way p e below S0 s₁ (mkF m 1 #[rv a1] [(.ref a1)]) := by
    intro t k
    refine k0 t ?_
    refine XS.aloadN X0.here hx rfl (hb hby d_jdk_37_method_2_code_0) rfl rfl ?_
    show Steps p.tables e below (s₁.setTop (mkF m 1 #[rv a1] [(.ref a1)])) _
    exact k
  obtain ⟨T2, X2, e2, st2⟩ := getF X0 hx hZ hown (host := "") (Or.inl (hw _ (List.mem_of_getElem? (i := 19) rfl))) Via.refl e0 a_0 (g := (mkF m 1 #[rv a1] [(.ref a1)])) rfl rfl (hb hby d_jdk_37_method_2_code_1)
  have k3 : Way p e below S0 T2 (mkF m 4 #[rv a1] [(.int q1)]) := fun t k => k1 t (st2 _ k)
  obtain ⟨fs, hr, hrun, hended, hW, hsame⟩ := X2.leave (v := some (.int q1)) (fun h => by rw [Bd.returns] at h; cases h)
  refine ⟨_, _, k3 _ (retOut X2 hx Bd.returns rfl (Or.inl ⟨rfl, Or.inl rfl, _, rfl⟩) (hb hby d_jdk_37_method_2_code_4) hr), hrun, hended, _, _, rfl, ?_, ⟨_, rfl⟩, hW, hsame.mono (by decide) (by decide)⟩
  show Q_ord Z w_POOL w_NO_RULE w_ONE_RULE w_MANY_RULES a1 q1 h0 n0 _ T2.heap _
  rw [e2]
  exact ⟨rfl, N0, rfl⟩
def Q_rc0 (Z : State) (w_POOL : Addr) (w_NO_RULE : Addr) (w_ONE_RULE : Addr) (w_MANY_RULES : Addr) (p2 : Int32) (h0 : Heap) (n0 : Nat) (v : Option Value) (h : Heap) (L : List Loc) : Prop := (v = some (.int (0 : Int32))) ∧ (Fr n0 L) ∧ (h = h0)
set_option maxRecDepth 65536 in
set_option maxHeartbeats 40000000 in
theorem rc0 (l : Launch) (Z : State) (a0 : Array Value) (hw : ∀ d ∈ tables_1, d.before a0 Z = true) (ws : List Jvm.Cond) (w_POOL : Addr) (w_NO_RULE : Addr) (w_ONE_RULE : Addr) (w_MANY_RULES : Addr) (G : Gst Z w_POOL w_NO_RULE w_ONE_RULE w_MANY_RULES) (p2 : Int32) (h0 : Heap) (n0 : Nat) (O0 : Old Z n0 h0) :
    MetFree l (⟨"com/example/rulework/bench/Burst", "ruleCount", "(I)I"⟩ : MethodName) (head1 (Jvm.Cond.code (⟨"com/example/rulework/bench/Burst", "ruleCount", "(I)I"⟩ : MethodName) prog_1_method_4_code 2 (some .int) :: ws) ({ frames := 1, cells := 0, slots := 0, locals := 12 } : Room)) (fun a U => a = #[(.ref w_POOL), (.int p2)] ∧ Z.Warmed39 U.vm ∧ U.heap = h0) (fun _ _ _ _ _ => True) (fun _ U o U' => ∃ v L, o = .returned v ∧ Q_rc0 Z w_POOL w_NO_RULE w_ONE_RULE w_MANY_RULES p2 h0 n0 v U'.heap L ∧ FrameEnd U o U' L ({ frames := 1, cells := 0, slots := 0, locals := 12 } : Room).cells ({ frames := 1, cells := 0, slots := 0, locals := 12 } : Room).slots) := by
  refine MetFree.of_bodySF (plainFor_of_name pn_2) hisR ?_
  intro p e s m args below meth c s₁ Bd hml0 hP hK
  obtain ⟨rfl, hZ, hh⟩ := hP
  have hx := Bd.exec
  have hby := Bd.bytes
  have hml : c.maxLocals = 2 := hml0
  have hown : s.vm.findClass "com/example/rulework/bench/Burst" = some m.cls := findClass_of_methodNamed Bd.named
  have hnm := (name_of_methodNamed Bd.named Bd.method).1
  have X0 : Stand p l e ({ frames := 1, cells := 0, slots := 0, locals := 12 } : Room) s m #[(.ref w_POOL), (.int p2)] below meth c s₁ [] 0 0 := Stand.of_body Bd
  have e0 : s₁.heap = h0 := by rw [← hh, Bd.state]; rfl
  have N0 := Fr.nil n0
  obtain ⟨S_w_POOL, E_w_POOL, F_w_POOL_ordinal, S_w_NO_RULE, E_w_NO_RULE, F_w_NO_RULE_ordinal, S_w_ONE_RULE, E_w_ONE_RULE, F_w_ONE_RULE_ordinal, S_w_MANY_RULES, E_w_MANY_RULES, F_w_MANY_RULES_ordinal⟩ := id G
  have k0 : Way p e below (s₁.setTop (entryFrame m #[(.ref w_POOL), (.int p2)] 2)) s₁ (mkF m 0 #[rv w_POOL, iv p2] []) := fun t k => castTop (by first | (simp [entryFrame, mkF, argsToLocals, Value.category]; done) | rfl) k
  generalize s₁.setTop (entryFrame m #[(.ref w_POOL), (.int p2)] 2) = S0 at k0 ⊢
  have k1 : Way p e below S0 s₁ (mkF m 1 #[rv w_POOL, iv p2] [(.ref w_POOL)]) := by
    intro t k
    refine k0 t ?_
    refine XS.aloadN X0.here hx rfl (hb hby d_prog_1_method_4_code_0) rfl rfl ?_
    show Steps p.tables e below (s₁.setTop (mkF m 1 #[rv w_POOL, iv p2] [(.ref w_POOL)])) _
    exact k
  obtain ⟨cq2, kq2, qq2a, qq2b, qq2c⟩ := isOf hZ e0 (E_w_POOL.ext O0.2)
  obtain ⟨_, _, ⟨T2, L2, kk2, nn2⟩, -, X2, ⟨Lc2, hQ2, l2, y2, z2⟩, st2⟩ := X0.virtualBackUp hx (owner := "java/lang/Enum") (x := (⟨"com/example/rulework/bench/Burst", "ordinal", "()I"⟩ : MethodName)) (y := (⟨"java/lang/Enum", "ordinal", "()I"⟩ : MethodName)) hown (mvT hZ (hw _ (List.mem_of_getElem? (i := 12) rfl))) (mvT hZ (hw _ (List.mem_of_getElem? (i := 13) rfl))) (mvT hZ (hw _ (List.mem_of_getElem? (i := 14) rfl))) (by decide) (mvT hZ (hw _ (List.mem_of_getElem? (i := 16) rfl))) (mvT hZ (hw _ (List.mem_of_getElem? (i := 15) rfl))) (backOf (W := 0) (ord l Z a0 hw [] w_POOL w_NO_RULE w_ONE_RULE w_MANY_RULES G w_POOL (0 : Int32) h0 n0 O0 ((F_w_POOL_ordinal.ext O0.2) : Fld Z h0 w_POOL "java/lang/Enum" "ordinal" "I" (.int (0 : Int32)))) hZ (hw _ (List.mem_of_getElem? (i := 18) rfl)) (hw _ (List.mem_of_getElem? (i := 17) rfl)) (by decide) (by decide)) qq2a qq2c (g := (mkF m 1 #[rv w_POOL, iv p2] [(.ref w_POOL)])) rfl (by rw [hml]; rfl) (Steps.refl _) (argsL := []) (rest := []) (lenOf pd_0 rfl) rfl (by show 2 * 0 + _ ≤ _; exact Nat.le_of_eq rfl) (hb hby d_prog_1_method_4_code_1) (fun _ _ => ⟨rfl, e0, (by decide : 0 + 0 ≤ _), (by decide : 0 + 0 ≤ _)⟩)
  dsimp only [Pt.U, Pt.locs, Pt.cells, Pt.slots] at X2 l2 y2 z2 st2 hQ2
  subst l2 y2 z2
  obtain ⟨rfl, Nq2, e2⟩ := hQ2
  have N2 := Fr.app N0 Nq2
  have k3 : Way p e below S0 T2 (mkF m 4 #[rv w_POOL, iv p2] [(.int (0 : Int32))]) := fun t k => k1 t (st2.trans k)
  have k4 : Way p e below S0 T2 (mkF m 37 #[rv w_POOL, iv p2] [(.int (0 : Int32))]) := by
    intro t k
    refine k3 t ?_
    refine own_lsw (g := (mkF m 4 #[rv w_POOL, iv p2] [(.int (0 : Int32))])) X2.here hx rfl (pc0 := 4) (pc' := 36) rfl (hb hby d_prog_1_method_4_code_4) rfl (off := 32) (by decide) (by decide) (by decide) (by decide) ?_
    show Steps p.tables e below (T2.setTop (mkF m 36 #[rv w_POOL, iv p2] [])) _
    refine XS.iconst X2.here hx rfl (hb hby d_prog_1_method_4_code_36) ?_
    show Steps p.tables e below (T2.setTop (mkF m 37 #[rv w_POOL, iv p2] [(.int (0 : Int32))])) _
    exact k
  obtain ⟨fs, hr, hrun, hended, hW, hsame⟩ := X2.leave (v := some (.int (0 : Int32))) (fun h => by rw [Bd.returns] at h; cases h)
  refine ⟨_, _, k4 _ (retOut X2 hx Bd.returns rfl (Or.inl ⟨rfl, Or.inl rfl, _, rfl⟩) (hb hby d_prog_1_method_4_code_37) hr), hrun, hended, _, _, rfl, ?_, ⟨_, rfl⟩, hW, hsame.mono (by decide) (by decide)⟩
  show Q_rc0 Z w_POOL w_NO_RULE w_ONE_RULE w_MANY_RULES p2 h0 n0 _ T2.heap _
  rw [e2]
  exact ⟨rfl, N2, rfl⟩
def Q_rc1 (Z : State) (w_POOL : Addr) (w_NO_RULE : Addr) (w_ONE_RULE : Addr) (w_MANY_RULES : Addr) (p2 : Int32) (h0 : Heap) (n0 : Nat) (v : Option Value) (h : Heap) (L : List Loc) : Prop := (v = some (.int (0 : Int32))) ∧ (Fr n0 L) ∧ (h = h0)
set_option maxRecDepth 65536 in
set_option maxHeartbeats 40000000 in
theorem rc1 (l : Launch) (Z : State) (a0 : Array Value) (hw : ∀ d ∈ tables_1, d.before a0 Z = true) (ws : List Jvm.Cond) (w_POOL : Addr) (w_NO_RULE : Addr) (w_ONE_RULE : Addr) (w_MANY_RULES : Addr) (G : Gst Z w_POOL w_NO_RULE w_ONE_RULE w_MANY_RULES) (p2 : Int32) (h0 : Heap) (n0 : Nat) (O0 : Old Z n0 h0) :
    MetFree l (⟨"com/example/rulework/bench/Burst", "ruleCount", "(I)I"⟩ : MethodName) (head1 (Jvm.Cond.code (⟨"com/example/rulework/bench/Burst", "ruleCount", "(I)I"⟩ : MethodName) prog_1_method_4_code 2 (some .int) :: ws) ({ frames := 1, cells := 0, slots := 0, locals := 12 } : Room)) (fun a U => a = #[(.ref w_NO_RULE), (.int p2)] ∧ Z.Warmed39 U.vm ∧ U.heap = h0) (fun _ _ _ _ _ => True) (fun _ U o U' => ∃ v L, o = .returned v ∧ Q_rc1 Z w_POOL w_NO_RULE w_ONE_RULE w_MANY_RULES p2 h0 n0 v U'.heap L ∧ FrameEnd U o U' L ({ frames := 1, cells := 0, slots := 0, locals := 12 } : Room).cells ({ frames := 1, cells := 0, slots := 0, locals := 12 } : Room).slots) := by
  refine MetFree.of_bodySF (plainFor_of_name pn_2) hisR ?_
  intro p e s m args below meth c s₁ Bd hml0 hP hK
  obtain ⟨rfl, hZ, hh⟩ := hP
  have hx := Bd.exec
  have hby := Bd.bytes
  have hml : c.maxLocals = 2 := hml0
  have hown : s.vm.findClass "com/example/rulework/bench/Burst" = some m.cls := findClass_of_methodNamed Bd.named
  have hnm := (name_of_methodNamed Bd.named Bd.method).1
  have X0 : Stand p l e ({ frames := 1, cells := 0, slots := 0, locals := 12 } : Room) s m #[(.ref w_NO_RULE), (.int p2)] below meth c s₁ [] 0 0 := Stand.of_body Bd
  have e0 : s₁.heap = h0 := by rw [← hh, Bd.state]; rfl
  have N0 := Fr.nil n0
  obtain ⟨S_w_POOL, E_w_POOL, F_w_POOL_ordinal, S_w_NO_RULE, E_w_NO_RULE, F_w_NO_RULE_ordinal, S_w_ONE_RULE, E_w_ONE_RULE, F_w_ONE_RULE_ordinal, S_w_MANY_RULES, E_w_MANY_RULES, F_w_MANY_RULES_ordinal⟩ := id G
  have k0 : Way p e below (s₁.setTop (entryFrame m #[(.ref w_NO_RULE), (.int p2)] 2)) s₁ (mkF m 0 #[rv w_NO_RULE, iv p2] []) := fun t k => castTop (by first | (simp [entryFrame, mkF, argsToLocals, Value.category]; done) | rfl) k
  generalize s₁.setTop (entryFrame m #[(.ref w_NO_RULE), (.int p2)] 2) = S0 at k0 ⊢
  have k1 : Way p e below S0 s₁ (mkF m 1 #[rv w_NO_RULE, iv p2] [(.ref w_NO_RULE)]) := by
    intro t k
    refine k0 t ?_
    refine XS.aloadN X0.here hx rfl (hb hby d_prog_1_method_4_code_0) rfl rfl ?_
    show Steps p.tables e below (s₁.setTop (mkF m 1 #[rv w_NO_RULE, iv p2] [(.ref w_NO_RULE)])) _
    exact k
  obtain ⟨cq2, kq2, qq2a, qq2b, qq2c⟩ := isOf hZ e0 (E_w_NO_RULE.ext O0.2)
  obtain ⟨_, _, ⟨T2, L2, kk2, nn2⟩, -, X2, ⟨Lc2, hQ2, l2, y2, z2⟩, st2⟩ := X0.virtualBackUp hx (owner := "java/lang/Enum") (x := (⟨"com/example/rulework/bench/Burst", "ordinal", "()I"⟩ : MethodName)) (y := (⟨"java/lang/Enum", "ordinal", "()I"⟩ : MethodName)) hown (mvT hZ (hw _ (List.mem_of_getElem? (i := 12) rfl))) (mvT hZ (hw _ (List.mem_of_getElem? (i := 13) rfl))) (mvT hZ (hw _ (List.mem_of_getElem? (i := 14) rfl))) (by decide) (mvT hZ (hw _ (List.mem_of_getElem? (i := 16) rfl))) (mvT hZ (hw _ (List.mem_of_getElem? (i := 15) rfl))) (backOf (W := 0) (ord l Z a0 hw [] w_POOL w_NO_RULE w_ONE_RULE w_MANY_RULES G w_NO_RULE (1 : Int32) h0 n0 O0 ((F_w_NO_RULE_ordinal.ext O0.2) : Fld Z h0 w_NO_RULE "java/lang/Enum" "ordinal" "I" (.int (1 : Int32)))) hZ (hw _ (List.mem_of_getElem? (i := 18) rfl)) (hw _ (List.mem_of_getElem? (i := 17) rfl)) (by decide) (by decide)) qq2a qq2c (g := (mkF m 1 #[rv w_NO_RULE, iv p2] [(.ref w_NO_RULE)])) rfl (by rw [hml]; rfl) (Steps.refl _) (argsL := []) (rest := []) (lenOf pd_0 rfl) rfl (by show 2 * 0 + _ ≤ _; exact Nat.le_of_eq rfl) (hb hby d_prog_1_method_4_code_1) (fun _ _ => ⟨rfl, e0, (by decide : 0 + 0 ≤ _), (by decide : 0 + 0 ≤ _)⟩)
  dsimp only [Pt.U, Pt.locs, Pt.cells, Pt.slots] at X2 l2 y2 z2 st2 hQ2
  subst l2 y2 z2
  obtain ⟨rfl, Nq2, e2⟩ := hQ2
  have N2 := Fr.app N0 Nq2
  have k3 : Way p e below S0 T2 (mkF m 4 #[rv w_NO_RULE, iv p2] [(.int (1 : Int32))]) := fun t k => k1 t (st2.trans k)
  have k4 : Way p e below S0 T2 (mkF m 37 #[rv w_NO_RULE, iv p2] [(.int (0 : Int32))]) := by
    intro t k
    refine k3 t ?_
    refine own_lsw (g := (mkF m 4 #[rv w_NO_RULE, iv p2] [(.int (1 : Int32))])) X2.here hx rfl (pc0 := 4) (pc' := 36) rfl (hb hby d_prog_1_method_4_code_4) rfl (off := 32) (by decide) (by decide) (by decide) (by decide) ?_
    show Steps p.tables e below (T2.setTop (mkF m 36 #[rv w_NO_RULE, iv p2] [])) _
    refine XS.iconst X2.here hx rfl (hb hby d_prog_1_method_4_code_36) ?_
    show Steps p.tables e below (T2.setTop (mkF m 37 #[rv w_NO_RULE, iv p2] [(.int (0 : Int32))])) _
    exact k
  obtain ⟨fs, hr, hrun, hended, hW, hsame⟩ := X2.leave (v := some (.int (0 : Int32))) (fun h => by rw [Bd.returns] at h; cases h)
  refine ⟨_, _, k4 _ (retOut X2 hx Bd.returns rfl (Or.inl ⟨rfl, Or.inl rfl, _, rfl⟩) (hb hby d_prog_1_method_4_code_37) hr), hrun, hended, _, _, rfl, ?_, ⟨_, rfl⟩, hW, hsame.mono (by decide) (by decide)⟩
  show Q_rc1 Z w_POOL w_NO_RULE w_ONE_RULE w_MANY_RULES p2 h0 n0 _ T2.heap _
  rw [e2]
  exact ⟨rfl, N2, rfl⟩
def Q_rc2 (Z : State) (w_POOL : Addr) (w_NO_RULE : Addr) (w_ONE_RULE : Addr) (w_MANY_RULES : Addr) (p2 : Int32) (h0 : Heap) (n0 : Nat) (v : Option Value) (h : Heap) (L : List Loc) : Prop := (v = some (.int (1 : Int32))) ∧ (Fr n0 L) ∧ (h = h0)
set_option maxRecDepth 65536 in
set_option maxHeartbeats 40000000 in
theorem rc2 (l : Launch) (Z : State) (a0 : Array Value) (hw : ∀ d ∈ tables_1, d.before a0 Z = true) (ws : List Jvm.Cond) (w_POOL : Addr) (w_NO_RULE : Addr) (w_ONE_RULE : Addr) (w_MANY_RULES : Addr) (G : Gst Z w_POOL w_NO_RULE w_ONE_RULE w_MANY_RULES) (p2 : Int32) (h0 : Heap) (n0 : Nat) (O0 : Old Z n0 h0) :
    MetFree l (⟨"com/example/rulework/bench/Burst", "ruleCount", "(I)I"⟩ : MethodName) (head1 (Jvm.Cond.code (⟨"com/example/rulework/bench/Burst", "ruleCount", "(I)I"⟩ : MethodName) prog_1_method_4_code 2 (some .int) :: ws) ({ frames := 1, cells := 0, slots := 0, locals := 12 } : Room)) (fun a U => a = #[(.ref w_ONE_RULE), (.int p2)] ∧ Z.Warmed39 U.vm ∧ U.heap = h0) (fun _ _ _ _ _ => True) (fun _ U o U' => ∃ v L, o = .returned v ∧ Q_rc2 Z w_POOL w_NO_RULE w_ONE_RULE w_MANY_RULES p2 h0 n0 v U'.heap L ∧ FrameEnd U o U' L ({ frames := 1, cells := 0, slots := 0, locals := 12 } : Room).cells ({ frames := 1, cells := 0, slots := 0, locals := 12 } : Room).slots) := by
  refine MetFree.of_bodySF (plainFor_of_name pn_2) hisR ?_
  intro p e s m args below meth c s₁ Bd hml0 hP hK
  obtain ⟨rfl, hZ, hh⟩ := hP
  have hx := Bd.exec
  have hby := Bd.bytes
  have hml : c.maxLocals = 2 := hml0
  have hown : s.vm.findClass "com/example/rulework/bench/Burst" = some m.cls := findClass_of_methodNamed Bd.named
  have hnm := (name_of_methodNamed Bd.named Bd.method).1
  have X0 : Stand p l e ({ frames := 1, cells := 0, slots := 0, locals := 12 } : Room) s m #[(.ref w_ONE_RULE), (.int p2)] below meth c s₁ [] 0 0 := Stand.of_body Bd
  have e0 : s₁.heap = h0 := by rw [← hh, Bd.state]; rfl
  have N0 := Fr.nil n0
  obtain ⟨S_w_POOL, E_w_POOL, F_w_POOL_ordinal, S_w_NO_RULE, E_w_NO_RULE, F_w_NO_RULE_ordinal, S_w_ONE_RULE, E_w_ONE_RULE, F_w_ONE_RULE_ordinal, S_w_MANY_RULES, E_w_MANY_RULES, F_w_MANY_RULES_ordinal⟩ := id G
  have k0 : Way p e below (s₁.setTop (entryFrame m #[(.ref w_ONE_RULE), (.int p2)] 2)) s₁ (mkF m 0 #[rv w_ONE_RULE, iv p2] []) := fun t k => castTop (by first | (simp [entryFrame, mkF, argsToLocals, Value.category]; done) | rfl) k
  generalize s₁.setTop (entryFrame m #[(.ref w_ONE_RULE), (.int p2)] 2) = S0 at k0 ⊢
  have k1 : Way p e below S0 s₁ (mkF m 1 #[rv w_ONE_RULE, iv p2] [(.ref w_ONE_RULE)]) := by
    intro t k
    refine k0 t ?_
    refine XS.aloadN X0.here hx rfl (hb hby d_prog_1_method_4_code_0) rfl rfl ?_
    show Steps p.tables e below (s₁.setTop (mkF m 1 #[rv w_ONE_RULE, iv p2] [(.ref w_ONE_RULE)])) _
    exact k
  obtain ⟨cq2, kq2, qq2a, qq2b, qq2c⟩ := isOf hZ e0 (E_w_ONE_RULE.ext O0.2)
  obtain ⟨_, _, ⟨T2, L2, kk2, nn2⟩, -, X2, ⟨Lc2, hQ2, l2, y2, z2⟩, st2⟩ := X0.virtualBackUp hx (owner := "java/lang/Enum") (x := (⟨"com/example/rulework/bench/Burst", "ordinal", "()I"⟩ : MethodName)) (y := (⟨"java/lang/Enum", "ordinal", "()I"⟩ : MethodName)) hown (mvT hZ (hw _ (List.mem_of_getElem? (i := 12) rfl))) (mvT hZ (hw _ (List.mem_of_getElem? (i := 13) rfl))) (mvT hZ (hw _ (List.mem_of_getElem? (i := 14) rfl))) (by decide) (mvT hZ (hw _ (List.mem_of_getElem? (i := 16) rfl))) (mvT hZ (hw _ (List.mem_of_getElem? (i := 15) rfl))) (backOf (W := 0) (ord l Z a0 hw [] w_POOL w_NO_RULE w_ONE_RULE w_MANY_RULES G w_ONE_RULE (2 : Int32) h0 n0 O0 ((F_w_ONE_RULE_ordinal.ext O0.2) : Fld Z h0 w_ONE_RULE "java/lang/Enum" "ordinal" "I" (.int (2 : Int32)))) hZ (hw _ (List.mem_of_getElem? (i := 18) rfl)) (hw _ (List.mem_of_getElem? (i := 17) rfl)) (by decide) (by decide)) qq2a qq2c (g := (mkF m 1 #[rv w_ONE_RULE, iv p2] [(.ref w_ONE_RULE)])) rfl (by rw [hml]; rfl) (Steps.refl _) (argsL := []) (rest := []) (lenOf pd_0 rfl) rfl (by show 2 * 0 + _ ≤ _; exact Nat.le_of_eq rfl) (hb hby d_prog_1_method_4_code_1) (fun _ _ => ⟨rfl, e0, (by decide : 0 + 0 ≤ _), (by decide : 0 + 0 ≤ _)⟩)
  dsimp only [Pt.U, Pt.locs, Pt.cells, Pt.slots] at X2 l2 y2 z2 st2 hQ2
  subst l2 y2 z2
  obtain ⟨rfl, Nq2, e2⟩ := hQ2
  have N2 := Fr.app N0 Nq2
  have k3 : Way p e below S0 T2 (mkF m 4 #[rv w_ONE_RULE, iv p2] [(.int (2 : Int32))]) := fun t k => k1 t (st2.trans k)
  have k4 : Way p e below S0 T2 (mkF m 33 #[rv w_ONE_RULE, iv p2] [(.int (1 : Int32))]) := by
    intro t k
    refine k3 t ?_
    refine own_lsw (g := (mkF m 4 #[rv w_ONE_RULE, iv p2] [(.int (2 : Int32))])) X2.here hx rfl (pc0 := 4) (pc' := 32) rfl (hb hby d_prog_1_method_4_code_4) rfl (off := 28) (by decide) (by decide) (by decide) (by decide) ?_
    show Steps p.tables e below (T2.setTop (mkF m 32 #[rv w_ONE_RULE, iv p2] [])) _
    refine XS.iconst X2.here hx rfl (hb hby d_prog_1_method_4_code_32) ?_
    show Steps p.tables e below (T2.setTop (mkF m 33 #[rv w_ONE_RULE, iv p2] [(.int (1 : Int32))])) _
    exact k
  obtain ⟨fs, hr, hrun, hended, hW, hsame⟩ := X2.leave (v := some (.int (1 : Int32))) (fun h => by rw [Bd.returns] at h; cases h)
  refine ⟨_, _, k4 _ (retOut X2 hx Bd.returns rfl (Or.inl ⟨rfl, Or.inl rfl, _, rfl⟩) (hb hby d_prog_1_method_4_code_33) hr), hrun, hended, _, _, rfl, ?_, ⟨_, rfl⟩, hW, hsame.mono (by decide) (by decide)⟩
  show Q_rc2 Z w_POOL w_NO_RULE w_ONE_RULE w_MANY_RULES p2 h0 n0 _ T2.heap _
  rw [e2]
  exact ⟨rfl, N2, rfl⟩
def Q_rc3 (Z : State) (w_POOL : Addr) (w_NO_RULE : Addr) (w_ONE_RULE : Addr) (w_MANY_RULES : Addr) (p2 : Int32) (h0 : Heap) (n0 : Nat) (v : Option Value) (h : Heap) (L : List Loc) : Prop := (v = some (.int p2)) ∧ (Fr n0 L) ∧ (h = h0)
set_option maxRecDepth 65536 in
set_option maxHeartbeats 40000000 in
theorem rc3 (l : Launch) (Z : State) (a0 : Array Value) (hw : ∀ d ∈ tables_1, d.before a0 Z = true) (ws : List Jvm.Cond) (w_POOL : Addr) (w_NO_RULE : Addr) (w_ONE_RULE : Addr) (w_MANY_RULES : Addr) (G : Gst Z w_POOL w_NO_RULE w_ONE_RULE w_MANY_RULES) (p2 : Int32) (h0 : Heap) (n0 : Nat) (O0 : Old Z n0 h0) :
    MetFree l (⟨"com/example/rulework/bench/Burst", "ruleCount", "(I)I"⟩ : MethodName) (head1 (Jvm.Cond.code (⟨"com/example/rulework/bench/Burst", "ruleCount", "(I)I"⟩ : MethodName) prog_1_method_4_code 2 (some .int) :: ws) ({ frames := 1, cells := 0, slots := 0, locals := 12 } : Room)) (fun a U => a = #[(.ref w_MANY_RULES), (.int p2)] ∧ Z.Warmed39 U.vm ∧ U.heap = h0) (fun _ _ _ _ _ => True) (fun _ U o U' => ∃ v L, o = .returned v ∧ Q_rc3 Z w_POOL w_NO_RULE w_ONE_RULE w_MANY_RULES p2 h0 n0 v U'.heap L ∧ FrameEnd U o U' L ({ frames := 1, cells := 0, slots := 0, locals := 12 } : Room).cells ({ frames := 1, cells := 0, slots := 0, locals := 12 } : Room).slots) := by
  refine MetFree.of_bodySF (plainFor_of_name pn_2) hisR ?_
  intro p e s m args below meth c s₁ Bd hml0 hP hK
  obtain ⟨rfl, hZ, hh⟩ := hP
  have hx := Bd.exec
  have hby := Bd.bytes
  have hml : c.maxLocals = 2 := hml0
  have hown : s.vm.findClass "com/example/rulework/bench/Burst" = some m.cls := findClass_of_methodNamed Bd.named
  have hnm := (name_of_methodNamed Bd.named Bd.method).1
  have X0 : Stand p l e ({ frames := 1, cells := 0, slots := 0, locals := 12 } : Room) s m #[(.ref w_MANY_RULES), (.int p2)] below meth c s₁ [] 0 0 := Stand.of_body Bd
  have e0 : s₁.heap = h0 := by rw [← hh, Bd.state]; rfl
  have N0 := Fr.nil n0
  obtain ⟨S_w_POOL, E_w_POOL, F_w_POOL_ordinal, S_w_NO_RULE, E_w_NO_RULE, F_w_NO_RULE_ordinal, S_w_ONE_RULE, E_w_ONE_RULE, F_w_ONE_RULE_ordinal, S_w_MANY_RULES, E_w_MANY_RULES, F_w_MANY_RULES_ordinal⟩ := id G
  have k0 : Way p e below (s₁.setTop (entryFrame m #[(.ref w_MANY_RULES), (.int p2)] 2)) s₁ (mkF m 0 #[rv w_MANY_RULES, iv p2] []) := fun t k => castTop (by first | (simp [entryFrame, mkF, argsToLocals, Value.category]; done) | rfl) k
  generalize s₁.setTop (entryFrame m #[(.ref w_MANY_RULES), (.int p2)] 2) = S0 at k0 ⊢
  have k1 : Way p e below S0 s₁ (mkF m 1 #[rv w_MANY_RULES, iv p2] [(.ref w_MANY_RULES)]) := by
    intro t k
    refine k0 t ?_
    refine XS.aloadN X0.here hx rfl (hb hby d_prog_1_method_4_code_0) rfl rfl ?_
    show Steps p.tables e below (s₁.setTop (mkF m 1 #[rv w_MANY_RULES, iv p2] [(.ref w_MANY_RULES)])) _
    exact k
  obtain ⟨cq2, kq2, qq2a, qq2b, qq2c⟩ := isOf hZ e0 (E_w_MANY_RULES.ext O0.2)
  obtain ⟨_, _, ⟨T2, L2, kk2, nn2⟩, -, X2, ⟨Lc2, hQ2, l2, y2, z2⟩, st2⟩ := X0.virtualBackUp hx (owner := "java/lang/Enum") (x := (⟨"com/example/rulework/bench/Burst", "ordinal", "()I"⟩ : MethodName)) (y := (⟨"java/lang/Enum", "ordinal", "()I"⟩ : MethodName)) hown (mvT hZ (hw _ (List.mem_of_getElem? (i := 12) rfl))) (mvT hZ (hw _ (List.mem_of_getElem? (i := 13) rfl))) (mvT hZ (hw _ (List.mem_of_getElem? (i := 14) rfl))) (by decide) (mvT hZ (hw _ (List.mem_of_getElem? (i := 16) rfl))) (mvT hZ (hw _ (List.mem_of_getElem? (i := 15) rfl))) (backOf (W := 0) (ord l Z a0 hw [] w_POOL w_NO_RULE w_ONE_RULE w_MANY_RULES G w_MANY_RULES (3 : Int32) h0 n0 O0 ((F_w_MANY_RULES_ordinal.ext O0.2) : Fld Z h0 w_MANY_RULES "java/lang/Enum" "ordinal" "I" (.int (3 : Int32)))) hZ (hw _ (List.mem_of_getElem? (i := 18) rfl)) (hw _ (List.mem_of_getElem? (i := 17) rfl)) (by decide) (by decide)) qq2a qq2c (g := (mkF m 1 #[rv w_MANY_RULES, iv p2] [(.ref w_MANY_RULES)])) rfl (by rw [hml]; rfl) (Steps.refl _) (argsL := []) (rest := []) (lenOf pd_0 rfl) rfl (by show 2 * 0 + _ ≤ _; exact Nat.le_of_eq rfl) (hb hby d_prog_1_method_4_code_1) (fun _ _ => ⟨rfl, e0, (by decide : 0 + 0 ≤ _), (by decide : 0 + 0 ≤ _)⟩)
  dsimp only [Pt.U, Pt.locs, Pt.cells, Pt.slots] at X2 l2 y2 z2 st2 hQ2
  subst l2 y2 z2
  obtain ⟨rfl, Nq2, e2⟩ := hQ2
  have N2 := Fr.app N0 Nq2
  have k3 : Way p e below S0 T2 (mkF m 4 #[rv w_MANY_RULES, iv p2] [(.int (3 : Int32))]) := fun t k => k1 t (st2.trans k)
  have k4 : Way p e below S0 T2 (mkF m 35 #[rv w_MANY_RULES, iv p2] [(.int p2)]) := by
    intro t k
    refine k3 t ?_
    refine own_lsw (g := (mkF m 4 #[rv w_MANY_RULES, iv p2] [(.int (3 : Int32))])) X2.here hx rfl (pc0 := 4) (pc' := 34) rfl (hb hby d_prog_1_method_4_code_4) rfl (off := 30) (by decide) (by decide) (by decide) (by decide) ?_
    show Steps p.tables e below (T2.setTop (mkF m 34 #[rv w_MANY_RULES, iv p2] [])) _
    refine XS.iloadN X2.here hx rfl (hb hby d_prog_1_method_4_code_34) rfl ?_
    show Steps p.tables e below (T2.setTop (mkF m 35 #[rv w_MANY_RULES, iv p2] [(.int p2)])) _
    exact k
  obtain ⟨fs, hr, hrun, hended, hW, hsame⟩ := X2.leave (v := some (.int p2)) (fun h => by rw [Bd.returns] at h; cases h)
  refine ⟨_, _, k4 _ (retOut X2 hx Bd.returns rfl (Or.inl ⟨rfl, Or.inl rfl, _, rfl⟩) (hb hby d_prog_1_method_4_code_35) hr), hrun, hended, _, _, rfl, ?_, ⟨_, rfl⟩, hW, hsame.mono (by decide) (by decide)⟩
  show Q_rc3 Z w_POOL w_NO_RULE w_ONE_RULE w_MANY_RULES p2 h0 n0 _ T2.heap _
  rw [e2]
  exact ⟨rfl, N2, rfl⟩
def Q_ex0 (Z : State) (w_POOL : Addr) (w_NO_RULE : Addr) (w_ONE_RULE : Addr) (w_MANY_RULES : Addr) (p2 : Int32) (h0 : Heap) (n0 : Nat) (v : Option Value) (h : Heap) (L : List Loc) : Prop := (v = some (.int (0 : Int32))) ∧ (Fr n0 L) ∧ (h = h0)
set_option maxRecDepth 65536 in
set_option maxHeartbeats 40000000 in
theorem ex0 (l : Launch) (Z : State) (a0 : Array Value) (hw : ∀ d ∈ tables_1, d.before a0 Z = true) (ws : List Jvm.Cond) (w_POOL : Addr) (w_NO_RULE : Addr) (w_ONE_RULE : Addr) (w_MANY_RULES : Addr) (G : Gst Z w_POOL w_NO_RULE w_ONE_RULE w_MANY_RULES) (p2 : Int32) (h0 : Heap) (n0 : Nat) (O0 : Old Z n0 h0) :
    MetFree l (⟨"com/example/rulework/bench/BurstRuleCountPinLaw", "expected", "(II)I"⟩ : MethodName) (head1 (Jvm.Cond.code (⟨"com/example/rulework/bench/BurstRuleCountPinLaw", "expected", "(II)I"⟩ : MethodName) method_3_code 2 (some .int) :: ws) ({ frames := 0, cells := 0, slots := 0, locals := 0 } : Room)) (fun a U => a = #[(.int (0 : Int32)), (.int p2)] ∧ Z.Warmed39 U.vm ∧ U.heap = h0) (fun _ _ _ _ _ => True) (fun _ U o U' => ∃ v L, o = .returned v ∧ Q_ex0 Z w_POOL w_NO_RULE w_ONE_RULE w_MANY_RULES p2 h0 n0 v U'.heap L ∧ FrameEnd U o U' L ({ frames := 0, cells := 0, slots := 0, locals := 0 } : Room).cells ({ frames := 0, cells := 0, slots := 0, locals := 0 } : Room).slots) := by
  refine MetFree.of_bodySF (plainFor_of_name pn_0) hisR ?_
  intro p e s m args below meth c s₁ Bd hml0 hP hK
  obtain ⟨rfl, hZ, hh⟩ := hP
  have hx := Bd.exec
  have hby := Bd.bytes
  have hml : c.maxLocals = 2 := hml0
  have hown : s.vm.findClass "com/example/rulework/bench/BurstRuleCountPinLaw" = some m.cls := findClass_of_methodNamed Bd.named
  have hnm := (name_of_methodNamed Bd.named Bd.method).1
  have X0 : Stand p l e ({ frames := 0, cells := 0, slots := 0, locals := 0 } : Room) s m #[(.int (0 : Int32)), (.int p2)] below meth c s₁ [] 0 0 := Stand.of_body Bd
  have e0 : s₁.heap = h0 := by rw [← hh, Bd.state]; rfl
  have N0 := Fr.nil n0
  obtain ⟨S_w_POOL, E_w_POOL, F_w_POOL_ordinal, S_w_NO_RULE, E_w_NO_RULE, F_w_NO_RULE_ordinal, S_w_ONE_RULE, E_w_ONE_RULE, F_w_ONE_RULE_ordinal, S_w_MANY_RULES, E_w_MANY_RULES, F_w_MANY_RULES_ordinal⟩ := id G
  have k0 : Way p e below (s₁.setTop (entryFrame m #[(.int (0 : Int32)), (.int p2)] 2)) s₁ (mkF m 0 #[iv (0 : Int32), iv p2] []) := fun t k => castTop (by first | (simp [entryFrame, mkF, argsToLocals, Value.category]; done) | rfl) k
  generalize s₁.setTop (entryFrame m #[(.int (0 : Int32)), (.int p2)] 2) = S0 at k0 ⊢
  have k1 : Way p e below S0 s₁ (mkF m 15 #[iv (0 : Int32), iv p2] [(.int (0 : Int32))]) := by
    intro t k
    refine k0 t ?_
    refine XS.iloadN X0.here hx rfl (hb hby d_method_3_code_0) rfl ?_
    show Steps p.tables e below (s₁.setTop (mkF m 1 #[iv (0 : Int32), iv p2] [(.int (0 : Int32))])) _
    refine XS.iconst X0.here hx rfl (hb hby d_method_3_code_1) ?_
    show Steps p.tables e below (s₁.setTop (mkF m 2 #[iv (0 : Int32), iv p2] [(.int (2 : Int32)), (.int (0 : Int32))])) _
    refine XS.icmpYes X0.here hx rfl (pc0 := 2) (pc' := 7) rfl (hb hby d_method_3_code_2) rfl (feq ((by decide) : ¬ ((0 : Int32) = (2 : Int32)))).2 (by decide) (by decide) ?_
    show Steps p.tables e below (s₁.setTop (mkF m 7 #[iv (0 : Int32), iv p2] [])) _
    refine XS.iloadN X0.here hx rfl (hb hby d_method_3_code_7) rfl ?_
    show Steps p.tables e below (s₁.setTop (mkF m 8 #[iv (0 : Int32), iv p2] [(.int (0 : Int32))])) _
    refine XS.iconst X0.here hx rfl (hb hby d_method_3_code_8) ?_
    show Steps p.tables e below (s₁.setTop (mkF m 9 #[iv (0 : Int32), iv p2] [(.int (3 : Int32)), (.int (0 : Int32))])) _
    refine XS.icmpYes X0.here hx rfl (pc0 := 9) (pc' := 14) rfl (hb hby d_method_3_code_9) rfl (feq ((by decide) : ¬ ((0 : Int32) = (3 : Int32)))).2 (by decide) (by decide) ?_
    show Steps p.tables e below (s₁.setTop (mkF m 14 #[iv (0 : Int32), iv p2] [])) _
    refine XS.iconst X0.here hx rfl (hb hby d_method_3_code_14) ?_
    show Steps p.tables e below (s₁.setTop (mkF m 15 #[iv (0 : Int32), iv p2] [(.int (0 : Int32))])) _
    exact k
  obtain ⟨fs, hr, hrun, hended, hW, hsame⟩ := X0.leave (v := some (.int (0 : Int32))) (fun h => by rw [Bd.returns] at h; cases h)
  refine ⟨_, _, k1 _ (retOut X0 hx Bd.returns rfl (Or.inl ⟨rfl, Or.inl rfl, _, rfl⟩) (hb hby d_method_3_code_15) hr), hrun, hended, _, _, rfl, ?_, ⟨_, rfl⟩, hW, hsame.mono (by decide) (by decide)⟩
  show Q_ex0 Z w_POOL w_NO_RULE w_ONE_RULE w_MANY_RULES p2 h0 n0 _ s₁.heap _
  rw [e0]
  exact ⟨rfl, N0, rfl⟩
def Q_ex1 (Z : State) (w_POOL : Addr) (w_NO_RULE : Addr) (w_ONE_RULE : Addr) (w_MANY_RULES : Addr) (p2 : Int32) (h0 : Heap) (n0 : Nat) (v : Option Value) (h : Heap) (L : List Loc) : Prop := (v = some (.int (0 : Int32))) ∧ (Fr n0 L) ∧ (h = h0)
set_option maxRecDepth 65536 in
set_option maxHeartbeats 40000000 in
theorem ex1 (l : Launch) (Z : State) (a0 : Array Value) (hw : ∀ d ∈ tables_1, d.before a0 Z = true) (ws : List Jvm.Cond) (w_POOL : Addr) (w_NO_RULE : Addr) (w_ONE_RULE : Addr) (w_MANY_RULES : Addr) (G : Gst Z w_POOL w_NO_RULE w_ONE_RULE w_MANY_RULES) (p2 : Int32) (h0 : Heap) (n0 : Nat) (O0 : Old Z n0 h0) :
    MetFree l (⟨"com/example/rulework/bench/BurstRuleCountPinLaw", "expected", "(II)I"⟩ : MethodName) (head1 (Jvm.Cond.code (⟨"com/example/rulework/bench/BurstRuleCountPinLaw", "expected", "(II)I"⟩ : MethodName) method_3_code 2 (some .int) :: ws) ({ frames := 0, cells := 0, slots := 0, locals := 0 } : Room)) (fun a U => a = #[(.int (1 : Int32)), (.int p2)] ∧ Z.Warmed39 U.vm ∧ U.heap = h0) (fun _ _ _ _ _ => True) (fun _ U o U' => ∃ v L, o = .returned v ∧ Q_ex1 Z w_POOL w_NO_RULE w_ONE_RULE w_MANY_RULES p2 h0 n0 v U'.heap L ∧ FrameEnd U o U' L ({ frames := 0, cells := 0, slots := 0, locals := 0 } : Room).cells ({ frames := 0, cells := 0, slots := 0, locals := 0 } : Room).slots) := by
  refine MetFree.of_bodySF (plainFor_of_name pn_0) hisR ?_
  intro p e s m args below meth c s₁ Bd hml0 hP hK
  obtain ⟨rfl, hZ, hh⟩ := hP
  have hx := Bd.exec
  have hby := Bd.bytes
  have hml : c.maxLocals = 2 := hml0
  have hown : s.vm.findClass "com/example/rulework/bench/BurstRuleCountPinLaw" = some m.cls := findClass_of_methodNamed Bd.named
  have hnm := (name_of_methodNamed Bd.named Bd.method).1
  have X0 : Stand p l e ({ frames := 0, cells := 0, slots := 0, locals := 0 } : Room) s m #[(.int (1 : Int32)), (.int p2)] below meth c s₁ [] 0 0 := Stand.of_body Bd
  have e0 : s₁.heap = h0 := by rw [← hh, Bd.state]; rfl
  have N0 := Fr.nil n0
  obtain ⟨S_w_POOL, E_w_POOL, F_w_POOL_ordinal, S_w_NO_RULE, E_w_NO_RULE, F_w_NO_RULE_ordinal, S_w_ONE_RULE, E_w_ONE_RULE, F_w_ONE_RULE_ordinal, S_w_MANY_RULES, E_w_MANY_RULES, F_w_MANY_RULES_ordinal⟩ := id G
  have k0 : Way p e below (s₁.setTop (entryFrame m #[(.int (1 : Int32)), (.int p2)] 2)) s₁ (mkF m 0 #[iv (1 : Int32), iv p2] []) := fun t k => castTop (by first | (simp [entryFrame, mkF, argsToLocals, Value.category]; done) | rfl) k
  generalize s₁.setTop (entryFrame m #[(.int (1 : Int32)), (.int p2)] 2) = S0 at k0 ⊢
  have k1 : Way p e below S0 s₁ (mkF m 15 #[iv (1 : Int32), iv p2] [(.int (0 : Int32))]) := by
    intro t k
    refine k0 t ?_
    refine XS.iloadN X0.here hx rfl (hb hby d_method_3_code_0) rfl ?_
    show Steps p.tables e below (s₁.setTop (mkF m 1 #[iv (1 : Int32), iv p2] [(.int (1 : Int32))])) _
    refine XS.iconst X0.here hx rfl (hb hby d_method_3_code_1) ?_
    show Steps p.tables e below (s₁.setTop (mkF m 2 #[iv (1 : Int32), iv p2] [(.int (2 : Int32)), (.int (1 : Int32))])) _
    refine XS.icmpYes X0.here hx rfl (pc0 := 2) (pc' := 7) rfl (hb hby d_method_3_code_2) rfl (feq ((by decide) : ¬ ((1 : Int32) = (2 : Int32)))).2 (by decide) (by decide) ?_
    show Steps p.tables e below (s₁.setTop (mkF m 7 #[iv (1 : Int32), iv p2] [])) _
    refine XS.iloadN X0.here hx rfl (hb hby d_method_3_code_7) rfl ?_
    show Steps p.tables e below (s₁.setTop (mkF m 8 #[iv (1 : Int32), iv p2] [(.int (1 : Int32))])) _
    refine XS.iconst X0.here hx rfl (hb hby d_method_3_code_8) ?_
    show Steps p.tables e below (s₁.setTop (mkF m 9 #[iv (1 : Int32), iv p2] [(.int (3 : Int32)), (.int (1 : Int32))])) _
    refine XS.icmpYes X0.here hx rfl (pc0 := 9) (pc' := 14) rfl (hb hby d_method_3_code_9) rfl (feq ((by decide) : ¬ ((1 : Int32) = (3 : Int32)))).2 (by decide) (by decide) ?_
    show Steps p.tables e below (s₁.setTop (mkF m 14 #[iv (1 : Int32), iv p2] [])) _
    refine XS.iconst X0.here hx rfl (hb hby d_method_3_code_14) ?_
    show Steps p.tables e below (s₁.setTop (mkF m 15 #[iv (1 : Int32), iv p2] [(.int (0 : Int32))])) _
    exact k
  obtain ⟨fs, hr, hrun, hended, hW, hsame⟩ := X0.leave (v := some (.int (0 : Int32))) (fun h => by rw [Bd.returns] at h; cases h)
  refine ⟨_, _, k1 _ (retOut X0 hx Bd.returns rfl (Or.inl ⟨rfl, Or.inl rfl, _, rfl⟩) (hb hby d_method_3_code_15) hr), hrun, hended, _, _, rfl, ?_, ⟨_, rfl⟩, hW, hsame.mono (by decide) (by decide)⟩
  show Q_ex1 Z w_POOL w_NO_RULE w_ONE_RULE w_MANY_RULES p2 h0 n0 _ s₁.heap _
  rw [e0]
  exact ⟨rfl, N0, rfl⟩
def Q_ex2 (Z : State) (w_POOL : Addr) (w_NO_RULE : Addr) (w_ONE_RULE : Addr) (w_MANY_RULES : Addr) (p2 : Int32) (h0 : Heap) (n0 : Nat) (v : Option Value) (h : Heap) (L : List Loc) : Prop := (v = some (.int (1 : Int32))) ∧ (Fr n0 L) ∧ (h = h0)
set_option maxRecDepth 65536 in
set_option maxHeartbeats 40000000 in
theorem ex2 (l : Launch) (Z : State) (a0 : Array Value) (hw : ∀ d ∈ tables_1, d.before a0 Z = true) (ws : List Jvm.Cond) (w_POOL : Addr) (w_NO_RULE : Addr) (w_ONE_RULE : Addr) (w_MANY_RULES : Addr) (G : Gst Z w_POOL w_NO_RULE w_ONE_RULE w_MANY_RULES) (p2 : Int32) (h0 : Heap) (n0 : Nat) (O0 : Old Z n0 h0) :
    MetFree l (⟨"com/example/rulework/bench/BurstRuleCountPinLaw", "expected", "(II)I"⟩ : MethodName) (head1 (Jvm.Cond.code (⟨"com/example/rulework/bench/BurstRuleCountPinLaw", "expected", "(II)I"⟩ : MethodName) method_3_code 2 (some .int) :: ws) ({ frames := 0, cells := 0, slots := 0, locals := 0 } : Room)) (fun a U => a = #[(.int (2 : Int32)), (.int p2)] ∧ Z.Warmed39 U.vm ∧ U.heap = h0) (fun _ _ _ _ _ => True) (fun _ U o U' => ∃ v L, o = .returned v ∧ Q_ex2 Z w_POOL w_NO_RULE w_ONE_RULE w_MANY_RULES p2 h0 n0 v U'.heap L ∧ FrameEnd U o U' L ({ frames := 0, cells := 0, slots := 0, locals := 0 } : Room).cells ({ frames := 0, cells := 0, slots := 0, locals := 0 } : Room).slots) := by
  refine MetFree.of_bodySF (plainFor_of_name pn_0) hisR ?_
  intro p e s m args below meth c s₁ Bd hml0 hP hK
  obtain ⟨rfl, hZ, hh⟩ := hP
  have hx := Bd.exec
  have hby := Bd.bytes
  have hml : c.maxLocals = 2 := hml0
  have hown : s.vm.findClass "com/example/rulework/bench/BurstRuleCountPinLaw" = some m.cls := findClass_of_methodNamed Bd.named
  have hnm := (name_of_methodNamed Bd.named Bd.method).1
  have X0 : Stand p l e ({ frames := 0, cells := 0, slots := 0, locals := 0 } : Room) s m #[(.int (2 : Int32)), (.int p2)] below meth c s₁ [] 0 0 := Stand.of_body Bd
  have e0 : s₁.heap = h0 := by rw [← hh, Bd.state]; rfl
  have N0 := Fr.nil n0
  obtain ⟨S_w_POOL, E_w_POOL, F_w_POOL_ordinal, S_w_NO_RULE, E_w_NO_RULE, F_w_NO_RULE_ordinal, S_w_ONE_RULE, E_w_ONE_RULE, F_w_ONE_RULE_ordinal, S_w_MANY_RULES, E_w_MANY_RULES, F_w_MANY_RULES_ordinal⟩ := id G
  have k0 : Way p e below (s₁.setTop (entryFrame m #[(.int (2 : Int32)), (.int p2)] 2)) s₁ (mkF m 0 #[iv (2 : Int32), iv p2] []) := fun t k => castTop (by first | (simp [entryFrame, mkF, argsToLocals, Value.category]; done) | rfl) k
  generalize s₁.setTop (entryFrame m #[(.int (2 : Int32)), (.int p2)] 2) = S0 at k0 ⊢
  have k1 : Way p e below S0 s₁ (mkF m 6 #[iv (2 : Int32), iv p2] [(.int (1 : Int32))]) := by
    intro t k
    refine k0 t ?_
    refine XS.iloadN X0.here hx rfl (hb hby d_method_3_code_0) rfl ?_
    show Steps p.tables e below (s₁.setTop (mkF m 1 #[iv (2 : Int32), iv p2] [(.int (2 : Int32))])) _
    refine XS.iconst X0.here hx rfl (hb hby d_method_3_code_1) ?_
    show Steps p.tables e below (s₁.setTop (mkF m 2 #[iv (2 : Int32), iv p2] [(.int (2 : Int32)), (.int (2 : Int32))])) _
    refine XS.icmpNo X0.here hx rfl (hb hby d_method_3_code_2) rfl (teq ((by decide) : (2 : Int32) = (2 : Int32))).2 ?_
    show Steps p.tables e below (s₁.setTop (mkF m 5 #[iv (2 : Int32), iv p2] [])) _
    refine XS.iconst X0.here hx rfl (hb hby d_method_3_code_5) ?_
    show Steps p.tables e below (s₁.setTop (mkF m 6 #[iv (2 : Int32), iv p2] [(.int (1 : Int32))])) _
    exact k
  obtain ⟨fs, hr, hrun, hended, hW, hsame⟩ := X0.leave (v := some (.int (1 : Int32))) (fun h => by rw [Bd.returns] at h; cases h)
  refine ⟨_, _, k1 _ (retOut X0 hx Bd.returns rfl (Or.inl ⟨rfl, Or.inl rfl, _, rfl⟩) (hb hby d_method_3_code_6) hr), hrun, hended, _, _, rfl, ?_, ⟨_, rfl⟩, hW, hsame.mono (by decide) (by decide)⟩
  show Q_ex2 Z w_POOL w_NO_RULE w_ONE_RULE w_MANY_RULES p2 h0 n0 _ s₁.heap _
  rw [e0]
  exact ⟨rfl, N0, rfl⟩
def Q_ex3 (Z : State) (w_POOL : Addr) (w_NO_RULE : Addr) (w_ONE_RULE : Addr) (w_MANY_RULES : Addr) (p2 : Int32) (h0 : Heap) (n0 : Nat) (v : Option Value) (h : Heap) (L : List Loc) : Prop := (v = some (.int p2)) ∧ (Fr n0 L) ∧ (h = h0)
set_option maxRecDepth 65536 in
set_option maxHeartbeats 40000000 in
theorem ex3 (l : Launch) (Z : State) (a0 : Array Value) (hw : ∀ d ∈ tables_1, d.before a0 Z = true) (ws : List Jvm.Cond) (w_POOL : Addr) (w_NO_RULE : Addr) (w_ONE_RULE : Addr) (w_MANY_RULES : Addr) (G : Gst Z w_POOL w_NO_RULE w_ONE_RULE w_MANY_RULES) (p2 : Int32) (h0 : Heap) (n0 : Nat) (O0 : Old Z n0 h0) :
    MetFree l (⟨"com/example/rulework/bench/BurstRuleCountPinLaw", "expected", "(II)I"⟩ : MethodName) (head1 (Jvm.Cond.code (⟨"com/example/rulework/bench/BurstRuleCountPinLaw", "expected", "(II)I"⟩ : MethodName) method_3_code 2 (some .int) :: ws) ({ frames := 0, cells := 0, slots := 0, locals := 0 } : Room)) (fun a U => a = #[(.int (3 : Int32)), (.int p2)] ∧ Z.Warmed39 U.vm ∧ U.heap = h0) (fun _ _ _ _ _ => True) (fun _ U o U' => ∃ v L, o = .returned v ∧ Q_ex3 Z w_POOL w_NO_RULE w_ONE_RULE w_MANY_RULES p2 h0 n0 v U'.heap L ∧ FrameEnd U o U' L ({ frames := 0, cells := 0, slots := 0, locals := 0 } : Room).cells ({ frames := 0, cells := 0, slots := 0, locals := 0 } : Room).slots) := by
  refine MetFree.of_bodySF (plainFor_of_name pn_0) hisR ?_
  intro p e s m args below meth c s₁ Bd hml0 hP hK
  obtain ⟨rfl, hZ, hh⟩ := hP
  have hx := Bd.exec
  have hby := Bd.bytes
  have hml : c.maxLocals = 2 := hml0
  have hown : s.vm.findClass "com/example/rulework/bench/BurstRuleCountPinLaw" = some m.cls := findClass_of_methodNamed Bd.named
  have hnm := (name_of_methodNamed Bd.named Bd.method).1
  have X0 : Stand p l e ({ frames := 0, cells := 0, slots := 0, locals := 0 } : Room) s m #[(.int (3 : Int32)), (.int p2)] below meth c s₁ [] 0 0 := Stand.of_body Bd
  have e0 : s₁.heap = h0 := by rw [← hh, Bd.state]; rfl
  have N0 := Fr.nil n0
  obtain ⟨S_w_POOL, E_w_POOL, F_w_POOL_ordinal, S_w_NO_RULE, E_w_NO_RULE, F_w_NO_RULE_ordinal, S_w_ONE_RULE, E_w_ONE_RULE, F_w_ONE_RULE_ordinal, S_w_MANY_RULES, E_w_MANY_RULES, F_w_MANY_RULES_ordinal⟩ := id G
  have k0 : Way p e below (s₁.setTop (entryFrame m #[(.int (3 : Int32)), (.int p2)] 2)) s₁ (mkF m 0 #[iv (3 : Int32), iv p2] []) := fun t k => castTop (by first | (simp [entryFrame, mkF, argsToLocals, Value.category]; done) | rfl) k
  generalize s₁.setTop (entryFrame m #[(.int (3 : Int32)), (.int p2)] 2) = S0 at k0 ⊢
  have k1 : Way p e below S0 s₁ (mkF m 13 #[iv (3 : Int32), iv p2] [(.int p2)]) := by
    intro t k
    refine k0 t ?_
    refine XS.iloadN X0.here hx rfl (hb hby d_method_3_code_0) rfl ?_
    show Steps p.tables e below (s₁.setTop (mkF m 1 #[iv (3 : Int32), iv p2] [(.int (3 : Int32))])) _
    refine XS.iconst X0.here hx rfl (hb hby d_method_3_code_1) ?_
    show Steps p.tables e below (s₁.setTop (mkF m 2 #[iv (3 : Int32), iv p2] [(.int (2 : Int32)), (.int (3 : Int32))])) _
    refine XS.icmpYes X0.here hx rfl (pc0 := 2) (pc' := 7) rfl (hb hby d_method_3_code_2) rfl (feq ((by decide) : ¬ ((3 : Int32) = (2 : Int32)))).2 (by decide) (by decide) ?_
    show Steps p.tables e below (s₁.setTop (mkF m 7 #[iv (3 : Int32), iv p2] [])) _
    refine XS.iloadN X0.here hx rfl (hb hby d_method_3_code_7) rfl ?_
    show Steps p.tables e below (s₁.setTop (mkF m 8 #[iv (3 : Int32), iv p2] [(.int (3 : Int32))])) _
    refine XS.iconst X0.here hx rfl (hb hby d_method_3_code_8) ?_
    show Steps p.tables e below (s₁.setTop (mkF m 9 #[iv (3 : Int32), iv p2] [(.int (3 : Int32)), (.int (3 : Int32))])) _
    refine XS.icmpNo X0.here hx rfl (hb hby d_method_3_code_9) rfl (teq ((by decide) : (3 : Int32) = (3 : Int32))).2 ?_
    show Steps p.tables e below (s₁.setTop (mkF m 12 #[iv (3 : Int32), iv p2] [])) _
    refine XS.iloadN X0.here hx rfl (hb hby d_method_3_code_12) rfl ?_
    show Steps p.tables e below (s₁.setTop (mkF m 13 #[iv (3 : Int32), iv p2] [(.int p2)])) _
    exact k
  obtain ⟨fs, hr, hrun, hended, hW, hsame⟩ := X0.leave (v := some (.int p2)) (fun h => by rw [Bd.returns] at h; cases h)
  refine ⟨_, _, k1 _ (retOut X0 hx Bd.returns rfl (Or.inl ⟨rfl, Or.inl rfl, _, rfl⟩) (hb hby d_method_3_code_13) hr), hrun, hended, _, _, rfl, ?_, ⟨_, rfl⟩, hW, hsame.mono (by decide) (by decide)⟩
  show Q_ex3 Z w_POOL w_NO_RULE w_ONE_RULE w_MANY_RULES p2 h0 n0 _ s₁.heap _
  rw [e0]
  exact ⟨rfl, N0, rfl⟩
def Q_law_met (Z : State) (w_POOL : Addr) (w_NO_RULE : Addr) (w_ONE_RULE : Addr) (w_MANY_RULES : Addr) (p1 : Int32) (p2 : Int32) (h0 : Heap) (n0 : Nat) (v : Option Value) (h : Heap) (L : List Loc) : Prop := (v = some (.int (1 : Int32))) ∧ (Fr n0 L)
set_option maxRecDepth 65536 in
set_option maxHeartbeats 40000000 in
theorem law_met (l : Launch) (Z : State) (a0 : Array Value) (hw : ∀ d ∈ tables_1, d.before a0 Z = true) (ws : List Jvm.Cond) (w_POOL : Addr) (w_NO_RULE : Addr) (w_ONE_RULE : Addr) (w_MANY_RULES : Addr) (G : Gst Z w_POOL w_NO_RULE w_ONE_RULE w_MANY_RULES) (p1 : Int32) (p2 : Int32) (h0 : Heap) (n0 : Nat) (O0 : Old Z n0 h0) :
    MetFree l x (head1 (Jvm.Cond.code x code maxLocals ret :: ws) room_1) (fun a U => a = #[(.int p1), (.int p2)] ∧ Z.Warmed39 U.vm ∧ U.heap = h0) (fun _ _ _ _ _ => True) (fun _ U o U' => ∃ v L, o = .returned v ∧ Q_law_met Z w_POOL w_NO_RULE w_ONE_RULE w_MANY_RULES p1 p2 h0 n0 v U'.heap L ∧ FrameEnd U o U' L 0 0) := by
  refine MetFree.of_bodySF (plainFor_of_name pn_0) hisR ?_
  intro p e s m args below meth c s₁ Bd hml0 hP hK
  obtain ⟨rfl, hZ, hh⟩ := hP
  have hx := Bd.exec
  have hby := Bd.bytes
  have hml : c.maxLocals = 5 := hml0
  have hown : s.vm.findClass "com/example/rulework/bench/BurstRuleCountPinLaw" = some m.cls := findClass_of_methodNamed Bd.named
  have hnm := (name_of_methodNamed Bd.named Bd.method).1
  have X0 : Stand p l e room_1 s m #[(.int p1), (.int p2)] below meth c s₁ [] 0 0 := Stand.of_body Bd
  have e0 : s₁.heap = h0 := by rw [← hh, Bd.state]; rfl
  have N0 := Fr.nil n0
  obtain ⟨S_w_POOL, E_w_POOL, F_w_POOL_ordinal, S_w_NO_RULE, E_w_NO_RULE, F_w_NO_RULE_ordinal, S_w_ONE_RULE, E_w_ONE_RULE, F_w_ONE_RULE_ordinal, S_w_MANY_RULES, E_w_MANY_RULES, F_w_MANY_RULES_ordinal⟩ := id G
  have k0 : Way p e below (s₁.setTop (entryFrame m #[(.int p1), (.int p2)] maxLocals)) s₁ (mkF m 0 #[iv p1, iv p2, .unset, .unset, .unset] []) := fun t k => castTop (by first | (simp [entryFrame, mkF, argsToLocals, Value.category, maxLocals]; done) | rfl) k
  generalize s₁.setTop (entryFrame m #[(.int p1), (.int p2)] maxLocals) = S0 at k0 ⊢
  have k1 : Way p e below S0 s₁ (mkF m 4 #[iv p1, iv p2, iv (p1 &&& (3 : Int32)), .unset, .unset] []) := by
    intro t k
    refine k0 t ?_
    refine XS.iloadN X0.here hx rfl (hb hby at_0) rfl ?_
    show Steps p.tables e below (s₁.setTop (mkF m 1 #[iv p1, iv p2, .unset, .unset, .unset] [(.int p1)])) _
    refine XS.iconst X0.here hx rfl (hb hby at_1) ?_
    show Steps p.tables e below (s₁.setTop (mkF m 2 #[iv p1, iv p2, .unset, .unset, .unset] [(.int (3 : Int32)), (.int p1)])) _
    refine XS.iand X0.here hx rfl (hb hby at_2) rfl ?_
    show Steps p.tables e below (s₁.setTop (mkF m 3 #[iv p1, iv p2, .unset, .unset, .unset] [(.int (p1 &&& (3 : Int32)))])) _
    refine XS.istoreN X0.here hx rfl (hb hby at_3) rfl (l' := #[iv p1, iv p2, iv (p1 &&& (3 : Int32)), .unset, .unset]) rfl ?_
    show Steps p.tables e below (s₁.setTop (mkF m 4 #[iv p1, iv p2, iv (p1 &&& (3 : Int32)), .unset, .unset] [])) _
    exact k
  have hr2 : (p1 &&& (3 : Int32)) = (0 : Int32) ∨ (p1 &&& (3 : Int32)) = (1 : Int32) ∨ (p1 &&& (3 : Int32)) = (2 : Int32) ∨ (p1 &&& (3 : Int32)) = (3 : Int32) := own_mask3 p1
  rcases hr2 with hi2 | hi2 | hi2 | hi2
  · have k3 : Way p e below S0 s₁ (mkF m 4 #[iv p1, iv p2, iv (0 : Int32), .unset, .unset] []) := by have q := k1; rw [hi2] at q; exact q
    have k4 : Way p e below S0 s₁ (mkF m 5 #[iv p1, iv p2, iv (0 : Int32), .unset, .unset] [(.int (0 : Int32))]) := by
      intro t k
      refine k3 t ?_
      refine XS.iloadN X0.here hx rfl (hb hby at_4) rfl ?_
      show Steps p.tables e below (s₁.setTop (mkF m 5 #[iv p1, iv p2, iv (0 : Int32), .unset, .unset] [(.int (0 : Int32))])) _
      exact k
    obtain ⟨_, _, ⟨T5, L5, kk5, nn5⟩, -, X5, ⟨Lc5, hQ5, l5, y5, z5⟩, st5⟩ := Jvm.LawKit.callS X0 hx (y := (⟨"com/example/rulework/bench/BurstRuleCountPinLaw", "pick", "(I)Lcom/example/rulework/bench/Burst;"⟩ : MethodName)) hown (mvT hZ (hw _ (List.mem_of_getElem? (i := 0) rfl))) (mvT hZ (hw _ (List.mem_of_getElem? (i := 1) rfl))) (mvT hZ (hw _ (List.mem_of_getElem? (i := 2) rfl))) (mvT hZ (hw _ (List.mem_of_getElem? (i := 3) rfl))) (by decide) (backOf (W := 0) (pick0 l Z a0 hw [] w_POOL w_NO_RULE w_ONE_RULE w_MANY_RULES G  h0 n0 O0 ) hZ (hw _ (List.mem_of_getElem? (i := 3) rfl)) (hw _ (List.mem_of_getElem? (i := 2) rfl)) (by decide) (by decide)) (g := (mkF m 5 #[iv p1, iv p2, iv (0 : Int32), .unset, .unset] [(.int (0 : Int32))])) rfl (by rw [hml]; rfl) (argsL := [(.int (0 : Int32))]) (rest := []) (lenOf pd_1 rfl) rfl (by show 2 * 0 + _ ≤ _; exact Nat.le_of_eq rfl) (hb hby at_5) (fun _ _ => ⟨rfl, e0, (by decide : 0 + 0 ≤ _), (by decide : 0 + 0 ≤ _)⟩)
    dsimp only [Pt.U, Pt.locs, Pt.cells, Pt.slots] at X5 l5 y5 z5 st5 hQ5
    subst l5 y5 z5
    obtain ⟨rfl, Nq5, e5⟩ := hQ5
    have N5 := Fr.app N0 Nq5
    have k6 : Way p e below S0 T5 (mkF m 8 #[iv p1, iv p2, iv (0 : Int32), .unset, .unset] [(.ref w_POOL)]) := fun t k => k4 t (st5 _ k)
    have k7 : Way p e below S0 T5 (mkF m 11 #[iv p1, iv p2, iv (0 : Int32), rv w_POOL, .unset] [(.int p2), (.ref w_POOL)]) := by
      intro t k
      refine k6 t ?_
      refine XS.astoreN X5.here hx rfl (hb hby at_8) rfl rfl (l' := #[iv p1, iv p2, iv (0 : Int32), rv w_POOL, .unset]) rfl ?_
      show Steps p.tables e below (T5.setTop (mkF m 9 #[iv p1, iv p2, iv (0 : Int32), rv w_POOL, .unset] [])) _
      refine XS.aloadN X5.here hx rfl (hb hby at_9) rfl rfl ?_
      show Steps p.tables e below (T5.setTop (mkF m 10 #[iv p1, iv p2, iv (0 : Int32), rv w_POOL, .unset] [(.ref w_POOL)])) _
      refine XS.iloadN X5.here hx rfl (hb hby at_10) rfl ?_
      show Steps p.tables e below (T5.setTop (mkF m 11 #[iv p1, iv p2, iv (0 : Int32), rv w_POOL, .unset] [(.int p2), (.ref w_POOL)])) _
      exact k
    obtain ⟨cq8, kq8, qq8a, qq8b, qq8c⟩ := isOf hZ e5 (E_w_POOL.ext O0.2)
    obtain ⟨_, _, ⟨T8, L8, kk8, nn8⟩, -, X8, ⟨Lc8, hQ8, l8, y8, z8⟩, st8⟩ := X5.virtualBack hx (y := (⟨"com/example/rulework/bench/Burst", "ruleCount", "(I)I"⟩ : MethodName)) (z := (⟨"com/example/rulework/bench/Burst", "ruleCount", "(I)I"⟩ : MethodName)) hown (mvT hZ (hw _ (List.mem_of_getElem? (i := 7) rfl))) (mvT hZ (hw _ (List.mem_of_getElem? (i := 8) rfl))) (notFace_of_selects (args := #[]) (mvT hZ (hw _ (List.mem_of_getElem? (i := 10) rfl)))) (mvT hZ (hw _ (List.mem_of_getElem? (i := 10) rfl))) (mvT hZ (hw _ (List.mem_of_getElem? (i := 9) rfl))) (by decide) (backOf (W := 0) (rc0 l Z a0 hw [] w_POOL w_NO_RULE w_ONE_RULE w_MANY_RULES G p2 h0 n0 O0 ) hZ (hw _ (List.mem_of_getElem? (i := 11) rfl)) (hw _ (List.mem_of_getElem? (i := 5) rfl)) (by decide) (by decide)) qq8a qq8c (g := (mkF m 11 #[iv p1, iv p2, iv (0 : Int32), rv w_POOL, .unset] [(.int p2), (.ref w_POOL)])) rfl (by rw [hml]; rfl) (Steps.refl _) (argsL := [(.int p2)]) (rest := []) (lenOf pd_2 rfl) rfl (by show 2 * 0 + _ ≤ _; exact Nat.le_of_eq rfl) (hb hby at_11) (fun _ _ => ⟨rfl, e5, (by decide : 0 + 0 ≤ _), (by decide : 0 + 0 ≤ _)⟩)
    dsimp only [Pt.U, Pt.locs, Pt.cells, Pt.slots] at X8 l8 y8 z8 st8 hQ8
    subst l8 y8 z8
    obtain ⟨rfl, Nq8, e8⟩ := hQ8
    have N8 := Fr.app N5 Nq8
    have k9 : Way p e below S0 T8 (mkF m 14 #[iv p1, iv p2, iv (0 : Int32), rv w_POOL, .unset] [(.int (0 : Int32))]) := fun t k => k7 t (st8.trans k)
    have k10 : Way p e below S0 T8 (mkF m 20 #[iv p1, iv p2, iv (0 : Int32), rv w_POOL, iv (0 : Int32)] [(.int p2), (.int (0 : Int32)), (.int (0 : Int32))]) := by
      intro t k
      refine k9 t ?_
      refine XS.istore X8.here hx rfl (hb hby at_14) rfl (l' := #[iv p1, iv p2, iv (0 : Int32), rv w_POOL, iv (0 : Int32)]) rfl ?_
      show Steps p.tables e below (T8.setTop (mkF m 16 #[iv p1, iv p2, iv (0 : Int32), rv w_POOL, iv (0 : Int32)] [])) _
      refine XS.iload X8.here hx rfl (hb hby at_16) rfl ?_
      show Steps p.tables e below (T8.setTop (mkF m 18 #[iv p1, iv p2, iv (0 : Int32), rv w_POOL, iv (0 : Int32)] [(.int (0 : Int32))])) _
      refine XS.iloadN X8.here hx rfl (hb hby at_18) rfl ?_
      show Steps p.tables e below (T8.setTop (mkF m 19 #[iv p1, iv p2, iv (0 : Int32), rv w_POOL, iv (0 : Int32)] [(.int (0 : Int32)), (.int (0 : Int32))])) _
      refine XS.iloadN X8.here hx rfl (hb hby at_19) rfl ?_
      show Steps p.tables e below (T8.setTop (mkF m 20 #[iv p1, iv p2, iv (0 : Int32), rv w_POOL, iv (0 : Int32)] [(.int p2), (.int (0 : Int32)), (.int (0 : Int32))])) _
      exact k
    obtain ⟨_, _, ⟨T11, L11, kk11, nn11⟩, -, X11, ⟨Lc11, hQ11, l11, y11, z11⟩, st11⟩ := Jvm.LawKit.callS X8 hx (y := (⟨"com/example/rulework/bench/BurstRuleCountPinLaw", "expected", "(II)I"⟩ : MethodName)) hown (mvT hZ (hw _ (List.mem_of_getElem? (i := 21) rfl))) (mvT hZ (hw _ (List.mem_of_getElem? (i := 22) rfl))) (mvT hZ (hw _ (List.mem_of_getElem? (i := 2) rfl))) (mvT hZ (hw _ (List.mem_of_getElem? (i := 23) rfl))) (by decide) (backOf (W := 1) (ex0 l Z a0 hw [] w_POOL w_NO_RULE w_ONE_RULE w_MANY_RULES G p2 h0 n0 O0 ) hZ (hw _ (List.mem_of_getElem? (i := 23) rfl)) (hw _ (List.mem_of_getElem? (i := 2) rfl)) (by decide) (by decide)) (g := (mkF m 20 #[iv p1, iv p2, iv (0 : Int32), rv w_POOL, iv (0 : Int32)] [(.int p2), (.int (0 : Int32)), (.int (0 : Int32))])) rfl (by rw [hml]; rfl) (argsL := [(.int (0 : Int32)), (.int p2)]) (rest := [(.int (0 : Int32))]) (lenOf pd_3 rfl) rfl (by show 2 * 0 + _ ≤ _; exact Nat.le_of_eq rfl) (hb hby at_20) (fun _ _ => ⟨rfl, e8, (by decide : 0 + 0 ≤ _), (by decide : 0 + 0 ≤ _)⟩)
    dsimp only [Pt.U, Pt.locs, Pt.cells, Pt.slots] at X11 l11 y11 z11 st11 hQ11
    subst l11 y11 z11
    obtain ⟨rfl, Nq11, e11⟩ := hQ11
    have N11 := Fr.app N8 Nq11
    have k12 : Way p e below S0 T11 (mkF m 23 #[iv p1, iv p2, iv (0 : Int32), rv w_POOL, iv (0 : Int32)] [(.int (0 : Int32)), (.int (0 : Int32))]) := fun t k => k10 t (st11 _ k)
    have k13 : Way p e below S0 T11 (mkF m 31 #[iv p1, iv p2, iv (0 : Int32), rv w_POOL, iv (0 : Int32)] [(.int (1 : Int32))]) := by
      intro t k
      refine k12 t ?_
      refine XS.icmpNo X11.here hx rfl (hb hby at_23) rfl (teq ((by decide) : (0 : Int32) = (0 : Int32))).2 ?_
      show Steps p.tables e below (T11.setTop (mkF m 26 #[iv p1, iv p2, iv (0 : Int32), rv w_POOL, iv (0 : Int32)] [])) _
      refine XS.iconst X11.here hx rfl (hb hby at_26) ?_
      show Steps p.tables e below (T11.setTop (mkF m 27 #[iv p1, iv p2, iv (0 : Int32), rv w_POOL, iv (0 : Int32)] [(.int (1 : Int32))])) _
      refine XS.goto X11.here hx rfl (pc0 := 27) (pc' := 31) rfl (hb hby at_27) (by decide) (by decide) ?_
      show Steps p.tables e below (T11.setTop (mkF m 31 #[iv p1, iv p2, iv (0 : Int32), rv w_POOL, iv (0 : Int32)] [(.int (1 : Int32))])) _
      exact k
    obtain ⟨fs, hr, hrun, hended, hW, hsame⟩ := X11.leave (v := some (.int (1 : Int32))) (fun h => by rw [Bd.returns] at h; cases h)
    refine ⟨_, _, k13 _ (retN X11 hx (t := .boolean) Bd.returns (by simp) (hb hby at_31) hr), hrun, hended, _, _, rfl, ?_, ⟨_, rfl⟩, hW, hsame.mono (by decide) (by decide)⟩
    show Q_law_met Z w_POOL w_NO_RULE w_ONE_RULE w_MANY_RULES p1 p2 h0 n0 _ T11.heap _
    rw [e11]
    exact ⟨rfl, N11⟩
  · have k14 : Way p e below S0 s₁ (mkF m 4 #[iv p1, iv p2, iv (1 : Int32), .unset, .unset] []) := by have q := k1; rw [hi2] at q; exact q
    have k15 : Way p e below S0 s₁ (mkF m 5 #[iv p1, iv p2, iv (1 : Int32), .unset, .unset] [(.int (1 : Int32))]) := by
      intro t k
      refine k14 t ?_
      refine XS.iloadN X0.here hx rfl (hb hby at_4) rfl ?_
      show Steps p.tables e below (s₁.setTop (mkF m 5 #[iv p1, iv p2, iv (1 : Int32), .unset, .unset] [(.int (1 : Int32))])) _
      exact k
    obtain ⟨_, _, ⟨T16, L16, kk16, nn16⟩, -, X16, ⟨Lc16, hQ16, l16, y16, z16⟩, st16⟩ := Jvm.LawKit.callS X0 hx (y := (⟨"com/example/rulework/bench/BurstRuleCountPinLaw", "pick", "(I)Lcom/example/rulework/bench/Burst;"⟩ : MethodName)) hown (mvT hZ (hw _ (List.mem_of_getElem? (i := 0) rfl))) (mvT hZ (hw _ (List.mem_of_getElem? (i := 1) rfl))) (mvT hZ (hw _ (List.mem_of_getElem? (i := 2) rfl))) (mvT hZ (hw _ (List.mem_of_getElem? (i := 3) rfl))) (by decide) (backOf (W := 0) (pick1 l Z a0 hw [] w_POOL w_NO_RULE w_ONE_RULE w_MANY_RULES G  h0 n0 O0 ) hZ (hw _ (List.mem_of_getElem? (i := 3) rfl)) (hw _ (List.mem_of_getElem? (i := 2) rfl)) (by decide) (by decide)) (g := (mkF m 5 #[iv p1, iv p2, iv (1 : Int32), .unset, .unset] [(.int (1 : Int32))])) rfl (by rw [hml]; rfl) (argsL := [(.int (1 : Int32))]) (rest := []) (lenOf pd_1 rfl) rfl (by show 2 * 0 + _ ≤ _; exact Nat.le_of_eq rfl) (hb hby at_5) (fun _ _ => ⟨rfl, e0, (by decide : 0 + 0 ≤ _), (by decide : 0 + 0 ≤ _)⟩)
    dsimp only [Pt.U, Pt.locs, Pt.cells, Pt.slots] at X16 l16 y16 z16 st16 hQ16
    subst l16 y16 z16
    obtain ⟨rfl, Nq16, e16⟩ := hQ16
    have N16 := Fr.app N0 Nq16
    have k17 : Way p e below S0 T16 (mkF m 8 #[iv p1, iv p2, iv (1 : Int32), .unset, .unset] [(.ref w_NO_RULE)]) := fun t k => k15 t (st16 _ k)
    have k18 : Way p e below S0 T16 (mkF m 11 #[iv p1, iv p2, iv (1 : Int32), rv w_NO_RULE, .unset] [(.int p2), (.ref w_NO_RULE)]) := by
      intro t k
      refine k17 t ?_
      refine XS.astoreN X16.here hx rfl (hb hby at_8) rfl rfl (l' := #[iv p1, iv p2, iv (1 : Int32), rv w_NO_RULE, .unset]) rfl ?_
      show Steps p.tables e below (T16.setTop (mkF m 9 #[iv p1, iv p2, iv (1 : Int32), rv w_NO_RULE, .unset] [])) _
      refine XS.aloadN X16.here hx rfl (hb hby at_9) rfl rfl ?_
      show Steps p.tables e below (T16.setTop (mkF m 10 #[iv p1, iv p2, iv (1 : Int32), rv w_NO_RULE, .unset] [(.ref w_NO_RULE)])) _
      refine XS.iloadN X16.here hx rfl (hb hby at_10) rfl ?_
      show Steps p.tables e below (T16.setTop (mkF m 11 #[iv p1, iv p2, iv (1 : Int32), rv w_NO_RULE, .unset] [(.int p2), (.ref w_NO_RULE)])) _
      exact k
    obtain ⟨cq19, kq19, qq19a, qq19b, qq19c⟩ := isOf hZ e16 (E_w_NO_RULE.ext O0.2)
    obtain ⟨_, _, ⟨T19, L19, kk19, nn19⟩, -, X19, ⟨Lc19, hQ19, l19, y19, z19⟩, st19⟩ := X16.virtualBack hx (y := (⟨"com/example/rulework/bench/Burst", "ruleCount", "(I)I"⟩ : MethodName)) (z := (⟨"com/example/rulework/bench/Burst", "ruleCount", "(I)I"⟩ : MethodName)) hown (mvT hZ (hw _ (List.mem_of_getElem? (i := 7) rfl))) (mvT hZ (hw _ (List.mem_of_getElem? (i := 8) rfl))) (notFace_of_selects (args := #[]) (mvT hZ (hw _ (List.mem_of_getElem? (i := 10) rfl)))) (mvT hZ (hw _ (List.mem_of_getElem? (i := 10) rfl))) (mvT hZ (hw _ (List.mem_of_getElem? (i := 9) rfl))) (by decide) (backOf (W := 0) (rc1 l Z a0 hw [] w_POOL w_NO_RULE w_ONE_RULE w_MANY_RULES G p2 h0 n0 O0 ) hZ (hw _ (List.mem_of_getElem? (i := 11) rfl)) (hw _ (List.mem_of_getElem? (i := 5) rfl)) (by decide) (by decide)) qq19a qq19c (g := (mkF m 11 #[iv p1, iv p2, iv (1 : Int32), rv w_NO_RULE, .unset] [(.int p2), (.ref w_NO_RULE)])) rfl (by rw [hml]; rfl) (Steps.refl _) (argsL := [(.int p2)]) (rest := []) (lenOf pd_2 rfl) rfl (by show 2 * 0 + _ ≤ _; exact Nat.le_of_eq rfl) (hb hby at_11) (fun _ _ => ⟨rfl, e16, (by decide : 0 + 0 ≤ _), (by decide : 0 + 0 ≤ _)⟩)
    dsimp only [Pt.U, Pt.locs, Pt.cells, Pt.slots] at X19 l19 y19 z19 st19 hQ19
    subst l19 y19 z19
    obtain ⟨rfl, Nq19, e19⟩ := hQ19
    have N19 := Fr.app N16 Nq19
    have k20 : Way p e below S0 T19 (mkF m 14 #[iv p1, iv p2, iv (1 : Int32), rv w_NO_RULE, .unset] [(.int (0 : Int32))]) := fun t k => k18 t (st19.trans k)
    have k21 : Way p e below S0 T19 (mkF m 20 #[iv p1, iv p2, iv (1 : Int32), rv w_NO_RULE, iv (0 : Int32)] [(.int p2), (.int (1 : Int32)), (.int (0 : Int32))]) := by
      intro t k
      refine k20 t ?_
      refine XS.istore X19.here hx rfl (hb hby at_14) rfl (l' := #[iv p1, iv p2, iv (1 : Int32), rv w_NO_RULE, iv (0 : Int32)]) rfl ?_
      show Steps p.tables e below (T19.setTop (mkF m 16 #[iv p1, iv p2, iv (1 : Int32), rv w_NO_RULE, iv (0 : Int32)] [])) _
      refine XS.iload X19.here hx rfl (hb hby at_16) rfl ?_
      show Steps p.tables e below (T19.setTop (mkF m 18 #[iv p1, iv p2, iv (1 : Int32), rv w_NO_RULE, iv (0 : Int32)] [(.int (0 : Int32))])) _
      refine XS.iloadN X19.here hx rfl (hb hby at_18) rfl ?_
      show Steps p.tables e below (T19.setTop (mkF m 19 #[iv p1, iv p2, iv (1 : Int32), rv w_NO_RULE, iv (0 : Int32)] [(.int (1 : Int32)), (.int (0 : Int32))])) _
      refine XS.iloadN X19.here hx rfl (hb hby at_19) rfl ?_
      show Steps p.tables e below (T19.setTop (mkF m 20 #[iv p1, iv p2, iv (1 : Int32), rv w_NO_RULE, iv (0 : Int32)] [(.int p2), (.int (1 : Int32)), (.int (0 : Int32))])) _
      exact k
    obtain ⟨_, _, ⟨T22, L22, kk22, nn22⟩, -, X22, ⟨Lc22, hQ22, l22, y22, z22⟩, st22⟩ := Jvm.LawKit.callS X19 hx (y := (⟨"com/example/rulework/bench/BurstRuleCountPinLaw", "expected", "(II)I"⟩ : MethodName)) hown (mvT hZ (hw _ (List.mem_of_getElem? (i := 21) rfl))) (mvT hZ (hw _ (List.mem_of_getElem? (i := 22) rfl))) (mvT hZ (hw _ (List.mem_of_getElem? (i := 2) rfl))) (mvT hZ (hw _ (List.mem_of_getElem? (i := 23) rfl))) (by decide) (backOf (W := 1) (ex1 l Z a0 hw [] w_POOL w_NO_RULE w_ONE_RULE w_MANY_RULES G p2 h0 n0 O0 ) hZ (hw _ (List.mem_of_getElem? (i := 23) rfl)) (hw _ (List.mem_of_getElem? (i := 2) rfl)) (by decide) (by decide)) (g := (mkF m 20 #[iv p1, iv p2, iv (1 : Int32), rv w_NO_RULE, iv (0 : Int32)] [(.int p2), (.int (1 : Int32)), (.int (0 : Int32))])) rfl (by rw [hml]; rfl) (argsL := [(.int (1 : Int32)), (.int p2)]) (rest := [(.int (0 : Int32))]) (lenOf pd_3 rfl) rfl (by show 2 * 0 + _ ≤ _; exact Nat.le_of_eq rfl) (hb hby at_20) (fun _ _ => ⟨rfl, e19, (by decide : 0 + 0 ≤ _), (by decide : 0 + 0 ≤ _)⟩)
    dsimp only [Pt.U, Pt.locs, Pt.cells, Pt.slots] at X22 l22 y22 z22 st22 hQ22
    subst l22 y22 z22
    obtain ⟨rfl, Nq22, e22⟩ := hQ22
    have N22 := Fr.app N19 Nq22
    have k23 : Way p e below S0 T22 (mkF m 23 #[iv p1, iv p2, iv (1 : Int32), rv w_NO_RULE, iv (0 : Int32)] [(.int (0 : Int32)), (.int (0 : Int32))]) := fun t k => k21 t (st22 _ k)
    have k24 : Way p e below S0 T22 (mkF m 31 #[iv p1, iv p2, iv (1 : Int32), rv w_NO_RULE, iv (0 : Int32)] [(.int (1 : Int32))]) := by
      intro t k
      refine k23 t ?_
      refine XS.icmpNo X22.here hx rfl (hb hby at_23) rfl (teq ((by decide) : (0 : Int32) = (0 : Int32))).2 ?_
      show Steps p.tables e below (T22.setTop (mkF m 26 #[iv p1, iv p2, iv (1 : Int32), rv w_NO_RULE, iv (0 : Int32)] [])) _
      refine XS.iconst X22.here hx rfl (hb hby at_26) ?_
      show Steps p.tables e below (T22.setTop (mkF m 27 #[iv p1, iv p2, iv (1 : Int32), rv w_NO_RULE, iv (0 : Int32)] [(.int (1 : Int32))])) _
      refine XS.goto X22.here hx rfl (pc0 := 27) (pc' := 31) rfl (hb hby at_27) (by decide) (by decide) ?_
      show Steps p.tables e below (T22.setTop (mkF m 31 #[iv p1, iv p2, iv (1 : Int32), rv w_NO_RULE, iv (0 : Int32)] [(.int (1 : Int32))])) _
      exact k
    obtain ⟨fs, hr, hrun, hended, hW, hsame⟩ := X22.leave (v := some (.int (1 : Int32))) (fun h => by rw [Bd.returns] at h; cases h)
    refine ⟨_, _, k24 _ (retN X22 hx (t := .boolean) Bd.returns (by simp) (hb hby at_31) hr), hrun, hended, _, _, rfl, ?_, ⟨_, rfl⟩, hW, hsame.mono (by decide) (by decide)⟩
    show Q_law_met Z w_POOL w_NO_RULE w_ONE_RULE w_MANY_RULES p1 p2 h0 n0 _ T22.heap _
    rw [e22]
    exact ⟨rfl, N22⟩
  · have k25 : Way p e below S0 s₁ (mkF m 4 #[iv p1, iv p2, iv (2 : Int32), .unset, .unset] []) := by have q := k1; rw [hi2] at q; exact q
    have k26 : Way p e below S0 s₁ (mkF m 5 #[iv p1, iv p2, iv (2 : Int32), .unset, .unset] [(.int (2 : Int32))]) := by
      intro t k
      refine k25 t ?_
      refine XS.iloadN X0.here hx rfl (hb hby at_4) rfl ?_
      show Steps p.tables e below (s₁.setTop (mkF m 5 #[iv p1, iv p2, iv (2 : Int32), .unset, .unset] [(.int (2 : Int32))])) _
      exact k
    obtain ⟨_, _, ⟨T27, L27, kk27, nn27⟩, -, X27, ⟨Lc27, hQ27, l27, y27, z27⟩, st27⟩ := Jvm.LawKit.callS X0 hx (y := (⟨"com/example/rulework/bench/BurstRuleCountPinLaw", "pick", "(I)Lcom/example/rulework/bench/Burst;"⟩ : MethodName)) hown (mvT hZ (hw _ (List.mem_of_getElem? (i := 0) rfl))) (mvT hZ (hw _ (List.mem_of_getElem? (i := 1) rfl))) (mvT hZ (hw _ (List.mem_of_getElem? (i := 2) rfl))) (mvT hZ (hw _ (List.mem_of_getElem? (i := 3) rfl))) (by decide) (backOf (W := 0) (pick2 l Z a0 hw [] w_POOL w_NO_RULE w_ONE_RULE w_MANY_RULES G  h0 n0 O0 ) hZ (hw _ (List.mem_of_getElem? (i := 3) rfl)) (hw _ (List.mem_of_getElem? (i := 2) rfl)) (by decide) (by decide)) (g := (mkF m 5 #[iv p1, iv p2, iv (2 : Int32), .unset, .unset] [(.int (2 : Int32))])) rfl (by rw [hml]; rfl) (argsL := [(.int (2 : Int32))]) (rest := []) (lenOf pd_1 rfl) rfl (by show 2 * 0 + _ ≤ _; exact Nat.le_of_eq rfl) (hb hby at_5) (fun _ _ => ⟨rfl, e0, (by decide : 0 + 0 ≤ _), (by decide : 0 + 0 ≤ _)⟩)
    dsimp only [Pt.U, Pt.locs, Pt.cells, Pt.slots] at X27 l27 y27 z27 st27 hQ27
    subst l27 y27 z27
    obtain ⟨rfl, Nq27, e27⟩ := hQ27
    have N27 := Fr.app N0 Nq27
    have k28 : Way p e below S0 T27 (mkF m 8 #[iv p1, iv p2, iv (2 : Int32), .unset, .unset] [(.ref w_ONE_RULE)]) := fun t k => k26 t (st27 _ k)
    have k29 : Way p e below S0 T27 (mkF m 11 #[iv p1, iv p2, iv (2 : Int32), rv w_ONE_RULE, .unset] [(.int p2), (.ref w_ONE_RULE)]) := by
      intro t k
      refine k28 t ?_
      refine XS.astoreN X27.here hx rfl (hb hby at_8) rfl rfl (l' := #[iv p1, iv p2, iv (2 : Int32), rv w_ONE_RULE, .unset]) rfl ?_
      show Steps p.tables e below (T27.setTop (mkF m 9 #[iv p1, iv p2, iv (2 : Int32), rv w_ONE_RULE, .unset] [])) _
      refine XS.aloadN X27.here hx rfl (hb hby at_9) rfl rfl ?_
      show Steps p.tables e below (T27.setTop (mkF m 10 #[iv p1, iv p2, iv (2 : Int32), rv w_ONE_RULE, .unset] [(.ref w_ONE_RULE)])) _
      refine XS.iloadN X27.here hx rfl (hb hby at_10) rfl ?_
      show Steps p.tables e below (T27.setTop (mkF m 11 #[iv p1, iv p2, iv (2 : Int32), rv w_ONE_RULE, .unset] [(.int p2), (.ref w_ONE_RULE)])) _
      exact k
    obtain ⟨cq30, kq30, qq30a, qq30b, qq30c⟩ := isOf hZ e27 (E_w_ONE_RULE.ext O0.2)
    obtain ⟨_, _, ⟨T30, L30, kk30, nn30⟩, -, X30, ⟨Lc30, hQ30, l30, y30, z30⟩, st30⟩ := X27.virtualBack hx (y := (⟨"com/example/rulework/bench/Burst", "ruleCount", "(I)I"⟩ : MethodName)) (z := (⟨"com/example/rulework/bench/Burst", "ruleCount", "(I)I"⟩ : MethodName)) hown (mvT hZ (hw _ (List.mem_of_getElem? (i := 7) rfl))) (mvT hZ (hw _ (List.mem_of_getElem? (i := 8) rfl))) (notFace_of_selects (args := #[]) (mvT hZ (hw _ (List.mem_of_getElem? (i := 10) rfl)))) (mvT hZ (hw _ (List.mem_of_getElem? (i := 10) rfl))) (mvT hZ (hw _ (List.mem_of_getElem? (i := 9) rfl))) (by decide) (backOf (W := 0) (rc2 l Z a0 hw [] w_POOL w_NO_RULE w_ONE_RULE w_MANY_RULES G p2 h0 n0 O0 ) hZ (hw _ (List.mem_of_getElem? (i := 11) rfl)) (hw _ (List.mem_of_getElem? (i := 5) rfl)) (by decide) (by decide)) qq30a qq30c (g := (mkF m 11 #[iv p1, iv p2, iv (2 : Int32), rv w_ONE_RULE, .unset] [(.int p2), (.ref w_ONE_RULE)])) rfl (by rw [hml]; rfl) (Steps.refl _) (argsL := [(.int p2)]) (rest := []) (lenOf pd_2 rfl) rfl (by show 2 * 0 + _ ≤ _; exact Nat.le_of_eq rfl) (hb hby at_11) (fun _ _ => ⟨rfl, e27, (by decide : 0 + 0 ≤ _), (by decide : 0 + 0 ≤ _)⟩)
    dsimp only [Pt.U, Pt.locs, Pt.cells, Pt.slots] at X30 l30 y30 z30 st30 hQ30
    subst l30 y30 z30
    obtain ⟨rfl, Nq30, e30⟩ := hQ30
    have N30 := Fr.app N27 Nq30
    have k31 : Way p e below S0 T30 (mkF m 14 #[iv p1, iv p2, iv (2 : Int32), rv w_ONE_RULE, .unset] [(.int (1 : Int32))]) := fun t k => k29 t (st30.trans k)
    have k32 : Way p e below S0 T30 (mkF m 20 #[iv p1, iv p2, iv (2 : Int32), rv w_ONE_RULE, iv (1 : Int32)] [(.int p2), (.int (2 : Int32)), (.int (1 : Int32))]) := by
      intro t k
      refine k31 t ?_
      refine XS.istore X30.here hx rfl (hb hby at_14) rfl (l' := #[iv p1, iv p2, iv (2 : Int32), rv w_ONE_RULE, iv (1 : Int32)]) rfl ?_
      show Steps p.tables e below (T30.setTop (mkF m 16 #[iv p1, iv p2, iv (2 : Int32), rv w_ONE_RULE, iv (1 : Int32)] [])) _
      refine XS.iload X30.here hx rfl (hb hby at_16) rfl ?_
      show Steps p.tables e below (T30.setTop (mkF m 18 #[iv p1, iv p2, iv (2 : Int32), rv w_ONE_RULE, iv (1 : Int32)] [(.int (1 : Int32))])) _
      refine XS.iloadN X30.here hx rfl (hb hby at_18) rfl ?_
      show Steps p.tables e below (T30.setTop (mkF m 19 #[iv p1, iv p2, iv (2 : Int32), rv w_ONE_RULE, iv (1 : Int32)] [(.int (2 : Int32)), (.int (1 : Int32))])) _
      refine XS.iloadN X30.here hx rfl (hb hby at_19) rfl ?_
      show Steps p.tables e below (T30.setTop (mkF m 20 #[iv p1, iv p2, iv (2 : Int32), rv w_ONE_RULE, iv (1 : Int32)] [(.int p2), (.int (2 : Int32)), (.int (1 : Int32))])) _
      exact k
    obtain ⟨_, _, ⟨T33, L33, kk33, nn33⟩, -, X33, ⟨Lc33, hQ33, l33, y33, z33⟩, st33⟩ := Jvm.LawKit.callS X30 hx (y := (⟨"com/example/rulework/bench/BurstRuleCountPinLaw", "expected", "(II)I"⟩ : MethodName)) hown (mvT hZ (hw _ (List.mem_of_getElem? (i := 21) rfl))) (mvT hZ (hw _ (List.mem_of_getElem? (i := 22) rfl))) (mvT hZ (hw _ (List.mem_of_getElem? (i := 2) rfl))) (mvT hZ (hw _ (List.mem_of_getElem? (i := 23) rfl))) (by decide) (backOf (W := 1) (ex2 l Z a0 hw [] w_POOL w_NO_RULE w_ONE_RULE w_MANY_RULES G p2 h0 n0 O0 ) hZ (hw _ (List.mem_of_getElem? (i := 23) rfl)) (hw _ (List.mem_of_getElem? (i := 2) rfl)) (by decide) (by decide)) (g := (mkF m 20 #[iv p1, iv p2, iv (2 : Int32), rv w_ONE_RULE, iv (1 : Int32)] [(.int p2), (.int (2 : Int32)), (.int (1 : Int32))])) rfl (by rw [hml]; rfl) (argsL := [(.int (2 : Int32)), (.int p2)]) (rest := [(.int (1 : Int32))]) (lenOf pd_3 rfl) rfl (by show 2 * 0 + _ ≤ _; exact Nat.le_of_eq rfl) (hb hby at_20) (fun _ _ => ⟨rfl, e30, (by decide : 0 + 0 ≤ _), (by decide : 0 + 0 ≤ _)⟩)
    dsimp only [Pt.U, Pt.locs, Pt.cells, Pt.slots] at X33 l33 y33 z33 st33 hQ33
    subst l33 y33 z33
    obtain ⟨rfl, Nq33, e33⟩ := hQ33
    have N33 := Fr.app N30 Nq33
    have k34 : Way p e below S0 T33 (mkF m 23 #[iv p1, iv p2, iv (2 : Int32), rv w_ONE_RULE, iv (1 : Int32)] [(.int (1 : Int32)), (.int (1 : Int32))]) := fun t k => k32 t (st33 _ k)
    have k35 : Way p e below S0 T33 (mkF m 31 #[iv p1, iv p2, iv (2 : Int32), rv w_ONE_RULE, iv (1 : Int32)] [(.int (1 : Int32))]) := by
      intro t k
      refine k34 t ?_
      refine XS.icmpNo X33.here hx rfl (hb hby at_23) rfl (teq ((by decide) : (1 : Int32) = (1 : Int32))).2 ?_
      show Steps p.tables e below (T33.setTop (mkF m 26 #[iv p1, iv p2, iv (2 : Int32), rv w_ONE_RULE, iv (1 : Int32)] [])) _
      refine XS.iconst X33.here hx rfl (hb hby at_26) ?_
      show Steps p.tables e below (T33.setTop (mkF m 27 #[iv p1, iv p2, iv (2 : Int32), rv w_ONE_RULE, iv (1 : Int32)] [(.int (1 : Int32))])) _
      refine XS.goto X33.here hx rfl (pc0 := 27) (pc' := 31) rfl (hb hby at_27) (by decide) (by decide) ?_
      show Steps p.tables e below (T33.setTop (mkF m 31 #[iv p1, iv p2, iv (2 : Int32), rv w_ONE_RULE, iv (1 : Int32)] [(.int (1 : Int32))])) _
      exact k
    obtain ⟨fs, hr, hrun, hended, hW, hsame⟩ := X33.leave (v := some (.int (1 : Int32))) (fun h => by rw [Bd.returns] at h; cases h)
    refine ⟨_, _, k35 _ (retN X33 hx (t := .boolean) Bd.returns (by simp) (hb hby at_31) hr), hrun, hended, _, _, rfl, ?_, ⟨_, rfl⟩, hW, hsame.mono (by decide) (by decide)⟩
    show Q_law_met Z w_POOL w_NO_RULE w_ONE_RULE w_MANY_RULES p1 p2 h0 n0 _ T33.heap _
    rw [e33]
    exact ⟨rfl, N33⟩
  · have k36 : Way p e below S0 s₁ (mkF m 4 #[iv p1, iv p2, iv (3 : Int32), .unset, .unset] []) := by have q := k1; rw [hi2] at q; exact q
    have k37 : Way p e below S0 s₁ (mkF m 5 #[iv p1, iv p2, iv (3 : Int32), .unset, .unset] [(.int (3 : Int32))]) := by
      intro t k
      refine k36 t ?_
      refine XS.iloadN X0.here hx rfl (hb hby at_4) rfl ?_
      show Steps p.tables e below (s₁.setTop (mkF m 5 #[iv p1, iv p2, iv (3 : Int32), .unset, .unset] [(.int (3 : Int32))])) _
      exact k
    obtain ⟨_, _, ⟨T38, L38, kk38, nn38⟩, -, X38, ⟨Lc38, hQ38, l38, y38, z38⟩, st38⟩ := Jvm.LawKit.callS X0 hx (y := (⟨"com/example/rulework/bench/BurstRuleCountPinLaw", "pick", "(I)Lcom/example/rulework/bench/Burst;"⟩ : MethodName)) hown (mvT hZ (hw _ (List.mem_of_getElem? (i := 0) rfl))) (mvT hZ (hw _ (List.mem_of_getElem? (i := 1) rfl))) (mvT hZ (hw _ (List.mem_of_getElem? (i := 2) rfl))) (mvT hZ (hw _ (List.mem_of_getElem? (i := 3) rfl))) (by decide) (backOf (W := 0) (pick3 l Z a0 hw [] w_POOL w_NO_RULE w_ONE_RULE w_MANY_RULES G  h0 n0 O0 ) hZ (hw _ (List.mem_of_getElem? (i := 3) rfl)) (hw _ (List.mem_of_getElem? (i := 2) rfl)) (by decide) (by decide)) (g := (mkF m 5 #[iv p1, iv p2, iv (3 : Int32), .unset, .unset] [(.int (3 : Int32))])) rfl (by rw [hml]; rfl) (argsL := [(.int (3 : Int32))]) (rest := []) (lenOf pd_1 rfl) rfl (by show 2 * 0 + _ ≤ _; exact Nat.le_of_eq rfl) (hb hby at_5) (fun _ _ => ⟨rfl, e0, (by decide : 0 + 0 ≤ _), (by decide : 0 + 0 ≤ _)⟩)
    dsimp only [Pt.U, Pt.locs, Pt.cells, Pt.slots] at X38 l38 y38 z38 st38 hQ38
    subst l38 y38 z38
    obtain ⟨rfl, Nq38, e38⟩ := hQ38
    have N38 := Fr.app N0 Nq38
    have k39 : Way p e below S0 T38 (mkF m 8 #[iv p1, iv p2, iv (3 : Int32), .unset, .unset] [(.ref w_MANY_RULES)]) := fun t k => k37 t (st38 _ k)
    have k40 : Way p e below S0 T38 (mkF m 11 #[iv p1, iv p2, iv (3 : Int32), rv w_MANY_RULES, .unset] [(.int p2), (.ref w_MANY_RULES)]) := by
      intro t k
      refine k39 t ?_
      refine XS.astoreN X38.here hx rfl (hb hby at_8) rfl rfl (l' := #[iv p1, iv p2, iv (3 : Int32), rv w_MANY_RULES, .unset]) rfl ?_
      show Steps p.tables e below (T38.setTop (mkF m 9 #[iv p1, iv p2, iv (3 : Int32), rv w_MANY_RULES, .unset] [])) _
      refine XS.aloadN X38.here hx rfl (hb hby at_9) rfl rfl ?_
      show Steps p.tables e below (T38.setTop (mkF m 10 #[iv p1, iv p2, iv (3 : Int32), rv w_MANY_RULES, .unset] [(.ref w_MANY_RULES)])) _
      refine XS.iloadN X38.here hx rfl (hb hby at_10) rfl ?_
      show Steps p.tables e below (T38.setTop (mkF m 11 #[iv p1, iv p2, iv (3 : Int32), rv w_MANY_RULES, .unset] [(.int p2), (.ref w_MANY_RULES)])) _
      exact k
    obtain ⟨cq41, kq41, qq41a, qq41b, qq41c⟩ := isOf hZ e38 (E_w_MANY_RULES.ext O0.2)
    obtain ⟨_, _, ⟨T41, L41, kk41, nn41⟩, -, X41, ⟨Lc41, hQ41, l41, y41, z41⟩, st41⟩ := X38.virtualBack hx (y := (⟨"com/example/rulework/bench/Burst", "ruleCount", "(I)I"⟩ : MethodName)) (z := (⟨"com/example/rulework/bench/Burst", "ruleCount", "(I)I"⟩ : MethodName)) hown (mvT hZ (hw _ (List.mem_of_getElem? (i := 7) rfl))) (mvT hZ (hw _ (List.mem_of_getElem? (i := 8) rfl))) (notFace_of_selects (args := #[]) (mvT hZ (hw _ (List.mem_of_getElem? (i := 10) rfl)))) (mvT hZ (hw _ (List.mem_of_getElem? (i := 10) rfl))) (mvT hZ (hw _ (List.mem_of_getElem? (i := 9) rfl))) (by decide) (backOf (W := 0) (rc3 l Z a0 hw [] w_POOL w_NO_RULE w_ONE_RULE w_MANY_RULES G p2 h0 n0 O0 ) hZ (hw _ (List.mem_of_getElem? (i := 11) rfl)) (hw _ (List.mem_of_getElem? (i := 5) rfl)) (by decide) (by decide)) qq41a qq41c (g := (mkF m 11 #[iv p1, iv p2, iv (3 : Int32), rv w_MANY_RULES, .unset] [(.int p2), (.ref w_MANY_RULES)])) rfl (by rw [hml]; rfl) (Steps.refl _) (argsL := [(.int p2)]) (rest := []) (lenOf pd_2 rfl) rfl (by show 2 * 0 + _ ≤ _; exact Nat.le_of_eq rfl) (hb hby at_11) (fun _ _ => ⟨rfl, e38, (by decide : 0 + 0 ≤ _), (by decide : 0 + 0 ≤ _)⟩)
    dsimp only [Pt.U, Pt.locs, Pt.cells, Pt.slots] at X41 l41 y41 z41 st41 hQ41
    subst l41 y41 z41
    obtain ⟨rfl, Nq41, e41⟩ := hQ41
    have N41 := Fr.app N38 Nq41
    have k42 : Way p e below S0 T41 (mkF m 14 #[iv p1, iv p2, iv (3 : Int32), rv w_MANY_RULES, .unset] [(.int p2)]) := fun t k => k40 t (st41.trans k)
    have k43 : Way p e below S0 T41 (mkF m 20 #[iv p1, iv p2, iv (3 : Int32), rv w_MANY_RULES, iv p2] [(.int p2), (.int (3 : Int32)), (.int p2)]) := by
      intro t k
      refine k42 t ?_
      refine XS.istore X41.here hx rfl (hb hby at_14) rfl (l' := #[iv p1, iv p2, iv (3 : Int32), rv w_MANY_RULES, iv p2]) rfl ?_
      show Steps p.tables e below (T41.setTop (mkF m 16 #[iv p1, iv p2, iv (3 : Int32), rv w_MANY_RULES, iv p2] [])) _
      refine XS.iload X41.here hx rfl (hb hby at_16) rfl ?_
      show Steps p.tables e below (T41.setTop (mkF m 18 #[iv p1, iv p2, iv (3 : Int32), rv w_MANY_RULES, iv p2] [(.int p2)])) _
      refine XS.iloadN X41.here hx rfl (hb hby at_18) rfl ?_
      show Steps p.tables e below (T41.setTop (mkF m 19 #[iv p1, iv p2, iv (3 : Int32), rv w_MANY_RULES, iv p2] [(.int (3 : Int32)), (.int p2)])) _
      refine XS.iloadN X41.here hx rfl (hb hby at_19) rfl ?_
      show Steps p.tables e below (T41.setTop (mkF m 20 #[iv p1, iv p2, iv (3 : Int32), rv w_MANY_RULES, iv p2] [(.int p2), (.int (3 : Int32)), (.int p2)])) _
      exact k
    obtain ⟨_, _, ⟨T44, L44, kk44, nn44⟩, -, X44, ⟨Lc44, hQ44, l44, y44, z44⟩, st44⟩ := Jvm.LawKit.callS X41 hx (y := (⟨"com/example/rulework/bench/BurstRuleCountPinLaw", "expected", "(II)I"⟩ : MethodName)) hown (mvT hZ (hw _ (List.mem_of_getElem? (i := 21) rfl))) (mvT hZ (hw _ (List.mem_of_getElem? (i := 22) rfl))) (mvT hZ (hw _ (List.mem_of_getElem? (i := 2) rfl))) (mvT hZ (hw _ (List.mem_of_getElem? (i := 23) rfl))) (by decide) (backOf (W := 1) (ex3 l Z a0 hw [] w_POOL w_NO_RULE w_ONE_RULE w_MANY_RULES G p2 h0 n0 O0 ) hZ (hw _ (List.mem_of_getElem? (i := 23) rfl)) (hw _ (List.mem_of_getElem? (i := 2) rfl)) (by decide) (by decide)) (g := (mkF m 20 #[iv p1, iv p2, iv (3 : Int32), rv w_MANY_RULES, iv p2] [(.int p2), (.int (3 : Int32)), (.int p2)])) rfl (by rw [hml]; rfl) (argsL := [(.int (3 : Int32)), (.int p2)]) (rest := [(.int p2)]) (lenOf pd_3 rfl) rfl (by show 2 * 0 + _ ≤ _; exact Nat.le_of_eq rfl) (hb hby at_20) (fun _ _ => ⟨rfl, e41, (by decide : 0 + 0 ≤ _), (by decide : 0 + 0 ≤ _)⟩)
    dsimp only [Pt.U, Pt.locs, Pt.cells, Pt.slots] at X44 l44 y44 z44 st44 hQ44
    subst l44 y44 z44
    obtain ⟨rfl, Nq44, e44⟩ := hQ44
    have N44 := Fr.app N41 Nq44
    have k45 : Way p e below S0 T44 (mkF m 23 #[iv p1, iv p2, iv (3 : Int32), rv w_MANY_RULES, iv p2] [(.int p2), (.int p2)]) := fun t k => k43 t (st44 _ k)
    have k46 : Way p e below S0 T44 (mkF m 31 #[iv p1, iv p2, iv (3 : Int32), rv w_MANY_RULES, iv p2] [(.int (1 : Int32))]) := by
      intro t k
      refine k45 t ?_
      refine XS.icmpNo X44.here hx rfl (hb hby at_23) rfl (teq (rfl : p2 = p2)).2 ?_
      show Steps p.tables e below (T44.setTop (mkF m 26 #[iv p1, iv p2, iv (3 : Int32), rv w_MANY_RULES, iv p2] [])) _
      refine XS.iconst X44.here hx rfl (hb hby at_26) ?_
      show Steps p.tables e below (T44.setTop (mkF m 27 #[iv p1, iv p2, iv (3 : Int32), rv w_MANY_RULES, iv p2] [(.int (1 : Int32))])) _
      refine XS.goto X44.here hx rfl (pc0 := 27) (pc' := 31) rfl (hb hby at_27) (by decide) (by decide) ?_
      show Steps p.tables e below (T44.setTop (mkF m 31 #[iv p1, iv p2, iv (3 : Int32), rv w_MANY_RULES, iv p2] [(.int (1 : Int32))])) _
      exact k
    obtain ⟨fs, hr, hrun, hended, hW, hsame⟩ := X44.leave (v := some (.int (1 : Int32))) (fun h => by rw [Bd.returns] at h; cases h)
    refine ⟨_, _, k46 _ (retN X44 hx (t := .boolean) Bd.returns (by simp) (hb hby at_31) hr), hrun, hended, _, _, rfl, ?_, ⟨_, rfl⟩, hW, hsame.mono (by decide) (by decide)⟩
    show Q_law_met Z w_POOL w_NO_RULE w_ONE_RULE w_MANY_RULES p1 p2 h0 n0 _ T44.heap _
    rw [e44]
    exact ⟨rfl, N44⟩
set_option maxRecDepth 65536 in
set_option maxHeartbeats 40000000 in
theorem comes_1 {Post : Tables → Env → Array Value → State → Outcome → State → Prop} (hpost : ∀ tb e args s v u, (limb_1_1.after args s (.returned v) u = true ∧ limb_1_2.after args s (.returned v) u = true ∧ True) → FrameEnd s (.returned v) u (Jvm.fieldLocs frame_1_writes args s ++ Jvm.arrayLocs frame_1_arrays args s ++ Jvm.staticLocs frame_1_statics s) 0 0 → Post tb e args s (.returned v) u) :
    ArmFor flags0 classFile x code maxLocals ret World_1 tables_1 room_1 Calls_1 rest_1 Pre_1 Post := by
  intro l hfl _ _ p e ha hc hk s m args below hf hA hF happ hP
  obtain ⟨hcalls, hrest, hpre⟩ := hP
  obtain ⟨-, -, -, hnamed, -, -, -, hat⟩ := (Spec.applies_iff hf).mp happ
  obtain ⟨hg, hn⟩ := and_e (Cond.before_iff.mp (show (Jvm.Cond.and given_1 narrow_1).before args s = true from hpre))
  obtain ⟨g1a, g1b⟩ := and_e hg
  obtain ⟨g2a, g2b⟩ := and_e g1b
  obtain ⟨g3a, g3b⟩ := and_e hn
  obtain ⟨g4a, g4b⟩ := and_e g3b
  obtain ⟨g5a, g5b⟩ := and_e g4b
  obtain ⟨g6a, g6b⟩ := and_e g5b
  obtain ⟨g7a, g7b⟩ := and_e g6b
  obtain ⟨g8a, g8b⟩ := and_e g7b
  obtain ⟨g9a, g9b⟩ := and_e g8b
  obtain ⟨w0, w1, rfl⟩ : ∃ w0 w1 : Value, args = #[w0, w1] := by
    have hs : args.size = 2 := by simpa [Cond.value, given_1] using g1a
    obtain ⟨L⟩ := args
    match L, hs with
    | [w0, w1], _ => exact ⟨w0, w1, rfl⟩
  have hw := fun d (hd : d ∈ tables_1) => atoms_spec (ws := Jvm.Cond.code x code maxLocals ret :: tables_1) hat d (List.mem_cons_of_mem _ hd)
  have hfit : Fit s := fun {y c} hc i hi => by
    obtain ⟨ha, rfl⟩ := Array.getElem?_eq_some_iff.mp hc
    have q := List.all_eq_true.mp ((Array.all_eq_true_iff_forall_mem.mp hF) _ (Array.getElem_mem ha)) i (List.mem_range.mpr hi)
    simpa [Array.getElem?_eq_getElem hi] using q
  obtain ⟨i0, ei0⟩ := is_v g2a
  obtain rfl : w0 = (.int i0) := Option.some.inj ei0
  obtain ⟨i1, ei1⟩ := is_v g2b
  obtain rfl : w1 = (.int i1) := Option.some.inj ei1
  obtain ⟨w_POOL, ev_w_POOL⟩ := exa_v g3a
  have S_w_POOL := Sta.start ev_w_POOL (Or.inr ⟨(hw _ (List.mem_of_getElem? (i := 5) rfl)), (hw _ (List.mem_of_getElem? (i := 6) rfl))⟩)
  have E_w_POOL := Exa.start ev_w_POOL g3a
  obtain ⟨w_ONE_RULE, ev_w_ONE_RULE⟩ := exa_v g5a
  have S_w_ONE_RULE := Sta.start ev_w_ONE_RULE (Or.inr ⟨(hw _ (List.mem_of_getElem? (i := 5) rfl)), (hw _ (List.mem_of_getElem? (i := 25) rfl))⟩)
  have E_w_ONE_RULE := Exa.start ev_w_ONE_RULE g5a
  obtain ⟨w_NO_RULE, ev_w_NO_RULE⟩ := exa_v g7a
  have S_w_NO_RULE := Sta.start ev_w_NO_RULE (Or.inr ⟨(hw _ (List.mem_of_getElem? (i := 5) rfl)), (hw _ (List.mem_of_getElem? (i := 27) rfl))⟩)
  have E_w_NO_RULE := Exa.start ev_w_NO_RULE g7a
  obtain ⟨w_MANY_RULES, ev_w_MANY_RULES⟩ := exa_v g9a
  have S_w_MANY_RULES := Sta.start ev_w_MANY_RULES (Or.inr ⟨(hw _ (List.mem_of_getElem? (i := 5) rfl)), (hw _ (List.mem_of_getElem? (i := 29) rfl))⟩)
  have E_w_MANY_RULES := Exa.start ev_w_MANY_RULES g9a
  have F_w_POOL_ordinal := Fld.start (own_eqF ev_w_POOL g4a)
  have F_w_ONE_RULE_ordinal := Fld.start (own_eqF ev_w_ONE_RULE g6a)
  have F_w_NO_RULE_ordinal := Fld.start (own_eqF ev_w_NO_RULE g8a)
  have F_w_MANY_RULES_ordinal := Fld.start (own_eqF ev_w_MANY_RULES g9b)
  have G : Gst s w_POOL w_NO_RULE w_ONE_RULE w_MANY_RULES := ⟨S_w_POOL, E_w_POOL, F_w_POOL_ordinal, S_w_NO_RULE, E_w_NO_RULE, F_w_NO_RULE_ordinal, S_w_ONE_RULE, E_w_ONE_RULE, F_w_ONE_RULE_ordinal, S_w_MANY_RULES, E_w_MANY_RULES, F_w_MANY_RULES_ordinal⟩
  obtain ⟨n, o, h1, h2, h3, _, L, rfl, ⟨rfl, N⟩, hq⟩ := law_met l s _ hw tables_1 w_POOL w_NO_RULE w_ONE_RULE w_MANY_RULES G i0 i1 s.heap s.heap.size (Old.start s)  p e ha hc hk s m _ below hf ((Spec.applies_iff_loose hf).mp happ).1 ⟨rfl, State.Warmed39.refl s, rfl⟩ trivial
  refine ⟨n, _, h1, h2, h3, hpost _ _ _ _ _ _ ⟨Cond.after_iff.mpr rfl, Cond.after_iff.mpr (eq_i res_at (Term.int_eval (1)) rfl), trivial⟩ ⟨hq.1, hq.2.1, (hq.2.2.sift fun y hy => Or.inr (N y hy)).mono (by decide) (by decide)⟩⟩
theorem main_1_1 : Claimed_1_1 := comes_1 fun _ _ _ _ _ _ h hF => ⟨h.1, hF⟩
theorem main_1_2 : Claimed_1_2 := comes_1 fun _ _ _ _ _ _ h hF => ⟨h.2.1, hF⟩
end Jvm.Pilot.@@N@@
namespace Jvm.Pilot.@@N@@
open Jvm Jvm.ClassFile Sem Op Lib Jvm.Free Jvm.Stand Jvm.Pilot.@@N@@.Jvm.D
/-! MADE BY PROGRAM (witnessworld.py) out of the Statement's table words and the real class files: 12 classes; the members and pool entries that the words name. The judged class is class 1, her method 3. -/
namespace start1
open Jvm.ClassFile
def u (s : String) : CpInfo := .utf8 (stringToUtf16 s)
/-- a pool by its gaps: so many unusable entries, then the entry; so many at the end -/
def gap : Nat → List CpInfo → List CpInfo
  | 0, r => r
  | n + 1, r => .unusable :: gap n r
def poolList (es : List (Nat × CpInfo)) (last : Nat) : List CpInfo := es.foldr (fun e r => gap e.1 (e.2 :: r)) (gap last [])
def pool (es : List (Nat × CpInfo)) (last : Nat) : Array CpInfo := ⟨poolList es last⟩
def fileOf (pool : Array CpInfo) (this : Nat) (attrs : Array Attribute := #[]) (ms : Array MethodInfo := #[]) (fl : Nat := 33) (sup : Nat := 0) (ifs : Array Nat := #[]) (fds : Array FieldInfo := #[]) : ClassFile where
  minorVersion := 0
  majorVersion := 65
  constantPool := pool
  accessFlags := fl
  thisClass := this
  superClass := sup
  interfaces := ifs
  fields := fds
  methods := ms
  attributes := attrs
def plain (name : String) (sup : Option ClassId) : Class where
  name := name
  kind := .ordinary
  loader := none
  accessFlags := 33
  super := sup
  interfaces := #[]
  cf := none
  fields := #[]
  methods := #[]
  instanceTypes := #[]
  staticTypes := #[]
  resolved := #[]
  callSites := []
  init := .initialized
  statics := none
  mirror := none

def pool0 : Array CpInfo := pool [(5, u "<init>"), (0, u "()V"), (1, .class_ 10), (1, u "java/lang/Object")] 113

def k0m0 : Method := { name := "<init>", desc := "()V", sig := { parameters := [], returnType := none }, accessFlags := 1, code := none }
/-- java/lang/Object -/
def k0 : Class := { plain "java/lang/Object" none with
  accessFlags := 33
  interfaces := #[]
  cf := some (fileOf pool0 8 #[] #[{ accessFlags := 1, nameIndex := 5, descriptorIndex := 6, attributes := #[] }] 33 0 #[] #[])
  fields := #[]
  methods := #[k0m0]
  instanceTypes := #[]
  staticTypes := #[]
  resolved := Array.replicate 124 none
  statics := none }

def pool1 : Array CpInfo := pool [(2, .class_ 4), (1, u "java/lang/Object"), (0, u "<init>"), (0, u "()V"), (0, .fieldref 8 9), (0, .class_ 10), (0, .nameAndType 11 12), (0, u "com/example/rulework/bench/Burst"), (0, u "POOL"), (0, u "Lcom/example/rulework/bench/Burst;"), (0, .fieldref 8 14), (0, .nameAndType 15 12), (0, u "NO_RULE"), (0, .fieldref 8 17), (0, .nameAndType 18 12), (0, u "ONE_RULE"), (0, .fieldref 8 20), (0, .nameAndType 21 12), (0, u "MANY_RULES"), (0, .methodref 23 24), (0, .class_ 25), (0, .nameAndType 26 27), (0, u "com/example/rulework/bench/BurstRuleCountPinLaw"), (0, u "pick"), (0, u "(I)Lcom/example/rulework/bench/Burst;"), (0, .methodref 8 29), (0, .nameAndType 30 31), (0, u "ruleCount"), (0, u "(I)I"), (0, .methodref 23 33), (0, .nameAndType 34 35), (0, u "expected"), (0, u "(II)I"), (3, u "law"), (0, u "(II)Z")] 2

def k1m0 : Method := { name := "<init>", desc := "()V", sig := { parameters := [], returnType := none }, accessFlags := 2, code := none }
def k1c1 : Code := { maxStack := 2, maxLocals := 1, code := method_2_code, exceptionTable := #[], attributes := #[] }
def k1m1 : Method := { name := "pick", desc := "(I)Lcom/example/rulework/bench/Burst;", sig := { parameters := [.int], returnType := some (.object "com/example/rulework/bench/Burst") }, accessFlags := 10, code := some k1c1 }
def k1c2 : Code := { maxStack := 2, maxLocals := 2, code := method_3_code, exceptionTable := #[], attributes := #[] }
def k1m2 : Method := { name := "expected", desc := "(II)I", sig := { parameters := [.int, .int], returnType := some .int }, accessFlags := 10, code := some k1c2 }
def k1c3 : Code := { maxStack := 3, maxLocals := 5, code := code, exceptionTable := #[], attributes := #[] }
def k1m3 : Method := { name := "law", desc := "(II)Z", sig := { parameters := [.int, .int], returnType := some .boolean }, accessFlags := 9, code := some k1c3 }
/-- com/example/rulework/bench/BurstRuleCountPinLaw -/
def k1 : Class := { plain "com/example/rulework/bench/BurstRuleCountPinLaw" (some 0) with
  accessFlags := 49
  interfaces := #[]
  cf := some (fileOf pool1 23 #[] #[{ accessFlags := 2, nameIndex := 5, descriptorIndex := 6, attributes := #[] }, { accessFlags := 10, nameIndex := 26, descriptorIndex := 27, attributes := #[] }, { accessFlags := 10, nameIndex := 34, descriptorIndex := 35, attributes := #[] }, { accessFlags := 9, nameIndex := 39, descriptorIndex := 40, attributes := #[] }] 49 2 #[] #[])
  fields := #[]
  methods := #[k1m0, k1m1, k1m2, k1m3]
  instanceTypes := #[]
  staticTypes := #[]
  resolved := Array.replicate 43 none
  statics := none }

def pool2 : Array CpInfo := pool [(1, .class_ 2), (0, u "java/lang/constant/Constable"), (0, .class_ 4), (0, u "java/lang/Object")] 6

/-- java/lang/constant/Constable -/
def k2 : Class := { plain "java/lang/constant/Constable" (some 0) with
  accessFlags := 1537
  interfaces := #[]
  cf := some (fileOf pool2 1 #[] #[] 1537 3 #[] #[])
  fields := #[]
  methods := #[]
  instanceTypes := #[]
  staticTypes := #[]
  resolved := Array.replicate 11 none
  statics := none }

def pool3 : Array CpInfo := pool [(1, .class_ 2), (0, u "java/lang/Comparable"), (0, .class_ 4), (0, u "java/lang/Object")] 7

/-- java/lang/Comparable -/
def k3 : Class := { plain "java/lang/Comparable" (some 0) with
  accessFlags := 1537
  interfaces := #[]
  cf := some (fileOf pool3 1 #[] #[] 1537 3 #[] #[])
  fields := #[]
  methods := #[]
  instanceTypes := #[]
  staticTypes := #[]
  resolved := Array.replicate 12 none
  statics := none }

def pool4 : Array CpInfo := pool [(1, .class_ 2), (0, u "java/io/Serializable"), (0, .class_ 4), (0, u "java/lang/Object")] 2

/-- java/io/Serializable -/
def k4 : Class := { plain "java/io/Serializable" (some 0) with
  accessFlags := 1537
  interfaces := #[]
  cf := some (fileOf pool4 1 #[] #[] 1537 3 #[] #[])
  fields := #[]
  methods := #[]
  instanceTypes := #[]
  staticTypes := #[]
  resolved := Array.replicate 7 none
  statics := none }

def pool5 : Array CpInfo := pool [(2, .class_ 4), (1, u "java/lang/Enum"), (0, u "name"), (0, u "Ljava/lang/String;"), (0, .fieldref 2 8), (0, .nameAndType 9 10), (0, u "ordinal"), (0, u "I"), (1, .class_ 14), (1, u "java/lang/Object"), (4, u "hash"), (86, .class_ 108), (1, u "java/lang/Enum$EnumDesc"), (2, .class_ 112), (0, u "java/lang/constant/Constable"), (0, .class_ 114), (0, u "java/lang/Comparable"), (0, .class_ 116), (0, u "java/io/Serializable"), (9, u "()I")] 77

def k5c0 : Code := { maxStack := 1, maxLocals := 1, code := jdk_37_method_2_code, exceptionTable := #[], attributes := #[] }
def k5m0 : Method := { name := "ordinal", desc := "()I", sig := { parameters := [], returnType := some .int }, accessFlags := 17, code := some k5c0 }
/-- java/lang/Enum -/
def k5 : Class := { plain "java/lang/Enum" (some 0) with
  accessFlags := 1057
  interfaces := #[2, 3, 4]
  cf := some (fileOf pool5 2 #[.nestMembers #[106]] #[{ accessFlags := 17, nameIndex := 9, descriptorIndex := 126, attributes := #[] }] 1057 12 #[111, 113, 115] #[{ accessFlags := 18, nameIndex := 5, descriptorIndex := 6, attributes := #[] }, { accessFlags := 18, nameIndex := 9, descriptorIndex := 10, attributes := #[] }, { accessFlags := 2, nameIndex := 19, descriptorIndex := 10, attributes := #[] }])
  fields := #[{ name := "name", type := (.object "java/lang/String"), accessFlags := 18, slot := 0, constantValue := 0 }, { name := "ordinal", type := .int, accessFlags := 18, slot := 1, constantValue := 0 }, { name := "hash", type := .int, accessFlags := 2, slot := 2, constantValue := 0 }]
  methods := #[k5m0]
  instanceTypes := #[(.object "java/lang/String"), .int, .int]
  staticTypes := #[]
  resolved := Array.replicate 204 none
  statics := none }

def pool6 : Array CpInfo := pool [(1, .class_ 2), (0, u "com/example/rulework/bench/Burst"), (2, u "POOL"), (0, u "Lcom/example/rulework/bench/Burst;"), (2, u "NO_RULE"), (2, u "ONE_RULE"), (2, u "MANY_RULES"), (2, u "$VALUES"), (0, u "[Lcom/example/rulework/bench/Burst;"), (6, .class_ 28), (1, u "java/lang/Enum"), (8, u "label"), (0, u "Ljava/lang/String;"), (0, .methodref 1 40), (0, .nameAndType 41 42), (0, u "ordinal"), (0, u "()I"), (2, u "ruleCount"), (0, u "(I)I"), (2, .class_ 50), (0, u "com/example/rulework/bench/Burst$SelfConflictingRule")] 43

def k6c0 : Code := { maxStack := 1, maxLocals := 2, code := prog_1_method_4_code, exceptionTable := #[], attributes := #[] }
def k6m0 : Method := { name := "ruleCount", desc := "(I)I", sig := { parameters := [.int], returnType := some .int }, accessFlags := 1, code := some k6c0 }
/-- com/example/rulework/bench/Burst -/
def k6 : Class := { plain "com/example/rulework/bench/Burst" (some 5) with
  accessFlags := 16433
  interfaces := #[]
  cf := some (fileOf pool6 1 #[.nestMembers #[49]] #[{ accessFlags := 1, nameIndex := 45, descriptorIndex := 46, attributes := #[] }] 16433 26 #[] #[{ accessFlags := 16409, nameIndex := 5, descriptorIndex := 6, attributes := #[] }, { accessFlags := 16409, nameIndex := 9, descriptorIndex := 6, attributes := #[] }, { accessFlags := 16409, nameIndex := 12, descriptorIndex := 6, attributes := #[] }, { accessFlags := 16409, nameIndex := 15, descriptorIndex := 6, attributes := #[] }, { accessFlags := 18, nameIndex := 37, descriptorIndex := 38, attributes := #[] }, { accessFlags := 4122, nameIndex := 18, descriptorIndex := 19, attributes := #[] }])
  fields := #[{ name := "POOL", type := (.object "com/example/rulework/bench/Burst"), accessFlags := 16409, slot := 0, constantValue := 0 }, { name := "NO_RULE", type := (.object "com/example/rulework/bench/Burst"), accessFlags := 16409, slot := 1, constantValue := 0 }, { name := "ONE_RULE", type := (.object "com/example/rulework/bench/Burst"), accessFlags := 16409, slot := 2, constantValue := 0 }, { name := "MANY_RULES", type := (.object "com/example/rulework/bench/Burst"), accessFlags := 16409, slot := 3, constantValue := 0 }, { name := "label", type := (.object "java/lang/String"), accessFlags := 18, slot := 3, constantValue := 0 }, { name := "$VALUES", type := (.array (.object "com/example/rulework/bench/Burst")), accessFlags := 4122, slot := 4, constantValue := 0 }]
  methods := #[k6m0]
  instanceTypes := #[(.object "java/lang/String"), .int, .int, (.object "java/lang/String")]
  staticTypes := #[(.object "com/example/rulework/bench/Burst"), (.object "com/example/rulework/bench/Burst"), (.object "com/example/rulework/bench/Burst"), (.object "com/example/rulework/bench/Burst"), (.array (.object "com/example/rulework/bench/Burst"))]
  resolved := Array.replicate 94 none
  statics := some 0 }

def pool7 : Array CpInfo := pool [(1, u "java/lang/Cloneable"), (0, .class_ 1), (0, u "java/lang/Object"), (0, .class_ 3)] 3

/-- java/lang/Cloneable -/
def k7 : Class := { plain "java/lang/Cloneable" (some 0) with
  accessFlags := 1537
  interfaces := #[]
  cf := some (fileOf pool7 2 #[] #[] 1537 4 #[] #[])
  fields := #[]
  methods := #[]
  instanceTypes := #[]
  staticTypes := #[]
  resolved := Array.replicate 8 none
  statics := none }

/-- the primitive byte -/
def k8 : Class := { plain "byte" none with kind := .primitive 'B', accessFlags := 0x411 }
/-- [B -/
def k9 : Class := { plain "[B" (some 0) with kind := .array 8 .byte, interfaces := #[7, 4], accessFlags := 1041 }

/-- the primitive int -/
def k10 : Class := { plain "int" none with kind := .primitive 'I', accessFlags := 0x411 }
/-- [I -/
def k11 : Class := { plain "[I" (some 0) with kind := .array 10 .int, interfaces := #[7, 4], accessFlags := 1041 }

def heap : Heap := #[{ cls := 6, slots := #[.ref 1, .ref 2, .ref 3, .ref 4, .null], vm := .statics 6 },
  { cls := 6, slots := #[.null, .int 0, .int 0, .null], vm := .none },
  { cls := 6, slots := #[.null, .int 1, .int 0, .null], vm := .none },
  { cls := 6, slots := #[.null, .int 2, .int 0, .null], vm := .none },
  { cls := 6, slots := #[.null, .int 3, .int 0, .null], vm := .none }]
def classes : Array Class := #[k0, k1, k2, k3, k4, k5, k6, k7, k8, k9, k10, k11]
def interned : List (Array UInt16 × Addr) := []
def slotsUsed : Nat := 21
def theMethod : MethodId := ⟨1, 3⟩
def args0 : Array Value := #[.int 5, .int 7]
def aboutOver (below : List Frame) : State where
  vm := { classes := classes, interned := interned.toArray }
  heap := heap
  slotsUsed := slotsUsed
  threads := #[{ frames := .invoking theMethod args0 :: below }]
def below0 : List Frame := [.native { method := ⟨0, 0⟩, args := #[] }]
def about1 : State := aboutOver below0
def p0 : Program := .bare "" "" ""
def e0 : Env := launch0.env 0 0 0
theorem w_frames : about1.frames = Frame.invoking theMethod args0 :: below0 := rfl
set_option maxRecDepth 65536 in
theorem w_args : argsFit about1.vm theMethod args0 = true := by decide +kernel
set_option maxRecDepth 65536 in
theorem w_heap : heapFits about1 = true := by decide +kernel
set_option maxRecDepth 65536 in
theorem w_runnable : about1.curStatus? = some .runnable := by decide +kernel
set_option maxRecDepth 65536 in
theorem w_alone : about1.alone = true := by decide +kernel
set_option maxRecDepth 65536 in
theorem w_named : about1.methodNamed? x = some theMethod := by decide +kernel
set_option maxRecDepth 65536 in
theorem w_hears : about1.hears theMethod below0 = true := by decide +kernel
set_option maxRecDepth 65536 in
theorem w_ripe : about1.ripe theMethod args0 below0 = true := by decide +kernel
theorem w_running : about1.status = .running := rfl
set_option maxRecDepth 65536 in
theorem w_room : about1.hasRoom e0.platform room_1 = true :=
  launch0.hasRoom_least _ room_1 (by decide +kernel) (by decide +kernel) (by decide +kernel) (by decide +kernel) (by decide +kernel) (by decide +kernel)
theorem allAtoms_all (ts : List Jvm.Cond) (a : Array Jvm.Value) (st : Jvm.State) : (allAtoms ts).before a st = ts.all (fun c => c.before a st) := by
  induction ts with
  | nil => rfl
  | cons c t ih =>
    show (Jvm.Cond.and c (allAtoms t)).before a st = _
    rw [Jvm.Cond.before_and, ih, List.all_cons]
def words1 : List Jvm.Cond := Jvm.Cond.code x code maxLocals ret :: tables_1
/-- a 'code' word, met by the world's own term for the bytes: nothing is compared byte by byte -/
theorem code_word {y : MethodName} {bytes : ByteArray} {mx : Nat} {rt : Option FieldType} {a : Array Value} {s : State} {m : MethodId} {meth : Method} {c : Code} (h1 : s.methodNamed? y = some m) (h2 : s.vm.method? m = some meth) (h3 : meth.code = some c) (h4 : c.code = bytes)
    (h5 : (c.maxLocals == mx && c.exceptionTable.isEmpty && decide (c.maxStack ≤ mostOperands) && decide (meth.sig.returnType = rt) && !meth.locks && decide (parseMethodDescriptor y.desc = some meth.sig)) = true) : (Jvm.Cond.code y bytes mx rt).before a s = true := by
  simp only [Bool.and_eq_true, beq_iff_eq, Bool.not_eq_true', decide_eq_true_eq] at h5
  obtain ⟨⟨⟨⟨⟨g1, g2⟩, g3⟩, g4⟩, g5⟩, g6⟩ := h5
  simp [Cond.before, Cond.holds, Cond.value, h1, h2, h3, h4, g1, g2, g3, g4, g5, g6]
def isCode : Jvm.Cond → Bool
  | .code _ _ _ _ => true
  | _ => false
theorem all_split {L : List Jvm.Cond} {P : Jvm.Cond → Bool} (h1 : L.all (fun c => isCode c || P c) = true) (h2 : ∀ c ∈ L.filter isCode, P c = true) : L.all P = true := by
  refine List.all_eq_true.mpr fun c hc => ?_
  have h := List.all_eq_true.mp h1 c hc
  rcases Bool.eq_false_or_eq_true (isCode c) with hi | hi
  · exact h2 c (List.mem_filter.mpr ⟨hc, hi⟩)
  · simpa [hi] using h
set_option maxRecDepth 65536 in
theorem w_c0 : (Jvm.Cond.code x code maxLocals ret).before args0 about1 = true := code_word (m := ⟨1, 3⟩) (meth := k1m3) (c := k1c3) (by decide +kernel) rfl rfl rfl (by decide +kernel)
set_option maxRecDepth 65536 in
theorem w_c1 : (Jvm.Cond.code ({ cls := "com/example/rulework/bench/BurstRuleCountPinLaw", name := "pick", desc := "(I)Lcom/example/rulework/bench/Burst;" } : Jvm.MethodName) method_2_code (1 : Nat) (Option.some (Jvm.ClassFile.FieldType.object "com/example/rulework/bench/Burst"))).before args0 about1 = true := code_word (m := ⟨1, 1⟩) (meth := k1m1) (c := k1c1) (by decide +kernel) rfl rfl rfl (by decide +kernel)
set_option maxRecDepth 65536 in
theorem w_c2 : (Jvm.Cond.code ({ cls := "com/example/rulework/bench/Burst", name := "ruleCount", desc := "(I)I" } : Jvm.MethodName) prog_1_method_4_code (2 : Nat) (Option.some Jvm.ClassFile.FieldType.int)).before args0 about1 = true := code_word (m := ⟨6, 0⟩) (meth := k6m0) (c := k6c0) (by decide +kernel) rfl rfl rfl (by decide +kernel)
set_option maxRecDepth 65536 in
theorem w_c3 : (Jvm.Cond.code ({ cls := "java/lang/Enum", name := "ordinal", desc := "()I" } : Jvm.MethodName) jdk_37_method_2_code (1 : Nat) (Option.some Jvm.ClassFile.FieldType.int)).before args0 about1 = true := code_word (m := ⟨5, 0⟩) (meth := k5m0) (c := k5c0) (by decide +kernel) rfl rfl rfl (by decide +kernel)
set_option maxRecDepth 65536 in
theorem w_c4 : (Jvm.Cond.code ({ cls := "com/example/rulework/bench/BurstRuleCountPinLaw", name := "expected", desc := "(II)I" } : Jvm.MethodName) method_3_code (2 : Nat) (Option.some Jvm.ClassFile.FieldType.int)).before args0 about1 = true := code_word (m := ⟨1, 2⟩) (meth := k1m2) (c := k1c2) (by decide +kernel) rfl rfl rfl (by decide +kernel)
def codes1 : List Jvm.Cond := [Jvm.Cond.code x code maxLocals ret, Jvm.Cond.code ({ cls := "com/example/rulework/bench/BurstRuleCountPinLaw", name := "pick", desc := "(I)Lcom/example/rulework/bench/Burst;" } : Jvm.MethodName) method_2_code (1 : Nat) (Option.some (Jvm.ClassFile.FieldType.object "com/example/rulework/bench/Burst")), Jvm.Cond.code ({ cls := "com/example/rulework/bench/Burst", name := "ruleCount", desc := "(I)I" } : Jvm.MethodName) prog_1_method_4_code (2 : Nat) (Option.some Jvm.ClassFile.FieldType.int), Jvm.Cond.code ({ cls := "java/lang/Enum", name := "ordinal", desc := "()I" } : Jvm.MethodName) jdk_37_method_2_code (1 : Nat) (Option.some Jvm.ClassFile.FieldType.int), Jvm.Cond.code ({ cls := "com/example/rulework/bench/BurstRuleCountPinLaw", name := "expected", desc := "(II)I" } : Jvm.MethodName) method_3_code (2 : Nat) (Option.some Jvm.ClassFile.FieldType.int)]
set_option maxRecDepth 65536 in
theorem codes_eq : words1.filter isCode = codes1 := rfl
theorem w_codes : ∀ c ∈ words1.filter isCode, c.before args0 about1 = true := by
  rw [codes_eq]
  intro c hc
  simp only [codes1, List.mem_cons, List.not_mem_nil, or_false] at hc
  rcases hc with rfl | rfl | rfl | rfl | rfl
  · exact w_c0
  · exact w_c1
  · exact w_c2
  · exact w_c3
  · exact w_c4
set_option maxRecDepth 65536 in
theorem w_t1 : (words1.take 24).all (fun c => isCode c || c.before args0 about1) = true := by decide +kernel
set_option maxRecDepth 65536 in
theorem w_t2 : (words1.drop 24).all (fun c => isCode c || c.before args0 about1) = true := by decide +kernel
theorem w_tables : (allAtoms (Jvm.Cond.code x code maxLocals ret :: tables_1)).before args0 about1 = true := by
  rw [allAtoms_all]
  show words1.all (fun c => c.before args0 about1) = true
  refine all_split ?_ w_codes
  rw [← List.take_append_drop 24 words1, List.all_append, w_t1, w_t2]
  rfl
set_option maxRecDepth 65536 in
theorem w_case : (Jvm.Cond.and given_1 narrow_1).before args0 about1 = true := by decide +kernel
theorem w_applies : (headSpec (Jvm.Cond.code x code maxLocals ret :: tables_1) room_1).applies x e0.platform about1 = true :=
  (Spec.applies_iff w_frames).mpr ⟨w_running, w_runnable, w_alone, w_named, w_hears, w_ripe, w_room, w_tables⟩
theorem atStart : AtStart classFile x code maxLocals ret World_1 tables_1 room_1 Calls_1 rest_1 Pre_1 launch0 p0 e0 about1 theMethod args0 below0 :=
  ⟨lists_1, trivial, launch0.admits_env _ _ _, launch0.least_env, fairChoices_fair.cas, fairChoices_fair.clock, w_frames, w_args, w_heap, w_applies, trivial, trivial, w_case⟩
end start1
theorem witness_1 : WitnessClaimed_1 := ⟨start1.p0, start1.e0, start1.about1, start1.theMethod, start1.args0, start1.below0, start1.atStart⟩
end Jvm.Pilot.@@N@@
