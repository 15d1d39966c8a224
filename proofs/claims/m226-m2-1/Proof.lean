import JvmDerived
import JvmDerived.Pilot.@@N@@Statement
import JvmDerived.Pilot.@@N@@Code
set_option linter.unusedVariables false
set_option linter.unusedSimpArgs false
namespace Jvm.Pilot.@@N@@
open Jvm Jvm.ClassFile Sem Op Lib Jvm.Free Jvm.Stand Jvm.LawKit Jvm.RoadKit Bundle Jvm.Pilot.@@N@@.Jvm.D
abbrev Way (p : Program) (e : Env) (below : List Frame) (S0 T : State) (g : JFrame) : Prop := ∀ t, Steps p.tables e below (T.setTop g) t → Steps p.tables e below S0 t
theorem own_old {Z : State} {n0 : Nat} {h : Heap} (O : Old Z n0 h) : n0 ≤ h.size := O.1 ▸ O.2.1
theorem own_eqF {args : Array Value} {s : State} {t : Term} {x : Addr} {C n d : String} {k : Int32} (ht : t.eval args s none [] s = some (.ref x)) (h : (Jvm.Cond.eq (.field t C n d) (.int k)).value args s none s [] = some true) : s.fieldOf? x C n d = some (.int k) :=
  (fld_at ht).symm.trans (Cond.eq_int (Cond.before_iff.mpr h) rfl)
theorem own_rem3 (x : Int32) : ((x &&& (2147483647 : Int32)) % (3 : Int32)) = (0 : Int32) ∨ ((x &&& (2147483647 : Int32)) % (3 : Int32)) = (1 : Int32) ∨ ((x &&& (2147483647 : Int32)) % (3 : Int32)) = (2 : Int32) := by
  have h1 : (x &&& (2147483647 : Int32)).toInt = x.toInt % (2 ^ 31 : Nat) := c_mask x 2147483647 31 (by decide) (by decide)
  have h2 := (c_irem (x &&& (2147483647 : Int32)) (3 : Int32) 3 (by decide)).1 (by omega)
  have h3 : ((x &&& (2147483647 : Int32)) % (3 : Int32)).toInt = 0 ∨ ((x &&& (2147483647 : Int32)) % (3 : Int32)).toInt = 1 ∨ ((x &&& (2147483647 : Int32)) % (3 : Int32)).toInt = 2 := by omega
  rcases h3 with h | h | h
  · exact Or.inl (Int32.toInt_inj.mp h)
  · exact Or.inr (Or.inl (Int32.toInt_inj.mp h))
  · exact Or.inr (Or.inr ((Int32.toInt_inj.mp h)))
def Gst (Z : State) (w_INT : Addr) (w_DOUBLE : Addr) (w_BOOL : Addr) : Prop := (Sta Z Z.heap "com/example/inert_quotient/inertquotient/prism/Type" "INT" "Lcom/example/inert_quotient/inertquotient/prism/Type;" (.ref w_INT)) ∧ (Exa Z Z.heap w_INT "com/example/inert_quotient/inertquotient/prism/Type") ∧ (Fld Z Z.heap w_INT "java/lang/Enum" "ordinal" "I" (.int (0 : Int32))) ∧ (Sta Z Z.heap "com/example/inert_quotient/inertquotient/prism/Type" "DOUBLE" "Lcom/example/inert_quotient/inertquotient/prism/Type;" (.ref w_DOUBLE)) ∧ (Exa Z Z.heap w_DOUBLE "com/example/inert_quotient/inertquotient/prism/Type") ∧ (Fld Z Z.heap w_DOUBLE "java/lang/Enum" "ordinal" "I" (.int (1 : Int32))) ∧ (Sta Z Z.heap "com/example/inert_quotient/inertquotient/prism/Type" "BOOL" "Lcom/example/inert_quotient/inertquotient/prism/Type;" (.ref w_BOOL)) ∧ (Exa Z Z.heap w_BOOL "com/example/inert_quotient/inertquotient/prism/Type") ∧ (Fld Z Z.heap w_BOOL "java/lang/Enum" "ordinal" "I" (.int (2 : Int32)))
theorem d_prog_77_method_4_code_0 : decode prog_77_method_4_code 0 = .ok (.aload_n 0, 1) := by decide +kernel
theorem d_prog_77_method_4_code_1 : decode prog_77_method_4_code 1 = .ok (.getstatic 10, 3) := by decide +kernel
theorem d_prog_77_method_4_code_4 : decode prog_77_method_4_code 4 = .ok (.if_acmp .eq 7, 3) := by decide +kernel
theorem d_prog_77_method_4_code_7 : decode prog_77_method_4_code 7 = .ok (.iconst 1, 1) := by decide +kernel
theorem d_prog_77_method_4_code_8 : decode prog_77_method_4_code 8 = .ok (.goto 4, 3) := by decide +kernel
theorem d_prog_77_method_4_code_12 : decode prog_77_method_4_code 12 = .ok (.ireturn, 1) := by decide +kernel
theorem pn_0 : plainName "com/example/inert_quotient/inertquotient/prism/Type" = true := by first | (simp [plainName, overriddenIn]; done) | decide +kernel
theorem d_prog_77_method_4_code_11 : decode prog_77_method_4_code 11 = .ok (.iconst 0, 1) := by decide +kernel
theorem pd_0 : parseMethodDescriptor "()Z" = some ⟨[], some .boolean⟩ := by decide +kernel
theorem pn_1 : plainName "com/example/inert_quotient/inertquotient/prism/TypeIsNumericPinLaw" = true := by first | (simp [plainName, overriddenIn]; done) | decide +kernel
def Q_num0 (Z : State) (w_INT : Addr) (w_DOUBLE : Addr) (w_BOOL : Addr)  (h0 : Heap) (n0 : Nat) (v : Option Value) (h : Heap) (L : List Loc) : Prop := (v = some (.int (1 : Int32))) ∧ (Fr n0 L) ∧ (h = h0)
set_option maxRecDepth 65536 in
set_option maxHeartbeats 40000000 in
theorem num0 (l : Launch) (Z : State) (a0 : Array Value) (hw : ∀ d ∈ tables_1, d.before a0 Z = true) (ws : List Jvm.Cond) (w_INT : Addr) (w_DOUBLE : Addr) (w_BOOL : Addr) (G : Gst Z w_INT w_DOUBLE w_BOOL)  (h0 : Heap) (n0 : Nat) (O0 : Old Z n0 h0) :
    MetFree l (⟨"com/example/inert_quotient/inertquotient/prism/Type", "isNumeric", "()Z"⟩ : MethodName) (head1 (Jvm.Cond.code (⟨"com/example/inert_quotient/inertquotient/prism/Type", "isNumeric", "()Z"⟩ : MethodName) prog_77_method_4_code 1 (some .boolean) :: ws) ({ frames := 0, cells := 0, slots := 0, locals := 0 } : Room)) (fun a U => a = #[(.ref w_INT)] ∧ Z.Warmed39 U.vm ∧ U.heap = h0) (fun _ _ _ _ _ => True) (fun _ U o U' => ∃ v L, o = .returned v ∧ Q_num0 Z w_INT w_DOUBLE w_BOOL  h0 n0 v U'.heap L ∧ FrameEnd U o U' L ({ frames := 0, cells := 0, slots := 0, locals := 0 } : Room).cells ({ frames := 0, cells := 0, slots := 0, locals := 0 } : Room).slots) := by
  refine MetFree.of_bodySF (plainFor_of_name pn_0) hisR ?_
  intro p e s m args below meth c s₁ Bd hml0 hP hK
  obtain ⟨rfl, hZ, hh⟩ := hP
  have hx := Bd.exec
  have hby := Bd.bytes
  have hml : c.maxLocals = 1 := hml0
  have hown : s.vm.findClass "com/example/inert_quotient/inertquotient/prism/Type" = some m.cls := findClass_of_methodNamed Bd.named
  have hnm := (name_of_methodNamed Bd.named Bd.method).1
  have X0 : Stand p l e ({ frames := 0, cells := 0, slots := 0, locals := 0 } : Room) s m #[(.ref w_INT)] below meth c s₁ [] 0 0 := Stand.of_body Bd
  have e0 : s₁.heap = h0 := by rw [← hh, Bd.state]; rfl
  have N0 := Fr.nil n0
  obtain ⟨S_w_INT, E_w_INT, F_w_INT_ordinal, S_w_DOUBLE, E_w_DOUBLE, F_w_DOUBLE_ordinal, S_w_BOOL, E_w_BOOL, F_w_BOOL_ordinal⟩ := id G
  have k0 : Way p e below (s₁.setTop (entryFrame m #[(.ref w_INT)] 1)) s₁ (mkF m 0 #[rv w_INT] []) := fun t k => castTop (by first | (simp [entryFrame, mkF, argsToLocals, Value.category]; done) | rfl) k
  generalize s₁.setTop (entryFrame m #[(.ref w_INT)] 1) = S0 at k0 ⊢
  have k1 : Way p e below S0 s₁ (mkF m 1 #[rv w_INT] [(.ref w_INT)]) := by
    intro t k
    refine k0 t ?_
    refine XS.aloadN X0.here hx rfl (hb hby d_prog_77_method_4_code_0) rfl rfl ?_
    show Steps p.tables e below (s₁.setTop (mkF m 1 #[rv w_INT] [(.ref w_INT)])) _
    exact k
  obtain ⟨T2, X2, e2, st2⟩ := getS2 X0 hx hZ hown (host := "") (Or.inl (hw _ (List.mem_of_getElem? (i := 9) rfl))) Via.refl e0 (S_w_BOOL.ext O0.2) (g := (mkF m 1 #[rv w_INT] [(.ref w_INT)])) rfl (hb hby d_prog_77_method_4_code_1)
  have k3 : Way p e below S0 T2 (mkF m 4 #[rv w_INT] [(.ref w_BOOL), (.ref w_INT)]) := fun t k => k1 t (st2 _ k)
  have k4 : Way p e below S0 T2 (mkF m 12 #[rv w_INT] [(.int (1 : Int32))]) := by
    intro t k
    refine k3 t ?_
    refine Jvm.RoadKit.acmp (g := (mkF m 4 #[rv w_INT] [(.ref w_BOOL), (.ref w_INT)])) X2 hx rfl rfl rfl (pc0 := 4) (pc' := 7) (same := false) rfl (hb hby d_prog_77_method_4_code_4) rfl (decide_eq_false fun q => absurd (Value.ref.inj q) (F_w_INT_ordinal.ne F_w_BOOL_ordinal (by decide))) (by decide) (by decide) ?_
    show Steps p.tables e below (T2.setTop (mkF m 7 #[rv w_INT] [])) _
    refine XS.iconst X2.here hx rfl (hb hby d_prog_77_method_4_code_7) ?_
    show Steps p.tables e below (T2.setTop (mkF m 8 #[rv w_INT] [(.int (1 : Int32))])) _
    refine XS.goto X2.here hx rfl (pc0 := 8) (pc' := 12) rfl (hb hby d_prog_77_method_4_code_8) (by decide) (by decide) ?_
    show Steps p.tables e below (T2.setTop (mkF m 12 #[rv w_INT] [(.int (1 : Int32))])) _
    exact k
  obtain ⟨fs, hr, hrun, hended, hW, hsame⟩ := X2.leave (v := some (.int (1 : Int32))) (fun h => by rw [Bd.returns] at h; cases h)
  refine ⟨_, _, k4 _ (retN X2 hx (t := .boolean) Bd.returns (by simp) (hb hby d_prog_77_method_4_code_12) hr), hrun, hended, _, _, rfl, ?_, ⟨_, rfl⟩, hW, hsame.mono (by decide) (by decide)⟩
  show Q_num0 Z w_INT w_DOUBLE w_BOOL  h0 n0 _ T2.heap _
  rw [e2]
  exact ⟨rfl, N0, rfl⟩
def Q_num1 (Z : State) (w_INT : Addr) (w_DOUBLE : Addr) (w_BOOL : Addr)  (h0 : Heap) (n0 : Nat) (v : Option Value) (h : Heap) (L : List Loc) : Prop := (v = some (.int (1 : Int32))) ∧ (Fr n0 L) ∧ (h = h0)
set_option maxRecDepth 65536 in
set_option maxHeartbeats 40000000 in
theorem num1 (l : Launch) (Z : State) (a0 : Array Value) (hw : ∀ d ∈ tables_1, d.before a0 Z = true) (ws : List Jvm.Cond) (w_INT : Addr) (w_DOUBLE : Addr) (w_BOOL : Addr) (G : Gst Z w_INT w_DOUBLE w_BOOL)  (h0 : Heap) (n0 : Nat) (O0 : Old Z n0 h0) :
    MetFree l (⟨"com/example/inert_quotient/inertquotient/prism/Type", "isNumeric", "()Z"⟩ : MethodName) (head1 (Jvm.Cond.code (⟨"com/example/inert_quotient/inertquotient/prism/Type", "isNumeric", "()Z"⟩ : MethodName) prog_77_method_4_code 1 (some .boolean) :: ws) ({ frames := 0, cells := 0, slots := 0, locals := 0 } : Room)) (fun a U => a = #[(.ref w_DOUBLE)] ∧ Z.Warmed39 U.vm ∧ U.heap = h0) (fun _ _ _ _ _ => True) (fun _ U o U' => ∃ v L, o = .returned v ∧ Q_num1 Z w_INT w_DOUBLE w_BOOL  h0 n0 v U'.heap L ∧ FrameEnd U o U' L ({ frames := 0, cells := 0, slots := 0, locals := 0 } : Room).cells ({ frames := 0, cells := 0, slots := 0, locals := 0 } : Room).slots) := by
  refine MetFree.of_bodySF (plainFor_of_name pn_0) hisR ?_
  intro p e s m args below meth c s₁ Bd hml0 hP hK
  obtain ⟨rfl, hZ, hh⟩ := hP
  have hx := Bd.exec
  have hby := Bd.bytes
  have hml : c.maxLocals = 1 := hml0
  have hown : s.vm.findClass "com/example/inert_quotient/inertquotient/prism/Type" = some m.cls := findClass_of_methodNamed Bd.named
  have hnm := (name_of_methodNamed Bd.named Bd.method).1
  have X0 : Stand p l e ({ frames := 0, cells := 0, slots := 0, locals := 0 } : Room) s m #[(.ref w_DOUBLE)] below meth c s₁ [] 0 0 := Stand.of_body Bd
  have e0 : s₁.heap = h0 := by rw [← hh, Bd.state]; rfl
  have N0 := Fr.nil n0
  obtain ⟨S_w_INT, E_w_INT, F_w_INT_ordinal, S_w_DOUBLE, E_w_DOUBLE, F_w_DOUBLE_ordinal, S_w_BOOL, E_w_BOOL, F_w_BOOL_ordinal⟩ := id G
  have k0 : Way p e below (s₁.setTop (entryFrame m #[(.ref w_DOUBLE)] 1)) s₁ (mkF m 0 #[rv w_DOUBLE] []) := fun t k => castTop (by first | (simp [entryFrame, mkF, argsToLocals, Value.category]; done) | rfl) k
  generalize s₁.setTop (entryFrame m #[(.ref w_DOUBLE)] 1) = S0 at k0 ⊢
  have k1 : Way p e below S0 s₁ (mkF m 1 #[rv w_DOUBLE] [(.ref w_DOUBLE)]) := by
    intro t k
    refine k0 t ?_
    refine XS.aloadN X0.here hx rfl (hb hby d_prog_77_method_4_code_0) rfl rfl ?_
    show Steps p.tables e below (s₁.setTop (mkF m 1 #[rv w_DOUBLE] [(.ref w_DOUBLE)])) _
    exact k
  obtain ⟨T2, X2, e2, st2⟩ := getS2 X0 hx hZ hown (host := "") (Or.inl (hw _ (List.mem_of_getElem? (i := 9) rfl))) Via.refl e0 (S_w_BOOL.ext O0.2) (g := (mkF m 1 #[rv w_DOUBLE] [(.ref w_DOUBLE)])) rfl (hb hby d_prog_77_method_4_code_1)
  have k3 : Way p e below S0 T2 (mkF m 4 #[rv w_DOUBLE] [(.ref w_BOOL), (.ref w_DOUBLE)]) := fun t k => k1 t (st2 _ k)
  have k4 : Way p e below S0 T2 (mkF m 12 #[rv w_DOUBLE] [(.int (1 : Int32))]) := by
    intro t k
    refine k3 t ?_
    refine Jvm.RoadKit.acmp (g := (mkF m 4 #[rv w_DOUBLE] [(.ref w_BOOL), (.ref w_DOUBLE)])) X2 hx rfl rfl rfl (pc0 := 4) (pc' := 7) (same := false) rfl (hb hby d_prog_77_method_4_code_4) rfl (decide_eq_false fun q => absurd (Value.ref.inj q) (F_w_DOUBLE_ordinal.ne F_w_BOOL_ordinal (by decide))) (by decide) (by decide) ?_
    show Steps p.tables e below (T2.setTop (mkF m 7 #[rv w_DOUBLE] [])) _
    refine XS.iconst X2.here hx rfl (hb hby d_prog_77_method_4_code_7) ?_
    show Steps p.tables e below (T2.setTop (mkF m 8 #[rv w_DOUBLE] [(.int (1 : Int32))])) _
    refine XS.goto X2.here hx rfl (pc0 := 8) (pc' := 12) rfl (hb hby d_prog_77_method_4_code_8) (by decide) (by decide) ?_
    show Steps p.tables e below (T2.setTop (mkF m 12 #[rv w_DOUBLE] [(.int (1 : Int32))])) _
    exact k
  obtain ⟨fs, hr, hrun, hended, hW, hsame⟩ := X2.leave (v := some (.int (1 : Int32))) (fun h => by rw [Bd.returns] at h; cases h)
  refine ⟨_, _, k4 _ (retN X2 hx (t := .boolean) Bd.returns (by simp) (hb hby d_prog_77_method_4_code_12) hr), hrun, hended, _, _, rfl, ?_, ⟨_, rfl⟩, hW, hsame.mono (by decide) (by decide)⟩
  show Q_num1 Z w_INT w_DOUBLE w_BOOL  h0 n0 _ T2.heap _
  rw [e2]
  exact ⟨rfl, N0, rfl⟩
def Q_num2 (Z : State) (w_INT : Addr) (w_DOUBLE : Addr) (w_BOOL : Addr)  (h0 : Heap) (n0 : Nat) (v : Option Value) (h : Heap) (L : List Loc) : Prop := (v = some (.int (0 : Int32))) ∧ (Fr n0 L) ∧ (h = h0)
set_option maxRecDepth 65536 in
set_option maxHeartbeats 40000000 in
theorem num2 (l : Launch) (Z : State) (a0 : Array Value) (hw : ∀ d ∈ tables_1, d.before a0 Z = true) (ws : List Jvm.Cond) (w_INT : Addr) (w_DOUBLE : Addr) (w_BOOL : Addr) (G : Gst Z w_INT w_DOUBLE w_BOOL)  (h0 : Heap) (n0 : Nat) (O0 : Old Z n0 h0) :
    MetFree l (⟨"com/example/inert_quotient/inertquotient/prism/Type", "isNumeric", "()Z"⟩ : MethodName) (head1 (Jvm.Cond.code (⟨"com/example/inert_quotient/inertquotient/prism/Type", "isNumeric", "()Z"⟩ : MethodName) prog_77_method_4_code 1 (some .boolean) :: ws) ({ frames := 0, cells := 0, slots := 0, locals := 0 } : Room)) (fun a U => a = #[(.ref w_BOOL)] ∧ Z.Warmed39 U.vm ∧ U.heap = h0) (fun _ _ _ _ _ => True) (fun _ U o U' => ∃ v L, o = .returned v ∧ Q_num2 Z w_INT w_DOUBLE w_BOOL  h0 n0 v U'.heap L ∧ FrameEnd U o U' L ({ frames := 0, cells := 0, slots := 0, locals := 0 } : Room).cells ({ frames := 0, cells := 0, slots := 0, locals := 0 } : Room).slots) := by
  refine MetFree.of_bodySF (plainFor_of_name pn_0) hisR ?_
  intro p e s m args below meth c s₁ Bd hml0 hP hK
  obtain ⟨rfl, hZ, hh⟩ := hP
  have hx := Bd.exec
  have hby := Bd.bytes
  have hml : c.maxLocals = 1 := hml0
  have hown : s.vm.findClass "com/example/inert_quotient/inertquotient/prism/Type" = some m.cls := findClass_of_methodNamed Bd.named
  have hnm := (name_of_methodNamed Bd.named Bd.method).1
  have X0 : Stand p l e ({ frames := 0, cells := 0, slots := 0, locals := 0 } : Room) s m #[(.ref w_BOOL)] below meth c s₁ [] 0 0 := Stand.of_body Bd
  have e0 : s₁.heap = h0 := by rw [← hh, Bd.state]; rfl
  have N0 := Fr.nil n0
  obtain ⟨S_w_INT, E_w_INT, F_w_INT_ordinal, S_w_DOUBLE, E_w_DOUBLE, F_w_DOUBLE_ordinal, S_w_BOOL, E_w_BOOL, F_w_BOOL_ordinal⟩ := id G
  have k0 : Way p e below (s₁.setTop (entryFrame m #[(.ref w_BOOL)] 1)) s₁ (mkF m 0 #[rv w_BOOL] []) := fun t k => castTop (by first | (simp [entryFrame, mkF, argsToLocals, Value.category]; done) | rfl) k
  generalize s₁.setTop (entryFrame m #[(.ref w_BOOL)] 1) = S0 at k0 ⊢
  have k1 : Way p e below S0 s₁ (mkF m 1 #[rv w_BOOL] [(.ref w_BOOL)]) := by
    intro t k
    refine k0 t ?_
    refine XS.aloadN X0.here hx rfl (hb hby d_prog_77_method_4_code_0) rfl rfl ?_
    show Steps p.tables e below (s₁.setTop (mkF m 1 #[rv w_BOOL] [(.ref w_BOOL)])) _
    exact k
  obtain ⟨T2, X2, e2, st2⟩ := getS2 X0 hx hZ hown (host := "") (Or.inl (hw _ (List.mem_of_getElem? (i := 9) rfl))) Via.refl e0 (S_w_BOOL.ext O0.2) (g := (mkF m 1 #[rv w_BOOL] [(.ref w_BOOL)])) rfl (hb hby d_prog_77_method_4_code_1)
  have k3 : Way p e below S0 T2 (mkF m 4 #[rv w_BOOL] [(.ref w_BOOL), (.ref w_BOOL)]) := fun t k => k1 t (st2 _ k)
  have k4 : Way p e below S0 T2 (mkF m 12 #[rv w_BOOL] [(.int (0 : Int32))]) := by
    intro t k
    refine k3 t ?_
    refine Jvm.RoadKit.acmp (g := (mkF m 4 #[rv w_BOOL] [(.ref w_BOOL), (.ref w_BOOL)])) X2 hx rfl rfl rfl (pc0 := 4) (pc' := 11) (same := true) rfl (hb hby d_prog_77_method_4_code_4) rfl (decide_eq_true rfl) (by decide) (by decide) ?_
    show Steps p.tables e below (T2.setTop (mkF m 11 #[rv w_BOOL] [])) _
    refine XS.iconst X2.here hx rfl (hb hby d_prog_77_method_4_code_11) ?_
    show Steps p.tables e below (T2.setTop (mkF m 12 #[rv w_BOOL] [(.int (0 : Int32))])) _
    exact k
  obtain ⟨fs, hr, hrun, hended, hW, hsame⟩ := X2.leave (v := some (.int (0 : Int32))) (fun h => by rw [Bd.returns] at h; cases h)
  refine ⟨_, _, k4 _ (retN X2 hx (t := .boolean) Bd.returns (by simp) (hb hby d_prog_77_method_4_code_12) hr), hrun, hended, _, _, rfl, ?_, ⟨_, rfl⟩, hW, hsame.mono (by decide) (by decide)⟩
  show Q_num2 Z w_INT w_DOUBLE w_BOOL  h0 n0 _ T2.heap _
  rw [e2]
  exact ⟨rfl, N0, rfl⟩
def Q_law_met (Z : State) (w_INT : Addr) (w_DOUBLE : Addr) (w_BOOL : Addr) (p1 : Int32) (h0 : Heap) (n0 : Nat) (v : Option Value) (h : Heap) (L : List Loc) : Prop := (v = some (.int (1 : Int32))) ∧ (Fr n0 L)
set_option maxRecDepth 65536 in
set_option maxHeartbeats 40000000 in
theorem law_met (l : Launch) (Z : State) (a0 : Array Value) (hw : ∀ d ∈ tables_1, d.before a0 Z = true) (ws : List Jvm.Cond) (w_INT : Addr) (w_DOUBLE : Addr) (w_BOOL : Addr) (G : Gst Z w_INT w_DOUBLE w_BOOL) (p1 : Int32) (h0 : Heap) (n0 : Nat) (O0 : Old Z n0 h0) :
    MetFree l x (head1 (Jvm.Cond.code x code maxLocals ret :: ws) room_1) (fun a U => a = #[(.int p1)] ∧ Z.Warmed39 U.vm ∧ U.heap = h0) (fun _ _ _ _ _ => True) (fun _ U o U' => ∃ v L, o = .returned v ∧ Q_law_met Z w_INT w_DOUBLE w_BOOL p1 h0 n0 v U'.heap L ∧ FrameEnd U o U' L 0 0) := by
  refine MetFree.of_bodySF (plainFor_of_name pn_1) hisR ?_
  intro p e s m args below meth c s₁ Bd hml0 hP hK
  obtain ⟨rfl, hZ, hh⟩ := hP
  have hx := Bd.exec
  have hby := Bd.bytes
  have hml : c.maxLocals = 4 := hml0
  have hown : s.vm.findClass "com/example/inert_quotient/inertquotient/prism/TypeIsNumericPinLaw" = some m.cls := findClass_of_methodNamed Bd.named
  have hnm := (name_of_methodNamed Bd.named Bd.method).1
  have X0 : Stand p l e room_1 s m #[(.int p1)] below meth c s₁ [] 0 0 := Stand.of_body Bd
  have e0 : s₁.heap = h0 := by rw [← hh, Bd.state]; rfl
  have N0 := Fr.nil n0
  obtain ⟨S_w_INT, E_w_INT, F_w_INT_ordinal, S_w_DOUBLE, E_w_DOUBLE, F_w_DOUBLE_ordinal, S_w_BOOL, E_w_BOOL, F_w_BOOL_ordinal⟩ := id G
  have k0 : Way p e below (s₁.setTop (entryFrame m #[(.int p1)] maxLocals)) s₁ (mkF m 0 #[iv p1, .unset, .unset, .unset] []) := fun t k => castTop (by first | (simp [entryFrame, mkF, argsToLocals, Value.category, maxLocals]; done) | rfl) k
  generalize s₁.setTop (entryFrame m #[(.int p1)] maxLocals) = S0 at k0 ⊢
  have k1 : Way p e below S0 s₁ (mkF m 7 #[iv p1, iv ((p1 &&& (2147483647 : Int32)) % (3 : Int32)), .unset, .unset] []) := by
    intro t k
    refine k0 t ?_
    refine XS.iloadN X0.here hx rfl (hb hby at_0) rfl ?_
    show Steps p.tables e below (s₁.setTop (mkF m 1 #[iv p1, .unset, .unset, .unset] [(.int p1)])) _
    refine X0.ldcInt hx hown (mvT hZ (hw _ (List.mem_of_getElem? (i := 0) rfl))) (g := (mkF m 1 #[iv p1, .unset, .unset, .unset] [(.int p1)])) rfl (hb hby at_1) _ ?_
    show Steps p.tables e below (s₁.setTop (mkF m 3 #[iv p1, .unset, .unset, .unset] [(.int (2147483647 : Int32)), (.int p1)])) _
    refine XS.iand X0.here hx rfl (hb hby at_3) rfl ?_
    show Steps p.tables e below (s₁.setTop (mkF m 4 #[iv p1, .unset, .unset, .unset] [(.int (p1 &&& (2147483647 : Int32)))])) _
    refine XS.iconst X0.here hx rfl (hb hby at_4) ?_
    show Steps p.tables e below (s₁.setTop (mkF m 5 #[iv p1, .unset, .unset, .unset] [(.int (3 : Int32)), (.int (p1 &&& (2147483647 : Int32)))])) _
    refine iremM (g := (mkF m 5 #[iv p1, .unset, .unset, .unset] [(.int (3 : Int32)), (.int (p1 &&& (2147483647 : Int32)))])) X0 hx rfl (hb hby at_5) rfl (by decide) ?_
    show Steps p.tables e below (s₁.setTop (mkF m 6 #[iv p1, .unset, .unset, .unset] [(.int ((p1 &&& (2147483647 : Int32)) % (3 : Int32)))])) _
    refine XS.istoreN X0.here hx rfl (hb hby at_6) rfl (l' := #[iv p1, iv ((p1 &&& (2147483647 : Int32)) % (3 : Int32)), .unset, .unset]) rfl ?_
    show Steps p.tables e below (s₁.setTop (mkF m 7 #[iv p1, iv ((p1 &&& (2147483647 : Int32)) % (3 : Int32)), .unset, .unset] [])) _
    exact k
  have hr2 : ((p1 &&& (2147483647 : Int32)) % (3 : Int32)) = (0 : Int32) ∨ ((p1 &&& (2147483647 : Int32)) % (3 : Int32)) = (1 : Int32) ∨ ((p1 &&& (2147483647 : Int32)) % (3 : Int32)) = (2 : Int32) := own_rem3 p1
  rcases hr2 with hi2 | hi2 | hi2
  · have k3 : Way p e below S0 s₁ (mkF m 7 #[iv p1, iv (0 : Int32), .unset, .unset] []) := by have q := k1; rw [hi2] at q; exact q
    have k4 : Way p e below S0 s₁ (mkF m 11 #[iv p1, iv (0 : Int32), .unset, .unset] []) := by
      intro t k
      refine k3 t ?_
      refine XS.iloadN X0.here hx rfl (hb hby at_7) rfl ?_
      show Steps p.tables e below (s₁.setTop (mkF m 8 #[iv p1, iv (0 : Int32), .unset, .unset] [(.int (0 : Int32))])) _
      refine XS.ifNo X0.here hx rfl (hb hby at_8) rfl ((if0 _ _).trans (teq ((by decide) : (0 : Int32) = (0 : Int32))).2) ?_
      show Steps p.tables e below (s₁.setTop (mkF m 11 #[iv p1, iv (0 : Int32), .unset, .unset] [])) _
      exact k
    obtain ⟨T5, X5, e5, st5⟩ := getS2 X0 hx hZ hown (host := "") (Or.inl (hw _ (List.mem_of_getElem? (i := 1) rfl))) Via.refl e0 (S_w_INT.ext O0.2) (g := (mkF m 11 #[iv p1, iv (0 : Int32), .unset, .unset] [])) rfl (hb hby at_11)
    have k6 : Way p e below S0 T5 (mkF m 14 #[iv p1, iv (0 : Int32), .unset, .unset] [(.ref w_INT)]) := fun t k => k4 t (st5 _ k)
    have k7 : Way p e below S0 T5 (mkF m 41 #[iv p1, iv (0 : Int32), rv w_INT, iv (1 : Int32)] [(.ref w_INT)]) := by
      intro t k
      refine k6 t ?_
      refine XS.astoreN X5.here hx rfl (hb hby at_14) rfl rfl (l' := #[iv p1, iv (0 : Int32), rv w_INT, .unset]) rfl ?_
      show Steps p.tables e below (T5.setTop (mkF m 15 #[iv p1, iv (0 : Int32), rv w_INT, .unset] [])) _
      refine XS.iconst X5.here hx rfl (hb hby at_15) ?_
      show Steps p.tables e below (T5.setTop (mkF m 16 #[iv p1, iv (0 : Int32), rv w_INT, .unset] [(.int (1 : Int32))])) _
      refine XS.istoreN X5.here hx rfl (hb hby at_16) rfl (l' := #[iv p1, iv (0 : Int32), rv w_INT, iv (1 : Int32)]) rfl ?_
      show Steps p.tables e below (T5.setTop (mkF m 17 #[iv p1, iv (0 : Int32), rv w_INT, iv (1 : Int32)] [])) _
      refine XS.goto X5.here hx rfl (pc0 := 17) (pc' := 40) rfl (hb hby at_17) (by decide) (by decide) ?_
      show Steps p.tables e below (T5.setTop (mkF m 40 #[iv p1, iv (0 : Int32), rv w_INT, iv (1 : Int32)] [])) _
      refine XS.aloadN X5.here hx rfl (hb hby at_40) rfl rfl ?_
      show Steps p.tables e below (T5.setTop (mkF m 41 #[iv p1, iv (0 : Int32), rv w_INT, iv (1 : Int32)] [(.ref w_INT)])) _
      exact k
    obtain ⟨cq8, kq8, qq8a, qq8b, qq8c⟩ := isOf hZ e5 (E_w_INT.ext O0.2)
    obtain ⟨_, _, ⟨T8, L8, kk8, nn8⟩, -, X8, ⟨Lc8, hQ8, l8, y8, z8⟩, st8⟩ := X5.virtualBack hx (y := (⟨"com/example/inert_quotient/inertquotient/prism/Type", "isNumeric", "()Z"⟩ : MethodName)) (z := (⟨"com/example/inert_quotient/inertquotient/prism/Type", "isNumeric", "()Z"⟩ : MethodName)) hown (mvT hZ (hw _ (List.mem_of_getElem? (i := 4) rfl))) (mvT hZ (hw _ (List.mem_of_getElem? (i := 5) rfl))) (notFace_of_selects (args := #[]) (mvT hZ (hw _ (List.mem_of_getElem? (i := 7) rfl)))) (mvT hZ (hw _ (List.mem_of_getElem? (i := 7) rfl))) (mvT hZ (hw _ (List.mem_of_getElem? (i := 6) rfl))) (by decide) (backOf (W := 0) (num0 l Z a0 hw [] w_INT w_DOUBLE w_BOOL G  h0 n0 O0 ) hZ (hw _ (List.mem_of_getElem? (i := 8) rfl)) (hw _ (List.mem_of_getElem? (i := 2) rfl)) (by decide) (by decide)) qq8a qq8c (g := (mkF m 41 #[iv p1, iv (0 : Int32), rv w_INT, iv (1 : Int32)] [(.ref w_INT)])) rfl (by rw [hml]; rfl) (Steps.refl _) (argsL := []) (rest := []) (lenOf pd_0 rfl) rfl (by show 2 * 0 + _ ≤ _; exact Nat.le_of_eq rfl) (hb hby at_41) (fun _ _ => ⟨rfl, e5, (by decide : 0 + 0 ≤ _), (by decide : 0 + 0 ≤ _)⟩)
    dsimp only [Pt.U, Pt.locs, Pt.cells, Pt.slots] at X8 l8 y8 z8 st8 hQ8
    subst l8 y8 z8
    obtain ⟨rfl, Nq8, e8⟩ := hQ8
    have N8 := Fr.app N0 Nq8
    have k9 : Way p e below S0 T8 (mkF m 44 #[iv p1, iv (0 : Int32), rv w_INT, iv (1 : Int32)] [(.int (1 : Int32))]) := fun t k => k7 t (st8.trans k)
    have k10 : Way p e below S0 T8 (mkF m 53 #[iv p1, iv (0 : Int32), rv w_INT, iv (1 : Int32)] [(.int (1 : Int32))]) := by
      intro t k
      refine k9 t ?_
      refine XS.iloadN X8.here hx rfl (hb hby at_44) rfl ?_
      show Steps p.tables e below (T8.setTop (mkF m 45 #[iv p1, iv (0 : Int32), rv w_INT, iv (1 : Int32)] [(.int (1 : Int32)), (.int (1 : Int32))])) _
      refine XS.icmpNo X8.here hx rfl (hb hby at_45) rfl (teq ((by decide) : (1 : Int32) = (1 : Int32))).2 ?_
      show Steps p.tables e below (T8.setTop (mkF m 48 #[iv p1, iv (0 : Int32), rv w_INT, iv (1 : Int32)] [])) _
      refine XS.iconst X8.here hx rfl (hb hby at_48) ?_
      show Steps p.tables e below (T8.setTop (mkF m 49 #[iv p1, iv (0 : Int32), rv w_INT, iv (1 : Int32)] [(.int (1 : Int32))])) _
      refine XS.goto X8.here hx rfl (pc0 := 49) (pc' := 53) rfl (hb hby at_49) (by decide) (by decide) ?_
      show Steps p.tables e below (T8.setTop (mkF m 53 #[iv p1, iv (0 : Int32), rv w_INT, iv (1 : Int32)] [(.int (1 : Int32))])) _
      exact k
    obtain ⟨fs, hr, hrun, hended, hW, hsame⟩ := X8.leave (v := some (.int (1 : Int32))) (fun h => by rw [Bd.returns] at h; cases h)
    refine ⟨_, _, k10 _ (retN X8 hx (t := .boolean) Bd.returns (by simp) (hb hby at_53) hr), hrun, hended, _, _, rfl, ?_, ⟨_, rfl⟩, hW, hsame.mono (by decide) (by decide)⟩
    show Q_law_met Z w_INT w_DOUBLE w_BOOL p1 h0 n0 _ T8.heap _
    rw [e8]
    exact ⟨rfl, N8⟩
  · have k11 : Way p e below S0 s₁ (mkF m 7 #[iv p1, iv (1 : Int32), .unset, .unset] []) := by have q := k1; rw [hi2] at q; exact q
    have k12 : Way p e below S0 s₁ (mkF m 25 #[iv p1, iv (1 : Int32), .unset, .unset] []) := by
      intro t k
      refine k11 t ?_
      refine XS.iloadN X0.here hx rfl (hb hby at_7) rfl ?_
      show Steps p.tables e below (s₁.setTop (mkF m 8 #[iv p1, iv (1 : Int32), .unset, .unset] [(.int (1 : Int32))])) _
      refine XS.ifYes X0.here hx rfl (pc0 := 8) (pc' := 20) rfl (hb hby at_8) rfl ((if0 _ _).trans (feq ((by decide) : ¬ ((1 : Int32) = (0 : Int32)))).2) (by decide) (by decide) ?_
      show Steps p.tables e below (s₁.setTop (mkF m 20 #[iv p1, iv (1 : Int32), .unset, .unset] [])) _
      refine XS.iloadN X0.here hx rfl (hb hby at_20) rfl ?_
      show Steps p.tables e below (s₁.setTop (mkF m 21 #[iv p1, iv (1 : Int32), .unset, .unset] [(.int (1 : Int32))])) _
      refine XS.iconst X0.here hx rfl (hb hby at_21) ?_
      show Steps p.tables e below (s₁.setTop (mkF m 22 #[iv p1, iv (1 : Int32), .unset, .unset] [(.int (1 : Int32)), (.int (1 : Int32))])) _
      refine XS.icmpNo X0.here hx rfl (hb hby at_22) rfl (teq ((by decide) : (1 : Int32) = (1 : Int32))).2 ?_
      show Steps p.tables e below (s₁.setTop (mkF m 25 #[iv p1, iv (1 : Int32), .unset, .unset] [])) _
      exact k
    obtain ⟨T13, X13, e13, st13⟩ := getS2 X0 hx hZ hown (host := "") (Or.inl (hw _ (List.mem_of_getElem? (i := 12) rfl))) Via.refl e0 (S_w_DOUBLE.ext O0.2) (g := (mkF m 25 #[iv p1, iv (1 : Int32), .unset, .unset] [])) rfl (hb hby at_25)
    have k14 : Way p e below S0 T13 (mkF m 28 #[iv p1, iv (1 : Int32), .unset, .unset] [(.ref w_DOUBLE)]) := fun t k => k12 t (st13 _ k)
    have k15 : Way p e below S0 T13 (mkF m 41 #[iv p1, iv (1 : Int32), rv w_DOUBLE, iv (1 : Int32)] [(.ref w_DOUBLE)]) := by
      intro t k
      refine k14 t ?_
      refine XS.astoreN X13.here hx rfl (hb hby at_28) rfl rfl (l' := #[iv p1, iv (1 : Int32), rv w_DOUBLE, .unset]) rfl ?_
      show Steps p.tables e below (T13.setTop (mkF m 29 #[iv p1, iv (1 : Int32), rv w_DOUBLE, .unset] [])) _
      refine XS.iconst X13.here hx rfl (hb hby at_29) ?_
      show Steps p.tables e below (T13.setTop (mkF m 30 #[iv p1, iv (1 : Int32), rv w_DOUBLE, .unset] [(.int (1 : Int32))])) _
      refine XS.istoreN X13.here hx rfl (hb hby at_30) rfl (l' := #[iv p1, iv (1 : Int32), rv w_DOUBLE, iv (1 : Int32)]) rfl ?_
      show Steps p.tables e below (T13.setTop (mkF m 31 #[iv p1, iv (1 : Int32), rv w_DOUBLE, iv (1 : Int32)] [])) _
      refine XS.goto X13.here hx rfl (pc0 := 31) (pc' := 40) rfl (hb hby at_31) (by decide) (by decide) ?_
      show Steps p.tables e below (T13.setTop (mkF m 40 #[iv p1, iv (1 : Int32), rv w_DOUBLE, iv (1 : Int32)] [])) _
      refine XS.aloadN X13.here hx rfl (hb hby at_40) rfl rfl ?_
      show Steps p.tables e below (T13.setTop (mkF m 41 #[iv p1, iv (1 : Int32), rv w_DOUBLE, iv (1 : Int32)] [(.ref w_DOUBLE)])) _
      exact k
    obtain ⟨cq16, kq16, qq16a, qq16b, qq16c⟩ := isOf hZ e13 (E_w_DOUBLE.ext O0.2)
    obtain ⟨_, _, ⟨T16, L16, kk16, nn16⟩, -, X16, ⟨Lc16, hQ16, l16, y16, z16⟩, st16⟩ := X13.virtualBack hx (y := (⟨"com/example/inert_quotient/inertquotient/prism/Type", "isNumeric", "()Z"⟩ : MethodName)) (z := (⟨"com/example/inert_quotient/inertquotient/prism/Type", "isNumeric", "()Z"⟩ : MethodName)) hown (mvT hZ (hw _ (List.mem_of_getElem? (i := 4) rfl))) (mvT hZ (hw _ (List.mem_of_getElem? (i := 5) rfl))) (notFace_of_selects (args := #[]) (mvT hZ (hw _ (List.mem_of_getElem? (i := 7) rfl)))) (mvT hZ (hw _ (List.mem_of_getElem? (i := 7) rfl))) (mvT hZ (hw _ (List.mem_of_getElem? (i := 6) rfl))) (by decide) (backOf (W := 0) (num1 l Z a0 hw [] w_INT w_DOUBLE w_BOOL G  h0 n0 O0 ) hZ (hw _ (List.mem_of_getElem? (i := 8) rfl)) (hw _ (List.mem_of_getElem? (i := 2) rfl)) (by decide) (by decide)) qq16a qq16c (g := (mkF m 41 #[iv p1, iv (1 : Int32), rv w_DOUBLE, iv (1 : Int32)] [(.ref w_DOUBLE)])) rfl (by rw [hml]; rfl) (Steps.refl _) (argsL := []) (rest := []) (lenOf pd_0 rfl) rfl (by show 2 * 0 + _ ≤ _; exact Nat.le_of_eq rfl) (hb hby at_41) (fun _ _ => ⟨rfl, e13, (by decide : 0 + 0 ≤ _), (by decide : 0 + 0 ≤ _)⟩)
    dsimp only [Pt.U, Pt.locs, Pt.cells, Pt.slots] at X16 l16 y16 z16 st16 hQ16
    subst l16 y16 z16
    obtain ⟨rfl, Nq16, e16⟩ := hQ16
    have N16 := Fr.app N0 Nq16
    have k17 : Way p e below S0 T16 (mkF m 44 #[iv p1, iv (1 : Int32), rv w_DOUBLE, iv (1 : Int32)] [(.int (1 : Int32))]) := fun t k => k15 t (st16.trans k)
    have k18 : Way p e below S0 T16 (mkF m 53 #[iv p1, iv (1 : Int32), rv w_DOUBLE, iv (1 : Int32)] [(.int (1 : Int32))]) := by
      intro t k
      refine k17 t ?_
      refine XS.iloadN X16.here hx rfl (hb hby at_44) rfl ?_
      show Steps p.tables e below (T16.setTop (mkF m 45 #[iv p1, iv (1 : Int32), rv w_DOUBLE, iv (1 : Int32)] [(.int (1 : Int32)), (.int (1 : Int32))])) _
      refine XS.icmpNo X16.here hx rfl (hb hby at_45) rfl (teq ((by decide) : (1 : Int32) = (1 : Int32))).2 ?_
      show Steps p.tables e below (T16.setTop (mkF m 48 #[iv p1, iv (1 : Int32), rv w_DOUBLE, iv (1 : Int32)] [])) _
      refine XS.iconst X16.here hx rfl (hb hby at_48) ?_
      show Steps p.tables e below (T16.setTop (mkF m 49 #[iv p1, iv (1 : Int32), rv w_DOUBLE, iv (1 : Int32)] [(.int (1 : Int32))])) _
      refine XS.goto X16.here hx rfl (pc0 := 49) (pc' := 53) rfl (hb hby at_49) (by decide) (by decide) ?_
      show Steps p.tables e below (T16.setTop (mkF m 53 #[iv p1, iv (1 : Int32), rv w_DOUBLE, iv (1 : Int32)] [(.int (1 : Int32))])) _
      exact k
    obtain ⟨fs, hr, hrun, hended, hW, hsame⟩ := X16.leave (v := some (.int (1 : Int32))) (fun h => by rw [Bd.returns] at h; cases h)
    refine ⟨_, _, k18 _ (retN X16 hx (t := .boolean) Bd.returns (by simp) (hb hby at_53) hr), hrun, hended, _, _, rfl, ?_, ⟨_, rfl⟩, hW, hsame.mono (by decide) (by decide)⟩
    show Q_law_met Z w_INT w_DOUBLE w_BOOL p1 h0 n0 _ T16.heap _
    rw [e16]
    exact ⟨rfl, N16⟩
  · have k19 : Way p e below S0 s₁ (mkF m 7 #[iv p1, iv (2 : Int32), .unset, .unset] []) := by have q := k1; rw [hi2] at q; exact q
    have k20 : Way p e below S0 s₁ (mkF m 34 #[iv p1, iv (2 : Int32), .unset, .unset] []) := by
      intro t k
      refine k19 t ?_
      refine XS.iloadN X0.here hx rfl (hb hby at_7) rfl ?_
      show Steps p.tables e below (s₁.setTop (mkF m 8 #[iv p1, iv (2 : Int32), .unset, .unset] [(.int (2 : Int32))])) _
      refine XS.ifYes X0.here hx rfl (pc0 := 8) (pc' := 20) rfl (hb hby at_8) rfl ((if0 _ _).trans (feq ((by decide) : ¬ ((2 : Int32) = (0 : Int32)))).2) (by decide) (by decide) ?_
      show Steps p.tables e below (s₁.setTop (mkF m 20 #[iv p1, iv (2 : Int32), .unset, .unset] [])) _
      refine XS.iloadN X0.here hx rfl (hb hby at_20) rfl ?_
      show Steps p.tables e below (s₁.setTop (mkF m 21 #[iv p1, iv (2 : Int32), .unset, .unset] [(.int (2 : Int32))])) _
      refine XS.iconst X0.here hx rfl (hb hby at_21) ?_
      show Steps p.tables e below (s₁.setTop (mkF m 22 #[iv p1, iv (2 : Int32), .unset, .unset] [(.int (1 : Int32)), (.int (2 : Int32))])) _
      refine XS.icmpYes X0.here hx rfl (pc0 := 22) (pc' := 34) rfl (hb hby at_22) rfl (feq ((by decide) : ¬ ((2 : Int32) = (1 : Int32)))).2 (by decide) (by decide) ?_
      show Steps p.tables e below (s₁.setTop (mkF m 34 #[iv p1, iv (2 : Int32), .unset, .unset] [])) _
      exact k
    obtain ⟨T21, X21, e21, st21⟩ := getS2 X0 hx hZ hown (host := "") (Or.inl (hw _ (List.mem_of_getElem? (i := 11) rfl))) Via.refl e0 (S_w_BOOL.ext O0.2) (g := (mkF m 34 #[iv p1, iv (2 : Int32), .unset, .unset] [])) rfl (hb hby at_34)
    have k22 : Way p e below S0 T21 (mkF m 37 #[iv p1, iv (2 : Int32), .unset, .unset] [(.ref w_BOOL)]) := fun t k => k20 t (st21 _ k)
    have k23 : Way p e below S0 T21 (mkF m 41 #[iv p1, iv (2 : Int32), rv w_BOOL, iv (0 : Int32)] [(.ref w_BOOL)]) := by
      intro t k
      refine k22 t ?_
      refine XS.astoreN X21.here hx rfl (hb hby at_37) rfl rfl (l' := #[iv p1, iv (2 : Int32), rv w_BOOL, .unset]) rfl ?_
      show Steps p.tables e below (T21.setTop (mkF m 38 #[iv p1, iv (2 : Int32), rv w_BOOL, .unset] [])) _
      refine XS.iconst X21.here hx rfl (hb hby at_38) ?_
      show Steps p.tables e below (T21.setTop (mkF m 39 #[iv p1, iv (2 : Int32), rv w_BOOL, .unset] [(.int (0 : Int32))])) _
      refine XS.istoreN X21.here hx rfl (hb hby at_39) rfl (l' := #[iv p1, iv (2 : Int32), rv w_BOOL, iv (0 : Int32)]) rfl ?_
      show Steps p.tables e below (T21.setTop (mkF m 40 #[iv p1, iv (2 : Int32), rv w_BOOL, iv (0 : Int32)] [])) _
      refine XS.aloadN X21.here hx rfl (hb hby at_40) rfl rfl ?_
      show Steps p.tables e below (T21.setTop (mkF m 41 #[iv p1, iv (2 : Int32), rv w_BOOL, iv (0 : Int32)] [(.ref w_BOOL)])) _
      exact k
    obtain ⟨cq24, kq24, qq24a, qq24b, qq24c⟩ := isOf hZ e21 (E_w_BOOL.ext O0.2)
    obtain ⟨_, _, ⟨T24, L24, kk24, nn24⟩, -, X24, ⟨Lc24, hQ24, l24, y24, z24⟩, st24⟩ := X21.virtualBack hx (y := (⟨"com/example/inert_quotient/inertquotient/prism/Type", "isNumeric", "()Z"⟩ : MethodName)) (z := (⟨"com/example/inert_quotient/inertquotient/prism/Type", "isNumeric", "()Z"⟩ : MethodName)) hown (mvT hZ (hw _ (List.mem_of_getElem? (i := 4) rfl))) (mvT hZ (hw _ (List.mem_of_getElem? (i := 5) rfl))) (notFace_of_selects (args := #[]) (mvT hZ (hw _ (List.mem_of_getElem? (i := 7) rfl)))) (mvT hZ (hw _ (List.mem_of_getElem? (i := 7) rfl))) (mvT hZ (hw _ (List.mem_of_getElem? (i := 6) rfl))) (by decide) (backOf (W := 0) (num2 l Z a0 hw [] w_INT w_DOUBLE w_BOOL G  h0 n0 O0 ) hZ (hw _ (List.mem_of_getElem? (i := 8) rfl)) (hw _ (List.mem_of_getElem? (i := 2) rfl)) (by decide) (by decide)) qq24a qq24c (g := (mkF m 41 #[iv p1, iv (2 : Int32), rv w_BOOL, iv (0 : Int32)] [(.ref w_BOOL)])) rfl (by rw [hml]; rfl) (Steps.refl _) (argsL := []) (rest := []) (lenOf pd_0 rfl) rfl (by show 2 * 0 + _ ≤ _; exact Nat.le_of_eq rfl) (hb hby at_41) (fun _ _ => ⟨rfl, e21, (by decide : 0 + 0 ≤ _), (by decide : 0 + 0 ≤ _)⟩)
    dsimp only [Pt.U, Pt.locs, Pt.cells, Pt.slots] at X24 l24 y24 z24 st24 hQ24
    subst l24 y24 z24
    obtain ⟨rfl, Nq24, e24⟩ := hQ24
    have N24 := Fr.app N0 Nq24
    have k25 : Way p e below S0 T24 (mkF m 44 #[iv p1, iv (2 : Int32), rv w_BOOL, iv (0 : Int32)] [(.int (0 : Int32))]) := fun t k => k23 t (st24.trans k)
    have k26 : Way p e below S0 T24 (mkF m 53 #[iv p1, iv (2 : Int32), rv w_BOOL, iv (0 : Int32)] [(.int (1 : Int32))]) := by
      intro t k
      refine k25 t ?_
      refine XS.iloadN X24.here hx rfl (hb hby at_44) rfl ?_
      show Steps p.tables e below (T24.setTop (mkF m 45 #[iv p1, iv (2 : Int32), rv w_BOOL, iv (0 : Int32)] [(.int (0 : Int32)), (.int (0 : Int32))])) _
      refine XS.icmpNo X24.here hx rfl (hb hby at_45) rfl (teq ((by decide) : (0 : Int32) = (0 : Int32))).2 ?_
      show Steps p.tables e below (T24.setTop (mkF m 48 #[iv p1, iv (2 : Int32), rv w_BOOL, iv (0 : Int32)] [])) _
      refine XS.iconst X24.here hx rfl (hb hby at_48) ?_
      show Steps p.tables e below (T24.setTop (mkF m 49 #[iv p1, iv (2 : Int32), rv w_BOOL, iv (0 : Int32)] [(.int (1 : Int32))])) _
      refine XS.goto X24.here hx rfl (pc0 := 49) (pc' := 53) rfl (hb hby at_49) (by decide) (by decide) ?_
      show Steps p.tables e below (T24.setTop (mkF m 53 #[iv p1, iv (2 : Int32), rv w_BOOL, iv (0 : Int32)] [(.int (1 : Int32))])) _
      exact k
    obtain ⟨fs, hr, hrun, hended, hW, hsame⟩ := X24.leave (v := some (.int (1 : Int32))) (fun h => by rw [Bd.returns] at h; cases h)
    refine ⟨_, _, k26 _ (retN X24 hx (t := .boolean) Bd.returns (by simp) (hb hby at_53) hr), hrun, hended, _, _, rfl, ?_, ⟨_, rfl⟩, hW, hsame.mono (by decide) (by decide)⟩
    show Q_law_met Z w_INT w_DOUBLE w_BOOL p1 h0 n0 _ T24.heap _
    rw [e24]
    exact ⟨rfl, N24⟩
set_option maxRecDepth 65536 in
set_option maxHeartbeats 40000000 in
theorem comes_1 {Post : Tables → Env → Array Value → State → Outcome → State → Prop} (hpost : ∀ tb e args s v u, (limb_1_1.after args s (.returned v) u = true ∧ limb_1_2.after args s (.returned v) u = true ∧ True) → FrameEnd s (.returned v) u (Jvm.fieldLocs frame_1_writes args s ++ Jvm.arrayLocs frame_1_arrays args s ++ Jvm.staticLocs frame_1_statics s) 0 0 → Post tb e args s (.returned v) u) :
    ArmFor flags0 classFile x code maxLocals ret World_1 tables_1 room_1 Calls_1 rest_1 Pre_1 Post := by
  intro l hfl _ _ p e ha hc hk s m args below hf hA hF happ hP
  obtain ⟨hcalls, hrest, hpre⟩ := hP
  obtain ⟨-, -, -, hnamed, -, -, -, hat⟩ := (Spec.applies_iff hf).mp happ
  obtain ⟨hg, hn⟩ := and_e (Cond.before_iff.mp (show (Jvm.Cond.and given_1 narrow_1).before args s = true from hpre))
  obtain ⟨g1a, g1b⟩ := and_e hg
  obtain ⟨g2a, g2b⟩ := and_e hn
  obtain ⟨g3a, g3b⟩ := and_e g2b
  obtain ⟨g4a, g4b⟩ := and_e g3b
  obtain ⟨g5a, g5b⟩ := and_e g4b
  obtain ⟨g6a, g6b⟩ := and_e g5b
  obtain ⟨w0, rfl⟩ : ∃ w0 : Value, args = #[w0] := by
    have hs : args.size = 1 := by simpa [Cond.value, given_1] using g1a
    obtain ⟨L⟩ := args
    match L, hs with
    | [w0], _ => exact ⟨w0, rfl⟩
  have hw := fun d (hd : d ∈ tables_1) => atoms_spec (ws := Jvm.Cond.code x code maxLocals ret :: tables_1) hat d (List.mem_cons_of_mem _ hd)
  have hfit : Fit s := fun {y c} hc i hi => by
    obtain ⟨ha, rfl⟩ := Array.getElem?_eq_some_iff.mp hc
    have q := List.all_eq_true.mp ((Array.all_eq_true_iff_forall_mem.mp hF) _ (Array.getElem_mem ha)) i (List.mem_range.mpr hi)
    simpa [Array.getElem?_eq_getElem hi] using q
  obtain ⟨i0, ei0⟩ := is_v g1b
  obtain rfl : w0 = (.int i0) := Option.some.inj ei0
  obtain ⟨w_INT, ev_w_INT⟩ := exa_v g2a
  have S_w_INT := Sta.start ev_w_INT (Or.inr ⟨(hw _ (List.mem_of_getElem? (i := 2) rfl)), (hw _ (List.mem_of_getElem? (i := 3) rfl))⟩)
  have E_w_INT := Exa.start ev_w_INT g2a
  obtain ⟨w_BOOL, ev_w_BOOL⟩ := exa_v g3a
  have S_w_BOOL := Sta.start ev_w_BOOL (Or.inr ⟨(hw _ (List.mem_of_getElem? (i := 2) rfl)), (hw _ (List.mem_of_getElem? (i := 10) rfl))⟩)
  have E_w_BOOL := Exa.start ev_w_BOOL g3a
  obtain ⟨w_DOUBLE, ev_w_DOUBLE⟩ := exa_v g6a
  have S_w_DOUBLE := Sta.start ev_w_DOUBLE (Or.inr ⟨(hw _ (List.mem_of_getElem? (i := 2) rfl)), (hw _ (List.mem_of_getElem? (i := 13) rfl))⟩)
  have E_w_DOUBLE := Exa.start ev_w_DOUBLE g6a
  have F_w_INT_ordinal := Fld.start (own_eqF ev_w_INT g4a)
  have F_w_BOOL_ordinal := Fld.start (own_eqF ev_w_BOOL g5a)
  have F_w_DOUBLE_ordinal := Fld.start (own_eqF ev_w_DOUBLE g6b)
  have G : Gst s w_INT w_DOUBLE w_BOOL := ⟨S_w_INT, E_w_INT, F_w_INT_ordinal, S_w_DOUBLE, E_w_DOUBLE, F_w_DOUBLE_ordinal, S_w_BOOL, E_w_BOOL, F_w_BOOL_ordinal⟩
  obtain ⟨n, o, h1, h2, h3, _, L, rfl, ⟨rfl, N⟩, hq⟩ := law_met l s _ hw tables_1 w_INT w_DOUBLE w_BOOL G i0 s.heap s.heap.size (Old.start s)  p e ha hc hk s m _ below hf ((Spec.applies_iff_loose hf).mp happ).1 ⟨rfl, State.Warmed39.refl s, rfl⟩ trivial
  refine ⟨n, _, h1, h2, h3, hpost _ _ _ _ _ _ ⟨Cond.after_iff.mpr rfl, Cond.after_iff.mpr (eq_i res_at (Term.int_eval (1)) rfl), trivial⟩ ⟨hq.1, hq.2.1, (hq.2.2.sift fun y hy => Or.inr (N y hy)).mono (by decide) (by decide)⟩⟩
theorem main_1_1 : Claimed_1_1 := comes_1 fun _ _ _ _ _ _ h hF => ⟨h.1, hF⟩
theorem main_1_2 : Claimed_1_2 := comes_1 fun _ _ _ _ _ _ h hF => ⟨h.2.1, hF⟩
end Jvm.Pilot.@@N@@
namespace Jvm.Pilot.@@N@@
open Jvm Jvm.ClassFile Sem Op Lib Jvm.Free Jvm.Stand Jvm.Pilot.@@N@@.Jvm.D
/-! MADE BY PROGRAM (witnessworld.py) out of the Statement's table words and the real class files: 12 classes; the members and pool entries that the words name. The judged class is class 1, her method 1. -/
namespace start1
open Jvm.ClassFile
def u (s : String) : CpInfo := .utf8 (stringToUtf16 s)
/-- a pool by its gaps: so many unusable entries, then the entry; so many at the end -/
def gap : Nat → List CpInfo → List CpInfo
  | 0, r => r
  | n + 1, r => .unusable :: gap n r
def poolList (es : List (Nat × CpInfo)) (last : Nat) : List CpInfo := es.foldr (fun e r => gap e.1 (e.2 :: r)) (gap last [])
def pool (es : List (Nat × CpInfo)) (last : Nat) : Array CpInfo := ⟨poolList es last⟩
def fileOf (pool : Array CpInfo) (this : Nat) (attrs : Array Attribute := #[]) (ms : Array MethodInfo := #[]) (fl : Nat := 33) (sup : Nat := 0) (ifs : Array Nat := #[]) (fds : Array FieldInfo := #[]) : ClassFile where
  minorVersion := 0
  majorVersion := 65
  constantPool := pool
  accessFlags := fl
  thisClass := this
  superClass := sup
  interfaces := ifs
  fields := fds
  methods := ms
  attributes := attrs
def plain (name : String) (sup : Option ClassId) : Class where
  name := name
  kind := .ordinary
  loader := none
  accessFlags := 33
  super := sup
  interfaces := #[]
  cf := none
  fields := #[]
  methods := #[]
  instanceTypes := #[]
  staticTypes := #[]
  resolved := #[]
  callSites := []
  init := .initialized
  statics := none
  mirror := none

def pool0 : Array CpInfo := pool [(5, u "<init>"), (0, u "()V"), (1, .class_ 10), (1, u "java/lang/Object")] 113

def k0m0 : Method := { name := "<init>", desc := "()V", sig := { parameters := [], returnType := none }, accessFlags := 1, code := none }
/-- java/lang/Object -/
def k0 : Class := { plain "java/lang/Object" none with
  accessFlags := 33
  interfaces := #[]
  cf := some (fileOf pool0 8 #[] #[{ accessFlags := 1, nameIndex := 5, descriptorIndex := 6, attributes := #[] }] 33 0 #[] #[])
  fields := #[]
  methods := #[k0m0]
  instanceTypes := #[]
  staticTypes := #[]
  resolved := Array.replicate 124 none
  statics := none }

def pool1 : Array CpInfo := pool [(2, .class_ 4), (1, u "java/lang/Object"), (0, u "<init>"), (0, u "()V"), (0, .integer 2147483647), (0, .fieldref 9 10), (0, .class_ 11), (0, .nameAndType 12 13), (0, u "com/example/inert_quotient/inertquotient/prism/Type"), (0, u "INT"), (0, u "Lcom/example/inert_quotient/inertquotient/prism/Type;"), (0, .fieldref 9 15), (0, .nameAndType 16 13), (0, u "DOUBLE"), (0, .fieldref 9 18), (0, .nameAndType 19 13), (0, u "BOOL"), (0, .methodref 9 21), (0, .nameAndType 22 23), (0, u "isNumeric"), (0, u "()Z"), (0, .class_ 25), (0, u "com/example/inert_quotient/inertquotient/prism/TypeIsNumericPinLaw"), (2, u "law"), (0, u "(I)Z")] 3

def k1m0 : Method := { name := "<init>", desc := "()V", sig := { parameters := [], returnType := none }, accessFlags := 1, code := none }
def k1c1 : Code := { maxStack := 2, maxLocals := 4, code := code, exceptionTable := #[], attributes := #[] }
def k1m1 : Method := { name := "law", desc := "(I)Z", sig := { parameters := [.int], returnType := some .boolean }, accessFlags := 9, code := some k1c1 }
/-- com/example/inert_quotient/inertquotient/prism/TypeIsNumericPinLaw -/
def k1 : Class := { plain "com/example/inert_quotient/inertquotient/prism/TypeIsNumericPinLaw" (some 0) with
  accessFlags := 49
  interfaces := #[]
  cf := some (fileOf pool1 24 #[] #[{ accessFlags := 1, nameIndex := 5, descriptorIndex := 6, attributes := #[] }, { accessFlags := 9, nameIndex := 28, descriptorIndex := 29, attributes := #[] }] 49 2 #[] #[])
  fields := #[]
  methods := #[k1m0, k1m1]
  instanceTypes := #[]
  staticTypes := #[]
  resolved := Array.replicate 33 none
  statics := none }

def pool2 : Array CpInfo := pool [(1, .class_ 2), (0, u "java/lang/constant/Constable"), (0, .class_ 4), (0, u "java/lang/Object")] 6

/-- java/lang/constant/Constable -/
def k2 : Class := { plain "java/lang/constant/Constable" (some 0) with
  accessFlags := 1537
  interfaces := #[]
  cf := some (fileOf pool2 1 #[] #[] 1537 3 #[] #[])
  fields := #[]
  methods := #[]
  instanceTypes := #[]
  staticTypes := #[]
  resolved := Array.replicate 11 none
  statics := none }

def pool3 : Array CpInfo := pool [(1, .class_ 2), (0, u "java/lang/Comparable"), (0, .class_ 4), (0, u "java/lang/Object")] 7

/-- java/lang/Comparable -/
def k3 : Class := { plain "java/lang/Comparable" (some 0) with
  accessFlags := 1537
  interfaces := #[]
  cf := some (fileOf pool3 1 #[] #[] 1537 3 #[] #[])
  fields := #[]
  methods := #[]
  instanceTypes := #[]
  staticTypes := #[]
  resolved := Array.replicate 12 none
  statics := none }

def pool4 : Array CpInfo := pool [(1, .class_ 2), (0, u "java/io/Serializable"), (0, .class_ 4), (0, u "java/lang/Object")] 2

/-- java/io/Serializable -/
def k4 : Class := { plain "java/io/Serializable" (some 0) with
  accessFlags := 1537
  interfaces := #[]
  cf := some (fileOf pool4 1 #[] #[] 1537 3 #[] #[])
  fields := #[]
  methods := #[]
  instanceTypes := #[]
  staticTypes := #[]
  resolved := Array.replicate 7 none
  statics := none }

def pool5 : Array CpInfo := pool [(2, .class_ 4), (1, u "java/lang/Enum"), (0, u "name"), (0, u "Ljava/lang/String;"), (2, u "ordinal"), (0, u "I"), (1, .class_ 14), (1, u "java/lang/Object"), (4, u "hash"), (86, .class_ 108), (1, u "java/lang/Enum$EnumDesc"), (2, .class_ 112), (0, u "java/lang/constant/Constable"), (0, .class_ 114), (0, u "java/lang/Comparable"), (0, .class_ 116), (0, u "java/io/Serializable")] 87

/-- java/lang/Enum -/
def k5 : Class := { plain "java/lang/Enum" (some 0) with
  accessFlags := 1057
  interfaces := #[2, 3, 4]
  cf := some (fileOf pool5 2 #[.nestMembers #[106]] #[] 1057 12 #[111, 113, 115] #[{ accessFlags := 18, nameIndex := 5, descriptorIndex := 6, attributes := #[] }, { accessFlags := 18, nameIndex := 9, descriptorIndex := 10, attributes := #[] }, { accessFlags := 2, nameIndex := 19, descriptorIndex := 10, attributes := #[] }])
  fields := #[{ name := "name", type := (.object "java/lang/String"), accessFlags := 18, slot := 0, constantValue := 0 }, { name := "ordinal", type := .int, accessFlags := 18, slot := 1, constantValue := 0 }, { name := "hash", type := .int, accessFlags := 2, slot := 2, constantValue := 0 }]
  methods := #[]
  instanceTypes := #[(.object "java/lang/String"), .int, .int]
  staticTypes := #[]
  resolved := Array.replicate 204 none
  statics := none }

def pool6 : Array CpInfo := pool [(1, .class_ 2), (0, u "com/example/inert_quotient/inertquotient/prism/Type"), (2, u "INT"), (0, u "Lcom/example/inert_quotient/inertquotient/prism/Type;"), (2, u "DOUBLE"), (0, .fieldref 1 11), (0, .nameAndType 12 6), (0, u "BOOL"), (2, u "$VALUES"), (0, u "[Lcom/example/inert_quotient/inertquotient/prism/Type;"), (6, .class_ 25), (1, u "java/lang/Enum"), (8, u "keyword"), (0, u "Ljava/lang/String;"), (23, u "isNumeric"), (0, u "()Z")] 8

def k6c0 : Code := { maxStack := 2, maxLocals := 1, code := prog_77_method_4_code, exceptionTable := #[], attributes := #[] }
def k6m0 : Method := { name := "isNumeric", desc := "()Z", sig := { parameters := [], returnType := some .boolean }, accessFlags := 1, code := some k6c0 }
/-- com/example/inert_quotient/inertquotient/prism/Type -/
def k6 : Class := { plain "com/example/inert_quotient/inertquotient/prism/Type" (some 5) with
  accessFlags := 16433
  interfaces := #[]
  cf := some (fileOf pool6 1 #[] #[{ accessFlags := 1, nameIndex := 59, descriptorIndex := 60, attributes := #[] }] 16433 23 #[] #[{ accessFlags := 16409, nameIndex := 5, descriptorIndex := 6, attributes := #[] }, { accessFlags := 16409, nameIndex := 9, descriptorIndex := 6, attributes := #[] }, { accessFlags := 16409, nameIndex := 12, descriptorIndex := 6, attributes := #[] }, { accessFlags := 18, nameIndex := 34, descriptorIndex := 35, attributes := #[] }, { accessFlags := 4122, nameIndex := 15, descriptorIndex := 16, attributes := #[] }])
  fields := #[{ name := "INT", type := (.object "com/example/inert_quotient/inertquotient/prism/Type"), accessFlags := 16409, slot := 0, constantValue := 0 }, { name := "DOUBLE", type := (.object "com/example/inert_quotient/inertquotient/prism/Type"), accessFlags := 16409, slot := 1, constantValue := 0 }, { name := "BOOL", type := (.object "com/example/inert_quotient/inertquotient/prism/Type"), accessFlags := 16409, slot := 2, constantValue := 0 }, { name := "keyword", type := (.object "java/lang/String"), accessFlags := 18, slot := 3, constantValue := 0 }, { name := "$VALUES", type := (.array (.object "com/example/inert_quotient/inertquotient/prism/Type")), accessFlags := 4122, slot := 3, constantValue := 0 }]
  methods := #[k6m0]
  instanceTypes := #[(.object "java/lang/String"), .int, .int, (.object "java/lang/String")]
  staticTypes := #[(.object "com/example/inert_quotient/inertquotient/prism/Type"), (.object "com/example/inert_quotient/inertquotient/prism/Type"), (.object "com/example/inert_quotient/inertquotient/prism/Type"), (.array (.object "com/example/inert_quotient/inertquotient/prism/Type"))]
  resolved := Array.replicate 69 none
  statics := some 0 }

def pool7 : Array CpInfo := pool [(1, u "java/lang/Cloneable"), (0, .class_ 1), (0, u "java/lang/Object"), (0, .class_ 3)] 3

/-- java/lang/Cloneable -/
def k7 : Class := { plain "java/lang/Cloneable" (some 0) with
  accessFlags := 1537
  interfaces := #[]
  cf := some (fileOf pool7 2 #[] #[] 1537 4 #[] #[])
  fields := #[]
  methods := #[]
  instanceTypes := #[]
  staticTypes := #[]
  resolved := Array.replicate 8 none
  statics := none }

/-- the primitive byte -/
def k8 : Class := { plain "byte" none with kind := .primitive 'B', accessFlags := 0x411 }
/-- [B -/
def k9 : Class := { plain "[B" (some 0) with kind := .array 8 .byte, interfaces := #[7, 4], accessFlags := 1041 }

/-- the primitive int -/
def k10 : Class := { plain "int" none with kind := .primitive 'I', accessFlags := 0x411 }
/-- [I -/
def k11 : Class := { plain "[I" (some 0) with kind := .array 10 .int, interfaces := #[7, 4], accessFlags := 1041 }

def heap : Heap := #[{ cls := 6, slots := #[.ref 1, .ref 2, .ref 3, .null], vm := .statics 6 },
  { cls := 6, slots := #[.null, .int 0, .int 0, .null], vm := .none },
  { cls := 6, slots := #[.null, .int 1, .int 0, .null], vm := .none },
  { cls := 6, slots := #[.null, .int 2, .int 0, .null], vm := .none }]
def classes : Array Class := #[k0, k1, k2, k3, k4, k5, k6, k7, k8, k9, k10, k11]
def interned : List (Array UInt16 × Addr) := []
def slotsUsed : Nat := 16
def theMethod : MethodId := ⟨1, 1⟩
def args0 : Array Value := #[.int 5]
def aboutOver (below : List Frame) : State where
  vm := { classes := classes, interned := interned.toArray }
  heap := heap
  slotsUsed := slotsUsed
  threads := #[{ frames := .invoking theMethod args0 :: below }]
def below0 : List Frame := [.native { method := ⟨0, 0⟩, args := #[] }]
def about1 : State := aboutOver below0
def p0 : Program := .bare "" "" ""
def e0 : Env := launch0.env 0 0 0
theorem w_frames : about1.frames = Frame.invoking theMethod args0 :: below0 := rfl
set_option maxRecDepth 65536 in
theorem w_args : argsFit about1.vm theMethod args0 = true := by decide +kernel
set_option maxRecDepth 65536 in
theorem w_heap : heapFits about1 = true := by decide +kernel
set_option maxRecDepth 65536 in
theorem w_runnable : about1.curStatus? = some .runnable := by decide +kernel
set_option maxRecDepth 65536 in
theorem w_alone : about1.alone = true := by decide +kernel
set_option maxRecDepth 65536 in
theorem w_named : about1.methodNamed? x = some theMethod := by decide +kernel
set_option maxRecDepth 65536 in
theorem w_hears : about1.hears theMethod below0 = true := by decide +kernel
set_option maxRecDepth 65536 in
theorem w_ripe : about1.ripe theMethod args0 below0 = true := by decide +kernel
theorem w_running : about1.status = .running := rfl
set_option maxRecDepth 65536 in
theorem w_room : about1.hasRoom e0.platform room_1 = true :=
  launch0.hasRoom_least _ room_1 (by decide +kernel) (by decide +kernel) (by decide +kernel) (by decide +kernel) (by decide +kernel) (by decide +kernel)
theorem allAtoms_all (ts : List Jvm.Cond) (a : Array Jvm.Value) (st : Jvm.State) : (allAtoms ts).before a st = ts.all (fun c => c.before a st) := by
  induction ts with
  | nil => rfl
  | cons c t ih =>
    show (Jvm.Cond.and c (allAtoms t)).before a st = _
    rw [Jvm.Cond.before_and, ih, List.all_cons]
def words1 : List Jvm.Cond := Jvm.Cond.code x code maxLocals ret :: tables_1
/-- a 'code' word, met by the world's own term for the bytes: nothing is compared byte by byte -/
theorem code_word {y : MethodName} {bytes : ByteArray} {mx : Nat} {rt : Option FieldType} {a : Array Value} {s : State} {m : MethodId} {meth : Method} {c : Code} (h1 : s.methodNamed? y = some m) (h2 : s.vm.method? m = some meth) (h3 : meth.code = some c) (h4 : c.code = bytes)
    (h5 : (c.maxLocals == mx && c.exceptionTable.isEmpty && decide (c.maxStack ≤ mostOperands) && decide (meth.sig.returnType = rt) && !meth.locks && decide (parseMethodDescriptor y.desc = some meth.sig)) = true) : (Jvm.Cond.code y bytes mx rt).before a s = true := by
  simp only [Bool.and_eq_true, beq_iff_eq, Bool.not_eq_true', decide_eq_true_eq] at h5
  obtain ⟨⟨⟨⟨⟨g1, g2⟩, g3⟩, g4⟩, g5⟩, g6⟩ := h5
  simp [Cond.before, Cond.holds, Cond.value, h1, h2, h3, h4, g1, g2, g3, g4, g5, g6]
def isCode : Jvm.Cond → Bool
  | .code _ _ _ _ => true
  | _ => false
theorem all_split {L : List Jvm.Cond} {P : Jvm.Cond → Bool} (h1 : L.all (fun c => isCode c || P c) = true) (h2 : ∀ c ∈ L.filter isCode, P c = true) : L.all P = true := by
  refine List.all_eq_true.mpr fun c hc => ?_
  have h := List.all_eq_true.mp h1 c hc
  rcases Bool.eq_false_or_eq_true (isCode c) with hi | hi
  · exact h2 c (List.mem_filter.mpr ⟨hc, hi⟩)
  · simpa [hi] using h
set_option maxRecDepth 65536 in
theorem w_c0 : (Jvm.Cond.code x code maxLocals ret).before args0 about1 = true := code_word (m := ⟨1, 1⟩) (meth := k1m1) (c := k1c1) (by decide +kernel) rfl rfl rfl (by decide +kernel)
set_option maxRecDepth 65536 in
theorem w_c1 : (Jvm.Cond.code ({ cls := "com/example/inert_quotient/inertquotient/prism/Type", name := "isNumeric", desc := "()Z" } : Jvm.MethodName) prog_77_method_4_code (1 : Nat) (Option.some Jvm.ClassFile.FieldType.boolean)).before args0 about1 = true := code_word (m := ⟨6, 0⟩) (meth := k6m0) (c := k6c0) (by decide +kernel) rfl rfl rfl (by decide +kernel)
def codes1 : List Jvm.Cond := [Jvm.Cond.code x code maxLocals ret, Jvm.Cond.code ({ cls := "com/example/inert_quotient/inertquotient/prism/Type", name := "isNumeric", desc := "()Z" } : Jvm.MethodName) prog_77_method_4_code (1 : Nat) (Option.some Jvm.ClassFile.FieldType.boolean)]
set_option maxRecDepth 65536 in
theorem codes_eq : words1.filter isCode = codes1 := rfl
theorem w_codes : ∀ c ∈ words1.filter isCode, c.before args0 about1 = true := by
  rw [codes_eq]
  intro c hc
  simp only [codes1, List.mem_cons, List.not_mem_nil, or_false] at hc
  rcases hc with rfl | rfl
  · exact w_c0
  · exact w_c1
set_option maxRecDepth 65536 in
theorem w_t1 : words1.all (fun c => isCode c || c.before args0 about1) = true := by decide +kernel
theorem w_tables : (allAtoms (Jvm.Cond.code x code maxLocals ret :: tables_1)).before args0 about1 = true := by
  rw [allAtoms_all]
  show words1.all (fun c => c.before args0 about1) = true
  refine all_split ?_ w_codes
  rw [w_t1]
set_option maxRecDepth 65536 in
theorem w_case : (Jvm.Cond.and given_1 narrow_1).before args0 about1 = true := by decide +kernel
theorem w_applies : (headSpec (Jvm.Cond.code x code maxLocals ret :: tables_1) room_1).applies x e0.platform about1 = true :=
  (Spec.applies_iff w_frames).mpr ⟨w_running, w_runnable, w_alone, w_named, w_hears, w_ripe, w_room, w_tables⟩
theorem atStart : AtStart classFile x code maxLocals ret World_1 tables_1 room_1 Calls_1 rest_1 Pre_1 launch0 p0 e0 about1 theMethod args0 below0 :=
  ⟨lists_1, trivial, launch0.admits_env _ _ _, launch0.least_env, fairChoices_fair.cas, fairChoices_fair.clock, w_frames, w_args, w_heap, w_applies, trivial, trivial, w_case⟩
end start1
theorem witness_1 : WitnessClaimed_1 := ⟨start1.p0, start1.e0, start1.about1, start1.theMethod, start1.args0, start1.below0, start1.atStart⟩
end Jvm.Pilot.@@N@@
