import JvmDerived
import JvmDerived.Pilot.@@N@@Statement
import JvmDerived.Pilot.@@N@@Code
set_option linter.unusedVariables false
set_option linter.unusedSimpArgs false
namespace Jvm.Pilot.@@N@@
open Jvm Jvm.ClassFile Sem Op Lib Jvm.Free Jvm.Stand Jvm.LawKit Jvm.RoadKit Bundle Jvm.Pilot.@@N@@.Jvm.D
abbrev Way (p : Program) (e : Env) (below : List Frame) (S0 T : State) (g : JFrame) : Prop := ∀ t, Steps p.tables e below (T.setTop g) t → Steps p.tables e below S0 t
theorem own_old {Z : State} {n0 : Nat} {h : Heap} (O : Old Z n0 h) : n0 ≤ h.size := O.1 ▸ O.2.1
theorem own_eqF {args : Array Value} {s : State} {t : Term} {x : Addr} {C n d : String} {k : Int32} (ht : t.eval args s none [] s = some (.ref x)) (h : (Jvm.Cond.eq (.field t C n d) (.int k)).value args s none s [] = some true) : s.fieldOf? x C n d = some (.int k) :=
  (fld_at ht).symm.trans (Cond.eq_int (Cond.before_iff.mpr h) rfl)
theorem own_rem16 (x : Int32) : ((x &&& (2147483647 : Int32)) % (16 : Int32)) = (0 : Int32) ∨ ((x &&& (2147483647 : Int32)) % (16 : Int32)) = (1 : Int32) ∨ ((x &&& (2147483647 : Int32)) % (16 : Int32)) = (2 : Int32) ∨ ((x &&& (2147483647 : Int32)) % (16 : Int32)) = (3 : Int32) ∨ ((x &&& (2147483647 : Int32)) % (16 : Int32)) = (4 : Int32) ∨ ((x &&& (2147483647 : Int32)) % (16 : Int32)) = (5 : Int32) ∨ ((x &&& (2147483647 : Int32)) % (16 : Int32)) = (6 : Int32) ∨ ((x &&& (2147483647 : Int32)) % (16 : Int32)) = (7 : Int32) ∨ ((x &&& (2147483647 : Int32)) % (16 : Int32)) = (8 : Int32) ∨ ((x &&& (2147483647 : Int32)) % (16 : Int32)) = (9 : Int32) ∨ ((x &&& (2147483647 : Int32)) % (16 : Int32)) = (10 : Int32) ∨ ((x &&& (2147483647 : Int32)) % (16 : Int32)) = (11 : Int32) ∨ ((x &&& (2147483647 : Int32)) % (16 : Int32)) = (12 : Int32) ∨ ((x &&& (2147483647 : Int32)) % (16 : Int32)) = (13 : Int32) ∨ ((x &&& (2147483647 : Int32)) % (16 : Int32)) = (14 : Int32) ∨ ((x &&& (2147483647 : Int32)) % (16 : Int32)) = (15 : Int32) := by
  have h1 : (x &&& (2147483647 : Int32)).toInt = x.toInt % (2 ^ 31 : Nat) := c_mask x 2147483647 31 (by decide) (by decide)
  have h2 := (c_irem (x &&& (2147483647 : Int32)) (16 : Int32) 16 (by decide)).1 (by omega)
  have h3 : ((x &&& (2147483647 : Int32)) % (16 : Int32)).toInt = 0 ∨ ((x &&& (2147483647 : Int32)) % (16 : Int32)).toInt = 1 ∨ ((x &&& (2147483647 : Int32)) % (16 : Int32)).toInt = 2 ∨ ((x &&& (2147483647 : Int32)) % (16 : Int32)).toInt = 3 ∨ ((x &&& (2147483647 : Int32)) % (16 : Int32)).toInt = 4 ∨ ((x &&& (2147483647 : Int32)) % (16 : Int32)).toInt = 5 ∨ ((x &&& (2147483647 : Int32)) % (16 : Int32)).toInt = 6 ∨ ((x &&& (2147483647 : Int32)) % (16 : Int32)).toInt = 7 ∨ ((x &&& (2147483647 : Int32)) % (16 : Int32)).toInt = 8 ∨ ((x &&& (2147483647 : Int32)) % (16 : Int32)).toInt = 9 ∨ ((x &&& (2147483647 : Int32)) % (16 : Int32)).toInt = 10 ∨ ((x &&& (2147483647 : Int32)) % (16 : Int32)).toInt = 11 ∨ ((x &&& (2147483647 : Int32)) % (16 : Int32)).toInt = 12 ∨ ((x &&& (2147483647 : Int32)) % (16 : Int32)).toInt = 13 ∨ ((x &&& (2147483647 : Int32)) % (16 : Int32)).toInt = 14 ∨ ((x &&& (2147483647 : Int32)) % (16 : Int32)).toInt = 15 := by omega
  rcases h3 with h | h | h | h | h | h | h | h | h | h | h | h | h | h | h | h
  · exact Or.inl (Int32.toInt_inj.mp h)
  · exact Or.inr (Or.inl (Int32.toInt_inj.mp h))
  · exact Or.inr (Or.inr (Or.inl (Int32.toInt_inj.mp h)))
  · exact Or.inr (Or.inr (Or.inr (Or.inl (Int32.toInt_inj.mp h))))
  · exact Or.inr (Or.inr (Or.inr (Or.inr (Or.inl (Int32.toInt_inj.mp h)))))
  · exact Or.inr (Or.inr (Or.inr (Or.inr (Or.inr (Or.inl (Int32.toInt_inj.mp h))))))
  · exact Or.inr (Or.inr (Or.inr (Or.inr (Or.inr (Or.inr (Or.inl (Int32.toInt_inj.mp h)))))))
  · exact Or.inr (Or.inr (Or.inr (Or.inr (Or.inr (Or.inr (Or.inr (Or.inl (Int32.toInt_inj.mp h))))))))
  · exact Or.inr (Or.inr (Or.inr (Or.inr (Or.inr (Or.inr (Or.inr (Or.inr (Or.inl (Int32.toInt_inj.mp h)))))))))
  · exact Or.inr (Or.inr (Or.inr (Or.inr (Or.inr (Or.inr (Or.inr (Or.inr (Or.inr (Or.inl (Int32.toInt_inj.mp h))))))))))
  · exact Or.inr (Or.inr (Or.inr (Or.inr (Or.inr (Or.inr (Or.inr (Or.inr (Or.inr (Or.inr (Or.inl (Int32.toInt_inj.mp h)))))))))))
  · exact Or.inr (Or.inr (Or.inr (Or.inr (Or.inr (Or.inr (Or.inr (Or.inr (Or.inr (Or.inr (Or.inr (Or.inl (Int32.toInt_inj.mp h))))))))))))
  · exact Or.inr (Or.inr (Or.inr (Or.inr (Or.inr (Or.inr (Or.inr (Or.inr (Or.inr (Or.inr (Or.inr (Or.inr (Or.inl (Int32.toInt_inj.mp h)))))))))))))
  · exact Or.inr (Or.inr (Or.inr (Or.inr (Or.inr (Or.inr (Or.inr (Or.inr (Or.inr (Or.inr (Or.inr (Or.inr (Or.inr (Or.inl (Int32.toInt_inj.mp h))))))))))))))
  · exact Or.inr (Or.inr (Or.inr (Or.inr (Or.inr (Or.inr (Or.inr (Or.inr (Or.inr (Or.inr (Or.inr (Or.inr (Or.inr (Or.inr (Or.inl (Int32.toInt_inj.mp h)))))))))))))))
  · exact Or.inr (Or.inr (Or.inr (Or.inr (Or.inr (Or.inr (Or.inr (Or.inr (Or.inr (Or.inr (Or.inr (Or.inr (Or.inr (Or.inr (Or.inr ((Int32.toInt_inj.mp h))))))))))))))))
def Gst (Z : State) (w_TEXT : Addr) (w_COMPOSITE : Addr) (w_CLOSED_LIST : Addr) (w_LISTED : Addr) (w_URI : Addr) (w_ISO3166_1_ALPHA2 : Addr) (w_ISO639 : Addr) (w_ISO15924 : Addr) (w_POSITIVE_NUMBER : Addr) (w_POSITIVE_INTEGER : Addr) (w_NONNEGATIVE_INTEGER : Addr) (w_ISO8601_DATE : Addr) (w_DIGEST : Addr) (w_PER_TIME_STANDARD : Addr) (w_PER_COORDINATE_SYSTEM : Addr) (w_TIME_SPAN : Addr) : Prop := (Sta Z Z.heap "gradivo/spec/ValueKind" "TEXT" "Lgradivo/spec/ValueKind;" (.ref w_TEXT)) ∧ (Exa Z Z.heap w_TEXT "gradivo/spec/ValueKind") ∧ (Fld Z Z.heap w_TEXT "java/lang/Enum" "ordinal" "I" (.int (0 : Int32))) ∧ (Sta Z Z.heap "gradivo/spec/ValueKind" "COMPOSITE" "Lgradivo/spec/ValueKind;" (.ref w_COMPOSITE)) ∧ (Exa Z Z.heap w_COMPOSITE "gradivo/spec/ValueKind") ∧ (Fld Z Z.heap w_COMPOSITE "java/lang/Enum" "ordinal" "I" (.int (1 : Int32))) ∧ (Sta Z Z.heap "gradivo/spec/ValueKind" "CLOSED_LIST" "Lgradivo/spec/ValueKind;" (.ref w_CLOSED_LIST)) ∧ (Exa Z Z.heap w_CLOSED_LIST "gradivo/spec/ValueKind") ∧ (Fld Z Z.heap w_CLOSED_LIST "java/lang/Enum" "ordinal" "I" (.int (2 : Int32))) ∧ (Sta Z Z.heap "gradivo/spec/ValueKind" "LISTED" "Lgradivo/spec/ValueKind;" (.ref w_LISTED)) ∧ (Exa Z Z.heap w_LISTED "gradivo/spec/ValueKind") ∧ (Fld Z Z.heap w_LISTED "java/lang/Enum" "ordinal" "I" (.int (3 : Int32))) ∧ (Sta Z Z.heap "gradivo/spec/ValueKind" "URI" "Lgradivo/spec/ValueKind;" (.ref w_URI)) ∧ (Exa Z Z.heap w_URI "gradivo/spec/ValueKind") ∧ (Fld Z Z.heap w_URI "java/lang/Enum" "ordinal" "I" (.int (4 : Int32))) ∧ (Sta Z Z.heap "gradivo/spec/ValueKind" "ISO3166_1_ALPHA2" "Lgradivo/spec/ValueKind;" (.ref w_ISO3166_1_ALPHA2)) ∧ (Exa Z Z.heap w_ISO3166_1_ALPHA2 "gradivo/spec/ValueKind") ∧ (Fld Z Z.heap w_ISO3166_1_ALPHA2 "java/lang/Enum" "ordinal" "I" (.int (5 : Int32))) ∧ (Sta Z Z.heap "gradivo/spec/ValueKind" "ISO639" "Lgradivo/spec/ValueKind;" (.ref w_ISO639)) ∧ (Exa Z Z.heap w_ISO639 "gradivo/spec/ValueKind") ∧ (Fld Z Z.heap w_ISO639 "java/lang/Enum" "ordinal" "I" (.int (6 : Int32))) ∧ (Sta Z Z.heap "gradivo/spec/ValueKind" "ISO15924" "Lgradivo/spec/ValueKind;" (.ref w_ISO15924)) ∧ (Exa Z Z.heap w_ISO15924 "gradivo/spec/ValueKind") ∧ (Fld Z Z.heap w_ISO15924 "java/lang/Enum" "ordinal" "I" (.int (7 : Int32))) ∧ (Sta Z Z.heap "gradivo/spec/ValueKind" "POSITIVE_NUMBER" "Lgradivo/spec/ValueKind;" (.ref w_POSITIVE_NUMBER)) ∧ (Exa Z Z.heap w_POSITIVE_NUMBER "gradivo/spec/ValueKind") ∧ (Fld Z Z.heap w_POSITIVE_NUMBER "java/lang/Enum" "ordinal" "I" (.int (8 : Int32))) ∧ (Sta Z Z.heap "gradivo/spec/ValueKind" "POSITIVE_INTEGER" "Lgradivo/spec/ValueKind;" (.ref w_POSITIVE_INTEGER)) ∧ (Exa Z Z.heap w_POSITIVE_INTEGER "gradivo/spec/ValueKind") ∧ (Fld Z Z.heap w_POSITIVE_INTEGER "java/lang/Enum" "ordinal" "I" (.int (9 : Int32))) ∧ (Sta Z Z.heap "gradivo/spec/ValueKind" "NONNEGATIVE_INTEGER" "Lgradivo/spec/ValueKind;" (.ref w_NONNEGATIVE_INTEGER)) ∧ (Exa Z Z.heap w_NONNEGATIVE_INTEGER "gradivo/spec/ValueKind") ∧ (Fld Z Z.heap w_NONNEGATIVE_INTEGER "java/lang/Enum" "ordinal" "I" (.int (10 : Int32))) ∧ (Sta Z Z.heap "gradivo/spec/ValueKind" "ISO8601_DATE" "Lgradivo/spec/ValueKind;" (.ref w_ISO8601_DATE)) ∧ (Exa Z Z.heap w_ISO8601_DATE "gradivo/spec/ValueKind") ∧ (Fld Z Z.heap w_ISO8601_DATE "java/lang/Enum" "ordinal" "I" (.int (11 : Int32))) ∧ (Sta Z Z.heap "gradivo/spec/ValueKind" "DIGEST" "Lgradivo/spec/ValueKind;" (.ref w_DIGEST)) ∧ (Exa Z Z.heap w_DIGEST "gradivo/spec/ValueKind") ∧ (Fld Z Z.heap w_DIGEST "java/lang/Enum" "ordinal" "I" (.int (12 : Int32))) ∧ (Sta Z Z.heap "gradivo/spec/ValueKind" "PER_TIME_STANDARD" "Lgradivo/spec/ValueKind;" (.ref w_PER_TIME_STANDARD)) ∧ (Exa Z Z.heap w_PER_TIME_STANDARD "gradivo/spec/ValueKind") ∧ (Fld Z Z.heap w_PER_TIME_STANDARD "java/lang/Enum" "ordinal" "I" (.int (13 : Int32))) ∧ (Sta Z Z.heap "gradivo/spec/ValueKind" "PER_COORDINATE_SYSTEM" "Lgradivo/spec/ValueKind;" (.ref w_PER_COORDINATE_SYSTEM)) ∧ (Exa Z Z.heap w_PER_COORDINATE_SYSTEM "gradivo/spec/ValueKind") ∧ (Fld Z Z.heap w_PER_COORDINATE_SYSTEM "java/lang/Enum" "ordinal" "I" (.int (14 : Int32))) ∧ (Sta Z Z.heap "gradivo/spec/ValueKind" "TIME_SPAN" "Lgradivo/spec/ValueKind;" (.ref w_TIME_SPAN)) ∧ (Exa Z Z.heap w_TIME_SPAN "gradivo/spec/ValueKind") ∧ (Fld Z Z.heap w_TIME_SPAN "java/lang/Enum" "ordinal" "I" (.int (15 : Int32)))
theorem d_prog_105_method_8_code_0 : decode prog_105_method_8_code 0 = .ok (.aload_n 0, 1) := by decide +kernel
theorem d_prog_105_method_8_code_1 : decode prog_105_method_8_code 1 = .ok (.getstatic 10, 3) := by decide +kernel
theorem d_prog_105_method_8_code_4 : decode prog_105_method_8_code 4 = .ok (.if_acmp .eq 10, 3) := by decide +kernel
theorem d_prog_105_method_8_code_7 : decode prog_105_method_8_code 7 = .ok (.aload_n 0, 1) := by decide +kernel
theorem d_prog_105_method_8_code_8 : decode prog_105_method_8_code 8 = .ok (.getstatic 13, 3) := by decide +kernel
theorem d_prog_105_method_8_code_11 : decode prog_105_method_8_code 11 = .ok (.if_acmp .ne 7, 3) := by decide +kernel
theorem d_prog_105_method_8_code_18 : decode prog_105_method_8_code 18 = .ok (.iconst 0, 1) := by decide +kernel
theorem d_prog_105_method_8_code_19 : decode prog_105_method_8_code 19 = .ok (.ireturn, 1) := by decide +kernel
theorem pn_0 : plainName "gradivo/spec/ValueKind" = true := by first | (simp [plainName, overriddenIn]; done) | decide +kernel
theorem d_prog_105_method_8_code_14 : decode prog_105_method_8_code 14 = .ok (.iconst 1, 1) := by decide +kernel
theorem d_prog_105_method_8_code_15 : decode prog_105_method_8_code 15 = .ok (.goto 4, 3) := by decide +kernel
theorem pd_0 : parseMethodDescriptor "()Z" = some ⟨[], some .boolean⟩ := by decide +kernel
theorem pn_1 : plainName "gradivo/spec/ValueKindIsListPinLaw" = true := by first | (simp [plainName, overriddenIn]; done) | decide +kernel
def Q_isl0 (Z : State) (w_TEXT : Addr) (w_COMPOSITE : Addr) (w_CLOSED_LIST : Addr) (w_LISTED : Addr) (w_URI : Addr) (w_ISO3166_1_ALPHA2 : Addr) (w_ISO639 : Addr) (w_ISO15924 : Addr) (w_POSITIVE_NUMBER : Addr) (w_POSITIVE_INTEGER : Addr) (w_NONNEGATIVE_INTEGER : Addr) (w_ISO8601_DATE : Addr) (w_DIGEST : Addr) (w_PER_TIME_STANDARD : Addr) (w_PER_COORDINATE_SYSTEM : Addr) (w_TIME_SPAN : Addr)  (h0 : Heap) (n0 : Nat) (v : Option Value) (h : Heap) (L : List Loc) : Prop := (v = some (.int (0 : Int32))) ∧ (Fr n0 L) ∧ (h = h0)
set_option maxRecDepth 65536 in
set_option maxHeartbeats 40000000 in
theorem isl0 (l : Launch) (Z : State) (a0 : Array Value) (hw : ∀ d ∈ tables_1, d.before a0 Z = true) (ws : List Jvm.Cond) (w_TEXT : Addr) (w_COMPOSITE : Addr) (w_CLOSED_LIST : Addr) (w_LISTED : Addr) (w_URI : Addr) (w_ISO3166_1_ALPHA2 : Addr) (w_ISO639 : Addr) (w_ISO15924 : Addr) (w_POSITIVE_NUMBER : Addr) (w_POSITIVE_INTEGER : Addr) (w_NONNEGATIVE_INTEGER : Addr) (w_ISO8601_DATE : Addr) (w_DIGEST : Addr) (w_PER_TIME_STANDARD : Addr) (w_PER_COORDINATE_SYSTEM : Addr) (w_TIME_SPAN : Addr) (G : Gst Z w_TEXT w_COMPOSITE w_CLOSED_LIST w_LISTED w_URI w_ISO3166_1_ALPHA2 w_ISO639 w_ISO15924 w_POSITIVE_NUMBER w_POSITIVE_INTEGER w_NONNEGATIVE_INTEGER w_ISO8601_DATE w_DIGEST w_PER_TIME_STANDARD w_PER_COORDINATE_SYSTEM w_TIME_SPAN)  (h0 : Heap) (n0 : Nat) (O0 : Old Z n0 h0) :
    MetFree l (⟨"gradivo/spec/ValueKind", "isList", "()Z"⟩ : MethodName) (head1 (Jvm.Cond.code (⟨"gradivo/spec/ValueKind", "isList", "()Z"⟩ : MethodName) prog_105_method_8_code 1 (some .boolean) :: ws) ({ frames := 0, cells := 0, slots := 0, locals := 0 } : Room)) (fun a U => a = #[(.ref w_TEXT)] ∧ Z.Warmed39 U.vm ∧ U.heap = h0) (fun _ _ _ _ _ => True) (fun _ U o U' => ∃ v L, o = .returned v ∧ Q_isl0 Z w_TEXT w_COMPOSITE w_CLOSED_LIST w_LISTED w_URI w_ISO3166_1_ALPHA2 w_ISO639 w_ISO15924 w_POSITIVE_NUMBER w_POSITIVE_INTEGER w_NONNEGATIVE_INTEGER w_ISO8601_DATE w_DIGEST w_PER_TIME_STANDARD w_PER_COORDINATE_SYSTEM w_TIME_SPAN  h0 n0 v U'.heap L ∧ FrameEnd U o U' L ({ frames := 0, cells := 0, slots := 0, locals := 0 } : Room).cells ({ frames := 0, cells := 0, slots := 0, locals := 0 } : Room).slots) := by
  refine MetFree.of_bodySF (plainFor_of_name pn_0) hisR ?_
  intro p e s m args below meth c s₁ Bd hml0 hP hK
  obtain ⟨rfl, hZ, hh⟩ := hP
  have hx := Bd.exec
  have hby := Bd.bytes
  have hml : c.maxLocals = 1 := hml0
  have hown : s.vm.findClass "gradivo/spec/ValueKind" = some m.cls := findClass_of_methodNamed Bd.named
  have hnm := (name_of_methodNamed Bd.named Bd.method).1
  have X0 : Stand p l e ({ frames := 0, cells := 0, slots := 0, locals := 0 } : Room) s m #[(.ref w_TEXT)] below meth c s₁ [] 0 0 := Stand.of_body Bd
  have e0 : s₁.heap = h0 := by rw [← hh, Bd.state]; rfl
  have N0 := Fr.nil n0
  obtain ⟨S_w_TEXT, E_w_TEXT, F_w_TEXT_ordinal, S_w_COMPOSITE, E_w_COMPOSITE, F_w_COMPOSITE_ordinal, S_w_CLOSED_LIST, E_w_CLOSED_LIST, F_w_CLOSED_LIST_ordinal, S_w_LISTED, E_w_LISTED, F_w_LISTED_ordinal, S_w_URI, E_w_URI, F_w_URI_ordinal, S_w_ISO3166_1_ALPHA2, E_w_ISO3166_1_ALPHA2, F_w_ISO3166_1_ALPHA2_ordinal, S_w_ISO639, E_w_ISO639, F_w_ISO639_ordinal, S_w_ISO15924, E_w_ISO15924, F_w_ISO15924_ordinal, S_w_POSITIVE_NUMBER, E_w_POSITIVE_NUMBER, F_w_POSITIVE_NUMBER_ordinal, S_w_POSITIVE_INTEGER, E_w_POSITIVE_INTEGER, F_w_POSITIVE_INTEGER_ordinal, S_w_NONNEGATIVE_INTEGER, E_w_NONNEGATIVE_INTEGER, F_w_NONNEGATIVE_INTEGER_ordinal, S_w_ISO8601_DATE, E_w_ISO8601_DATE, F_w_ISO8601_DATE_ordinal, S_w_DIGEST, E_w_DIGEST, F_w_DIGEST_ordinal, S_w_PER_TIME_STANDARD, E_w_PER_TIME_STANDARD, F_w_PER_TIME_STANDARD_ordinal, S_w_PER_COORDINATE_SYSTEM, E_w_PER_COORDINATE_SYSTEM, F_w_PER_COORDINATE_SYSTEM_ordinal, S_w_TIME_SPAN, E_w_TIME_SPAN, F_w_TIME_SPAN_ordinal⟩ := id G
  have k0 : Way p e below (s₁.setTop (entryFrame m #[(.ref w_TEXT)] 1)) s₁ (mkF m 0 #[rv w_TEXT] []) := fun t k => castTop (by first | (simp [entryFrame, mkF, argsToLocals, Value.category]; done) | rfl) k
  generalize s₁.setTop (entryFrame m #[(.ref w_TEXT)] 1) = S0 at k0 ⊢
  have k1 : Way p e below S0 s₁ (mkF m 1 #[rv w_TEXT] [(.ref w_TEXT)]) := by
    intro t k
    refine k0 t ?_
    refine XS.aloadN X0.here hx rfl (hb hby d_prog_105_method_8_code_0) rfl rfl ?_
    show Steps p.tables e below (s₁.setTop (mkF m 1 #[rv w_TEXT] [(.ref w_TEXT)])) _
    exact k
  obtain ⟨T2, X2, e2, st2⟩ := getS2 X0 hx hZ hown (host := "") (Or.inl (hw _ (List.mem_of_getElem? (i := 42) rfl))) Via.refl e0 (S_w_CLOSED_LIST.ext O0.2) (g := (mkF m 1 #[rv w_TEXT] [(.ref w_TEXT)])) rfl (hb hby d_prog_105_method_8_code_1)
  have k3 : Way p e below S0 T2 (mkF m 4 #[rv w_TEXT] [(.ref w_CLOSED_LIST), (.ref w_TEXT)]) := fun t k => k1 t (st2 _ k)
  have k4 : Way p e below S0 T2 (mkF m 8 #[rv w_TEXT] [(.ref w_TEXT)]) := by
    intro t k
    refine k3 t ?_
    refine Jvm.RoadKit.acmp (g := (mkF m 4 #[rv w_TEXT] [(.ref w_CLOSED_LIST), (.ref w_TEXT)])) X2 hx rfl rfl rfl (pc0 := 4) (pc' := 7) (same := false) rfl (hb hby d_prog_105_method_8_code_4) rfl (decide_eq_false fun q => absurd (Value.ref.inj q) (F_w_TEXT_ordinal.ne F_w_CLOSED_LIST_ordinal (by decide))) (by decide) (by decide) ?_
    show Steps p.tables e below (T2.setTop (mkF m 7 #[rv w_TEXT] [])) _
    refine XS.aloadN X2.here hx rfl (hb hby d_prog_105_method_8_code_7) rfl rfl ?_
    show Steps p.tables e below (T2.setTop (mkF m 8 #[rv w_TEXT] [(.ref w_TEXT)])) _
    exact k
  obtain ⟨T5, X5, e5, st5⟩ := getS2 X2 hx hZ hown (host := "") (Or.inl (hw _ (List.mem_of_getElem? (i := 43) rfl))) Via.refl e2 (S_w_LISTED.ext O0.2) (g := (mkF m 8 #[rv w_TEXT] [(.ref w_TEXT)])) rfl (hb hby d_prog_105_method_8_code_8)
  have k6 : Way p e below S0 T5 (mkF m 11 #[rv w_TEXT] [(.ref w_LISTED), (.ref w_TEXT)]) := fun t k => k4 t (st5 _ k)
  have k7 : Way p e below S0 T5 (mkF m 19 #[rv w_TEXT] [(.int (0 : Int32))]) := by
    intro t k
    refine k6 t ?_
    refine Jvm.RoadKit.acmp (g := (mkF m 11 #[rv w_TEXT] [(.ref w_LISTED), (.ref w_TEXT)])) X5 hx rfl rfl rfl (pc0 := 11) (pc' := 18) (same := false) rfl (hb hby d_prog_105_method_8_code_11) rfl (decide_eq_false fun q => absurd (Value.ref.inj q) (F_w_TEXT_ordinal.ne F_w_LISTED_ordinal (by decide))) (by decide) (by decide) ?_
    show Steps p.tables e below (T5.setTop (mkF m 18 #[rv w_TEXT] [])) _
    refine XS.iconst X5.here hx rfl (hb hby d_prog_105_method_8_code_18) ?_
    show Steps p.tables e below (T5.setTop (mkF m 19 #[rv w_TEXT] [(.int (0 : Int32))])) _
    exact k
  obtain ⟨fs, hr, hrun, hended, hW, hsame⟩ := X5.leave (v := some (.int (0 : Int32))) (fun h => by rw [Bd.returns] at h; cases h)
  refine ⟨_, _, k7 _ (retN X5 hx (t := .boolean) Bd.returns (by simp) (hb hby d_prog_105_method_8_code_19) hr), hrun, hended, _, _, rfl, ?_, ⟨_, rfl⟩, hW, hsame.mono (by decide) (by decide)⟩
  show Q_isl0 Z w_TEXT w_COMPOSITE w_CLOSED_LIST w_LISTED w_URI w_ISO3166_1_ALPHA2 w_ISO639 w_ISO15924 w_POSITIVE_NUMBER w_POSITIVE_INTEGER w_NONNEGATIVE_INTEGER w_ISO8601_DATE w_DIGEST w_PER_TIME_STANDARD w_PER_COORDINATE_SYSTEM w_TIME_SPAN  h0 n0 _ T5.heap _
  rw [e5]
  exact ⟨rfl, N0, rfl⟩
def Q_isl1 (Z : State) (w_TEXT : Addr) (w_COMPOSITE : Addr) (w_CLOSED_LIST : Addr) (w_LISTED : Addr) (w_URI : Addr) (w_ISO3166_1_ALPHA2 : Addr) (w_ISO639 : Addr) (w_ISO15924 : Addr) (w_POSITIVE_NUMBER : Addr) (w_POSITIVE_INTEGER : Addr) (w_NONNEGATIVE_INTEGER : Addr) (w_ISO8601_DATE : Addr) (w_DIGEST : Addr) (w_PER_TIME_STANDARD : Addr) (w_PER_COORDINATE_SYSTEM : Addr) (w_TIME_SPAN : Addr)  (h0 : Heap) (n0 : Nat) (v : Option Value) (h : Heap) (L : List Loc) : Prop := (v = some (.int (0 : Int32))) ∧ (Fr n0 L) ∧ (h = h0)
set_option maxRecDepth 65536 in
set_option maxHeartbeats 40000000 in
theorem isl1 (l : Launch) (Z : State) (a0 : Array Value) (hw : ∀ d ∈ tables_1, d.before a0 Z = true) (ws : List Jvm.Cond) (w_TEXT : Addr) (w_COMPOSITE : Addr) (w_CLOSED_LIST : Addr) (w_LISTED : Addr) (w_URI : Addr) (w_ISO3166_1_ALPHA2 : Addr) (w_ISO639 : Addr) (w_ISO15924 : Addr) (w_POSITIVE_NUMBER : Addr) (w_POSITIVE_INTEGER : Addr) (w_NONNEGATIVE_INTEGER : Addr) (w_ISO8601_DATE : Addr) (w_DIGEST : Addr) (w_PER_TIME_STANDARD : Addr) (w_PER_COORDINATE_SYSTEM : Addr) (w_TIME_SPAN : Addr) (G : Gst Z w_TEXT w_COMPOSITE w_CLOSED_LIST w_LISTED w_URI w_ISO3166_1_ALPHA2 w_ISO639 w_ISO15924 w_POSITIVE_NUMBER w_POSITIVE_INTEGER w_NONNEGATIVE_INTEGER w_ISO8601_DATE w_DIGEST w_PER_TIME_STANDARD w_PER_COORDINATE_SYSTEM w_TIME_SPAN)  (h0 : Heap) (n0 : Nat) (O0 : Old Z n0 h0) :
    MetFree l (⟨"gradivo/spec/ValueKind", "isList", "()Z"⟩ : MethodName) (head1 (Jvm.Cond.code (⟨"gradivo/spec/ValueKind", "isList", "()Z"⟩ : MethodName) prog_105_method_8_code 1 (some .boolean) :: ws) ({ frames := 0, cells := 0, slots := 0, locals := 0 } : Room)) (fun a U => a = #[(.ref w_COMPOSITE)] ∧ Z.Warmed39 U.vm ∧ U.heap = h0) (fun _ _ _ _ _ => True) (fun _ U o U' => ∃ v L, o = .returned v ∧ Q_isl1 Z w_TEXT w_COMPOSITE w_CLOSED_LIST w_LISTED w_URI w_ISO3166_1_ALPHA2 w_ISO639 w_ISO15924 w_POSITIVE_NUMBER w_POSITIVE_INTEGER w_NONNEGATIVE_INTEGER w_ISO8601_DATE w_DIGEST w_PER_TIME_STANDARD w_PER_COORDINATE_SYSTEM w_TIME_SPAN  h0 n0 v U'.heap L ∧ FrameEnd U o U' L ({ frames := 0, cells := 0, slots := 0, locals := 0 } : Room).cells ({ frames := 0, cells := 0, slots := 0, locals := 0 } : Room).slots) := by
  refine MetFree.of_bodySF (plainFor_of_name pn_0) hisR ?_
  intro p e s m args below meth c s₁ Bd hml0 hP hK
  obtain ⟨rfl, hZ, hh⟩ := hP
  have hx := Bd.exec
  have hby := Bd.bytes
  have hml : c.maxLocals = 1 := hml0
  have hown : s.vm.findClass "gradivo/spec/ValueKind" = some m.cls := findClass_of_methodNamed Bd.named
  have hnm := (name_of_methodNamed Bd.named Bd.method).1
  have X0 : Stand p l e ({ frames := 0, cells := 0, slots := 0, locals := 0 } : Room) s m #[(.ref w_COMPOSITE)] below meth c s₁ [] 0 0 := Stand.of_body Bd
  have e0 : s₁.heap = h0 := by rw [← hh, Bd.state]; rfl
  have N0 := Fr.nil n0
  obtain ⟨S_w_TEXT, E_w_TEXT, F_w_TEXT_ordinal, S_w_COMPOSITE, E_w_COMPOSITE, F_w_COMPOSITE_ordinal, S_w_CLOSED_LIST, E_w_CLOSED_LIST, F_w_CLOSED_LIST_ordinal, S_w_LISTED, E_w_LISTED, F_w_LISTED_ordinal, S_w_URI, E_w_URI, F_w_URI_ordinal, S_w_ISO3166_1_ALPHA2, E_w_ISO3166_1_ALPHA2, F_w_ISO3166_1_ALPHA2_ordinal, S_w_ISO639, E_w_ISO639, F_w_ISO639_ordinal, S_w_ISO15924, E_w_ISO15924, F_w_ISO15924_ordinal, S_w_POSITIVE_NUMBER, E_w_POSITIVE_NUMBER, F_w_POSITIVE_NUMBER_ordinal, S_w_POSITIVE_INTEGER, E_w_POSITIVE_INTEGER, F_w_POSITIVE_INTEGER_ordinal, S_w_NONNEGATIVE_INTEGER, E_w_NONNEGATIVE_INTEGER, F_w_NONNEGATIVE_INTEGER_ordinal, S_w_ISO8601_DATE, E_w_ISO8601_DATE, F_w_ISO8601_DATE_ordinal, S_w_DIGEST, E_w_DIGEST, F_w_DIGEST_ordinal, S_w_PER_TIME_STANDARD, E_w_PER_TIME_STANDARD, F_w_PER_TIME_STANDARD_ordinal, S_w_PER_COORDINATE_SYSTEM, E_w_PER_COORDINATE_SYSTEM, F_w_PER_COORDINATE_SYSTEM_ordinal, S_w_TIME_SPAN, E_w_TIME_SPAN, F_w_TIME_SPAN_ordinal⟩ := id G
  have k0 : Way p e below (s₁.setTop (entryFrame m #[(.ref w_COMPOSITE)] 1)) s₁ (mkF m 0 #[rv w_COMPOSITE] []) := fun t k => castTop (by first | (simp [entryFrame, mkF, argsToLocals, Value.category]; done) | rfl) k
  generalize s₁.setTop (entryFrame m #[(.ref w_COMPOSITE)] 1) = S0 at k0 ⊢
  have k1 : Way p e below S0 s₁ (mkF m 1 #[rv w_COMPOSITE] [(.ref w_COMPOSITE)]) := by
    intro t k
    refine k0 t ?_
    refine XS.aloadN X0.here hx rfl (hb hby d_prog_105_method_8_code_0) rfl rfl ?_
    show Steps p.tables e below (s₁.setTop (mkF m 1 #[rv w_COMPOSITE] [(.ref w_COMPOSITE)])) _
    exact k
  obtain ⟨T2, X2, e2, st2⟩ := getS2 X0 hx hZ hown (host := "") (Or.inl (hw _ (List.mem_of_getElem? (i := 42) rfl))) Via.refl e0 (S_w_CLOSED_LIST.ext O0.2) (g := (mkF m 1 #[rv w_COMPOSITE] [(.ref w_COMPOSITE)])) rfl (hb hby d_prog_105_method_8_code_1)
  have k3 : Way p e below S0 T2 (mkF m 4 #[rv w_COMPOSITE] [(.ref w_CLOSED_LIST), (.ref w_COMPOSITE)]) := fun t k => k1 t (st2 _ k)
  have k4 : Way p e below S0 T2 (mkF m 8 #[rv w_COMPOSITE] [(.ref w_COMPOSITE)]) := by
    intro t k
    refine k3 t ?_
    refine Jvm.RoadKit.acmp (g := (mkF m 4 #[rv w_COMPOSITE] [(.ref w_CLOSED_LIST), (.ref w_COMPOSITE)])) X2 hx rfl rfl rfl (pc0 := 4) (pc' := 7) (same := false) rfl (hb hby d_prog_105_method_8_code_4) rfl (decide_eq_false fun q => absurd (Value.ref.inj q) (F_w_COMPOSITE_ordinal.ne F_w_CLOSED_LIST_ordinal (by decide))) (by decide) (by decide) ?_
    show Steps p.tables e below (T2.setTop (mkF m 7 #[rv w_COMPOSITE] [])) _
    refine XS.aloadN X2.here hx rfl (hb hby d_prog_105_method_8_code_7) rfl rfl ?_
    show Steps p.tables e below (T2.setTop (mkF m 8 #[rv w_COMPOSITE] [(.ref w_COMPOSITE)])) _
    exact k
  obtain ⟨T5, X5, e5, st5⟩ := getS2 X2 hx hZ hown (host := "") (Or.inl (hw _ (List.mem_of_getElem? (i := 43) rfl))) Via.refl e2 (S_w_LISTED.ext O0.2) (g := (mkF m 8 #[rv w_COMPOSITE] [(.ref w_COMPOSITE)])) rfl (hb hby d_prog_105_method_8_code_8)
  have k6 : Way p e below S0 T5 (mkF m 11 #[rv w_COMPOSITE] [(.ref w_LISTED), (.ref w_COMPOSITE)]) := fun t k => k4 t (st5 _ k)
  have k7 : Way p e below S0 T5 (mkF m 19 #[rv w_COMPOSITE] [(.int (0 : Int32))]) := by
    intro t k
    refine k6 t ?_
    refine Jvm.RoadKit.acmp (g := (mkF m 11 #[rv w_COMPOSITE] [(.ref w_LISTED), (.ref w_COMPOSITE)])) X5 hx rfl rfl rfl (pc0 := 11) (pc' := 18) (same := false) rfl (hb hby d_prog_105_method_8_code_11) rfl (decide_eq_false fun q => absurd (Value.ref.inj q) (F_w_COMPOSITE_ordinal.ne F_w_LISTED_ordinal (by decide))) (by decide) (by decide) ?_
    show Steps p.tables e below (T5.setTop (mkF m 18 #[rv w_COMPOSITE] [])) _
    refine XS.iconst X5.here hx rfl (hb hby d_prog_105_method_8_code_18) ?_
    show Steps p.tables e below (T5.setTop (mkF m 19 #[rv w_COMPOSITE] [(.int (0 : Int32))])) _
    exact k
  obtain ⟨fs, hr, hrun, hended, hW, hsame⟩ := X5.leave (v := some (.int (0 : Int32))) (fun h => by rw [Bd.returns] at h; cases h)
  refine ⟨_, _, k7 _ (retN X5 hx (t := .boolean) Bd.returns (by simp) (hb hby d_prog_105_method_8_code_19) hr), hrun, hended, _, _, rfl, ?_, ⟨_, rfl⟩, hW, hsame.mono (by decide) (by decide)⟩
  show Q_isl1 Z w_TEXT w_COMPOSITE w_CLOSED_LIST w_LISTED w_URI w_ISO3166_1_ALPHA2 w_ISO639 w_ISO15924 w_POSITIVE_NUMBER w_POSITIVE_INTEGER w_NONNEGATIVE_INTEGER w_ISO8601_DATE w_DIGEST w_PER_TIME_STANDARD w_PER_COORDINATE_SYSTEM w_TIME_SPAN  h0 n0 _ T5.heap _
  rw [e5]
  exact ⟨rfl, N0, rfl⟩
def Q_isl2 (Z : State) (w_TEXT : Addr) (w_COMPOSITE : Addr) (w_CLOSED_LIST : Addr) (w_LISTED : Addr) (w_URI : Addr) (w_ISO3166_1_ALPHA2 : Addr) (w_ISO639 : Addr) (w_ISO15924 : Addr) (w_POSITIVE_NUMBER : Addr) (w_POSITIVE_INTEGER : Addr) (w_NONNEGATIVE_INTEGER : Addr) (w_ISO8601_DATE : Addr) (w_DIGEST : Addr) (w_PER_TIME_STANDARD : Addr) (w_PER_COORDINATE_SYSTEM : Addr) (w_TIME_SPAN : Addr)  (h0 : Heap) (n0 : Nat) (v : Option Value) (h : Heap) (L : List Loc) : Prop := (v = some (.int (1 : Int32))) ∧ (Fr n0 L) ∧ (h = h0)
set_option maxRecDepth 65536 in
set_option maxHeartbeats 40000000 in
theorem isl2 (l : Launch) (Z : State) (a0 : Array Value) (hw : ∀ d ∈ tables_1, d.before a0 Z = true) (ws : List Jvm.Cond) (w_TEXT : Addr) (w_COMPOSITE : Addr) (w_CLOSED_LIST : Addr) (w_LISTED : Addr) (w_URI : Addr) (w_ISO3166_1_ALPHA2 : Addr) (w_ISO639 : Addr) (w_ISO15924 : Addr) (w_POSITIVE_NUMBER : Addr) (w_POSITIVE_INTEGER : Addr) (w_NONNEGATIVE_INTEGER : Addr) (w_ISO8601_DATE : Addr) (w_DIGEST : Addr) (w_PER_TIME_STANDARD : Addr) (w_PER_COORDINATE_SYSTEM : Addr) (w_TIME_SPAN : Addr) (G : Gst Z w_TEXT w_COMPOSITE w_CLOSED_LIST w_LISTED w_URI w_ISO3166_1_ALPHA2 w_ISO639 w_ISO15924 w_POSITIVE_NUMBER w_POSITIVE_INTEGER w_NONNEGATIVE_INTEGER w_ISO8601_DATE w_DIGEST w_PER_TIME_STANDARD w_PER_COORDINATE_SYSTEM w_TIME_SPAN)  (h0 : Heap) (n0 : Nat) (O0 : Old Z n0 h0) :
    MetFree l (⟨"gradivo/spec/ValueKind", "isList", "()Z"⟩ : MethodName) (head1 (Jvm.Cond.code (⟨"gradivo/spec/ValueKind", "isList", "()Z"⟩ : MethodName) prog_105_method_8_code 1 (some .boolean) :: ws) ({ frames := 0, cells := 0, slots := 0, locals := 0 } : Room)) (fun a U => a = #[(.ref w_CLOSED_LIST)] ∧ Z.Warmed39 U.vm ∧ U.heap = h0) (fun _ _ _ _ _ => True) (fun _ U o U' => ∃ v L, o = .returned v ∧ Q_isl2 Z w_TEXT w_COMPOSITE w_CLOSED_LIST w_LISTED w_URI w_ISO3166_1_ALPHA2 w_ISO639 w_ISO15924 w_POSITIVE_NUMBER w_POSITIVE_INTEGER w_NONNEGATIVE_INTEGER w_ISO8601_DATE w_DIGEST w_PER_TIME_STANDARD w_PER_COORDINATE_SYSTEM w_TIME_SPAN  h0 n0 v U'.heap L ∧ FrameEnd U o U' L ({ frames := 0, cells := 0, slots := 0, locals := 0 } : Room).cells ({ frames := 0, cells := 0, slots := 0, locals := 0 } : Room).slots) := by
  refine MetFree.of_bodySF (plainFor_of_name pn_0) hisR ?_
  intro p e s m args below meth c s₁ Bd hml0 hP hK
  obtain ⟨rfl, hZ, hh⟩ := hP
  have hx := Bd.exec
  have hby := Bd.bytes
  have hml : c.maxLocals = 1 := hml0
  have hown : s.vm.findClass "gradivo/spec/ValueKind" = some m.cls := findClass_of_methodNamed Bd.named
  have hnm := (name_of_methodNamed Bd.named Bd.method).1
  have X0 : Stand p l e ({ frames := 0, cells := 0, slots := 0, locals := 0 } : Room) s m #[(.ref w_CLOSED_LIST)] below meth c s₁ [] 0 0 := Stand.of_body Bd
  have e0 : s₁.heap = h0 := by rw [← hh, Bd.state]; rfl
  have N0 := Fr.nil n0
  obtain ⟨S_w_TEXT, E_w_TEXT, F_w_TEXT_ordinal, S_w_COMPOSITE, E_w_COMPOSITE, F_w_COMPOSITE_ordinal, S_w_CLOSED_LIST, E_w_CLOSED_LIST, F_w_CLOSED_LIST_ordinal, S_w_LISTED, E_w_LISTED, F_w_LISTED_ordinal, S_w_URI, E_w_URI, F_w_URI_ordinal, S_w_ISO3166_1_ALPHA2, E_w_ISO3166_1_ALPHA2, F_w_ISO3166_1_ALPHA2_ordinal, S_w_ISO639, E_w_ISO639, F_w_ISO639_ordinal, S_w_ISO15924, E_w_ISO15924, F_w_ISO15924_ordinal, S_w_POSITIVE_NUMBER, E_w_POSITIVE_NUMBER, F_w_POSITIVE_NUMBER_ordinal, S_w_POSITIVE_INTEGER, E_w_POSITIVE_INTEGER, F_w_POSITIVE_INTEGER_ordinal, S_w_NONNEGATIVE_INTEGER, E_w_NONNEGATIVE_INTEGER, F_w_NONNEGATIVE_INTEGER_ordinal, S_w_ISO8601_DATE, E_w_ISO8601_DATE, F_w_ISO8601_DATE_ordinal, S_w_DIGEST, E_w_DIGEST, F_w_DIGEST_ordinal, S_w_PER_TIME_STANDARD, E_w_PER_TIME_STANDARD, F_w_PER_TIME_STANDARD_ordinal, S_w_PER_COORDINATE_SYSTEM, E_w_PER_COORDINATE_SYSTEM, F_w_PER_COORDINATE_SYSTEM_ordinal, S_w_TIME_SPAN, E_w_TIME_SPAN, F_w_TIME_SPAN_ordinal⟩ := id G
  have k0 : Way p e below (s₁.setTop (entryFrame m #[(.ref w_CLOSED_LIST)] 1)) s₁ (mkF m 0 #[rv w_CLOSED_LIST] []) := fun t k => castTop (by first | (simp [entryFrame, mkF, argsToLocals, Value.category]; done) | rfl) k
  generalize s₁.setTop (entryFrame m #[(.ref w_CLOSED_LIST)] 1) = S0 at k0 ⊢
  have k1 : Way p e below S0 s₁ (mkF m 1 #[rv w_CLOSED_LIST] [(.ref w_CLOSED_LIST)]) := by
    intro t k
    refine k0 t ?_
    refine XS.aloadN X0.here hx rfl (hb hby d_prog_105_method_8_code_0) rfl rfl ?_
    show Steps p.tables e below (s₁.setTop (mkF m 1 #[rv w_CLOSED_LIST] [(.ref w_CLOSED_LIST)])) _
    exact k
  obtain ⟨T2, X2, e2, st2⟩ := getS2 X0 hx hZ hown (host := "") (Or.inl (hw _ (List.mem_of_getElem? (i := 42) rfl))) Via.refl e0 (S_w_CLOSED_LIST.ext O0.2) (g := (mkF m 1 #[rv w_CLOSED_LIST] [(.ref w_CLOSED_LIST)])) rfl (hb hby d_prog_105_method_8_code_1)
  have k3 : Way p e below S0 T2 (mkF m 4 #[rv w_CLOSED_LIST] [(.ref w_CLOSED_LIST), (.ref w_CLOSED_LIST)]) := fun t k => k1 t (st2 _ k)
  have k4 : Way p e below S0 T2 (mkF m 19 #[rv w_CLOSED_LIST] [(.int (1 : Int32))]) := by
    intro t k
    refine k3 t ?_
    refine Jvm.RoadKit.acmp (g := (mkF m 4 #[rv w_CLOSED_LIST] [(.ref w_CLOSED_LIST), (.ref w_CLOSED_LIST)])) X2 hx rfl rfl rfl (pc0 := 4) (pc' := 14) (same := true) rfl (hb hby d_prog_105_method_8_code_4) rfl (decide_eq_true rfl) (by decide) (by decide) ?_
    show Steps p.tables e below (T2.setTop (mkF m 14 #[rv w_CLOSED_LIST] [])) _
    refine XS.iconst X2.here hx rfl (hb hby d_prog_105_method_8_code_14) ?_
    show Steps p.tables e below (T2.setTop (mkF m 15 #[rv w_CLOSED_LIST] [(.int (1 : Int32))])) _
    refine XS.goto X2.here hx rfl (pc0 := 15) (pc' := 19) rfl (hb hby d_prog_105_method_8_code_15) (by decide) (by decide) ?_
    show Steps p.tables e below (T2.setTop (mkF m 19 #[rv w_CLOSED_LIST] [(.int (1 : Int32))])) _
    exact k
  obtain ⟨fs, hr, hrun, hended, hW, hsame⟩ := X2.leave (v := some (.int (1 : Int32))) (fun h => by rw [Bd.returns] at h; cases h)
  refine ⟨_, _, k4 _ (retN X2 hx (t := .boolean) Bd.returns (by simp) (hb hby d_prog_105_method_8_code_19) hr), hrun, hended, _, _, rfl, ?_, ⟨_, rfl⟩, hW, hsame.mono (by decide) (by decide)⟩
  show Q_isl2 Z w_TEXT w_COMPOSITE w_CLOSED_LIST w_LISTED w_URI w_ISO3166_1_ALPHA2 w_ISO639 w_ISO15924 w_POSITIVE_NUMBER w_POSITIVE_INTEGER w_NONNEGATIVE_INTEGER w_ISO8601_DATE w_DIGEST w_PER_TIME_STANDARD w_PER_COORDINATE_SYSTEM w_TIME_SPAN  h0 n0 _ T2.heap _
  rw [e2]
  exact ⟨rfl, N0, rfl⟩
def Q_isl3 (Z : State) (w_TEXT : Addr) (w_COMPOSITE : Addr) (w_CLOSED_LIST : Addr) (w_LISTED : Addr) (w_URI : Addr) (w_ISO3166_1_ALPHA2 : Addr) (w_ISO639 : Addr) (w_ISO15924 : Addr) (w_POSITIVE_NUMBER : Addr) (w_POSITIVE_INTEGER : Addr) (w_NONNEGATIVE_INTEGER : Addr) (w_ISO8601_DATE : Addr) (w_DIGEST : Addr) (w_PER_TIME_STANDARD : Addr) (w_PER_COORDINATE_SYSTEM : Addr) (w_TIME_SPAN : Addr)  (h0 : Heap) (n0 : Nat) (v : Option Value) (h : Heap) (L : List Loc) : Prop := (v = some (.int (1 : Int32))) ∧ (Fr n0 L) ∧ (h = h0)
set_option maxRecDepth 65536 in
set_option maxHeartbeats 40000000 in
theorem isl3 (l : Launch) (Z : State) (a0 : Array Value) (hw : ∀ d ∈ tables_1, d.before a0 Z = true) (ws : List Jvm.Cond) (w_TEXT : Addr) (w_COMPOSITE : Addr) (w_CLOSED_LIST : Addr) (w_LISTED : Addr) (w_URI : Addr) (w_ISO3166_1_ALPHA2 : Addr) (w_ISO639 : Addr) (w_ISO15924 : Addr) (w_POSITIVE_NUMBER : Addr) (w_POSITIVE_INTEGER : Addr) (w_NONNEGATIVE_INTEGER : Addr) (w_ISO8601_DATE : Addr) (w_DIGEST : Addr) (w_PER_TIME_STANDARD : Addr) (w_PER_COORDINATE_SYSTEM : Addr) (w_TIME_SPAN : Addr) (G : Gst Z w_TEXT w_COMPOSITE w_CLOSED_LIST w_LISTED w_URI w_ISO3166_1_ALPHA2 w_ISO639 w_ISO15924 w_POSITIVE_NUMBER w_POSITIVE_INTEGER w_NONNEGATIVE_INTEGER w_ISO8601_DATE w_DIGEST w_PER_TIME_STANDARD w_PER_COORDINATE_SYSTEM w_TIME_SPAN)  (h0 : Heap) (n0 : Nat) (O0 : Old Z n0 h0) :
    MetFree l (⟨"gradivo/spec/ValueKind", "isList", "()Z"⟩ : MethodName) (head1 (Jvm.Cond.code (⟨"gradivo/spec/ValueKind", "isList", "()Z"⟩ : MethodName) prog_105_method_8_code 1 (some .boolean) :: ws) ({ frames := 0, cells := 0, slots := 0, locals := 0 } : Room)) (fun a U => a = #[(.ref w_LISTED)] ∧ Z.Warmed39 U.vm ∧ U.heap = h0) (fun _ _ _ _ _ => True) (fun _ U o U' => ∃ v L, o = .returned v ∧ Q_isl3 Z w_TEXT w_COMPOSITE w_CLOSED_LIST w_LISTED w_URI w_ISO3166_1_ALPHA2 w_ISO639 w_ISO15924 w_POSITIVE_NUMBER w_POSITIVE_INTEGER w_NONNEGATIVE_INTEGER w_ISO8601_DATE w_DIGEST w_PER_TIME_STANDARD w_PER_COORDINATE_SYSTEM w_TIME_SPAN  h0 n0 v U'.heap L ∧ FrameEnd U o U' L ({ frames := 0, cells := 0, slots := 0, locals := 0 } : Room).cells ({ frames := 0, cells := 0, slots := 0, locals := 0 } : Room).slots) := by
  refine MetFree.of_bodySF (plainFor_of_name pn_0) hisR ?_
  intro p e s m args below meth c s₁ Bd hml0 hP hK
  obtain ⟨rfl, hZ, hh⟩ := hP
  have hx := Bd.exec
  have hby := Bd.bytes
  have hml : c.maxLocals = 1 := hml0
  have hown : s.vm.findClass "gradivo/spec/ValueKind" = some m.cls := findClass_of_methodNamed Bd.named
  have hnm := (name_of_methodNamed Bd.named Bd.method).1
  have X0 : Stand p l e ({ frames := 0, cells := 0, slots := 0, locals := 0 } : Room) s m #[(.ref w_LISTED)] below meth c s₁ [] 0 0 := Stand.of_body Bd
  have e0 : s₁.heap = h0 := by rw [← hh, Bd.state]; rfl
  have N0 := Fr.nil n0
  obtain ⟨S_w_TEXT, E_w_TEXT, F_w_TEXT_ordinal, S_w_COMPOSITE, E_w_COMPOSITE, F_w_COMPOSITE_ordinal, S_w_CLOSED_LIST, E_w_CLOSED_LIST, F_w_CLOSED_LIST_ordinal, S_w_LISTED, E_w_LISTED, F_w_LISTED_ordinal, S_w_URI, E_w_URI, F_w_URI_ordinal, S_w_ISO3166_1_ALPHA2, E_w_ISO3166_1_ALPHA2, F_w_ISO3166_1_ALPHA2_ordinal, S_w_ISO639, E_w_ISO639, F_w_ISO639_ordinal, S_w_ISO15924, E_w_ISO15924, F_w_ISO15924_ordinal, S_w_POSITIVE_NUMBER, E_w_POSITIVE_NUMBER, F_w_POSITIVE_NUMBER_ordinal, S_w_POSITIVE_INTEGER, E_w_POSITIVE_INTEGER, F_w_POSITIVE_INTEGER_ordinal, S_w_NONNEGATIVE_INTEGER, E_w_NONNEGATIVE_INTEGER, F_w_NONNEGATIVE_INTEGER_ordinal, S_w_ISO8601_DATE, E_w_ISO8601_DATE, F_w_ISO8601_DATE_ordinal, S_w_DIGEST, E_w_DIGEST, F_w_DIGEST_ordinal, S_w_PER_TIME_STANDARD, E_w_PER_TIME_STANDARD, F_w_PER_TIME_STANDARD_ordinal, S_w_PER_COORDINATE_SYSTEM, E_w_PER_COORDINATE_SYSTEM, F_w_PER_COORDINATE_SYSTEM_ordinal, S_w_TIME_SPAN, E_w_TIME_SPAN, F_w_TIME_SPAN_ordinal⟩ := id G
  have k0 : Way p e below (s₁.setTop (entryFrame m #[(.ref w_LISTED)] 1)) s₁ (mkF m 0 #[rv w_LISTED] []) := fun t k => castTop (by first | (simp [entryFrame, mkF, argsToLocals, Value.category]; done) | rfl) k
  generalize s₁.setTop (entryFrame m #[(.ref w_LISTED)] 1) = S0 at k0 ⊢
  have k1 : Way p e below S0 s₁ (mkF m 1 #[rv w_LISTED] [(.ref w_LISTED)]) := by
    intro t k
    refine k0 t ?_
    refine XS.aloadN X0.here hx rfl (hb hby d_prog_105_method_8_code_0) rfl rfl ?_
    show Steps p.tables e below (s₁.setTop (mkF m 1 #[rv w_LISTED] [(.ref w_LISTED)])) _
    exact k
  obtain ⟨T2, X2, e2, st2⟩ := getS2 X0 hx hZ hown (host := "") (Or.inl (hw _ (List.mem_of_getElem? (i := 42) rfl))) Via.refl e0 (S_w_CLOSED_LIST.ext O0.2) (g := (mkF m 1 #[rv w_LISTED] [(.ref w_LISTED)])) rfl (hb hby d_prog_105_method_8_code_1)
  have k3 : Way p e below S0 T2 (mkF m 4 #[rv w_LISTED] [(.ref w_CLOSED_LIST), (.ref w_LISTED)]) := fun t k => k1 t (st2 _ k)
  have k4 : Way p e below S0 T2 (mkF m 8 #[rv w_LISTED] [(.ref w_LISTED)]) := by
    intro t k
    refine k3 t ?_
    refine Jvm.RoadKit.acmp (g := (mkF m 4 #[rv w_LISTED] [(.ref w_CLOSED_LIST), (.ref w_LISTED)])) X2 hx rfl rfl rfl (pc0 := 4) (pc' := 7) (same := false) rfl (hb hby d_prog_105_method_8_code_4) rfl (decide_eq_false fun q => absurd (Value.ref.inj q) (F_w_LISTED_ordinal.ne F_w_CLOSED_LIST_ordinal (by decide))) (by decide) (by decide) ?_
    show Steps p.tables e below (T2.setTop (mkF m 7 #[rv w_LISTED] [])) _
    refine XS.aloadN X2.here hx rfl (hb hby d_prog_105_method_8_code_7) rfl rfl ?_
    show Steps p.tables e below (T2.setTop (mkF m 8 #[rv w_LISTED] [(.ref w_LISTED)])) _
    exact k
  obtain ⟨T5, X5, e5, st5⟩ := getS2 X2 hx hZ hown (host := "") (Or.inl (hw _ (List.mem_of_getElem? (i := 43) rfl))) Via.refl e2 (S_w_LISTED.ext O0.2) (g := (mkF m 8 #[rv w_LISTED] [(.ref w_LISTED)])) rfl (hb hby d_prog_105_method_8_code_8)
  have k6 : Way p e below S0 T5 (mkF m 11 #[rv w_LISTED] [(.ref w_LISTED), (.ref w_LISTED)]) := fun t k => k4 t (st5 _ k)
  have k7 : Way p e below S0 T5 (mkF m 19 #[rv w_LISTED] [(.int (1 : Int32))]) := by
    intro t k
    refine k6 t ?_
    refine Jvm.RoadKit.acmp (g := (mkF m 11 #[rv w_LISTED] [(.ref w_LISTED), (.ref w_LISTED)])) X5 hx rfl rfl rfl (pc0 := 11) (pc' := 14) (same := true) rfl (hb hby d_prog_105_method_8_code_11) rfl (decide_eq_true rfl) (by decide) (by decide) ?_
    show Steps p.tables e below (T5.setTop (mkF m 14 #[rv w_LISTED] [])) _
    refine XS.iconst X5.here hx rfl (hb hby d_prog_105_method_8_code_14) ?_
    show Steps p.tables e below (T5.setTop (mkF m 15 #[rv w_LISTED] [(.int (1 : Int32))])) _
    refine XS.goto X5.here hx rfl (pc0 := 15) (pc' := 19) rfl (hb hby d_prog_105_method_8_code_15) (by decide) (by decide) ?_
    show Steps p.tables e below (T5.setTop (mkF m 19 #[rv w_LISTED] [(.int (1 : Int32))])) _
    exact k
  obtain ⟨fs, hr, hrun, hended, hW, hsame⟩ := X5.leave (v := some (.int (1 : Int32))) (fun h => by rw [Bd.returns] at h; cases h)
  refine ⟨_, _, k7 _ (retN X5 hx (t := .boolean) Bd.returns (by simp) (hb hby d_prog_105_method_8_code_19) hr), hrun, hended, _, _, rfl, ?_, ⟨_, rfl⟩, hW, hsame.mono (by decide) (by decide)⟩
  show Q_isl3 Z w_TEXT w_COMPOSITE w_CLOSED_LIST w_LISTED w_URI w_ISO3166_1_ALPHA2 w_ISO639 w_ISO15924 w_POSITIVE_NUMBER w_POSITIVE_INTEGER w_NONNEGATIVE_INTEGER w_ISO8601_DATE w_DIGEST w_PER_TIME_STANDARD w_PER_COORDINATE_SYSTEM w_TIME_SPAN  h0 n0 _ T5.heap _
  rw [e5]
  exact ⟨rfl, N0, rfl⟩
def Q_isl4 (Z : State) (w_TEXT : Addr) (w_COMPOSITE : Addr) (w_CLOSED_LIST : Addr) (w_LISTED : Addr) (w_URI : Addr) (w_ISO3166_1_ALPHA2 : Addr) (w_ISO639 : Addr) (w_ISO15924 : Addr) (w_POSITIVE_NUMBER : Addr) (w_POSITIVE_INTEGER : Addr) (w_NONNEGATIVE_INTEGER : Addr) (w_ISO8601_DATE : Addr) (w_DIGEST : Addr) (w_PER_TIME_STANDARD : Addr) (w_PER_COORDINATE_SYSTEM : Addr) (w_TIME_SPAN : Addr)  (h0 : Heap) (n0 : Nat) (v : Option Value) (h : Heap) (L : List Loc) : Prop := (v = some (.int (0 : Int32))) ∧ (Fr n0 L) ∧ (h = h0)
set_option maxRecDepth 65536 in
set_option maxHeartbeats 40000000 in
theorem isl4 (l : Launch) (Z : State) (a0 : Array Value) (hw : ∀ d ∈ tables_1, d.before a0 Z = true) (ws : List Jvm.Cond) (w_TEXT : Addr) (w_COMPOSITE : Addr) (w_CLOSED_LIST : Addr) (w_LISTED : Addr) (w_URI : Addr) (w_ISO3166_1_ALPHA2 : Addr) (w_ISO639 : Addr) (w_ISO15924 : Addr) (w_POSITIVE_NUMBER : Addr) (w_POSITIVE_INTEGER : Addr) (w_NONNEGATIVE_INTEGER : Addr) (w_ISO8601_DATE : Addr) (w_DIGEST : Addr) (w_PER_TIME_STANDARD : Addr) (w_PER_COORDINATE_SYSTEM : Addr) (w_TIME_SPAN : Addr) (G : Gst Z w_TEXT w_COMPOSITE w_CLOSED_LIST w_LISTED w_URI w_ISO3166_1_ALPHA2 w_ISO639 w_ISO15924 w_POSITIVE_NUMBER w_POSITIVE_INTEGER w_NONNEGATIVE_INTEGER w_ISO8601_DATE w_DIGEST w_PER_TIME_STANDARD w_PER_COORDINATE_SYSTEM w_TIME_SPAN)  (h0 : Heap) (n0 : Nat) (O0 : Old Z n0 h0) :
    MetFree l (⟨"gradivo/spec/ValueKind", "isList", "()Z"⟩ : MethodName) (head1 (Jvm.Cond.code (⟨"gradivo/spec/ValueKind", "isList", "()Z"⟩ : MethodName) prog_105_method_8_code 1 (some .boolean) :: ws) ({ frames := 0, cells := 0, slots := 0, locals := 0 } : Room)) (fun a U => a = #[(.ref w_URI)] ∧ Z.Warmed39 U.vm ∧ U.heap = h0) (fun _ _ _ _ _ => True) (fun _ U o U' => ∃ v L, o = .returned v ∧ Q_isl4 Z w_TEXT w_COMPOSITE w_CLOSED_LIST w_LISTED w_URI w_ISO3166_1_ALPHA2 w_ISO639 w_ISO15924 w_POSITIVE_NUMBER w_POSITIVE_INTEGER w_NONNEGATIVE_INTEGER w_ISO8601_DATE w_DIGEST w_PER_TIME_STANDARD w_PER_COORDINATE_SYSTEM w_TIME_SPAN  h0 n0 v U'.heap L ∧ FrameEnd U o U' L ({ frames := 0, cells := 0, slots := 0, locals := 0 } : Room).cells ({ frames := 0, cells := 0, slots := 0, locals := 0 } : Room).slots) := by
  refine MetFree.of_bodySF (plainFor_of_name pn_0) hisR ?_
  intro p e s m args below meth c s₁ Bd hml0 hP hK
  obtain ⟨rfl, hZ, hh⟩ := hP
  have hx := Bd.exec
  have hby := Bd.bytes
  have hml : c.maxLocals = 1 := hml0
  have hown : s.vm.findClass "gradivo/spec/ValueKind" = some m.cls := findClass_of_methodNamed Bd.named
  have hnm := (name_of_methodNamed Bd.named Bd.method).1
  have X0 : Stand p l e ({ frames := 0, cells := 0, slots := 0, locals := 0 } : Room) s m #[(.ref w_URI)] below meth c s₁ [] 0 0 := Stand.of_body Bd
  have e0 : s₁.heap = h0 := by rw [← hh, Bd.state]; rfl
  have N0 := Fr.nil n0
  obtain ⟨S_w_TEXT, E_w_TEXT, F_w_TEXT_ordinal, S_w_COMPOSITE, E_w_COMPOSITE, F_w_COMPOSITE_ordinal, S_w_CLOSED_LIST, E_w_CLOSED_LIST, F_w_CLOSED_LIST_ordinal, S_w_LISTED, E_w_LISTED, F_w_LISTED_ordinal, S_w_URI, E_w_URI, F_w_URI_ordinal, S_w_ISO3166_1_ALPHA2, E_w_ISO3166_1_ALPHA2, F_w_ISO3166_1_ALPHA2_ordinal, S_w_ISO639, E_w_ISO639, F_w_ISO639_ordinal, S_w_ISO15924, E_w_ISO15924, F_w_ISO15924_ordinal, S_w_POSITIVE_NUMBER, E_w_POSITIVE_NUMBER, F_w_POSITIVE_NUMBER_ordinal, S_w_POSITIVE_INTEGER, E_w_POSITIVE_INTEGER, F_w_POSITIVE_INTEGER_ordinal, S_w_NONNEGATIVE_INTEGER, E_w_NONNEGATIVE_INTEGER, F_w_NONNEGATIVE_INTEGER_ordinal, S_w_ISO8601_DATE, E_w_ISO8601_DATE, F_w_ISO8601_DATE_ordinal, S_w_DIGEST, E_w_DIGEST, F_w_DIGEST_ordinal, S_w_PER_TIME_STANDARD, E_w_PER_TIME_STANDARD, F_w_PER_TIME_STANDARD_ordinal, S_w_PER_COORDINATE_SYSTEM, E_w_PER_COORDINATE_SYSTEM, F_w_PER_COORDINATE_SYSTEM_ordinal, S_w_TIME_SPAN, E_w_TIME_SPAN, F_w_TIME_SPAN_ordinal⟩ := id G
  have k0 : Way p e below (s₁.setTop (entryFrame m #[(.ref w_URI)] 1)) s₁ (mkF m 0 #[rv w_URI] []) := fun t k => castTop (by first | (simp [entryFrame, mkF, argsToLocals, Value.category]; done) | rfl) k
  generalize s₁.setTop (entryFrame m #[(.ref w_URI)] 1) = S0 at k0 ⊢
  have k1 : Way p e below S0 s₁ (mkF m 1 #[rv w_URI] [(.ref w_URI)]) := by
    intro t k
    refine k0 t ?_
    refine XS.aloadN X0.here hx rfl (hb hby d_prog_105_method_8_code_0) rfl rfl ?_
    show Steps p.tables e below (s₁.setTop (mkF m 1 #[rv w_URI] [(.ref w_URI)])) _
    exact k
  obtain ⟨T2, X2, e2, st2⟩ := getS2 X0 hx hZ hown (host := "") (Or.inl (hw _ (List.mem_of_getElem? (i := 42) rfl))) Via.refl e0 (S_w_CLOSED_LIST.ext O0.2) (g := (mkF m 1 #[rv w_URI] [(.ref w_URI)])) rfl (hb hby d_prog_105_method_8_code_1)
  have k3 : Way p e below S0 T2 (mkF m 4 #[rv w_URI] [(.ref w_CLOSED_LIST), (.ref w_URI)]) := fun t k => k1 t (st2 _ k)
  have k4 : Way p e below S0 T2 (mkF m 8 #[rv w_URI] [(.ref w_URI)]) := by
    intro t k
    refine k3 t ?_
    refine Jvm.RoadKit.acmp (g := (mkF m 4 #[rv w_URI] [(.ref w_CLOSED_LIST), (.ref w_URI)])) X2 hx rfl rfl rfl (pc0 := 4) (pc' := 7) (same := false) rfl (hb hby d_prog_105_method_8_code_4) rfl (decide_eq_false fun q => absurd (Value.ref.inj q) (F_w_URI_ordinal.ne F_w_CLOSED_LIST_ordinal (by decide))) (by decide) (by decide) ?_
    show Steps p.tables e below (T2.setTop (mkF m 7 #[rv w_URI] [])) _
    refine XS.aloadN X2.here hx rfl (hb hby d_prog_105_method_8_code_7) rfl rfl ?_
    show Steps p.tables e below (T2.setTop (mkF m 8 #[rv w_URI] [(.ref w_URI)])) _
    exact k
  obtain ⟨T5, X5, e5, st5⟩ := getS2 X2 hx hZ hown (host := "") (Or.inl (hw _ (List.mem_of_getElem? (i := 43) rfl))) Via.refl e2 (S_w_LISTED.ext O0.2) (g := (mkF m 8 #[rv w_URI] [(.ref w_URI)])) rfl (hb hby d_prog_105_method_8_code_8)
  have k6 : Way p e below S0 T5 (mkF m 11 #[rv w_URI] [(.ref w_LISTED), (.ref w_URI)]) := fun t k => k4 t (st5 _ k)
  have k7 : Way p e below S0 T5 (mkF m 19 #[rv w_URI] [(.int (0 : Int32))]) := by
    intro t k
    refine k6 t ?_
    refine Jvm.RoadKit.acmp (g := (mkF m 11 #[rv w_URI] [(.ref w_LISTED), (.ref w_URI)])) X5 hx rfl rfl rfl (pc0 := 11) (pc' := 18) (same := false) rfl (hb hby d_prog_105_method_8_code_11) rfl (decide_eq_false fun q => absurd (Value.ref.inj q) (F_w_URI_ordinal.ne F_w_LISTED_ordinal (by decide))) (by decide) (by decide) ?_
    show Steps p.tables e below (T5.setTop (mkF m 18 #[rv w_URI] [])) _
    refine XS.iconst X5.here hx rfl (hb hby d_prog_105_method_8_code_18) ?_
    show Steps p.tables e below (T5.setTop (mkF m 19 #[rv w_URI] [(.int (0 : Int32))])) _
    exact k
  obtain ⟨fs, hr, hrun, hended, hW, hsame⟩ := X5.leave (v := some (.int (0 : Int32))) (fun h => by rw [Bd.returns] at h; cases h)
  refine ⟨_, _, k7 _ (retN X5 hx (t := .boolean) Bd.returns (by simp) (hb hby d_prog_105_method_8_code_19) hr), hrun, hended, _, _, rfl, ?_, ⟨_, rfl⟩, hW, hsame.mono (by decide) (by decide)⟩
  show Q_isl4 Z w_TEXT w_COMPOSITE w_CLOSED_LIST w_LISTED w_URI w_ISO3166_1_ALPHA2 w_ISO639 w_ISO15924 w_POSITIVE_NUMBER w_POSITIVE_INTEGER w_NONNEGATIVE_INTEGER w_ISO8601_DATE w_DIGEST w_PER_TIME_STANDARD w_PER_COORDINATE_SYSTEM w_TIME_SPAN  h0 n0 _ T5.heap _
  rw [e5]
  exact ⟨rfl, N0, rfl⟩
def Q_isl5 (Z : State) (w_TEXT : Addr) (w_COMPOSITE : Addr) (w_CLOSED_LIST : Addr) (w_LISTED : Addr) (w_URI : Addr) (w_ISO3166_1_ALPHA2 : Addr) (w_ISO639 : Addr) (w_ISO15924 : Addr) (w_POSITIVE_NUMBER : Addr) (w_POSITIVE_INTEGER : Addr) (w_NONNEGATIVE_INTEGER : Addr) (w_ISO8601_DATE : Addr) (w_DIGEST : Addr) (w_PER_TIME_STANDARD : Addr) (w_PER_COORDINATE_SYSTEM : Addr) (w_TIME_SPAN : Addr)  (h0 : Heap) (n0 : Nat) (v : Option Value) (h : Heap) (L : List Loc) : Prop := (v = some (.int (0 : Int32))) ∧ (Fr n0 L) ∧ (h = h0)
set_option maxRecDepth 65536 in
set_option maxHeartbeats 40000000 in
theorem isl5 (l : Launch) (Z : State) (a0 : Array Value) (hw : ∀ d ∈ tables_1, d.before a0 Z = true) (ws : List Jvm.Cond) (w_TEXT : Addr) (w_COMPOSITE : Addr) (w_CLOSED_LIST : Addr) (w_LISTED : Addr) (w_URI : Addr) (w_ISO3166_1_ALPHA2 : Addr) (w_ISO639 : Addr) (w_ISO15924 : Addr) (w_POSITIVE_NUMBER : Addr) (w_POSITIVE_INTEGER : Addr) (w_NONNEGATIVE_INTEGER : Addr) (w_ISO8601_DATE : Addr) (w_DIGEST : Addr) (w_PER_TIME_STANDARD : Addr) (w_PER_COORDINATE_SYSTEM : Addr) (w_TIME_SPAN : Addr) (G : Gst Z w_TEXT w_COMPOSITE w_CLOSED_LIST w_LISTED w_URI w_ISO3166_1_ALPHA2 w_ISO639 w_ISO15924 w_POSITIVE_NUMBER w_POSITIVE_INTEGER w_NONNEGATIVE_INTEGER w_ISO8601_DATE w_DIGEST w_PER_TIME_STANDARD w_PER_COORDINATE_SYSTEM w_TIME_SPAN)  (h0 : Heap) (n0 : Nat) (O0 : Old Z n0 h0) :
    MetFree l (⟨"gradivo/spec/ValueKind", "isList", "()Z"⟩ : MethodName) (head1 (Jvm.Cond.code (⟨"gradivo/spec/ValueKind", "isList", "()Z"⟩ : MethodName) prog_105_method_8_code 1 (some .boolean) :: ws) ({ frames := 0, cells := 0, slots := 0, locals := 0 } : Room)) (fun a U => a = #[(.ref w_ISO3166_1_ALPHA2)] ∧ Z.Warmed39 U.vm ∧ U.heap = h0) (fun _ _ _ _ _ => True) (fun _ U o U' => ∃ v L, o = .returned v ∧ Q_isl5 Z w_TEXT w_COMPOSITE w_CLOSED_LIST w_LISTED w_URI w_ISO3166_1_ALPHA2 w_ISO639 w_ISO15924 w_POSITIVE_NUMBER w_POSITIVE_INTEGER w_NONNEGATIVE_INTEGER w_ISO8601_DATE w_DIGEST w_PER_TIME_STANDARD w_PER_COORDINATE_SYSTEM w_TIME_SPAN  h0 n0 v U'.heap L ∧ FrameEnd U o U' L ({ frames := 0, cells := 0, slots := 0, locals := 0 } : Room).cells ({ frames := 0, cells := 0, slots := 0, locals := 0 } : Room).slots) := by
  refine MetFree.of_bodySF (plainFor_of_name pn_0) hisR ?_
  intro p e s m args below meth c s₁ Bd hml0 hP hK
  obtain ⟨rfl, hZ, hh⟩ := hP
  have hx := Bd.exec
  have hby := Bd.bytes
  have hml : c.maxLocals = 1 := hml0
  have hown : s.vm.findClass "gradivo/spec/ValueKind" = some m.cls := findClass_of_methodNamed Bd.named
  have hnm := (name_of_methodNamed Bd.named Bd.method).1
  have X0 : Stand p l e ({ frames := 0, cells := 0, slots := 0, locals := 0 } : Room) s m #[(.ref w_ISO3166_1_ALPHA2)] below meth c s₁ [] 0 0 := Stand.of_body Bd
  have e0 : s₁.heap = h0 := by rw [← hh, Bd.state]; rfl
  have N0 := Fr.nil n0
  obtain ⟨S_w_TEXT, E_w_TEXT, F_w_TEXT_ordinal, S_w_COMPOSITE, E_w_COMPOSITE, F_w_COMPOSITE_ordinal, S_w_CLOSED_LIST, E_w_CLOSED_LIST, F_w_CLOSED_LIST_ordinal, S_w_LISTED, E_w_LISTED, F_w_LISTED_ordinal, S_w_URI, E_w_URI, F_w_URI_ordinal, S_w_ISO3166_1_ALPHA2, E_w_ISO3166_1_ALPHA2, F_w_ISO3166_1_ALPHA2_ordinal, S_w_ISO639, E_w_ISO639, F_w_ISO639_ordinal, S_w_ISO15924, E_w_ISO15924, F_w_ISO15924_ordinal, S_w_POSITIVE_NUMBER, E_w_POSITIVE_NUMBER, F_w_POSITIVE_NUMBER_ordinal, S_w_POSITIVE_INTEGER, E_w_POSITIVE_INTEGER, F_w_POSITIVE_INTEGER_ordinal, S_w_NONNEGATIVE_INTEGER, E_w_NONNEGATIVE_INTEGER, F_w_NONNEGATIVE_INTEGER_ordinal, S_w_ISO8601_DATE, E_w_ISO8601_DATE, F_w_ISO8601_DATE_ordinal, S_w_DIGEST, E_w_DIGEST, F_w_DIGEST_ordinal, S_w_PER_TIME_STANDARD, E_w_PER_TIME_STANDARD, F_w_PER_TIME_STANDARD_ordinal, S_w_PER_COORDINATE_SYSTEM, E_w_PER_COORDINATE_SYSTEM, F_w_PER_COORDINATE_SYSTEM_ordinal, S_w_TIME_SPAN, E_w_TIME_SPAN, F_w_TIME_SPAN_ordinal⟩ := id G
  have k0 : Way p e below (s₁.setTop (entryFrame m #[(.ref w_ISO3166_1_ALPHA2)] 1)) s₁ (mkF m 0 #[rv w_ISO3166_1_ALPHA2] []) := fun t k => castTop (by first | (simp [entryFrame, mkF, argsToLocals, Value.category]; done) | rfl) k
  generalize s₁.setTop (entryFrame m #[(.ref w_ISO3166_1_ALPHA2)] 1) = S0 at k0 ⊢
  have k1 : Way p e below S0 s₁ (mkF m 1 #[rv w_ISO3166_1_ALPHA2] [(.ref w_ISO3166_1_ALPHA2)]) := by
    intro t k
    refine k0 t ?_
    refine XS.aloadN X0.here hx rfl (hb hby d_prog_105_method_8_code_0) rfl rfl ?_
    show Steps p.tables e below (s₁.setTop (mkF m 1 #[rv w_ISO3166_1_ALPHA2] [(.ref w_ISO3166_1_ALPHA2)])) _
    exact k
  obtain ⟨T2, X2, e2, st2⟩ := getS2 X0 hx hZ hown (host := "") (Or.inl (hw _ (List.mem_of_getElem? (i := 42) rfl))) Via.refl e0 (S_w_CLOSED_LIST.ext O0.2) (g := (mkF m 1 #[rv w_ISO3166_1_ALPHA2] [(.ref w_ISO3166_1_ALPHA2)])) rfl (hb hby d_prog_105_method_8_code_1)
  have k3 : Way p e below S0 T2 (mkF m 4 #[rv w_ISO3166_1_ALPHA2] [(.ref w_CLOSED_LIST), (.ref w_ISO3166_1_ALPHA2)]) := fun t k => k1 t (st2 _ k)
  have k4 : Way p e below S0 T2 (mkF m 8 #[rv w_ISO3166_1_ALPHA2] [(.ref w_ISO3166_1_ALPHA2)]) := by
    intro t k
    refine k3 t ?_
    refine Jvm.RoadKit.acmp (g := (mkF m 4 #[rv w_ISO3166_1_ALPHA2] [(.ref w_CLOSED_LIST), (.ref w_ISO3166_1_ALPHA2)])) X2 hx rfl rfl rfl (pc0 := 4) (pc' := 7) (same := false) rfl (hb hby d_prog_105_method_8_code_4) rfl (decide_eq_false fun q => absurd (Value.ref.inj q) (F_w_ISO3166_1_ALPHA2_ordinal.ne F_w_CLOSED_LIST_ordinal (by decide))) (by decide) (by decide) ?_
    show Steps p.tables e below (T2.setTop (mkF m 7 #[rv w_ISO3166_1_ALPHA2] [])) _
    refine XS.aloadN X2.here hx rfl (hb hby d_prog_105_method_8_code_7) rfl rfl ?_
    show Steps p.tables e below (T2.setTop (mkF m 8 #[rv w_ISO3166_1_ALPHA2] [(.ref w_ISO3166_1_ALPHA2)])) _
    exact k
  obtain ⟨T5, X5, e5, st5⟩ := getS2 X2 hx hZ hown (host := "") (Or.inl (hw _ (List.mem_of_getElem? (i := 43) rfl))) Via.refl e2 (S_w_LISTED.ext O0.2) (g := (mkF m 8 #[rv w_ISO3166_1_ALPHA2] [(.ref w_ISO3166_1_ALPHA2)])) rfl (hb hby d_prog_105_method_8_code_8)
  have k6 : Way p e below S0 T5 (mkF m 11 #[rv w_ISO3166_1_ALPHA2] [(.ref w_LISTED), (.ref w_ISO3166_1_ALPHA2)]) := fun t k => k4 t (st5 _ k)
  have k7 : Way p e below S0 T5 (mkF m 19 #[rv w_ISO3166_1_ALPHA2] [(.int (0 : Int32))]) := by
    intro t k
    refine k6 t ?_
    refine Jvm.RoadKit.acmp (g := (mkF m 11 #[rv w_ISO3166_1_ALPHA2] [(.ref w_LISTED), (.ref w_ISO3166_1_ALPHA2)])) X5 hx rfl rfl rfl (pc0 := 11) (pc' := 18) (same := false) rfl (hb hby d_prog_105_method_8_code_11) rfl (decide_eq_false fun q => absurd (Value.ref.inj q) (F_w_ISO3166_1_ALPHA2_ordinal.ne F_w_LISTED_ordinal (by decide))) (by decide) (by decide) ?_
    show Steps p.tables e below (T5.setTop (mkF m 18 #[rv w_ISO3166_1_ALPHA2] [])) _
    refine XS.iconst X5.here hx rfl (hb hby d_prog_105_method_8_code_18) ?_
    show Steps p.tables e below (T5.setTop (mkF m 19 #[rv w_ISO3166_1_ALPHA2] [(.int (0 : Int32))])) _
    exact k
  obtain ⟨fs, hr, hrun, hended, hW, hsame⟩ := X5.leave (v := some (.int (0 : Int32))) (fun h => by rw [Bd.returns] at h; cases h)
  refine ⟨_, _, k7 _ (retN X5 hx (t := .boolean) Bd.returns (by simp) (hb hby d_prog_105_method_8_code_19) hr), hrun, hended, _, _, rfl, ?_, ⟨_, rfl⟩, hW, hsame.mono (by decide) (by decide)⟩
  show Q_isl5 Z w_TEXT w_COMPOSITE w_CLOSED_LIST w_LISTED w_URI w_ISO3166_1_ALPHA2 w_ISO639 w_ISO15924 w_POSITIVE_NUMBER w_POSITIVE_INTEGER w_NONNEGATIVE_INTEGER w_ISO8601_DATE w_DIGEST w_PER_TIME_STANDARD w_PER_COORDINATE_SYSTEM w_TIME_SPAN  h0 n0 _ T5.heap _
  rw [e5]
  exact ⟨rfl, N0, rfl⟩
def Q_isl6 (Z : State) (w_TEXT : Addr) (w_COMPOSITE : Addr) (w_CLOSED_LIST : Addr) (w_LISTED : Addr) (w_URI : Addr) (w_ISO3166_1_ALPHA2 : Addr) (w_ISO639 : Addr) (w_ISO15924 : Addr) (w_POSITIVE_NUMBER : Addr) (w_POSITIVE_INTEGER : Addr) (w_NONNEGATIVE_INTEGER : Addr) (w_ISO8601_DATE : Addr) (w_DIGEST : Addr) (w_PER_TIME_STANDARD : Addr) (w_PER_COORDINATE_SYSTEM : Addr) (w_TIME_SPAN : Addr)  (h0 : Heap) (n0 : Nat) (v : Option Value) (h : Heap) (L : List Loc) : Prop := (v = some (.int (0 : Int32))) ∧ (Fr n0 L) ∧ (h = h0)
set_option maxRecDepth 65536 in
set_option maxHeartbeats 40000000 in
theorem isl6 (l : Launch) (Z : State) (a0 : Array Value) (hw : ∀ d ∈ tables_1, d.before a0 Z = true) (ws : List Jvm.Cond) (w_TEXT : Addr) (w_COMPOSITE : Addr) (w_CLOSED_LIST : Addr) (w_LISTED : Addr) (w_URI : Addr) (w_ISO3166_1_ALPHA2 : Addr) (w_ISO639 : Addr) (w_ISO15924 : Addr) (w_POSITIVE_NUMBER : Addr) (w_POSITIVE_INTEGER : Addr) (w_NONNEGATIVE_INTEGER : Addr) (w_ISO8601_DATE : Addr) (w_DIGEST : Addr) (w_PER_TIME_STANDARD : Addr) (w_PER_COORDINATE_SYSTEM : Addr) (w_TIME_SPAN : Addr) (G : Gst Z w_TEXT w_COMPOSITE w_CLOSED_LIST w_LISTED w_URI w_ISO3166_1_ALPHA2 w_ISO639 w_ISO15924 w_POSITIVE_NUMBER w_POSITIVE_INTEGER w_NONNEGATIVE_INTEGER w_ISO8601_DATE w_DIGEST w_PER_TIME_STANDARD w_PER_COORDINATE_SYSTEM w_TIME_SPAN)  (h0 : Heap) (n0 : Nat) (O0 : Old Z n0 h0) :
    MetFree l (⟨"gradivo/spec/ValueKind", "isList", "()Z"⟩ : MethodName) (head1 (Jvm.Cond.code (⟨"gradivo/spec/ValueKind", "isList", "()Z"⟩ : MethodName) prog_105_method_8_code 1 (some .boolean) :: ws) ({ frames := 0, cells := 0, slots := 0, locals := 0 } : Room)) (fun a U => a = #[(.ref w_ISO639)] ∧ Z.Warmed39 U.vm ∧ U.heap = h0) (fun _ _ _ _ _ => True) (fun _ U o U' => ∃ v L, o = .returned v ∧ Q_isl6 Z w_TEXT w_COMPOSITE w_CLOSED_LIST w_LISTED w_URI w_ISO3166_1_ALPHA2 w_ISO639 w_ISO15924 w_POSITIVE_NUMBER w_POSITIVE_INTEGER w_NONNEGATIVE_INTEGER w_ISO8601_DATE w_DIGEST w_PER_TIME_STANDARD w_PER_COORDINATE_SYSTEM w_TIME_SPAN  h0 n0 v U'.heap L ∧ FrameEnd U o U' L ({ frames := 0, cells := 0, slots := 0, locals := 0 } : Room).cells ({ frames := 0, cells := 0, slots := 0, locals := 0 } : Room).slots) := by
  refine MetFree.of_bodySF (plainFor_of_name pn_0) hisR ?_
  intro p e s m args below meth c s₁ Bd hml0 hP hK
  obtain ⟨rfl, hZ, hh⟩ := hP
  have hx := Bd.exec
  have hby := Bd.bytes
  have hml : c.maxLocals = 1 := hml0
  have hown : s.vm.findClass "gradivo/spec/ValueKind" = some m.cls := findClass_of_methodNamed Bd.named
  have hnm := (name_of_methodNamed Bd.named Bd.method).1
  have X0 : Stand p l e ({ frames := 0, cells := 0, slots := 0, locals := 0 } : Room) s m #[(.ref w_ISO639)] below meth c s₁ [] 0 0 := Stand.of_body Bd
  have e0 : s₁.heap = h0 := by rw [← hh, Bd.state]; rfl
  have N0 := Fr.nil n0
  obtain ⟨S_w_TEXT, E_w_TEXT, F_w_TEXT_ordinal, S_w_COMPOSITE, E_w_COMPOSITE, F_w_COMPOSITE_ordinal, S_w_CLOSED_LIST, E_w_CLOSED_LIST, F_w_CLOSED_LIST_ordinal, S_w_LISTED, E_w_LISTED, F_w_LISTED_ordinal, S_w_URI, E_w_URI, F_w_URI_ordinal, S_w_ISO3166_1_ALPHA2, E_w_ISO3166_1_ALPHA2, F_w_ISO3166_1_ALPHA2_ordinal, S_w_ISO639, E_w_ISO639, F_w_ISO639_ordinal, S_w_ISO15924, E_w_ISO15924, F_w_ISO15924_ordinal, S_w_POSITIVE_NUMBER, E_w_POSITIVE_NUMBER, F_w_POSITIVE_NUMBER_ordinal, S_w_POSITIVE_INTEGER, E_w_POSITIVE_INTEGER, F_w_POSITIVE_INTEGER_ordinal, S_w_NONNEGATIVE_INTEGER, E_w_NONNEGATIVE_INTEGER, F_w_NONNEGATIVE_INTEGER_ordinal, S_w_ISO8601_DATE, E_w_ISO8601_DATE, F_w_ISO8601_DATE_ordinal, S_w_DIGEST, E_w_DIGEST, F_w_DIGEST_ordinal, S_w_PER_TIME_STANDARD, E_w_PER_TIME_STANDARD, F_w_PER_TIME_STANDARD_ordinal, S_w_PER_COORDINATE_SYSTEM, E_w_PER_COORDINATE_SYSTEM, F_w_PER_COORDINATE_SYSTEM_ordinal, S_w_TIME_SPAN, E_w_TIME_SPAN, F_w_TIME_SPAN_ordinal⟩ := id G
  have k0 : Way p e below (s₁.setTop (entryFrame m #[(.ref w_ISO639)] 1)) s₁ (mkF m 0 #[rv w_ISO639] []) := fun t k => castTop (by first | (simp [entryFrame, mkF, argsToLocals, Value.category]; done) | rfl) k
  generalize s₁.setTop (entryFrame m #[(.ref w_ISO639)] 1) = S0 at k0 ⊢
  have k1 : Way p e below S0 s₁ (mkF m 1 #[rv w_ISO639] [(.ref w_ISO639)]) := by
    intro t k
    refine k0 t ?_
    refine XS.aloadN X0.here hx rfl (hb hby d_prog_105_method_8_code_0) rfl rfl ?_
    show Steps p.tables e below (s₁.setTop (mkF m 1 #[rv w_ISO639] [(.ref w_ISO639)])) _
    exact k
  obtain ⟨T2, X2, e2, st2⟩ := getS2 X0 hx hZ hown (host := "") (Or.inl (hw _ (List.mem_of_getElem? (i := 42) rfl))) Via.refl e0 (S_w_CLOSED_LIST.ext O0.2) (g := (mkF m 1 #[rv w_ISO639] [(.ref w_ISO639)])) rfl (hb hby d_prog_105_method_8_code_1)
  have k3 : Way p e below S0 T2 (mkF m 4 #[rv w_ISO639] [(.ref w_CLOSED_LIST), (.ref w_ISO639)]) := fun t k => k1 t (st2 _ k)
  have k4 : Way p e below S0 T2 (mkF m 8 #[rv w_ISO639] [(.ref w_ISO639)]) := by
    intro t k
    refine k3 t ?_
    refine Jvm.RoadKit.acmp (g := (mkF m 4 #[rv w_ISO639] [(.ref w_CLOSED_LIST), (.ref w_ISO639)])) X2 hx rfl rfl rfl (pc0 := 4) (pc' := 7) (same := false) rfl (hb hby d_prog_105_method_8_code_4) rfl (decide_eq_false fun q => absurd (Value.ref.inj q) (F_w_ISO639_ordinal.ne F_w_CLOSED_LIST_ordinal (by decide))) (by decide) (by decide) ?_
    show Steps p.tables e below (T2.setTop (mkF m 7 #[rv w_ISO639] [])) _
    refine XS.aloadN X2.here hx rfl (hb hby d_prog_105_method_8_code_7) rfl rfl ?_
    show Steps p.tables e below (T2.setTop (mkF m 8 #[rv w_ISO639] [(.ref w_ISO639)])) _
    exact k
  obtain ⟨T5, X5, e5, st5⟩ := getS2 X2 hx hZ hown (host := "") (Or.inl (hw _ (List.mem_of_getElem? (i := 43) rfl))) Via.refl e2 (S_w_LISTED.ext O0.2) (g := (mkF m 8 #[rv w_ISO639] [(.ref w_ISO639)])) rfl (hb hby d_prog_105_method_8_code_8)
  have k6 : Way p e below S0 T5 (mkF m 11 #[rv w_ISO639] [(.ref w_LISTED), (.ref w_ISO639)]) := fun t k => k4 t (st5 _ k)
  have k7 : Way p e below S0 T5 (mkF m 19 #[rv w_ISO639] [(.int (0 : Int32))]) := by
    intro t k
    refine k6 t ?_
    refine Jvm.RoadKit.acmp (g := (mkF m 11 #[rv w_ISO639] [(.ref w_LISTED), (.ref w_ISO639)])) X5 hx rfl rfl rfl (pc0 := 11) (pc' := 18) (same := false) rfl (hb hby d_prog_105_method_8_code_11) rfl (decide_eq_false fun q => absurd (Value.ref.inj q) (F_w_ISO639_ordinal.ne F_w_LISTED_ordinal (by decide))) (by decide) (by decide) ?_
    show Steps p.tables e below (T5.setTop (mkF m 18 #[rv w_ISO639] [])) _
    refine XS.iconst X5.here hx rfl (hb hby d_prog_105_method_8_code_18) ?_
    show Steps p.tables e below (T5.setTop (mkF m 19 #[rv w_ISO639] [(.int (0 : Int32))])) _
    exact k
  obtain ⟨fs, hr, hrun, hended, hW, hsame⟩ := X5.leave (v := some (.int (0 : Int32))) (fun h => by rw [Bd.returns] at h; cases h)
  refine ⟨_, _, k7 _ (retN X5 hx (t := .boolean) Bd.returns (by simp) (hb hby d_prog_105_method_8_code_19) hr), hrun, hended, _, _, rfl, ?_, ⟨_, rfl⟩, hW, hsame.mono (by decide) (by decide)⟩
  show Q_isl6 Z w_TEXT w_COMPOSITE w_CLOSED_LIST w_LISTED w_URI w_ISO3166_1_ALPHA2 w_ISO639 w_ISO15924 w_POSITIVE_NUMBER w_POSITIVE_INTEGER w_NONNEGATIVE_INTEGER w_ISO8601_DATE w_DIGEST w_PER_TIME_STANDARD w_PER_COORDINATE_SYSTEM w_TIME_SPAN  h0 n0 _ T5.heap _
  rw [e5]
  exact ⟨rfl, N0, rfl⟩
def Q_isl7 (Z : State) (w_TEXT : Addr) (w_COMPOSITE : Addr) (w_CLOSED_LIST : Addr) (w_LISTED : Addr) (w_URI : Addr) (w_ISO3166_1_ALPHA2 : Addr) (w_ISO639 : Addr) (w_ISO15924 : Addr) (w_POSITIVE_NUMBER : Addr) (w_POSITIVE_INTEGER : Addr) (w_NONNEGATIVE_INTEGER : Addr) (w_ISO8601_DATE : Addr) (w_DIGEST : Addr) (w_PER_TIME_STANDARD : Addr) (w_PER_COORDINATE_SYSTEM : Addr) (w_TIME_SPAN : Addr)  (h0 : Heap) (n0 : Nat) (v : Option Value) (h : Heap) (L : List Loc) : Prop := (v = some (.int (0 : Int32))) ∧ (Fr n0 L) ∧ (h = h0)
set_option maxRecDepth 65536 in
set_option maxHeartbeats 40000000 in
theorem isl7 (l : Launch) (Z : State) (a0 : Array Value) (hw : ∀ d ∈ tables_1, d.before a0 Z = true) (ws : List Jvm.Cond) (w_TEXT : Addr) (w_COMPOSITE : Addr) (w_CLOSED_LIST : Addr) (w_LISTED : Addr) (w_URI : Addr) (w_ISO3166_1_ALPHA2 : Addr) (w_ISO639 : Addr) (w_ISO15924 : Addr) (w_POSITIVE_NUMBER : Addr) (w_POSITIVE_INTEGER : Addr) (w_NONNEGATIVE_INTEGER : Addr) (w_ISO8601_DATE : Addr) (w_DIGEST : Addr) (w_PER_TIME_STANDARD : Addr) (w_PER_COORDINATE_SYSTEM : Addr) (w_TIME_SPAN : Addr) (G : Gst Z w_TEXT w_COMPOSITE w_CLOSED_LIST w_LISTED w_URI w_ISO3166_1_ALPHA2 w_ISO639 w_ISO15924 w_POSITIVE_NUMBER w_POSITIVE_INTEGER w_NONNEGATIVE_INTEGER w_ISO8601_DATE w_DIGEST w_PER_TIME_STANDARD w_PER_COORDINATE_SYSTEM w_TIME_SPAN)  (h0 : Heap) (n0 : Nat) (O0 : Old Z n0 h0) :
    MetFree l (⟨"gradivo/spec/ValueKind", "isList", "()Z"⟩ : MethodName) (head1 (Jvm.Cond.code (⟨"gradivo/spec/ValueKind", "isList", "()Z"⟩ : MethodName) prog_105_method_8_code 1 (some .boolean) :: ws) ({ frames := 0, cells := 0, slots := 0, locals := 0 } : Room)) (fun a U => a = #[(.ref w_ISO15924)] ∧ Z.Warmed39 U.vm ∧ U.heap = h0) (fun _ _ _ _ _ => True) (fun _ U o U' => ∃ v L, o = .returned v ∧ Q_isl7 Z w_TEXT w_COMPOSITE w_CLOSED_LIST w_LISTED w_URI w_ISO3166_1_ALPHA2 w_ISO639 w_ISO15924 w_POSITIVE_NUMBER w_POSITIVE_INTEGER w_NONNEGATIVE_INTEGER w_ISO8601_DATE w_DIGEST w_PER_TIME_STANDARD w_PER_COORDINATE_SYSTEM w_TIME_SPAN  h0 n0 v U'.heap L ∧ FrameEnd U o U' L ({ frames := 0, cells := 0, slots := 0, locals := 0 } : Room).cells ({ frames := 0, cells := 0, slots := 0, locals := 0 } : Room).slots) := by
  refine MetFree.of_bodySF (plainFor_of_name pn_0) hisR ?_
  intro p e s m args below meth c s₁ Bd hml0 hP hK
  obtain ⟨rfl, hZ, hh⟩ := hP
  have hx := Bd.exec
  have hby := Bd.bytes
  have hml : c.maxLocals = 1 := hml0
  have hown : s.vm.findClass "gradivo/spec/ValueKind" = some m.cls := findClass_of_methodNamed Bd.named
  have hnm := (name_of_methodNamed Bd.named Bd.method).1
  have X0 : Stand p l e ({ frames := 0, cells := 0, slots := 0, locals := 0 } : Room) s m #[(.ref w_ISO15924)] below meth c s₁ [] 0 0 := Stand.of_body Bd
  have e0 : s₁.heap = h0 := by rw [← hh, Bd.state]; rfl
  have N0 := Fr.nil n0
  obtain ⟨S_w_TEXT, E_w_TEXT, F_w_TEXT_ordinal, S_w_COMPOSITE, E_w_COMPOSITE, F_w_COMPOSITE_ordinal, S_w_CLOSED_LIST, E_w_CLOSED_LIST, F_w_CLOSED_LIST_ordinal, S_w_LISTED, E_w_LISTED, F_w_LISTED_ordinal, S_w_URI, E_w_URI, F_w_URI_ordinal, S_w_ISO3166_1_ALPHA2, E_w_ISO3166_1_ALPHA2, F_w_ISO3166_1_ALPHA2_ordinal, S_w_ISO639, E_w_ISO639, F_w_ISO639_ordinal, S_w_ISO15924, E_w_ISO15924, F_w_ISO15924_ordinal, S_w_POSITIVE_NUMBER, E_w_POSITIVE_NUMBER, F_w_POSITIVE_NUMBER_ordinal, S_w_POSITIVE_INTEGER, E_w_POSITIVE_INTEGER, F_w_POSITIVE_INTEGER_ordinal, S_w_NONNEGATIVE_INTEGER, E_w_NONNEGATIVE_INTEGER, F_w_NONNEGATIVE_INTEGER_ordinal, S_w_ISO8601_DATE, E_w_ISO8601_DATE, F_w_ISO8601_DATE_ordinal, S_w_DIGEST, E_w_DIGEST, F_w_DIGEST_ordinal, S_w_PER_TIME_STANDARD, E_w_PER_TIME_STANDARD, F_w_PER_TIME_STANDARD_ordinal, S_w_PER_COORDINATE_SYSTEM, E_w_PER_COORDINATE_SYSTEM, F_w_PER_COORDINATE_SYSTEM_ordinal, S_w_TIME_SPAN, E_w_TIME_SPAN, F_w_TIME_SPAN_ordinal⟩ := id G
  have k0 : Way p e below (s₁.setTop (entryFrame m #[(.ref w_ISO15924)] 1)) s₁ (mkF m 0 #[rv w_ISO15924] []) := fun t k => castTop (by first | (simp [entryFrame, mkF, argsToLocals, Value.category]; done) | rfl) k
  generalize s₁.setTop (entryFrame m #[(.ref w_ISO15924)] 1) = S0 at k0 ⊢
  have k1 : Way p e below S0 s₁ (mkF m 1 #[rv w_ISO15924] [(.ref w_ISO15924)]) := by
    intro t k
    refine k0 t ?_
    refine XS.aloadN X0.here hx rfl (hb hby d_prog_105_method_8_code_0) rfl rfl ?_
    show Steps p.tables e below (s₁.setTop (mkF m 1 #[rv w_ISO15924] [(.ref w_ISO15924)])) _
    exact k
  obtain ⟨T2, X2, e2, st2⟩ := getS2 X0 hx hZ hown (host := "") (Or.inl (hw _ (List.mem_of_getElem? (i := 42) rfl))) Via.refl e0 (S_w_CLOSED_LIST.ext O0.2) (g := (mkF m 1 #[rv w_ISO15924] [(.ref w_ISO15924)])) rfl (hb hby d_prog_105_method_8_code_1)
  have k3 : Way p e below S0 T2 (mkF m 4 #[rv w_ISO15924] [(.ref w_CLOSED_LIST), (.ref w_ISO15924)]) := fun t k => k1 t (st2 _ k)
  have k4 : Way p e below S0 T2 (mkF m 8 #[rv w_ISO15924] [(.ref w_ISO15924)]) := by
    intro t k
    refine k3 t ?_
    refine Jvm.RoadKit.acmp (g := (mkF m 4 #[rv w_ISO15924] [(.ref w_CLOSED_LIST), (.ref w_ISO15924)])) X2 hx rfl rfl rfl (pc0 := 4) (pc' := 7) (same := false) rfl (hb hby d_prog_105_method_8_code_4) rfl (decide_eq_false fun q => absurd (Value.ref.inj q) (F_w_ISO15924_ordinal.ne F_w_CLOSED_LIST_ordinal (by decide))) (by decide) (by decide) ?_
    show Steps p.tables e below (T2.setTop (mkF m 7 #[rv w_ISO15924] [])) _
    refine XS.aloadN X2.here hx rfl (hb hby d_prog_105_method_8_code_7) rfl rfl ?_
    show Steps p.tables e below (T2.setTop (mkF m 8 #[rv w_ISO15924] [(.ref w_ISO15924)])) _
    exact k
  obtain ⟨T5, X5, e5, st5⟩ := getS2 X2 hx hZ hown (host := "") (Or.inl (hw _ (List.mem_of_getElem? (i := 43) rfl))) Via.refl e2 (S_w_LISTED.ext O0.2) (g := (mkF m 8 #[rv w_ISO15924] [(.ref w_ISO15924)])) rfl (hb hby d_prog_105_method_8_code_8)
  have k6 : Way p e below S0 T5 (mkF m 11 #[rv w_ISO15924] [(.ref w_LISTED), (.ref w_ISO15924)]) := fun t k => k4 t (st5 _ k)
  have k7 : Way p e below S0 T5 (mkF m 19 #[rv w_ISO15924] [(.int (0 : Int32))]) := by
    intro t k
    refine k6 t ?_
    refine Jvm.RoadKit.acmp (g := (mkF m 11 #[rv w_ISO15924] [(.ref w_LISTED), (.ref w_ISO15924)])) X5 hx rfl rfl rfl (pc0 := 11) (pc' := 18) (same := false) rfl (hb hby d_prog_105_method_8_code_11) rfl (decide_eq_false fun q => absurd (Value.ref.inj q) (F_w_ISO15924_ordinal.ne F_w_LISTED_ordinal (by decide))) (by decide) (by decide) ?_
    show Steps p.tables e below (T5.setTop (mkF m 18 #[rv w_ISO15924] [])) _
    refine XS.iconst X5.here hx rfl (hb hby d_prog_105_method_8_code_18) ?_
    show Steps p.tables e below (T5.setTop (mkF m 19 #[rv w_ISO15924] [(.int (0 : Int32))])) _
    exact k
  obtain ⟨fs, hr, hrun, hended, hW, hsame⟩ := X5.leave (v := some (.int (0 : Int32))) (fun h => by rw [Bd.returns] at h; cases h)
  refine ⟨_, _, k7 _ (retN X5 hx (t := .boolean) Bd.returns (by simp) (hb hby d_prog_105_method_8_code_19) hr), hrun, hended, _, _, rfl, ?_, ⟨_, rfl⟩, hW, hsame.mono (by decide) (by decide)⟩
  show Q_isl7 Z w_TEXT w_COMPOSITE w_CLOSED_LIST w_LISTED w_URI w_ISO3166_1_ALPHA2 w_ISO639 w_ISO15924 w_POSITIVE_NUMBER w_POSITIVE_INTEGER w_NONNEGATIVE_INTEGER w_ISO8601_DATE w_DIGEST w_PER_TIME_STANDARD w_PER_COORDINATE_SYSTEM w_TIME_SPAN  h0 n0 _ T5.heap _
  rw [e5]
  exact ⟨rfl, N0, rfl⟩
def Q_isl8 (Z : State) (w_TEXT : Addr) (w_COMPOSITE : Addr) (w_CLOSED_LIST : Addr) (w_LISTED : Addr) (w_URI : Addr) (w_ISO3166_1_ALPHA2 : Addr) (w_ISO639 : Addr) (w_ISO15924 : Addr) (w_POSITIVE_NUMBER : Addr) (w_POSITIVE_INTEGER : Addr) (w_NONNEGATIVE_INTEGER : Addr) (w_ISO8601_DATE : Addr) (w_DIGEST : Addr) (w_PER_TIME_STANDARD : Addr) (w_PER_COORDINATE_SYSTEM : Addr) (w_TIME_SPAN : Addr)  (h0 : Heap) (n0 : Nat) (v : Option Value) (h : Heap) (L : List Loc) : Prop := (v = some (.int (0 : Int32))) ∧ (Fr n0 L) ∧ (h = h0)
set_option maxRecDepth 65536 in
set_option maxHeartbeats 40000000 in
theorem isl8 (l : Launch) (Z : State) (a0 : Array Value) (hw : ∀ d ∈ tables_1, d.before a0 Z = true) (ws : List Jvm.Cond) (w_TEXT : Addr) (w_COMPOSITE : Addr) (w_CLOSED_LIST : Addr) (w_LISTED : Addr) (w_URI : Addr) (w_ISO3166_1_ALPHA2 : Addr) (w_ISO639 : Addr) (w_ISO15924 : Addr) (w_POSITIVE_NUMBER : Addr) (w_POSITIVE_INTEGER : Addr) (w_NONNEGATIVE_INTEGER : Addr) (w_ISO8601_DATE : Addr) (w_DIGEST : Addr) (w_PER_TIME_STANDARD : Addr) (w_PER_COORDINATE_SYSTEM : Addr) (w_TIME_SPAN : Addr) (G : Gst Z w_TEXT w_COMPOSITE w_CLOSED_LIST w_LISTED w_URI w_ISO3166_1_ALPHA2 w_ISO639 w_ISO15924 w_POSITIVE_NUMBER w_POSITIVE_INTEGER w_NONNEGATIVE_INTEGER w_ISO8601_DATE w_DIGEST w_PER_TIME_STANDARD w_PER_COORDINATE_SYSTEM w_TIME_SPAN)  (h0 : Heap) (n0 : Nat) (O0 : Old Z n0 h0) :
    MetFree l (⟨"gradivo/spec/ValueKind", "isList", "()Z"⟩ : MethodName) (head1 (Jvm.Cond.code (⟨"gradivo/spec/ValueKind", "isList", "()Z"⟩ : MethodName) prog_105_method_8_code 1 (some .boolean) :: ws) ({ frames := 0, cells := 0, slots := 0, locals := 0 } : Room)) (fun a U => a = #[(.ref w_POSITIVE_NUMBER)] ∧ Z.Warmed39 U.vm ∧ U.heap = h0) (fun _ _ _ _ _ => True) (fun _ U o U' => ∃ v L, o = .returned v ∧ Q_isl8 Z w_TEXT w_COMPOSITE w_CLOSED_LIST w_LISTED w_URI w_ISO3166_1_ALPHA2 w_ISO639 w_ISO15924 w_POSITIVE_NUMBER w_POSITIVE_INTEGER w_NONNEGATIVE_INTEGER w_ISO8601_DATE w_DIGEST w_PER_TIME_STANDARD w_PER_COORDINATE_SYSTEM w_TIME_SPAN  h0 n0 v U'.heap L ∧ FrameEnd U o U' L ({ frames := 0, cells := 0, slots := 0, locals := 0 } : Room).cells ({ frames := 0, cells := 0, slots := 0, locals := 0 } : Room).slots) := by
  refine MetFree.of_bodySF (plainFor_of_name pn_0) hisR ?_
  intro p e s m args below meth c s₁ Bd hml0 hP hK
  obtain ⟨rfl, hZ, hh⟩ := hP
  have hx := Bd.exec
  have hby := Bd.bytes
  have hml : c.maxLocals = 1 := hml0
  have hown : s.vm.findClass "gradivo/spec/ValueKind" = some m.cls := findClass_of_methodNamed Bd.named
  have hnm := (name_of_methodNamed Bd.named Bd.method).1
  have X0 : Stand p l e ({ frames := 0, cells := 0, slots := 0, locals := 0 } : Room) s m #[(.ref w_POSITIVE_NUMBER)] below meth c s₁ [] 0 0 := Stand.of_body Bd
  have e0 : s₁.heap = h0 := by rw [← hh, Bd.state]; rfl
  have N0 := Fr.nil n0
  obtain ⟨S_w_TEXT, E_w_TEXT, F_w_TEXT_ordinal, S_w_COMPOSITE, E_w_COMPOSITE, F_w_COMPOSITE_ordinal, S_w_CLOSED_LIST, E_w_CLOSED_LIST, F_w_CLOSED_LIST_ordinal, S_w_LISTED, E_w_LISTED, F_w_LISTED_ordinal, S_w_URI, E_w_URI, F_w_URI_ordinal, S_w_ISO3166_1_ALPHA2, E_w_ISO3166_1_ALPHA2, F_w_ISO3166_1_ALPHA2_ordinal, S_w_ISO639, E_w_ISO639, F_w_ISO639_ordinal, S_w_ISO15924, E_w_ISO15924, F_w_ISO15924_ordinal, S_w_POSITIVE_NUMBER, E_w_POSITIVE_NUMBER, F_w_POSITIVE_NUMBER_ordinal, S_w_POSITIVE_INTEGER, E_w_POSITIVE_INTEGER, F_w_POSITIVE_INTEGER_ordinal, S_w_NONNEGATIVE_INTEGER, E_w_NONNEGATIVE_INTEGER, F_w_NONNEGATIVE_INTEGER_ordinal, S_w_ISO8601_DATE, E_w_ISO8601_DATE, F_w_ISO8601_DATE_ordinal, S_w_DIGEST, E_w_DIGEST, F_w_DIGEST_ordinal, S_w_PER_TIME_STANDARD, E_w_PER_TIME_STANDARD, F_w_PER_TIME_STANDARD_ordinal, S_w_PER_COORDINATE_SYSTEM, E_w_PER_COORDINATE_SYSTEM, F_w_PER_COORDINATE_SYSTEM_ordinal, S_w_TIME_SPAN, E_w_TIME_SPAN, F_w_TIME_SPAN_ordinal⟩ := id G
  have k0 : Way p e below (s₁.setTop (entryFrame m #[(.ref w_POSITIVE_NUMBER)] 1)) s₁ (mkF m 0 #[rv w_POSITIVE_NUMBER] []) := fun t k => castTop (by first | (simp [entryFrame, mkF, argsToLocals, Value.category]; done) | rfl) k
  generalize s₁.setTop (entryFrame m #[(.ref w_POSITIVE_NUMBER)] 1) = S0 at k0 ⊢
  have k1 : Way p e below S0 s₁ (mkF m 1 #[rv w_POSITIVE_NUMBER] [(.ref w_POSITIVE_NUMBER)]) := by
    intro t k
    refine k0 t ?_
    refine XS.aloadN X0.here hx rfl (hb hby d_prog_105_method_8_code_0) rfl rfl ?_
    show Steps p.tables e below (s₁.setTop (mkF m 1 #[rv w_POSITIVE_NUMBER] [(.ref w_POSITIVE_NUMBER)])) _
    exact k
  obtain ⟨T2, X2, e2, st2⟩ := getS2 X0 hx hZ hown (host := "") (Or.inl (hw _ (List.mem_of_getElem? (i := 42) rfl))) Via.refl e0 (S_w_CLOSED_LIST.ext O0.2) (g := (mkF m 1 #[rv w_POSITIVE_NUMBER] [(.ref w_POSITIVE_NUMBER)])) rfl (hb hby d_prog_105_method_8_code_1)
  have k3 : Way p e below S0 T2 (mkF m 4 #[rv w_POSITIVE_NUMBER] [(.ref w_CLOSED_LIST), (.ref w_POSITIVE_NUMBER)]) := fun t k => k1 t (st2 _ k)
  have k4 : Way p e below S0 T2 (mkF m 8 #[rv w_POSITIVE_NUMBER] [(.ref w_POSITIVE_NUMBER)]) := by
    intro t k
    refine k3 t ?_
    refine Jvm.RoadKit.acmp (g := (mkF m 4 #[rv w_POSITIVE_NUMBER] [(.ref w_CLOSED_LIST), (.ref w_POSITIVE_NUMBER)])) X2 hx rfl rfl rfl (pc0 := 4) (pc' := 7) (same := false) rfl (hb hby d_prog_105_method_8_code_4) rfl (decide_eq_false fun q => absurd (Value.ref.inj q) (F_w_POSITIVE_NUMBER_ordinal.ne F_w_CLOSED_LIST_ordinal (by decide))) (by decide) (by decide) ?_
    show Steps p.tables e below (T2.setTop (mkF m 7 #[rv w_POSITIVE_NUMBER] [])) _
    refine XS.aloadN X2.here hx rfl (hb hby d_prog_105_method_8_code_7) rfl rfl ?_
    show Steps p.tables e below (T2.setTop (mkF m 8 #[rv w_POSITIVE_NUMBER] [(.ref w_POSITIVE_NUMBER)])) _
    exact k
  obtain ⟨T5, X5, e5, st5⟩ := getS2 X2 hx hZ hown (host := "") (Or.inl (hw _ (List.mem_of_getElem? (i := 43) rfl))) Via.refl e2 (S_w_LISTED.ext O0.2) (g := (mkF m 8 #[rv w_POSITIVE_NUMBER] [(.ref w_POSITIVE_NUMBER)])) rfl (hb hby d_prog_105_method_8_code_8)
  have k6 : Way p e below S0 T5 (mkF m 11 #[rv w_POSITIVE_NUMBER] [(.ref w_LISTED), (.ref w_POSITIVE_NUMBER)]) := fun t k => k4 t (st5 _ k)
  have k7 : Way p e below S0 T5 (mkF m 19 #[rv w_POSITIVE_NUMBER] [(.int (0 : Int32))]) := by
    intro t k
    refine k6 t ?_
    refine Jvm.RoadKit.acmp (g := (mkF m 11 #[rv w_POSITIVE_NUMBER] [(.ref w_LISTED), (.ref w_POSITIVE_NUMBER)])) X5 hx rfl rfl rfl (pc0 := 11) (pc' := 18) (same := false) rfl (hb hby d_prog_105_method_8_code_11) rfl (decide_eq_false fun q => absurd (Value.ref.inj q) (F_w_POSITIVE_NUMBER_ordinal.ne F_w_LISTED_ordinal (by decide))) (by decide) (by decide) ?_
    show Steps p.tables e below (T5.setTop (mkF m 18 #[rv w_POSITIVE_NUMBER] [])) _
    refine XS.iconst X5.here hx rfl (hb hby d_prog_105_method_8_code_18) ?_
    show Steps p.tables e below (T5.setTop (mkF m 19 #[rv w_POSITIVE_NUMBER] [(.int (0 : Int32))])) _
    exact k
  obtain ⟨fs, hr, hrun, hended, hW, hsame⟩ := X5.leave (v := some (.int (0 : Int32))) (fun h => by rw [Bd.returns] at h; cases h)
  refine ⟨_, _, k7 _ (retN X5 hx (t := .boolean) Bd.returns (by simp) (hb hby d_prog_105_method_8_code_19) hr), hrun, hended, _, _, rfl, ?_, ⟨_, rfl⟩, hW, hsame.mono (by decide) (by decide)⟩
  show Q_isl8 Z w_TEXT w_COMPOSITE w_CLOSED_LIST w_LISTED w_URI w_ISO3166_1_ALPHA2 w_ISO639 w_ISO15924 w_POSITIVE_NUMBER w_POSITIVE_INTEGER w_NONNEGATIVE_INTEGER w_ISO8601_DATE w_DIGEST w_PER_TIME_STANDARD w_PER_COORDINATE_SYSTEM w_TIME_SPAN  h0 n0 _ T5.heap _
  rw [e5]
  exact ⟨rfl, N0, rfl⟩
def Q_isl9 (Z : State) (w_TEXT : Addr) (w_COMPOSITE : Addr) (w_CLOSED_LIST : Addr) (w_LISTED : Addr) (w_URI : Addr) (w_ISO3166_1_ALPHA2 : Addr) (w_ISO639 : Addr) (w_ISO15924 : Addr) (w_POSITIVE_NUMBER : Addr) (w_POSITIVE_INTEGER : Addr) (w_NONNEGATIVE_INTEGER : Addr) (w_ISO8601_DATE : Addr) (w_DIGEST : Addr) (w_PER_TIME_STANDARD : Addr) (w_PER_COORDINATE_SYSTEM : Addr) (w_TIME_SPAN : Addr)  (h0 : Heap) (n0 : Nat) (v : Option Value) (h : Heap) (L : List Loc) : Prop := (v = some (.int (0 : Int32))) ∧ (Fr n0 L) ∧ (h = h0)
set_option maxRecDepth 65536 in
set_option maxHeartbeats 40000000 in
theorem isl9 (l : Launch) (Z : State) (a0 : Array Value) (hw : ∀ d ∈ tables_1, d.before a0 Z = true) (ws : List Jvm.Cond) (w_TEXT : Addr) (w_COMPOSITE : Addr) (w_CLOSED_LIST : Addr) (w_LISTED : Addr) (w_URI : Addr) (w_ISO3166_1_ALPHA2 : Addr) (w_ISO639 : Addr) (w_ISO15924 : Addr) (w_POSITIVE_NUMBER : Addr) (w_POSITIVE_INTEGER : Addr) (w_NONNEGATIVE_INTEGER : Addr) (w_ISO8601_DATE : Addr) (w_DIGEST : Addr) (w_PER_TIME_STANDARD : Addr) (w_PER_COORDINATE_SYSTEM : Addr) (w_TIME_SPAN : Addr) (G : Gst Z w_TEXT w_COMPOSITE w_CLOSED_LIST w_LISTED w_URI w_ISO3166_1_ALPHA2 w_ISO639 w_ISO15924 w_POSITIVE_NUMBER w_POSITIVE_INTEGER w_NONNEGATIVE_INTEGER w_ISO8601_DATE w_DIGEST w_PER_TIME_STANDARD w_PER_COORDINATE_SYSTEM w_TIME_SPAN)  (h0 : Heap) (n0 : Nat) (O0 : Old Z n0 h0) :
    MetFree l (⟨"gradivo/spec/ValueKind", "isList", "()Z"⟩ : MethodName) (head1 (Jvm.Cond.code (⟨"gradivo/spec/ValueKind", "isList", "()Z"⟩ : MethodName) prog_105_method_8_code 1 (some .boolean) :: ws) ({ frames := 0, cells := 0, slots := 0, locals := 0 } : Room)) (fun a U => a = #[(.ref w_POSITIVE_INTEGER)] ∧ Z.Warmed39 U.vm ∧ U.heap = h0) (fun _ _ _ _ _ => True) (fun _ U o U' => ∃ v L, o = .returned v ∧ Q_isl9 Z w_TEXT w_COMPOSITE w_CLOSED_LIST w_LISTED w_URI w_ISO3166_1_ALPHA2 w_ISO639 w_ISO15924 w_POSITIVE_NUMBER w_POSITIVE_INTEGER w_NONNEGATIVE_INTEGER w_ISO8601_DATE w_DIGEST w_PER_TIME_STANDARD w_PER_COORDINATE_SYSTEM w_TIME_SPAN  h0 n0 v U'.heap L ∧ FrameEnd U o U' L ({ frames := 0, cells := 0, slots := 0, locals := 0 } : Room).cells ({ frames := 0, cells := 0, slots := 0, locals := 0 } : Room).slots) := by
  refine MetFree.of_bodySF (plainFor_of_name pn_0) hisR ?_
  intro p e s m args below meth c s₁ Bd hml0 hP hK
  obtain ⟨rfl, hZ, hh⟩ := hP
  have hx := Bd.exec
  have hby := Bd.bytes
  have hml : c.maxLocals = 1 := hml0
  have hown : s.vm.findClass "gradivo/spec/ValueKind" = some m.cls := findClass_of_methodNamed Bd.named
  have hnm := (name_of_methodNamed Bd.named Bd.method).1
  have X0 : Stand p l e ({ frames := 0, cells := 0, slots := 0, locals := 0 } : Room) s m #[(.ref w_POSITIVE_INTEGER)] below meth c s₁ [] 0 0 := Stand.of_body Bd
  have e0 : s₁.heap = h0 := by rw [← hh, Bd.state]; rfl
  have N0 := Fr.nil n0
  obtain ⟨S_w_TEXT, E_w_TEXT, F_w_TEXT_ordinal, S_w_COMPOSITE, E_w_COMPOSITE, F_w_COMPOSITE_ordinal, S_w_CLOSED_LIST, E_w_CLOSED_LIST, F_w_CLOSED_LIST_ordinal, S_w_LISTED, E_w_LISTED, F_w_LISTED_ordinal, S_w_URI, E_w_URI, F_w_URI_ordinal, S_w_ISO3166_1_ALPHA2, E_w_ISO3166_1_ALPHA2, F_w_ISO3166_1_ALPHA2_ordinal, S_w_ISO639, E_w_ISO639, F_w_ISO639_ordinal, S_w_ISO15924, E_w_ISO15924, F_w_ISO15924_ordinal, S_w_POSITIVE_NUMBER, E_w_POSITIVE_NUMBER, F_w_POSITIVE_NUMBER_ordinal, S_w_POSITIVE_INTEGER, E_w_POSITIVE_INTEGER, F_w_POSITIVE_INTEGER_ordinal, S_w_NONNEGATIVE_INTEGER, E_w_NONNEGATIVE_INTEGER, F_w_NONNEGATIVE_INTEGER_ordinal, S_w_ISO8601_DATE, E_w_ISO8601_DATE, F_w_ISO8601_DATE_ordinal, S_w_DIGEST, E_w_DIGEST, F_w_DIGEST_ordinal, S_w_PER_TIME_STANDARD, E_w_PER_TIME_STANDARD, F_w_PER_TIME_STANDARD_ordinal, S_w_PER_COORDINATE_SYSTEM, E_w_PER_COORDINATE_SYSTEM, F_w_PER_COORDINATE_SYSTEM_ordinal, S_w_TIME_SPAN, E_w_TIME_SPAN, F_w_TIME_SPAN_ordinal⟩ := id G
  have k0 : Way p e below (s₁.setTop (entryFrame m #[(.ref w_POSITIVE_INTEGER)] 1)) s₁ (mkF m 0 #[rv w_POSITIVE_INTEGER] []) := fun t k => castTop (by first | (simp [entryFrame, mkF, argsToLocals, Value.category]; done) | rfl) k
  generalize s₁.setTop (entryFrame m #[(.ref w_POSITIVE_INTEGER)] 1) = S0 at k0 ⊢
  have k1 : Way p e below S0 s₁ (mkF m 1 #[rv w_POSITIVE_INTEGER] [(.ref w_POSITIVE_INTEGER)]) := by
    intro t k
    refine k0 t ?_
    refine XS.aloadN X0.here hx rfl (hb hby d_prog_105_method_8_code_0) rfl rfl ?_
    show Steps p.tables e below (s₁.setTop (mkF m 1 #[rv w_POSITIVE_INTEGER] [(.ref w_POSITIVE_INTEGER)])) _
    exact k
  obtain ⟨T2, X2, e2, st2⟩ := getS2 X0 hx hZ hown (host := "") (Or.inl (hw _ (List.mem_of_getElem? (i := 42) rfl))) Via.refl e0 (S_w_CLOSED_LIST.ext O0.2) (g := (mkF m 1 #[rv w_POSITIVE_INTEGER] [(.ref w_POSITIVE_INTEGER)])) rfl (hb hby d_prog_105_method_8_code_1)
  have k3 : Way p e below S0 T2 (mkF m 4 #[rv w_POSITIVE_INTEGER] [(.ref w_CLOSED_LIST), (.ref w_POSITIVE_INTEGER)]) := fun t k => k1 t (st2 _ k)
  have k4 : Way p e below S0 T2 (mkF m 8 #[rv w_POSITIVE_INTEGER] [(.ref w_POSITIVE_INTEGER)]) := by
    intro t k
    refine k3 t ?_
    refine Jvm.RoadKit.acmp (g := (mkF m 4 #[rv w_POSITIVE_INTEGER] [(.ref w_CLOSED_LIST), (.ref w_POSITIVE_INTEGER)])) X2 hx rfl rfl rfl (pc0 := 4) (pc' := 7) (same := false) rfl (hb hby d_prog_105_method_8_code_4) rfl (decide_eq_false fun q => absurd (Value.ref.inj q) (F_w_POSITIVE_INTEGER_ordinal.ne F_w_CLOSED_LIST_ordinal (by decide))) (by decide) (by decide) ?_
    show Steps p.tables e below (T2.setTop (mkF m 7 #[rv w_POSITIVE_INTEGER] [])) _
    refine XS.aloadN X2.here hx rfl (hb hby d_prog_105_method_8_code_7) rfl rfl ?_
    show Steps p.tables e below (T2.setTop (mkF m 8 #[rv w_POSITIVE_INTEGER] [(.ref w_POSITIVE_INTEGER)])) _
    exact k
  obtain ⟨T5, X5, e5, st5⟩ := getS2 X2 hx hZ hown (host := "") (Or.inl (hw _ (List.mem_of_getElem? (i := 43) rfl))) Via.refl e2 (S_w_LISTED.ext O0.2) (g := (mkF m 8 #[rv w_POSITIVE_INTEGER] [(.ref w_POSITIVE_INTEGER)])) rfl (hb hby d_prog_105_method_8_code_8)
  have k6 : Way p e below S0 T5 (mkF m 11 #[rv w_POSITIVE_INTEGER] [(.ref w_LISTED), (.ref w_POSITIVE_INTEGER)]) := fun t k => k4 t (st5 _ k)
  have k7 : Way p e below S0 T5 (mkF m 19 #[rv w_POSITIVE_INTEGER] [(.int (0 : Int32))]) := by
    intro t k
    refine k6 t ?_
    refine Jvm.RoadKit.acmp (g := (mkF m 11 #[rv w_POSITIVE_INTEGER] [(.ref w_LISTED), (.ref w_POSITIVE_INTEGER)])) X5 hx rfl rfl rfl (pc0 := 11) (pc' := 18) (same := false) rfl (hb hby d_prog_105_method_8_code_11) rfl (decide_eq_false fun q => absurd (Value.ref.inj q) (F_w_POSITIVE_INTEGER_ordinal.ne F_w_LISTED_ordinal (by decide))) (by decide) (by decide) ?_
    show Steps p.tables e below (T5.setTop (mkF m 18 #[rv w_POSITIVE_INTEGER] [])) _
    refine XS.iconst X5.here hx rfl (hb hby d_prog_105_method_8_code_18) ?_
    show Steps p.tables e below (T5.setTop (mkF m 19 #[rv w_POSITIVE_INTEGER] [(.int (0 : Int32))])) _
    exact k
  obtain ⟨fs, hr, hrun, hended, hW, hsame⟩ := X5.leave (v := some (.int (0 : Int32))) (fun h => by rw [Bd.returns] at h; cases h)
  refine ⟨_, _, k7 _ (retN X5 hx (t := .boolean) Bd.returns (by simp) (hb hby d_prog_105_method_8_code_19) hr), hrun, hended, _, _, rfl, ?_, ⟨_, rfl⟩, hW, hsame.mono (by decide) (by decide)⟩
  show Q_isl9 Z w_TEXT w_COMPOSITE w_CLOSED_LIST w_LISTED w_URI w_ISO3166_1_ALPHA2 w_ISO639 w_ISO15924 w_POSITIVE_NUMBER w_POSITIVE_INTEGER w_NONNEGATIVE_INTEGER w_ISO8601_DATE w_DIGEST w_PER_TIME_STANDARD w_PER_COORDINATE_SYSTEM w_TIME_SPAN  h0 n0 _ T5.heap _
  rw [e5]
  exact ⟨rfl, N0, rfl⟩
def Q_isl10 (Z : State) (w_TEXT : Addr) (w_COMPOSITE : Addr) (w_CLOSED_LIST : Addr) (w_LISTED : Addr) (w_URI : Addr) (w_ISO3166_1_ALPHA2 : Addr) (w_ISO639 : Addr) (w_ISO15924 : Addr) (w_POSITIVE_NUMBER : Addr) (w_POSITIVE_INTEGER : Addr) (w_NONNEGATIVE_INTEGER : Addr) (w_ISO8601_DATE : Addr) (w_DIGEST : Addr) (w_PER_TIME_STANDARD : Addr) (w_PER_COORDINATE_SYSTEM : Addr) (w_TIME_SPAN : Addr)  (h0 : Heap) (n0 : Nat) (v : Option Value) (h : Heap) (L : List Loc) : Prop := (v = some (.int (0 : Int32))) ∧ (Fr n0 L) ∧ (h = h0)
set_option maxRecDepth 65536 in
set_option maxHeartbeats 40000000 in
theorem isl10 (l : Launch) (Z : State) (a0 : Array Value) (hw : ∀ d ∈ tables_1, d.before a0 Z = true) (ws : List Jvm.Cond) (w_TEXT : Addr) (w_COMPOSITE : Addr) (w_CLOSED_LIST : Addr) (w_LISTED : Addr) (w_URI : Addr) (w_ISO3166_1_ALPHA2 : Addr) (w_ISO639 : Addr) (w_ISO15924 : Addr) (w_POSITIVE_NUMBER : Addr) (w_POSITIVE_INTEGER : Addr) (w_NONNEGATIVE_INTEGER : Addr) (w_ISO8601_DATE : Addr) (w_DIGEST : Addr) (w_PER_TIME_STANDARD : Addr) (w_PER_COORDINATE_SYSTEM : Addr) (w_TIME_SPAN : Addr) (G : Gst Z w_TEXT w_COMPOSITE w_CLOSED_LIST w_LISTED w_URI w_ISO3166_1_ALPHA2 w_ISO639 w_ISO15924 w_POSITIVE_NUMBER w_POSITIVE_INTEGER w_NONNEGATIVE_INTEGER w_ISO8601_DATE w_DIGEST w_PER_TIME_STANDARD w_PER_COORDINATE_SYSTEM w_TIME_SPAN)  (h0 : Heap) (n0 : Nat) (O0 : Old Z n0 h0) :
    MetFree l (⟨"gradivo/spec/ValueKind", "isList", "()Z"⟩ : MethodName) (head1 (Jvm.Cond.code (⟨"gradivo/spec/ValueKind", "isList", "()Z"⟩ : MethodName) prog_105_method_8_code 1 (some .boolean) :: ws) ({ frames := 0, cells := 0, slots := 0, locals := 0 } : Room)) (fun a U => a = #[(.ref w_NONNEGATIVE_INTEGER)] ∧ Z.Warmed39 U.vm ∧ U.heap = h0) (fun _ _ _ _ _ => True) (fun _ U o U' => ∃ v L, o = .returned v ∧ Q_isl10 Z w_TEXT w_COMPOSITE w_CLOSED_LIST w_LISTED w_URI w_ISO3166_1_ALPHA2 w_ISO639 w_ISO15924 w_POSITIVE_NUMBER w_POSITIVE_INTEGER w_NONNEGATIVE_INTEGER w_ISO8601_DATE w_DIGEST w_PER_TIME_STANDARD w_PER_COORDINATE_SYSTEM w_TIME_SPAN  h0 n0 v U'.heap L ∧ FrameEnd U o U' L ({ frames := 0, cells := 0, slots := 0, locals := 0 } : Room).cells ({ frames := 0, cells := 0, slots := 0, locals := 0 } : Room).slots) := by
  refine MetFree.of_bodySF (plainFor_of_name pn_0) hisR ?_
  intro p e s m args below meth c s₁ Bd hml0 hP hK
  obtain ⟨rfl, hZ, hh⟩ := hP
  have hx := Bd.exec
  have hby := Bd.bytes
  have hml : c.maxLocals = 1 := hml0
  have hown : s.vm.findClass "gradivo/spec/ValueKind" = some m.cls := findClass_of_methodNamed Bd.named
  have hnm := (name_of_methodNamed Bd.named Bd.method).1
  have X0 : Stand p l e ({ frames := 0, cells := 0, slots := 0, locals := 0 } : Room) s m #[(.ref w_NONNEGATIVE_INTEGER)] below meth c s₁ [] 0 0 := Stand.of_body Bd
  have e0 : s₁.heap = h0 := by rw [← hh, Bd.state]; rfl
  have N0 := Fr.nil n0
  obtain ⟨S_w_TEXT, E_w_TEXT, F_w_TEXT_ordinal, S_w_COMPOSITE, E_w_COMPOSITE, F_w_COMPOSITE_ordinal, S_w_CLOSED_LIST, E_w_CLOSED_LIST, F_w_CLOSED_LIST_ordinal, S_w_LISTED, E_w_LISTED, F_w_LISTED_ordinal, S_w_URI, E_w_URI, F_w_URI_ordinal, S_w_ISO3166_1_ALPHA2, E_w_ISO3166_1_ALPHA2, F_w_ISO3166_1_ALPHA2_ordinal, S_w_ISO639, E_w_ISO639, F_w_ISO639_ordinal, S_w_ISO15924, E_w_ISO15924, F_w_ISO15924_ordinal, S_w_POSITIVE_NUMBER, E_w_POSITIVE_NUMBER, F_w_POSITIVE_NUMBER_ordinal, S_w_POSITIVE_INTEGER, E_w_POSITIVE_INTEGER, F_w_POSITIVE_INTEGER_ordinal, S_w_NONNEGATIVE_INTEGER, E_w_NONNEGATIVE_INTEGER, F_w_NONNEGATIVE_INTEGER_ordinal, S_w_ISO8601_DATE, E_w_ISO8601_DATE, F_w_ISO8601_DATE_ordinal, S_w_DIGEST, E_w_DIGEST, F_w_DIGEST_ordinal, S_w_PER_TIME_STANDARD, E_w_PER_TIME_STANDARD, F_w_PER_TIME_STANDARD_ordinal, S_w_PER_COORDINATE_SYSTEM, E_w_PER_COORDINATE_SYSTEM, F_w_PER_COORDINATE_SYSTEM_ordinal, S_w_TIME_SPAN, E_w_TIME_SPAN, F_w_TIME_SPAN_ordinal⟩ := id G
  have k0 : Way p e below (s₁.setTop (entryFrame m #[(.ref w_NONNEGATIVE_INTEGER)] 1)) s₁ (mkF m 0 #[rv w_NONNEGATIVE_INTEGER] []) := fun t k => castTop (by first | (simp [entryFrame, mkF, argsToLocals, Value.category]; done) | rfl) k
  generalize s₁.setTop (entryFrame m #[(.ref w_NONNEGATIVE_INTEGER)] 1) = S0 at k0 ⊢
  have k1 : Way p e below S0 s₁ (mkF m 1 #[rv w_NONNEGATIVE_INTEGER] [(.ref w_NONNEGATIVE_INTEGER)]) := by
    intro t k
    refine k0 t ?_
    refine XS.aloadN X0.here hx rfl (hb hby d_prog_105_method_8_code_0) rfl rfl ?_
    show Steps p.tables e below (s₁.setTop (mkF m 1 #[rv w_NONNEGATIVE_INTEGER] [(.ref w_NONNEGATIVE_INTEGER)])) _
    exact k
  obtain ⟨T2, X2, e2, st2⟩ := getS2 X0 hx hZ hown (host := "") (Or.inl (hw _ (List.mem_of_getElem? (i := 42) rfl))) Via.refl e0 (S_w_CLOSED_LIST.ext O0.2) (g := (mkF m 1 #[rv w_NONNEGATIVE_INTEGER] [(.ref w_NONNEGATIVE_INTEGER)])) rfl (hb hby d_prog_105_method_8_code_1)
  have k3 : Way p e below S0 T2 (mkF m 4 #[rv w_NONNEGATIVE_INTEGER] [(.ref w_CLOSED_LIST), (.ref w_NONNEGATIVE_INTEGER)]) := fun t k => k1 t (st2 _ k)
  have k4 : Way p e below S0 T2 (mkF m 8 #[rv w_NONNEGATIVE_INTEGER] [(.ref w_NONNEGATIVE_INTEGER)]) := by
    intro t k
    refine k3 t ?_
    refine Jvm.RoadKit.acmp (g := (mkF m 4 #[rv w_NONNEGATIVE_INTEGER] [(.ref w_CLOSED_LIST), (.ref w_NONNEGATIVE_INTEGER)])) X2 hx rfl rfl rfl (pc0 := 4) (pc' := 7) (same := false) rfl (hb hby d_prog_105_method_8_code_4) rfl (decide_eq_false fun q => absurd (Value.ref.inj q) (F_w_NONNEGATIVE_INTEGER_ordinal.ne F_w_CLOSED_LIST_ordinal (by decide))) (by decide) (by decide) ?_
    show Steps p.tables e below (T2.setTop (mkF m 7 #[rv w_NONNEGATIVE_INTEGER] [])) _
    refine XS.aloadN X2.here hx rfl (hb hby d_prog_105_method_8_code_7) rfl rfl ?_
    show Steps p.tables e below (T2.setTop (mkF m 8 #[rv w_NONNEGATIVE_INTEGER] [(.ref w_NONNEGATIVE_INTEGER)])) _
    exact k
  obtain ⟨T5, X5, e5, st5⟩ := getS2 X2 hx hZ hown (host := "") (Or.inl (hw _ (List.mem_of_getElem? (i := 43) rfl))) Via.refl e2 (S_w_LISTED.ext O0.2) (g := (mkF m 8 #[rv w_NONNEGATIVE_INTEGER] [(.ref w_NONNEGATIVE_INTEGER)])) rfl (hb hby d_prog_105_method_8_code_8)
  have k6 : Way p e below S0 T5 (mkF m 11 #[rv w_NONNEGATIVE_INTEGER] [(.ref w_LISTED), (.ref w_NONNEGATIVE_INTEGER)]) := fun t k => k4 t (st5 _ k)
  have k7 : Way p e below S0 T5 (mkF m 19 #[rv w_NONNEGATIVE_INTEGER] [(.int (0 : Int32))]) := by
    intro t k
    refine k6 t ?_
    refine Jvm.RoadKit.acmp (g := (mkF m 11 #[rv w_NONNEGATIVE_INTEGER] [(.ref w_LISTED), (.ref w_NONNEGATIVE_INTEGER)])) X5 hx rfl rfl rfl (pc0 := 11) (pc' := 18) (same := false) rfl (hb hby d_prog_105_method_8_code_11) rfl (decide_eq_false fun q => absurd (Value.ref.inj q) (F_w_NONNEGATIVE_INTEGER_ordinal.ne F_w_LISTED_ordinal (by decide))) (by decide) (by decide) ?_
    show Steps p.tables e below (T5.setTop (mkF m 18 #[rv w_NONNEGATIVE_INTEGER] [])) _
    refine XS.iconst X5.here hx rfl (hb hby d_prog_105_method_8_code_18) ?_
    show Steps p.tables e below (T5.setTop (mkF m 19 #[rv w_NONNEGATIVE_INTEGER] [(.int (0 : Int32))])) _
    exact k
  obtain ⟨fs, hr, hrun, hended, hW, hsame⟩ := X5.leave (v := some (.int (0 : Int32))) (fun h => by rw [Bd.returns] at h; cases h)
  refine ⟨_, _, k7 _ (retN X5 hx (t := .boolean) Bd.returns (by simp) (hb hby d_prog_105_method_8_code_19) hr), hrun, hended, _, _, rfl, ?_, ⟨_, rfl⟩, hW, hsame.mono (by decide) (by decide)⟩
  show Q_isl10 Z w_TEXT w_COMPOSITE w_CLOSED_LIST w_LISTED w_URI w_ISO3166_1_ALPHA2 w_ISO639 w_ISO15924 w_POSITIVE_NUMBER w_POSITIVE_INTEGER w_NONNEGATIVE_INTEGER w_ISO8601_DATE w_DIGEST w_PER_TIME_STANDARD w_PER_COORDINATE_SYSTEM w_TIME_SPAN  h0 n0 _ T5.heap _
  rw [e5]
  exact ⟨rfl, N0, rfl⟩
def Q_isl11 (Z : State) (w_TEXT : Addr) (w_COMPOSITE : Addr) (w_CLOSED_LIST : Addr) (w_LISTED : Addr) (w_URI : Addr) (w_ISO3166_1_ALPHA2 : Addr) (w_ISO639 : Addr) (w_ISO15924 : Addr) (w_POSITIVE_NUMBER : Addr) (w_POSITIVE_INTEGER : Addr) (w_NONNEGATIVE_INTEGER : Addr) (w_ISO8601_DATE : Addr) (w_DIGEST : Addr) (w_PER_TIME_STANDARD : Addr) (w_PER_COORDINATE_SYSTEM : Addr) (w_TIME_SPAN : Addr)  (h0 : Heap) (n0 : Nat) (v : Option Value) (h : Heap) (L : List Loc) : Prop := (v = some (.int (0 : Int32))) ∧ (Fr n0 L) ∧ (h = h0)
set_option maxRecDepth 65536 in
set_option maxHeartbeats 40000000 in
theorem isl11 (l : Launch) (Z : State) (a0 : Array Value) (hw : ∀ d ∈ tables_1, d.before a0 Z = true) (ws : List Jvm.Cond) (w_TEXT : Addr) (w_COMPOSITE : Addr) (w_CLOSED_LIST : Addr) (w_LISTED : Addr) (w_URI : Addr) (w_ISO3166_1_ALPHA2 : Addr) (w_ISO639 : Addr) (w_ISO15924 : Addr) (w_POSITIVE_NUMBER : Addr) (w_POSITIVE_INTEGER : Addr) (w_NONNEGATIVE_INTEGER : Addr) (w_ISO8601_DATE : Addr) (w_DIGEST : Addr) (w_PER_TIME_STANDARD : Addr) (w_PER_COORDINATE_SYSTEM : Addr) (w_TIME_SPAN : Addr) (G : Gst Z w_TEXT w_COMPOSITE w_CLOSED_LIST w_LISTED w_URI w_ISO3166_1_ALPHA2 w_ISO639 w_ISO15924 w_POSITIVE_NUMBER w_POSITIVE_INTEGER w_NONNEGATIVE_INTEGER w_ISO8601_DATE w_DIGEST w_PER_TIME_STANDARD w_PER_COORDINATE_SYSTEM w_TIME_SPAN)  (h0 : Heap) (n0 : Nat) (O0 : Old Z n0 h0) :
    MetFree l (⟨"gradivo/spec/ValueKind", "isList", "()Z"⟩ : MethodName) (head1 (Jvm.Cond.code (⟨"gradivo/spec/ValueKind", "isList", "()Z"⟩ : MethodName) prog_105_method_8_code 1 (some .boolean) :: ws) ({ frames := 0, cells := 0, slots := 0, locals := 0 } : Room)) (fun a U => a = #[(.ref w_ISO8601_DATE)] ∧ Z.Warmed39 U.vm ∧ U.heap = h0) (fun _ _ _ _ _ => True) (fun _ U o U' => ∃ v L, o = .returned v ∧ Q_isl11 Z w_TEXT w_COMPOSITE w_CLOSED_LIST w_LISTED w_URI w_ISO3166_1_ALPHA2 w_ISO639 w_ISO15924 w_POSITIVE_NUMBER w_POSITIVE_INTEGER w_NONNEGATIVE_INTEGER w_ISO8601_DATE w_DIGEST w_PER_TIME_STANDARD w_PER_COORDINATE_SYSTEM w_TIME_SPAN  h0 n0 v U'.heap L ∧ FrameEnd U o U' L ({ frames := 0, cells := 0, slots := 0, locals := 0 } : Room).cells ({ frames := 0, cells := 0, slots := 0, locals := 0 } : Room).slots) := by
  refine MetFree.of_bodySF (plainFor_of_name pn_0) hisR ?_
  intro p e s m args below meth c s₁ Bd hml0 hP hK
  obtain ⟨rfl, hZ, hh⟩ := hP
  have hx := Bd.exec
  have hby := Bd.bytes
  have hml : c.maxLocals = 1 := hml0
  have hown : s.vm.findClass "gradivo/spec/ValueKind" = some m.cls := findClass_of_methodNamed Bd.named
  have hnm := (name_of_methodNamed Bd.named Bd.method).1
  have X0 : Stand p l e ({ frames := 0, cells := 0, slots := 0, locals := 0 } : Room) s m #[(.ref w_ISO8601_DATE)] below meth c s₁ [] 0 0 := Stand.of_body Bd
  have e0 : s₁.heap = h0 := by rw [← hh, Bd.state]; rfl
  have N0 := Fr.nil n0
  obtain ⟨S_w_TEXT, E_w_TEXT, F_w_TEXT_ordinal, S_w_COMPOSITE, E_w_COMPOSITE, F_w_COMPOSITE_ordinal, S_w_CLOSED_LIST, E_w_CLOSED_LIST, F_w_CLOSED_LIST_ordinal, S_w_LISTED, E_w_LISTED, F_w_LISTED_ordinal, S_w_URI, E_w_URI, F_w_URI_ordinal, S_w_ISO3166_1_ALPHA2, E_w_ISO3166_1_ALPHA2, F_w_ISO3166_1_ALPHA2_ordinal, S_w_ISO639, E_w_ISO639, F_w_ISO639_ordinal, S_w_ISO15924, E_w_ISO15924, F_w_ISO15924_ordinal, S_w_POSITIVE_NUMBER, E_w_POSITIVE_NUMBER, F_w_POSITIVE_NUMBER_ordinal, S_w_POSITIVE_INTEGER, E_w_POSITIVE_INTEGER, F_w_POSITIVE_INTEGER_ordinal, S_w_NONNEGATIVE_INTEGER, E_w_NONNEGATIVE_INTEGER, F_w_NONNEGATIVE_INTEGER_ordinal, S_w_ISO8601_DATE, E_w_ISO8601_DATE, F_w_ISO8601_DATE_ordinal, S_w_DIGEST, E_w_DIGEST, F_w_DIGEST_ordinal, S_w_PER_TIME_STANDARD, E_w_PER_TIME_STANDARD, F_w_PER_TIME_STANDARD_ordinal, S_w_PER_COORDINATE_SYSTEM, E_w_PER_COORDINATE_SYSTEM, F_w_PER_COORDINATE_SYSTEM_ordinal, S_w_TIME_SPAN, E_w_TIME_SPAN, F_w_TIME_SPAN_ordinal⟩ := id G
  have k0 : Way p e below (s₁.setTop (entryFrame m #[(.ref w_ISO8601_DATE)] 1)) s₁ (mkF m 0 #[rv w_ISO8601_DATE] []) := fun t k => castTop (by first | (simp [entryFrame, mkF, argsToLocals, Value.category]; done) | rfl) k
  generalize s₁.setTop (entryFrame m #[(.ref w_ISO8601_DATE)] 1) = S0 at k0 ⊢
  have k1 : Way p e below S0 s₁ (mkF m 1 #[rv w_ISO8601_DATE] [(.ref w_ISO8601_DATE)]) := by
    intro t k
    refine k0 t ?_
    refine XS.aloadN X0.here hx rfl (hb hby d_prog_105_method_8_code_0) rfl rfl ?_
    show Steps p.tables e below (s₁.setTop (mkF m 1 #[rv w_ISO8601_DATE] [(.ref w_ISO8601_DATE)])) _
    exact k
  obtain ⟨T2, X2, e2, st2⟩ := getS2 X0 hx hZ hown (host := "") (Or.inl (hw _ (List.mem_of_getElem? (i := 42) rfl))) Via.refl e0 (S_w_CLOSED_LIST.ext O0.2) (g := (mkF m 1 #[rv w_ISO8601_DATE] [(.ref w_ISO8601_DATE)])) rfl (hb hby d_prog_105_method_8_code_1)
  have k3 : Way p e below S0 T2 (mkF m 4 #[rv w_ISO8601_DATE] [(.ref w_CLOSED_LIST), (.ref w_ISO8601_DATE)]) := fun t k => k1 t (st2 _ k)
  have k4 : Way p e below S0 T2 (mkF m 8 #[rv w_ISO8601_DATE] [(.ref w_ISO8601_DATE)]) := by
    intro t k
    refine k3 t ?_
    refine Jvm.RoadKit.acmp (g := (mkF m 4 #[rv w_ISO8601_DATE] [(.ref w_CLOSED_LIST), (.ref w_ISO8601_DATE)])) X2 hx rfl rfl rfl (pc0 := 4) (pc' := 7) (same := false) rfl (hb hby d_prog_105_method_8_code_4) rfl (decide_eq_false fun q => absurd (Value.ref.inj q) (F_w_ISO8601_DATE_ordinal.ne F_w_CLOSED_LIST_ordinal (by decide))) (by decide) (by decide) ?_
    show Steps p.tables e below (T2.setTop (mkF m 7 #[rv w_ISO8601_DATE] [])) _
    refine XS.aloadN X2.here hx rfl (hb hby d_prog_105_method_8_code_7) rfl rfl ?_
    show Steps p.tables e below (T2.setTop (mkF m 8 #[rv w_ISO8601_DATE] [(.ref w_ISO8601_DATE)])) _
    exact k
  obtain ⟨T5, X5, e5, st5⟩ := getS2 X2 hx hZ hown (host := "") (Or.inl (hw _ (List.mem_of_getElem? (i := 43) rfl))) Via.refl e2 (S_w_LISTED.ext O0.2) (g := (mkF m 8 #[rv w_ISO8601_DATE] [(.ref w_ISO8601_DATE)])) rfl (hb hby d_prog_105_method_8_code_8)
  have k6 : Way p e below S0 T5 (mkF m 11 #[rv w_ISO8601_DATE] [(.ref w_LISTED), (.ref w_ISO8601_DATE)]) := fun t k => k4 t (st5 _ k)
  have k7 : Way p e below S0 T5 (mkF m 19 #[rv w_ISO8601_DATE] [(.int (0 : Int32))]) := by
    intro t k
    refine k6 t ?_
    refine Jvm.RoadKit.acmp (g := (mkF m 11 #[rv w_ISO8601_DATE] [(.ref w_LISTED), (.ref w_ISO8601_DATE)])) X5 hx rfl rfl rfl (pc0 := 11) (pc' := 18) (same := false) rfl (hb hby d_prog_105_method_8_code_11) rfl (decide_eq_false fun q => absurd (Value.ref.inj q) (F_w_ISO8601_DATE_ordinal.ne F_w_LISTED_ordinal (by decide))) (by decide) (by decide) ?_
    show Steps p.tables e below (T5.setTop (mkF m 18 #[rv w_ISO8601_DATE] [])) _
    refine XS.iconst X5.here hx rfl (hb hby d_prog_105_method_8_code_18) ?_
    show Steps p.tables e below (T5.setTop (mkF m 19 #[rv w_ISO8601_DATE] [(.int (0 : Int32))])) _
    exact k
  obtain ⟨fs, hr, hrun, hended, hW, hsame⟩ := X5.leave (v := some (.int (0 : Int32))) (fun h => by rw [Bd.returns] at h; cases h)
  refine ⟨_, _, k7 _ (retN X5 hx (t := .boolean) Bd.returns (by simp) (hb hby d_prog_105_method_8_code_19) hr), hrun, hended, _, _, rfl, ?_, ⟨_, rfl⟩, hW, hsame.mono (by decide) (by decide)⟩
  show Q_isl11 Z w_TEXT w_COMPOSITE w_CLOSED_LIST w_LISTED w_URI w_ISO3166_1_ALPHA2 w_ISO639 w_ISO15924 w_POSITIVE_NUMBER w_POSITIVE_INTEGER w_NONNEGATIVE_INTEGER w_ISO8601_DATE w_DIGEST w_PER_TIME_STANDARD w_PER_COORDINATE_SYSTEM w_TIME_SPAN  h0 n0 _ T5.heap _
  rw [e5]
  exact ⟨rfl, N0, rfl⟩
def Q_isl12 (Z : State) (w_TEXT : Addr) (w_COMPOSITE : Addr) (w_CLOSED_LIST : Addr) (w_LISTED : Addr) (w_URI : Addr) (w_ISO3166_1_ALPHA2 : Addr) (w_ISO639 : Addr) (w_ISO15924 : Addr) (w_POSITIVE_NUMBER : Addr) (w_POSITIVE_INTEGER : Addr) (w_NONNEGATIVE_INTEGER : Addr) (w_ISO8601_DATE : Addr) (w_DIGEST : Addr) (w_PER_TIME_STANDARD : Addr) (w_PER_COORDINATE_SYSTEM : Addr) (w_TIME_SPAN : Addr)  (h0 : Heap) (n0 : Nat) (v : Option Value) (h : Heap) (L : List Loc) : Prop := (v = some (.int (0 : Int32))) ∧ (Fr n0 L) ∧ (h = h0)
set_option maxRecDepth 65536 in
set_option maxHeartbeats 40000000 in
theorem isl12 (l : Launch) (Z : State) (a0 : Array Value) (hw : ∀ d ∈ tables_1, d.before a0 Z = true) (ws : List Jvm.Cond) (w_TEXT : Addr) (w_COMPOSITE : Addr) (w_CLOSED_LIST : Addr) (w_LISTED : Addr) (w_URI : Addr) (w_ISO3166_1_ALPHA2 : Addr) (w_ISO639 : Addr) (w_ISO15924 : Addr) (w_POSITIVE_NUMBER : Addr) (w_POSITIVE_INTEGER : Addr) (w_NONNEGATIVE_INTEGER : Addr) (w_ISO8601_DATE : Addr) (w_DIGEST : Addr) (w_PER_TIME_STANDARD : Addr) (w_PER_COORDINATE_SYSTEM : Addr) (w_TIME_SPAN : Addr) (G : Gst Z w_TEXT w_COMPOSITE w_CLOSED_LIST w_LISTED w_URI w_ISO3166_1_ALPHA2 w_ISO639 w_ISO15924 w_POSITIVE_NUMBER w_POSITIVE_INTEGER w_NONNEGATIVE_INTEGER w_ISO8601_DATE w_DIGEST w_PER_TIME_STANDARD w_PER_COORDINATE_SYSTEM w_TIME_SPAN)  (h0 : Heap) (n0 : Nat) (O0 : Old Z n0 h0) :
    MetFree l (⟨"gradivo/spec/ValueKind", "isList", "()Z"⟩ : MethodName) (head1 (Jvm.Cond.code (⟨"gradivo/spec/ValueKind", "isList", "()Z"⟩ : MethodName) prog_105_method_8_code 1 (some .boolean) :: ws) ({ frames := 0, cells := 0, slots := 0, locals := 0 } : Room)) (fun a U => a = #[(.ref w_DIGEST)] ∧ Z.Warmed39 U.vm ∧ U.heap = h0) (fun _ _ _ _ _ => True) (fun _ U o U' => ∃ v L, o = .returned v ∧ Q_isl12 Z w_TEXT w_COMPOSITE w_CLOSED_LIST w_LISTED w_URI w_ISO3166_1_ALPHA2 w_ISO639 w_ISO15924 w_POSITIVE_NUMBER w_POSITIVE_INTEGER w_NONNEGATIVE_INTEGER w_ISO8601_DATE w_DIGEST w_PER_TIME_STANDARD w_PER_COORDINATE_SYSTEM w_TIME_SPAN  h0 n0 v U'.heap L ∧ FrameEnd U o U' L ({ frames := 0, cells := 0, slots := 0, locals := 0 } : Room).cells ({ frames := 0, cells := 0, slots := 0, locals := 0 } : Room).slots) := by
  refine MetFree.of_bodySF (plainFor_of_name pn_0) hisR ?_
  intro p e s m args below meth c s₁ Bd hml0 hP hK
  obtain ⟨rfl, hZ, hh⟩ := hP
  have hx := Bd.exec
  have hby := Bd.bytes
  have hml : c.maxLocals = 1 := hml0
  have hown : s.vm.findClass "gradivo/spec/ValueKind" = some m.cls := findClass_of_methodNamed Bd.named
  have hnm := (name_of_methodNamed Bd.named Bd.method).1
  have X0 : Stand p l e ({ frames := 0, cells := 0, slots := 0, locals := 0 } : Room) s m #[(.ref w_DIGEST)] below meth c s₁ [] 0 0 := Stand.of_body Bd
  have e0 : s₁.heap = h0 := by rw [← hh, Bd.state]; rfl
  have N0 := Fr.nil n0
  obtain ⟨S_w_TEXT, E_w_TEXT, F_w_TEXT_ordinal, S_w_COMPOSITE, E_w_COMPOSITE, F_w_COMPOSITE_ordinal, S_w_CLOSED_LIST, E_w_CLOSED_LIST, F_w_CLOSED_LIST_ordinal, S_w_LISTED, E_w_LISTED, F_w_LISTED_ordinal, S_w_URI, E_w_URI, F_w_URI_ordinal, S_w_ISO3166_1_ALPHA2, E_w_ISO3166_1_ALPHA2, F_w_ISO3166_1_ALPHA2_ordinal, S_w_ISO639, E_w_ISO639, F_w_ISO639_ordinal, S_w_ISO15924, E_w_ISO15924, F_w_ISO15924_ordinal, S_w_POSITIVE_NUMBER, E_w_POSITIVE_NUMBER, F_w_POSITIVE_NUMBER_ordinal, S_w_POSITIVE_INTEGER, E_w_POSITIVE_INTEGER, F_w_POSITIVE_INTEGER_ordinal, S_w_NONNEGATIVE_INTEGER, E_w_NONNEGATIVE_INTEGER, F_w_NONNEGATIVE_INTEGER_ordinal, S_w_ISO8601_DATE, E_w_ISO8601_DATE, F_w_ISO8601_DATE_ordinal, S_w_DIGEST, E_w_DIGEST, F_w_DIGEST_ordinal, S_w_PER_TIME_STANDARD, E_w_PER_TIME_STANDARD, F_w_PER_TIME_STANDARD_ordinal, S_w_PER_COORDINATE_SYSTEM, E_w_PER_COORDINATE_SYSTEM, F_w_PER_COORDINATE_SYSTEM_ordinal, S_w_TIME_SPAN, E_w_TIME_SPAN, F_w_TIME_SPAN_ordinal⟩ := id G
  have k0 : Way p e below (s₁.setTop (entryFrame m #[(.ref w_DIGEST)] 1)) s₁ (mkF m 0 #[rv w_DIGEST] []) := fun t k => castTop (by first | (simp [entryFrame, mkF, argsToLocals, Value.category]; done) | rfl) k
  generalize s₁.setTop (entryFrame m #[(.ref w_DIGEST)] 1) = S0 at k0 ⊢
  have k1 : Way p e below S0 s₁ (mkF m 1 #[rv w_DIGEST] [(.ref w_DIGEST)]) := by
    intro t k
    refine k0 t ?_
    refine XS.aloadN X0.here hx rfl (hb hby d_prog_105_method_8_code_0) rfl rfl ?_
    show Steps p.tables e below (s₁.setTop (mkF m 1 #[rv w_DIGEST] [(.ref w_DIGEST)])) _
    exact k
  obtain ⟨T2, X2, e2, st2⟩ := getS2 X0 hx hZ hown (host := "") (Or.inl (hw _ (List.mem_of_getElem? (i := 42) rfl))) Via.refl e0 (S_w_CLOSED_LIST.ext O0.2) (g := (mkF m 1 #[rv w_DIGEST] [(.ref w_DIGEST)])) rfl (hb hby d_prog_105_method_8_code_1)
  have k3 : Way p e below S0 T2 (mkF m 4 #[rv w_DIGEST] [(.ref w_CLOSED_LIST), (.ref w_DIGEST)]) := fun t k => k1 t (st2 _ k)
  have k4 : Way p e below S0 T2 (mkF m 8 #[rv w_DIGEST] [(.ref w_DIGEST)]) := by
    intro t k
    refine k3 t ?_
    refine Jvm.RoadKit.acmp (g := (mkF m 4 #[rv w_DIGEST] [(.ref w_CLOSED_LIST), (.ref w_DIGEST)])) X2 hx rfl rfl rfl (pc0 := 4) (pc' := 7) (same := false) rfl (hb hby d_prog_105_method_8_code_4) rfl (decide_eq_false fun q => absurd (Value.ref.inj q) (F_w_DIGEST_ordinal.ne F_w_CLOSED_LIST_ordinal (by decide))) (by decide) (by decide) ?_
    show Steps p.tables e below (T2.setTop (mkF m 7 #[rv w_DIGEST] [])) _
    refine XS.aloadN X2.here hx rfl (hb hby d_prog_105_method_8_code_7) rfl rfl ?_
    show Steps p.tables e below (T2.setTop (mkF m 8 #[rv w_DIGEST] [(.ref w_DIGEST)])) _
    exact k
  obtain ⟨T5, X5, e5, st5⟩ := getS2 X2 hx hZ hown (host := "") (Or.inl (hw _ (List.mem_of_getElem? (i := 43) rfl))) Via.refl e2 (S_w_LISTED.ext O0.2) (g := (mkF m 8 #[rv w_DIGEST] [(.ref w_DIGEST)])) rfl (hb hby d_prog_105_method_8_code_8)
  have k6 : Way p e below S0 T5 (mkF m 11 #[rv w_DIGEST] [(.ref w_LISTED), (.ref w_DIGEST)]) := fun t k => k4 t (st5 _ k)
  have k7 : Way p e below S0 T5 (mkF m 19 #[rv w_DIGEST] [(.int (0 : Int32))]) := by
    intro t k
    refine k6 t ?_
    refine Jvm.RoadKit.acmp (g := (mkF m 11 #[rv w_DIGEST] [(.ref w_LISTED), (.ref w_DIGEST)])) X5 hx rfl rfl rfl (pc0 := 11) (pc' := 18) (same := false) rfl (hb hby d_prog_105_method_8_code_11) rfl (decide_eq_false fun q => absurd (Value.ref.inj q) (F_w_DIGEST_ordinal.ne F_w_LISTED_ordinal (by decide))) (by decide) (by decide) ?_
    show Steps p.tables e below (T5.setTop (mkF m 18 #[rv w_DIGEST] [])) _
    refine XS.iconst X5.here hx rfl (hb hby d_prog_105_method_8_code_18) ?_
    show Steps p.tables e below (T5.setTop (mkF m 19 #[rv w_DIGEST] [(.int (0 : Int32))])) _
    exact k
  obtain ⟨fs, hr, hrun, hended, hW, hsame⟩ := X5.leave (v := some (.int (0 : Int32))) (fun h => by rw [Bd.returns] at h; cases h)
  refine ⟨_, _, k7 _ (retN X5 hx (t := .boolean) Bd.returns (by simp) (hb hby d_prog_105_method_8_code_19) hr), hrun, hended, _, _, rfl, ?_, ⟨_, rfl⟩, hW, hsame.mono (by decide) (by decide)⟩
  show Q_isl12 Z w_TEXT w_COMPOSITE w_CLOSED_LIST w_LISTED w_URI w_ISO3166_1_ALPHA2 w_ISO639 w_ISO15924 w_POSITIVE_NUMBER w_POSITIVE_INTEGER w_NONNEGATIVE_INTEGER w_ISO8601_DATE w_DIGEST w_PER_TIME_STANDARD w_PER_COORDINATE_SYSTEM w_TIME_SPAN  h0 n0 _ T5.heap _
  rw [e5]
  exact ⟨rfl, N0, rfl⟩
def Q_isl13 (Z : State) (w_TEXT : Addr) (w_COMPOSITE : Addr) (w_CLOSED_LIST : Addr) (w_LISTED : Addr) (w_URI : Addr) (w_ISO3166_1_ALPHA2 : Addr) (w_ISO639 : Addr) (w_ISO15924 : Addr) (w_POSITIVE_NUMBER : Addr) (w_POSITIVE_INTEGER : Addr) (w_NONNEGATIVE_INTEGER : Addr) (w_ISO8601_DATE : Addr) (w_DIGEST : Addr) (w_PER_TIME_STANDARD : Addr) (w_PER_COORDINATE_SYSTEM : Addr) (w_TIME_SPAN : Addr)  (h0 : Heap) (n0 : Nat) (v : Option Value) (h : Heap) (L : List Loc) : Prop := (v = some (.int (0 : Int32))) ∧ (Fr n0 L) ∧ (h = h0)
set_option maxRecDepth 65536 in
set_option maxHeartbeats 40000000 in
theorem isl13 (l : Launch) (Z : State) (a0 : Array Value) (hw : ∀ d ∈ tables_1, d.before a0 Z = true) (ws : List Jvm.Cond) (w_TEXT : Addr) (w_COMPOSITE : Addr) (w_CLOSED_LIST : Addr) (w_LISTED : Addr) (w_URI : Addr) (w_ISO3166_1_ALPHA2 : Addr) (w_ISO639 : Addr) (w_ISO15924 : Addr) (w_POSITIVE_NUMBER : Addr) (w_POSITIVE_INTEGER : Addr) (w_NONNEGATIVE_INTEGER : Addr) (w_ISO8601_DATE : Addr) (w_DIGEST : Addr) (w_PER_TIME_STANDARD : Addr) (w_PER_COORDINATE_SYSTEM : Addr) (w_TIME_SPAN : Addr) (G : Gst Z w_TEXT w_COMPOSITE w_CLOSED_LIST w_LISTED w_URI w_ISO3166_1_ALPHA2 w_ISO639 w_ISO15924 w_POSITIVE_NUMBER w_POSITIVE_INTEGER w_NONNEGATIVE_INTEGER w_ISO8601_DATE w_DIGEST w_PER_TIME_STANDARD w_PER_COORDINATE_SYSTEM w_TIME_SPAN)  (h0 : Heap) (n0 : Nat) (O0 : Old Z n0 h0) :
    MetFree l (⟨"gradivo/spec/ValueKind", "isList", "()Z"⟩ : MethodName) (head1 (Jvm.Cond.code (⟨"gradivo/spec/ValueKind", "isList", "()Z"⟩ : MethodName) prog_105_method_8_code 1 (some .boolean) :: ws) ({ frames := 0, cells := 0, slots := 0, locals := 0 } : Room)) (fun a U => a = #[(.ref w_PER_TIME_STANDARD)] ∧ Z.Warmed39 U.vm ∧ U.heap = h0) (fun _ _ _ _ _ => True) (fun _ U o U' => ∃ v L, o = .returned v ∧ Q_isl13 Z w_TEXT w_COMPOSITE w_CLOSED_LIST w_LISTED w_URI w_ISO3166_1_ALPHA2 w_ISO639 w_ISO15924 w_POSITIVE_NUMBER w_POSITIVE_INTEGER w_NONNEGATIVE_INTEGER w_ISO8601_DATE w_DIGEST w_PER_TIME_STANDARD w_PER_COORDINATE_SYSTEM w_TIME_SPAN  h0 n0 v U'.heap L ∧ FrameEnd U o U' L ({ frames := 0, cells := 0, slots := 0, locals := 0 } : Room).cells ({ frames := 0, cells := 0, slots := 0, locals := 0 } : Room).slots) := by
  refine MetFree.of_bodySF (plainFor_of_name pn_0) hisR ?_
  intro p e s m args below meth c s₁ Bd hml0 hP hK
  obtain ⟨rfl, hZ, hh⟩ := hP
  have hx := Bd.exec
  have hby := Bd.bytes
  have hml : c.maxLocals = 1 := hml0
  have hown : s.vm.findClass "gradivo/spec/ValueKind" = some m.cls := findClass_of_methodNamed Bd.named
  have hnm := (name_of_methodNamed Bd.named Bd.method).1
  have X0 : Stand p l e ({ frames := 0, cells := 0, slots := 0, locals := 0 } : Room) s m #[(.ref w_PER_TIME_STANDARD)] below meth c s₁ [] 0 0 := Stand.of_body Bd
  have e0 : s₁.heap = h0 := by rw [← hh, Bd.state]; rfl
  have N0 := Fr.nil n0
  obtain ⟨S_w_TEXT, E_w_TEXT, F_w_TEXT_ordinal, S_w_COMPOSITE, E_w_COMPOSITE, F_w_COMPOSITE_ordinal, S_w_CLOSED_LIST, E_w_CLOSED_LIST, F_w_CLOSED_LIST_ordinal, S_w_LISTED, E_w_LISTED, F_w_LISTED_ordinal, S_w_URI, E_w_URI, F_w_URI_ordinal, S_w_ISO3166_1_ALPHA2, E_w_ISO3166_1_ALPHA2, F_w_ISO3166_1_ALPHA2_ordinal, S_w_ISO639, E_w_ISO639, F_w_ISO639_ordinal, S_w_ISO15924, E_w_ISO15924, F_w_ISO15924_ordinal, S_w_POSITIVE_NUMBER, E_w_POSITIVE_NUMBER, F_w_POSITIVE_NUMBER_ordinal, S_w_POSITIVE_INTEGER, E_w_POSITIVE_INTEGER, F_w_POSITIVE_INTEGER_ordinal, S_w_NONNEGATIVE_INTEGER, E_w_NONNEGATIVE_INTEGER, F_w_NONNEGATIVE_INTEGER_ordinal, S_w_ISO8601_DATE, E_w_ISO8601_DATE, F_w_ISO8601_DATE_ordinal, S_w_DIGEST, E_w_DIGEST, F_w_DIGEST_ordinal, S_w_PER_TIME_STANDARD, E_w_PER_TIME_STANDARD, F_w_PER_TIME_STANDARD_ordinal, S_w_PER_COORDINATE_SYSTEM, E_w_PER_COORDINATE_SYSTEM, F_w_PER_COORDINATE_SYSTEM_ordinal, S_w_TIME_SPAN, E_w_TIME_SPAN, F_w_TIME_SPAN_ordinal⟩ := id G
  have k0 : Way p e below (s₁.setTop (entryFrame m #[(.ref w_PER_TIME_STANDARD)] 1)) s₁ (mkF m 0 #[rv w_PER_TIME_STANDARD] []) := fun t k => castTop (by first | (simp [entryFrame, mkF, argsToLocals, Value.category]; done) | rfl) k
  generalize s₁.setTop (entryFrame m #[(.ref w_PER_TIME_STANDARD)] 1) = S0 at k0 ⊢
  have k1 : Way p e below S0 s₁ (mkF m 1 #[rv w_PER_TIME_STANDARD] [(.ref w_PER_TIME_STANDARD)]) := by
    intro t k
    refine k0 t ?_
    refine XS.aloadN X0.here hx rfl (hb hby d_prog_105_method_8_code_0) rfl rfl ?_
    show Steps p.tables e below (s₁.setTop (mkF m 1 #[rv w_PER_TIME_STANDARD] [(.ref w_PER_TIME_STANDARD)])) _
    exact k
  obtain ⟨T2, X2, e2, st2⟩ := getS2 X0 hx hZ hown (host := "") (Or.inl (hw _ (List.mem_of_getElem? (i := 42) rfl))) Via.refl e0 (S_w_CLOSED_LIST.ext O0.2) (g := (mkF m 1 #[rv w_PER_TIME_STANDARD] [(.ref w_PER_TIME_STANDARD)])) rfl (hb hby d_prog_105_method_8_code_1)
  have k3 : Way p e below S0 T2 (mkF m 4 #[rv w_PER_TIME_STANDARD] [(.ref w_CLOSED_LIST), (.ref w_PER_TIME_STANDARD)]) := fun t k => k1 t (st2 _ k)
  have k4 : Way p e below S0 T2 (mkF m 8 #[rv w_PER_TIME_STANDARD] [(.ref w_PER_TIME_STANDARD)]) := by
    intro t k
    refine k3 t ?_
    refine Jvm.RoadKit.acmp (g := (mkF m 4 #[rv w_PER_TIME_STANDARD] [(.ref w_CLOSED_LIST), (.ref w_PER_TIME_STANDARD)])) X2 hx rfl rfl rfl (pc0 := 4) (pc' := 7) (same := false) rfl (hb hby d_prog_105_method_8_code_4) rfl (decide_eq_false fun q => absurd (Value.ref.inj q) (F_w_PER_TIME_STANDARD_ordinal.ne F_w_CLOSED_LIST_ordinal (by decide))) (by decide) (by decide) ?_
    show Steps p.tables e below (T2.setTop (mkF m 7 #[rv w_PER_TIME_STANDARD] [])) _
    refine XS.aloadN X2.here hx rfl (hb hby d_prog_105_method_8_code_7) rfl rfl ?_
    show Steps p.tables e below (T2.setTop (mkF m 8 #[rv w_PER_TIME_STANDARD] [(.ref w_PER_TIME_STANDARD)])) _
    exact k
  obtain ⟨T5, X5, e5, st5⟩ := getS2 X2 hx hZ hown (host := "") (Or.inl (hw _ (List.mem_of_getElem? (i := 43) rfl))) Via.refl e2 (S_w_LISTED.ext O0.2) (g := (mkF m 8 #[rv w_PER_TIME_STANDARD] [(.ref w_PER_TIME_STANDARD)])) rfl (hb hby d_prog_105_method_8_code_8)
  have k6 : Way p e below S0 T5 (mkF m 11 #[rv w_PER_TIME_STANDARD] [(.ref w_LISTED), (.ref w_PER_TIME_STANDARD)]) := fun t k => k4 t (st5 _ k)
  have k7 : Way p e below S0 T5 (mkF m 19 #[rv w_PER_TIME_STANDARD] [(.int (0 : Int32))]) := by
    intro t k
    refine k6 t ?_
    refine Jvm.RoadKit.acmp (g := (mkF m 11 #[rv w_PER_TIME_STANDARD] [(.ref w_LISTED), (.ref w_PER_TIME_STANDARD)])) X5 hx rfl rfl rfl (pc0 := 11) (pc' := 18) (same := false) rfl (hb hby d_prog_105_method_8_code_11) rfl (decide_eq_false fun q => absurd (Value.ref.inj q) (F_w_PER_TIME_STANDARD_ordinal.ne F_w_LISTED_ordinal (by decide))) (by decide) (by decide) ?_
    show Steps p.tables e below (T5.setTop (mkF m 18 #[rv w_PER_TIME_STANDARD] [])) _
    refine XS.iconst X5.here hx rfl (hb hby d_prog_105_method_8_code_18) ?_
    show Steps p.tables e below (T5.setTop (mkF m 19 #[rv w_PER_TIME_STANDARD] [(.int (0 : Int32))])) _
    exact k
  obtain ⟨fs, hr, hrun, hended, hW, hsame⟩ := X5.leave (v := some (.int (0 : Int32))) (fun h => by rw [Bd.returns] at h; cases h)
  refine ⟨_, _, k7 _ (retN X5 hx (t := .boolean) Bd.returns (by simp) (hb hby d_prog_105_method_8_code_19) hr), hrun, hended, _, _, rfl, ?_, ⟨_, rfl⟩, hW, hsame.mono (by decide) (by decide)⟩
  show Q_isl13 Z w_TEXT w_COMPOSITE w_CLOSED_LIST w_LISTED w_URI w_ISO3166_1_ALPHA2 w_ISO639 w_ISO15924 w_POSITIVE_NUMBER w_POSITIVE_INTEGER w_NONNEGATIVE_INTEGER w_ISO8601_DATE w_DIGEST w_PER_TIME_STANDARD w_PER_COORDINATE_SYSTEM w_TIME_SPAN  h0 n0 _ T5.heap _
  rw [e5]
  exact ⟨rfl, N0, rfl⟩
def Q_isl14 (Z : State) (w_TEXT : Addr) (w_COMPOSITE : Addr) (w_CLOSED_LIST : Addr) (w_LISTED : Addr) (w_URI : Addr) (w_ISO3166_1_ALPHA2 : Addr) (w_ISO639 : Addr) (w_ISO15924 : Addr) (w_POSITIVE_NUMBER : Addr) (w_POSITIVE_INTEGER : Addr) (w_NONNEGATIVE_INTEGER : Addr) (w_ISO8601_DATE : Addr) (w_DIGEST : Addr) (w_PER_TIME_STANDARD : Addr) (w_PER_COORDINATE_SYSTEM : Addr) (w_TIME_SPAN : Addr)  (h0 : Heap) (n0 : Nat) (v : Option Value) (h : Heap) (L : List Loc) : Prop := (v = some (.int (0 : Int32))) ∧ (Fr n0 L) ∧ (h = h0)
set_option maxRecDepth 65536 in
set_option maxHeartbeats 40000000 in
theorem isl14 (l : Launch) (Z : State) (a0 : Array Value) (hw : ∀ d ∈ tables_1, d.before a0 Z = true) (ws : List Jvm.Cond) (w_TEXT : Addr) (w_COMPOSITE : Addr) (w_CLOSED_LIST : Addr) (w_LISTED : Addr) (w_URI : Addr) (w_ISO3166_1_ALPHA2 : Addr) (w_ISO639 : Addr) (w_ISO15924 : Addr) (w_POSITIVE_NUMBER : Addr) (w_POSITIVE_INTEGER : Addr) (w_NONNEGATIVE_INTEGER : Addr) (w_ISO8601_DATE : Addr) (w_DIGEST : Addr) (w_PER_TIME_STANDARD : Addr) (w_PER_COORDINATE_SYSTEM : Addr) (w_TIME_SPAN : Addr) (G : Gst Z w_TEXT w_COMPOSITE w_CLOSED_LIST w_LISTED w_URI w_ISO3166_1_ALPHA2 w_ISO639 w_ISO15924 w_POSITIVE_NUMBER w_POSITIVE_INTEGER w_NONNEGATIVE_INTEGER w_ISO8601_DATE w_DIGEST w_PER_TIME_STANDARD w_PER_COORDINATE_SYSTEM w_TIME_SPAN)  (h0 : Heap) (n0 : Nat) (O0 : Old Z n0 h0) :
    MetFree l (⟨"gradivo/spec/ValueKind", "isList", "()Z"⟩ : MethodName) (head1 (Jvm.Cond.code (⟨"gradivo/spec/ValueKind", "isList", "()Z"⟩ : MethodName) prog_105_method_8_code 1 (some .boolean) :: ws) ({ frames := 0, cells := 0, slots := 0, locals := 0 } : Room)) (fun a U => a = #[(.ref w_PER_COORDINATE_SYSTEM)] ∧ Z.Warmed39 U.vm ∧ U.heap = h0) (fun _ _ _ _ _ => True) (fun _ U o U' => ∃ v L, o = .returned v ∧ Q_isl14 Z w_TEXT w_COMPOSITE w_CLOSED_LIST w_LISTED w_URI w_ISO3166_1_ALPHA2 w_ISO639 w_ISO15924 w_POSITIVE_NUMBER w_POSITIVE_INTEGER w_NONNEGATIVE_INTEGER w_ISO8601_DATE w_DIGEST w_PER_TIME_STANDARD w_PER_COORDINATE_SYSTEM w_TIME_SPAN  h0 n0 v U'.heap L ∧ FrameEnd U o U' L ({ frames := 0, cells := 0, slots := 0, locals := 0 } : Room).cells ({ frames := 0, cells := 0, slots := 0, locals := 0 } : Room).slots) := by
  refine MetFree.of_bodySF (plainFor_of_name pn_0) hisR ?_
  intro p e s m args below meth c s₁ Bd hml0 hP hK
  obtain ⟨rfl, hZ, hh⟩ := hP
  have hx := Bd.exec
  have hby := Bd.bytes
  have hml : c.maxLocals = 1 := hml0
  have hown : s.vm.findClass "gradivo/spec/ValueKind" = some m.cls := findClass_of_methodNamed Bd.named
  have hnm := (name_of_methodNamed Bd.named Bd.method).1
  have X0 : Stand p l e ({ frames := 0, cells := 0, slots := 0, locals := 0 } : Room) s m #[(.ref w_PER_COORDINATE_SYSTEM)] below meth c s₁ [] 0 0 := Stand.of_body Bd
  have e0 : s₁.heap = h0 := by rw [← hh, Bd.state]; rfl
  have N0 := Fr.nil n0
  obtain ⟨S_w_TEXT, E_w_TEXT, F_w_TEXT_ordinal, S_w_COMPOSITE, E_w_COMPOSITE, F_w_COMPOSITE_ordinal, S_w_CLOSED_LIST, E_w_CLOSED_LIST, F_w_CLOSED_LIST_ordinal, S_w_LISTED, E_w_LISTED, F_w_LISTED_ordinal, S_w_URI, E_w_URI, F_w_URI_ordinal, S_w_ISO3166_1_ALPHA2, E_w_ISO3166_1_ALPHA2, F_w_ISO3166_1_ALPHA2_ordinal, S_w_ISO639, E_w_ISO639, F_w_ISO639_ordinal, S_w_ISO15924, E_w_ISO15924, F_w_ISO15924_ordinal, S_w_POSITIVE_NUMBER, E_w_POSITIVE_NUMBER, F_w_POSITIVE_NUMBER_ordinal, S_w_POSITIVE_INTEGER, E_w_POSITIVE_INTEGER, F_w_POSITIVE_INTEGER_ordinal, S_w_NONNEGATIVE_INTEGER, E_w_NONNEGATIVE_INTEGER, F_w_NONNEGATIVE_INTEGER_ordinal, S_w_ISO8601_DATE, E_w_ISO8601_DATE, F_w_ISO8601_DATE_ordinal, S_w_DIGEST, E_w_DIGEST, F_w_DIGEST_ordinal, S_w_PER_TIME_STANDARD, E_w_PER_TIME_STANDARD, F_w_PER_TIME_STANDARD_ordinal, S_w_PER_COORDINATE_SYSTEM, E_w_PER_COORDINATE_SYSTEM, F_w_PER_COORDINATE_SYSTEM_ordinal, S_w_TIME_SPAN, E_w_TIME_SPAN, F_w_TIME_SPAN_ordinal⟩ := id G
  have k0 : Way p e below (s₁.setTop (entryFrame m #[(.ref w_PER_COORDINATE_SYSTEM)] 1)) s₁ (mkF m 0 #[rv w_PER_COORDINATE_SYSTEM] []) := fun t k => castTop (by first | (simp [entryFrame, mkF, argsToLocals, Value.category]; done) | rfl) k
  generalize s₁.setTop (entryFrame m #[(.ref w_PER_COORDINATE_SYSTEM)] 1) = S0 at k0 ⊢
  have k1 : Way p e below S0 s₁ (mkF m 1 #[rv w_PER_COORDINATE_SYSTEM] [(.ref w_PER_COORDINATE_SYSTEM)]) := by
    intro t k
    refine k0 t ?_
    refine XS.aloadN X0.here hx rfl (hb hby d_prog_105_method_8_code_0) rfl rfl ?_
    show Steps p.tables e below (s₁.setTop (mkF m 1 #[rv w_PER_COORDINATE_SYSTEM] [(.ref w_PER_COORDINATE_SYSTEM)])) _
    exact k
  obtain ⟨T2, X2, e2, st2⟩ := getS2 X0 hx hZ hown (host := "") (Or.inl (hw _ (List.mem_of_getElem? (i := 42) rfl))) Via.refl e0 (S_w_CLOSED_LIST.ext O0.2) (g := (mkF m 1 #[rv w_PER_COORDINATE_SYSTEM] [(.ref w_PER_COORDINATE_SYSTEM)])) rfl (hb hby d_prog_105_method_8_code_1)
  have k3 : Way p e below S0 T2 (mkF m 4 #[rv w_PER_COORDINATE_SYSTEM] [(.ref w_CLOSED_LIST), (.ref w_PER_COORDINATE_SYSTEM)]) := fun t k => k1 t (st2 _ k)
  have k4 : Way p e below S0 T2 (mkF m 8 #[rv w_PER_COORDINATE_SYSTEM] [(.ref w_PER_COORDINATE_SYSTEM)]) := by
    intro t k
    refine k3 t ?_
    refine Jvm.RoadKit.acmp (g := (mkF m 4 #[rv w_PER_COORDINATE_SYSTEM] [(.ref w_CLOSED_LIST), (.ref w_PER_COORDINATE_SYSTEM)])) X2 hx rfl rfl rfl (pc0 := 4) (pc' := 7) (same := false) rfl (hb hby d_prog_105_method_8_code_4) rfl (decide_eq_false fun q => absurd (Value.ref.inj q) (F_w_PER_COORDINATE_SYSTEM_ordinal.ne F_w_CLOSED_LIST_ordinal (by decide))) (by decide) (by decide) ?_
    show Steps p.tables e below (T2.setTop (mkF m 7 #[rv w_PER_COORDINATE_SYSTEM] [])) _
    refine XS.aloadN X2.here hx rfl (hb hby d_prog_105_method_8_code_7) rfl rfl ?_
    show Steps p.tables e below (T2.setTop (mkF m 8 #[rv w_PER_COORDINATE_SYSTEM] [(.ref w_PER_COORDINATE_SYSTEM)])) _
    exact k
  obtain ⟨T5, X5, e5, st5⟩ := getS2 X2 hx hZ hown (host := "") (Or.inl (hw _ (List.mem_of_getElem? (i := 43) rfl))) Via.refl e2 (S_w_LISTED.ext O0.2) (g := (mkF m 8 #[rv w_PER_COORDINATE_SYSTEM] [(.ref w_PER_COORDINATE_SYSTEM)])) rfl (hb hby d_prog_105_method_8_code_8)
  have k6 : Way p e below S0 T5 (mkF m 11 #[rv w_PER_COORDINATE_SYSTEM] [(.ref w_LISTED), (.ref w_PER_COORDINATE_SYSTEM)]) := fun t k => k4 t (st5 _ k)
  have k7 : Way p e below S0 T5 (mkF m 19 #[rv w_PER_COORDINATE_SYSTEM] [(.int (0 : Int32))]) := by
    intro t k
    refine k6 t ?_
    refine Jvm.RoadKit.acmp (g := (mkF m 11 #[rv w_PER_COORDINATE_SYSTEM] [(.ref w_LISTED), (.ref w_PER_COORDINATE_SYSTEM)])) X5 hx rfl rfl rfl (pc0 := 11) (pc' := 18) (same := false) rfl (hb hby d_prog_105_method_8_code_11) rfl (decide_eq_false fun q => absurd (Value.ref.inj q) (F_w_PER_COORDINATE_SYSTEM_ordinal.ne F_w_LISTED_ordinal (by decide))) (by decide) (by decide) ?_
    show Steps p.tables e below (T5.setTop (mkF m 18 #[rv w_PER_COORDINATE_SYSTEM] [])) _
    refine XS.iconst X5.here hx rfl (hb hby d_prog_105_method_8_code_18) ?_
    show Steps p.tables e below (T5.setTop (mkF m 19 #[rv w_PER_COORDINATE_SYSTEM] [(.int (0 : Int32))])) _
    exact k
  obtain ⟨fs, hr, hrun, hended, hW, hsame⟩ := X5.leave (v := some (.int (0 : Int32))) (fun h => by rw [Bd.returns] at h; cases h)
  refine ⟨_, _, k7 _ (retN X5 hx (t := .boolean) Bd.returns (by simp) (hb hby d_prog_105_method_8_code_19) hr), hrun, hended, _, _, rfl, ?_, ⟨_, rfl⟩, hW, hsame.mono (by decide) (by decide)⟩
  show Q_isl14 Z w_TEXT w_COMPOSITE w_CLOSED_LIST w_LISTED w_URI w_ISO3166_1_ALPHA2 w_ISO639 w_ISO15924 w_POSITIVE_NUMBER w_POSITIVE_INTEGER w_NONNEGATIVE_INTEGER w_ISO8601_DATE w_DIGEST w_PER_TIME_STANDARD w_PER_COORDINATE_SYSTEM w_TIME_SPAN  h0 n0 _ T5.heap _
  rw [e5]
  exact ⟨rfl, N0, rfl⟩
def Q_isl15 (Z : State) (w_TEXT : Addr) (w_COMPOSITE : Addr) (w_CLOSED_LIST : Addr) (w_LISTED : Addr) (w_URI : Addr) (w_ISO3166_1_ALPHA2 : Addr) (w_ISO639 : Addr) (w_ISO15924 : Addr) (w_POSITIVE_NUMBER : Addr) (w_POSITIVE_INTEGER : Addr) (w_NONNEGATIVE_INTEGER : Addr) (w_ISO8601_DATE : Addr) (w_DIGEST : Addr) (w_PER_TIME_STANDARD : Addr) (w_PER_COORDINATE_SYSTEM : Addr) (w_TIME_SPAN : Addr)  (h0 : Heap) (n0 : Nat) (v : Option Value) (h : Heap) (L : List Loc) : Prop := (v = some (.int (0 : Int32))) ∧ (Fr n0 L) ∧ (h = h0)
set_option maxRecDepth 65536 in
set_option maxHeartbeats 40000000 in
theorem isl15 (l : Launch) (Z : State) (a0 : Array Value) (hw : ∀ d ∈ tables_1, d.before a0 Z = true) (ws : List Jvm.Cond) (w_TEXT : Addr) (w_COMPOSITE : Addr) (w_CLOSED_LIST : Addr) (w_LISTED : Addr) (w_URI : Addr) (w_ISO3166_1_ALPHA2 : Addr) (w_ISO639 : Addr) (w_ISO15924 : Addr) (w_POSITIVE_NUMBER : Addr) (w_POSITIVE_INTEGER : Addr) (w_NONNEGATIVE_INTEGER : Addr) (w_ISO8601_DATE : Addr) (w_DIGEST : Addr) (w_PER_TIME_STANDARD : Addr) (w_PER_COORDINATE_SYSTEM : Addr) (w_TIME_SPAN : Addr) (G : Gst Z w_TEXT w_COMPOSITE w_CLOSED_LIST w_LISTED w_URI w_ISO3166_1_ALPHA2 w_ISO639 w_ISO15924 w_POSITIVE_NUMBER w_POSITIVE_INTEGER w_NONNEGATIVE_INTEGER w_ISO8601_DATE w_DIGEST w_PER_TIME_STANDARD w_PER_COORDINATE_SYSTEM w_TIME_SPAN)  (h0 : Heap) (n0 : Nat) (O0 : Old Z n0 h0) :
    MetFree l (⟨"gradivo/spec/ValueKind", "isList", "()Z"⟩ : MethodName) (head1 (Jvm.Cond.code (⟨"gradivo/spec/ValueKind", "isList", "()Z"⟩ : MethodName) prog_105_method_8_code 1 (some .boolean) :: ws) ({ frames := 0, cells := 0, slots := 0, locals := 0 } : Room)) (fun a U => a = #[(.ref w_TIME_SPAN)] ∧ Z.Warmed39 U.vm ∧ U.heap = h0) (fun _ _ _ _ _ => True) (fun _ U o U' => ∃ v L, o = .returned v ∧ Q_isl15 Z w_TEXT w_COMPOSITE w_CLOSED_LIST w_LISTED w_URI w_ISO3166_1_ALPHA2 w_ISO639 w_ISO15924 w_POSITIVE_NUMBER w_POSITIVE_INTEGER w_NONNEGATIVE_INTEGER w_ISO8601_DATE w_DIGEST w_PER_TIME_STANDARD w_PER_COORDINATE_SYSTEM w_TIME_SPAN  h0 n0 v U'.heap L ∧ FrameEnd U o U' L ({ frames := 0, cells := 0, slots := 0, locals := 0 } : Room).cells ({ frames := 0, cells := 0, slots := 0, locals := 0 } : Room).slots) := by
  refine MetFree.of_bodySF (plainFor_of_name pn_0) hisR ?_
  intro p e s m args below meth c s₁ Bd hml0 hP hK
  obtain ⟨rfl, hZ, hh⟩ := hP
  have hx := Bd.exec
  have hby := Bd.bytes
  have hml : c.maxLocals = 1 := hml0
  have hown : s.vm.findClass "gradivo/spec/ValueKind" = some m.cls := findClass_of_methodNamed Bd.named
  have hnm := (name_of_methodNamed Bd.named Bd.method).1
  have X0 : Stand p l e ({ frames := 0, cells := 0, slots := 0, locals := 0 } : Room) s m #[(.ref w_TIME_SPAN)] below meth c s₁ [] 0 0 := Stand.of_body Bd
  have e0 : s₁.heap = h0 := by rw [← hh, Bd.state]; rfl
  have N0 := Fr.nil n0
  obtain ⟨S_w_TEXT, E_w_TEXT, F_w_TEXT_ordinal, S_w_COMPOSITE, E_w_COMPOSITE, F_w_COMPOSITE_ordinal, S_w_CLOSED_LIST, E_w_CLOSED_LIST, F_w_CLOSED_LIST_ordinal, S_w_LISTED, E_w_LISTED, F_w_LISTED_ordinal, S_w_URI, E_w_URI, F_w_URI_ordinal, S_w_ISO3166_1_ALPHA2, E_w_ISO3166_1_ALPHA2, F_w_ISO3166_1_ALPHA2_ordinal, S_w_ISO639, E_w_ISO639, F_w_ISO639_ordinal, S_w_ISO15924, E_w_ISO15924, F_w_ISO15924_ordinal, S_w_POSITIVE_NUMBER, E_w_POSITIVE_NUMBER, F_w_POSITIVE_NUMBER_ordinal, S_w_POSITIVE_INTEGER, E_w_POSITIVE_INTEGER, F_w_POSITIVE_INTEGER_ordinal, S_w_NONNEGATIVE_INTEGER, E_w_NONNEGATIVE_INTEGER, F_w_NONNEGATIVE_INTEGER_ordinal, S_w_ISO8601_DATE, E_w_ISO8601_DATE, F_w_ISO8601_DATE_ordinal, S_w_DIGEST, E_w_DIGEST, F_w_DIGEST_ordinal, S_w_PER_TIME_STANDARD, E_w_PER_TIME_STANDARD, F_w_PER_TIME_STANDARD_ordinal, S_w_PER_COORDINATE_SYSTEM, E_w_PER_COORDINATE_SYSTEM, F_w_PER_COORDINATE_SYSTEM_ordinal, S_w_TIME_SPAN, E_w_TIME_SPAN, F_w_TIME_SPAN_ordinal⟩ := id G
  have k0 : Way p e below (s₁.setTop (entryFrame m #[(.ref w_TIME_SPAN)] 1)) s₁ (mkF m 0 #[rv w_TIME_SPAN] []) := fun t k => castTop (by first | (simp [entryFrame, mkF, argsToLocals, Value.category]; done) | rfl) k
  generalize s₁.setTop (entryFrame m #[(.ref w_TIME_SPAN)] 1) = S0 at k0 ⊢
  have k1 : Way p e below S0 s₁ (mkF m 1 #[rv w_TIME_SPAN] [(.ref w_TIME_SPAN)]) := by
    intro t k
    refine k0 t ?_
    refine XS.aloadN X0.here hx rfl (hb hby d_prog_105_method_8_code_0) rfl rfl ?_
    show Steps p.tables e below (s₁.setTop (mkF m 1 #[rv w_TIME_SPAN] [(.ref w_TIME_SPAN)])) _
    exact k
  obtain ⟨T2, X2, e2, st2⟩ := getS2 X0 hx hZ hown (host := "") (Or.inl (hw _ (List.mem_of_getElem? (i := 42) rfl))) Via.refl e0 (S_w_CLOSED_LIST.ext O0.2) (g := (mkF m 1 #[rv w_TIME_SPAN] [(.ref w_TIME_SPAN)])) rfl (hb hby d_prog_105_method_8_code_1)
  have k3 : Way p e below S0 T2 (mkF m 4 #[rv w_TIME_SPAN] [(.ref w_CLOSED_LIST), (.ref w_TIME_SPAN)]) := fun t k => k1 t (st2 _ k)
  have k4 : Way p e below S0 T2 (mkF m 8 #[rv w_TIME_SPAN] [(.ref w_TIME_SPAN)]) := by
    intro t k
    refine k3 t ?_
    refine Jvm.RoadKit.acmp (g := (mkF m 4 #[rv w_TIME_SPAN] [(.ref w_CLOSED_LIST), (.ref w_TIME_SPAN)])) X2 hx rfl rfl rfl (pc0 := 4) (pc' := 7) (same := false) rfl (hb hby d_prog_105_method_8_code_4) rfl (decide_eq_false fun q => absurd (Value.ref.inj q) (F_w_TIME_SPAN_ordinal.ne F_w_CLOSED_LIST_ordinal (by decide))) (by decide) (by decide) ?_
    show Steps p.tables e below (T2.setTop (mkF m 7 #[rv w_TIME_SPAN] [])) _
    refine XS.aloadN X2.here hx rfl (hb hby d_prog_105_method_8_code_7) rfl rfl ?_
    show Steps p.tables e below (T2.setTop (mkF m 8 #[rv w_TIME_SPAN] [(.ref w_TIME_SPAN)])) _
    exact k
  obtain ⟨T5, X5, e5, st5⟩ := getS2 X2 hx hZ hown (host := "") (Or.inl (hw _ (List.mem_of_getElem? (i := 43) rfl))) Via.refl e2 (S_w_LISTED.ext O0.2) (g := (mkF m 8 #[rv w_TIME_SPAN] [(.ref w_TIME_SPAN)])) rfl (hb hby d_prog_105_method_8_code_8)
  have k6 : Way p e below S0 T5 (mkF m 11 #[rv w_TIME_SPAN] [(.ref w_LISTED), (.ref w_TIME_SPAN)]) := fun t k => k4 t (st5 _ k)
  have k7 : Way p e below S0 T5 (mkF m 19 #[rv w_TIME_SPAN] [(.int (0 : Int32))]) := by
    intro t k
    refine k6 t ?_
    refine Jvm.RoadKit.acmp (g := (mkF m 11 #[rv w_TIME_SPAN] [(.ref w_LISTED), (.ref w_TIME_SPAN)])) X5 hx rfl rfl rfl (pc0 := 11) (pc' := 18) (same := false) rfl (hb hby d_prog_105_method_8_code_11) rfl (decide_eq_false fun q => absurd (Value.ref.inj q) (F_w_TIME_SPAN_ordinal.ne F_w_LISTED_ordinal (by decide))) (by decide) (by decide) ?_
    show Steps p.tables e below (T5.setTop (mkF m 18 #[rv w_TIME_SPAN] [])) _
    refine XS.iconst X5.here hx rfl (hb hby d_prog_105_method_8_code_18) ?_
    show Steps p.tables e below (T5.setTop (mkF m 19 #[rv w_TIME_SPAN] [(.int (0 : Int32))])) _
    exact k
  obtain ⟨fs, hr, hrun, hended, hW, hsame⟩ := X5.leave (v := some (.int (0 : Int32))) (fun h => by rw [Bd.returns] at h; cases h)
  refine ⟨_, _, k7 _ (retN X5 hx (t := .boolean) Bd.returns (by simp) (hb hby d_prog_105_method_8_code_19) hr), hrun, hended, _, _, rfl, ?_, ⟨_, rfl⟩, hW, hsame.mono (by decide) (by decide)⟩
  show Q_isl15 Z w_TEXT w_COMPOSITE w_CLOSED_LIST w_LISTED w_URI w_ISO3166_1_ALPHA2 w_ISO639 w_ISO15924 w_POSITIVE_NUMBER w_POSITIVE_INTEGER w_NONNEGATIVE_INTEGER w_ISO8601_DATE w_DIGEST w_PER_TIME_STANDARD w_PER_COORDINATE_SYSTEM w_TIME_SPAN  h0 n0 _ T5.heap _
  rw [e5]
  exact ⟨rfl, N0, rfl⟩
def Q_law_met (Z : State) (w_TEXT : Addr) (w_COMPOSITE : Addr) (w_CLOSED_LIST : Addr) (w_LISTED : Addr) (w_URI : Addr) (w_ISO3166_1_ALPHA2 : Addr) (w_ISO639 : Addr) (w_ISO15924 : Addr) (w_POSITIVE_NUMBER : Addr) (w_POSITIVE_INTEGER : Addr) (w_NONNEGATIVE_INTEGER : Addr) (w_ISO8601_DATE : Addr) (w_DIGEST : Addr) (w_PER_TIME_STANDARD : Addr) (w_PER_COORDINATE_SYSTEM : Addr) (w_TIME_SPAN : Addr) (p1 : Int32) (h0 : Heap) (n0 : Nat) (v : Option Value) (h : Heap) (L : List Loc) : Prop := (v = some (.int (1 : Int32))) ∧ (Fr n0 L)
set_option maxRecDepth 65536 in
set_option maxHeartbeats 40000000 in
theorem law_met (l : Launch) (Z : State) (a0 : Array Value) (hw : ∀ d ∈ tables_1, d.before a0 Z = true) (ws : List Jvm.Cond) (w_TEXT : Addr) (w_COMPOSITE : Addr) (w_CLOSED_LIST : Addr) (w_LISTED : Addr) (w_URI : Addr) (w_ISO3166_1_ALPHA2 : Addr) (w_ISO639 : Addr) (w_ISO15924 : Addr) (w_POSITIVE_NUMBER : Addr) (w_POSITIVE_INTEGER : Addr) (w_NONNEGATIVE_INTEGER : Addr) (w_ISO8601_DATE : Addr) (w_DIGEST : Addr) (w_PER_TIME_STANDARD : Addr) (w_PER_COORDINATE_SYSTEM : Addr) (w_TIME_SPAN : Addr) (G : Gst Z w_TEXT w_COMPOSITE w_CLOSED_LIST w_LISTED w_URI w_ISO3166_1_ALPHA2 w_ISO639 w_ISO15924 w_POSITIVE_NUMBER w_POSITIVE_INTEGER w_NONNEGATIVE_INTEGER w_ISO8601_DATE w_DIGEST w_PER_TIME_STANDARD w_PER_COORDINATE_SYSTEM w_TIME_SPAN) (p1 : Int32) (h0 : Heap) (n0 : Nat) (O0 : Old Z n0 h0) :
    MetFree l x (head1 (Jvm.Cond.code x code maxLocals ret :: ws) room_1) (fun a U => a = #[(.int p1)] ∧ Z.Warmed39 U.vm ∧ U.heap = h0) (fun _ _ _ _ _ => True) (fun _ U o U' => ∃ v L, o = .returned v ∧ Q_law_met Z w_TEXT w_COMPOSITE w_CLOSED_LIST w_LISTED w_URI w_ISO3166_1_ALPHA2 w_ISO639 w_ISO15924 w_POSITIVE_NUMBER w_POSITIVE_INTEGER w_NONNEGATIVE_INTEGER w_ISO8601_DATE w_DIGEST w_PER_TIME_STANDARD w_PER_COORDINATE_SYSTEM w_TIME_SPAN p1 h0 n0 v U'.heap L ∧ FrameEnd U o U' L 16 128) := by
  refine MetFree.of_bodySF (plainFor_of_name pn_1) hisR ?_
  intro p e s m args below meth c s₁ Bd hml0 hP hK
  obtain ⟨rfl, hZ, hh⟩ := hP
  have hx := Bd.exec
  have hby := Bd.bytes
  have hml : c.maxLocals = 4 := hml0
  have hown : s.vm.findClass "gradivo/spec/ValueKindIsListPinLaw" = some m.cls := findClass_of_methodNamed Bd.named
  have hnm := (name_of_methodNamed Bd.named Bd.method).1
  have X0 : Stand p l e room_1 s m #[(.int p1)] below meth c s₁ [] 0 0 := Stand.of_body Bd
  have e0 : s₁.heap = h0 := by rw [← hh, Bd.state]; rfl
  have N0 := Fr.nil n0
  obtain ⟨S_w_TEXT, E_w_TEXT, F_w_TEXT_ordinal, S_w_COMPOSITE, E_w_COMPOSITE, F_w_COMPOSITE_ordinal, S_w_CLOSED_LIST, E_w_CLOSED_LIST, F_w_CLOSED_LIST_ordinal, S_w_LISTED, E_w_LISTED, F_w_LISTED_ordinal, S_w_URI, E_w_URI, F_w_URI_ordinal, S_w_ISO3166_1_ALPHA2, E_w_ISO3166_1_ALPHA2, F_w_ISO3166_1_ALPHA2_ordinal, S_w_ISO639, E_w_ISO639, F_w_ISO639_ordinal, S_w_ISO15924, E_w_ISO15924, F_w_ISO15924_ordinal, S_w_POSITIVE_NUMBER, E_w_POSITIVE_NUMBER, F_w_POSITIVE_NUMBER_ordinal, S_w_POSITIVE_INTEGER, E_w_POSITIVE_INTEGER, F_w_POSITIVE_INTEGER_ordinal, S_w_NONNEGATIVE_INTEGER, E_w_NONNEGATIVE_INTEGER, F_w_NONNEGATIVE_INTEGER_ordinal, S_w_ISO8601_DATE, E_w_ISO8601_DATE, F_w_ISO8601_DATE_ordinal, S_w_DIGEST, E_w_DIGEST, F_w_DIGEST_ordinal, S_w_PER_TIME_STANDARD, E_w_PER_TIME_STANDARD, F_w_PER_TIME_STANDARD_ordinal, S_w_PER_COORDINATE_SYSTEM, E_w_PER_COORDINATE_SYSTEM, F_w_PER_COORDINATE_SYSTEM_ordinal, S_w_TIME_SPAN, E_w_TIME_SPAN, F_w_TIME_SPAN_ordinal⟩ := id G
  have k0 : Way p e below (s₁.setTop (entryFrame m #[(.int p1)] maxLocals)) s₁ (mkF m 0 #[iv p1, .unset, .unset, .unset] []) := fun t k => castTop (by first | (simp [entryFrame, mkF, argsToLocals, Value.category, maxLocals]; done) | rfl) k
  generalize s₁.setTop (entryFrame m #[(.int p1)] maxLocals) = S0 at k0 ⊢
  have k1 : Way p e below S0 s₁ (mkF m 2 #[iv p1, .unset, .unset, .unset] [(.int (16 : Int32))]) := by
    intro t k
    refine k0 t ?_
    refine XS.bipush X0.here hx rfl (hb hby at_0) ?_
    show Steps p.tables e below (s₁.setTop (mkF m 2 #[iv p1, .unset, .unset, .unset] [(.int (16 : Int32))])) _
    exact k
  obtain ⟨T2, h2, c2, X2, e2, E2, A2, B2, V2, st2⟩ := newRE X0 hx hZ hown (hw _ (List.mem_of_getElem? (i := 0) rfl)) (hw _ (List.mem_of_getElem? (i := 1) rfl)) e0 (g := (mkF m 2 #[iv p1, .unset, .unset, .unset] [(.int (16 : Int32))])) rfl (hb hby at_2) rfl (by decide) (cap := 16) (by decide) (by decide) (by decide) (by decide) (ad := "[Lgradivo/spec/ValueKind;") (by decide)
  obtain ⟨b2, g2⟩ : ∃ z, z = h0.size := ⟨_, rfl⟩
  rw [← g2] at A2 B2 st2
  have O2 := O0.ext E2
  have v2 : Arv Z h2 b2 c2 (.object "gradivo/spec/ValueKind") (16 : Int32) [.null, .null, .null, .null, .null, .null, .null, .null, .null, .null, .null, .null, .null, .null, .null, .null] .null := (Arv.new A2 (by decide)).pad (pad_rep [] .null 16)
  have k3 : Way p e below S0 T2 (mkF m 5 #[iv p1, .unset, .unset, .unset] [(.ref b2)]) := fun t k => k1 t (st2 _ k)
  have k4 : Way p e below S0 T2 (mkF m 7 #[iv p1, .unset, .unset, .unset] [(.int (0 : Int32)), (.ref b2), (.ref b2)]) := by
    intro t k
    refine k3 t ?_
    refine XS.dup X2.here hx rfl (hb hby at_5) rfl rfl ?_
    show Steps p.tables e below (T2.setTop (mkF m 6 #[iv p1, .unset, .unset, .unset] [(.ref b2), (.ref b2)])) _
    refine XS.iconst X2.here hx rfl (hb hby at_6) ?_
    show Steps p.tables e below (T2.setTop (mkF m 7 #[iv p1, .unset, .unset, .unset] [(.int (0 : Int32)), (.ref b2), (.ref b2)])) _
    exact k
  obtain ⟨T5, X5, e5, st5⟩ := getS2 X2 hx hZ hown (host := "") (Or.inl (hw _ (List.mem_of_getElem? (i := 2) rfl))) Via.refl e2 (S_w_TEXT.ext O2.2) (g := (mkF m 7 #[iv p1, .unset, .unset, .unset] [(.int (0 : Int32)), (.ref b2), (.ref b2)])) rfl (hb hby at_7)
  have k6 : Way p e below S0 T5 (mkF m 10 #[iv p1, .unset, .unset, .unset] [(.ref w_TEXT), (.int (0 : Int32)), (.ref b2), (.ref b2)]) := fun t k => k4 t (st5 _ k)
  obtain ⟨cl7, Ar7, qc7, S7, M7, U7, G7⟩ := v2
  have hin7 : ¬ ((0 : Int32) < 0 ∨ cl7.slots.size ≤ ((0 : Int32)).toNatClampNeg) := inb_of S7 ⟨by decide, by decide⟩
  obtain ⟨T7, h7, X7, e7, W7, st7⟩ := stR X5 hx hZ e5 Ar7 (j := (0 : Int32)) hin7 rfl (Sto.ofV Ar7 qc7 V2 (Ins.self (E_w_TEXT.ext O2.2))) (g := (mkF m 10 #[iv p1, .unset, .unset, .unset] [(.ref w_TEXT), (.int (0 : Int32)), (.ref b2), (.ref b2)])) rfl rfl (hb hby at_10)
  have ge8 : n0 ≤ b2 := Nat.le_trans (own_old O0) (Nat.le_of_eq g2.symm)
  have O7 := O2.wr W7 ge8
  have N7 := Fr.snoc X7 N0 ge8
  have va7 : Arv Z h7 b2 c2 (.object "gradivo/spec/ValueKind") (16 : Int32) [(.ref w_TEXT), .null, .null, .null, .null, .null, .null, .null, .null, .null, .null, .null, .null, .null, .null, .null] .null := Arv.set Ar7 qc7 S7 M7 U7 G7 rfl W7 0 rfl (Nat.le_of_ble_eq_true rfl)
  have k9 : Way p e below S0 T7 (mkF m 11 #[iv p1, .unset, .unset, .unset] [(.ref b2)]) := fun t k => k6 t (st7 _ k)
  have k10 : Way p e below S0 T7 (mkF m 13 #[iv p1, .unset, .unset, .unset] [(.int (1 : Int32)), (.ref b2), (.ref b2)]) := by
    intro t k
    refine k9 t ?_
    refine XS.dup X7.here hx rfl (hb hby at_11) rfl rfl ?_
    show Steps p.tables e below (T7.setTop (mkF m 12 #[iv p1, .unset, .unset, .unset] [(.ref b2), (.ref b2)])) _
    refine XS.iconst X7.here hx rfl (hb hby at_12) ?_
    show Steps p.tables e below (T7.setTop (mkF m 13 #[iv p1, .unset, .unset, .unset] [(.int (1 : Int32)), (.ref b2), (.ref b2)])) _
    exact k
  obtain ⟨T11, X11, e11, st11⟩ := getS2 X7 hx hZ hown (host := "") (Or.inl (hw _ (List.mem_of_getElem? (i := 6) rfl))) Via.refl e7 (S_w_COMPOSITE.ext O7.2) (g := (mkF m 13 #[iv p1, .unset, .unset, .unset] [(.int (1 : Int32)), (.ref b2), (.ref b2)])) rfl (hb hby at_13)
  have k12 : Way p e below S0 T11 (mkF m 16 #[iv p1, .unset, .unset, .unset] [(.ref w_COMPOSITE), (.int (1 : Int32)), (.ref b2), (.ref b2)]) := fun t k => k10 t (st11 _ k)
  obtain ⟨cl13, Ar13, qc13, S13, M13, U13, G13⟩ := va7
  have hin13 : ¬ ((1 : Int32) < 0 ∨ cl13.slots.size ≤ ((1 : Int32)).toNatClampNeg) := inb_of S13 ⟨by decide, by decide⟩
  obtain ⟨T13, h13, X13, e13, W13, st13⟩ := stR X11 hx hZ e11 Ar13 (j := (1 : Int32)) hin13 rfl (Sto.ofV Ar13 qc13 V2 (Ins.self (E_w_COMPOSITE.ext O7.2))) (g := (mkF m 16 #[iv p1, .unset, .unset, .unset] [(.ref w_COMPOSITE), (.int (1 : Int32)), (.ref b2), (.ref b2)])) rfl rfl (hb hby at_16)
  have O13 := O7.wr W13 ge8
  have N13 := Fr.snoc X13 N7 ge8
  have va13 : Arv Z h13 b2 c2 (.object "gradivo/spec/ValueKind") (16 : Int32) [(.ref w_TEXT), (.ref w_COMPOSITE), .null, .null, .null, .null, .null, .null, .null, .null, .null, .null, .null, .null, .null, .null] .null := Arv.set Ar13 qc13 S13 M13 U13 G13 rfl W13 1 rfl (Nat.le_of_ble_eq_true rfl)
  have k14 : Way p e below S0 T13 (mkF m 17 #[iv p1, .unset, .unset, .unset] [(.ref b2)]) := fun t k => k12 t (st13 _ k)
  have k15 : Way p e below S0 T13 (mkF m 19 #[iv p1, .unset, .unset, .unset] [(.int (2 : Int32)), (.ref b2), (.ref b2)]) := by
    intro t k
    refine k14 t ?_
    refine XS.dup X13.here hx rfl (hb hby at_17) rfl rfl ?_
    show Steps p.tables e below (T13.setTop (mkF m 18 #[iv p1, .unset, .unset, .unset] [(.ref b2), (.ref b2)])) _
    refine XS.iconst X13.here hx rfl (hb hby at_18) ?_
    show Steps p.tables e below (T13.setTop (mkF m 19 #[iv p1, .unset, .unset, .unset] [(.int (2 : Int32)), (.ref b2), (.ref b2)])) _
    exact k
  obtain ⟨T16, X16, e16, st16⟩ := getS2 X13 hx hZ hown (host := "") (Or.inl (hw _ (List.mem_of_getElem? (i := 8) rfl))) Via.refl e13 (S_w_CLOSED_LIST.ext O13.2) (g := (mkF m 19 #[iv p1, .unset, .unset, .unset] [(.int (2 : Int32)), (.ref b2), (.ref b2)])) rfl (hb hby at_19)
  have k17 : Way p e below S0 T16 (mkF m 22 #[iv p1, .unset, .unset, .unset] [(.ref w_CLOSED_LIST), (.int (2 : Int32)), (.ref b2), (.ref b2)]) := fun t k => k15 t (st16 _ k)
  obtain ⟨cl18, Ar18, qc18, S18, M18, U18, G18⟩ := va13
  have hin18 : ¬ ((2 : Int32) < 0 ∨ cl18.slots.size ≤ ((2 : Int32)).toNatClampNeg) := inb_of S18 ⟨by decide, by decide⟩
  obtain ⟨T18, h18, X18, e18, W18, st18⟩ := stR X16 hx hZ e16 Ar18 (j := (2 : Int32)) hin18 rfl (Sto.ofV Ar18 qc18 V2 (Ins.self (E_w_CLOSED_LIST.ext O13.2))) (g := (mkF m 22 #[iv p1, .unset, .unset, .unset] [(.ref w_CLOSED_LIST), (.int (2 : Int32)), (.ref b2), (.ref b2)])) rfl rfl (hb hby at_22)
  have O18 := O13.wr W18 ge8
  have N18 := Fr.snoc X18 N13 ge8
  have va18 : Arv Z h18 b2 c2 (.object "gradivo/spec/ValueKind") (16 : Int32) [(.ref w_TEXT), (.ref w_COMPOSITE), (.ref w_CLOSED_LIST), .null, .null, .null, .null, .null, .null, .null, .null, .null, .null, .null, .null, .null] .null := Arv.set Ar18 qc18 S18 M18 U18 G18 rfl W18 2 rfl (Nat.le_of_ble_eq_true rfl)
  have k19 : Way p e below S0 T18 (mkF m 23 #[iv p1, .unset, .unset, .unset] [(.ref b2)]) := fun t k => k17 t (st18 _ k)
  have k20 : Way p e below S0 T18 (mkF m 25 #[iv p1, .unset, .unset, .unset] [(.int (3 : Int32)), (.ref b2), (.ref b2)]) := by
    intro t k
    refine k19 t ?_
    refine XS.dup X18.here hx rfl (hb hby at_23) rfl rfl ?_
    show Steps p.tables e below (T18.setTop (mkF m 24 #[iv p1, .unset, .unset, .unset] [(.ref b2), (.ref b2)])) _
    refine XS.iconst X18.here hx rfl (hb hby at_24) ?_
    show Steps p.tables e below (T18.setTop (mkF m 25 #[iv p1, .unset, .unset, .unset] [(.int (3 : Int32)), (.ref b2), (.ref b2)])) _
    exact k
  obtain ⟨T21, X21, e21, st21⟩ := getS2 X18 hx hZ hown (host := "") (Or.inl (hw _ (List.mem_of_getElem? (i := 10) rfl))) Via.refl e18 (S_w_LISTED.ext O18.2) (g := (mkF m 25 #[iv p1, .unset, .unset, .unset] [(.int (3 : Int32)), (.ref b2), (.ref b2)])) rfl (hb hby at_25)
  have k22 : Way p e below S0 T21 (mkF m 28 #[iv p1, .unset, .unset, .unset] [(.ref w_LISTED), (.int (3 : Int32)), (.ref b2), (.ref b2)]) := fun t k => k20 t (st21 _ k)
  obtain ⟨cl23, Ar23, qc23, S23, M23, U23, G23⟩ := va18
  have hin23 : ¬ ((3 : Int32) < 0 ∨ cl23.slots.size ≤ ((3 : Int32)).toNatClampNeg) := inb_of S23 ⟨by decide, by decide⟩
  obtain ⟨T23, h23, X23, e23, W23, st23⟩ := stR X21 hx hZ e21 Ar23 (j := (3 : Int32)) hin23 rfl (Sto.ofV Ar23 qc23 V2 (Ins.self (E_w_LISTED.ext O18.2))) (g := (mkF m 28 #[iv p1, .unset, .unset, .unset] [(.ref w_LISTED), (.int (3 : Int32)), (.ref b2), (.ref b2)])) rfl rfl (hb hby at_28)
  have O23 := O18.wr W23 ge8
  have N23 := Fr.snoc X23 N18 ge8
  have va23 : Arv Z h23 b2 c2 (.object "gradivo/spec/ValueKind") (16 : Int32) [(.ref w_TEXT), (.ref w_COMPOSITE), (.ref w_CLOSED_LIST), (.ref w_LISTED), .null, .null, .null, .null, .null, .null, .null, .null, .null, .null, .null, .null] .null := Arv.set Ar23 qc23 S23 M23 U23 G23 rfl W23 3 rfl (Nat.le_of_ble_eq_true rfl)
  have k24 : Way p e below S0 T23 (mkF m 29 #[iv p1, .unset, .unset, .unset] [(.ref b2)]) := fun t k => k22 t (st23 _ k)
  have k25 : Way p e below S0 T23 (mkF m 31 #[iv p1, .unset, .unset, .unset] [(.int (4 : Int32)), (.ref b2), (.ref b2)]) := by
    intro t k
    refine k24 t ?_
    refine XS.dup X23.here hx rfl (hb hby at_29) rfl rfl ?_
    show Steps p.tables e below (T23.setTop (mkF m 30 #[iv p1, .unset, .unset, .unset] [(.ref b2), (.ref b2)])) _
    refine XS.iconst X23.here hx rfl (hb hby at_30) ?_
    show Steps p.tables e below (T23.setTop (mkF m 31 #[iv p1, .unset, .unset, .unset] [(.int (4 : Int32)), (.ref b2), (.ref b2)])) _
    exact k
  obtain ⟨T26, X26, e26, st26⟩ := getS2 X23 hx hZ hown (host := "") (Or.inl (hw _ (List.mem_of_getElem? (i := 12) rfl))) Via.refl e23 (S_w_URI.ext O23.2) (g := (mkF m 31 #[iv p1, .unset, .unset, .unset] [(.int (4 : Int32)), (.ref b2), (.ref b2)])) rfl (hb hby at_31)
  have k27 : Way p e below S0 T26 (mkF m 34 #[iv p1, .unset, .unset, .unset] [(.ref w_URI), (.int (4 : Int32)), (.ref b2), (.ref b2)]) := fun t k => k25 t (st26 _ k)
  obtain ⟨cl28, Ar28, qc28, S28, M28, U28, G28⟩ := va23
  have hin28 : ¬ ((4 : Int32) < 0 ∨ cl28.slots.size ≤ ((4 : Int32)).toNatClampNeg) := inb_of S28 ⟨by decide, by decide⟩
  obtain ⟨T28, h28, X28, e28, W28, st28⟩ := stR X26 hx hZ e26 Ar28 (j := (4 : Int32)) hin28 rfl (Sto.ofV Ar28 qc28 V2 (Ins.self (E_w_URI.ext O23.2))) (g := (mkF m 34 #[iv p1, .unset, .unset, .unset] [(.ref w_URI), (.int (4 : Int32)), (.ref b2), (.ref b2)])) rfl rfl (hb hby at_34)
  have O28 := O23.wr W28 ge8
  have N28 := Fr.snoc X28 N23 ge8
  have va28 : Arv Z h28 b2 c2 (.object "gradivo/spec/ValueKind") (16 : Int32) [(.ref w_TEXT), (.ref w_COMPOSITE), (.ref w_CLOSED_LIST), (.ref w_LISTED), (.ref w_URI), .null, .null, .null, .null, .null, .null, .null, .null, .null, .null, .null] .null := Arv.set Ar28 qc28 S28 M28 U28 G28 rfl W28 4 rfl (Nat.le_of_ble_eq_true rfl)
  have k29 : Way p e below S0 T28 (mkF m 35 #[iv p1, .unset, .unset, .unset] [(.ref b2)]) := fun t k => k27 t (st28 _ k)
  have k30 : Way p e below S0 T28 (mkF m 37 #[iv p1, .unset, .unset, .unset] [(.int (5 : Int32)), (.ref b2), (.ref b2)]) := by
    intro t k
    refine k29 t ?_
    refine XS.dup X28.here hx rfl (hb hby at_35) rfl rfl ?_
    show Steps p.tables e below (T28.setTop (mkF m 36 #[iv p1, .unset, .unset, .unset] [(.ref b2), (.ref b2)])) _
    refine XS.iconst X28.here hx rfl (hb hby at_36) ?_
    show Steps p.tables e below (T28.setTop (mkF m 37 #[iv p1, .unset, .unset, .unset] [(.int (5 : Int32)), (.ref b2), (.ref b2)])) _
    exact k
  obtain ⟨T31, X31, e31, st31⟩ := getS2 X28 hx hZ hown (host := "") (Or.inl (hw _ (List.mem_of_getElem? (i := 14) rfl))) Via.refl e28 (S_w_ISO3166_1_ALPHA2.ext O28.2) (g := (mkF m 37 #[iv p1, .unset, .unset, .unset] [(.int (5 : Int32)), (.ref b2), (.ref b2)])) rfl (hb hby at_37)
  have k32 : Way p e below S0 T31 (mkF m 40 #[iv p1, .unset, .unset, .unset] [(.ref w_ISO3166_1_ALPHA2), (.int (5 : Int32)), (.ref b2), (.ref b2)]) := fun t k => k30 t (st31 _ k)
  obtain ⟨cl33, Ar33, qc33, S33, M33, U33, G33⟩ := va28
  have hin33 : ¬ ((5 : Int32) < 0 ∨ cl33.slots.size ≤ ((5 : Int32)).toNatClampNeg) := inb_of S33 ⟨by decide, by decide⟩
  obtain ⟨T33, h33, X33, e33, W33, st33⟩ := stR X31 hx hZ e31 Ar33 (j := (5 : Int32)) hin33 rfl (Sto.ofV Ar33 qc33 V2 (Ins.self (E_w_ISO3166_1_ALPHA2.ext O28.2))) (g := (mkF m 40 #[iv p1, .unset, .unset, .unset] [(.ref w_ISO3166_1_ALPHA2), (.int (5 : Int32)), (.ref b2), (.ref b2)])) rfl rfl (hb hby at_40)
  have O33 := O28.wr W33 ge8
  have N33 := Fr.snoc X33 N28 ge8
  have va33 : Arv Z h33 b2 c2 (.object "gradivo/spec/ValueKind") (16 : Int32) [(.ref w_TEXT), (.ref w_COMPOSITE), (.ref w_CLOSED_LIST), (.ref w_LISTED), (.ref w_URI), (.ref w_ISO3166_1_ALPHA2), .null, .null, .null, .null, .null, .null, .null, .null, .null, .null] .null := Arv.set Ar33 qc33 S33 M33 U33 G33 rfl W33 5 rfl (Nat.le_of_ble_eq_true rfl)
  have k34 : Way p e below S0 T33 (mkF m 41 #[iv p1, .unset, .unset, .unset] [(.ref b2)]) := fun t k => k32 t (st33 _ k)
  have k35 : Way p e below S0 T33 (mkF m 44 #[iv p1, .unset, .unset, .unset] [(.int (6 : Int32)), (.ref b2), (.ref b2)]) := by
    intro t k
    refine k34 t ?_
    refine XS.dup X33.here hx rfl (hb hby at_41) rfl rfl ?_
    show Steps p.tables e below (T33.setTop (mkF m 42 #[iv p1, .unset, .unset, .unset] [(.ref b2), (.ref b2)])) _
    refine XS.bipush X33.here hx rfl (hb hby at_42) ?_
    show Steps p.tables e below (T33.setTop (mkF m 44 #[iv p1, .unset, .unset, .unset] [(.int (6 : Int32)), (.ref b2), (.ref b2)])) _
    exact k
  obtain ⟨T36, X36, e36, st36⟩ := getS2 X33 hx hZ hown (host := "") (Or.inl (hw _ (List.mem_of_getElem? (i := 16) rfl))) Via.refl e33 (S_w_ISO639.ext O33.2) (g := (mkF m 44 #[iv p1, .unset, .unset, .unset] [(.int (6 : Int32)), (.ref b2), (.ref b2)])) rfl (hb hby at_44)
  have k37 : Way p e below S0 T36 (mkF m 47 #[iv p1, .unset, .unset, .unset] [(.ref w_ISO639), (.int (6 : Int32)), (.ref b2), (.ref b2)]) := fun t k => k35 t (st36 _ k)
  obtain ⟨cl38, Ar38, qc38, S38, M38, U38, G38⟩ := va33
  have hin38 : ¬ ((6 : Int32) < 0 ∨ cl38.slots.size ≤ ((6 : Int32)).toNatClampNeg) := inb_of S38 ⟨by decide, by decide⟩
  obtain ⟨T38, h38, X38, e38, W38, st38⟩ := stR X36 hx hZ e36 Ar38 (j := (6 : Int32)) hin38 rfl (Sto.ofV Ar38 qc38 V2 (Ins.self (E_w_ISO639.ext O33.2))) (g := (mkF m 47 #[iv p1, .unset, .unset, .unset] [(.ref w_ISO639), (.int (6 : Int32)), (.ref b2), (.ref b2)])) rfl rfl (hb hby at_47)
  have O38 := O33.wr W38 ge8
  have N38 := Fr.snoc X38 N33 ge8
  have va38 : Arv Z h38 b2 c2 (.object "gradivo/spec/ValueKind") (16 : Int32) [(.ref w_TEXT), (.ref w_COMPOSITE), (.ref w_CLOSED_LIST), (.ref w_LISTED), (.ref w_URI), (.ref w_ISO3166_1_ALPHA2), (.ref w_ISO639), .null, .null, .null, .null, .null, .null, .null, .null, .null] .null := Arv.set Ar38 qc38 S38 M38 U38 G38 rfl W38 6 rfl (Nat.le_of_ble_eq_true rfl)
  have k39 : Way p e below S0 T38 (mkF m 48 #[iv p1, .unset, .unset, .unset] [(.ref b2)]) := fun t k => k37 t (st38 _ k)
  have k40 : Way p e below S0 T38 (mkF m 51 #[iv p1, .unset, .unset, .unset] [(.int (7 : Int32)), (.ref b2), (.ref b2)]) := by
    intro t k
    refine k39 t ?_
    refine XS.dup X38.here hx rfl (hb hby at_48) rfl rfl ?_
    show Steps p.tables e below (T38.setTop (mkF m 49 #[iv p1, .unset, .unset, .unset] [(.ref b2), (.ref b2)])) _
    refine XS.bipush X38.here hx rfl (hb hby at_49) ?_
    show Steps p.tables e below (T38.setTop (mkF m 51 #[iv p1, .unset, .unset, .unset] [(.int (7 : Int32)), (.ref b2), (.ref b2)])) _
    exact k
  obtain ⟨T41, X41, e41, st41⟩ := getS2 X38 hx hZ hown (host := "") (Or.inl (hw _ (List.mem_of_getElem? (i := 18) rfl))) Via.refl e38 (S_w_ISO15924.ext O38.2) (g := (mkF m 51 #[iv p1, .unset, .unset, .unset] [(.int (7 : Int32)), (.ref b2), (.ref b2)])) rfl (hb hby at_51)
  have k42 : Way p e below S0 T41 (mkF m 54 #[iv p1, .unset, .unset, .unset] [(.ref w_ISO15924), (.int (7 : Int32)), (.ref b2), (.ref b2)]) := fun t k => k40 t (st41 _ k)
  obtain ⟨cl43, Ar43, qc43, S43, M43, U43, G43⟩ := va38
  have hin43 : ¬ ((7 : Int32) < 0 ∨ cl43.slots.size ≤ ((7 : Int32)).toNatClampNeg) := inb_of S43 ⟨by decide, by decide⟩
  obtain ⟨T43, h43, X43, e43, W43, st43⟩ := stR X41 hx hZ e41 Ar43 (j := (7 : Int32)) hin43 rfl (Sto.ofV Ar43 qc43 V2 (Ins.self (E_w_ISO15924.ext O38.2))) (g := (mkF m 54 #[iv p1, .unset, .unset, .unset] [(.ref w_ISO15924), (.int (7 : Int32)), (.ref b2), (.ref b2)])) rfl rfl (hb hby at_54)
  have O43 := O38.wr W43 ge8
  have N43 := Fr.snoc X43 N38 ge8
  have va43 : Arv Z h43 b2 c2 (.object "gradivo/spec/ValueKind") (16 : Int32) [(.ref w_TEXT), (.ref w_COMPOSITE), (.ref w_CLOSED_LIST), (.ref w_LISTED), (.ref w_URI), (.ref w_ISO3166_1_ALPHA2), (.ref w_ISO639), (.ref w_ISO15924), .null, .null, .null, .null, .null, .null, .null, .null] .null := Arv.set Ar43 qc43 S43 M43 U43 G43 rfl W43 7 rfl (Nat.le_of_ble_eq_true rfl)
  have k44 : Way p e below S0 T43 (mkF m 55 #[iv p1, .unset, .unset, .unset] [(.ref b2)]) := fun t k => k42 t (st43 _ k)
  have k45 : Way p e below S0 T43 (mkF m 58 #[iv p1, .unset, .unset, .unset] [(.int (8 : Int32)), (.ref b2), (.ref b2)]) := by
    intro t k
    refine k44 t ?_
    refine XS.dup X43.here hx rfl (hb hby at_55) rfl rfl ?_
    show Steps p.tables e below (T43.setTop (mkF m 56 #[iv p1, .unset, .unset, .unset] [(.ref b2), (.ref b2)])) _
    refine XS.bipush X43.here hx rfl (hb hby at_56) ?_
    show Steps p.tables e below (T43.setTop (mkF m 58 #[iv p1, .unset, .unset, .unset] [(.int (8 : Int32)), (.ref b2), (.ref b2)])) _
    exact k
  obtain ⟨T46, X46, e46, st46⟩ := getS2 X43 hx hZ hown (host := "") (Or.inl (hw _ (List.mem_of_getElem? (i := 20) rfl))) Via.refl e43 (S_w_POSITIVE_NUMBER.ext O43.2) (g := (mkF m 58 #[iv p1, .unset, .unset, .unset] [(.int (8 : Int32)), (.ref b2), (.ref b2)])) rfl (hb hby at_58)
  have k47 : Way p e below S0 T46 (mkF m 61 #[iv p1, .unset, .unset, .unset] [(.ref w_POSITIVE_NUMBER), (.int (8 : Int32)), (.ref b2), (.ref b2)]) := fun t k => k45 t (st46 _ k)
  obtain ⟨cl48, Ar48, qc48, S48, M48, U48, G48⟩ := va43
  have hin48 : ¬ ((8 : Int32) < 0 ∨ cl48.slots.size ≤ ((8 : Int32)).toNatClampNeg) := inb_of S48 ⟨by decide, by decide⟩
  obtain ⟨T48, h48, X48, e48, W48, st48⟩ := stR X46 hx hZ e46 Ar48 (j := (8 : Int32)) hin48 rfl (Sto.ofV Ar48 qc48 V2 (Ins.self (E_w_POSITIVE_NUMBER.ext O43.2))) (g := (mkF m 61 #[iv p1, .unset, .unset, .unset] [(.ref w_POSITIVE_NUMBER), (.int (8 : Int32)), (.ref b2), (.ref b2)])) rfl rfl (hb hby at_61)
  have O48 := O43.wr W48 ge8
  have N48 := Fr.snoc X48 N43 ge8
  have va48 : Arv Z h48 b2 c2 (.object "gradivo/spec/ValueKind") (16 : Int32) [(.ref w_TEXT), (.ref w_COMPOSITE), (.ref w_CLOSED_LIST), (.ref w_LISTED), (.ref w_URI), (.ref w_ISO3166_1_ALPHA2), (.ref w_ISO639), (.ref w_ISO15924), (.ref w_POSITIVE_NUMBER), .null, .null, .null, .null, .null, .null, .null] .null := Arv.set Ar48 qc48 S48 M48 U48 G48 rfl W48 8 rfl (Nat.le_of_ble_eq_true rfl)
  have k49 : Way p e below S0 T48 (mkF m 62 #[iv p1, .unset, .unset, .unset] [(.ref b2)]) := fun t k => k47 t (st48 _ k)
  have k50 : Way p e below S0 T48 (mkF m 65 #[iv p1, .unset, .unset, .unset] [(.int (9 : Int32)), (.ref b2), (.ref b2)]) := by
    intro t k
    refine k49 t ?_
    refine XS.dup X48.here hx rfl (hb hby at_62) rfl rfl ?_
    show Steps p.tables e below (T48.setTop (mkF m 63 #[iv p1, .unset, .unset, .unset] [(.ref b2), (.ref b2)])) _
    refine XS.bipush X48.here hx rfl (hb hby at_63) ?_
    show Steps p.tables e below (T48.setTop (mkF m 65 #[iv p1, .unset, .unset, .unset] [(.int (9 : Int32)), (.ref b2), (.ref b2)])) _
    exact k
  obtain ⟨T51, X51, e51, st51⟩ := getS2 X48 hx hZ hown (host := "") (Or.inl (hw _ (List.mem_of_getElem? (i := 22) rfl))) Via.refl e48 (S_w_POSITIVE_INTEGER.ext O48.2) (g := (mkF m 65 #[iv p1, .unset, .unset, .unset] [(.int (9 : Int32)), (.ref b2), (.ref b2)])) rfl (hb hby at_65)
  have k52 : Way p e below S0 T51 (mkF m 68 #[iv p1, .unset, .unset, .unset] [(.ref w_POSITIVE_INTEGER), (.int (9 : Int32)), (.ref b2), (.ref b2)]) := fun t k => k50 t (st51 _ k)
  obtain ⟨cl53, Ar53, qc53, S53, M53, U53, G53⟩ := va48
  have hin53 : ¬ ((9 : Int32) < 0 ∨ cl53.slots.size ≤ ((9 : Int32)).toNatClampNeg) := inb_of S53 ⟨by decide, by decide⟩
  obtain ⟨T53, h53, X53, e53, W53, st53⟩ := stR X51 hx hZ e51 Ar53 (j := (9 : Int32)) hin53 rfl (Sto.ofV Ar53 qc53 V2 (Ins.self (E_w_POSITIVE_INTEGER.ext O48.2))) (g := (mkF m 68 #[iv p1, .unset, .unset, .unset] [(.ref w_POSITIVE_INTEGER), (.int (9 : Int32)), (.ref b2), (.ref b2)])) rfl rfl (hb hby at_68)
  have O53 := O48.wr W53 ge8
  have N53 := Fr.snoc X53 N48 ge8
  have va53 : Arv Z h53 b2 c2 (.object "gradivo/spec/ValueKind") (16 : Int32) [(.ref w_TEXT), (.ref w_COMPOSITE), (.ref w_CLOSED_LIST), (.ref w_LISTED), (.ref w_URI), (.ref w_ISO3166_1_ALPHA2), (.ref w_ISO639), (.ref w_ISO15924), (.ref w_POSITIVE_NUMBER), (.ref w_POSITIVE_INTEGER), .null, .null, .null, .null, .null, .null] .null := Arv.set Ar53 qc53 S53 M53 U53 G53 rfl W53 9 rfl (Nat.le_of_ble_eq_true rfl)
  have k54 : Way p e below S0 T53 (mkF m 69 #[iv p1, .unset, .unset, .unset] [(.ref b2)]) := fun t k => k52 t (st53 _ k)
  have k55 : Way p e below S0 T53 (mkF m 72 #[iv p1, .unset, .unset, .unset] [(.int (10 : Int32)), (.ref b2), (.ref b2)]) := by
    intro t k
    refine k54 t ?_
    refine XS.dup X53.here hx rfl (hb hby at_69) rfl rfl ?_
    show Steps p.tables e below (T53.setTop (mkF m 70 #[iv p1, .unset, .unset, .unset] [(.ref b2), (.ref b2)])) _
    refine XS.bipush X53.here hx rfl (hb hby at_70) ?_
    show Steps p.tables e below (T53.setTop (mkF m 72 #[iv p1, .unset, .unset, .unset] [(.int (10 : Int32)), (.ref b2), (.ref b2)])) _
    exact k
  obtain ⟨T56, X56, e56, st56⟩ := getS2 X53 hx hZ hown (host := "") (Or.inl (hw _ (List.mem_of_getElem? (i := 24) rfl))) Via.refl e53 (S_w_NONNEGATIVE_INTEGER.ext O53.2) (g := (mkF m 72 #[iv p1, .unset, .unset, .unset] [(.int (10 : Int32)), (.ref b2), (.ref b2)])) rfl (hb hby at_72)
  have k57 : Way p e below S0 T56 (mkF m 75 #[iv p1, .unset, .unset, .unset] [(.ref w_NONNEGATIVE_INTEGER), (.int (10 : Int32)), (.ref b2), (.ref b2)]) := fun t k => k55 t (st56 _ k)
  obtain ⟨cl58, Ar58, qc58, S58, M58, U58, G58⟩ := va53
  have hin58 : ¬ ((10 : Int32) < 0 ∨ cl58.slots.size ≤ ((10 : Int32)).toNatClampNeg) := inb_of S58 ⟨by decide, by decide⟩
  obtain ⟨T58, h58, X58, e58, W58, st58⟩ := stR X56 hx hZ e56 Ar58 (j := (10 : Int32)) hin58 rfl (Sto.ofV Ar58 qc58 V2 (Ins.self (E_w_NONNEGATIVE_INTEGER.ext O53.2))) (g := (mkF m 75 #[iv p1, .unset, .unset, .unset] [(.ref w_NONNEGATIVE_INTEGER), (.int (10 : Int32)), (.ref b2), (.ref b2)])) rfl rfl (hb hby at_75)
  have O58 := O53.wr W58 ge8
  have N58 := Fr.snoc X58 N53 ge8
  have va58 : Arv Z h58 b2 c2 (.object "gradivo/spec/ValueKind") (16 : Int32) [(.ref w_TEXT), (.ref w_COMPOSITE), (.ref w_CLOSED_LIST), (.ref w_LISTED), (.ref w_URI), (.ref w_ISO3166_1_ALPHA2), (.ref w_ISO639), (.ref w_ISO15924), (.ref w_POSITIVE_NUMBER), (.ref w_POSITIVE_INTEGER), (.ref w_NONNEGATIVE_INTEGER), .null, .null, .null, .null, .null] .null := Arv.set Ar58 qc58 S58 M58 U58 G58 rfl W58 10 rfl (Nat.le_of_ble_eq_true rfl)
  have k59 : Way p e below S0 T58 (mkF m 76 #[iv p1, .unset, .unset, .unset] [(.ref b2)]) := fun t k => k57 t (st58 _ k)
  have k60 : Way p e below S0 T58 (mkF m 79 #[iv p1, .unset, .unset, .unset] [(.int (11 : Int32)), (.ref b2), (.ref b2)]) := by
    intro t k
    refine k59 t ?_
    refine XS.dup X58.here hx rfl (hb hby at_76) rfl rfl ?_
    show Steps p.tables e below (T58.setTop (mkF m 77 #[iv p1, .unset, .unset, .unset] [(.ref b2), (.ref b2)])) _
    refine XS.bipush X58.here hx rfl (hb hby at_77) ?_
    show Steps p.tables e below (T58.setTop (mkF m 79 #[iv p1, .unset, .unset, .unset] [(.int (11 : Int32)), (.ref b2), (.ref b2)])) _
    exact k
  obtain ⟨T61, X61, e61, st61⟩ := getS2 X58 hx hZ hown (host := "") (Or.inl (hw _ (List.mem_of_getElem? (i := 26) rfl))) Via.refl e58 (S_w_ISO8601_DATE.ext O58.2) (g := (mkF m 79 #[iv p1, .unset, .unset, .unset] [(.int (11 : Int32)), (.ref b2), (.ref b2)])) rfl (hb hby at_79)
  have k62 : Way p e below S0 T61 (mkF m 82 #[iv p1, .unset, .unset, .unset] [(.ref w_ISO8601_DATE), (.int (11 : Int32)), (.ref b2), (.ref b2)]) := fun t k => k60 t (st61 _ k)
  obtain ⟨cl63, Ar63, qc63, S63, M63, U63, G63⟩ := va58
  have hin63 : ¬ ((11 : Int32) < 0 ∨ cl63.slots.size ≤ ((11 : Int32)).toNatClampNeg) := inb_of S63 ⟨by decide, by decide⟩
  obtain ⟨T63, h63, X63, e63, W63, st63⟩ := stR X61 hx hZ e61 Ar63 (j := (11 : Int32)) hin63 rfl (Sto.ofV Ar63 qc63 V2 (Ins.self (E_w_ISO8601_DATE.ext O58.2))) (g := (mkF m 82 #[iv p1, .unset, .unset, .unset] [(.ref w_ISO8601_DATE), (.int (11 : Int32)), (.ref b2), (.ref b2)])) rfl rfl (hb hby at_82)
  have O63 := O58.wr W63 ge8
  have N63 := Fr.snoc X63 N58 ge8
  have va63 : Arv Z h63 b2 c2 (.object "gradivo/spec/ValueKind") (16 : Int32) [(.ref w_TEXT), (.ref w_COMPOSITE), (.ref w_CLOSED_LIST), (.ref w_LISTED), (.ref w_URI), (.ref w_ISO3166_1_ALPHA2), (.ref w_ISO639), (.ref w_ISO15924), (.ref w_POSITIVE_NUMBER), (.ref w_POSITIVE_INTEGER), (.ref w_NONNEGATIVE_INTEGER), (.ref w_ISO8601_DATE), .null, .null, .null, .null] .null := Arv.set Ar63 qc63 S63 M63 U63 G63 rfl W63 11 rfl (Nat.le_of_ble_eq_true rfl)
  have k64 : Way p e below S0 T63 (mkF m 83 #[iv p1, .unset, .unset, .unset] [(.ref b2)]) := fun t k => k62 t (st63 _ k)
  have k65 : Way p e below S0 T63 (mkF m 86 #[iv p1, .unset, .unset, .unset] [(.int (12 : Int32)), (.ref b2), (.ref b2)]) := by
    intro t k
    refine k64 t ?_
    refine XS.dup X63.here hx rfl (hb hby at_83) rfl rfl ?_
    show Steps p.tables e below (T63.setTop (mkF m 84 #[iv p1, .unset, .unset, .unset] [(.ref b2), (.ref b2)])) _
    refine XS.bipush X63.here hx rfl (hb hby at_84) ?_
    show Steps p.tables e below (T63.setTop (mkF m 86 #[iv p1, .unset, .unset, .unset] [(.int (12 : Int32)), (.ref b2), (.ref b2)])) _
    exact k
  obtain ⟨T66, X66, e66, st66⟩ := getS2 X63 hx hZ hown (host := "") (Or.inl (hw _ (List.mem_of_getElem? (i := 28) rfl))) Via.refl e63 (S_w_DIGEST.ext O63.2) (g := (mkF m 86 #[iv p1, .unset, .unset, .unset] [(.int (12 : Int32)), (.ref b2), (.ref b2)])) rfl (hb hby at_86)
  have k67 : Way p e below S0 T66 (mkF m 89 #[iv p1, .unset, .unset, .unset] [(.ref w_DIGEST), (.int (12 : Int32)), (.ref b2), (.ref b2)]) := fun t k => k65 t (st66 _ k)
  obtain ⟨cl68, Ar68, qc68, S68, M68, U68, G68⟩ := va63
  have hin68 : ¬ ((12 : Int32) < 0 ∨ cl68.slots.size ≤ ((12 : Int32)).toNatClampNeg) := inb_of S68 ⟨by decide, by decide⟩
  obtain ⟨T68, h68, X68, e68, W68, st68⟩ := stR X66 hx hZ e66 Ar68 (j := (12 : Int32)) hin68 rfl (Sto.ofV Ar68 qc68 V2 (Ins.self (E_w_DIGEST.ext O63.2))) (g := (mkF m 89 #[iv p1, .unset, .unset, .unset] [(.ref w_DIGEST), (.int (12 : Int32)), (.ref b2), (.ref b2)])) rfl rfl (hb hby at_89)
  have O68 := O63.wr W68 ge8
  have N68 := Fr.snoc X68 N63 ge8
  have va68 : Arv Z h68 b2 c2 (.object "gradivo/spec/ValueKind") (16 : Int32) [(.ref w_TEXT), (.ref w_COMPOSITE), (.ref w_CLOSED_LIST), (.ref w_LISTED), (.ref w_URI), (.ref w_ISO3166_1_ALPHA2), (.ref w_ISO639), (.ref w_ISO15924), (.ref w_POSITIVE_NUMBER), (.ref w_POSITIVE_INTEGER), (.ref w_NONNEGATIVE_INTEGER), (.ref w_ISO8601_DATE), (.ref w_DIGEST), .null, .null, .null] .null := Arv.set Ar68 qc68 S68 M68 U68 G68 rfl W68 12 rfl (Nat.le_of_ble_eq_true rfl)
  have k69 : Way p e below S0 T68 (mkF m 90 #[iv p1, .unset, .unset, .unset] [(.ref b2)]) := fun t k => k67 t (st68 _ k)
  have k70 : Way p e below S0 T68 (mkF m 93 #[iv p1, .unset, .unset, .unset] [(.int (13 : Int32)), (.ref b2), (.ref b2)]) := by
    intro t k
    refine k69 t ?_
    refine XS.dup X68.here hx rfl (hb hby at_90) rfl rfl ?_
    show Steps p.tables e below (T68.setTop (mkF m 91 #[iv p1, .unset, .unset, .unset] [(.ref b2), (.ref b2)])) _
    refine XS.bipush X68.here hx rfl (hb hby at_91) ?_
    show Steps p.tables e below (T68.setTop (mkF m 93 #[iv p1, .unset, .unset, .unset] [(.int (13 : Int32)), (.ref b2), (.ref b2)])) _
    exact k
  obtain ⟨T71, X71, e71, st71⟩ := getS2 X68 hx hZ hown (host := "") (Or.inl (hw _ (List.mem_of_getElem? (i := 30) rfl))) Via.refl e68 (S_w_PER_TIME_STANDARD.ext O68.2) (g := (mkF m 93 #[iv p1, .unset, .unset, .unset] [(.int (13 : Int32)), (.ref b2), (.ref b2)])) rfl (hb hby at_93)
  have k72 : Way p e below S0 T71 (mkF m 96 #[iv p1, .unset, .unset, .unset] [(.ref w_PER_TIME_STANDARD), (.int (13 : Int32)), (.ref b2), (.ref b2)]) := fun t k => k70 t (st71 _ k)
  obtain ⟨cl73, Ar73, qc73, S73, M73, U73, G73⟩ := va68
  have hin73 : ¬ ((13 : Int32) < 0 ∨ cl73.slots.size ≤ ((13 : Int32)).toNatClampNeg) := inb_of S73 ⟨by decide, by decide⟩
  obtain ⟨T73, h73, X73, e73, W73, st73⟩ := stR X71 hx hZ e71 Ar73 (j := (13 : Int32)) hin73 rfl (Sto.ofV Ar73 qc73 V2 (Ins.self (E_w_PER_TIME_STANDARD.ext O68.2))) (g := (mkF m 96 #[iv p1, .unset, .unset, .unset] [(.ref w_PER_TIME_STANDARD), (.int (13 : Int32)), (.ref b2), (.ref b2)])) rfl rfl (hb hby at_96)
  have O73 := O68.wr W73 ge8
  have N73 := Fr.snoc X73 N68 ge8
  have va73 : Arv Z h73 b2 c2 (.object "gradivo/spec/ValueKind") (16 : Int32) [(.ref w_TEXT), (.ref w_COMPOSITE), (.ref w_CLOSED_LIST), (.ref w_LISTED), (.ref w_URI), (.ref w_ISO3166_1_ALPHA2), (.ref w_ISO639), (.ref w_ISO15924), (.ref w_POSITIVE_NUMBER), (.ref w_POSITIVE_INTEGER), (.ref w_NONNEGATIVE_INTEGER), (.ref w_ISO8601_DATE), (.ref w_DIGEST), (.ref w_PER_TIME_STANDARD), .null, .null] .null := Arv.set Ar73 qc73 S73 M73 U73 G73 rfl W73 13 rfl (Nat.le_of_ble_eq_true rfl)
  have k74 : Way p e below S0 T73 (mkF m 97 #[iv p1, .unset, .unset, .unset] [(.ref b2)]) := fun t k => k72 t (st73 _ k)
  have k75 : Way p e below S0 T73 (mkF m 100 #[iv p1, .unset, .unset, .unset] [(.int (14 : Int32)), (.ref b2), (.ref b2)]) := by
    intro t k
    refine k74 t ?_
    refine XS.dup X73.here hx rfl (hb hby at_97) rfl rfl ?_
    show Steps p.tables e below (T73.setTop (mkF m 98 #[iv p1, .unset, .unset, .unset] [(.ref b2), (.ref b2)])) _
    refine XS.bipush X73.here hx rfl (hb hby at_98) ?_
    show Steps p.tables e below (T73.setTop (mkF m 100 #[iv p1, .unset, .unset, .unset] [(.int (14 : Int32)), (.ref b2), (.ref b2)])) _
    exact k
  obtain ⟨T76, X76, e76, st76⟩ := getS2 X73 hx hZ hown (host := "") (Or.inl (hw _ (List.mem_of_getElem? (i := 32) rfl))) Via.refl e73 (S_w_PER_COORDINATE_SYSTEM.ext O73.2) (g := (mkF m 100 #[iv p1, .unset, .unset, .unset] [(.int (14 : Int32)), (.ref b2), (.ref b2)])) rfl (hb hby at_100)
  have k77 : Way p e below S0 T76 (mkF m 103 #[iv p1, .unset, .unset, .unset] [(.ref w_PER_COORDINATE_SYSTEM), (.int (14 : Int32)), (.ref b2), (.ref b2)]) := fun t k => k75 t (st76 _ k)
  obtain ⟨cl78, Ar78, qc78, S78, M78, U78, G78⟩ := va73
  have hin78 : ¬ ((14 : Int32) < 0 ∨ cl78.slots.size ≤ ((14 : Int32)).toNatClampNeg) := inb_of S78 ⟨by decide, by decide⟩
  obtain ⟨T78, h78, X78, e78, W78, st78⟩ := stR X76 hx hZ e76 Ar78 (j := (14 : Int32)) hin78 rfl (Sto.ofV Ar78 qc78 V2 (Ins.self (E_w_PER_COORDINATE_SYSTEM.ext O73.2))) (g := (mkF m 103 #[iv p1, .unset, .unset, .unset] [(.ref w_PER_COORDINATE_SYSTEM), (.int (14 : Int32)), (.ref b2), (.ref b2)])) rfl rfl (hb hby at_103)
  have O78 := O73.wr W78 ge8
  have N78 := Fr.snoc X78 N73 ge8
  have va78 : Arv Z h78 b2 c2 (.object "gradivo/spec/ValueKind") (16 : Int32) [(.ref w_TEXT), (.ref w_COMPOSITE), (.ref w_CLOSED_LIST), (.ref w_LISTED), (.ref w_URI), (.ref w_ISO3166_1_ALPHA2), (.ref w_ISO639), (.ref w_ISO15924), (.ref w_POSITIVE_NUMBER), (.ref w_POSITIVE_INTEGER), (.ref w_NONNEGATIVE_INTEGER), (.ref w_ISO8601_DATE), (.ref w_DIGEST), (.ref w_PER_TIME_STANDARD), (.ref w_PER_COORDINATE_SYSTEM), .null] .null := Arv.set Ar78 qc78 S78 M78 U78 G78 rfl W78 14 rfl (Nat.le_of_ble_eq_true rfl)
  have k79 : Way p e below S0 T78 (mkF m 104 #[iv p1, .unset, .unset, .unset] [(.ref b2)]) := fun t k => k77 t (st78 _ k)
  have k80 : Way p e below S0 T78 (mkF m 107 #[iv p1, .unset, .unset, .unset] [(.int (15 : Int32)), (.ref b2), (.ref b2)]) := by
    intro t k
    refine k79 t ?_
    refine XS.dup X78.here hx rfl (hb hby at_104) rfl rfl ?_
    show Steps p.tables e below (T78.setTop (mkF m 105 #[iv p1, .unset, .unset, .unset] [(.ref b2), (.ref b2)])) _
    refine XS.bipush X78.here hx rfl (hb hby at_105) ?_
    show Steps p.tables e below (T78.setTop (mkF m 107 #[iv p1, .unset, .unset, .unset] [(.int (15 : Int32)), (.ref b2), (.ref b2)])) _
    exact k
  obtain ⟨T81, X81, e81, st81⟩ := getS2 X78 hx hZ hown (host := "") (Or.inl (hw _ (List.mem_of_getElem? (i := 34) rfl))) Via.refl e78 (S_w_TIME_SPAN.ext O78.2) (g := (mkF m 107 #[iv p1, .unset, .unset, .unset] [(.int (15 : Int32)), (.ref b2), (.ref b2)])) rfl (hb hby at_107)
  have k82 : Way p e below S0 T81 (mkF m 110 #[iv p1, .unset, .unset, .unset] [(.ref w_TIME_SPAN), (.int (15 : Int32)), (.ref b2), (.ref b2)]) := fun t k => k80 t (st81 _ k)
  obtain ⟨cl83, Ar83, qc83, S83, M83, U83, G83⟩ := va78
  have hin83 : ¬ ((15 : Int32) < 0 ∨ cl83.slots.size ≤ ((15 : Int32)).toNatClampNeg) := inb_of S83 ⟨by decide, by decide⟩
  obtain ⟨T83, h83, X83, e83, W83, st83⟩ := stR X81 hx hZ e81 Ar83 (j := (15 : Int32)) hin83 rfl (Sto.ofV Ar83 qc83 V2 (Ins.self (E_w_TIME_SPAN.ext O78.2))) (g := (mkF m 110 #[iv p1, .unset, .unset, .unset] [(.ref w_TIME_SPAN), (.int (15 : Int32)), (.ref b2), (.ref b2)])) rfl rfl (hb hby at_110)
  have O83 := O78.wr W83 ge8
  have N83 := Fr.snoc X83 N78 ge8
  have va83 : Arv Z h83 b2 c2 (.object "gradivo/spec/ValueKind") (16 : Int32) [(.ref w_TEXT), (.ref w_COMPOSITE), (.ref w_CLOSED_LIST), (.ref w_LISTED), (.ref w_URI), (.ref w_ISO3166_1_ALPHA2), (.ref w_ISO639), (.ref w_ISO15924), (.ref w_POSITIVE_NUMBER), (.ref w_POSITIVE_INTEGER), (.ref w_NONNEGATIVE_INTEGER), (.ref w_ISO8601_DATE), (.ref w_DIGEST), (.ref w_PER_TIME_STANDARD), (.ref w_PER_COORDINATE_SYSTEM), (.ref w_TIME_SPAN)] .null := Arv.set Ar83 qc83 S83 M83 U83 G83 rfl W83 15 rfl (Nat.le_of_ble_eq_true rfl)
  have k84 : Way p e below S0 T83 (mkF m 111 #[iv p1, .unset, .unset, .unset] [(.ref b2)]) := fun t k => k82 t (st83 _ k)
  have k85 : Way p e below S0 T83 (mkF m 120 #[iv p1, rv b2, iv ((p1 &&& (2147483647 : Int32)) % (16 : Int32)), .unset] []) := by
    intro t k
    refine k84 t ?_
    refine XS.astoreN X83.here hx rfl (hb hby at_111) rfl rfl (l' := #[iv p1, rv b2, .unset, .unset]) rfl ?_
    show Steps p.tables e below (T83.setTop (mkF m 112 #[iv p1, rv b2, .unset, .unset] [])) _
    refine XS.iloadN X83.here hx rfl (hb hby at_112) rfl ?_
    show Steps p.tables e below (T83.setTop (mkF m 113 #[iv p1, rv b2, .unset, .unset] [(.int p1)])) _
    refine X83.ldcInt hx hown (mvT hZ (hw _ (List.mem_of_getElem? (i := 36) rfl))) (g := (mkF m 113 #[iv p1, rv b2, .unset, .unset] [(.int p1)])) rfl (hb hby at_113) _ ?_
    show Steps p.tables e below (T83.setTop (mkF m 115 #[iv p1, rv b2, .unset, .unset] [(.int (2147483647 : Int32)), (.int p1)])) _
    refine XS.iand X83.here hx rfl (hb hby at_115) rfl ?_
    show Steps p.tables e below (T83.setTop (mkF m 116 #[iv p1, rv b2, .unset, .unset] [(.int (p1 &&& (2147483647 : Int32)))])) _
    refine XS.bipush X83.here hx rfl (hb hby at_116) ?_
    show Steps p.tables e below (T83.setTop (mkF m 118 #[iv p1, rv b2, .unset, .unset] [(.int (16 : Int32)), (.int (p1 &&& (2147483647 : Int32)))])) _
    refine iremM (g := (mkF m 118 #[iv p1, rv b2, .unset, .unset] [(.int (16 : Int32)), (.int (p1 &&& (2147483647 : Int32)))])) X83 hx rfl (hb hby at_118) rfl (by decide) ?_
    show Steps p.tables e below (T83.setTop (mkF m 119 #[iv p1, rv b2, .unset, .unset] [(.int ((p1 &&& (2147483647 : Int32)) % (16 : Int32)))])) _
    refine XS.istoreN X83.here hx rfl (hb hby at_119) rfl (l' := #[iv p1, rv b2, iv ((p1 &&& (2147483647 : Int32)) % (16 : Int32)), .unset]) rfl ?_
    show Steps p.tables e below (T83.setTop (mkF m 120 #[iv p1, rv b2, iv ((p1 &&& (2147483647 : Int32)) % (16 : Int32)), .unset] [])) _
    exact k
  have hr86 : ((p1 &&& (2147483647 : Int32)) % (16 : Int32)) = (0 : Int32) ∨ ((p1 &&& (2147483647 : Int32)) % (16 : Int32)) = (1 : Int32) ∨ ((p1 &&& (2147483647 : Int32)) % (16 : Int32)) = (2 : Int32) ∨ ((p1 &&& (2147483647 : Int32)) % (16 : Int32)) = (3 : Int32) ∨ ((p1 &&& (2147483647 : Int32)) % (16 : Int32)) = (4 : Int32) ∨ ((p1 &&& (2147483647 : Int32)) % (16 : Int32)) = (5 : Int32) ∨ ((p1 &&& (2147483647 : Int32)) % (16 : Int32)) = (6 : Int32) ∨ ((p1 &&& (2147483647 : Int32)) % (16 : Int32)) = (7 : Int32) ∨ ((p1 &&& (2147483647 : Int32)) % (16 : Int32)) = (8 : Int32) ∨ ((p1 &&& (2147483647 : Int32)) % (16 : Int32)) = (9 : Int32) ∨ ((p1 &&& (2147483647 : Int32)) % (16 : Int32)) = (10 : Int32) ∨ ((p1 &&& (2147483647 : Int32)) % (16 : Int32)) = (11 : Int32) ∨ ((p1 &&& (2147483647 : Int32)) % (16 : Int32)) = (12 : Int32) ∨ ((p1 &&& (2147483647 : Int32)) % (16 : Int32)) = (13 : Int32) ∨ ((p1 &&& (2147483647 : Int32)) % (16 : Int32)) = (14 : Int32) ∨ ((p1 &&& (2147483647 : Int32)) % (16 : Int32)) = (15 : Int32) := own_rem16 p1
  rcases hr86 with hi86 | hi86 | hi86 | hi86 | hi86 | hi86 | hi86 | hi86 | hi86 | hi86 | hi86 | hi86 | hi86 | hi86 | hi86 | hi86
  · have k87 : Way p e below S0 T83 (mkF m 120 #[iv p1, rv b2, iv (0 : Int32), .unset] []) := by have q := k85; rw [hi86] at q; exact q
    have k88 : Way p e below S0 T83 (mkF m 138 #[iv p1, rv b2, iv (0 : Int32), iv (0 : Int32)] [(.int (0 : Int32)), (.ref b2)]) := by
      intro t k
      refine k87 t ?_
      refine XS.iloadN X83.here hx rfl (hb hby at_120) rfl ?_
      show Steps p.tables e below (T83.setTop (mkF m 121 #[iv p1, rv b2, iv (0 : Int32), .unset] [(.int (0 : Int32))])) _
      refine XS.iconst X83.here hx rfl (hb hby at_121) ?_
      show Steps p.tables e below (T83.setTop (mkF m 122 #[iv p1, rv b2, iv (0 : Int32), .unset] [(.int (2 : Int32)), (.int (0 : Int32))])) _
      refine XS.icmpNo X83.here hx rfl (hb hby at_122) rfl (feq ((by decide) : ¬ ((0 : Int32) = (2 : Int32)))).1 ?_
      show Steps p.tables e below (T83.setTop (mkF m 125 #[iv p1, rv b2, iv (0 : Int32), .unset] [])) _
      refine XS.iloadN X83.here hx rfl (hb hby at_125) rfl ?_
      show Steps p.tables e below (T83.setTop (mkF m 126 #[iv p1, rv b2, iv (0 : Int32), .unset] [(.int (0 : Int32))])) _
      refine XS.iconst X83.here hx rfl (hb hby at_126) ?_
      show Steps p.tables e below (T83.setTop (mkF m 127 #[iv p1, rv b2, iv (0 : Int32), .unset] [(.int (3 : Int32)), (.int (0 : Int32))])) _
      refine XS.icmpYes X83.here hx rfl (pc0 := 127) (pc' := 134) rfl (hb hby at_127) rfl (feq ((by decide) : ¬ ((0 : Int32) = (3 : Int32)))).2 (by decide) (by decide) ?_
      show Steps p.tables e below (T83.setTop (mkF m 134 #[iv p1, rv b2, iv (0 : Int32), .unset] [])) _
      refine XS.iconst X83.here hx rfl (hb hby at_134) ?_
      show Steps p.tables e below (T83.setTop (mkF m 135 #[iv p1, rv b2, iv (0 : Int32), .unset] [(.int (0 : Int32))])) _
      refine XS.istoreN X83.here hx rfl (hb hby at_135) rfl (l' := #[iv p1, rv b2, iv (0 : Int32), iv (0 : Int32)]) rfl ?_
      show Steps p.tables e below (T83.setTop (mkF m 136 #[iv p1, rv b2, iv (0 : Int32), iv (0 : Int32)] [])) _
      refine XS.aloadN X83.here hx rfl (hb hby at_136) rfl rfl ?_
      show Steps p.tables e below (T83.setTop (mkF m 137 #[iv p1, rv b2, iv (0 : Int32), iv (0 : Int32)] [(.ref b2)])) _
      refine XS.iloadN X83.here hx rfl (hb hby at_137) rfl ?_
      show Steps p.tables e below (T83.setTop (mkF m 138 #[iv p1, rv b2, iv (0 : Int32), iv (0 : Int32)] [(.int (0 : Int32)), (.ref b2)])) _
      exact k
    obtain ⟨cl89, Ar89, qc89, S89, M89, U89, G89⟩ := va83
    have hin89 : ¬ ((0 : Int32) < 0 ∨ cl89.slots.size ≤ ((0 : Int32)).toNatClampNeg) := inb_of S89 ⟨by decide, by decide⟩
    have hat89 : cl89.slots[((0 : Int32)).toNatClampNeg]? = some (.ref w_TEXT) := Has.at U89 hin89 rfl
    have k90 : Way p e below S0 T83 (mkF m 139 #[iv p1, rv b2, iv (0 : Int32), iv (0 : Int32)] [(.ref w_TEXT)]) := fun t k => k88 t (X83.aaload hx (j := (0 : Int32)) (v := (.ref w_TEXT)) (by rw [e83]; exact Ar89.1) (State.isArrayOf_alike hZ.alike Ar89.2.1) rfl Ar89.2.2 hin89 hat89 (g := (mkF m 138 #[iv p1, rv b2, iv (0 : Int32), iv (0 : Int32)] [(.int (0 : Int32)), (.ref b2)])) rfl rfl (hb hby at_138) _ k)
    obtain ⟨cq91, kq91, qq91a, qq91b, qq91c⟩ := isOf hZ e83 (E_w_TEXT.ext O83.2)
    obtain ⟨_, _, ⟨T91, L91, kk91, nn91⟩, -, X91, ⟨Lc91, hQ91, l91, y91, z91⟩, st91⟩ := X83.virtualBack hx (y := (⟨"gradivo/spec/ValueKind", "isList", "()Z"⟩ : MethodName)) (z := (⟨"gradivo/spec/ValueKind", "isList", "()Z"⟩ : MethodName)) hown (mvT hZ (hw _ (List.mem_of_getElem? (i := 37) rfl))) (mvT hZ (hw _ (List.mem_of_getElem? (i := 38) rfl))) (notFace_of_selects (args := #[]) (mvT hZ (hw _ (List.mem_of_getElem? (i := 40) rfl)))) (mvT hZ (hw _ (List.mem_of_getElem? (i := 40) rfl))) (mvT hZ (hw _ (List.mem_of_getElem? (i := 39) rfl))) (by decide) (backOf (W := 0) (isl0 l Z a0 hw [] w_TEXT w_COMPOSITE w_CLOSED_LIST w_LISTED w_URI w_ISO3166_1_ALPHA2 w_ISO639 w_ISO15924 w_POSITIVE_NUMBER w_POSITIVE_INTEGER w_NONNEGATIVE_INTEGER w_ISO8601_DATE w_DIGEST w_PER_TIME_STANDARD w_PER_COORDINATE_SYSTEM w_TIME_SPAN G  h83 n0 O83 ) hZ (hw _ (List.mem_of_getElem? (i := 41) rfl)) (hw _ (List.mem_of_getElem? (i := 3) rfl)) (by decide) (by decide)) qq91a qq91c (g := (mkF m 139 #[iv p1, rv b2, iv (0 : Int32), iv (0 : Int32)] [(.ref w_TEXT)])) rfl (by rw [hml]; rfl) (Steps.refl _) (argsL := []) (rest := []) (lenOf pd_0 rfl) rfl (by show 2 * 0 + _ ≤ _; exact Nat.le_of_eq rfl) (hb hby at_139) (fun _ _ => ⟨rfl, e83, (by decide : 1 + 0 ≤ _), (by decide : 16 + 0 ≤ _)⟩)
    dsimp only [Pt.U, Pt.locs, Pt.cells, Pt.slots] at X91 l91 y91 z91 st91 hQ91
    subst l91 y91 z91
    obtain ⟨rfl, Nq91, e91⟩ := hQ91
    have N91 := Fr.app N83 Nq91
    have k92 : Way p e below S0 T91 (mkF m 142 #[iv p1, rv b2, iv (0 : Int32), iv (0 : Int32)] [(.int (0 : Int32))]) := fun t k => k90 t (st91.trans k)
    have k93 : Way p e below S0 T91 (mkF m 151 #[iv p1, rv b2, iv (0 : Int32), iv (0 : Int32)] [(.int (1 : Int32))]) := by
      intro t k
      refine k92 t ?_
      refine XS.iloadN X91.here hx rfl (hb hby at_142) rfl ?_
      show Steps p.tables e below (T91.setTop (mkF m 143 #[iv p1, rv b2, iv (0 : Int32), iv (0 : Int32)] [(.int (0 : Int32)), (.int (0 : Int32))])) _
      refine XS.icmpNo X91.here hx rfl (hb hby at_143) rfl (teq ((by decide) : (0 : Int32) = (0 : Int32))).2 ?_
      show Steps p.tables e below (T91.setTop (mkF m 146 #[iv p1, rv b2, iv (0 : Int32), iv (0 : Int32)] [])) _
      refine XS.iconst X91.here hx rfl (hb hby at_146) ?_
      show Steps p.tables e below (T91.setTop (mkF m 147 #[iv p1, rv b2, iv (0 : Int32), iv (0 : Int32)] [(.int (1 : Int32))])) _
      refine XS.goto X91.here hx rfl (pc0 := 147) (pc' := 151) rfl (hb hby at_147) (by decide) (by decide) ?_
      show Steps p.tables e below (T91.setTop (mkF m 151 #[iv p1, rv b2, iv (0 : Int32), iv (0 : Int32)] [(.int (1 : Int32))])) _
      exact k
    obtain ⟨fs, hr, hrun, hended, hW, hsame⟩ := X91.leave (v := some (.int (1 : Int32))) (fun h => by rw [Bd.returns] at h; cases h)
    refine ⟨_, _, k93 _ (retN X91 hx (t := .boolean) Bd.returns (by simp) (hb hby at_151) hr), hrun, hended, _, _, rfl, ?_, ⟨_, rfl⟩, hW, hsame.mono (by decide) (by decide)⟩
    show Q_law_met Z w_TEXT w_COMPOSITE w_CLOSED_LIST w_LISTED w_URI w_ISO3166_1_ALPHA2 w_ISO639 w_ISO15924 w_POSITIVE_NUMBER w_POSITIVE_INTEGER w_NONNEGATIVE_INTEGER w_ISO8601_DATE w_DIGEST w_PER_TIME_STANDARD w_PER_COORDINATE_SYSTEM w_TIME_SPAN p1 h0 n0 _ T91.heap _
    rw [e91]
    exact ⟨rfl, N91⟩
  · have k94 : Way p e below S0 T83 (mkF m 120 #[iv p1, rv b2, iv (1 : Int32), .unset] []) := by have q := k85; rw [hi86] at q; exact q
    have k95 : Way p e below S0 T83 (mkF m 138 #[iv p1, rv b2, iv (1 : Int32), iv (0 : Int32)] [(.int (1 : Int32)), (.ref b2)]) := by
      intro t k
      refine k94 t ?_
      refine XS.iloadN X83.here hx rfl (hb hby at_120) rfl ?_
      show Steps p.tables e below (T83.setTop (mkF m 121 #[iv p1, rv b2, iv (1 : Int32), .unset] [(.int (1 : Int32))])) _
      refine XS.iconst X83.here hx rfl (hb hby at_121) ?_
      show Steps p.tables e below (T83.setTop (mkF m 122 #[iv p1, rv b2, iv (1 : Int32), .unset] [(.int (2 : Int32)), (.int (1 : Int32))])) _
      refine XS.icmpNo X83.here hx rfl (hb hby at_122) rfl (feq ((by decide) : ¬ ((1 : Int32) = (2 : Int32)))).1 ?_
      show Steps p.tables e below (T83.setTop (mkF m 125 #[iv p1, rv b2, iv (1 : Int32), .unset] [])) _
      refine XS.iloadN X83.here hx rfl (hb hby at_125) rfl ?_
      show Steps p.tables e below (T83.setTop (mkF m 126 #[iv p1, rv b2, iv (1 : Int32), .unset] [(.int (1 : Int32))])) _
      refine XS.iconst X83.here hx rfl (hb hby at_126) ?_
      show Steps p.tables e below (T83.setTop (mkF m 127 #[iv p1, rv b2, iv (1 : Int32), .unset] [(.int (3 : Int32)), (.int (1 : Int32))])) _
      refine XS.icmpYes X83.here hx rfl (pc0 := 127) (pc' := 134) rfl (hb hby at_127) rfl (feq ((by decide) : ¬ ((1 : Int32) = (3 : Int32)))).2 (by decide) (by decide) ?_
      show Steps p.tables e below (T83.setTop (mkF m 134 #[iv p1, rv b2, iv (1 : Int32), .unset] [])) _
      refine XS.iconst X83.here hx rfl (hb hby at_134) ?_
      show Steps p.tables e below (T83.setTop (mkF m 135 #[iv p1, rv b2, iv (1 : Int32), .unset] [(.int (0 : Int32))])) _
      refine XS.istoreN X83.here hx rfl (hb hby at_135) rfl (l' := #[iv p1, rv b2, iv (1 : Int32), iv (0 : Int32)]) rfl ?_
      show Steps p.tables e below (T83.setTop (mkF m 136 #[iv p1, rv b2, iv (1 : Int32), iv (0 : Int32)] [])) _
      refine XS.aloadN X83.here hx rfl (hb hby at_136) rfl rfl ?_
      show Steps p.tables e below (T83.setTop (mkF m 137 #[iv p1, rv b2, iv (1 : Int32), iv (0 : Int32)] [(.ref b2)])) _
      refine XS.iloadN X83.here hx rfl (hb hby at_137) rfl ?_
      show Steps p.tables e below (T83.setTop (mkF m 138 #[iv p1, rv b2, iv (1 : Int32), iv (0 : Int32)] [(.int (1 : Int32)), (.ref b2)])) _
      exact k
    obtain ⟨cl96, Ar96, qc96, S96, M96, U96, G96⟩ := va83
    have hin96 : ¬ ((1 : Int32) < 0 ∨ cl96.slots.size ≤ ((1 : Int32)).toNatClampNeg) := inb_of S96 ⟨by decide, by decide⟩
    have hat96 : cl96.slots[((1 : Int32)).toNatClampNeg]? = some (.ref w_COMPOSITE) := Has.at U96 hin96 rfl
    have k97 : Way p e below S0 T83 (mkF m 139 #[iv p1, rv b2, iv (1 : Int32), iv (0 : Int32)] [(.ref w_COMPOSITE)]) := fun t k => k95 t (X83.aaload hx (j := (1 : Int32)) (v := (.ref w_COMPOSITE)) (by rw [e83]; exact Ar96.1) (State.isArrayOf_alike hZ.alike Ar96.2.1) rfl Ar96.2.2 hin96 hat96 (g := (mkF m 138 #[iv p1, rv b2, iv (1 : Int32), iv (0 : Int32)] [(.int (1 : Int32)), (.ref b2)])) rfl rfl (hb hby at_138) _ k)
    obtain ⟨cq98, kq98, qq98a, qq98b, qq98c⟩ := isOf hZ e83 (E_w_COMPOSITE.ext O83.2)
    obtain ⟨_, _, ⟨T98, L98, kk98, nn98⟩, -, X98, ⟨Lc98, hQ98, l98, y98, z98⟩, st98⟩ := X83.virtualBack hx (y := (⟨"gradivo/spec/ValueKind", "isList", "()Z"⟩ : MethodName)) (z := (⟨"gradivo/spec/ValueKind", "isList", "()Z"⟩ : MethodName)) hown (mvT hZ (hw _ (List.mem_of_getElem? (i := 37) rfl))) (mvT hZ (hw _ (List.mem_of_getElem? (i := 38) rfl))) (notFace_of_selects (args := #[]) (mvT hZ (hw _ (List.mem_of_getElem? (i := 40) rfl)))) (mvT hZ (hw _ (List.mem_of_getElem? (i := 40) rfl))) (mvT hZ (hw _ (List.mem_of_getElem? (i := 39) rfl))) (by decide) (backOf (W := 0) (isl1 l Z a0 hw [] w_TEXT w_COMPOSITE w_CLOSED_LIST w_LISTED w_URI w_ISO3166_1_ALPHA2 w_ISO639 w_ISO15924 w_POSITIVE_NUMBER w_POSITIVE_INTEGER w_NONNEGATIVE_INTEGER w_ISO8601_DATE w_DIGEST w_PER_TIME_STANDARD w_PER_COORDINATE_SYSTEM w_TIME_SPAN G  h83 n0 O83 ) hZ (hw _ (List.mem_of_getElem? (i := 41) rfl)) (hw _ (List.mem_of_getElem? (i := 3) rfl)) (by decide) (by decide)) qq98a qq98c (g := (mkF m 139 #[iv p1, rv b2, iv (1 : Int32), iv (0 : Int32)] [(.ref w_COMPOSITE)])) rfl (by rw [hml]; rfl) (Steps.refl _) (argsL := []) (rest := []) (lenOf pd_0 rfl) rfl (by show 2 * 0 + _ ≤ _; exact Nat.le_of_eq rfl) (hb hby at_139) (fun _ _ => ⟨rfl, e83, (by decide : 1 + 0 ≤ _), (by decide : 16 + 0 ≤ _)⟩)
    dsimp only [Pt.U, Pt.locs, Pt.cells, Pt.slots] at X98 l98 y98 z98 st98 hQ98
    subst l98 y98 z98
    obtain ⟨rfl, Nq98, e98⟩ := hQ98
    have N98 := Fr.app N83 Nq98
    have k99 : Way p e below S0 T98 (mkF m 142 #[iv p1, rv b2, iv (1 : Int32), iv (0 : Int32)] [(.int (0 : Int32))]) := fun t k => k97 t (st98.trans k)
    have k100 : Way p e below S0 T98 (mkF m 151 #[iv p1, rv b2, iv (1 : Int32), iv (0 : Int32)] [(.int (1 : Int32))]) := by
      intro t k
      refine k99 t ?_
      refine XS.iloadN X98.here hx rfl (hb hby at_142) rfl ?_
      show Steps p.tables e below (T98.setTop (mkF m 143 #[iv p1, rv b2, iv (1 : Int32), iv (0 : Int32)] [(.int (0 : Int32)), (.int (0 : Int32))])) _
      refine XS.icmpNo X98.here hx rfl (hb hby at_143) rfl (teq ((by decide) : (0 : Int32) = (0 : Int32))).2 ?_
      show Steps p.tables e below (T98.setTop (mkF m 146 #[iv p1, rv b2, iv (1 : Int32), iv (0 : Int32)] [])) _
      refine XS.iconst X98.here hx rfl (hb hby at_146) ?_
      show Steps p.tables e below (T98.setTop (mkF m 147 #[iv p1, rv b2, iv (1 : Int32), iv (0 : Int32)] [(.int (1 : Int32))])) _
      refine XS.goto X98.here hx rfl (pc0 := 147) (pc' := 151) rfl (hb hby at_147) (by decide) (by decide) ?_
      show Steps p.tables e below (T98.setTop (mkF m 151 #[iv p1, rv b2, iv (1 : Int32), iv (0 : Int32)] [(.int (1 : Int32))])) _
      exact k
    obtain ⟨fs, hr, hrun, hended, hW, hsame⟩ := X98.leave (v := some (.int (1 : Int32))) (fun h => by rw [Bd.returns] at h; cases h)
    refine ⟨_, _, k100 _ (retN X98 hx (t := .boolean) Bd.returns (by simp) (hb hby at_151) hr), hrun, hended, _, _, rfl, ?_, ⟨_, rfl⟩, hW, hsame.mono (by decide) (by decide)⟩
    show Q_law_met Z w_TEXT w_COMPOSITE w_CLOSED_LIST w_LISTED w_URI w_ISO3166_1_ALPHA2 w_ISO639 w_ISO15924 w_POSITIVE_NUMBER w_POSITIVE_INTEGER w_NONNEGATIVE_INTEGER w_ISO8601_DATE w_DIGEST w_PER_TIME_STANDARD w_PER_COORDINATE_SYSTEM w_TIME_SPAN p1 h0 n0 _ T98.heap _
    rw [e98]
    exact ⟨rfl, N98⟩
  · have k101 : Way p e below S0 T83 (mkF m 120 #[iv p1, rv b2, iv (2 : Int32), .unset] []) := by have q := k85; rw [hi86] at q; exact q
    have k102 : Way p e below S0 T83 (mkF m 138 #[iv p1, rv b2, iv (2 : Int32), iv (1 : Int32)] [(.int (2 : Int32)), (.ref b2)]) := by
      intro t k
      refine k101 t ?_
      refine XS.iloadN X83.here hx rfl (hb hby at_120) rfl ?_
      show Steps p.tables e below (T83.setTop (mkF m 121 #[iv p1, rv b2, iv (2 : Int32), .unset] [(.int (2 : Int32))])) _
      refine XS.iconst X83.here hx rfl (hb hby at_121) ?_
      show Steps p.tables e below (T83.setTop (mkF m 122 #[iv p1, rv b2, iv (2 : Int32), .unset] [(.int (2 : Int32)), (.int (2 : Int32))])) _
      refine XS.icmpYes X83.here hx rfl (pc0 := 122) (pc' := 130) rfl (hb hby at_122) rfl (teq ((by decide) : (2 : Int32) = (2 : Int32))).1 (by decide) (by decide) ?_
      show Steps p.tables e below (T83.setTop (mkF m 130 #[iv p1, rv b2, iv (2 : Int32), .unset] [])) _
      refine XS.iconst X83.here hx rfl (hb hby at_130) ?_
      show Steps p.tables e below (T83.setTop (mkF m 131 #[iv p1, rv b2, iv (2 : Int32), .unset] [(.int (1 : Int32))])) _
      refine XS.goto X83.here hx rfl (pc0 := 131) (pc' := 135) rfl (hb hby at_131) (by decide) (by decide) ?_
      show Steps p.tables e below (T83.setTop (mkF m 135 #[iv p1, rv b2, iv (2 : Int32), .unset] [(.int (1 : Int32))])) _
      refine XS.istoreN X83.here hx rfl (hb hby at_135) rfl (l' := #[iv p1, rv b2, iv (2 : Int32), iv (1 : Int32)]) rfl ?_
      show Steps p.tables e below (T83.setTop (mkF m 136 #[iv p1, rv b2, iv (2 : Int32), iv (1 : Int32)] [])) _
      refine XS.aloadN X83.here hx rfl (hb hby at_136) rfl rfl ?_
      show Steps p.tables e below (T83.setTop (mkF m 137 #[iv p1, rv b2, iv (2 : Int32), iv (1 : Int32)] [(.ref b2)])) _
      refine XS.iloadN X83.here hx rfl (hb hby at_137) rfl ?_
      show Steps p.tables e below (T83.setTop (mkF m 138 #[iv p1, rv b2, iv (2 : Int32), iv (1 : Int32)] [(.int (2 : Int32)), (.ref b2)])) _
      exact k
    obtain ⟨cl103, Ar103, qc103, S103, M103, U103, G103⟩ := va83
    have hin103 : ¬ ((2 : Int32) < 0 ∨ cl103.slots.size ≤ ((2 : Int32)).toNatClampNeg) := inb_of S103 ⟨by decide, by decide⟩
    have hat103 : cl103.slots[((2 : Int32)).toNatClampNeg]? = some (.ref w_CLOSED_LIST) := Has.at U103 hin103 rfl
    have k104 : Way p e below S0 T83 (mkF m 139 #[iv p1, rv b2, iv (2 : Int32), iv (1 : Int32)] [(.ref w_CLOSED_LIST)]) := fun t k => k102 t (X83.aaload hx (j := (2 : Int32)) (v := (.ref w_CLOSED_LIST)) (by rw [e83]; exact Ar103.1) (State.isArrayOf_alike hZ.alike Ar103.2.1) rfl Ar103.2.2 hin103 hat103 (g := (mkF m 138 #[iv p1, rv b2, iv (2 : Int32), iv (1 : Int32)] [(.int (2 : Int32)), (.ref b2)])) rfl rfl (hb hby at_138) _ k)
    obtain ⟨cq105, kq105, qq105a, qq105b, qq105c⟩ := isOf hZ e83 (E_w_CLOSED_LIST.ext O83.2)
    obtain ⟨_, _, ⟨T105, L105, kk105, nn105⟩, -, X105, ⟨Lc105, hQ105, l105, y105, z105⟩, st105⟩ := X83.virtualBack hx (y := (⟨"gradivo/spec/ValueKind", "isList", "()Z"⟩ : MethodName)) (z := (⟨"gradivo/spec/ValueKind", "isList", "()Z"⟩ : MethodName)) hown (mvT hZ (hw _ (List.mem_of_getElem? (i := 37) rfl))) (mvT hZ (hw _ (List.mem_of_getElem? (i := 38) rfl))) (notFace_of_selects (args := #[]) (mvT hZ (hw _ (List.mem_of_getElem? (i := 40) rfl)))) (mvT hZ (hw _ (List.mem_of_getElem? (i := 40) rfl))) (mvT hZ (hw _ (List.mem_of_getElem? (i := 39) rfl))) (by decide) (backOf (W := 0) (isl2 l Z a0 hw [] w_TEXT w_COMPOSITE w_CLOSED_LIST w_LISTED w_URI w_ISO3166_1_ALPHA2 w_ISO639 w_ISO15924 w_POSITIVE_NUMBER w_POSITIVE_INTEGER w_NONNEGATIVE_INTEGER w_ISO8601_DATE w_DIGEST w_PER_TIME_STANDARD w_PER_COORDINATE_SYSTEM w_TIME_SPAN G  h83 n0 O83 ) hZ (hw _ (List.mem_of_getElem? (i := 41) rfl)) (hw _ (List.mem_of_getElem? (i := 3) rfl)) (by decide) (by decide)) qq105a qq105c (g := (mkF m 139 #[iv p1, rv b2, iv (2 : Int32), iv (1 : Int32)] [(.ref w_CLOSED_LIST)])) rfl (by rw [hml]; rfl) (Steps.refl _) (argsL := []) (rest := []) (lenOf pd_0 rfl) rfl (by show 2 * 0 + _ ≤ _; exact Nat.le_of_eq rfl) (hb hby at_139) (fun _ _ => ⟨rfl, e83, (by decide : 1 + 0 ≤ _), (by decide : 16 + 0 ≤ _)⟩)
    dsimp only [Pt.U, Pt.locs, Pt.cells, Pt.slots] at X105 l105 y105 z105 st105 hQ105
    subst l105 y105 z105
    obtain ⟨rfl, Nq105, e105⟩ := hQ105
    have N105 := Fr.app N83 Nq105
    have k106 : Way p e below S0 T105 (mkF m 142 #[iv p1, rv b2, iv (2 : Int32), iv (1 : Int32)] [(.int (1 : Int32))]) := fun t k => k104 t (st105.trans k)
    have k107 : Way p e below S0 T105 (mkF m 151 #[iv p1, rv b2, iv (2 : Int32), iv (1 : Int32)] [(.int (1 : Int32))]) := by
      intro t k
      refine k106 t ?_
      refine XS.iloadN X105.here hx rfl (hb hby at_142) rfl ?_
      show Steps p.tables e below (T105.setTop (mkF m 143 #[iv p1, rv b2, iv (2 : Int32), iv (1 : Int32)] [(.int (1 : Int32)), (.int (1 : Int32))])) _
      refine XS.icmpNo X105.here hx rfl (hb hby at_143) rfl (teq ((by decide) : (1 : Int32) = (1 : Int32))).2 ?_
      show Steps p.tables e below (T105.setTop (mkF m 146 #[iv p1, rv b2, iv (2 : Int32), iv (1 : Int32)] [])) _
      refine XS.iconst X105.here hx rfl (hb hby at_146) ?_
      show Steps p.tables e below (T105.setTop (mkF m 147 #[iv p1, rv b2, iv (2 : Int32), iv (1 : Int32)] [(.int (1 : Int32))])) _
      refine XS.goto X105.here hx rfl (pc0 := 147) (pc' := 151) rfl (hb hby at_147) (by decide) (by decide) ?_
      show Steps p.tables e below (T105.setTop (mkF m 151 #[iv p1, rv b2, iv (2 : Int32), iv (1 : Int32)] [(.int (1 : Int32))])) _
      exact k
    obtain ⟨fs, hr, hrun, hended, hW, hsame⟩ := X105.leave (v := some (.int (1 : Int32))) (fun h => by rw [Bd.returns] at h; cases h)
    refine ⟨_, _, k107 _ (retN X105 hx (t := .boolean) Bd.returns (by simp) (hb hby at_151) hr), hrun, hended, _, _, rfl, ?_, ⟨_, rfl⟩, hW, hsame.mono (by decide) (by decide)⟩
    show Q_law_met Z w_TEXT w_COMPOSITE w_CLOSED_LIST w_LISTED w_URI w_ISO3166_1_ALPHA2 w_ISO639 w_ISO15924 w_POSITIVE_NUMBER w_POSITIVE_INTEGER w_NONNEGATIVE_INTEGER w_ISO8601_DATE w_DIGEST w_PER_TIME_STANDARD w_PER_COORDINATE_SYSTEM w_TIME_SPAN p1 h0 n0 _ T105.heap _
    rw [e105]
    exact ⟨rfl, N105⟩
  · have k108 : Way p e below S0 T83 (mkF m 120 #[iv p1, rv b2, iv (3 : Int32), .unset] []) := by have q := k85; rw [hi86] at q; exact q
    have k109 : Way p e below S0 T83 (mkF m 138 #[iv p1, rv b2, iv (3 : Int32), iv (1 : Int32)] [(.int (3 : Int32)), (.ref b2)]) := by
      intro t k
      refine k108 t ?_
      refine XS.iloadN X83.here hx rfl (hb hby at_120) rfl ?_
      show Steps p.tables e below (T83.setTop (mkF m 121 #[iv p1, rv b2, iv (3 : Int32), .unset] [(.int (3 : Int32))])) _
      refine XS.iconst X83.here hx rfl (hb hby at_121) ?_
      show Steps p.tables e below (T83.setTop (mkF m 122 #[iv p1, rv b2, iv (3 : Int32), .unset] [(.int (2 : Int32)), (.int (3 : Int32))])) _
      refine XS.icmpNo X83.here hx rfl (hb hby at_122) rfl (feq ((by decide) : ¬ ((3 : Int32) = (2 : Int32)))).1 ?_
      show Steps p.tables e below (T83.setTop (mkF m 125 #[iv p1, rv b2, iv (3 : Int32), .unset] [])) _
      refine XS.iloadN X83.here hx rfl (hb hby at_125) rfl ?_
      show Steps p.tables e below (T83.setTop (mkF m 126 #[iv p1, rv b2, iv (3 : Int32), .unset] [(.int (3 : Int32))])) _
      refine XS.iconst X83.here hx rfl (hb hby at_126) ?_
      show Steps p.tables e below (T83.setTop (mkF m 127 #[iv p1, rv b2, iv (3 : Int32), .unset] [(.int (3 : Int32)), (.int (3 : Int32))])) _
      refine XS.icmpNo X83.here hx rfl (hb hby at_127) rfl (teq ((by decide) : (3 : Int32) = (3 : Int32))).2 ?_
      show Steps p.tables e below (T83.setTop (mkF m 130 #[iv p1, rv b2, iv (3 : Int32), .unset] [])) _
      refine XS.iconst X83.here hx rfl (hb hby at_130) ?_
      show Steps p.tables e below (T83.setTop (mkF m 131 #[iv p1, rv b2, iv (3 : Int32), .unset] [(.int (1 : Int32))])) _
      refine XS.goto X83.here hx rfl (pc0 := 131) (pc' := 135) rfl (hb hby at_131) (by decide) (by decide) ?_
      show Steps p.tables e below (T83.setTop (mkF m 135 #[iv p1, rv b2, iv (3 : Int32), .unset] [(.int (1 : Int32))])) _
      refine XS.istoreN X83.here hx rfl (hb hby at_135) rfl (l' := #[iv p1, rv b2, iv (3 : Int32), iv (1 : Int32)]) rfl ?_
      show Steps p.tables e below (T83.setTop (mkF m 136 #[iv p1, rv b2, iv (3 : Int32), iv (1 : Int32)] [])) _
      refine XS.aloadN X83.here hx rfl (hb hby at_136) rfl rfl ?_
      show Steps p.tables e below (T83.setTop (mkF m 137 #[iv p1, rv b2, iv (3 : Int32), iv (1 : Int32)] [(.ref b2)])) _
      refine XS.iloadN X83.here hx rfl (hb hby at_137) rfl ?_
      show Steps p.tables e below (T83.setTop (mkF m 138 #[iv p1, rv b2, iv (3 : Int32), iv (1 : Int32)] [(.int (3 : Int32)), (.ref b2)])) _
      exact k
    obtain ⟨cl110, Ar110, qc110, S110, M110, U110, G110⟩ := va83
    have hin110 : ¬ ((3 : Int32) < 0 ∨ cl110.slots.size ≤ ((3 : Int32)).toNatClampNeg) := inb_of S110 ⟨by decide, by decide⟩
    have hat110 : cl110.slots[((3 : Int32)).toNatClampNeg]? = some (.ref w_LISTED) := Has.at U110 hin110 rfl
    have k111 : Way p e below S0 T83 (mkF m 139 #[iv p1, rv b2, iv (3 : Int32), iv (1 : Int32)] [(.ref w_LISTED)]) := fun t k => k109 t (X83.aaload hx (j := (3 : Int32)) (v := (.ref w_LISTED)) (by rw [e83]; exact Ar110.1) (State.isArrayOf_alike hZ.alike Ar110.2.1) rfl Ar110.2.2 hin110 hat110 (g := (mkF m 138 #[iv p1, rv b2, iv (3 : Int32), iv (1 : Int32)] [(.int (3 : Int32)), (.ref b2)])) rfl rfl (hb hby at_138) _ k)
    obtain ⟨cq112, kq112, qq112a, qq112b, qq112c⟩ := isOf hZ e83 (E_w_LISTED.ext O83.2)
    obtain ⟨_, _, ⟨T112, L112, kk112, nn112⟩, -, X112, ⟨Lc112, hQ112, l112, y112, z112⟩, st112⟩ := X83.virtualBack hx (y := (⟨"gradivo/spec/ValueKind", "isList", "()Z"⟩ : MethodName)) (z := (⟨"gradivo/spec/ValueKind", "isList", "()Z"⟩ : MethodName)) hown (mvT hZ (hw _ (List.mem_of_getElem? (i := 37) rfl))) (mvT hZ (hw _ (List.mem_of_getElem? (i := 38) rfl))) (notFace_of_selects (args := #[]) (mvT hZ (hw _ (List.mem_of_getElem? (i := 40) rfl)))) (mvT hZ (hw _ (List.mem_of_getElem? (i := 40) rfl))) (mvT hZ (hw _ (List.mem_of_getElem? (i := 39) rfl))) (by decide) (backOf (W := 0) (isl3 l Z a0 hw [] w_TEXT w_COMPOSITE w_CLOSED_LIST w_LISTED w_URI w_ISO3166_1_ALPHA2 w_ISO639 w_ISO15924 w_POSITIVE_NUMBER w_POSITIVE_INTEGER w_NONNEGATIVE_INTEGER w_ISO8601_DATE w_DIGEST w_PER_TIME_STANDARD w_PER_COORDINATE_SYSTEM w_TIME_SPAN G  h83 n0 O83 ) hZ (hw _ (List.mem_of_getElem? (i := 41) rfl)) (hw _ (List.mem_of_getElem? (i := 3) rfl)) (by decide) (by decide)) qq112a qq112c (g := (mkF m 139 #[iv p1, rv b2, iv (3 : Int32), iv (1 : Int32)] [(.ref w_LISTED)])) rfl (by rw [hml]; rfl) (Steps.refl _) (argsL := []) (rest := []) (lenOf pd_0 rfl) rfl (by show 2 * 0 + _ ≤ _; exact Nat.le_of_eq rfl) (hb hby at_139) (fun _ _ => ⟨rfl, e83, (by decide : 1 + 0 ≤ _), (by decide : 16 + 0 ≤ _)⟩)
    dsimp only [Pt.U, Pt.locs, Pt.cells, Pt.slots] at X112 l112 y112 z112 st112 hQ112
    subst l112 y112 z112
    obtain ⟨rfl, Nq112, e112⟩ := hQ112
    have N112 := Fr.app N83 Nq112
    have k113 : Way p e below S0 T112 (mkF m 142 #[iv p1, rv b2, iv (3 : Int32), iv (1 : Int32)] [(.int (1 : Int32))]) := fun t k => k111 t (st112.trans k)
    have k114 : Way p e below S0 T112 (mkF m 151 #[iv p1, rv b2, iv (3 : Int32), iv (1 : Int32)] [(.int (1 : Int32))]) := by
      intro t k
      refine k113 t ?_
      refine XS.iloadN X112.here hx rfl (hb hby at_142) rfl ?_
      show Steps p.tables e below (T112.setTop (mkF m 143 #[iv p1, rv b2, iv (3 : Int32), iv (1 : Int32)] [(.int (1 : Int32)), (.int (1 : Int32))])) _
      refine XS.icmpNo X112.here hx rfl (hb hby at_143) rfl (teq ((by decide) : (1 : Int32) = (1 : Int32))).2 ?_
      show Steps p.tables e below (T112.setTop (mkF m 146 #[iv p1, rv b2, iv (3 : Int32), iv (1 : Int32)] [])) _
      refine XS.iconst X112.here hx rfl (hb hby at_146) ?_
      show Steps p.tables e below (T112.setTop (mkF m 147 #[iv p1, rv b2, iv (3 : Int32), iv (1 : Int32)] [(.int (1 : Int32))])) _
      refine XS.goto X112.here hx rfl (pc0 := 147) (pc' := 151) rfl (hb hby at_147) (by decide) (by decide) ?_
      show Steps p.tables e below (T112.setTop (mkF m 151 #[iv p1, rv b2, iv (3 : Int32), iv (1 : Int32)] [(.int (1 : Int32))])) _
      exact k
    obtain ⟨fs, hr, hrun, hended, hW, hsame⟩ := X112.leave (v := some (.int (1 : Int32))) (fun h => by rw [Bd.returns] at h; cases h)
    refine ⟨_, _, k114 _ (retN X112 hx (t := .boolean) Bd.returns (by simp) (hb hby at_151) hr), hrun, hended, _, _, rfl, ?_, ⟨_, rfl⟩, hW, hsame.mono (by decide) (by decide)⟩
    show Q_law_met Z w_TEXT w_COMPOSITE w_CLOSED_LIST w_LISTED w_URI w_ISO3166_1_ALPHA2 w_ISO639 w_ISO15924 w_POSITIVE_NUMBER w_POSITIVE_INTEGER w_NONNEGATIVE_INTEGER w_ISO8601_DATE w_DIGEST w_PER_TIME_STANDARD w_PER_COORDINATE_SYSTEM w_TIME_SPAN p1 h0 n0 _ T112.heap _
    rw [e112]
    exact ⟨rfl, N112⟩
  · have k115 : Way p e below S0 T83 (mkF m 120 #[iv p1, rv b2, iv (4 : Int32), .unset] []) := by have q := k85; rw [hi86] at q; exact q
    have k116 : Way p e below S0 T83 (mkF m 138 #[iv p1, rv b2, iv (4 : Int32), iv (0 : Int32)] [(.int (4 : Int32)), (.ref b2)]) := by
      intro t k
      refine k115 t ?_
      refine XS.iloadN X83.here hx rfl (hb hby at_120) rfl ?_
      show Steps p.tables e below (T83.setTop (mkF m 121 #[iv p1, rv b2, iv (4 : Int32), .unset] [(.int (4 : Int32))])) _
      refine XS.iconst X83.here hx rfl (hb hby at_121) ?_
      show Steps p.tables e below (T83.setTop (mkF m 122 #[iv p1, rv b2, iv (4 : Int32), .unset] [(.int (2 : Int32)), (.int (4 : Int32))])) _
      refine XS.icmpNo X83.here hx rfl (hb hby at_122) rfl (feq ((by decide) : ¬ ((4 : Int32) = (2 : Int32)))).1 ?_
      show Steps p.tables e below (T83.setTop (mkF m 125 #[iv p1, rv b2, iv (4 : Int32), .unset] [])) _
      refine XS.iloadN X83.here hx rfl (hb hby at_125) rfl ?_
      show Steps p.tables e below (T83.setTop (mkF m 126 #[iv p1, rv b2, iv (4 : Int32), .unset] [(.int (4 : Int32))])) _
      refine XS.iconst X83.here hx rfl (hb hby at_126) ?_
      show Steps p.tables e below (T83.setTop (mkF m 127 #[iv p1, rv b2, iv (4 : Int32), .unset] [(.int (3 : Int32)), (.int (4 : Int32))])) _
      refine XS.icmpYes X83.here hx rfl (pc0 := 127) (pc' := 134) rfl (hb hby at_127) rfl (feq ((by decide) : ¬ ((4 : Int32) = (3 : Int32)))).2 (by decide) (by decide) ?_
      show Steps p.tables e below (T83.setTop (mkF m 134 #[iv p1, rv b2, iv (4 : Int32), .unset] [])) _
      refine XS.iconst X83.here hx rfl (hb hby at_134) ?_
      show Steps p.tables e below (T83.setTop (mkF m 135 #[iv p1, rv b2, iv (4 : Int32), .unset] [(.int (0 : Int32))])) _
      refine XS.istoreN X83.here hx rfl (hb hby at_135) rfl (l' := #[iv p1, rv b2, iv (4 : Int32), iv (0 : Int32)]) rfl ?_
      show Steps p.tables e below (T83.setTop (mkF m 136 #[iv p1, rv b2, iv (4 : Int32), iv (0 : Int32)] [])) _
      refine XS.aloadN X83.here hx rfl (hb hby at_136) rfl rfl ?_
      show Steps p.tables e below (T83.setTop (mkF m 137 #[iv p1, rv b2, iv (4 : Int32), iv (0 : Int32)] [(.ref b2)])) _
      refine XS.iloadN X83.here hx rfl (hb hby at_137) rfl ?_
      show Steps p.tables e below (T83.setTop (mkF m 138 #[iv p1, rv b2, iv (4 : Int32), iv (0 : Int32)] [(.int (4 : Int32)), (.ref b2)])) _
      exact k
    obtain ⟨cl117, Ar117, qc117, S117, M117, U117, G117⟩ := va83
    have hin117 : ¬ ((4 : Int32) < 0 ∨ cl117.slots.size ≤ ((4 : Int32)).toNatClampNeg) := inb_of S117 ⟨by decide, by decide⟩
    have hat117 : cl117.slots[((4 : Int32)).toNatClampNeg]? = some (.ref w_URI) := Has.at U117 hin117 rfl
    have k118 : Way p e below S0 T83 (mkF m 139 #[iv p1, rv b2, iv (4 : Int32), iv (0 : Int32)] [(.ref w_URI)]) := fun t k => k116 t (X83.aaload hx (j := (4 : Int32)) (v := (.ref w_URI)) (by rw [e83]; exact Ar117.1) (State.isArrayOf_alike hZ.alike Ar117.2.1) rfl Ar117.2.2 hin117 hat117 (g := (mkF m 138 #[iv p1, rv b2, iv (4 : Int32), iv (0 : Int32)] [(.int (4 : Int32)), (.ref b2)])) rfl rfl (hb hby at_138) _ k)
    obtain ⟨cq119, kq119, qq119a, qq119b, qq119c⟩ := isOf hZ e83 (E_w_URI.ext O83.2)
    obtain ⟨_, _, ⟨T119, L119, kk119, nn119⟩, -, X119, ⟨Lc119, hQ119, l119, y119, z119⟩, st119⟩ := X83.virtualBack hx (y := (⟨"gradivo/spec/ValueKind", "isList", "()Z"⟩ : MethodName)) (z := (⟨"gradivo/spec/ValueKind", "isList", "()Z"⟩ : MethodName)) hown (mvT hZ (hw _ (List.mem_of_getElem? (i := 37) rfl))) (mvT hZ (hw _ (List.mem_of_getElem? (i := 38) rfl))) (notFace_of_selects (args := #[]) (mvT hZ (hw _ (List.mem_of_getElem? (i := 40) rfl)))) (mvT hZ (hw _ (List.mem_of_getElem? (i := 40) rfl))) (mvT hZ (hw _ (List.mem_of_getElem? (i := 39) rfl))) (by decide) (backOf (W := 0) (isl4 l Z a0 hw [] w_TEXT w_COMPOSITE w_CLOSED_LIST w_LISTED w_URI w_ISO3166_1_ALPHA2 w_ISO639 w_ISO15924 w_POSITIVE_NUMBER w_POSITIVE_INTEGER w_NONNEGATIVE_INTEGER w_ISO8601_DATE w_DIGEST w_PER_TIME_STANDARD w_PER_COORDINATE_SYSTEM w_TIME_SPAN G  h83 n0 O83 ) hZ (hw _ (List.mem_of_getElem? (i := 41) rfl)) (hw _ (List.mem_of_getElem? (i := 3) rfl)) (by decide) (by decide)) qq119a qq119c (g := (mkF m 139 #[iv p1, rv b2, iv (4 : Int32), iv (0 : Int32)] [(.ref w_URI)])) rfl (by rw [hml]; rfl) (Steps.refl _) (argsL := []) (rest := []) (lenOf pd_0 rfl) rfl (by show 2 * 0 + _ ≤ _; exact Nat.le_of_eq rfl) (hb hby at_139) (fun _ _ => ⟨rfl, e83, (by decide : 1 + 0 ≤ _), (by decide : 16 + 0 ≤ _)⟩)
    dsimp only [Pt.U, Pt.locs, Pt.cells, Pt.slots] at X119 l119 y119 z119 st119 hQ119
    subst l119 y119 z119
    obtain ⟨rfl, Nq119, e119⟩ := hQ119
    have N119 := Fr.app N83 Nq119
    have k120 : Way p e below S0 T119 (mkF m 142 #[iv p1, rv b2, iv (4 : Int32), iv (0 : Int32)] [(.int (0 : Int32))]) := fun t k => k118 t (st119.trans k)
    have k121 : Way p e below S0 T119 (mkF m 151 #[iv p1, rv b2, iv (4 : Int32), iv (0 : Int32)] [(.int (1 : Int32))]) := by
      intro t k
      refine k120 t ?_
      refine XS.iloadN X119.here hx rfl (hb hby at_142) rfl ?_
      show Steps p.tables e below (T119.setTop (mkF m 143 #[iv p1, rv b2, iv (4 : Int32), iv (0 : Int32)] [(.int (0 : Int32)), (.int (0 : Int32))])) _
      refine XS.icmpNo X119.here hx rfl (hb hby at_143) rfl (teq ((by decide) : (0 : Int32) = (0 : Int32))).2 ?_
      show Steps p.tables e below (T119.setTop (mkF m 146 #[iv p1, rv b2, iv (4 : Int32), iv (0 : Int32)] [])) _
      refine XS.iconst X119.here hx rfl (hb hby at_146) ?_
      show Steps p.tables e below (T119.setTop (mkF m 147 #[iv p1, rv b2, iv (4 : Int32), iv (0 : Int32)] [(.int (1 : Int32))])) _
      refine XS.goto X119.here hx rfl (pc0 := 147) (pc' := 151) rfl (hb hby at_147) (by decide) (by decide) ?_
      show Steps p.tables e below (T119.setTop (mkF m 151 #[iv p1, rv b2, iv (4 : Int32), iv (0 : Int32)] [(.int (1 : Int32))])) _
      exact k
    obtain ⟨fs, hr, hrun, hended, hW, hsame⟩ := X119.leave (v := some (.int (1 : Int32))) (fun h => by rw [Bd.returns] at h; cases h)
    refine ⟨_, _, k121 _ (retN X119 hx (t := .boolean) Bd.returns (by simp) (hb hby at_151) hr), hrun, hended, _, _, rfl, ?_, ⟨_, rfl⟩, hW, hsame.mono (by decide) (by decide)⟩
    show Q_law_met Z w_TEXT w_COMPOSITE w_CLOSED_LIST w_LISTED w_URI w_ISO3166_1_ALPHA2 w_ISO639 w_ISO15924 w_POSITIVE_NUMBER w_POSITIVE_INTEGER w_NONNEGATIVE_INTEGER w_ISO8601_DATE w_DIGEST w_PER_TIME_STANDARD w_PER_COORDINATE_SYSTEM w_TIME_SPAN p1 h0 n0 _ T119.heap _
    rw [e119]
    exact ⟨rfl, N119⟩
  · have k122 : Way p e below S0 T83 (mkF m 120 #[iv p1, rv b2, iv (5 : Int32), .unset] []) := by have q := k85; rw [hi86] at q; exact q
    have k123 : Way p e below S0 T83 (mkF m 138 #[iv p1, rv b2, iv (5 : Int32), iv (0 : Int32)] [(.int (5 : Int32)), (.ref b2)]) := by
      intro t k
      refine k122 t ?_
      refine XS.iloadN X83.here hx rfl (hb hby at_120) rfl ?_
      show Steps p.tables e below (T83.setTop (mkF m 121 #[iv p1, rv b2, iv (5 : Int32), .unset] [(.int (5 : Int32))])) _
      refine XS.iconst X83.here hx rfl (hb hby at_121) ?_
      show Steps p.tables e below (T83.setTop (mkF m 122 #[iv p1, rv b2, iv (5 : Int32), .unset] [(.int (2 : Int32)), (.int (5 : Int32))])) _
      refine XS.icmpNo X83.here hx rfl (hb hby at_122) rfl (feq ((by decide) : ¬ ((5 : Int32) = (2 : Int32)))).1 ?_
      show Steps p.tables e below (T83.setTop (mkF m 125 #[iv p1, rv b2, iv (5 : Int32), .unset] [])) _
      refine XS.iloadN X83.here hx rfl (hb hby at_125) rfl ?_
      show Steps p.tables e below (T83.setTop (mkF m 126 #[iv p1, rv b2, iv (5 : Int32), .unset] [(.int (5 : Int32))])) _
      refine XS.iconst X83.here hx rfl (hb hby at_126) ?_
      show Steps p.tables e below (T83.setTop (mkF m 127 #[iv p1, rv b2, iv (5 : Int32), .unset] [(.int (3 : Int32)), (.int (5 : Int32))])) _
      refine XS.icmpYes X83.here hx rfl (pc0 := 127) (pc' := 134) rfl (hb hby at_127) rfl (feq ((by decide) : ¬ ((5 : Int32) = (3 : Int32)))).2 (by decide) (by decide) ?_
      show Steps p.tables e below (T83.setTop (mkF m 134 #[iv p1, rv b2, iv (5 : Int32), .unset] [])) _
      refine XS.iconst X83.here hx rfl (hb hby at_134) ?_
      show Steps p.tables e below (T83.setTop (mkF m 135 #[iv p1, rv b2, iv (5 : Int32), .unset] [(.int (0 : Int32))])) _
      refine XS.istoreN X83.here hx rfl (hb hby at_135) rfl (l' := #[iv p1, rv b2, iv (5 : Int32), iv (0 : Int32)]) rfl ?_
      show Steps p.tables e below (T83.setTop (mkF m 136 #[iv p1, rv b2, iv (5 : Int32), iv (0 : Int32)] [])) _
      refine XS.aloadN X83.here hx rfl (hb hby at_136) rfl rfl ?_
      show Steps p.tables e below (T83.setTop (mkF m 137 #[iv p1, rv b2, iv (5 : Int32), iv (0 : Int32)] [(.ref b2)])) _
      refine XS.iloadN X83.here hx rfl (hb hby at_137) rfl ?_
      show Steps p.tables e below (T83.setTop (mkF m 138 #[iv p1, rv b2, iv (5 : Int32), iv (0 : Int32)] [(.int (5 : Int32)), (.ref b2)])) _
      exact k
    obtain ⟨cl124, Ar124, qc124, S124, M124, U124, G124⟩ := va83
    have hin124 : ¬ ((5 : Int32) < 0 ∨ cl124.slots.size ≤ ((5 : Int32)).toNatClampNeg) := inb_of S124 ⟨by decide, by decide⟩
    have hat124 : cl124.slots[((5 : Int32)).toNatClampNeg]? = some (.ref w_ISO3166_1_ALPHA2) := Has.at U124 hin124 rfl
    have k125 : Way p e below S0 T83 (mkF m 139 #[iv p1, rv b2, iv (5 : Int32), iv (0 : Int32)] [(.ref w_ISO3166_1_ALPHA2)]) := fun t k => k123 t (X83.aaload hx (j := (5 : Int32)) (v := (.ref w_ISO3166_1_ALPHA2)) (by rw [e83]; exact Ar124.1) (State.isArrayOf_alike hZ.alike Ar124.2.1) rfl Ar124.2.2 hin124 hat124 (g := (mkF m 138 #[iv p1, rv b2, iv (5 : Int32), iv (0 : Int32)] [(.int (5 : Int32)), (.ref b2)])) rfl rfl (hb hby at_138) _ k)
    obtain ⟨cq126, kq126, qq126a, qq126b, qq126c⟩ := isOf hZ e83 (E_w_ISO3166_1_ALPHA2.ext O83.2)
    obtain ⟨_, _, ⟨T126, L126, kk126, nn126⟩, -, X126, ⟨Lc126, hQ126, l126, y126, z126⟩, st126⟩ := X83.virtualBack hx (y := (⟨"gradivo/spec/ValueKind", "isList", "()Z"⟩ : MethodName)) (z := (⟨"gradivo/spec/ValueKind", "isList", "()Z"⟩ : MethodName)) hown (mvT hZ (hw _ (List.mem_of_getElem? (i := 37) rfl))) (mvT hZ (hw _ (List.mem_of_getElem? (i := 38) rfl))) (notFace_of_selects (args := #[]) (mvT hZ (hw _ (List.mem_of_getElem? (i := 40) rfl)))) (mvT hZ (hw _ (List.mem_of_getElem? (i := 40) rfl))) (mvT hZ (hw _ (List.mem_of_getElem? (i := 39) rfl))) (by decide) (backOf (W := 0) (isl5 l Z a0 hw [] w_TEXT w_COMPOSITE w_CLOSED_LIST w_LISTED w_URI w_ISO3166_1_ALPHA2 w_ISO639 w_ISO15924 w_POSITIVE_NUMBER w_POSITIVE_INTEGER w_NONNEGATIVE_INTEGER w_ISO8601_DATE w_DIGEST w_PER_TIME_STANDARD w_PER_COORDINATE_SYSTEM w_TIME_SPAN G  h83 n0 O83 ) hZ (hw _ (List.mem_of_getElem? (i := 41) rfl)) (hw _ (List.mem_of_getElem? (i := 3) rfl)) (by decide) (by decide)) qq126a qq126c (g := (mkF m 139 #[iv p1, rv b2, iv (5 : Int32), iv (0 : Int32)] [(.ref w_ISO3166_1_ALPHA2)])) rfl (by rw [hml]; rfl) (Steps.refl _) (argsL := []) (rest := []) (lenOf pd_0 rfl) rfl (by show 2 * 0 + _ ≤ _; exact Nat.le_of_eq rfl) (hb hby at_139) (fun _ _ => ⟨rfl, e83, (by decide : 1 + 0 ≤ _), (by decide : 16 + 0 ≤ _)⟩)
    dsimp only [Pt.U, Pt.locs, Pt.cells, Pt.slots] at X126 l126 y126 z126 st126 hQ126
    subst l126 y126 z126
    obtain ⟨rfl, Nq126, e126⟩ := hQ126
    have N126 := Fr.app N83 Nq126
    have k127 : Way p e below S0 T126 (mkF m 142 #[iv p1, rv b2, iv (5 : Int32), iv (0 : Int32)] [(.int (0 : Int32))]) := fun t k => k125 t (st126.trans k)
    have k128 : Way p e below S0 T126 (mkF m 151 #[iv p1, rv b2, iv (5 : Int32), iv (0 : Int32)] [(.int (1 : Int32))]) := by
      intro t k
      refine k127 t ?_
      refine XS.iloadN X126.here hx rfl (hb hby at_142) rfl ?_
      show Steps p.tables e below (T126.setTop (mkF m 143 #[iv p1, rv b2, iv (5 : Int32), iv (0 : Int32)] [(.int (0 : Int32)), (.int (0 : Int32))])) _
      refine XS.icmpNo X126.here hx rfl (hb hby at_143) rfl (teq ((by decide) : (0 : Int32) = (0 : Int32))).2 ?_
      show Steps p.tables e below (T126.setTop (mkF m 146 #[iv p1, rv b2, iv (5 : Int32), iv (0 : Int32)] [])) _
      refine XS.iconst X126.here hx rfl (hb hby at_146) ?_
      show Steps p.tables e below (T126.setTop (mkF m 147 #[iv p1, rv b2, iv (5 : Int32), iv (0 : Int32)] [(.int (1 : Int32))])) _
      refine XS.goto X126.here hx rfl (pc0 := 147) (pc' := 151) rfl (hb hby at_147) (by decide) (by decide) ?_
      show Steps p.tables e below (T126.setTop (mkF m 151 #[iv p1, rv b2, iv (5 : Int32), iv (0 : Int32)] [(.int (1 : Int32))])) _
      exact k
    obtain ⟨fs, hr, hrun, hended, hW, hsame⟩ := X126.leave (v := some (.int (1 : Int32))) (fun h => by rw [Bd.returns] at h; cases h)
    refine ⟨_, _, k128 _ (retN X126 hx (t := .boolean) Bd.returns (by simp) (hb hby at_151) hr), hrun, hended, _, _, rfl, ?_, ⟨_, rfl⟩, hW, hsame.mono (by decide) (by decide)⟩
    show Q_law_met Z w_TEXT w_COMPOSITE w_CLOSED_LIST w_LISTED w_URI w_ISO3166_1_ALPHA2 w_ISO639 w_ISO15924 w_POSITIVE_NUMBER w_POSITIVE_INTEGER w_NONNEGATIVE_INTEGER w_ISO8601_DATE w_DIGEST w_PER_TIME_STANDARD w_PER_COORDINATE_SYSTEM w_TIME_SPAN p1 h0 n0 _ T126.heap _
    rw [e126]
    exact ⟨rfl, N126⟩
  · have k129 : Way p e below S0 T83 (mkF m 120 #[iv p1, rv b2, iv (6 : Int32), .unset] []) := by have q := k85; rw [hi86] at q; exact q
    have k130 : Way p e below S0 T83 (mkF m 138 #[iv p1, rv b2, iv (6 : Int32), iv (0 : Int32)] [(.int (6 : Int32)), (.ref b2)]) := by
      intro t k
      refine k129 t ?_
      refine XS.iloadN X83.here hx rfl (hb hby at_120) rfl ?_
      show Steps p.tables e below (T83.setTop (mkF m 121 #[iv p1, rv b2, iv (6 : Int32), .unset] [(.int (6 : Int32))])) _
      refine XS.iconst X83.here hx rfl (hb hby at_121) ?_
      show Steps p.tables e below (T83.setTop (mkF m 122 #[iv p1, rv b2, iv (6 : Int32), .unset] [(.int (2 : Int32)), (.int (6 : Int32))])) _
      refine XS.icmpNo X83.here hx rfl (hb hby at_122) rfl (feq ((by decide) : ¬ ((6 : Int32) = (2 : Int32)))).1 ?_
      show Steps p.tables e below (T83.setTop (mkF m 125 #[iv p1, rv b2, iv (6 : Int32), .unset] [])) _
      refine XS.iloadN X83.here hx rfl (hb hby at_125) rfl ?_
      show Steps p.tables e below (T83.setTop (mkF m 126 #[iv p1, rv b2, iv (6 : Int32), .unset] [(.int (6 : Int32))])) _
      refine XS.iconst X83.here hx rfl (hb hby at_126) ?_
      show Steps p.tables e below (T83.setTop (mkF m 127 #[iv p1, rv b2, iv (6 : Int32), .unset] [(.int (3 : Int32)), (.int (6 : Int32))])) _
      refine XS.icmpYes X83.here hx rfl (pc0 := 127) (pc' := 134) rfl (hb hby at_127) rfl (feq ((by decide) : ¬ ((6 : Int32) = (3 : Int32)))).2 (by decide) (by decide) ?_
      show Steps p.tables e below (T83.setTop (mkF m 134 #[iv p1, rv b2, iv (6 : Int32), .unset] [])) _
      refine XS.iconst X83.here hx rfl (hb hby at_134) ?_
      show Steps p.tables e below (T83.setTop (mkF m 135 #[iv p1, rv b2, iv (6 : Int32), .unset] [(.int (0 : Int32))])) _
      refine XS.istoreN X83.here hx rfl (hb hby at_135) rfl (l' := #[iv p1, rv b2, iv (6 : Int32), iv (0 : Int32)]) rfl ?_
      show Steps p.tables e below (T83.setTop (mkF m 136 #[iv p1, rv b2, iv (6 : Int32), iv (0 : Int32)] [])) _
      refine XS.aloadN X83.here hx rfl (hb hby at_136) rfl rfl ?_
      show Steps p.tables e below (T83.setTop (mkF m 137 #[iv p1, rv b2, iv (6 : Int32), iv (0 : Int32)] [(.ref b2)])) _
      refine XS.iloadN X83.here hx rfl (hb hby at_137) rfl ?_
      show Steps p.tables e below (T83.setTop (mkF m 138 #[iv p1, rv b2, iv (6 : Int32), iv (0 : Int32)] [(.int (6 : Int32)), (.ref b2)])) _
      exact k
    obtain ⟨cl131, Ar131, qc131, S131, M131, U131, G131⟩ := va83
    have hin131 : ¬ ((6 : Int32) < 0 ∨ cl131.slots.size ≤ ((6 : Int32)).toNatClampNeg) := inb_of S131 ⟨by decide, by decide⟩
    have hat131 : cl131.slots[((6 : Int32)).toNatClampNeg]? = some (.ref w_ISO639) := Has.at U131 hin131 rfl
    have k132 : Way p e below S0 T83 (mkF m 139 #[iv p1, rv b2, iv (6 : Int32), iv (0 : Int32)] [(.ref w_ISO639)]) := fun t k => k130 t (X83.aaload hx (j := (6 : Int32)) (v := (.ref w_ISO639)) (by rw [e83]; exact Ar131.1) (State.isArrayOf_alike hZ.alike Ar131.2.1) rfl Ar131.2.2 hin131 hat131 (g := (mkF m 138 #[iv p1, rv b2, iv (6 : Int32), iv (0 : Int32)] [(.int (6 : Int32)), (.ref b2)])) rfl rfl (hb hby at_138) _ k)
    obtain ⟨cq133, kq133, qq133a, qq133b, qq133c⟩ := isOf hZ e83 (E_w_ISO639.ext O83.2)
    obtain ⟨_, _, ⟨T133, L133, kk133, nn133⟩, -, X133, ⟨Lc133, hQ133, l133, y133, z133⟩, st133⟩ := X83.virtualBack hx (y := (⟨"gradivo/spec/ValueKind", "isList", "()Z"⟩ : MethodName)) (z := (⟨"gradivo/spec/ValueKind", "isList", "()Z"⟩ : MethodName)) hown (mvT hZ (hw _ (List.mem_of_getElem? (i := 37) rfl))) (mvT hZ (hw _ (List.mem_of_getElem? (i := 38) rfl))) (notFace_of_selects (args := #[]) (mvT hZ (hw _ (List.mem_of_getElem? (i := 40) rfl)))) (mvT hZ (hw _ (List.mem_of_getElem? (i := 40) rfl))) (mvT hZ (hw _ (List.mem_of_getElem? (i := 39) rfl))) (by decide) (backOf (W := 0) (isl6 l Z a0 hw [] w_TEXT w_COMPOSITE w_CLOSED_LIST w_LISTED w_URI w_ISO3166_1_ALPHA2 w_ISO639 w_ISO15924 w_POSITIVE_NUMBER w_POSITIVE_INTEGER w_NONNEGATIVE_INTEGER w_ISO8601_DATE w_DIGEST w_PER_TIME_STANDARD w_PER_COORDINATE_SYSTEM w_TIME_SPAN G  h83 n0 O83 ) hZ (hw _ (List.mem_of_getElem? (i := 41) rfl)) (hw _ (List.mem_of_getElem? (i := 3) rfl)) (by decide) (by decide)) qq133a qq133c (g := (mkF m 139 #[iv p1, rv b2, iv (6 : Int32), iv (0 : Int32)] [(.ref w_ISO639)])) rfl (by rw [hml]; rfl) (Steps.refl _) (argsL := []) (rest := []) (lenOf pd_0 rfl) rfl (by show 2 * 0 + _ ≤ _; exact Nat.le_of_eq rfl) (hb hby at_139) (fun _ _ => ⟨rfl, e83, (by decide : 1 + 0 ≤ _), (by decide : 16 + 0 ≤ _)⟩)
    dsimp only [Pt.U, Pt.locs, Pt.cells, Pt.slots] at X133 l133 y133 z133 st133 hQ133
    subst l133 y133 z133
    obtain ⟨rfl, Nq133, e133⟩ := hQ133
    have N133 := Fr.app N83 Nq133
    have k134 : Way p e below S0 T133 (mkF m 142 #[iv p1, rv b2, iv (6 : Int32), iv (0 : Int32)] [(.int (0 : Int32))]) := fun t k => k132 t (st133.trans k)
    have k135 : Way p e below S0 T133 (mkF m 151 #[iv p1, rv b2, iv (6 : Int32), iv (0 : Int32)] [(.int (1 : Int32))]) := by
      intro t k
      refine k134 t ?_
      refine XS.iloadN X133.here hx rfl (hb hby at_142) rfl ?_
      show Steps p.tables e below (T133.setTop (mkF m 143 #[iv p1, rv b2, iv (6 : Int32), iv (0 : Int32)] [(.int (0 : Int32)), (.int (0 : Int32))])) _
      refine XS.icmpNo X133.here hx rfl (hb hby at_143) rfl (teq ((by decide) : (0 : Int32) = (0 : Int32))).2 ?_
      show Steps p.tables e below (T133.setTop (mkF m 146 #[iv p1, rv b2, iv (6 : Int32), iv (0 : Int32)] [])) _
      refine XS.iconst X133.here hx rfl (hb hby at_146) ?_
      show Steps p.tables e below (T133.setTop (mkF m 147 #[iv p1, rv b2, iv (6 : Int32), iv (0 : Int32)] [(.int (1 : Int32))])) _
      refine XS.goto X133.here hx rfl (pc0 := 147) (pc' := 151) rfl (hb hby at_147) (by decide) (by decide) ?_
      show Steps p.tables e below (T133.setTop (mkF m 151 #[iv p1, rv b2, iv (6 : Int32), iv (0 : Int32)] [(.int (1 : Int32))])) _
      exact k
    obtain ⟨fs, hr, hrun, hended, hW, hsame⟩ := X133.leave (v := some (.int (1 : Int32))) (fun h => by rw [Bd.returns] at h; cases h)
    refine ⟨_, _, k135 _ (retN X133 hx (t := .boolean) Bd.returns (by simp) (hb hby at_151) hr), hrun, hended, _, _, rfl, ?_, ⟨_, rfl⟩, hW, hsame.mono (by decide) (by decide)⟩
    show Q_law_met Z w_TEXT w_COMPOSITE w_CLOSED_LIST w_LISTED w_URI w_ISO3166_1_ALPHA2 w_ISO639 w_ISO15924 w_POSITIVE_NUMBER w_POSITIVE_INTEGER w_NONNEGATIVE_INTEGER w_ISO8601_DATE w_DIGEST w_PER_TIME_STANDARD w_PER_COORDINATE_SYSTEM w_TIME_SPAN p1 h0 n0 _ T133.heap _
    rw [e133]
    exact ⟨rfl, N133⟩
  · have k136 : Way p e below S0 T83 (mkF m 120 #[iv p1, rv b2, iv (7 : Int32), .unset] []) := by have q := k85; rw [hi86] at q; exact q
    have k137 : Way p e below S0 T83 (mkF m 138 #[iv p1, rv b2, iv (7 : Int32), iv (0 : Int32)] [(.int (7 : Int32)), (.ref b2)]) := by
      intro t k
      refine k136 t ?_
      refine XS.iloadN X83.here hx rfl (hb hby at_120) rfl ?_
      show Steps p.tables e below (T83.setTop (mkF m 121 #[iv p1, rv b2, iv (7 : Int32), .unset] [(.int (7 : Int32))])) _
      refine XS.iconst X83.here hx rfl (hb hby at_121) ?_
      show Steps p.tables e below (T83.setTop (mkF m 122 #[iv p1, rv b2, iv (7 : Int32), .unset] [(.int (2 : Int32)), (.int (7 : Int32))])) _
      refine XS.icmpNo X83.here hx rfl (hb hby at_122) rfl (feq ((by decide) : ¬ ((7 : Int32) = (2 : Int32)))).1 ?_
      show Steps p.tables e below (T83.setTop (mkF m 125 #[iv p1, rv b2, iv (7 : Int32), .unset] [])) _
      refine XS.iloadN X83.here hx rfl (hb hby at_125) rfl ?_
      show Steps p.tables e below (T83.setTop (mkF m 126 #[iv p1, rv b2, iv (7 : Int32), .unset] [(.int (7 : Int32))])) _
      refine XS.iconst X83.here hx rfl (hb hby at_126) ?_
      show Steps p.tables e below (T83.setTop (mkF m 127 #[iv p1, rv b2, iv (7 : Int32), .unset] [(.int (3 : Int32)), (.int (7 : Int32))])) _
      refine XS.icmpYes X83.here hx rfl (pc0 := 127) (pc' := 134) rfl (hb hby at_127) rfl (feq ((by decide) : ¬ ((7 : Int32) = (3 : Int32)))).2 (by decide) (by decide) ?_
      show Steps p.tables e below (T83.setTop (mkF m 134 #[iv p1, rv b2, iv (7 : Int32), .unset] [])) _
      refine XS.iconst X83.here hx rfl (hb hby at_134) ?_
      show Steps p.tables e below (T83.setTop (mkF m 135 #[iv p1, rv b2, iv (7 : Int32), .unset] [(.int (0 : Int32))])) _
      refine XS.istoreN X83.here hx rfl (hb hby at_135) rfl (l' := #[iv p1, rv b2, iv (7 : Int32), iv (0 : Int32)]) rfl ?_
      show Steps p.tables e below (T83.setTop (mkF m 136 #[iv p1, rv b2, iv (7 : Int32), iv (0 : Int32)] [])) _
      refine XS.aloadN X83.here hx rfl (hb hby at_136) rfl rfl ?_
      show Steps p.tables e below (T83.setTop (mkF m 137 #[iv p1, rv b2, iv (7 : Int32), iv (0 : Int32)] [(.ref b2)])) _
      refine XS.iloadN X83.here hx rfl (hb hby at_137) rfl ?_
      show Steps p.tables e below (T83.setTop (mkF m 138 #[iv p1, rv b2, iv (7 : Int32), iv (0 : Int32)] [(.int (7 : Int32)), (.ref b2)])) _
      exact k
    obtain ⟨cl138, Ar138, qc138, S138, M138, U138, G138⟩ := va83
    have hin138 : ¬ ((7 : Int32) < 0 ∨ cl138.slots.size ≤ ((7 : Int32)).toNatClampNeg) := inb_of S138 ⟨by decide, by decide⟩
    have hat138 : cl138.slots[((7 : Int32)).toNatClampNeg]? = some (.ref w_ISO15924) := Has.at U138 hin138 rfl
    have k139 : Way p e below S0 T83 (mkF m 139 #[iv p1, rv b2, iv (7 : Int32), iv (0 : Int32)] [(.ref w_ISO15924)]) := fun t k => k137 t (X83.aaload hx (j := (7 : Int32)) (v := (.ref w_ISO15924)) (by rw [e83]; exact Ar138.1) (State.isArrayOf_alike hZ.alike Ar138.2.1) rfl Ar138.2.2 hin138 hat138 (g := (mkF m 138 #[iv p1, rv b2, iv (7 : Int32), iv (0 : Int32)] [(.int (7 : Int32)), (.ref b2)])) rfl rfl (hb hby at_138) _ k)
    obtain ⟨cq140, kq140, qq140a, qq140b, qq140c⟩ := isOf hZ e83 (E_w_ISO15924.ext O83.2)
    obtain ⟨_, _, ⟨T140, L140, kk140, nn140⟩, -, X140, ⟨Lc140, hQ140, l140, y140, z140⟩, st140⟩ := X83.virtualBack hx (y := (⟨"gradivo/spec/ValueKind", "isList", "()Z"⟩ : MethodName)) (z := (⟨"gradivo/spec/ValueKind", "isList", "()Z"⟩ : MethodName)) hown (mvT hZ (hw _ (List.mem_of_getElem? (i := 37) rfl))) (mvT hZ (hw _ (List.mem_of_getElem? (i := 38) rfl))) (notFace_of_selects (args := #[]) (mvT hZ (hw _ (List.mem_of_getElem? (i := 40) rfl)))) (mvT hZ (hw _ (List.mem_of_getElem? (i := 40) rfl))) (mvT hZ (hw _ (List.mem_of_getElem? (i := 39) rfl))) (by decide) (backOf (W := 0) (isl7 l Z a0 hw [] w_TEXT w_COMPOSITE w_CLOSED_LIST w_LISTED w_URI w_ISO3166_1_ALPHA2 w_ISO639 w_ISO15924 w_POSITIVE_NUMBER w_POSITIVE_INTEGER w_NONNEGATIVE_INTEGER w_ISO8601_DATE w_DIGEST w_PER_TIME_STANDARD w_PER_COORDINATE_SYSTEM w_TIME_SPAN G  h83 n0 O83 ) hZ (hw _ (List.mem_of_getElem? (i := 41) rfl)) (hw _ (List.mem_of_getElem? (i := 3) rfl)) (by decide) (by decide)) qq140a qq140c (g := (mkF m 139 #[iv p1, rv b2, iv (7 : Int32), iv (0 : Int32)] [(.ref w_ISO15924)])) rfl (by rw [hml]; rfl) (Steps.refl _) (argsL := []) (rest := []) (lenOf pd_0 rfl) rfl (by show 2 * 0 + _ ≤ _; exact Nat.le_of_eq rfl) (hb hby at_139) (fun _ _ => ⟨rfl, e83, (by decide : 1 + 0 ≤ _), (by decide : 16 + 0 ≤ _)⟩)
    dsimp only [Pt.U, Pt.locs, Pt.cells, Pt.slots] at X140 l140 y140 z140 st140 hQ140
    subst l140 y140 z140
    obtain ⟨rfl, Nq140, e140⟩ := hQ140
    have N140 := Fr.app N83 Nq140
    have k141 : Way p e below S0 T140 (mkF m 142 #[iv p1, rv b2, iv (7 : Int32), iv (0 : Int32)] [(.int (0 : Int32))]) := fun t k => k139 t (st140.trans k)
    have k142 : Way p e below S0 T140 (mkF m 151 #[iv p1, rv b2, iv (7 : Int32), iv (0 : Int32)] [(.int (1 : Int32))]) := by
      intro t k
      refine k141 t ?_
      refine XS.iloadN X140.here hx rfl (hb hby at_142) rfl ?_
      show Steps p.tables e below (T140.setTop (mkF m 143 #[iv p1, rv b2, iv (7 : Int32), iv (0 : Int32)] [(.int (0 : Int32)), (.int (0 : Int32))])) _
      refine XS.icmpNo X140.here hx rfl (hb hby at_143) rfl (teq ((by decide) : (0 : Int32) = (0 : Int32))).2 ?_
      show Steps p.tables e below (T140.setTop (mkF m 146 #[iv p1, rv b2, iv (7 : Int32), iv (0 : Int32)] [])) _
      refine XS.iconst X140.here hx rfl (hb hby at_146) ?_
      show Steps p.tables e below (T140.setTop (mkF m 147 #[iv p1, rv b2, iv (7 : Int32), iv (0 : Int32)] [(.int (1 : Int32))])) _
      refine XS.goto X140.here hx rfl (pc0 := 147) (pc' := 151) rfl (hb hby at_147) (by decide) (by decide) ?_
      show Steps p.tables e below (T140.setTop (mkF m 151 #[iv p1, rv b2, iv (7 : Int32), iv (0 : Int32)] [(.int (1 : Int32))])) _
      exact k
    obtain ⟨fs, hr, hrun, hended, hW, hsame⟩ := X140.leave (v := some (.int (1 : Int32))) (fun h => by rw [Bd.returns] at h; cases h)
    refine ⟨_, _, k142 _ (retN X140 hx (t := .boolean) Bd.returns (by simp) (hb hby at_151) hr), hrun, hended, _, _, rfl, ?_, ⟨_, rfl⟩, hW, hsame.mono (by decide) (by decide)⟩
    show Q_law_met Z w_TEXT w_COMPOSITE w_CLOSED_LIST w_LISTED w_URI w_ISO3166_1_ALPHA2 w_ISO639 w_ISO15924 w_POSITIVE_NUMBER w_POSITIVE_INTEGER w_NONNEGATIVE_INTEGER w_ISO8601_DATE w_DIGEST w_PER_TIME_STANDARD w_PER_COORDINATE_SYSTEM w_TIME_SPAN p1 h0 n0 _ T140.heap _
    rw [e140]
    exact ⟨rfl, N140⟩
  · have k143 : Way p e below S0 T83 (mkF m 120 #[iv p1, rv b2, iv (8 : Int32), .unset] []) := by have q := k85; rw [hi86] at q; exact q
    have k144 : Way p e below S0 T83 (mkF m 138 #[iv p1, rv b2, iv (8 : Int32), iv (0 : Int32)] [(.int (8 : Int32)), (.ref b2)]) := by
      intro t k
      refine k143 t ?_
      refine XS.iloadN X83.here hx rfl (hb hby at_120) rfl ?_
      show Steps p.tables e below (T83.setTop (mkF m 121 #[iv p1, rv b2, iv (8 : Int32), .unset] [(.int (8 : Int32))])) _
      refine XS.iconst X83.here hx rfl (hb hby at_121) ?_
      show Steps p.tables e below (T83.setTop (mkF m 122 #[iv p1, rv b2, iv (8 : Int32), .unset] [(.int (2 : Int32)), (.int (8 : Int32))])) _
      refine XS.icmpNo X83.here hx rfl (hb hby at_122) rfl (feq ((by decide) : ¬ ((8 : Int32) = (2 : Int32)))).1 ?_
      show Steps p.tables e below (T83.setTop (mkF m 125 #[iv p1, rv b2, iv (8 : Int32), .unset] [])) _
      refine XS.iloadN X83.here hx rfl (hb hby at_125) rfl ?_
      show Steps p.tables e below (T83.setTop (mkF m 126 #[iv p1, rv b2, iv (8 : Int32), .unset] [(.int (8 : Int32))])) _
      refine XS.iconst X83.here hx rfl (hb hby at_126) ?_
      show Steps p.tables e below (T83.setTop (mkF m 127 #[iv p1, rv b2, iv (8 : Int32), .unset] [(.int (3 : Int32)), (.int (8 : Int32))])) _
      refine XS.icmpYes X83.here hx rfl (pc0 := 127) (pc' := 134) rfl (hb hby at_127) rfl (feq ((by decide) : ¬ ((8 : Int32) = (3 : Int32)))).2 (by decide) (by decide) ?_
      show Steps p.tables e below (T83.setTop (mkF m 134 #[iv p1, rv b2, iv (8 : Int32), .unset] [])) _
      refine XS.iconst X83.here hx rfl (hb hby at_134) ?_
      show Steps p.tables e below (T83.setTop (mkF m 135 #[iv p1, rv b2, iv (8 : Int32), .unset] [(.int (0 : Int32))])) _
      refine XS.istoreN X83.here hx rfl (hb hby at_135) rfl (l' := #[iv p1, rv b2, iv (8 : Int32), iv (0 : Int32)]) rfl ?_
      show Steps p.tables e below (T83.setTop (mkF m 136 #[iv p1, rv b2, iv (8 : Int32), iv (0 : Int32)] [])) _
      refine XS.aloadN X83.here hx rfl (hb hby at_136) rfl rfl ?_
      show Steps p.tables e below (T83.setTop (mkF m 137 #[iv p1, rv b2, iv (8 : Int32), iv (0 : Int32)] [(.ref b2)])) _
      refine XS.iloadN X83.here hx rfl (hb hby at_137) rfl ?_
      show Steps p.tables e below (T83.setTop (mkF m 138 #[iv p1, rv b2, iv (8 : Int32), iv (0 : Int32)] [(.int (8 : Int32)), (.ref b2)])) _
      exact k
    obtain ⟨cl145, Ar145, qc145, S145, M145, U145, G145⟩ := va83
    have hin145 : ¬ ((8 : Int32) < 0 ∨ cl145.slots.size ≤ ((8 : Int32)).toNatClampNeg) := inb_of S145 ⟨by decide, by decide⟩
    have hat145 : cl145.slots[((8 : Int32)).toNatClampNeg]? = some (.ref w_POSITIVE_NUMBER) := Has.at U145 hin145 rfl
    have k146 : Way p e below S0 T83 (mkF m 139 #[iv p1, rv b2, iv (8 : Int32), iv (0 : Int32)] [(.ref w_POSITIVE_NUMBER)]) := fun t k => k144 t (X83.aaload hx (j := (8 : Int32)) (v := (.ref w_POSITIVE_NUMBER)) (by rw [e83]; exact Ar145.1) (State.isArrayOf_alike hZ.alike Ar145.2.1) rfl Ar145.2.2 hin145 hat145 (g := (mkF m 138 #[iv p1, rv b2, iv (8 : Int32), iv (0 : Int32)] [(.int (8 : Int32)), (.ref b2)])) rfl rfl (hb hby at_138) _ k)
    obtain ⟨cq147, kq147, qq147a, qq147b, qq147c⟩ := isOf hZ e83 (E_w_POSITIVE_NUMBER.ext O83.2)
    obtain ⟨_, _, ⟨T147, L147, kk147, nn147⟩, -, X147, ⟨Lc147, hQ147, l147, y147, z147⟩, st147⟩ := X83.virtualBack hx (y := (⟨"gradivo/spec/ValueKind", "isList", "()Z"⟩ : MethodName)) (z := (⟨"gradivo/spec/ValueKind", "isList", "()Z"⟩ : MethodName)) hown (mvT hZ (hw _ (List.mem_of_getElem? (i := 37) rfl))) (mvT hZ (hw _ (List.mem_of_getElem? (i := 38) rfl))) (notFace_of_selects (args := #[]) (mvT hZ (hw _ (List.mem_of_getElem? (i := 40) rfl)))) (mvT hZ (hw _ (List.mem_of_getElem? (i := 40) rfl))) (mvT hZ (hw _ (List.mem_of_getElem? (i := 39) rfl))) (by decide) (backOf (W := 0) (isl8 l Z a0 hw [] w_TEXT w_COMPOSITE w_CLOSED_LIST w_LISTED w_URI w_ISO3166_1_ALPHA2 w_ISO639 w_ISO15924 w_POSITIVE_NUMBER w_POSITIVE_INTEGER w_NONNEGATIVE_INTEGER w_ISO8601_DATE w_DIGEST w_PER_TIME_STANDARD w_PER_COORDINATE_SYSTEM w_TIME_SPAN G  h83 n0 O83 ) hZ (hw _ (List.mem_of_getElem? (i := 41) rfl)) (hw _ (List.mem_of_getElem? (i := 3) rfl)) (by decide) (by decide)) qq147a qq147c (g := (mkF m 139 #[iv p1, rv b2, iv (8 : Int32), iv (0 : Int32)] [(.ref w_POSITIVE_NUMBER)])) rfl (by rw [hml]; rfl) (Steps.refl _) (argsL := []) (rest := []) (lenOf pd_0 rfl) rfl (by show 2 * 0 + _ ≤ _; exact Nat.le_of_eq rfl) (hb hby at_139) (fun _ _ => ⟨rfl, e83, (by decide : 1 + 0 ≤ _), (by decide : 16 + 0 ≤ _)⟩)
    dsimp only [Pt.U, Pt.locs, Pt.cells, Pt.slots] at X147 l147 y147 z147 st147 hQ147
    subst l147 y147 z147
    obtain ⟨rfl, Nq147, e147⟩ := hQ147
    have N147 := Fr.app N83 Nq147
    have k148 : Way p e below S0 T147 (mkF m 142 #[iv p1, rv b2, iv (8 : Int32), iv (0 : Int32)] [(.int (0 : Int32))]) := fun t k => k146 t (st147.trans k)
    have k149 : Way p e below S0 T147 (mkF m 151 #[iv p1, rv b2, iv (8 : Int32), iv (0 : Int32)] [(.int (1 : Int32))]) := by
      intro t k
      refine k148 t ?_
      refine XS.iloadN X147.here hx rfl (hb hby at_142) rfl ?_
      show Steps p.tables e below (T147.setTop (mkF m 143 #[iv p1, rv b2, iv (8 : Int32), iv (0 : Int32)] [(.int (0 : Int32)), (.int (0 : Int32))])) _
      refine XS.icmpNo X147.here hx rfl (hb hby at_143) rfl (teq ((by decide) : (0 : Int32) = (0 : Int32))).2 ?_
      show Steps p.tables e below (T147.setTop (mkF m 146 #[iv p1, rv b2, iv (8 : Int32), iv (0 : Int32)] [])) _
      refine XS.iconst X147.here hx rfl (hb hby at_146) ?_
      show Steps p.tables e below (T147.setTop (mkF m 147 #[iv p1, rv b2, iv (8 : Int32), iv (0 : Int32)] [(.int (1 : Int32))])) _
      refine XS.goto X147.here hx rfl (pc0 := 147) (pc' := 151) rfl (hb hby at_147) (by decide) (by decide) ?_
      show Steps p.tables e below (T147.setTop (mkF m 151 #[iv p1, rv b2, iv (8 : Int32), iv (0 : Int32)] [(.int (1 : Int32))])) _
      exact k
    obtain ⟨fs, hr, hrun, hended, hW, hsame⟩ := X147.leave (v := some (.int (1 : Int32))) (fun h => by rw [Bd.returns] at h; cases h)
    refine ⟨_, _, k149 _ (retN X147 hx (t := .boolean) Bd.returns (by simp) (hb hby at_151) hr), hrun, hended, _, _, rfl, ?_, ⟨_, rfl⟩, hW, hsame.mono (by decide) (by decide)⟩
    show Q_law_met Z w_TEXT w_COMPOSITE w_CLOSED_LIST w_LISTED w_URI w_ISO3166_1_ALPHA2 w_ISO639 w_ISO15924 w_POSITIVE_NUMBER w_POSITIVE_INTEGER w_NONNEGATIVE_INTEGER w_ISO8601_DATE w_DIGEST w_PER_TIME_STANDARD w_PER_COORDINATE_SYSTEM w_TIME_SPAN p1 h0 n0 _ T147.heap _
    rw [e147]
    exact ⟨rfl, N147⟩
  · have k150 : Way p e below S0 T83 (mkF m 120 #[iv p1, rv b2, iv (9 : Int32), .unset] []) := by have q := k85; rw [hi86] at q; exact q
    have k151 : Way p e below S0 T83 (mkF m 138 #[iv p1, rv b2, iv (9 : Int32), iv (0 : Int32)] [(.int (9 : Int32)), (.ref b2)]) := by
      intro t k
      refine k150 t ?_
      refine XS.iloadN X83.here hx rfl (hb hby at_120) rfl ?_
      show Steps p.tables e below (T83.setTop (mkF m 121 #[iv p1, rv b2, iv (9 : Int32), .unset] [(.int (9 : Int32))])) _
      refine XS.iconst X83.here hx rfl (hb hby at_121) ?_
      show Steps p.tables e below (T83.setTop (mkF m 122 #[iv p1, rv b2, iv (9 : Int32), .unset] [(.int (2 : Int32)), (.int (9 : Int32))])) _
      refine XS.icmpNo X83.here hx rfl (hb hby at_122) rfl (feq ((by decide) : ¬ ((9 : Int32) = (2 : Int32)))).1 ?_
      show Steps p.tables e below (T83.setTop (mkF m 125 #[iv p1, rv b2, iv (9 : Int32), .unset] [])) _
      refine XS.iloadN X83.here hx rfl (hb hby at_125) rfl ?_
      show Steps p.tables e below (T83.setTop (mkF m 126 #[iv p1, rv b2, iv (9 : Int32), .unset] [(.int (9 : Int32))])) _
      refine XS.iconst X83.here hx rfl (hb hby at_126) ?_
      show Steps p.tables e below (T83.setTop (mkF m 127 #[iv p1, rv b2, iv (9 : Int32), .unset] [(.int (3 : Int32)), (.int (9 : Int32))])) _
      refine XS.icmpYes X83.here hx rfl (pc0 := 127) (pc' := 134) rfl (hb hby at_127) rfl (feq ((by decide) : ¬ ((9 : Int32) = (3 : Int32)))).2 (by decide) (by decide) ?_
      show Steps p.tables e below (T83.setTop (mkF m 134 #[iv p1, rv b2, iv (9 : Int32), .unset] [])) _
      refine XS.iconst X83.here hx rfl (hb hby at_134) ?_
      show Steps p.tables e below (T83.setTop (mkF m 135 #[iv p1, rv b2, iv (9 : Int32), .unset] [(.int (0 : Int32))])) _
      refine XS.istoreN X83.here hx rfl (hb hby at_135) rfl (l' := #[iv p1, rv b2, iv (9 : Int32), iv (0 : Int32)]) rfl ?_
      show Steps p.tables e below (T83.setTop (mkF m 136 #[iv p1, rv b2, iv (9 : Int32), iv (0 : Int32)] [])) _
      refine XS.aloadN X83.here hx rfl (hb hby at_136) rfl rfl ?_
      show Steps p.tables e below (T83.setTop (mkF m 137 #[iv p1, rv b2, iv (9 : Int32), iv (0 : Int32)] [(.ref b2)])) _
      refine XS.iloadN X83.here hx rfl (hb hby at_137) rfl ?_
      show Steps p.tables e below (T83.setTop (mkF m 138 #[iv p1, rv b2, iv (9 : Int32), iv (0 : Int32)] [(.int (9 : Int32)), (.ref b2)])) _
      exact k
    obtain ⟨cl152, Ar152, qc152, S152, M152, U152, G152⟩ := va83
    have hin152 : ¬ ((9 : Int32) < 0 ∨ cl152.slots.size ≤ ((9 : Int32)).toNatClampNeg) := inb_of S152 ⟨by decide, by decide⟩
    have hat152 : cl152.slots[((9 : Int32)).toNatClampNeg]? = some (.ref w_POSITIVE_INTEGER) := Has.at U152 hin152 rfl
    have k153 : Way p e below S0 T83 (mkF m 139 #[iv p1, rv b2, iv (9 : Int32), iv (0 : Int32)] [(.ref w_POSITIVE_INTEGER)]) := fun t k => k151 t (X83.aaload hx (j := (9 : Int32)) (v := (.ref w_POSITIVE_INTEGER)) (by rw [e83]; exact Ar152.1) (State.isArrayOf_alike hZ.alike Ar152.2.1) rfl Ar152.2.2 hin152 hat152 (g := (mkF m 138 #[iv p1, rv b2, iv (9 : Int32), iv (0 : Int32)] [(.int (9 : Int32)), (.ref b2)])) rfl rfl (hb hby at_138) _ k)
    obtain ⟨cq154, kq154, qq154a, qq154b, qq154c⟩ := isOf hZ e83 (E_w_POSITIVE_INTEGER.ext O83.2)
    obtain ⟨_, _, ⟨T154, L154, kk154, nn154⟩, -, X154, ⟨Lc154, hQ154, l154, y154, z154⟩, st154⟩ := X83.virtualBack hx (y := (⟨"gradivo/spec/ValueKind", "isList", "()Z"⟩ : MethodName)) (z := (⟨"gradivo/spec/ValueKind", "isList", "()Z"⟩ : MethodName)) hown (mvT hZ (hw _ (List.mem_of_getElem? (i := 37) rfl))) (mvT hZ (hw _ (List.mem_of_getElem? (i := 38) rfl))) (notFace_of_selects (args := #[]) (mvT hZ (hw _ (List.mem_of_getElem? (i := 40) rfl)))) (mvT hZ (hw _ (List.mem_of_getElem? (i := 40) rfl))) (mvT hZ (hw _ (List.mem_of_getElem? (i := 39) rfl))) (by decide) (backOf (W := 0) (isl9 l Z a0 hw [] w_TEXT w_COMPOSITE w_CLOSED_LIST w_LISTED w_URI w_ISO3166_1_ALPHA2 w_ISO639 w_ISO15924 w_POSITIVE_NUMBER w_POSITIVE_INTEGER w_NONNEGATIVE_INTEGER w_ISO8601_DATE w_DIGEST w_PER_TIME_STANDARD w_PER_COORDINATE_SYSTEM w_TIME_SPAN G  h83 n0 O83 ) hZ (hw _ (List.mem_of_getElem? (i := 41) rfl)) (hw _ (List.mem_of_getElem? (i := 3) rfl)) (by decide) (by decide)) qq154a qq154c (g := (mkF m 139 #[iv p1, rv b2, iv (9 : Int32), iv (0 : Int32)] [(.ref w_POSITIVE_INTEGER)])) rfl (by rw [hml]; rfl) (Steps.refl _) (argsL := []) (rest := []) (lenOf pd_0 rfl) rfl (by show 2 * 0 + _ ≤ _; exact Nat.le_of_eq rfl) (hb hby at_139) (fun _ _ => ⟨rfl, e83, (by decide : 1 + 0 ≤ _), (by decide : 16 + 0 ≤ _)⟩)
    dsimp only [Pt.U, Pt.locs, Pt.cells, Pt.slots] at X154 l154 y154 z154 st154 hQ154
    subst l154 y154 z154
    obtain ⟨rfl, Nq154, e154⟩ := hQ154
    have N154 := Fr.app N83 Nq154
    have k155 : Way p e below S0 T154 (mkF m 142 #[iv p1, rv b2, iv (9 : Int32), iv (0 : Int32)] [(.int (0 : Int32))]) := fun t k => k153 t (st154.trans k)
    have k156 : Way p e below S0 T154 (mkF m 151 #[iv p1, rv b2, iv (9 : Int32), iv (0 : Int32)] [(.int (1 : Int32))]) := by
      intro t k
      refine k155 t ?_
      refine XS.iloadN X154.here hx rfl (hb hby at_142) rfl ?_
      show Steps p.tables e below (T154.setTop (mkF m 143 #[iv p1, rv b2, iv (9 : Int32), iv (0 : Int32)] [(.int (0 : Int32)), (.int (0 : Int32))])) _
      refine XS.icmpNo X154.here hx rfl (hb hby at_143) rfl (teq ((by decide) : (0 : Int32) = (0 : Int32))).2 ?_
      show Steps p.tables e below (T154.setTop (mkF m 146 #[iv p1, rv b2, iv (9 : Int32), iv (0 : Int32)] [])) _
      refine XS.iconst X154.here hx rfl (hb hby at_146) ?_
      show Steps p.tables e below (T154.setTop (mkF m 147 #[iv p1, rv b2, iv (9 : Int32), iv (0 : Int32)] [(.int (1 : Int32))])) _
      refine XS.goto X154.here hx rfl (pc0 := 147) (pc' := 151) rfl (hb hby at_147) (by decide) (by decide) ?_
      show Steps p.tables e below (T154.setTop (mkF m 151 #[iv p1, rv b2, iv (9 : Int32), iv (0 : Int32)] [(.int (1 : Int32))])) _
      exact k
    obtain ⟨fs, hr, hrun, hended, hW, hsame⟩ := X154.leave (v := some (.int (1 : Int32))) (fun h => by rw [Bd.returns] at h; cases h)
    refine ⟨_, _, k156 _ (retN X154 hx (t := .boolean) Bd.returns (by simp) (hb hby at_151) hr), hrun, hended, _, _, rfl, ?_, ⟨_, rfl⟩, hW, hsame.mono (by decide) (by decide)⟩
    show Q_law_met Z w_TEXT w_COMPOSITE w_CLOSED_LIST w_LISTED w_URI w_ISO3166_1_ALPHA2 w_ISO639 w_ISO15924 w_POSITIVE_NUMBER w_POSITIVE_INTEGER w_NONNEGATIVE_INTEGER w_ISO8601_DATE w_DIGEST w_PER_TIME_STANDARD w_PER_COORDINATE_SYSTEM w_TIME_SPAN p1 h0 n0 _ T154.heap _
    rw [e154]
    exact ⟨rfl, N154⟩
  · have k157 : Way p e below S0 T83 (mkF m 120 #[iv p1, rv b2, iv (10 : Int32), .unset] []) := by have q := k85; rw [hi86] at q; exact q
    have k158 : Way p e below S0 T83 (mkF m 138 #[iv p1, rv b2, iv (10 : Int32), iv (0 : Int32)] [(.int (10 : Int32)), (.ref b2)]) := by
      intro t k
      refine k157 t ?_
      refine XS.iloadN X83.here hx rfl (hb hby at_120) rfl ?_
      show Steps p.tables e below (T83.setTop (mkF m 121 #[iv p1, rv b2, iv (10 : Int32), .unset] [(.int (10 : Int32))])) _
      refine XS.iconst X83.here hx rfl (hb hby at_121) ?_
      show Steps p.tables e below (T83.setTop (mkF m 122 #[iv p1, rv b2, iv (10 : Int32), .unset] [(.int (2 : Int32)), (.int (10 : Int32))])) _
      refine XS.icmpNo X83.here hx rfl (hb hby at_122) rfl (feq ((by decide) : ¬ ((10 : Int32) = (2 : Int32)))).1 ?_
      show Steps p.tables e below (T83.setTop (mkF m 125 #[iv p1, rv b2, iv (10 : Int32), .unset] [])) _
      refine XS.iloadN X83.here hx rfl (hb hby at_125) rfl ?_
      show Steps p.tables e below (T83.setTop (mkF m 126 #[iv p1, rv b2, iv (10 : Int32), .unset] [(.int (10 : Int32))])) _
      refine XS.iconst X83.here hx rfl (hb hby at_126) ?_
      show Steps p.tables e below (T83.setTop (mkF m 127 #[iv p1, rv b2, iv (10 : Int32), .unset] [(.int (3 : Int32)), (.int (10 : Int32))])) _
      refine XS.icmpYes X83.here hx rfl (pc0 := 127) (pc' := 134) rfl (hb hby at_127) rfl (feq ((by decide) : ¬ ((10 : Int32) = (3 : Int32)))).2 (by decide) (by decide) ?_
      show Steps p.tables e below (T83.setTop (mkF m 134 #[iv p1, rv b2, iv (10 : Int32), .unset] [])) _
      refine XS.iconst X83.here hx rfl (hb hby at_134) ?_
      show Steps p.tables e below (T83.setTop (mkF m 135 #[iv p1, rv b2, iv (10 : Int32), .unset] [(.int (0 : Int32))])) _
      refine XS.istoreN X83.here hx rfl (hb hby at_135) rfl (l' := #[iv p1, rv b2, iv (10 : Int32), iv (0 : Int32)]) rfl ?_
      show Steps p.tables e below (T83.setTop (mkF m 136 #[iv p1, rv b2, iv (10 : Int32), iv (0 : Int32)] [])) _
      refine XS.aloadN X83.here hx rfl (hb hby at_136) rfl rfl ?_
      show Steps p.tables e below (T83.setTop (mkF m 137 #[iv p1, rv b2, iv (10 : Int32), iv (0 : Int32)] [(.ref b2)])) _
      refine XS.iloadN X83.here hx rfl (hb hby at_137) rfl ?_
      show Steps p.tables e below (T83.setTop (mkF m 138 #[iv p1, rv b2, iv (10 : Int32), iv (0 : Int32)] [(.int (10 : Int32)), (.ref b2)])) _
      exact k
    obtain ⟨cl159, Ar159, qc159, S159, M159, U159, G159⟩ := va83
    have hin159 : ¬ ((10 : Int32) < 0 ∨ cl159.slots.size ≤ ((10 : Int32)).toNatClampNeg) := inb_of S159 ⟨by decide, by decide⟩
    have hat159 : cl159.slots[((10 : Int32)).toNatClampNeg]? = some (.ref w_NONNEGATIVE_INTEGER) := Has.at U159 hin159 rfl
    have k160 : Way p e below S0 T83 (mkF m 139 #[iv p1, rv b2, iv (10 : Int32), iv (0 : Int32)] [(.ref w_NONNEGATIVE_INTEGER)]) := fun t k => k158 t (X83.aaload hx (j := (10 : Int32)) (v := (.ref w_NONNEGATIVE_INTEGER)) (by rw [e83]; exact Ar159.1) (State.isArrayOf_alike hZ.alike Ar159.2.1) rfl Ar159.2.2 hin159 hat159 (g := (mkF m 138 #[iv p1, rv b2, iv (10 : Int32), iv (0 : Int32)] [(.int (10 : Int32)), (.ref b2)])) rfl rfl (hb hby at_138) _ k)
    obtain ⟨cq161, kq161, qq161a, qq161b, qq161c⟩ := isOf hZ e83 (E_w_NONNEGATIVE_INTEGER.ext O83.2)
    obtain ⟨_, _, ⟨T161, L161, kk161, nn161⟩, -, X161, ⟨Lc161, hQ161, l161, y161, z161⟩, st161⟩ := X83.virtualBack hx (y := (⟨"gradivo/spec/ValueKind", "isList", "()Z"⟩ : MethodName)) (z := (⟨"gradivo/spec/ValueKind", "isList", "()Z"⟩ : MethodName)) hown (mvT hZ (hw _ (List.mem_of_getElem? (i := 37) rfl))) (mvT hZ (hw _ (List.mem_of_getElem? (i := 38) rfl))) (notFace_of_selects (args := #[]) (mvT hZ (hw _ (List.mem_of_getElem? (i := 40) rfl)))) (mvT hZ (hw _ (List.mem_of_getElem? (i := 40) rfl))) (mvT hZ (hw _ (List.mem_of_getElem? (i := 39) rfl))) (by decide) (backOf (W := 0) (isl10 l Z a0 hw [] w_TEXT w_COMPOSITE w_CLOSED_LIST w_LISTED w_URI w_ISO3166_1_ALPHA2 w_ISO639 w_ISO15924 w_POSITIVE_NUMBER w_POSITIVE_INTEGER w_NONNEGATIVE_INTEGER w_ISO8601_DATE w_DIGEST w_PER_TIME_STANDARD w_PER_COORDINATE_SYSTEM w_TIME_SPAN G  h83 n0 O83 ) hZ (hw _ (List.mem_of_getElem? (i := 41) rfl)) (hw _ (List.mem_of_getElem? (i := 3) rfl)) (by decide) (by decide)) qq161a qq161c (g := (mkF m 139 #[iv p1, rv b2, iv (10 : Int32), iv (0 : Int32)] [(.ref w_NONNEGATIVE_INTEGER)])) rfl (by rw [hml]; rfl) (Steps.refl _) (argsL := []) (rest := []) (lenOf pd_0 rfl) rfl (by show 2 * 0 + _ ≤ _; exact Nat.le_of_eq rfl) (hb hby at_139) (fun _ _ => ⟨rfl, e83, (by decide : 1 + 0 ≤ _), (by decide : 16 + 0 ≤ _)⟩)
    dsimp only [Pt.U, Pt.locs, Pt.cells, Pt.slots] at X161 l161 y161 z161 st161 hQ161
    subst l161 y161 z161
    obtain ⟨rfl, Nq161, e161⟩ := hQ161
    have N161 := Fr.app N83 Nq161
    have k162 : Way p e below S0 T161 (mkF m 142 #[iv p1, rv b2, iv (10 : Int32), iv (0 : Int32)] [(.int (0 : Int32))]) := fun t k => k160 t (st161.trans k)
    have k163 : Way p e below S0 T161 (mkF m 151 #[iv p1, rv b2, iv (10 : Int32), iv (0 : Int32)] [(.int (1 : Int32))]) := by
      intro t k
      refine k162 t ?_
      refine XS.iloadN X161.here hx rfl (hb hby at_142) rfl ?_
      show Steps p.tables e below (T161.setTop (mkF m 143 #[iv p1, rv b2, iv (10 : Int32), iv (0 : Int32)] [(.int (0 : Int32)), (.int (0 : Int32))])) _
      refine XS.icmpNo X161.here hx rfl (hb hby at_143) rfl (teq ((by decide) : (0 : Int32) = (0 : Int32))).2 ?_
      show Steps p.tables e below (T161.setTop (mkF m 146 #[iv p1, rv b2, iv (10 : Int32), iv (0 : Int32)] [])) _
      refine XS.iconst X161.here hx rfl (hb hby at_146) ?_
      show Steps p.tables e below (T161.setTop (mkF m 147 #[iv p1, rv b2, iv (10 : Int32), iv (0 : Int32)] [(.int (1 : Int32))])) _
      refine XS.goto X161.here hx rfl (pc0 := 147) (pc' := 151) rfl (hb hby at_147) (by decide) (by decide) ?_
      show Steps p.tables e below (T161.setTop (mkF m 151 #[iv p1, rv b2, iv (10 : Int32), iv (0 : Int32)] [(.int (1 : Int32))])) _
      exact k
    obtain ⟨fs, hr, hrun, hended, hW, hsame⟩ := X161.leave (v := some (.int (1 : Int32))) (fun h => by rw [Bd.returns] at h; cases h)
    refine ⟨_, _, k163 _ (retN X161 hx (t := .boolean) Bd.returns (by simp) (hb hby at_151) hr), hrun, hended, _, _, rfl, ?_, ⟨_, rfl⟩, hW, hsame.mono (by decide) (by decide)⟩
    show Q_law_met Z w_TEXT w_COMPOSITE w_CLOSED_LIST w_LISTED w_URI w_ISO3166_1_ALPHA2 w_ISO639 w_ISO15924 w_POSITIVE_NUMBER w_POSITIVE_INTEGER w_NONNEGATIVE_INTEGER w_ISO8601_DATE w_DIGEST w_PER_TIME_STANDARD w_PER_COORDINATE_SYSTEM w_TIME_SPAN p1 h0 n0 _ T161.heap _
    rw [e161]
    exact ⟨rfl, N161⟩
  · have k164 : Way p e below S0 T83 (mkF m 120 #[iv p1, rv b2, iv (11 : Int32), .unset] []) := by have q := k85; rw [hi86] at q; exact q
    have k165 : Way p e below S0 T83 (mkF m 138 #[iv p1, rv b2, iv (11 : Int32), iv (0 : Int32)] [(.int (11 : Int32)), (.ref b2)]) := by
      intro t k
      refine k164 t ?_
      refine XS.iloadN X83.here hx rfl (hb hby at_120) rfl ?_
      show Steps p.tables e below (T83.setTop (mkF m 121 #[iv p1, rv b2, iv (11 : Int32), .unset] [(.int (11 : Int32))])) _
      refine XS.iconst X83.here hx rfl (hb hby at_121) ?_
      show Steps p.tables e below (T83.setTop (mkF m 122 #[iv p1, rv b2, iv (11 : Int32), .unset] [(.int (2 : Int32)), (.int (11 : Int32))])) _
      refine XS.icmpNo X83.here hx rfl (hb hby at_122) rfl (feq ((by decide) : ¬ ((11 : Int32) = (2 : Int32)))).1 ?_
      show Steps p.tables e below (T83.setTop (mkF m 125 #[iv p1, rv b2, iv (11 : Int32), .unset] [])) _
      refine XS.iloadN X83.here hx rfl (hb hby at_125) rfl ?_
      show Steps p.tables e below (T83.setTop (mkF m 126 #[iv p1, rv b2, iv (11 : Int32), .unset] [(.int (11 : Int32))])) _
      refine XS.iconst X83.here hx rfl (hb hby at_126) ?_
      show Steps p.tables e below (T83.setTop (mkF m 127 #[iv p1, rv b2, iv (11 : Int32), .unset] [(.int (3 : Int32)), (.int (11 : Int32))])) _
      refine XS.icmpYes X83.here hx rfl (pc0 := 127) (pc' := 134) rfl (hb hby at_127) rfl (feq ((by decide) : ¬ ((11 : Int32) = (3 : Int32)))).2 (by decide) (by decide) ?_
      show Steps p.tables e below (T83.setTop (mkF m 134 #[iv p1, rv b2, iv (11 : Int32), .unset] [])) _
      refine XS.iconst X83.here hx rfl (hb hby at_134) ?_
      show Steps p.tables e below (T83.setTop (mkF m 135 #[iv p1, rv b2, iv (11 : Int32), .unset] [(.int (0 : Int32))])) _
      refine XS.istoreN X83.here hx rfl (hb hby at_135) rfl (l' := #[iv p1, rv b2, iv (11 : Int32), iv (0 : Int32)]) rfl ?_
      show Steps p.tables e below (T83.setTop (mkF m 136 #[iv p1, rv b2, iv (11 : Int32), iv (0 : Int32)] [])) _
      refine XS.aloadN X83.here hx rfl (hb hby at_136) rfl rfl ?_
      show Steps p.tables e below (T83.setTop (mkF m 137 #[iv p1, rv b2, iv (11 : Int32), iv (0 : Int32)] [(.ref b2)])) _
      refine XS.iloadN X83.here hx rfl (hb hby at_137) rfl ?_
      show Steps p.tables e below (T83.setTop (mkF m 138 #[iv p1, rv b2, iv (11 : Int32), iv (0 : Int32)] [(.int (11 : Int32)), (.ref b2)])) _
      exact k
    obtain ⟨cl166, Ar166, qc166, S166, M166, U166, G166⟩ := va83
    have hin166 : ¬ ((11 : Int32) < 0 ∨ cl166.slots.size ≤ ((11 : Int32)).toNatClampNeg) := inb_of S166 ⟨by decide, by decide⟩
    have hat166 : cl166.slots[((11 : Int32)).toNatClampNeg]? = some (.ref w_ISO8601_DATE) := Has.at U166 hin166 rfl
    have k167 : Way p e below S0 T83 (mkF m 139 #[iv p1, rv b2, iv (11 : Int32), iv (0 : Int32)] [(.ref w_ISO8601_DATE)]) := fun t k => k165 t (X83.aaload hx (j := (11 : Int32)) (v := (.ref w_ISO8601_DATE)) (by rw [e83]; exact Ar166.1) (State.isArrayOf_alike hZ.alike Ar166.2.1) rfl Ar166.2.2 hin166 hat166 (g := (mkF m 138 #[iv p1, rv b2, iv (11 : Int32), iv (0 : Int32)] [(.int (11 : Int32)), (.ref b2)])) rfl rfl (hb hby at_138) _ k)
    obtain ⟨cq168, kq168, qq168a, qq168b, qq168c⟩ := isOf hZ e83 (E_w_ISO8601_DATE.ext O83.2)
    obtain ⟨_, _, ⟨T168, L168, kk168, nn168⟩, -, X168, ⟨Lc168, hQ168, l168, y168, z168⟩, st168⟩ := X83.virtualBack hx (y := (⟨"gradivo/spec/ValueKind", "isList", "()Z"⟩ : MethodName)) (z := (⟨"gradivo/spec/ValueKind", "isList", "()Z"⟩ : MethodName)) hown (mvT hZ (hw _ (List.mem_of_getElem? (i := 37) rfl))) (mvT hZ (hw _ (List.mem_of_getElem? (i := 38) rfl))) (notFace_of_selects (args := #[]) (mvT hZ (hw _ (List.mem_of_getElem? (i := 40) rfl)))) (mvT hZ (hw _ (List.mem_of_getElem? (i := 40) rfl))) (mvT hZ (hw _ (List.mem_of_getElem? (i := 39) rfl))) (by decide) (backOf (W := 0) (isl11 l Z a0 hw [] w_TEXT w_COMPOSITE w_CLOSED_LIST w_LISTED w_URI w_ISO3166_1_ALPHA2 w_ISO639 w_ISO15924 w_POSITIVE_NUMBER w_POSITIVE_INTEGER w_NONNEGATIVE_INTEGER w_ISO8601_DATE w_DIGEST w_PER_TIME_STANDARD w_PER_COORDINATE_SYSTEM w_TIME_SPAN G  h83 n0 O83 ) hZ (hw _ (List.mem_of_getElem? (i := 41) rfl)) (hw _ (List.mem_of_getElem? (i := 3) rfl)) (by decide) (by decide)) qq168a qq168c (g := (mkF m 139 #[iv p1, rv b2, iv (11 : Int32), iv (0 : Int32)] [(.ref w_ISO8601_DATE)])) rfl (by rw [hml]; rfl) (Steps.refl _) (argsL := []) (rest := []) (lenOf pd_0 rfl) rfl (by show 2 * 0 + _ ≤ _; exact Nat.le_of_eq rfl) (hb hby at_139) (fun _ _ => ⟨rfl, e83, (by decide : 1 + 0 ≤ _), (by decide : 16 + 0 ≤ _)⟩)
    dsimp only [Pt.U, Pt.locs, Pt.cells, Pt.slots] at X168 l168 y168 z168 st168 hQ168
    subst l168 y168 z168
    obtain ⟨rfl, Nq168, e168⟩ := hQ168
    have N168 := Fr.app N83 Nq168
    have k169 : Way p e below S0 T168 (mkF m 142 #[iv p1, rv b2, iv (11 : Int32), iv (0 : Int32)] [(.int (0 : Int32))]) := fun t k => k167 t (st168.trans k)
    have k170 : Way p e below S0 T168 (mkF m 151 #[iv p1, rv b2, iv (11 : Int32), iv (0 : Int32)] [(.int (1 : Int32))]) := by
      intro t k
      refine k169 t ?_
      refine XS.iloadN X168.here hx rfl (hb hby at_142) rfl ?_
      show Steps p.tables e below (T168.setTop (mkF m 143 #[iv p1, rv b2, iv (11 : Int32), iv (0 : Int32)] [(.int (0 : Int32)), (.int (0 : Int32))])) _
      refine XS.icmpNo X168.here hx rfl (hb hby at_143) rfl (teq ((by decide) : (0 : Int32) = (0 : Int32))).2 ?_
      show Steps p.tables e below (T168.setTop (mkF m 146 #[iv p1, rv b2, iv (11 : Int32), iv (0 : Int32)] [])) _
      refine XS.iconst X168.here hx rfl (hb hby at_146) ?_
      show Steps p.tables e below (T168.setTop (mkF m 147 #[iv p1, rv b2, iv (11 : Int32), iv (0 : Int32)] [(.int (1 : Int32))])) _
      refine XS.goto X168.here hx rfl (pc0 := 147) (pc' := 151) rfl (hb hby at_147) (by decide) (by decide) ?_
      show Steps p.tables e below (T168.setTop (mkF m 151 #[iv p1, rv b2, iv (11 : Int32), iv (0 : Int32)] [(.int (1 : Int32))])) _
      exact k
    obtain ⟨fs, hr, hrun, hended, hW, hsame⟩ := X168.leave (v := some (.int (1 : Int32))) (fun h => by rw [Bd.returns] at h; cases h)
    refine ⟨_, _, k170 _ (retN X168 hx (t := .boolean) Bd.returns (by simp) (hb hby at_151) hr), hrun, hended, _, _, rfl, ?_, ⟨_, rfl⟩, hW, hsame.mono (by decide) (by decide)⟩
    show Q_law_met Z w_TEXT w_COMPOSITE w_CLOSED_LIST w_LISTED w_URI w_ISO3166_1_ALPHA2 w_ISO639 w_ISO15924 w_POSITIVE_NUMBER w_POSITIVE_INTEGER w_NONNEGATIVE_INTEGER w_ISO8601_DATE w_DIGEST w_PER_TIME_STANDARD w_PER_COORDINATE_SYSTEM w_TIME_SPAN p1 h0 n0 _ T168.heap _
    rw [e168]
    exact ⟨rfl, N168⟩
  · have k171 : Way p e below S0 T83 (mkF m 120 #[iv p1, rv b2, iv (12 : Int32), .unset] []) := by have q := k85; rw [hi86] at q; exact q
    have k172 : Way p e below S0 T83 (mkF m 138 #[iv p1, rv b2, iv (12 : Int32), iv (0 : Int32)] [(.int (12 : Int32)), (.ref b2)]) := by
      intro t k
      refine k171 t ?_
      refine XS.iloadN X83.here hx rfl (hb hby at_120) rfl ?_
      show Steps p.tables e below (T83.setTop (mkF m 121 #[iv p1, rv b2, iv (12 : Int32), .unset] [(.int (12 : Int32))])) _
      refine XS.iconst X83.here hx rfl (hb hby at_121) ?_
      show Steps p.tables e below (T83.setTop (mkF m 122 #[iv p1, rv b2, iv (12 : Int32), .unset] [(.int (2 : Int32)), (.int (12 : Int32))])) _
      refine XS.icmpNo X83.here hx rfl (hb hby at_122) rfl (feq ((by decide) : ¬ ((12 : Int32) = (2 : Int32)))).1 ?_
      show Steps p.tables e below (T83.setTop (mkF m 125 #[iv p1, rv b2, iv (12 : Int32), .unset] [])) _
      refine XS.iloadN X83.here hx rfl (hb hby at_125) rfl ?_
      show Steps p.tables e below (T83.setTop (mkF m 126 #[iv p1, rv b2, iv (12 : Int32), .unset] [(.int (12 : Int32))])) _
      refine XS.iconst X83.here hx rfl (hb hby at_126) ?_
      show Steps p.tables e below (T83.setTop (mkF m 127 #[iv p1, rv b2, iv (12 : Int32), .unset] [(.int (3 : Int32)), (.int (12 : Int32))])) _
      refine XS.icmpYes X83.here hx rfl (pc0 := 127) (pc' := 134) rfl (hb hby at_127) rfl (feq ((by decide) : ¬ ((12 : Int32) = (3 : Int32)))).2 (by decide) (by decide) ?_
      show Steps p.tables e below (T83.setTop (mkF m 134 #[iv p1, rv b2, iv (12 : Int32), .unset] [])) _
      refine XS.iconst X83.here hx rfl (hb hby at_134) ?_
      show Steps p.tables e below (T83.setTop (mkF m 135 #[iv p1, rv b2, iv (12 : Int32), .unset] [(.int (0 : Int32))])) _
      refine XS.istoreN X83.here hx rfl (hb hby at_135) rfl (l' := #[iv p1, rv b2, iv (12 : Int32), iv (0 : Int32)]) rfl ?_
      show Steps p.tables e below (T83.setTop (mkF m 136 #[iv p1, rv b2, iv (12 : Int32), iv (0 : Int32)] [])) _
      refine XS.aloadN X83.here hx rfl (hb hby at_136) rfl rfl ?_
      show Steps p.tables e below (T83.setTop (mkF m 137 #[iv p1, rv b2, iv (12 : Int32), iv (0 : Int32)] [(.ref b2)])) _
      refine XS.iloadN X83.here hx rfl (hb hby at_137) rfl ?_
      show Steps p.tables e below (T83.setTop (mkF m 138 #[iv p1, rv b2, iv (12 : Int32), iv (0 : Int32)] [(.int (12 : Int32)), (.ref b2)])) _
      exact k
    obtain ⟨cl173, Ar173, qc173, S173, M173, U173, G173⟩ := va83
    have hin173 : ¬ ((12 : Int32) < 0 ∨ cl173.slots.size ≤ ((12 : Int32)).toNatClampNeg) := inb_of S173 ⟨by decide, by decide⟩
    have hat173 : cl173.slots[((12 : Int32)).toNatClampNeg]? = some (.ref w_DIGEST) := Has.at U173 hin173 rfl
    have k174 : Way p e below S0 T83 (mkF m 139 #[iv p1, rv b2, iv (12 : Int32), iv (0 : Int32)] [(.ref w_DIGEST)]) := fun t k => k172 t (X83.aaload hx (j := (12 : Int32)) (v := (.ref w_DIGEST)) (by rw [e83]; exact Ar173.1) (State.isArrayOf_alike hZ.alike Ar173.2.1) rfl Ar173.2.2 hin173 hat173 (g := (mkF m 138 #[iv p1, rv b2, iv (12 : Int32), iv (0 : Int32)] [(.int (12 : Int32)), (.ref b2)])) rfl rfl (hb hby at_138) _ k)
    obtain ⟨cq175, kq175, qq175a, qq175b, qq175c⟩ := isOf hZ e83 (E_w_DIGEST.ext O83.2)
    obtain ⟨_, _, ⟨T175, L175, kk175, nn175⟩, -, X175, ⟨Lc175, hQ175, l175, y175, z175⟩, st175⟩ := X83.virtualBack hx (y := (⟨"gradivo/spec/ValueKind", "isList", "()Z"⟩ : MethodName)) (z := (⟨"gradivo/spec/ValueKind", "isList", "()Z"⟩ : MethodName)) hown (mvT hZ (hw _ (List.mem_of_getElem? (i := 37) rfl))) (mvT hZ (hw _ (List.mem_of_getElem? (i := 38) rfl))) (notFace_of_selects (args := #[]) (mvT hZ (hw _ (List.mem_of_getElem? (i := 40) rfl)))) (mvT hZ (hw _ (List.mem_of_getElem? (i := 40) rfl))) (mvT hZ (hw _ (List.mem_of_getElem? (i := 39) rfl))) (by decide) (backOf (W := 0) (isl12 l Z a0 hw [] w_TEXT w_COMPOSITE w_CLOSED_LIST w_LISTED w_URI w_ISO3166_1_ALPHA2 w_ISO639 w_ISO15924 w_POSITIVE_NUMBER w_POSITIVE_INTEGER w_NONNEGATIVE_INTEGER w_ISO8601_DATE w_DIGEST w_PER_TIME_STANDARD w_PER_COORDINATE_SYSTEM w_TIME_SPAN G  h83 n0 O83 ) hZ (hw _ (List.mem_of_getElem? (i := 41) rfl)) (hw _ (List.mem_of_getElem? (i := 3) rfl)) (by decide) (by decide)) qq175a qq175c (g := (mkF m 139 #[iv p1, rv b2, iv (12 : Int32), iv (0 : Int32)] [(.ref w_DIGEST)])) rfl (by rw [hml]; rfl) (Steps.refl _) (argsL := []) (rest := []) (lenOf pd_0 rfl) rfl (by show 2 * 0 + _ ≤ _; exact Nat.le_of_eq rfl) (hb hby at_139) (fun _ _ => ⟨rfl, e83, (by decide : 1 + 0 ≤ _), (by decide : 16 + 0 ≤ _)⟩)
    dsimp only [Pt.U, Pt.locs, Pt.cells, Pt.slots] at X175 l175 y175 z175 st175 hQ175
    subst l175 y175 z175
    obtain ⟨rfl, Nq175, e175⟩ := hQ175
    have N175 := Fr.app N83 Nq175
    have k176 : Way p e below S0 T175 (mkF m 142 #[iv p1, rv b2, iv (12 : Int32), iv (0 : Int32)] [(.int (0 : Int32))]) := fun t k => k174 t (st175.trans k)
    have k177 : Way p e below S0 T175 (mkF m 151 #[iv p1, rv b2, iv (12 : Int32), iv (0 : Int32)] [(.int (1 : Int32))]) := by
      intro t k
      refine k176 t ?_
      refine XS.iloadN X175.here hx rfl (hb hby at_142) rfl ?_
      show Steps p.tables e below (T175.setTop (mkF m 143 #[iv p1, rv b2, iv (12 : Int32), iv (0 : Int32)] [(.int (0 : Int32)), (.int (0 : Int32))])) _
      refine XS.icmpNo X175.here hx rfl (hb hby at_143) rfl (teq ((by decide) : (0 : Int32) = (0 : Int32))).2 ?_
      show Steps p.tables e below (T175.setTop (mkF m 146 #[iv p1, rv b2, iv (12 : Int32), iv (0 : Int32)] [])) _
      refine XS.iconst X175.here hx rfl (hb hby at_146) ?_
      show Steps p.tables e below (T175.setTop (mkF m 147 #[iv p1, rv b2, iv (12 : Int32), iv (0 : Int32)] [(.int (1 : Int32))])) _
      refine XS.goto X175.here hx rfl (pc0 := 147) (pc' := 151) rfl (hb hby at_147) (by decide) (by decide) ?_
      show Steps p.tables e below (T175.setTop (mkF m 151 #[iv p1, rv b2, iv (12 : Int32), iv (0 : Int32)] [(.int (1 : Int32))])) _
      exact k
    obtain ⟨fs, hr, hrun, hended, hW, hsame⟩ := X175.leave (v := some (.int (1 : Int32))) (fun h => by rw [Bd.returns] at h; cases h)
    refine ⟨_, _, k177 _ (retN X175 hx (t := .boolean) Bd.returns (by simp) (hb hby at_151) hr), hrun, hended, _, _, rfl, ?_, ⟨_, rfl⟩, hW, hsame.mono (by decide) (by decide)⟩
    show Q_law_met Z w_TEXT w_COMPOSITE w_CLOSED_LIST w_LISTED w_URI w_ISO3166_1_ALPHA2 w_ISO639 w_ISO15924 w_POSITIVE_NUMBER w_POSITIVE_INTEGER w_NONNEGATIVE_INTEGER w_ISO8601_DATE w_DIGEST w_PER_TIME_STANDARD w_PER_COORDINATE_SYSTEM w_TIME_SPAN p1 h0 n0 _ T175.heap _
    rw [e175]
    exact ⟨rfl, N175⟩
  · have k178 : Way p e below S0 T83 (mkF m 120 #[iv p1, rv b2, iv (13 : Int32), .unset] []) := by have q := k85; rw [hi86] at q; exact q
    have k179 : Way p e below S0 T83 (mkF m 138 #[iv p1, rv b2, iv (13 : Int32), iv (0 : Int32)] [(.int (13 : Int32)), (.ref b2)]) := by
      intro t k
      refine k178 t ?_
      refine XS.iloadN X83.here hx rfl (hb hby at_120) rfl ?_
      show Steps p.tables e below (T83.setTop (mkF m 121 #[iv p1, rv b2, iv (13 : Int32), .unset] [(.int (13 : Int32))])) _
      refine XS.iconst X83.here hx rfl (hb hby at_121) ?_
      show Steps p.tables e below (T83.setTop (mkF m 122 #[iv p1, rv b2, iv (13 : Int32), .unset] [(.int (2 : Int32)), (.int (13 : Int32))])) _
      refine XS.icmpNo X83.here hx rfl (hb hby at_122) rfl (feq ((by decide) : ¬ ((13 : Int32) = (2 : Int32)))).1 ?_
      show Steps p.tables e below (T83.setTop (mkF m 125 #[iv p1, rv b2, iv (13 : Int32), .unset] [])) _
      refine XS.iloadN X83.here hx rfl (hb hby at_125) rfl ?_
      show Steps p.tables e below (T83.setTop (mkF m 126 #[iv p1, rv b2, iv (13 : Int32), .unset] [(.int (13 : Int32))])) _
      refine XS.iconst X83.here hx rfl (hb hby at_126) ?_
      show Steps p.tables e below (T83.setTop (mkF m 127 #[iv p1, rv b2, iv (13 : Int32), .unset] [(.int (3 : Int32)), (.int (13 : Int32))])) _
      refine XS.icmpYes X83.here hx rfl (pc0 := 127) (pc' := 134) rfl (hb hby at_127) rfl (feq ((by decide) : ¬ ((13 : Int32) = (3 : Int32)))).2 (by decide) (by decide) ?_
      show Steps p.tables e below (T83.setTop (mkF m 134 #[iv p1, rv b2, iv (13 : Int32), .unset] [])) _
      refine XS.iconst X83.here hx rfl (hb hby at_134) ?_
      show Steps p.tables e below (T83.setTop (mkF m 135 #[iv p1, rv b2, iv (13 : Int32), .unset] [(.int (0 : Int32))])) _
      refine XS.istoreN X83.here hx rfl (hb hby at_135) rfl (l' := #[iv p1, rv b2, iv (13 : Int32), iv (0 : Int32)]) rfl ?_
      show Steps p.tables e below (T83.setTop (mkF m 136 #[iv p1, rv b2, iv (13 : Int32), iv (0 : Int32)] [])) _
      refine XS.aloadN X83.here hx rfl (hb hby at_136) rfl rfl ?_
      show Steps p.tables e below (T83.setTop (mkF m 137 #[iv p1, rv b2, iv (13 : Int32), iv (0 : Int32)] [(.ref b2)])) _
      refine XS.iloadN X83.here hx rfl (hb hby at_137) rfl ?_
      show Steps p.tables e below (T83.setTop (mkF m 138 #[iv p1, rv b2, iv (13 : Int32), iv (0 : Int32)] [(.int (13 : Int32)), (.ref b2)])) _
      exact k
    obtain ⟨cl180, Ar180, qc180, S180, M180, U180, G180⟩ := va83
    have hin180 : ¬ ((13 : Int32) < 0 ∨ cl180.slots.size ≤ ((13 : Int32)).toNatClampNeg) := inb_of S180 ⟨by decide, by decide⟩
    have hat180 : cl180.slots[((13 : Int32)).toNatClampNeg]? = some (.ref w_PER_TIME_STANDARD) := Has.at U180 hin180 rfl
    have k181 : Way p e below S0 T83 (mkF m 139 #[iv p1, rv b2, iv (13 : Int32), iv (0 : Int32)] [(.ref w_PER_TIME_STANDARD)]) := fun t k => k179 t (X83.aaload hx (j := (13 : Int32)) (v := (.ref w_PER_TIME_STANDARD)) (by rw [e83]; exact Ar180.1) (State.isArrayOf_alike hZ.alike Ar180.2.1) rfl Ar180.2.2 hin180 hat180 (g := (mkF m 138 #[iv p1, rv b2, iv (13 : Int32), iv (0 : Int32)] [(.int (13 : Int32)), (.ref b2)])) rfl rfl (hb hby at_138) _ k)
    obtain ⟨cq182, kq182, qq182a, qq182b, qq182c⟩ := isOf hZ e83 (E_w_PER_TIME_STANDARD.ext O83.2)
    obtain ⟨_, _, ⟨T182, L182, kk182, nn182⟩, -, X182, ⟨Lc182, hQ182, l182, y182, z182⟩, st182⟩ := X83.virtualBack hx (y := (⟨"gradivo/spec/ValueKind", "isList", "()Z"⟩ : MethodName)) (z := (⟨"gradivo/spec/ValueKind", "isList", "()Z"⟩ : MethodName)) hown (mvT hZ (hw _ (List.mem_of_getElem? (i := 37) rfl))) (mvT hZ (hw _ (List.mem_of_getElem? (i := 38) rfl))) (notFace_of_selects (args := #[]) (mvT hZ (hw _ (List.mem_of_getElem? (i := 40) rfl)))) (mvT hZ (hw _ (List.mem_of_getElem? (i := 40) rfl))) (mvT hZ (hw _ (List.mem_of_getElem? (i := 39) rfl))) (by decide) (backOf (W := 0) (isl13 l Z a0 hw [] w_TEXT w_COMPOSITE w_CLOSED_LIST w_LISTED w_URI w_ISO3166_1_ALPHA2 w_ISO639 w_ISO15924 w_POSITIVE_NUMBER w_POSITIVE_INTEGER w_NONNEGATIVE_INTEGER w_ISO8601_DATE w_DIGEST w_PER_TIME_STANDARD w_PER_COORDINATE_SYSTEM w_TIME_SPAN G  h83 n0 O83 ) hZ (hw _ (List.mem_of_getElem? (i := 41) rfl)) (hw _ (List.mem_of_getElem? (i := 3) rfl)) (by decide) (by decide)) qq182a qq182c (g := (mkF m 139 #[iv p1, rv b2, iv (13 : Int32), iv (0 : Int32)] [(.ref w_PER_TIME_STANDARD)])) rfl (by rw [hml]; rfl) (Steps.refl _) (argsL := []) (rest := []) (lenOf pd_0 rfl) rfl (by show 2 * 0 + _ ≤ _; exact Nat.le_of_eq rfl) (hb hby at_139) (fun _ _ => ⟨rfl, e83, (by decide : 1 + 0 ≤ _), (by decide : 16 + 0 ≤ _)⟩)
    dsimp only [Pt.U, Pt.locs, Pt.cells, Pt.slots] at X182 l182 y182 z182 st182 hQ182
    subst l182 y182 z182
    obtain ⟨rfl, Nq182, e182⟩ := hQ182
    have N182 := Fr.app N83 Nq182
    have k183 : Way p e below S0 T182 (mkF m 142 #[iv p1, rv b2, iv (13 : Int32), iv (0 : Int32)] [(.int (0 : Int32))]) := fun t k => k181 t (st182.trans k)
    have k184 : Way p e below S0 T182 (mkF m 151 #[iv p1, rv b2, iv (13 : Int32), iv (0 : Int32)] [(.int (1 : Int32))]) := by
      intro t k
      refine k183 t ?_
      refine XS.iloadN X182.here hx rfl (hb hby at_142) rfl ?_
      show Steps p.tables e below (T182.setTop (mkF m 143 #[iv p1, rv b2, iv (13 : Int32), iv (0 : Int32)] [(.int (0 : Int32)), (.int (0 : Int32))])) _
      refine XS.icmpNo X182.here hx rfl (hb hby at_143) rfl (teq ((by decide) : (0 : Int32) = (0 : Int32))).2 ?_
      show Steps p.tables e below (T182.setTop (mkF m 146 #[iv p1, rv b2, iv (13 : Int32), iv (0 : Int32)] [])) _
      refine XS.iconst X182.here hx rfl (hb hby at_146) ?_
      show Steps p.tables e below (T182.setTop (mkF m 147 #[iv p1, rv b2, iv (13 : Int32), iv (0 : Int32)] [(.int (1 : Int32))])) _
      refine XS.goto X182.here hx rfl (pc0 := 147) (pc' := 151) rfl (hb hby at_147) (by decide) (by decide) ?_
      show Steps p.tables e below (T182.setTop (mkF m 151 #[iv p1, rv b2, iv (13 : Int32), iv (0 : Int32)] [(.int (1 : Int32))])) _
      exact k
    obtain ⟨fs, hr, hrun, hended, hW, hsame⟩ := X182.leave (v := some (.int (1 : Int32))) (fun h => by rw [Bd.returns] at h; cases h)
    refine ⟨_, _, k184 _ (retN X182 hx (t := .boolean) Bd.returns (by simp) (hb hby at_151) hr), hrun, hended, _, _, rfl, ?_, ⟨_, rfl⟩, hW, hsame.mono (by decide) (by decide)⟩
    show Q_law_met Z w_TEXT w_COMPOSITE w_CLOSED_LIST w_LISTED w_URI w_ISO3166_1_ALPHA2 w_ISO639 w_ISO15924 w_POSITIVE_NUMBER w_POSITIVE_INTEGER w_NONNEGATIVE_INTEGER w_ISO8601_DATE w_DIGEST w_PER_TIME_STANDARD w_PER_COORDINATE_SYSTEM w_TIME_SPAN p1 h0 n0 _ T182.heap _
    rw [e182]
    exact ⟨rfl, N182⟩
  · have k185 : Way p e below S0 T83 (mkF m 120 #[iv p1, rv b2, iv (14 : Int32), .unset] []) := by have q := k85; rw [hi86] at q; exact q
    have k186 : Way p e below S0 T83 (mkF m 138 #[iv p1, rv b2, iv (14 : Int32), iv (0 : Int32)] [(.int (14 : Int32)), (.ref b2)]) := by
      intro t k
      refine k185 t ?_
      refine XS.iloadN X83.here hx rfl (hb hby at_120) rfl ?_
      show Steps p.tables e below (T83.setTop (mkF m 121 #[iv p1, rv b2, iv (14 : Int32), .unset] [(.int (14 : Int32))])) _
      refine XS.iconst X83.here hx rfl (hb hby at_121) ?_
      show Steps p.tables e below (T83.setTop (mkF m 122 #[iv p1, rv b2, iv (14 : Int32), .unset] [(.int (2 : Int32)), (.int (14 : Int32))])) _
      refine XS.icmpNo X83.here hx rfl (hb hby at_122) rfl (feq ((by decide) : ¬ ((14 : Int32) = (2 : Int32)))).1 ?_
      show Steps p.tables e below (T83.setTop (mkF m 125 #[iv p1, rv b2, iv (14 : Int32), .unset] [])) _
      refine XS.iloadN X83.here hx rfl (hb hby at_125) rfl ?_
      show Steps p.tables e below (T83.setTop (mkF m 126 #[iv p1, rv b2, iv (14 : Int32), .unset] [(.int (14 : Int32))])) _
      refine XS.iconst X83.here hx rfl (hb hby at_126) ?_
      show Steps p.tables e below (T83.setTop (mkF m 127 #[iv p1, rv b2, iv (14 : Int32), .unset] [(.int (3 : Int32)), (.int (14 : Int32))])) _
      refine XS.icmpYes X83.here hx rfl (pc0 := 127) (pc' := 134) rfl (hb hby at_127) rfl (feq ((by decide) : ¬ ((14 : Int32) = (3 : Int32)))).2 (by decide) (by decide) ?_
      show Steps p.tables e below (T83.setTop (mkF m 134 #[iv p1, rv b2, iv (14 : Int32), .unset] [])) _
      refine XS.iconst X83.here hx rfl (hb hby at_134) ?_
      show Steps p.tables e below (T83.setTop (mkF m 135 #[iv p1, rv b2, iv (14 : Int32), .unset] [(.int (0 : Int32))])) _
      refine XS.istoreN X83.here hx rfl (hb hby at_135) rfl (l' := #[iv p1, rv b2, iv (14 : Int32), iv (0 : Int32)]) rfl ?_
      show Steps p.tables e below (T83.setTop (mkF m 136 #[iv p1, rv b2, iv (14 : Int32), iv (0 : Int32)] [])) _
      refine XS.aloadN X83.here hx rfl (hb hby at_136) rfl rfl ?_
      show Steps p.tables e below (T83.setTop (mkF m 137 #[iv p1, rv b2, iv (14 : Int32), iv (0 : Int32)] [(.ref b2)])) _
      refine XS.iloadN X83.here hx rfl (hb hby at_137) rfl ?_
      show Steps p.tables e below (T83.setTop (mkF m 138 #[iv p1, rv b2, iv (14 : Int32), iv (0 : Int32)] [(.int (14 : Int32)), (.ref b2)])) _
      exact k
    obtain ⟨cl187, Ar187, qc187, S187, M187, U187, G187⟩ := va83
    have hin187 : ¬ ((14 : Int32) < 0 ∨ cl187.slots.size ≤ ((14 : Int32)).toNatClampNeg) := inb_of S187 ⟨by decide, by decide⟩
    have hat187 : cl187.slots[((14 : Int32)).toNatClampNeg]? = some (.ref w_PER_COORDINATE_SYSTEM) := Has.at U187 hin187 rfl
    have k188 : Way p e below S0 T83 (mkF m 139 #[iv p1, rv b2, iv (14 : Int32), iv (0 : Int32)] [(.ref w_PER_COORDINATE_SYSTEM)]) := fun t k => k186 t (X83.aaload hx (j := (14 : Int32)) (v := (.ref w_PER_COORDINATE_SYSTEM)) (by rw [e83]; exact Ar187.1) (State.isArrayOf_alike hZ.alike Ar187.2.1) rfl Ar187.2.2 hin187 hat187 (g := (mkF m 138 #[iv p1, rv b2, iv (14 : Int32), iv (0 : Int32)] [(.int (14 : Int32)), (.ref b2)])) rfl rfl (hb hby at_138) _ k)
    obtain ⟨cq189, kq189, qq189a, qq189b, qq189c⟩ := isOf hZ e83 (E_w_PER_COORDINATE_SYSTEM.ext O83.2)
    obtain ⟨_, _, ⟨T189, L189, kk189, nn189⟩, -, X189, ⟨Lc189, hQ189, l189, y189, z189⟩, st189⟩ := X83.virtualBack hx (y := (⟨"gradivo/spec/ValueKind", "isList", "()Z"⟩ : MethodName)) (z := (⟨"gradivo/spec/ValueKind", "isList", "()Z"⟩ : MethodName)) hown (mvT hZ (hw _ (List.mem_of_getElem? (i := 37) rfl))) (mvT hZ (hw _ (List.mem_of_getElem? (i := 38) rfl))) (notFace_of_selects (args := #[]) (mvT hZ (hw _ (List.mem_of_getElem? (i := 40) rfl)))) (mvT hZ (hw _ (List.mem_of_getElem? (i := 40) rfl))) (mvT hZ (hw _ (List.mem_of_getElem? (i := 39) rfl))) (by decide) (backOf (W := 0) (isl14 l Z a0 hw [] w_TEXT w_COMPOSITE w_CLOSED_LIST w_LISTED w_URI w_ISO3166_1_ALPHA2 w_ISO639 w_ISO15924 w_POSITIVE_NUMBER w_POSITIVE_INTEGER w_NONNEGATIVE_INTEGER w_ISO8601_DATE w_DIGEST w_PER_TIME_STANDARD w_PER_COORDINATE_SYSTEM w_TIME_SPAN G  h83 n0 O83 ) hZ (hw _ (List.mem_of_getElem? (i := 41) rfl)) (hw _ (List.mem_of_getElem? (i := 3) rfl)) (by decide) (by decide)) qq189a qq189c (g := (mkF m 139 #[iv p1, rv b2, iv (14 : Int32), iv (0 : Int32)] [(.ref w_PER_COORDINATE_SYSTEM)])) rfl (by rw [hml]; rfl) (Steps.refl _) (argsL := []) (rest := []) (lenOf pd_0 rfl) rfl (by show 2 * 0 + _ ≤ _; exact Nat.le_of_eq rfl) (hb hby at_139) (fun _ _ => ⟨rfl, e83, (by decide : 1 + 0 ≤ _), (by decide : 16 + 0 ≤ _)⟩)
    dsimp only [Pt.U, Pt.locs, Pt.cells, Pt.slots] at X189 l189 y189 z189 st189 hQ189
    subst l189 y189 z189
    obtain ⟨rfl, Nq189, e189⟩ := hQ189
    have N189 := Fr.app N83 Nq189
    have k190 : Way p e below S0 T189 (mkF m 142 #[iv p1, rv b2, iv (14 : Int32), iv (0 : Int32)] [(.int (0 : Int32))]) := fun t k => k188 t (st189.trans k)
    have k191 : Way p e below S0 T189 (mkF m 151 #[iv p1, rv b2, iv (14 : Int32), iv (0 : Int32)] [(.int (1 : Int32))]) := by
      intro t k
      refine k190 t ?_
      refine XS.iloadN X189.here hx rfl (hb hby at_142) rfl ?_
      show Steps p.tables e below (T189.setTop (mkF m 143 #[iv p1, rv b2, iv (14 : Int32), iv (0 : Int32)] [(.int (0 : Int32)), (.int (0 : Int32))])) _
      refine XS.icmpNo X189.here hx rfl (hb hby at_143) rfl (teq ((by decide) : (0 : Int32) = (0 : Int32))).2 ?_
      show Steps p.tables e below (T189.setTop (mkF m 146 #[iv p1, rv b2, iv (14 : Int32), iv (0 : Int32)] [])) _
      refine XS.iconst X189.here hx rfl (hb hby at_146) ?_
      show Steps p.tables e below (T189.setTop (mkF m 147 #[iv p1, rv b2, iv (14 : Int32), iv (0 : Int32)] [(.int (1 : Int32))])) _
      refine XS.goto X189.here hx rfl (pc0 := 147) (pc' := 151) rfl (hb hby at_147) (by decide) (by decide) ?_
      show Steps p.tables e below (T189.setTop (mkF m 151 #[iv p1, rv b2, iv (14 : Int32), iv (0 : Int32)] [(.int (1 : Int32))])) _
      exact k
    obtain ⟨fs, hr, hrun, hended, hW, hsame⟩ := X189.leave (v := some (.int (1 : Int32))) (fun h => by rw [Bd.returns] at h; cases h)
    refine ⟨_, _, k191 _ (retN X189 hx (t := .boolean) Bd.returns (by simp) (hb hby at_151) hr), hrun, hended, _, _, rfl, ?_, ⟨_, rfl⟩, hW, hsame.mono (by decide) (by decide)⟩
    show Q_law_met Z w_TEXT w_COMPOSITE w_CLOSED_LIST w_LISTED w_URI w_ISO3166_1_ALPHA2 w_ISO639 w_ISO15924 w_POSITIVE_NUMBER w_POSITIVE_INTEGER w_NONNEGATIVE_INTEGER w_ISO8601_DATE w_DIGEST w_PER_TIME_STANDARD w_PER_COORDINATE_SYSTEM w_TIME_SPAN p1 h0 n0 _ T189.heap _
    rw [e189]
    exact ⟨rfl, N189⟩
  · have k192 : Way p e below S0 T83 (mkF m 120 #[iv p1, rv b2, iv (15 : Int32), .unset] []) := by have q := k85; rw [hi86] at q; exact q
    have k193 : Way p e below S0 T83 (mkF m 138 #[iv p1, rv b2, iv (15 : Int32), iv (0 : Int32)] [(.int (15 : Int32)), (.ref b2)]) := by
      intro t k
      refine k192 t ?_
      refine XS.iloadN X83.here hx rfl (hb hby at_120) rfl ?_
      show Steps p.tables e below (T83.setTop (mkF m 121 #[iv p1, rv b2, iv (15 : Int32), .unset] [(.int (15 : Int32))])) _
      refine XS.iconst X83.here hx rfl (hb hby at_121) ?_
      show Steps p.tables e below (T83.setTop (mkF m 122 #[iv p1, rv b2, iv (15 : Int32), .unset] [(.int (2 : Int32)), (.int (15 : Int32))])) _
      refine XS.icmpNo X83.here hx rfl (hb hby at_122) rfl (feq ((by decide) : ¬ ((15 : Int32) = (2 : Int32)))).1 ?_
      show Steps p.tables e below (T83.setTop (mkF m 125 #[iv p1, rv b2, iv (15 : Int32), .unset] [])) _
      refine XS.iloadN X83.here hx rfl (hb hby at_125) rfl ?_
      show Steps p.tables e below (T83.setTop (mkF m 126 #[iv p1, rv b2, iv (15 : Int32), .unset] [(.int (15 : Int32))])) _
      refine XS.iconst X83.here hx rfl (hb hby at_126) ?_
      show Steps p.tables e below (T83.setTop (mkF m 127 #[iv p1, rv b2, iv (15 : Int32), .unset] [(.int (3 : Int32)), (.int (15 : Int32))])) _
      refine XS.icmpYes X83.here hx rfl (pc0 := 127) (pc' := 134) rfl (hb hby at_127) rfl (feq ((by decide) : ¬ ((15 : Int32) = (3 : Int32)))).2 (by decide) (by decide) ?_
      show Steps p.tables e below (T83.setTop (mkF m 134 #[iv p1, rv b2, iv (15 : Int32), .unset] [])) _
      refine XS.iconst X83.here hx rfl (hb hby at_134) ?_
      show Steps p.tables e below (T83.setTop (mkF m 135 #[iv p1, rv b2, iv (15 : Int32), .unset] [(.int (0 : Int32))])) _
      refine XS.istoreN X83.here hx rfl (hb hby at_135) rfl (l' := #[iv p1, rv b2, iv (15 : Int32), iv (0 : Int32)]) rfl ?_
      show Steps p.tables e below (T83.setTop (mkF m 136 #[iv p1, rv b2, iv (15 : Int32), iv (0 : Int32)] [])) _
      refine XS.aloadN X83.here hx rfl (hb hby at_136) rfl rfl ?_
      show Steps p.tables e below (T83.setTop (mkF m 137 #[iv p1, rv b2, iv (15 : Int32), iv (0 : Int32)] [(.ref b2)])) _
      refine XS.iloadN X83.here hx rfl (hb hby at_137) rfl ?_
      show Steps p.tables e below (T83.setTop (mkF m 138 #[iv p1, rv b2, iv (15 : Int32), iv (0 : Int32)] [(.int (15 : Int32)), (.ref b2)])) _
      exact k
    obtain ⟨cl194, Ar194, qc194, S194, M194, U194, G194⟩ := va83
    have hin194 : ¬ ((15 : Int32) < 0 ∨ cl194.slots.size ≤ ((15 : Int32)).toNatClampNeg) := inb_of S194 ⟨by decide, by decide⟩
    have hat194 : cl194.slots[((15 : Int32)).toNatClampNeg]? = some (.ref w_TIME_SPAN) := Has.at U194 hin194 rfl
    have k195 : Way p e below S0 T83 (mkF m 139 #[iv p1, rv b2, iv (15 : Int32), iv (0 : Int32)] [(.ref w_TIME_SPAN)]) := fun t k => k193 t (X83.aaload hx (j := (15 : Int32)) (v := (.ref w_TIME_SPAN)) (by rw [e83]; exact Ar194.1) (State.isArrayOf_alike hZ.alike Ar194.2.1) rfl Ar194.2.2 hin194 hat194 (g := (mkF m 138 #[iv p1, rv b2, iv (15 : Int32), iv (0 : Int32)] [(.int (15 : Int32)), (.ref b2)])) rfl rfl (hb hby at_138) _ k)
    obtain ⟨cq196, kq196, qq196a, qq196b, qq196c⟩ := isOf hZ e83 (E_w_TIME_SPAN.ext O83.2)
    obtain ⟨_, _, ⟨T196, L196, kk196, nn196⟩, -, X196, ⟨Lc196, hQ196, l196, y196, z196⟩, st196⟩ := X83.virtualBack hx (y := (⟨"gradivo/spec/ValueKind", "isList", "()Z"⟩ : MethodName)) (z := (⟨"gradivo/spec/ValueKind", "isList", "()Z"⟩ : MethodName)) hown (mvT hZ (hw _ (List.mem_of_getElem? (i := 37) rfl))) (mvT hZ (hw _ (List.mem_of_getElem? (i := 38) rfl))) (notFace_of_selects (args := #[]) (mvT hZ (hw _ (List.mem_of_getElem? (i := 40) rfl)))) (mvT hZ (hw _ (List.mem_of_getElem? (i := 40) rfl))) (mvT hZ (hw _ (List.mem_of_getElem? (i := 39) rfl))) (by decide) (backOf (W := 0) (isl15 l Z a0 hw [] w_TEXT w_COMPOSITE w_CLOSED_LIST w_LISTED w_URI w_ISO3166_1_ALPHA2 w_ISO639 w_ISO15924 w_POSITIVE_NUMBER w_POSITIVE_INTEGER w_NONNEGATIVE_INTEGER w_ISO8601_DATE w_DIGEST w_PER_TIME_STANDARD w_PER_COORDINATE_SYSTEM w_TIME_SPAN G  h83 n0 O83 ) hZ (hw _ (List.mem_of_getElem? (i := 41) rfl)) (hw _ (List.mem_of_getElem? (i := 3) rfl)) (by decide) (by decide)) qq196a qq196c (g := (mkF m 139 #[iv p1, rv b2, iv (15 : Int32), iv (0 : Int32)] [(.ref w_TIME_SPAN)])) rfl (by rw [hml]; rfl) (Steps.refl _) (argsL := []) (rest := []) (lenOf pd_0 rfl) rfl (by show 2 * 0 + _ ≤ _; exact Nat.le_of_eq rfl) (hb hby at_139) (fun _ _ => ⟨rfl, e83, (by decide : 1 + 0 ≤ _), (by decide : 16 + 0 ≤ _)⟩)
    dsimp only [Pt.U, Pt.locs, Pt.cells, Pt.slots] at X196 l196 y196 z196 st196 hQ196
    subst l196 y196 z196
    obtain ⟨rfl, Nq196, e196⟩ := hQ196
    have N196 := Fr.app N83 Nq196
    have k197 : Way p e below S0 T196 (mkF m 142 #[iv p1, rv b2, iv (15 : Int32), iv (0 : Int32)] [(.int (0 : Int32))]) := fun t k => k195 t (st196.trans k)
    have k198 : Way p e below S0 T196 (mkF m 151 #[iv p1, rv b2, iv (15 : Int32), iv (0 : Int32)] [(.int (1 : Int32))]) := by
      intro t k
      refine k197 t ?_
      refine XS.iloadN X196.here hx rfl (hb hby at_142) rfl ?_
      show Steps p.tables e below (T196.setTop (mkF m 143 #[iv p1, rv b2, iv (15 : Int32), iv (0 : Int32)] [(.int (0 : Int32)), (.int (0 : Int32))])) _
      refine XS.icmpNo X196.here hx rfl (hb hby at_143) rfl (teq ((by decide) : (0 : Int32) = (0 : Int32))).2 ?_
      show Steps p.tables e below (T196.setTop (mkF m 146 #[iv p1, rv b2, iv (15 : Int32), iv (0 : Int32)] [])) _
      refine XS.iconst X196.here hx rfl (hb hby at_146) ?_
      show Steps p.tables e below (T196.setTop (mkF m 147 #[iv p1, rv b2, iv (15 : Int32), iv (0 : Int32)] [(.int (1 : Int32))])) _
      refine XS.goto X196.here hx rfl (pc0 := 147) (pc' := 151) rfl (hb hby at_147) (by decide) (by decide) ?_
      show Steps p.tables e below (T196.setTop (mkF m 151 #[iv p1, rv b2, iv (15 : Int32), iv (0 : Int32)] [(.int (1 : Int32))])) _
      exact k
    obtain ⟨fs, hr, hrun, hended, hW, hsame⟩ := X196.leave (v := some (.int (1 : Int32))) (fun h => by rw [Bd.returns] at h; cases h)
    refine ⟨_, _, k198 _ (retN X196 hx (t := .boolean) Bd.returns (by simp) (hb hby at_151) hr), hrun, hended, _, _, rfl, ?_, ⟨_, rfl⟩, hW, hsame.mono (by decide) (by decide)⟩
    show Q_law_met Z w_TEXT w_COMPOSITE w_CLOSED_LIST w_LISTED w_URI w_ISO3166_1_ALPHA2 w_ISO639 w_ISO15924 w_POSITIVE_NUMBER w_POSITIVE_INTEGER w_NONNEGATIVE_INTEGER w_ISO8601_DATE w_DIGEST w_PER_TIME_STANDARD w_PER_COORDINATE_SYSTEM w_TIME_SPAN p1 h0 n0 _ T196.heap _
    rw [e196]
    exact ⟨rfl, N196⟩
set_option maxRecDepth 65536 in
set_option maxHeartbeats 40000000 in
theorem comes_1 {Post : Tables → Env → Array Value → State → Outcome → State → Prop} (hpost : ∀ tb e args s v u, (limb_1_1.after args s (.returned v) u = true ∧ limb_1_2.after args s (.returned v) u = true ∧ True) → FrameEnd s (.returned v) u (Jvm.fieldLocs frame_1_writes args s ++ Jvm.arrayLocs frame_1_arrays args s ++ Jvm.staticLocs frame_1_statics s) 16 128 → Post tb e args s (.returned v) u) :
    ArmFor flags0 classFile x code maxLocals ret World_1 tables_1 room_1 Calls_1 rest_1 Pre_1 Post := by
  intro l hfl _ _ p e ha hc hk s m args below hf hA hF happ hP
  obtain ⟨hcalls, hrest, hpre⟩ := hP
  obtain ⟨-, -, -, hnamed, -, -, -, hat⟩ := (Spec.applies_iff hf).mp happ
  obtain ⟨hg, hn⟩ := and_e (Cond.before_iff.mp (show (Jvm.Cond.and given_1 narrow_1).before args s = true from hpre))
  obtain ⟨g1a, g1b⟩ := and_e hg
  obtain ⟨g2a, g2b⟩ := and_e hn
  obtain ⟨g3a, g3b⟩ := and_e g2b
  obtain ⟨g4a, g4b⟩ := and_e g3b
  obtain ⟨g5a, g5b⟩ := and_e g4b
  obtain ⟨g6a, g6b⟩ := and_e g5b
  obtain ⟨g7a, g7b⟩ := and_e g6b
  obtain ⟨g8a, g8b⟩ := and_e g7b
  obtain ⟨g9a, g9b⟩ := and_e g8b
  obtain ⟨g10a, g10b⟩ := and_e g9b
  obtain ⟨g11a, g11b⟩ := and_e g10b
  obtain ⟨g12a, g12b⟩ := and_e g11b
  obtain ⟨g13a, g13b⟩ := and_e g12b
  obtain ⟨g14a, g14b⟩ := and_e g13b
  obtain ⟨g15a, g15b⟩ := and_e g14b
  obtain ⟨g16a, g16b⟩ := and_e g15b
  obtain ⟨g17a, g17b⟩ := and_e g16b
  obtain ⟨g18a, g18b⟩ := and_e g17b
  obtain ⟨g19a, g19b⟩ := and_e g18b
  obtain ⟨g20a, g20b⟩ := and_e g19b
  obtain ⟨g21a, g21b⟩ := and_e g20b
  obtain ⟨g22a, g22b⟩ := and_e g21b
  obtain ⟨g23a, g23b⟩ := and_e g22b
  obtain ⟨g24a, g24b⟩ := and_e g23b
  obtain ⟨g25a, g25b⟩ := and_e g24b
  obtain ⟨g26a, g26b⟩ := and_e g25b
  obtain ⟨g27a, g27b⟩ := and_e g26b
  obtain ⟨g28a, g28b⟩ := and_e g27b
  obtain ⟨g29a, g29b⟩ := and_e g28b
  obtain ⟨g30a, g30b⟩ := and_e g29b
  obtain ⟨g31a, g31b⟩ := and_e g30b
  obtain ⟨g32a, g32b⟩ := and_e g31b
  obtain ⟨w0, rfl⟩ : ∃ w0 : Value, args = #[w0] := by
    have hs : args.size = 1 := by simpa [Cond.value, given_1] using g1a
    obtain ⟨L⟩ := args
    match L, hs with
    | [w0], _ => exact ⟨w0, rfl⟩
  have hw := fun d (hd : d ∈ tables_1) => atoms_spec (ws := Jvm.Cond.code x code maxLocals ret :: tables_1) hat d (List.mem_cons_of_mem _ hd)
  have hfit : Fit s := fun {y c} hc i hi => by
    obtain ⟨ha, rfl⟩ := Array.getElem?_eq_some_iff.mp hc
    have q := List.all_eq_true.mp ((Array.all_eq_true_iff_forall_mem.mp hF) _ (Array.getElem_mem ha)) i (List.mem_range.mpr hi)
    simpa [Array.getElem?_eq_getElem hi] using q
  obtain ⟨i0, ei0⟩ := is_v g1b
  obtain rfl : w0 = (.int i0) := Option.some.inj ei0
  obtain ⟨w_TEXT, ev_w_TEXT⟩ := exa_v g2a
  have S_w_TEXT := Sta.start ev_w_TEXT (Or.inr ⟨(hw _ (List.mem_of_getElem? (i := 3) rfl)), (hw _ (List.mem_of_getElem? (i := 4) rfl))⟩)
  have E_w_TEXT := Exa.start ev_w_TEXT g2a
  obtain ⟨w_COMPOSITE, ev_w_COMPOSITE⟩ := exa_v g3a
  have S_w_COMPOSITE := Sta.start ev_w_COMPOSITE (Or.inr ⟨(hw _ (List.mem_of_getElem? (i := 3) rfl)), (hw _ (List.mem_of_getElem? (i := 7) rfl))⟩)
  have E_w_COMPOSITE := Exa.start ev_w_COMPOSITE g3a
  obtain ⟨w_CLOSED_LIST, ev_w_CLOSED_LIST⟩ := exa_v g4a
  have S_w_CLOSED_LIST := Sta.start ev_w_CLOSED_LIST (Or.inr ⟨(hw _ (List.mem_of_getElem? (i := 3) rfl)), (hw _ (List.mem_of_getElem? (i := 9) rfl))⟩)
  have E_w_CLOSED_LIST := Exa.start ev_w_CLOSED_LIST g4a
  obtain ⟨w_LISTED, ev_w_LISTED⟩ := exa_v g5a
  have S_w_LISTED := Sta.start ev_w_LISTED (Or.inr ⟨(hw _ (List.mem_of_getElem? (i := 3) rfl)), (hw _ (List.mem_of_getElem? (i := 11) rfl))⟩)
  have E_w_LISTED := Exa.start ev_w_LISTED g5a
  obtain ⟨w_URI, ev_w_URI⟩ := exa_v g6a
  have S_w_URI := Sta.start ev_w_URI (Or.inr ⟨(hw _ (List.mem_of_getElem? (i := 3) rfl)), (hw _ (List.mem_of_getElem? (i := 13) rfl))⟩)
  have E_w_URI := Exa.start ev_w_URI g6a
  obtain ⟨w_ISO3166_1_ALPHA2, ev_w_ISO3166_1_ALPHA2⟩ := exa_v g7a
  have S_w_ISO3166_1_ALPHA2 := Sta.start ev_w_ISO3166_1_ALPHA2 (Or.inr ⟨(hw _ (List.mem_of_getElem? (i := 3) rfl)), (hw _ (List.mem_of_getElem? (i := 15) rfl))⟩)
  have E_w_ISO3166_1_ALPHA2 := Exa.start ev_w_ISO3166_1_ALPHA2 g7a
  obtain ⟨w_ISO639, ev_w_ISO639⟩ := exa_v g8a
  have S_w_ISO639 := Sta.start ev_w_ISO639 (Or.inr ⟨(hw _ (List.mem_of_getElem? (i := 3) rfl)), (hw _ (List.mem_of_getElem? (i := 17) rfl))⟩)
  have E_w_ISO639 := Exa.start ev_w_ISO639 g8a
  obtain ⟨w_ISO15924, ev_w_ISO15924⟩ := exa_v g9a
  have S_w_ISO15924 := Sta.start ev_w_ISO15924 (Or.inr ⟨(hw _ (List.mem_of_getElem? (i := 3) rfl)), (hw _ (List.mem_of_getElem? (i := 19) rfl))⟩)
  have E_w_ISO15924 := Exa.start ev_w_ISO15924 g9a
  obtain ⟨w_POSITIVE_NUMBER, ev_w_POSITIVE_NUMBER⟩ := exa_v g10a
  have S_w_POSITIVE_NUMBER := Sta.start ev_w_POSITIVE_NUMBER (Or.inr ⟨(hw _ (List.mem_of_getElem? (i := 3) rfl)), (hw _ (List.mem_of_getElem? (i := 21) rfl))⟩)
  have E_w_POSITIVE_NUMBER := Exa.start ev_w_POSITIVE_NUMBER g10a
  obtain ⟨w_POSITIVE_INTEGER, ev_w_POSITIVE_INTEGER⟩ := exa_v g11a
  have S_w_POSITIVE_INTEGER := Sta.start ev_w_POSITIVE_INTEGER (Or.inr ⟨(hw _ (List.mem_of_getElem? (i := 3) rfl)), (hw _ (List.mem_of_getElem? (i := 23) rfl))⟩)
  have E_w_POSITIVE_INTEGER := Exa.start ev_w_POSITIVE_INTEGER g11a
  obtain ⟨w_NONNEGATIVE_INTEGER, ev_w_NONNEGATIVE_INTEGER⟩ := exa_v g12a
  have S_w_NONNEGATIVE_INTEGER := Sta.start ev_w_NONNEGATIVE_INTEGER (Or.inr ⟨(hw _ (List.mem_of_getElem? (i := 3) rfl)), (hw _ (List.mem_of_getElem? (i := 25) rfl))⟩)
  have E_w_NONNEGATIVE_INTEGER := Exa.start ev_w_NONNEGATIVE_INTEGER g12a
  obtain ⟨w_ISO8601_DATE, ev_w_ISO8601_DATE⟩ := exa_v g13a
  have S_w_ISO8601_DATE := Sta.start ev_w_ISO8601_DATE (Or.inr ⟨(hw _ (List.mem_of_getElem? (i := 3) rfl)), (hw _ (List.mem_of_getElem? (i := 27) rfl))⟩)
  have E_w_ISO8601_DATE := Exa.start ev_w_ISO8601_DATE g13a
  obtain ⟨w_DIGEST, ev_w_DIGEST⟩ := exa_v g14a
  have S_w_DIGEST := Sta.start ev_w_DIGEST (Or.inr ⟨(hw _ (List.mem_of_getElem? (i := 3) rfl)), (hw _ (List.mem_of_getElem? (i := 29) rfl))⟩)
  have E_w_DIGEST := Exa.start ev_w_DIGEST g14a
  obtain ⟨w_PER_TIME_STANDARD, ev_w_PER_TIME_STANDARD⟩ := exa_v g15a
  have S_w_PER_TIME_STANDARD := Sta.start ev_w_PER_TIME_STANDARD (Or.inr ⟨(hw _ (List.mem_of_getElem? (i := 3) rfl)), (hw _ (List.mem_of_getElem? (i := 31) rfl))⟩)
  have E_w_PER_TIME_STANDARD := Exa.start ev_w_PER_TIME_STANDARD g15a
  obtain ⟨w_PER_COORDINATE_SYSTEM, ev_w_PER_COORDINATE_SYSTEM⟩ := exa_v g16a
  have S_w_PER_COORDINATE_SYSTEM := Sta.start ev_w_PER_COORDINATE_SYSTEM (Or.inr ⟨(hw _ (List.mem_of_getElem? (i := 3) rfl)), (hw _ (List.mem_of_getElem? (i := 33) rfl))⟩)
  have E_w_PER_COORDINATE_SYSTEM := Exa.start ev_w_PER_COORDINATE_SYSTEM g16a
  obtain ⟨w_TIME_SPAN, ev_w_TIME_SPAN⟩ := exa_v g17a
  have S_w_TIME_SPAN := Sta.start ev_w_TIME_SPAN (Or.inr ⟨(hw _ (List.mem_of_getElem? (i := 3) rfl)), (hw _ (List.mem_of_getElem? (i := 35) rfl))⟩)
  have E_w_TIME_SPAN := Exa.start ev_w_TIME_SPAN g17a
  have F_w_TEXT_ordinal := Fld.start (own_eqF ev_w_TEXT g18a)
  have F_w_CLOSED_LIST_ordinal := Fld.start (own_eqF ev_w_CLOSED_LIST g19a)
  have F_w_LISTED_ordinal := Fld.start (own_eqF ev_w_LISTED g20a)
  have F_w_PER_COORDINATE_SYSTEM_ordinal := Fld.start (own_eqF ev_w_PER_COORDINATE_SYSTEM g21a)
  have F_w_TIME_SPAN_ordinal := Fld.start (own_eqF ev_w_TIME_SPAN g22a)
  have F_w_NONNEGATIVE_INTEGER_ordinal := Fld.start (own_eqF ev_w_NONNEGATIVE_INTEGER g23a)
  have F_w_ISO15924_ordinal := Fld.start (own_eqF ev_w_ISO15924 g24a)
  have F_w_ISO8601_DATE_ordinal := Fld.start (own_eqF ev_w_ISO8601_DATE g25a)
  have F_w_POSITIVE_NUMBER_ordinal := Fld.start (own_eqF ev_w_POSITIVE_NUMBER g26a)
  have F_w_COMPOSITE_ordinal := Fld.start (own_eqF ev_w_COMPOSITE g27a)
  have F_w_URI_ordinal := Fld.start (own_eqF ev_w_URI g28a)
  have F_w_DIGEST_ordinal := Fld.start (own_eqF ev_w_DIGEST g29a)
  have F_w_PER_TIME_STANDARD_ordinal := Fld.start (own_eqF ev_w_PER_TIME_STANDARD g30a)
  have F_w_ISO639_ordinal := Fld.start (own_eqF ev_w_ISO639 g31a)
  have F_w_POSITIVE_INTEGER_ordinal := Fld.start (own_eqF ev_w_POSITIVE_INTEGER g32a)
  have F_w_ISO3166_1_ALPHA2_ordinal := Fld.start (own_eqF ev_w_ISO3166_1_ALPHA2 g32b)
  have G : Gst s w_TEXT w_COMPOSITE w_CLOSED_LIST w_LISTED w_URI w_ISO3166_1_ALPHA2 w_ISO639 w_ISO15924 w_POSITIVE_NUMBER w_POSITIVE_INTEGER w_NONNEGATIVE_INTEGER w_ISO8601_DATE w_DIGEST w_PER_TIME_STANDARD w_PER_COORDINATE_SYSTEM w_TIME_SPAN := ⟨S_w_TEXT, E_w_TEXT, F_w_TEXT_ordinal, S_w_COMPOSITE, E_w_COMPOSITE, F_w_COMPOSITE_ordinal, S_w_CLOSED_LIST, E_w_CLOSED_LIST, F_w_CLOSED_LIST_ordinal, S_w_LISTED, E_w_LISTED, F_w_LISTED_ordinal, S_w_URI, E_w_URI, F_w_URI_ordinal, S_w_ISO3166_1_ALPHA2, E_w_ISO3166_1_ALPHA2, F_w_ISO3166_1_ALPHA2_ordinal, S_w_ISO639, E_w_ISO639, F_w_ISO639_ordinal, S_w_ISO15924, E_w_ISO15924, F_w_ISO15924_ordinal, S_w_POSITIVE_NUMBER, E_w_POSITIVE_NUMBER, F_w_POSITIVE_NUMBER_ordinal, S_w_POSITIVE_INTEGER, E_w_POSITIVE_INTEGER, F_w_POSITIVE_INTEGER_ordinal, S_w_NONNEGATIVE_INTEGER, E_w_NONNEGATIVE_INTEGER, F_w_NONNEGATIVE_INTEGER_ordinal, S_w_ISO8601_DATE, E_w_ISO8601_DATE, F_w_ISO8601_DATE_ordinal, S_w_DIGEST, E_w_DIGEST, F_w_DIGEST_ordinal, S_w_PER_TIME_STANDARD, E_w_PER_TIME_STANDARD, F_w_PER_TIME_STANDARD_ordinal, S_w_PER_COORDINATE_SYSTEM, E_w_PER_COORDINATE_SYSTEM, F_w_PER_COORDINATE_SYSTEM_ordinal, S_w_TIME_SPAN, E_w_TIME_SPAN, F_w_TIME_SPAN_ordinal⟩
  obtain ⟨n, o, h1, h2, h3, _, L, rfl, ⟨rfl, N⟩, hq⟩ := law_met l s _ hw tables_1 w_TEXT w_COMPOSITE w_CLOSED_LIST w_LISTED w_URI w_ISO3166_1_ALPHA2 w_ISO639 w_ISO15924 w_POSITIVE_NUMBER w_POSITIVE_INTEGER w_NONNEGATIVE_INTEGER w_ISO8601_DATE w_DIGEST w_PER_TIME_STANDARD w_PER_COORDINATE_SYSTEM w_TIME_SPAN G i0 s.heap s.heap.size (Old.start s)  p e ha hc hk s m _ below hf ((Spec.applies_iff_loose hf).mp happ).1 ⟨rfl, State.Warmed39.refl s, rfl⟩ trivial
  refine ⟨n, _, h1, h2, h3, hpost _ _ _ _ _ _ ⟨Cond.after_iff.mpr rfl, Cond.after_iff.mpr (eq_i res_at (Term.int_eval (1)) rfl), trivial⟩ ⟨hq.1, hq.2.1, (hq.2.2.sift fun y hy => Or.inr (N y hy)).mono (by decide) (by decide)⟩⟩
theorem main_1_1 : Claimed_1_1 := comes_1 fun _ _ _ _ _ _ h hF => ⟨h.1, hF⟩
theorem main_1_2 : Claimed_1_2 := comes_1 fun _ _ _ _ _ _ h hF => ⟨h.2.1, hF⟩
end Jvm.Pilot.@@N@@
namespace Jvm.Pilot.@@N@@
open Jvm Jvm.ClassFile Sem Op Lib Jvm.Free Jvm.Stand Jvm.Pilot.@@N@@.Jvm.D
/-! MADE BY PROGRAM (witnessworld.py) out of the Statement's table words and the real class files: 13 classes; the members and pool entries that the words name. The judged class is class 1, her method 1. -/
namespace start1
open Jvm.ClassFile
def u (s : String) : CpInfo := .utf8 (stringToUtf16 s)
/-- a pool by its gaps: so many unusable entries, then the entry; so many at the end -/
def gap : Nat → List CpInfo → List CpInfo
  | 0, r => r
  | n + 1, r => .unusable :: gap n r
def poolList (es : List (Nat × CpInfo)) (last : Nat) : List CpInfo := es.foldr (fun e r => gap e.1 (e.2 :: r)) (gap last [])
def pool (es : List (Nat × CpInfo)) (last : Nat) : Array CpInfo := ⟨poolList es last⟩
def fileOf (pool : Array CpInfo) (this : Nat) (attrs : Array Attribute := #[]) (ms : Array MethodInfo := #[]) (fl : Nat := 33) (sup : Nat := 0) (ifs : Array Nat := #[]) (fds : Array FieldInfo := #[]) : ClassFile where
  minorVersion := 0
  majorVersion := 65
  constantPool := pool
  accessFlags := fl
  thisClass := this
  superClass := sup
  interfaces := ifs
  fields := fds
  methods := ms
  attributes := attrs
def plain (name : String) (sup : Option ClassId) : Class where
  name := name
  kind := .ordinary
  loader := none
  accessFlags := 33
  super := sup
  interfaces := #[]
  cf := none
  fields := #[]
  methods := #[]
  instanceTypes := #[]
  staticTypes := #[]
  resolved := #[]
  callSites := []
  init := .initialized
  statics := none
  mirror := none

def pool0 : Array CpInfo := pool [(5, u "<init>"), (0, u "()V"), (1, .class_ 10), (1, u "java/lang/Object")] 113

def k0m0 : Method := { name := "<init>", desc := "()V", sig := { parameters := [], returnType := none }, accessFlags := 1, code := none }
/-- java/lang/Object -/
def k0 : Class := { plain "java/lang/Object" none with
  accessFlags := 33
  interfaces := #[]
  cf := some (fileOf pool0 8 #[] #[{ accessFlags := 1, nameIndex := 5, descriptorIndex := 6, attributes := #[] }] 33 0 #[] #[])
  fields := #[]
  methods := #[k0m0]
  instanceTypes := #[]
  staticTypes := #[]
  resolved := Array.replicate 124 none
  statics := none }

def pool1 : Array CpInfo := pool [(2, .class_ 4), (1, u "java/lang/Object"), (0, u "<init>"), (0, u "()V"), (0, .class_ 8), (0, u "gradivo/spec/ValueKind"), (0, .fieldref 7 10), (0, .nameAndType 11 12), (0, u "TEXT"), (0, u "Lgradivo/spec/ValueKind;"), (0, .fieldref 7 14), (0, .nameAndType 15 12), (0, u "COMPOSITE"), (0, .fieldref 7 17), (0, .nameAndType 18 12), (0, u "CLOSED_LIST"), (0, .fieldref 7 20), (0, .nameAndType 21 12), (0, u "LISTED"), (0, .fieldref 7 23), (0, .nameAndType 24 12), (0, u "URI"), (0, .fieldref 7 26), (0, .nameAndType 27 12), (0, u "ISO3166_1_ALPHA2"), (0, .fieldref 7 29), (0, .nameAndType 30 12), (0, u "ISO639"), (0, .fieldref 7 32), (0, .nameAndType 33 12), (0, u "ISO15924"), (0, .fieldref 7 35), (0, .nameAndType 36 12), (0, u "POSITIVE_NUMBER"), (0, .fieldref 7 38), (0, .nameAndType 39 12), (0, u "POSITIVE_INTEGER"), (0, .fieldref 7 41), (0, .nameAndType 42 12), (0, u "NONNEGATIVE_INTEGER"), (0, .fieldref 7 44), (0, .nameAndType 45 12), (0, u "ISO8601_DATE"), (0, .fieldref 7 47), (0, .nameAndType 48 12), (0, u "DIGEST"), (0, .fieldref 7 50), (0, .nameAndType 51 12), (0, u "PER_TIME_STANDARD"), (0, .fieldref 7 53), (0, .nameAndType 54 12), (0, u "PER_COORDINATE_SYSTEM"), (0, .fieldref 7 56), (0, .nameAndType 57 12), (0, u "TIME_SPAN"), (0, .integer 2147483647), (0, .methodref 7 60), (0, .nameAndType 61 62), (0, u "isList"), (0, u "()Z"), (0, .class_ 64), (0, u "gradivo/spec/ValueKindIsListPinLaw"), (2, u "law"), (0, u "(I)Z")] 5

def k1m0 : Method := { name := "<init>", desc := "()V", sig := { parameters := [], returnType := none }, accessFlags := 2, code := none }
def k1c1 : Code := { maxStack := 4, maxLocals := 4, code := code, exceptionTable := #[], attributes := #[] }
def k1m1 : Method := { name := "law", desc := "(I)Z", sig := { parameters := [.int], returnType := some .boolean }, accessFlags := 9, code := some k1c1 }
/-- gradivo/spec/ValueKindIsListPinLaw -/
def k1 : Class := { plain "gradivo/spec/ValueKindIsListPinLaw" (some 0) with
  accessFlags := 49
  interfaces := #[]
  cf := some (fileOf pool1 63 #[] #[{ accessFlags := 2, nameIndex := 5, descriptorIndex := 6, attributes := #[] }, { accessFlags := 9, nameIndex := 67, descriptorIndex := 68, attributes := #[] }] 49 2 #[] #[])
  fields := #[]
  methods := #[k1m0, k1m1]
  instanceTypes := #[]
  staticTypes := #[]
  resolved := Array.replicate 74 none
  statics := none }

def pool2 : Array CpInfo := pool [(1, .class_ 2), (0, u "java/lang/constant/Constable"), (0, .class_ 4), (0, u "java/lang/Object")] 6

/-- java/lang/constant/Constable -/
def k2 : Class := { plain "java/lang/constant/Constable" (some 0) with
  accessFlags := 1537
  interfaces := #[]
  cf := some (fileOf pool2 1 #[] #[] 1537 3 #[] #[])
  fields := #[]
  methods := #[]
  instanceTypes := #[]
  staticTypes := #[]
  resolved := Array.replicate 11 none
  statics := none }

def pool3 : Array CpInfo := pool [(1, .class_ 2), (0, u "java/lang/Comparable"), (0, .class_ 4), (0, u "java/lang/Object")] 7

/-- java/lang/Comparable -/
def k3 : Class := { plain "java/lang/Comparable" (some 0) with
  accessFlags := 1537
  interfaces := #[]
  cf := some (fileOf pool3 1 #[] #[] 1537 3 #[] #[])
  fields := #[]
  methods := #[]
  instanceTypes := #[]
  staticTypes := #[]
  resolved := Array.replicate 12 none
  statics := none }

def pool4 : Array CpInfo := pool [(1, .class_ 2), (0, u "java/io/Serializable"), (0, .class_ 4), (0, u "java/lang/Object")] 2

/-- java/io/Serializable -/
def k4 : Class := { plain "java/io/Serializable" (some 0) with
  accessFlags := 1537
  interfaces := #[]
  cf := some (fileOf pool4 1 #[] #[] 1537 3 #[] #[])
  fields := #[]
  methods := #[]
  instanceTypes := #[]
  staticTypes := #[]
  resolved := Array.replicate 7 none
  statics := none }

def pool5 : Array CpInfo := pool [(2, .class_ 4), (1, u "java/lang/Enum"), (0, u "name"), (0, u "Ljava/lang/String;"), (2, u "ordinal"), (0, u "I"), (1, .class_ 14), (1, u "java/lang/Object"), (4, u "hash"), (86, .class_ 108), (1, u "java/lang/Enum$EnumDesc"), (2, .class_ 112), (0, u "java/lang/constant/Constable"), (0, .class_ 114), (0, u "java/lang/Comparable"), (0, .class_ 116), (0, u "java/io/Serializable")] 87

/-- java/lang/Enum -/
def k5 : Class := { plain "java/lang/Enum" (some 0) with
  accessFlags := 1057
  interfaces := #[2, 3, 4]
  cf := some (fileOf pool5 2 #[.nestMembers #[106]] #[] 1057 12 #[111, 113, 115] #[{ accessFlags := 18, nameIndex := 5, descriptorIndex := 6, attributes := #[] }, { accessFlags := 18, nameIndex := 9, descriptorIndex := 10, attributes := #[] }, { accessFlags := 2, nameIndex := 19, descriptorIndex := 10, attributes := #[] }])
  fields := #[{ name := "name", type := (.object "java/lang/String"), accessFlags := 18, slot := 0, constantValue := 0 }, { name := "ordinal", type := .int, accessFlags := 18, slot := 1, constantValue := 0 }, { name := "hash", type := .int, accessFlags := 2, slot := 2, constantValue := 0 }]
  methods := #[]
  instanceTypes := #[(.object "java/lang/String"), .int, .int]
  staticTypes := #[]
  resolved := Array.replicate 204 none
  statics := none }

def pool6 : Array CpInfo := pool [(1, .class_ 2), (0, u "gradivo/spec/ValueKind"), (2, u "TEXT"), (0, u "Lgradivo/spec/ValueKind;"), (2, u "COMPOSITE"), (0, .fieldref 1 11), (0, .nameAndType 12 6), (0, u "CLOSED_LIST"), (0, .fieldref 1 14), (0, .nameAndType 15 6), (0, u "LISTED"), (2, u "URI"), (2, u "ISO3166_1_ALPHA2"), (2, u "ISO639"), (2, u "ISO15924"), (2, u "POSITIVE_NUMBER"), (2, u "POSITIVE_INTEGER"), (2, u "NONNEGATIVE_INTEGER"), (2, u "ISO8601_DATE"), (2, u "DIGEST"), (2, u "PER_TIME_STANDARD"), (2, u "PER_COORDINATE_SYSTEM"), (2, u "TIME_SPAN"), (2, u "$VALUES"), (0, u "[Lgradivo/spec/ValueKind;"), (6, .class_ 64), (1, u "java/lang/Enum"), (8, u "word"), (0, u "Ljava/lang/String;"), (50, u "()Z"), (19, u "WGS84"), (180, u "ISO_8601"), (12, u "isList")] 38

def k6c0 : Code := { maxStack := 2, maxLocals := 1, code := prog_105_method_8_code, exceptionTable := #[], attributes := #[] }
def k6m0 : Method := { name := "isList", desc := "()Z", sig := { parameters := [], returnType := some .boolean }, accessFlags := 1, code := some k6c0 }
/-- gradivo/spec/ValueKind -/
def k6 : Class := { plain "gradivo/spec/ValueKind" (some 5) with
  accessFlags := 16433
  interfaces := #[]
  cf := some (fileOf pool6 1 #[] #[{ accessFlags := 1, nameIndex := 339, descriptorIndex := 125, attributes := #[] }] 16433 62 #[] #[{ accessFlags := 16409, nameIndex := 5, descriptorIndex := 6, attributes := #[] }, { accessFlags := 16409, nameIndex := 9, descriptorIndex := 6, attributes := #[] }, { accessFlags := 16409, nameIndex := 12, descriptorIndex := 6, attributes := #[] }, { accessFlags := 16409, nameIndex := 15, descriptorIndex := 6, attributes := #[] }, { accessFlags := 16409, nameIndex := 18, descriptorIndex := 6, attributes := #[] }, { accessFlags := 16409, nameIndex := 21, descriptorIndex := 6, attributes := #[] }, { accessFlags := 16409, nameIndex := 24, descriptorIndex := 6, attributes := #[] }, { accessFlags := 16409, nameIndex := 27, descriptorIndex := 6, attributes := #[] }, { accessFlags := 16409, nameIndex := 30, descriptorIndex := 6, attributes := #[] }, { accessFlags := 16409, nameIndex := 33, descriptorIndex := 6, attributes := #[] }, { accessFlags := 16409, nameIndex := 36, descriptorIndex := 6, attributes := #[] }, { accessFlags := 16409, nameIndex := 39, descriptorIndex := 6, attributes := #[] }, { accessFlags := 16409, nameIndex := 42, descriptorIndex := 6, attributes := #[] }, { accessFlags := 16409, nameIndex := 45, descriptorIndex := 6, attributes := #[] }, { accessFlags := 16409, nameIndex := 48, descriptorIndex := 6, attributes := #[] }, { accessFlags := 16409, nameIndex := 51, descriptorIndex := 6, attributes := #[] }, { accessFlags := 26, nameIndex := 326, descriptorIndex := 74, attributes := #[] }, { accessFlags := 26, nameIndex := 145, descriptorIndex := 74, attributes := #[] }, { accessFlags := 18, nameIndex := 73, descriptorIndex := 74, attributes := #[] }, { accessFlags := 4122, nameIndex := 54, descriptorIndex := 55, attributes := #[] }])
  fields := #[{ name := "TEXT", type := (.object "gradivo/spec/ValueKind"), accessFlags := 16409, slot := 0, constantValue := 0 }, { name := "COMPOSITE", type := (.object "gradivo/spec/ValueKind"), accessFlags := 16409, slot := 1, constantValue := 0 }, { name := "CLOSED_LIST", type := (.object "gradivo/spec/ValueKind"), accessFlags := 16409, slot := 2, constantValue := 0 }, { name := "LISTED", type := (.object "gradivo/spec/ValueKind"), accessFlags := 16409, slot := 3, constantValue := 0 }, { name := "URI", type := (.object "gradivo/spec/ValueKind"), accessFlags := 16409, slot := 4, constantValue := 0 }, { name := "ISO3166_1_ALPHA2", type := (.object "gradivo/spec/ValueKind"), accessFlags := 16409, slot := 5, constantValue := 0 }, { name := "ISO639", type := (.object "gradivo/spec/ValueKind"), accessFlags := 16409, slot := 6, constantValue := 0 }, { name := "ISO15924", type := (.object "gradivo/spec/ValueKind"), accessFlags := 16409, slot := 7, constantValue := 0 }, { name := "POSITIVE_NUMBER", type := (.object "gradivo/spec/ValueKind"), accessFlags := 16409, slot := 8, constantValue := 0 }, { name := "POSITIVE_INTEGER", type := (.object "gradivo/spec/ValueKind"), accessFlags := 16409, slot := 9, constantValue := 0 }, { name := "NONNEGATIVE_INTEGER", type := (.object "gradivo/spec/ValueKind"), accessFlags := 16409, slot := 10, constantValue := 0 }, { name := "ISO8601_DATE", type := (.object "gradivo/spec/ValueKind"), accessFlags := 16409, slot := 11, constantValue := 0 }, { name := "DIGEST", type := (.object "gradivo/spec/ValueKind"), accessFlags := 16409, slot := 12, constantValue := 0 }, { name := "PER_TIME_STANDARD", type := (.object "gradivo/spec/ValueKind"), accessFlags := 16409, slot := 13, constantValue := 0 }, { name := "PER_COORDINATE_SYSTEM", type := (.object "gradivo/spec/ValueKind"), accessFlags := 16409, slot := 14, constantValue := 0 }, { name := "TIME_SPAN", type := (.object "gradivo/spec/ValueKind"), accessFlags := 16409, slot := 15, constantValue := 0 }, { name := "ISO_8601", type := (.object "java/lang/String"), accessFlags := 26, slot := 16, constantValue := 0 }, { name := "WGS84", type := (.object "java/lang/String"), accessFlags := 26, slot := 17, constantValue := 0 }, { name := "word", type := (.object "java/lang/String"), accessFlags := 18, slot := 3, constantValue := 0 }, { name := "$VALUES", type := (.array (.object "gradivo/spec/ValueKind")), accessFlags := 4122, slot := 18, constantValue := 0 }]
  methods := #[k6m0]
  instanceTypes := #[(.object "java/lang/String"), .int, .int, (.object "java/lang/String")]
  staticTypes := #[(.object "gradivo/spec/ValueKind"), (.object "gradivo/spec/ValueKind"), (.object "gradivo/spec/ValueKind"), (.object "gradivo/spec/ValueKind"), (.object "gradivo/spec/ValueKind"), (.object "gradivo/spec/ValueKind"), (.object "gradivo/spec/ValueKind"), (.object "gradivo/spec/ValueKind"), (.object "gradivo/spec/ValueKind"), (.object "gradivo/spec/ValueKind"), (.object "gradivo/spec/ValueKind"), (.object "gradivo/spec/ValueKind"), (.object "gradivo/spec/ValueKind"), (.object "gradivo/spec/ValueKind"), (.object "gradivo/spec/ValueKind"), (.object "gradivo/spec/ValueKind"), (.object "java/lang/String"), (.object "java/lang/String"), (.array (.object "gradivo/spec/ValueKind"))]
  resolved := Array.replicate 378 none
  statics := some 0 }

def pool7 : Array CpInfo := pool [(1, u "java/lang/Cloneable"), (0, .class_ 1), (0, u "java/lang/Object"), (0, .class_ 3)] 3

/-- java/lang/Cloneable -/
def k7 : Class := { plain "java/lang/Cloneable" (some 0) with
  accessFlags := 1537
  interfaces := #[]
  cf := some (fileOf pool7 2 #[] #[] 1537 4 #[] #[])
  fields := #[]
  methods := #[]
  instanceTypes := #[]
  staticTypes := #[]
  resolved := Array.replicate 8 none
  statics := none }

/-- the primitive byte -/
def k8 : Class := { plain "byte" none with kind := .primitive 'B', accessFlags := 0x411 }
/-- [B -/
def k9 : Class := { plain "[B" (some 0) with kind := .array 8 .byte, interfaces := #[7, 4], accessFlags := 1041 }

/-- the primitive int -/
def k10 : Class := { plain "int" none with kind := .primitive 'I', accessFlags := 0x411 }
/-- [I -/
def k11 : Class := { plain "[I" (some 0) with kind := .array 10 .int, interfaces := #[7, 4], accessFlags := 1041 }

/-- [Lgradivo/spec/ValueKind; -/
def k12 : Class := { plain "[Lgradivo/spec/ValueKind;" (some 0) with kind := .array 6 (.object "gradivo/spec/ValueKind"), interfaces := #[7, 4], accessFlags := 1041 }

def heap : Heap := #[{ cls := 6, slots := #[.ref 1, .ref 2, .ref 3, .ref 4, .ref 5, .ref 6, .ref 7, .ref 8, .ref 9, .ref 10, .ref 11, .ref 12, .ref 13, .ref 14, .ref 15, .ref 16, .null, .null, .null], vm := .statics 6 },
  { cls := 6, slots := #[.null, .int 0, .int 0, .null], vm := .none },
  { cls := 6, slots := #[.null, .int 1, .int 0, .null], vm := .none },
  { cls := 6, slots := #[.null, .int 2, .int 0, .null], vm := .none },
  { cls := 6, slots := #[.null, .int 3, .int 0, .null], vm := .none },
  { cls := 6, slots := #[.null, .int 4, .int 0, .null], vm := .none },
  { cls := 6, slots := #[.null, .int 5, .int 0, .null], vm := .none },
  { cls := 6, slots := #[.null, .int 6, .int 0, .null], vm := .none },
  { cls := 6, slots := #[.null, .int 7, .int 0, .null], vm := .none },
  { cls := 6, slots := #[.null, .int 8, .int 0, .null], vm := .none },
  { cls := 6, slots := #[.null, .int 9, .int 0, .null], vm := .none },
  { cls := 6, slots := #[.null, .int 10, .int 0, .null], vm := .none },
  { cls := 6, slots := #[.null, .int 11, .int 0, .null], vm := .none },
  { cls := 6, slots := #[.null, .int 12, .int 0, .null], vm := .none },
  { cls := 6, slots := #[.null, .int 13, .int 0, .null], vm := .none },
  { cls := 6, slots := #[.null, .int 14, .int 0, .null], vm := .none },
  { cls := 6, slots := #[.null, .int 15, .int 0, .null], vm := .none }]
def classes : Array Class := #[k0, k1, k2, k3, k4, k5, k6, k7, k8, k9, k10, k11, k12]
def interned : List (Array UInt16 × Addr) := []
def slotsUsed : Nat := 83
def theMethod : MethodId := ⟨1, 1⟩
def args0 : Array Value := #[.int 5]
def aboutOver (below : List Frame) : State where
  vm := { classes := classes, interned := interned.toArray }
  heap := heap
  slotsUsed := slotsUsed
  threads := #[{ frames := .invoking theMethod args0 :: below }]
def below0 : List Frame := [.native { method := ⟨0, 0⟩, args := #[] }]
def about1 : State := aboutOver below0
def p0 : Program := .bare "" "" ""
def e0 : Env := launch0.env 0 0 0
theorem w_frames : about1.frames = Frame.invoking theMethod args0 :: below0 := rfl
set_option maxRecDepth 65536 in
theorem w_args : argsFit about1.vm theMethod args0 = true := by decide +kernel
set_option maxRecDepth 65536 in
theorem w_heap : heapFits about1 = true := by decide +kernel
set_option maxRecDepth 65536 in
theorem w_runnable : about1.curStatus? = some .runnable := by decide +kernel
set_option maxRecDepth 65536 in
theorem w_alone : about1.alone = true := by decide +kernel
set_option maxRecDepth 65536 in
theorem w_named : about1.methodNamed? x = some theMethod := by decide +kernel
set_option maxRecDepth 65536 in
theorem w_hears : about1.hears theMethod below0 = true := by decide +kernel
set_option maxRecDepth 65536 in
theorem w_ripe : about1.ripe theMethod args0 below0 = true := by decide +kernel
theorem w_running : about1.status = .running := rfl
set_option maxRecDepth 65536 in
theorem w_room : about1.hasRoom e0.platform room_1 = true :=
  launch0.hasRoom_least _ room_1 (by decide +kernel) (by decide +kernel) (by decide +kernel) (by decide +kernel) (by decide +kernel) (by decide +kernel)
theorem allAtoms_all (ts : List Jvm.Cond) (a : Array Jvm.Value) (st : Jvm.State) : (allAtoms ts).before a st = ts.all (fun c => c.before a st) := by
  induction ts with
  | nil => rfl
  | cons c t ih =>
    show (Jvm.Cond.and c (allAtoms t)).before a st = _
    rw [Jvm.Cond.before_and, ih, List.all_cons]
def words1 : List Jvm.Cond := Jvm.Cond.code x code maxLocals ret :: tables_1
/-- a 'code' word, met by the world's own term for the bytes: nothing is compared byte by byte -/
theorem code_word {y : MethodName} {bytes : ByteArray} {mx : Nat} {rt : Option FieldType} {a : Array Value} {s : State} {m : MethodId} {meth : Method} {c : Code} (h1 : s.methodNamed? y = some m) (h2 : s.vm.method? m = some meth) (h3 : meth.code = some c) (h4 : c.code = bytes)
    (h5 : (c.maxLocals == mx && c.exceptionTable.isEmpty && decide (c.maxStack ≤ mostOperands) && decide (meth.sig.returnType = rt) && !meth.locks && decide (parseMethodDescriptor y.desc = some meth.sig)) = true) : (Jvm.Cond.code y bytes mx rt).before a s = true := by
  simp only [Bool.and_eq_true, beq_iff_eq, Bool.not_eq_true', decide_eq_true_eq] at h5
  obtain ⟨⟨⟨⟨⟨g1, g2⟩, g3⟩, g4⟩, g5⟩, g6⟩ := h5
  simp [Cond.before, Cond.holds, Cond.value, h1, h2, h3, h4, g1, g2, g3, g4, g5, g6]
def isCode : Jvm.Cond → Bool
  | .code _ _ _ _ => true
  | _ => false
theorem all_split {L : List Jvm.Cond} {P : Jvm.Cond → Bool} (h1 : L.all (fun c => isCode c || P c) = true) (h2 : ∀ c ∈ L.filter isCode, P c = true) : L.all P = true := by
  refine List.all_eq_true.mpr fun c hc => ?_
  have h := List.all_eq_true.mp h1 c hc
  rcases Bool.eq_false_or_eq_true (isCode c) with hi | hi
  · exact h2 c (List.mem_filter.mpr ⟨hc, hi⟩)
  · simpa [hi] using h
set_option maxRecDepth 65536 in
theorem w_c0 : (Jvm.Cond.code x code maxLocals ret).before args0 about1 = true := code_word (m := ⟨1, 1⟩) (meth := k1m1) (c := k1c1) (by decide +kernel) rfl rfl rfl (by decide +kernel)
set_option maxRecDepth 65536 in
theorem w_c1 : (Jvm.Cond.code ({ cls := "gradivo/spec/ValueKind", name := "isList", desc := "()Z" } : Jvm.MethodName) prog_105_method_8_code (1 : Nat) (Option.some Jvm.ClassFile.FieldType.boolean)).before args0 about1 = true := code_word (m := ⟨6, 0⟩) (meth := k6m0) (c := k6c0) (by decide +kernel) rfl rfl rfl (by decide +kernel)
def codes1 : List Jvm.Cond := [Jvm.Cond.code x code maxLocals ret, Jvm.Cond.code ({ cls := "gradivo/spec/ValueKind", name := "isList", desc := "()Z" } : Jvm.MethodName) prog_105_method_8_code (1 : Nat) (Option.some Jvm.ClassFile.FieldType.boolean)]
set_option maxRecDepth 65536 in
theorem codes_eq : words1.filter isCode = codes1 := rfl
theorem w_codes : ∀ c ∈ words1.filter isCode, c.before args0 about1 = true := by
  rw [codes_eq]
  intro c hc
  simp only [codes1, List.mem_cons, List.not_mem_nil, or_false] at hc
  rcases hc with rfl | rfl
  · exact w_c0
  · exact w_c1
set_option maxRecDepth 65536 in
theorem w_t1 : (words1.take 24).all (fun c => isCode c || c.before args0 about1) = true := by decide +kernel
set_option maxRecDepth 65536 in
theorem w_t2 : (words1.drop 24).all (fun c => isCode c || c.before args0 about1) = true := by decide +kernel
theorem w_tables : (allAtoms (Jvm.Cond.code x code maxLocals ret :: tables_1)).before args0 about1 = true := by
  rw [allAtoms_all]
  show words1.all (fun c => c.before args0 about1) = true
  refine all_split ?_ w_codes
  rw [← List.take_append_drop 24 words1, List.all_append, w_t1, w_t2]
  rfl
set_option maxRecDepth 65536 in
theorem w_case : (Jvm.Cond.and given_1 narrow_1).before args0 about1 = true := by decide +kernel
theorem w_applies : (headSpec (Jvm.Cond.code x code maxLocals ret :: tables_1) room_1).applies x e0.platform about1 = true :=
  (Spec.applies_iff w_frames).mpr ⟨w_running, w_runnable, w_alone, w_named, w_hears, w_ripe, w_room, w_tables⟩
theorem atStart : AtStart classFile x code maxLocals ret World_1 tables_1 room_1 Calls_1 rest_1 Pre_1 launch0 p0 e0 about1 theMethod args0 below0 :=
  ⟨lists_1, trivial, launch0.admits_env _ _ _, launch0.least_env, fairChoices_fair.cas, fairChoices_fair.clock, w_frames, w_args, w_heap, w_applies, trivial, trivial, w_case⟩
end start1
theorem witness_1 : WitnessClaimed_1 := ⟨start1.p0, start1.e0, start1.about1, start1.theMethod, start1.args0, start1.below0, start1.atStart⟩
end Jvm.Pilot.@@N@@
