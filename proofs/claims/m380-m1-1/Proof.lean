import JvmDerived
import JvmDerived.Pilot.@@N@@Statement
import JvmDerived.Pilot.@@N@@Code
set_option linter.unusedVariables false
set_option linter.unusedSimpArgs false
namespace Jvm.Pilot.@@N@@
open Jvm Jvm.ClassFile Sem Op Lib Jvm.Free Jvm.Stand Jvm.LawKit Jvm.RoadKit Bundle Jvm.Pilot.@@N@@.Jvm.D
abbrev Way (p : Program) (e : Env) (below : List Frame) (S0 T : State) (g : JFrame) : Prop := ∀ t, Steps p.tables e below (T.setTop g) t → Steps p.tables e below S0 t
theorem own_old {Z : State} {n0 : Nat} {h : Heap} (O : Old Z n0 h) : n0 ≤ h.size := O.1 ▸ O.2.1
theorem own_eqF {args : Array Value} {s : State} {t : Term} {x : Addr} {C n d : String} {k : Int32} (ht : t.eval args s none [] s = some (.ref x)) (h : (Jvm.Cond.eq (.field t C n d) (.int k)).value args s none s [] = some true) : s.fieldOf? x C n d = some (.int k) :=
  (fld_at ht).symm.trans (Cond.eq_int (Cond.before_iff.mpr h) rfl)
theorem own_rem16 (x : Int32) : ((x &&& (2147483647 : Int32)) % (16 : Int32)) = (0 : Int32) ∨ ((x &&& (2147483647 : Int32)) % (16 : Int32)) = (1 : Int32) ∨ ((x &&& (2147483647 : Int32)) % (16 : Int32)) = (2 : Int32) ∨ ((x &&& (2147483647 : Int32)) % (16 : Int32)) = (3 : Int32) ∨ ((x &&& (2147483647 : Int32)) % (16 : Int32)) = (4 : Int32) ∨ ((x &&& (2147483647 : Int32)) % (16 : Int32)) = (5 : Int32) ∨ ((x &&& (2147483647 : Int32)) % (16 : Int32)) = (6 : Int32) ∨ ((x &&& (2147483647 : Int32)) % (16 : Int32)) = (7 : Int32) ∨ ((x &&& (2147483647 : Int32)) % (16 : Int32)) = (8 : Int32) ∨ ((x &&& (2147483647 : Int32)) % (16 : Int32)) = (9 : Int32) ∨ ((x &&& (2147483647 : Int32)) % (16 : Int32)) = (10 : Int32) ∨ ((x &&& (2147483647 : Int32)) % (16 : Int32)) = (11 : Int32) ∨ ((x &&& (2147483647 : Int32)) % (16 : Int32)) = (12 : Int32) ∨ ((x &&& (2147483647 : Int32)) % (16 : Int32)) = (13 : Int32) ∨ ((x &&& (2147483647 : Int32)) % (16 : Int32)) = (14 : Int32) ∨ ((x &&& (2147483647 : Int32)) % (16 : Int32)) = (15 : Int32) := by
  have h1 : (x &&& (2147483647 : Int32)).toInt = x.toInt % (2 ^ 31 : Nat) := c_mask x 2147483647 31 (by decide) (by decide)
  have h2 := (c_irem (x &&& (2147483647 : Int32)) (16 : Int32) 16 (by decide)).1 (by omega)
  have h3 : ((x &&& (2147483647 : Int32)) % (16 : Int32)).toInt = 0 ∨ ((x &&& (2147483647 : Int32)) % (16 : Int32)).toInt = 1 ∨ ((x &&& (2147483647 : Int32)) % (16 : Int32)).toInt = 2 ∨ ((x &&& (2147483647 : Int32)) % (16 : Int32)).toInt = 3 ∨ ((x &&& (2147483647 : Int32)) % (16 : Int32)).toInt = 4 ∨ ((x &&& (2147483647 : Int32)) % (16 : Int32)).toInt = 5 ∨ ((x &&& (2147483647 : Int32)) % (16 : Int32)).toInt = 6 ∨ ((x &&& (2147483647 : Int32)) % (16 : Int32)).toInt = 7 ∨ ((x &&& (2147483647 : Int32)) % (16 : Int32)).toInt = 8 ∨ ((x &&& (2147483647 : Int32)) % (16 : Int32)).toInt = 9 ∨ ((x &&& (2147483647 : Int32)) % (16 : Int32)).toInt = 10 ∨ ((x &&& (2147483647 : Int32)) % (16 : Int32)).toInt = 11 ∨ ((x &&& (2147483647 : Int32)) % (16 : Int32)).toInt = 12 ∨ ((x &&& (2147483647 : Int32)) % (16 : Int32)).toInt = 13 ∨ ((x &&& (2147483647 : Int32)) % (16 : Int32)).toInt = 14 ∨ ((x &&& (2147483647 : Int32)) % (16 : Int32)).toInt = 15 := by omega
  rcases h3 with h | h | h | h | h | h | h | h | h | h | h | h | h | h | h | h
  · exact Or.inl (Int32.toInt_inj.mp h)
  · exact Or.inr (Or.inl (Int32.toInt_inj.mp h))
  · exact Or.inr (Or.inr (Or.inl (Int32.toInt_inj.mp h)))
  · exact Or.inr (Or.inr (Or.inr (Or.inl (Int32.toInt_inj.mp h))))
  · exact Or.inr (Or.inr (Or.inr (Or.inr (Or.inl (Int32.toInt_inj.mp h)))))
  · exact Or.inr (Or.inr (Or.inr (Or.inr (Or.inr (Or.inl (Int32.toInt_inj.mp h))))))
  · exact Or.inr (Or.inr (Or.inr (Or.inr (Or.inr (Or.inr (Or.inl (Int32.toInt_inj.mp h)))))))
  · exact Or.inr (Or.inr (Or.inr (Or.inr (Or.inr (Or.inr (Or.inr (Or.inl (Int32.toInt_inj.mp h))))))))
  · exact Or.inr (Or.inr (Or.inr (Or.inr (Or.inr (Or.inr (Or.inr (Or.inr (Or.inl (Int32.toInt_inj.mp h)))))))))
  · exact Or.inr (Or.inr (Or.inr (Or.inr (Or.inr (Or.inr (Or.inr (Or.inr (Or.inr (Or.inl (Int32.toInt_inj.mp h))))))))))
  · exact Or.inr (Or.inr (Or.inr (Or.inr (Or.inr (Or.inr (Or.inr (Or.inr (Or.inr (Or.inr (Or.inl (Int32.toInt_inj.mp h)))))))))))
  · exact Or.inr (Or.inr (Or.inr (Or.inr (Or.inr (Or.inr (Or.inr (Or.inr (Or.inr (Or.inr (Or.inr (Or.inl (Int32.toInt_inj.mp h))))))))))))
  · exact Or.inr (Or.inr (Or.inr (Or.inr (Or.inr (Or.inr (Or.inr (Or.inr (Or.inr (Or.inr (Or.inr (Or.inr (Or.inl (Int32.toInt_inj.mp h)))))))))))))
  · exact Or.inr (Or.inr (Or.inr (Or.inr (Or.inr (Or.inr (Or.inr (Or.inr (Or.inr (Or.inr (Or.inr (Or.inr (Or.inr (Or.inl (Int32.toInt_inj.mp h))))))))))))))
  · exact Or.inr (Or.inr (Or.inr (Or.inr (Or.inr (Or.inr (Or.inr (Or.inr (Or.inr (Or.inr (Or.inr (Or.inr (Or.inr (Or.inr (Or.inl (Int32.toInt_inj.mp h)))))))))))))))
  · exact Or.inr (Or.inr (Or.inr (Or.inr (Or.inr (Or.inr (Or.inr (Or.inr (Or.inr (Or.inr (Or.inr (Or.inr (Or.inr (Or.inr (Or.inr ((Int32.toInt_inj.mp h))))))))))))))))
def Gst (Z : State) (w_TEXT : Addr) (w_COMPOSITE : Addr) (w_CLOSED_LIST : Addr) (w_LISTED : Addr) (w_URI : Addr) (w_ISO3166_1_ALPHA2 : Addr) (w_ISO639 : Addr) (w_ISO15924 : Addr) (w_POSITIVE_NUMBER : Addr) (w_POSITIVE_INTEGER : Addr) (w_NONNEGATIVE_INTEGER : Addr) (w_ISO8601_DATE : Addr) (w_DIGEST : Addr) (w_PER_TIME_STANDARD : Addr) (w_PER_COORDINATE_SYSTEM : Addr) (w_TIME_SPAN : Addr) : Prop := (Sta Z Z.heap "gradivo/spec/ValueKind" "TEXT" "Lgradivo/spec/ValueKind;" (.ref w_TEXT)) ∧ (Exa Z Z.heap w_TEXT "gradivo/spec/ValueKind") ∧ (Fld Z Z.heap w_TEXT "java/lang/Enum" "ordinal" "I" (.int (0 : Int32))) ∧ (Sta Z Z.heap "gradivo/spec/ValueKind" "COMPOSITE" "Lgradivo/spec/ValueKind;" (.ref w_COMPOSITE)) ∧ (Exa Z Z.heap w_COMPOSITE "gradivo/spec/ValueKind") ∧ (Fld Z Z.heap w_COMPOSITE "java/lang/Enum" "ordinal" "I" (.int (1 : Int32))) ∧ (Sta Z Z.heap "gradivo/spec/ValueKind" "CLOSED_LIST" "Lgradivo/spec/ValueKind;" (.ref w_CLOSED_LIST)) ∧ (Exa Z Z.heap w_CLOSED_LIST "gradivo/spec/ValueKind") ∧ (Fld Z Z.heap w_CLOSED_LIST "java/lang/Enum" "ordinal" "I" (.int (2 : Int32))) ∧ (Sta Z Z.heap "gradivo/spec/ValueKind" "LISTED" "Lgradivo/spec/ValueKind;" (.ref w_LISTED)) ∧ (Exa Z Z.heap w_LISTED "gradivo/spec/ValueKind") ∧ (Fld Z Z.heap w_LISTED "java/lang/Enum" "ordinal" "I" (.int (3 : Int32))) ∧ (Sta Z Z.heap "gradivo/spec/ValueKind" "URI" "Lgradivo/spec/ValueKind;" (.ref w_URI)) ∧ (Exa Z Z.heap w_URI "gradivo/spec/ValueKind") ∧ (Fld Z Z.heap w_URI "java/lang/Enum" "ordinal" "I" (.int (4 : Int32))) ∧ (Sta Z Z.heap "gradivo/spec/ValueKind" "ISO3166_1_ALPHA2" "Lgradivo/spec/ValueKind;" (.ref w_ISO3166_1_ALPHA2)) ∧ (Exa Z Z.heap w_ISO3166_1_ALPHA2 "gradivo/spec/ValueKind") ∧ (Fld Z Z.heap w_ISO3166_1_ALPHA2 "java/lang/Enum" "ordinal" "I" (.int (5 : Int32))) ∧ (Sta Z Z.heap "gradivo/spec/ValueKind" "ISO639" "Lgradivo/spec/ValueKind;" (.ref w_ISO639)) ∧ (Exa Z Z.heap w_ISO639 "gradivo/spec/ValueKind") ∧ (Fld Z Z.heap w_ISO639 "java/lang/Enum" "ordinal" "I" (.int (6 : Int32))) ∧ (Sta Z Z.heap "gradivo/spec/ValueKind" "ISO15924" "Lgradivo/spec/ValueKind;" (.ref w_ISO15924)) ∧ (Exa Z Z.heap w_ISO15924 "gradivo/spec/ValueKind") ∧ (Fld Z Z.heap w_ISO15924 "java/lang/Enum" "ordinal" "I" (.int (7 : Int32))) ∧ (Sta Z Z.heap "gradivo/spec/ValueKind" "POSITIVE_NUMBER" "Lgradivo/spec/ValueKind;" (.ref w_POSITIVE_NUMBER)) ∧ (Exa Z Z.heap w_POSITIVE_NUMBER "gradivo/spec/ValueKind") ∧ (Fld Z Z.heap w_POSITIVE_NUMBER "java/lang/Enum" "ordinal" "I" (.int (8 : Int32))) ∧ (Sta Z Z.heap "gradivo/spec/ValueKind" "POSITIVE_INTEGER" "Lgradivo/spec/ValueKind;" (.ref w_POSITIVE_INTEGER)) ∧ (Exa Z Z.heap w_POSITIVE_INTEGER "gradivo/spec/ValueKind") ∧ (Fld Z Z.heap w_POSITIVE_INTEGER "java/lang/Enum" "ordinal" "I" (.int (9 : Int32))) ∧ (Sta Z Z.heap "gradivo/spec/ValueKind" "NONNEGATIVE_INTEGER" "Lgradivo/spec/ValueKind;" (.ref w_NONNEGATIVE_INTEGER)) ∧ (Exa Z Z.heap w_NONNEGATIVE_INTEGER "gradivo/spec/ValueKind") ∧ (Fld Z Z.heap w_NONNEGATIVE_INTEGER "java/lang/Enum" "ordinal" "I" (.int (10 : Int32))) ∧ (Sta Z Z.heap "gradivo/spec/ValueKind" "ISO8601_DATE" "Lgradivo/spec/ValueKind;" (.ref w_ISO8601_DATE)) ∧ (Exa Z Z.heap w_ISO8601_DATE "gradivo/spec/ValueKind") ∧ (Fld Z Z.heap w_ISO8601_DATE "java/lang/Enum" "ordinal" "I" (.int (11 : Int32))) ∧ (Sta Z Z.heap "gradivo/spec/ValueKind" "DIGEST" "Lgradivo/spec/ValueKind;" (.ref w_DIGEST)) ∧ (Exa Z Z.heap w_DIGEST "gradivo/spec/ValueKind") ∧ (Fld Z Z.heap w_DIGEST "java/lang/Enum" "ordinal" "I" (.int (12 : Int32))) ∧ (Sta Z Z.heap "gradivo/spec/ValueKind" "PER_TIME_STANDARD" "Lgradivo/spec/ValueKind;" (.ref w_PER_TIME_STANDARD)) ∧ (Exa Z Z.heap w_PER_TIME_STANDARD "gradivo/spec/ValueKind") ∧ (Fld Z Z.heap w_PER_TIME_STANDARD "java/lang/Enum" "ordinal" "I" (.int (13 : Int32))) ∧ (Sta Z Z.heap "gradivo/spec/ValueKind" "PER_COORDINATE_SYSTEM" "Lgradivo/spec/ValueKind;" (.ref w_PER_COORDINATE_SYSTEM)) ∧ (Exa Z Z.heap w_PER_COORDINATE_SYSTEM "gradivo/spec/ValueKind") ∧ (Fld Z Z.heap w_PER_COORDINATE_SYSTEM "java/lang/Enum" "ordinal" "I" (.int (14 : Int32))) ∧ (Sta Z Z.heap "gradivo/spec/ValueKind" "TIME_SPAN" "Lgradivo/spec/ValueKind;" (.ref w_TIME_SPAN)) ∧ (Exa Z Z.heap w_TIME_SPAN "gradivo/spec/ValueKind") ∧ (Fld Z Z.heap w_TIME_SPAN "java/lang/Enum" "ordinal" "I" (.int (15 : Int32)))
theorem d_method_2_code_0 : decode method_2_code 0 = .ok (.iload_n 0, 1) := by decide +kernel
theorem d_method_2_code_1 : decode method_2_code 1 = .ok (.ifCond .ne 7, 3) := by decide +kernel
theorem d_method_2_code_4 : decode method_2_code 4 = .ok (.getstatic 7, 3) := by decide +kernel
theorem d_method_2_code_7 : decode method_2_code 7 = .ok (.areturn, 1) := by decide +kernel
theorem pn_0 : plainName "gradivo/spec/ValueKindTakesFormFromPinLaw" = true := by first | (simp [plainName, overriddenIn]; done) | decide +kernel
theorem d_method_2_code_8 : decode method_2_code 8 = .ok (.iload_n 0, 1) := by decide +kernel
theorem d_method_2_code_9 : decode method_2_code 9 = .ok (.iconst 1, 1) := by decide +kernel
theorem d_method_2_code_10 : decode method_2_code 10 = .ok (.if_icmp .ne 7, 3) := by decide +kernel
theorem d_method_2_code_13 : decode method_2_code 13 = .ok (.getstatic 13, 3) := by decide +kernel
theorem d_method_2_code_16 : decode method_2_code 16 = .ok (.areturn, 1) := by decide +kernel
theorem d_method_2_code_17 : decode method_2_code 17 = .ok (.iload_n 0, 1) := by decide +kernel
theorem d_method_2_code_18 : decode method_2_code 18 = .ok (.iconst 2, 1) := by decide +kernel
theorem d_method_2_code_19 : decode method_2_code 19 = .ok (.if_icmp .ne 7, 3) := by decide +kernel
theorem d_method_2_code_22 : decode method_2_code 22 = .ok (.getstatic 16, 3) := by decide +kernel
theorem d_method_2_code_25 : decode method_2_code 25 = .ok (.areturn, 1) := by decide +kernel
theorem d_method_2_code_26 : decode method_2_code 26 = .ok (.iload_n 0, 1) := by decide +kernel
theorem d_method_2_code_27 : decode method_2_code 27 = .ok (.iconst 3, 1) := by decide +kernel
theorem d_method_2_code_28 : decode method_2_code 28 = .ok (.if_icmp .ne 7, 3) := by decide +kernel
theorem d_method_2_code_31 : decode method_2_code 31 = .ok (.getstatic 19, 3) := by decide +kernel
theorem d_method_2_code_34 : decode method_2_code 34 = .ok (.areturn, 1) := by decide +kernel
theorem d_method_2_code_35 : decode method_2_code 35 = .ok (.iload_n 0, 1) := by decide +kernel
theorem d_method_2_code_36 : decode method_2_code 36 = .ok (.iconst 4, 1) := by decide +kernel
theorem d_method_2_code_37 : decode method_2_code 37 = .ok (.if_icmp .ne 7, 3) := by decide +kernel
theorem d_method_2_code_40 : decode method_2_code 40 = .ok (.getstatic 22, 3) := by decide +kernel
theorem d_method_2_code_43 : decode method_2_code 43 = .ok (.areturn, 1) := by decide +kernel
theorem d_method_2_code_44 : decode method_2_code 44 = .ok (.iload_n 0, 1) := by decide +kernel
theorem d_method_2_code_45 : decode method_2_code 45 = .ok (.iconst 5, 1) := by decide +kernel
theorem d_method_2_code_46 : decode method_2_code 46 = .ok (.if_icmp .ne 7, 3) := by decide +kernel
theorem d_method_2_code_49 : decode method_2_code 49 = .ok (.getstatic 25, 3) := by decide +kernel
theorem d_method_2_code_52 : decode method_2_code 52 = .ok (.areturn, 1) := by decide +kernel
theorem d_method_2_code_53 : decode method_2_code 53 = .ok (.iload_n 0, 1) := by decide +kernel
theorem d_method_2_code_54 : decode method_2_code 54 = .ok (.bipush 6, 2) := by decide +kernel
theorem d_method_2_code_56 : decode method_2_code 56 = .ok (.if_icmp .ne 7, 3) := by decide +kernel
theorem d_method_2_code_59 : decode method_2_code 59 = .ok (.getstatic 28, 3) := by decide +kernel
theorem d_method_2_code_62 : decode method_2_code 62 = .ok (.areturn, 1) := by decide +kernel
theorem d_method_2_code_63 : decode method_2_code 63 = .ok (.iload_n 0, 1) := by decide +kernel
theorem d_method_2_code_64 : decode method_2_code 64 = .ok (.bipush 7, 2) := by decide +kernel
theorem d_method_2_code_66 : decode method_2_code 66 = .ok (.if_icmp .ne 7, 3) := by decide +kernel
theorem d_method_2_code_69 : decode method_2_code 69 = .ok (.getstatic 31, 3) := by decide +kernel
theorem d_method_2_code_72 : decode method_2_code 72 = .ok (.areturn, 1) := by decide +kernel
theorem d_method_2_code_73 : decode method_2_code 73 = .ok (.iload_n 0, 1) := by decide +kernel
theorem d_method_2_code_74 : decode method_2_code 74 = .ok (.bipush 8, 2) := by decide +kernel
theorem d_method_2_code_76 : decode method_2_code 76 = .ok (.if_icmp .ne 7, 3) := by decide +kernel
theorem d_method_2_code_79 : decode method_2_code 79 = .ok (.getstatic 34, 3) := by decide +kernel
theorem d_method_2_code_82 : decode method_2_code 82 = .ok (.areturn, 1) := by decide +kernel
theorem d_method_2_code_83 : decode method_2_code 83 = .ok (.iload_n 0, 1) := by decide +kernel
theorem d_method_2_code_84 : decode method_2_code 84 = .ok (.bipush 9, 2) := by decide +kernel
theorem d_method_2_code_86 : decode method_2_code 86 = .ok (.if_icmp .ne 7, 3) := by decide +kernel
theorem d_method_2_code_89 : decode method_2_code 89 = .ok (.getstatic 37, 3) := by decide +kernel
theorem d_method_2_code_92 : decode method_2_code 92 = .ok (.areturn, 1) := by decide +kernel
theorem d_method_2_code_93 : decode method_2_code 93 = .ok (.iload_n 0, 1) := by decide +kernel
theorem d_method_2_code_94 : decode method_2_code 94 = .ok (.bipush 10, 2) := by decide +kernel
theorem d_method_2_code_96 : decode method_2_code 96 = .ok (.if_icmp .ne 7, 3) := by decide +kernel
theorem d_method_2_code_99 : decode method_2_code 99 = .ok (.getstatic 40, 3) := by decide +kernel
theorem d_method_2_code_102 : decode method_2_code 102 = .ok (.areturn, 1) := by decide +kernel
theorem d_method_2_code_103 : decode method_2_code 103 = .ok (.iload_n 0, 1) := by decide +kernel
theorem d_method_2_code_104 : decode method_2_code 104 = .ok (.bipush 11, 2) := by decide +kernel
theorem d_method_2_code_106 : decode method_2_code 106 = .ok (.if_icmp .ne 7, 3) := by decide +kernel
theorem d_method_2_code_109 : decode method_2_code 109 = .ok (.getstatic 43, 3) := by decide +kernel
theorem d_method_2_code_112 : decode method_2_code 112 = .ok (.areturn, 1) := by decide +kernel
theorem d_method_2_code_113 : decode method_2_code 113 = .ok (.iload_n 0, 1) := by decide +kernel
theorem d_method_2_code_114 : decode method_2_code 114 = .ok (.bipush 12, 2) := by decide +kernel
theorem d_method_2_code_116 : decode method_2_code 116 = .ok (.if_icmp .ne 7, 3) := by decide +kernel
theorem d_method_2_code_119 : decode method_2_code 119 = .ok (.getstatic 46, 3) := by decide +kernel
theorem d_method_2_code_122 : decode method_2_code 122 = .ok (.areturn, 1) := by decide +kernel
theorem d_method_2_code_123 : decode method_2_code 123 = .ok (.iload_n 0, 1) := by decide +kernel
theorem d_method_2_code_124 : decode method_2_code 124 = .ok (.bipush 13, 2) := by decide +kernel
theorem d_method_2_code_126 : decode method_2_code 126 = .ok (.if_icmp .ne 7, 3) := by decide +kernel
theorem d_method_2_code_129 : decode method_2_code 129 = .ok (.getstatic 49, 3) := by decide +kernel
theorem d_method_2_code_132 : decode method_2_code 132 = .ok (.areturn, 1) := by decide +kernel
theorem d_method_2_code_133 : decode method_2_code 133 = .ok (.iload_n 0, 1) := by decide +kernel
theorem d_method_2_code_134 : decode method_2_code 134 = .ok (.bipush 14, 2) := by decide +kernel
theorem d_method_2_code_136 : decode method_2_code 136 = .ok (.if_icmp .ne 7, 3) := by decide +kernel
theorem d_method_2_code_139 : decode method_2_code 139 = .ok (.getstatic 52, 3) := by decide +kernel
theorem d_method_2_code_142 : decode method_2_code 142 = .ok (.areturn, 1) := by decide +kernel
theorem d_method_2_code_143 : decode method_2_code 143 = .ok (.getstatic 55, 3) := by decide +kernel
theorem d_method_2_code_146 : decode method_2_code 146 = .ok (.areturn, 1) := by decide +kernel
theorem d_prog_105_method_7_code_0 : decode prog_105_method_7_code 0 = .ok (.aload_n 0, 1) := by decide +kernel
theorem d_prog_105_method_7_code_1 : decode prog_105_method_7_code 1 = .ok (.getstatic 40, 3) := by decide +kernel
theorem d_prog_105_method_7_code_4 : decode prog_105_method_7_code 4 = .ok (.if_acmp .eq 17, 3) := by decide +kernel
theorem d_prog_105_method_7_code_7 : decode prog_105_method_7_code 7 = .ok (.aload_n 0, 1) := by decide +kernel
theorem d_prog_105_method_7_code_8 : decode prog_105_method_7_code 8 = .ok (.getstatic 43, 3) := by decide +kernel
theorem d_prog_105_method_7_code_11 : decode prog_105_method_7_code 11 = .ok (.if_acmp .eq 10, 3) := by decide +kernel
theorem d_prog_105_method_7_code_14 : decode prog_105_method_7_code 14 = .ok (.aload_n 0, 1) := by decide +kernel
theorem d_prog_105_method_7_code_15 : decode prog_105_method_7_code 15 = .ok (.getstatic 46, 3) := by decide +kernel
theorem d_prog_105_method_7_code_18 : decode prog_105_method_7_code 18 = .ok (.if_acmp .ne 7, 3) := by decide +kernel
theorem d_prog_105_method_7_code_25 : decode prog_105_method_7_code 25 = .ok (.iconst 0, 1) := by decide +kernel
theorem d_prog_105_method_7_code_26 : decode prog_105_method_7_code 26 = .ok (.ireturn, 1) := by decide +kernel
theorem pn_1 : plainName "gradivo/spec/ValueKind" = true := by first | (simp [plainName, overriddenIn]; done) | decide +kernel
theorem d_prog_105_method_7_code_21 : decode prog_105_method_7_code 21 = .ok (.iconst 1, 1) := by decide +kernel
theorem d_prog_105_method_7_code_22 : decode prog_105_method_7_code 22 = .ok (.goto 4, 3) := by decide +kernel
theorem pd_0 : parseMethodDescriptor "(I)Lgradivo/spec/ValueKind;" = some ⟨[.int], some (.object "gradivo/spec/ValueKind")⟩ := by decide +kernel
theorem pd_1 : parseMethodDescriptor "()Z" = some ⟨[], some .boolean⟩ := by decide +kernel
def Q_pick0 (Z : State) (w_TEXT : Addr) (w_COMPOSITE : Addr) (w_CLOSED_LIST : Addr) (w_LISTED : Addr) (w_URI : Addr) (w_ISO3166_1_ALPHA2 : Addr) (w_ISO639 : Addr) (w_ISO15924 : Addr) (w_POSITIVE_NUMBER : Addr) (w_POSITIVE_INTEGER : Addr) (w_NONNEGATIVE_INTEGER : Addr) (w_ISO8601_DATE : Addr) (w_DIGEST : Addr) (w_PER_TIME_STANDARD : Addr) (w_PER_COORDINATE_SYSTEM : Addr) (w_TIME_SPAN : Addr)  (h0 : Heap) (n0 : Nat) (v : Option Value) (h : Heap) (L : List Loc) : Prop := (v = some (.ref w_TEXT)) ∧ (Fr n0 L) ∧ (h = h0)
set_option maxRecDepth 65536 in
set_option maxHeartbeats 40000000 in
theorem pick0 (l : Launch) (Z : State) (a0 : Array Value) (hw : ∀ d ∈ tables_1, d.before a0 Z = true) (ws : List Jvm.Cond) (w_TEXT : Addr) (w_COMPOSITE : Addr) (w_CLOSED_LIST : Addr) (w_LISTED : Addr) (w_URI : Addr) (w_ISO3166_1_ALPHA2 : Addr) (w_ISO639 : Addr) (w_ISO15924 : Addr) (w_POSITIVE_NUMBER : Addr) (w_POSITIVE_INTEGER : Addr) (w_NONNEGATIVE_INTEGER : Addr) (w_ISO8601_DATE : Addr) (w_DIGEST : Addr) (w_PER_TIME_STANDARD : Addr) (w_PER_COORDINATE_SYSTEM : Addr) (w_TIME_SPAN : Addr) (G : Gst Z w_TEXT w_COMPOSITE w_CLOSED_LIST w_LISTED w_URI w_ISO3166_1_ALPHA2 w_ISO639 w_ISO15924 w_POSITIVE_NUMBER w_POSITIVE_INTEGER w_NONNEGATIVE_INTEGER w_ISO8601_DATE w_DIGEST w_PER_TIME_STANDARD w_PER_COORDINATE_SYSTEM w_TIME_SPAN)  (h0 : Heap) (n0 : Nat) (O0 : Old Z n0 h0) :
    MetFree l (⟨"gradivo/spec/ValueKindTakesFormFromPinLaw", "pick", "(I)Lgradivo/spec/ValueKind;"⟩ : MethodName) (head1 (Jvm.Cond.code (⟨"gradivo/spec/ValueKindTakesFormFromPinLaw", "pick", "(I)Lgradivo/spec/ValueKind;"⟩ : MethodName) method_2_code 1 (some (.object "gradivo/spec/ValueKind")) :: ws) ({ frames := 0, cells := 0, slots := 0, locals := 0 } : Room)) (fun a U => a = #[(.int (0 : Int32))] ∧ Z.Warmed39 U.vm ∧ U.heap = h0) (fun _ _ _ _ _ => True) (fun _ U o U' => ∃ v L, o = .returned v ∧ Q_pick0 Z w_TEXT w_COMPOSITE w_CLOSED_LIST w_LISTED w_URI w_ISO3166_1_ALPHA2 w_ISO639 w_ISO15924 w_POSITIVE_NUMBER w_POSITIVE_INTEGER w_NONNEGATIVE_INTEGER w_ISO8601_DATE w_DIGEST w_PER_TIME_STANDARD w_PER_COORDINATE_SYSTEM w_TIME_SPAN  h0 n0 v U'.heap L ∧ FrameEnd U o U' L ({ frames := 0, cells := 0, slots := 0, locals := 0 } : Room).cells ({ frames := 0, cells := 0, slots := 0, locals := 0 } : Room).slots) := by
  refine MetFree.of_bodySF (plainFor_of_name pn_0) hisR ?_
  intro p e s m args below meth c s₁ Bd hml0 hP hK
  obtain ⟨rfl, hZ, hh⟩ := hP
  have hx := Bd.exec
  have hby := Bd.bytes
  have hml : c.maxLocals = 1 := hml0
  have hown : s.vm.findClass "gradivo/spec/ValueKindTakesFormFromPinLaw" = some m.cls := findClass_of_methodNamed Bd.named
  have hnm := (name_of_methodNamed Bd.named Bd.method).1
  have X0 : Stand p l e ({ frames := 0, cells := 0, slots := 0, locals := 0 } : Room) s m #[(.int (0 : Int32))] below meth c s₁ [] 0 0 := Stand.of_body Bd
  have e0 : s₁.heap = h0 := by rw [← hh, Bd.state]; rfl
  have N0 := Fr.nil n0
  obtain ⟨S_w_TEXT, E_w_TEXT, F_w_TEXT_ordinal, S_w_COMPOSITE, E_w_COMPOSITE, F_w_COMPOSITE_ordinal, S_w_CLOSED_LIST, E_w_CLOSED_LIST, F_w_CLOSED_LIST_ordinal, S_w_LISTED, E_w_LISTED, F_w_LISTED_ordinal, S_w_URI, E_w_URI, F_w_URI_ordinal, S_w_ISO3166_1_ALPHA2, E_w_ISO3166_1_ALPHA2, F_w_ISO3166_1_ALPHA2_ordinal, S_w_ISO639, E_w_ISO639, F_w_ISO639_ordinal, S_w_ISO15924, E_w_ISO15924, F_w_ISO15924_ordinal, S_w_POSITIVE_NUMBER, E_w_POSITIVE_NUMBER, F_w_POSITIVE_NUMBER_ordinal, S_w_POSITIVE_INTEGER, E_w_POSITIVE_INTEGER, F_w_POSITIVE_INTEGER_ordinal, S_w_NONNEGATIVE_INTEGER, E_w_NONNEGATIVE_INTEGER, F_w_NONNEGATIVE_INTEGER_ordinal, S_w_ISO8601_DATE, E_w_ISO8601_DATE, F_w_ISO8601_DATE_ordinal, S_w_DIGEST, E_w_DIGEST, F_w_DIGEST_ordinal, S_w_PER_TIME_STANDARD, E_w_PER_TIME_STANDARD, F_w_PER_TIME_STANDARD_ordinal, S_w_PER_COORDINATE_SYSTEM, E_w_PER_COORDINATE_SYSTEM, F_w_PER_COORDINATE_SYSTEM_ordinal, S_w_TIME_SPAN, E_w_TIME_SPAN, F_w_TIME_SPAN_ordinal⟩ := id G
  have k0 : Way p e below (s₁.setTop (entryFrame m #[(.int (0 : Int32))] 1)) s₁ (mkF m 0 #[iv (0 : Int32)] []) := fun t k => castTop (by first | (simp [entryFrame, mkF, argsToLocals, Value.category]; done) | rfl) k
  generalize s₁.setTop (entryFrame m #[(.int (0 : Int32))] 1) = S0 at k0 ⊢
  have k1 : Way p e below S0 s₁ (mkF m 4 #[iv (0 : Int32)] []) := by
    intro t k
    refine k0 t ?_
    refine XS.iloadN X0.here hx rfl (hb hby d_method_2_code_0) rfl ?_
    show Steps p.tables e below (s₁.setTop (mkF m 1 #[iv (0 : Int32)] [(.int (0 : Int32))])) _
    refine XS.ifNo X0.here hx rfl (hb hby d_method_2_code_1) rfl ((if0 _ _).trans (teq ((by decide) : (0 : Int32) = (0 : Int32))).2) ?_
    show Steps p.tables e below (s₁.setTop (mkF m 4 #[iv (0 : Int32)] [])) _
    exact k
  obtain ⟨T2, X2, e2, st2⟩ := getS2 X0 hx hZ hown (host := "") (Or.inl (hw _ (List.mem_of_getElem? (i := 5) rfl))) Via.refl e0 (S_w_TEXT.ext O0.2) (g := (mkF m 4 #[iv (0 : Int32)] [])) rfl (hb hby d_method_2_code_4)
  have k3 : Way p e below S0 T2 (mkF m 7 #[iv (0 : Int32)] [(.ref w_TEXT)]) := fun t k => k1 t (st2 _ k)
  obtain ⟨fs, hr, hrun, hended, hW, hsame⟩ := X2.leave (v := some (.ref w_TEXT)) (fun h => by rw [Bd.returns] at h; cases h)
  refine ⟨_, _, k3 _ (retOut X2 hx Bd.returns rfl (Or.inr (Or.inr (Or.inr (Or.inr ⟨rfl, rfl, rfl⟩)))) (hb hby d_method_2_code_7) hr), hrun, hended, _, _, rfl, ?_, ⟨_, rfl⟩, hW, hsame.mono (by decide) (by decide)⟩
  show Q_pick0 Z w_TEXT w_COMPOSITE w_CLOSED_LIST w_LISTED w_URI w_ISO3166_1_ALPHA2 w_ISO639 w_ISO15924 w_POSITIVE_NUMBER w_POSITIVE_INTEGER w_NONNEGATIVE_INTEGER w_ISO8601_DATE w_DIGEST w_PER_TIME_STANDARD w_PER_COORDINATE_SYSTEM w_TIME_SPAN  h0 n0 _ T2.heap _
  rw [e2]
  exact ⟨rfl, N0, rfl⟩
def Q_pick1 (Z : State) (w_TEXT : Addr) (w_COMPOSITE : Addr) (w_CLOSED_LIST : Addr) (w_LISTED : Addr) (w_URI : Addr) (w_ISO3166_1_ALPHA2 : Addr) (w_ISO639 : Addr) (w_ISO15924 : Addr) (w_POSITIVE_NUMBER : Addr) (w_POSITIVE_INTEGER : Addr) (w_NONNEGATIVE_INTEGER : Addr) (w_ISO8601_DATE : Addr) (w_DIGEST : Addr) (w_PER_TIME_STANDARD : Addr) (w_PER_COORDINATE_SYSTEM : Addr) (w_TIME_SPAN : Addr)  (h0 : Heap) (n0 : Nat) (v : Option Value) (h : Heap) (L : List Loc) : Prop := (v = some (.ref w_COMPOSITE)) ∧ (Fr n0 L) ∧ (h = h0)
set_option maxRecDepth 65536 in
set_option maxHeartbeats 40000000 in
theorem pick1 (l : Launch) (Z : State) (a0 : Array Value) (hw : ∀ d ∈ tables_1, d.before a0 Z = true) (ws : List Jvm.Cond) (w_TEXT : Addr) (w_COMPOSITE : Addr) (w_CLOSED_LIST : Addr) (w_LISTED : Addr) (w_URI : Addr) (w_ISO3166_1_ALPHA2 : Addr) (w_ISO639 : Addr) (w_ISO15924 : Addr) (w_POSITIVE_NUMBER : Addr) (w_POSITIVE_INTEGER : Addr) (w_NONNEGATIVE_INTEGER : Addr) (w_ISO8601_DATE : Addr) (w_DIGEST : Addr) (w_PER_TIME_STANDARD : Addr) (w_PER_COORDINATE_SYSTEM : Addr) (w_TIME_SPAN : Addr) (G : Gst Z w_TEXT w_COMPOSITE w_CLOSED_LIST w_LISTED w_URI w_ISO3166_1_ALPHA2 w_ISO639 w_ISO15924 w_POSITIVE_NUMBER w_POSITIVE_INTEGER w_NONNEGATIVE_INTEGER w_ISO8601_DATE w_DIGEST w_PER_TIME_STANDARD w_PER_COORDINATE_SYSTEM w_TIME_SPAN)  (h0 : Heap) (n0 : Nat) (O0 : Old Z n0 h0) :
    MetFree l (⟨"gradivo/spec/ValueKindTakesFormFromPinLaw", "pick", "(I)Lgradivo/spec/ValueKind;"⟩ : MethodName) (head1 (Jvm.Cond.code (⟨"gradivo/spec/ValueKindTakesFormFromPinLaw", "pick", "(I)Lgradivo/spec/ValueKind;"⟩ : MethodName) method_2_code 1 (some (.object "gradivo/spec/ValueKind")) :: ws) ({ frames := 0, cells := 0, slots := 0, locals := 0 } : Room)) (fun a U => a = #[(.int (1 : Int32))] ∧ Z.Warmed39 U.vm ∧ U.heap = h0) (fun _ _ _ _ _ => True) (fun _ U o U' => ∃ v L, o = .returned v ∧ Q_pick1 Z w_TEXT w_COMPOSITE w_CLOSED_LIST w_LISTED w_URI w_ISO3166_1_ALPHA2 w_ISO639 w_ISO15924 w_POSITIVE_NUMBER w_POSITIVE_INTEGER w_NONNEGATIVE_INTEGER w_ISO8601_DATE w_DIGEST w_PER_TIME_STANDARD w_PER_COORDINATE_SYSTEM w_TIME_SPAN  h0 n0 v U'.heap L ∧ FrameEnd U o U' L ({ frames := 0, cells := 0, slots := 0, locals := 0 } : Room).cells ({ frames := 0, cells := 0, slots := 0, locals := 0 } : Room).slots) := by
  refine MetFree.of_bodySF (plainFor_of_name pn_0) hisR ?_
  intro p e s m args below meth c s₁ Bd hml0 hP hK
  obtain ⟨rfl, hZ, hh⟩ := hP
  have hx := Bd.exec
  have hby := Bd.bytes
  have hml : c.maxLocals = 1 := hml0
  have hown : s.vm.findClass "gradivo/spec/ValueKindTakesFormFromPinLaw" = some m.cls := findClass_of_methodNamed Bd.named
  have hnm := (name_of_methodNamed Bd.named Bd.method).1
  have X0 : Stand p l e ({ frames := 0, cells := 0, slots := 0, locals := 0 } : Room) s m #[(.int (1 : Int32))] below meth c s₁ [] 0 0 := Stand.of_body Bd
  have e0 : s₁.heap = h0 := by rw [← hh, Bd.state]; rfl
  have N0 := Fr.nil n0
  obtain ⟨S_w_TEXT, E_w_TEXT, F_w_TEXT_ordinal, S_w_COMPOSITE, E_w_COMPOSITE, F_w_COMPOSITE_ordinal, S_w_CLOSED_LIST, E_w_CLOSED_LIST, F_w_CLOSED_LIST_ordinal, S_w_LISTED, E_w_LISTED, F_w_LISTED_ordinal, S_w_URI, E_w_URI, F_w_URI_ordinal, S_w_ISO3166_1_ALPHA2, E_w_ISO3166_1_ALPHA2, F_w_ISO3166_1_ALPHA2_ordinal, S_w_ISO639, E_w_ISO639, F_w_ISO639_ordinal, S_w_ISO15924, E_w_ISO15924, F_w_ISO15924_ordinal, S_w_POSITIVE_NUMBER, E_w_POSITIVE_NUMBER, F_w_POSITIVE_NUMBER_ordinal, S_w_POSITIVE_INTEGER, E_w_POSITIVE_INTEGER, F_w_POSITIVE_INTEGER_ordinal, S_w_NONNEGATIVE_INTEGER, E_w_NONNEGATIVE_INTEGER, F_w_NONNEGATIVE_INTEGER_ordinal, S_w_ISO8601_DATE, E_w_ISO8601_DATE, F_w_ISO8601_DATE_ordinal, S_w_DIGEST, E_w_DIGEST, F_w_DIGEST_ordinal, S_w_PER_TIME_STANDARD, E_w_PER_TIME_STANDARD, F_w_PER_TIME_STANDARD_ordinal, S_w_PER_COORDINATE_SYSTEM, E_w_PER_COORDINATE_SYSTEM, F_w_PER_COORDINATE_SYSTEM_ordinal, S_w_TIME_SPAN, E_w_TIME_SPAN, F_w_TIME_SPAN_ordinal⟩ := id G
  have k0 : Way p e below (s₁.setTop (entryFrame m #[(.int (1 : Int32))] 1)) s₁ (mkF m 0 #[iv (1 : Int32)] []) := fun t k => castTop (by first | (simp [entryFrame, mkF, argsToLocals, Value.category]; done) | rfl) k
  generalize s₁.setTop (entryFrame m #[(.int (1 : Int32))] 1) = S0 at k0 ⊢
  have k1 : Way p e below S0 s₁ (mkF m 13 #[iv (1 : Int32)] []) := by
    intro t k
    refine k0 t ?_
    refine XS.iloadN X0.here hx rfl (hb hby d_method_2_code_0) rfl ?_
    show Steps p.tables e below (s₁.setTop (mkF m 1 #[iv (1 : Int32)] [(.int (1 : Int32))])) _
    refine XS.ifYes X0.here hx rfl (pc0 := 1) (pc' := 8) rfl (hb hby d_method_2_code_1) rfl ((if0 _ _).trans (feq ((by decide) : ¬ ((1 : Int32) = (0 : Int32)))).2) (by decide) (by decide) ?_
    show Steps p.tables e below (s₁.setTop (mkF m 8 #[iv (1 : Int32)] [])) _
    refine XS.iloadN X0.here hx rfl (hb hby d_method_2_code_8) rfl ?_
    show Steps p.tables e below (s₁.setTop (mkF m 9 #[iv (1 : Int32)] [(.int (1 : Int32))])) _
    refine XS.iconst X0.here hx rfl (hb hby d_method_2_code_9) ?_
    show Steps p.tables e below (s₁.setTop (mkF m 10 #[iv (1 : Int32)] [(.int (1 : Int32)), (.int (1 : Int32))])) _
    refine XS.icmpNo X0.here hx rfl (hb hby d_method_2_code_10) rfl (teq ((by decide) : (1 : Int32) = (1 : Int32))).2 ?_
    show Steps p.tables e below (s₁.setTop (mkF m 13 #[iv (1 : Int32)] [])) _
    exact k
  obtain ⟨T2, X2, e2, st2⟩ := getS2 X0 hx hZ hown (host := "") (Or.inl (hw _ (List.mem_of_getElem? (i := 34) rfl))) Via.refl e0 (S_w_COMPOSITE.ext O0.2) (g := (mkF m 13 #[iv (1 : Int32)] [])) rfl (hb hby d_method_2_code_13)
  have k3 : Way p e below S0 T2 (mkF m 16 #[iv (1 : Int32)] [(.ref w_COMPOSITE)]) := fun t k => k1 t (st2 _ k)
  obtain ⟨fs, hr, hrun, hended, hW, hsame⟩ := X2.leave (v := some (.ref w_COMPOSITE)) (fun h => by rw [Bd.returns] at h; cases h)
  refine ⟨_, _, k3 _ (retOut X2 hx Bd.returns rfl (Or.inr (Or.inr (Or.inr (Or.inr ⟨rfl, rfl, rfl⟩)))) (hb hby d_method_2_code_16) hr), hrun, hended, _, _, rfl, ?_, ⟨_, rfl⟩, hW, hsame.mono (by decide) (by decide)⟩
  show Q_pick1 Z w_TEXT w_COMPOSITE w_CLOSED_LIST w_LISTED w_URI w_ISO3166_1_ALPHA2 w_ISO639 w_ISO15924 w_POSITIVE_NUMBER w_POSITIVE_INTEGER w_NONNEGATIVE_INTEGER w_ISO8601_DATE w_DIGEST w_PER_TIME_STANDARD w_PER_COORDINATE_SYSTEM w_TIME_SPAN  h0 n0 _ T2.heap _
  rw [e2]
  exact ⟨rfl, N0, rfl⟩
def Q_pick2 (Z : State) (w_TEXT : Addr) (w_COMPOSITE : Addr) (w_CLOSED_LIST : Addr) (w_LISTED : Addr) (w_URI : Addr) (w_ISO3166_1_ALPHA2 : Addr) (w_ISO639 : Addr) (w_ISO15924 : Addr) (w_POSITIVE_NUMBER : Addr) (w_POSITIVE_INTEGER : Addr) (w_NONNEGATIVE_INTEGER : Addr) (w_ISO8601_DATE : Addr) (w_DIGEST : Addr) (w_PER_TIME_STANDARD : Addr) (w_PER_COORDINATE_SYSTEM : Addr) (w_TIME_SPAN : Addr)  (h0 : Heap) (n0 : Nat) (v : Option Value) (h : Heap) (L : List Loc) : Prop := (v = some (.ref w_CLOSED_LIST)) ∧ (Fr n0 L) ∧ (h = h0)
set_option maxRecDepth 65536 in
set_option maxHeartbeats 40000000 in
theorem pick2 (l : Launch) (Z : State) (a0 : Array Value) (hw : ∀ d ∈ tables_1, d.before a0 Z = true) (ws : List Jvm.Cond) (w_TEXT : Addr) (w_COMPOSITE : Addr) (w_CLOSED_LIST : Addr) (w_LISTED : Addr) (w_URI : Addr) (w_ISO3166_1_ALPHA2 : Addr) (w_ISO639 : Addr) (w_ISO15924 : Addr) (w_POSITIVE_NUMBER : Addr) (w_POSITIVE_INTEGER : Addr) (w_NONNEGATIVE_INTEGER : Addr) (w_ISO8601_DATE : Addr) (w_DIGEST : Addr) (w_PER_TIME_STANDARD : Addr) (w_PER_COORDINATE_SYSTEM : Addr) (w_TIME_SPAN : Addr) (G : Gst Z w_TEXT w_COMPOSITE w_CLOSED_LIST w_LISTED w_URI w_ISO3166_1_ALPHA2 w_ISO639 w_ISO15924 w_POSITIVE_NUMBER w_POSITIVE_INTEGER w_NONNEGATIVE_INTEGER w_ISO8601_DATE w_DIGEST w_PER_TIME_STANDARD w_PER_COORDINATE_SYSTEM w_TIME_SPAN)  (h0 : Heap) (n0 : Nat) (O0 : Old Z n0 h0) :
    MetFree l (⟨"gradivo/spec/ValueKindTakesFormFromPinLaw", "pick", "(I)Lgradivo/spec/ValueKind;"⟩ : MethodName) (head1 (Jvm.Cond.code (⟨"gradivo/spec/ValueKindTakesFormFromPinLaw", "pick", "(I)Lgradivo/spec/ValueKind;"⟩ : MethodName) method_2_code 1 (some (.object "gradivo/spec/ValueKind")) :: ws) ({ frames := 0, cells := 0, slots := 0, locals := 0 } : Room)) (fun a U => a = #[(.int (2 : Int32))] ∧ Z.Warmed39 U.vm ∧ U.heap = h0) (fun _ _ _ _ _ => True) (fun _ U o U' => ∃ v L, o = .returned v ∧ Q_pick2 Z w_TEXT w_COMPOSITE w_CLOSED_LIST w_LISTED w_URI w_ISO3166_1_ALPHA2 w_ISO639 w_ISO15924 w_POSITIVE_NUMBER w_POSITIVE_INTEGER w_NONNEGATIVE_INTEGER w_ISO8601_DATE w_DIGEST w_PER_TIME_STANDARD w_PER_COORDINATE_SYSTEM w_TIME_SPAN  h0 n0 v U'.heap L ∧ FrameEnd U o U' L ({ frames := 0, cells := 0, slots := 0, locals := 0 } : Room).cells ({ frames := 0, cells := 0, slots := 0, locals := 0 } : Room).slots) := by
  refine MetFree.of_bodySF (plainFor_of_name pn_0) hisR ?_
  intro p e s m args below meth c s₁ Bd hml0 hP hK
  obtain ⟨rfl, hZ, hh⟩ := hP
  have hx := Bd.exec
  have hby := Bd.bytes
  have hml : c.maxLocals = 1 := hml0
  have hown : s.vm.findClass "gradivo/spec/ValueKindTakesFormFromPinLaw" = some m.cls := findClass_of_methodNamed Bd.named
  have hnm := (name_of_methodNamed Bd.named Bd.method).1
  have X0 : Stand p l e ({ frames := 0, cells := 0, slots := 0, locals := 0 } : Room) s m #[(.int (2 : Int32))] below meth c s₁ [] 0 0 := Stand.of_body Bd
  have e0 : s₁.heap = h0 := by rw [← hh, Bd.state]; rfl
  have N0 := Fr.nil n0
  obtain ⟨S_w_TEXT, E_w_TEXT, F_w_TEXT_ordinal, S_w_COMPOSITE, E_w_COMPOSITE, F_w_COMPOSITE_ordinal, S_w_CLOSED_LIST, E_w_CLOSED_LIST, F_w_CLOSED_LIST_ordinal, S_w_LISTED, E_w_LISTED, F_w_LISTED_ordinal, S_w_URI, E_w_URI, F_w_URI_ordinal, S_w_ISO3166_1_ALPHA2, E_w_ISO3166_1_ALPHA2, F_w_ISO3166_1_ALPHA2_ordinal, S_w_ISO639, E_w_ISO639, F_w_ISO639_ordinal, S_w_ISO15924, E_w_ISO15924, F_w_ISO15924_ordinal, S_w_POSITIVE_NUMBER, E_w_POSITIVE_NUMBER, F_w_POSITIVE_NUMBER_ordinal, S_w_POSITIVE_INTEGER, E_w_POSITIVE_INTEGER, F_w_POSITIVE_INTEGER_ordinal, S_w_NONNEGATIVE_INTEGER, E_w_NONNEGATIVE_INTEGER, F_w_NONNEGATIVE_INTEGER_ordinal, S_w_ISO8601_DATE, E_w_ISO8601_DATE, F_w_ISO8601_DATE_ordinal, S_w_DIGEST, E_w_DIGEST, F_w_DIGEST_ordinal, S_w_PER_TIME_STANDARD, E_w_PER_TIME_STANDARD, F_w_PER_TIME_STANDARD_ordinal, S_w_PER_COORDINATE_SYSTEM, E_w_PER_COORDINATE_SYSTEM, F_w_PER_COORDINATE_SYSTEM_ordinal, S_w_TIME_SPAN, E_w_TIME_SPAN, F_w_TIME_SPAN_ordinal⟩ := id G
  have k0 : Way p e below (s₁.setTop (entryFrame m #[(.int (2 : Int32))] 1)) s₁ (mkF m 0 #[iv (2 : Int32)] []) := fun t k => castTop (by first | (simp [entryFrame, mkF, argsToLocals, Value.category]; done) | rfl) k
  generalize s₁.setTop (entryFrame m #[(.int (2 : Int32))] 1) = S0 at k0 ⊢
  have k1 : Way p e below S0 s₁ (mkF m 22 #[iv (2 : Int32)] []) := by
    intro t k
    refine k0 t ?_
    refine XS.iloadN X0.here hx rfl (hb hby d_method_2_code_0) rfl ?_
    show Steps p.tables e below (s₁.setTop (mkF m 1 #[iv (2 : Int32)] [(.int (2 : Int32))])) _
    refine XS.ifYes X0.here hx rfl (pc0 := 1) (pc' := 8) rfl (hb hby d_method_2_code_1) rfl ((if0 _ _).trans (feq ((by decide) : ¬ ((2 : Int32) = (0 : Int32)))).2) (by decide) (by decide) ?_
    show Steps p.tables e below (s₁.setTop (mkF m 8 #[iv (2 : Int32)] [])) _
    refine XS.iloadN X0.here hx rfl (hb hby d_method_2_code_8) rfl ?_
    show Steps p.tables e below (s₁.setTop (mkF m 9 #[iv (2 : Int32)] [(.int (2 : Int32))])) _
    refine XS.iconst X0.here hx rfl (hb hby d_method_2_code_9) ?_
    show Steps p.tables e below (s₁.setTop (mkF m 10 #[iv (2 : Int32)] [(.int (1 : Int32)), (.int (2 : Int32))])) _
    refine XS.icmpYes X0.here hx rfl (pc0 := 10) (pc' := 17) rfl (hb hby d_method_2_code_10) rfl (feq ((by decide) : ¬ ((2 : Int32) = (1 : Int32)))).2 (by decide) (by decide) ?_
    show Steps p.tables e below (s₁.setTop (mkF m 17 #[iv (2 : Int32)] [])) _
    refine XS.iloadN X0.here hx rfl (hb hby d_method_2_code_17) rfl ?_
    show Steps p.tables e below (s₁.setTop (mkF m 18 #[iv (2 : Int32)] [(.int (2 : Int32))])) _
    refine XS.iconst X0.here hx rfl (hb hby d_method_2_code_18) ?_
    show Steps p.tables e below (s₁.setTop (mkF m 19 #[iv (2 : Int32)] [(.int (2 : Int32)), (.int (2 : Int32))])) _
    refine XS.icmpNo X0.here hx rfl (hb hby d_method_2_code_19) rfl (teq ((by decide) : (2 : Int32) = (2 : Int32))).2 ?_
    show Steps p.tables e below (s₁.setTop (mkF m 22 #[iv (2 : Int32)] [])) _
    exact k
  obtain ⟨T2, X2, e2, st2⟩ := getS2 X0 hx hZ hown (host := "") (Or.inl (hw _ (List.mem_of_getElem? (i := 28) rfl))) Via.refl e0 (S_w_CLOSED_LIST.ext O0.2) (g := (mkF m 22 #[iv (2 : Int32)] [])) rfl (hb hby d_method_2_code_22)
  have k3 : Way p e below S0 T2 (mkF m 25 #[iv (2 : Int32)] [(.ref w_CLOSED_LIST)]) := fun t k => k1 t (st2 _ k)
  obtain ⟨fs, hr, hrun, hended, hW, hsame⟩ := X2.leave (v := some (.ref w_CLOSED_LIST)) (fun h => by rw [Bd.returns] at h; cases h)
  refine ⟨_, _, k3 _ (retOut X2 hx Bd.returns rfl (Or.inr (Or.inr (Or.inr (Or.inr ⟨rfl, rfl, rfl⟩)))) (hb hby d_method_2_code_25) hr), hrun, hended, _, _, rfl, ?_, ⟨_, rfl⟩, hW, hsame.mono (by decide) (by decide)⟩
  show Q_pick2 Z w_TEXT w_COMPOSITE w_CLOSED_LIST w_LISTED w_URI w_ISO3166_1_ALPHA2 w_ISO639 w_ISO15924 w_POSITIVE_NUMBER w_POSITIVE_INTEGER w_NONNEGATIVE_INTEGER w_ISO8601_DATE w_DIGEST w_PER_TIME_STANDARD w_PER_COORDINATE_SYSTEM w_TIME_SPAN  h0 n0 _ T2.heap _
  rw [e2]
  exact ⟨rfl, N0, rfl⟩
def Q_pick3 (Z : State) (w_TEXT : Addr) (w_COMPOSITE : Addr) (w_CLOSED_LIST : Addr) (w_LISTED : Addr) (w_URI : Addr) (w_ISO3166_1_ALPHA2 : Addr) (w_ISO639 : Addr) (w_ISO15924 : Addr) (w_POSITIVE_NUMBER : Addr) (w_POSITIVE_INTEGER : Addr) (w_NONNEGATIVE_INTEGER : Addr) (w_ISO8601_DATE : Addr) (w_DIGEST : Addr) (w_PER_TIME_STANDARD : Addr) (w_PER_COORDINATE_SYSTEM : Addr) (w_TIME_SPAN : Addr)  (h0 : Heap) (n0 : Nat) (v : Option Value) (h : Heap) (L : List Loc) : Prop := (v = some (.ref w_LISTED)) ∧ (Fr n0 L) ∧ (h = h0)
set_option maxRecDepth 65536 in
set_option maxHeartbeats 40000000 in
theorem pick3 (l : Launch) (Z : State) (a0 : Array Value) (hw : ∀ d ∈ tables_1, d.before a0 Z = true) (ws : List Jvm.Cond) (w_TEXT : Addr) (w_COMPOSITE : Addr) (w_CLOSED_LIST : Addr) (w_LISTED : Addr) (w_URI : Addr) (w_ISO3166_1_ALPHA2 : Addr) (w_ISO639 : Addr) (w_ISO15924 : Addr) (w_POSITIVE_NUMBER : Addr) (w_POSITIVE_INTEGER : Addr) (w_NONNEGATIVE_INTEGER : Addr) (w_ISO8601_DATE : Addr) (w_DIGEST : Addr) (w_PER_TIME_STANDARD : Addr) (w_PER_COORDINATE_SYSTEM : Addr) (w_TIME_SPAN : Addr) (G : Gst Z w_TEXT w_COMPOSITE w_CLOSED_LIST w_LISTED w_URI w_ISO3166_1_ALPHA2 w_ISO639 w_ISO15924 w_POSITIVE_NUMBER w_POSITIVE_INTEGER w_NONNEGATIVE_INTEGER w_ISO8601_DATE w_DIGEST w_PER_TIME_STANDARD w_PER_COORDINATE_SYSTEM w_TIME_SPAN)  (h0 : Heap) (n0 : Nat) (O0 : Old Z n0 h0) :
    MetFree l (⟨"gradivo/spec/ValueKindTakesFormFromPinLaw", "pick", "(I)Lgradivo/spec/ValueKind;"⟩ : MethodName) (head1 (Jvm.Cond.code (⟨"gradivo/spec/ValueKindTakesFormFromPinLaw", "pick", "(I)Lgradivo/spec/ValueKind;"⟩ : MethodName) method_2_code 1 (some (.object "gradivo/spec/ValueKind")) :: ws) ({ frames := 0, cells := 0, slots := 0, locals := 0 } : Room)) (fun a U => a = #[(.int (3 : Int32))] ∧ Z.Warmed39 U.vm ∧ U.heap = h0) (fun _ _ _ _ _ => True) (fun _ U o U' => ∃ v L, o = .returned v ∧ Q_pick3 Z w_TEXT w_COMPOSITE w_CLOSED_LIST w_LISTED w_URI w_ISO3166_1_ALPHA2 w_ISO639 w_ISO15924 w_POSITIVE_NUMBER w_POSITIVE_INTEGER w_NONNEGATIVE_INTEGER w_ISO8601_DATE w_DIGEST w_PER_TIME_STANDARD w_PER_COORDINATE_SYSTEM w_TIME_SPAN  h0 n0 v U'.heap L ∧ FrameEnd U o U' L ({ frames := 0, cells := 0, slots := 0, locals := 0 } : Room).cells ({ frames := 0, cells := 0, slots := 0, locals := 0 } : Room).slots) := by
  refine MetFree.of_bodySF (plainFor_of_name pn_0) hisR ?_
  intro p e s m args below meth c s₁ Bd hml0 hP hK
  obtain ⟨rfl, hZ, hh⟩ := hP
  have hx := Bd.exec
  have hby := Bd.bytes
  have hml : c.maxLocals = 1 := hml0
  have hown : s.vm.findClass "gradivo/spec/ValueKindTakesFormFromPinLaw" = some m.cls := findClass_of_methodNamed Bd.named
  have hnm := (name_of_methodNamed Bd.named Bd.method).1
  have X0 : Stand p l e ({ frames := 0, cells := 0, slots := 0, locals := 0 } : Room) s m #[(.int (3 : Int32))] below meth c s₁ [] 0 0 := Stand.of_body Bd
  have e0 : s₁.heap = h0 := by rw [← hh, Bd.state]; rfl
  have N0 := Fr.nil n0
  obtain ⟨S_w_TEXT, E_w_TEXT, F_w_TEXT_ordinal, S_w_COMPOSITE, E_w_COMPOSITE, F_w_COMPOSITE_ordinal, S_w_CLOSED_LIST, E_w_CLOSED_LIST, F_w_CLOSED_LIST_ordinal, S_w_LISTED, E_w_LISTED, F_w_LISTED_ordinal, S_w_URI, E_w_URI, F_w_URI_ordinal, S_w_ISO3166_1_ALPHA2, E_w_ISO3166_1_ALPHA2, F_w_ISO3166_1_ALPHA2_ordinal, S_w_ISO639, E_w_ISO639, F_w_ISO639_ordinal, S_w_ISO15924, E_w_ISO15924, F_w_ISO15924_ordinal, S_w_POSITIVE_NUMBER, E_w_POSITIVE_NUMBER, F_w_POSITIVE_NUMBER_ordinal, S_w_POSITIVE_INTEGER, E_w_POSITIVE_INTEGER, F_w_POSITIVE_INTEGER_ordinal, S_w_NONNEGATIVE_INTEGER, E_w_NONNEGATIVE_INTEGER, F_w_NONNEGATIVE_INTEGER_ordinal, S_w_ISO8601_DATE, E_w_ISO8601_DATE, F_w_ISO8601_DATE_ordinal, S_w_DIGEST, E_w_DIGEST, F_w_DIGEST_ordinal, S_w_PER_TIME_STANDARD, E_w_PER_TIME_STANDARD, F_w_PER_TIME_STANDARD_ordinal, S_w_PER_COORDINATE_SYSTEM, E_w_PER_COORDINATE_SYSTEM, F_w_PER_COORDINATE_SYSTEM_ordinal, S_w_TIME_SPAN, E_w_TIME_SPAN, F_w_TIME_SPAN_ordinal⟩ := id G
  have k0 : Way p e below (s₁.setTop (entryFrame m #[(.int (3 : Int32))] 1)) s₁ (mkF m 0 #[iv (3 : Int32)] []) := fun t k => castTop (by first | (simp [entryFrame, mkF, argsToLocals, Value.category]; done) | rfl) k
  generalize s₁.setTop (entryFrame m #[(.int (3 : Int32))] 1) = S0 at k0 ⊢
  have k1 : Way p e below S0 s₁ (mkF m 31 #[iv (3 : Int32)] []) := by
    intro t k
    refine k0 t ?_
    refine XS.iloadN X0.here hx rfl (hb hby d_method_2_code_0) rfl ?_
    show Steps p.tables e below (s₁.setTop (mkF m 1 #[iv (3 : Int32)] [(.int (3 : Int32))])) _
    refine XS.ifYes X0.here hx rfl (pc0 := 1) (pc' := 8) rfl (hb hby d_method_2_code_1) rfl ((if0 _ _).trans (feq ((by decide) : ¬ ((3 : Int32) = (0 : Int32)))).2) (by decide) (by decide) ?_
    show Steps p.tables e below (s₁.setTop (mkF m 8 #[iv (3 : Int32)] [])) _
    refine XS.iloadN X0.here hx rfl (hb hby d_method_2_code_8) rfl ?_
    show Steps p.tables e below (s₁.setTop (mkF m 9 #[iv (3 : Int32)] [(.int (3 : Int32))])) _
    refine XS.iconst X0.here hx rfl (hb hby d_method_2_code_9) ?_
    show Steps p.tables e below (s₁.setTop (mkF m 10 #[iv (3 : Int32)] [(.int (1 : Int32)), (.int (3 : Int32))])) _
    refine XS.icmpYes X0.here hx rfl (pc0 := 10) (pc' := 17) rfl (hb hby d_method_2_code_10) rfl (feq ((by decide) : ¬ ((3 : Int32) = (1 : Int32)))).2 (by decide) (by decide) ?_
    show Steps p.tables e below (s₁.setTop (mkF m 17 #[iv (3 : Int32)] [])) _
    refine XS.iloadN X0.here hx rfl (hb hby d_method_2_code_17) rfl ?_
    show Steps p.tables e below (s₁.setTop (mkF m 18 #[iv (3 : Int32)] [(.int (3 : Int32))])) _
    refine XS.iconst X0.here hx rfl (hb hby d_method_2_code_18) ?_
    show Steps p.tables e below (s₁.setTop (mkF m 19 #[iv (3 : Int32)] [(.int (2 : Int32)), (.int (3 : Int32))])) _
    refine XS.icmpYes X0.here hx rfl (pc0 := 19) (pc' := 26) rfl (hb hby d_method_2_code_19) rfl (feq ((by decide) : ¬ ((3 : Int32) = (2 : Int32)))).2 (by decide) (by decide) ?_
    show Steps p.tables e below (s₁.setTop (mkF m 26 #[iv (3 : Int32)] [])) _
    refine XS.iloadN X0.here hx rfl (hb hby d_method_2_code_26) rfl ?_
    show Steps p.tables e below (s₁.setTop (mkF m 27 #[iv (3 : Int32)] [(.int (3 : Int32))])) _
    refine XS.iconst X0.here hx rfl (hb hby d_method_2_code_27) ?_
    show Steps p.tables e below (s₁.setTop (mkF m 28 #[iv (3 : Int32)] [(.int (3 : Int32)), (.int (3 : Int32))])) _
    refine XS.icmpNo X0.here hx rfl (hb hby d_method_2_code_28) rfl (teq ((by decide) : (3 : Int32) = (3 : Int32))).2 ?_
    show Steps p.tables e below (s₁.setTop (mkF m 31 #[iv (3 : Int32)] [])) _
    exact k
  obtain ⟨T2, X2, e2, st2⟩ := getS2 X0 hx hZ hown (host := "") (Or.inl (hw _ (List.mem_of_getElem? (i := 19) rfl))) Via.refl e0 (S_w_LISTED.ext O0.2) (g := (mkF m 31 #[iv (3 : Int32)] [])) rfl (hb hby d_method_2_code_31)
  have k3 : Way p e below S0 T2 (mkF m 34 #[iv (3 : Int32)] [(.ref w_LISTED)]) := fun t k => k1 t (st2 _ k)
  obtain ⟨fs, hr, hrun, hended, hW, hsame⟩ := X2.leave (v := some (.ref w_LISTED)) (fun h => by rw [Bd.returns] at h; cases h)
  refine ⟨_, _, k3 _ (retOut X2 hx Bd.returns rfl (Or.inr (Or.inr (Or.inr (Or.inr ⟨rfl, rfl, rfl⟩)))) (hb hby d_method_2_code_34) hr), hrun, hended, _, _, rfl, ?_, ⟨_, rfl⟩, hW, hsame.mono (by decide) (by decide)⟩
  show Q_pick3 Z w_TEXT w_COMPOSITE w_CLOSED_LIST w_LISTED w_URI w_ISO3166_1_ALPHA2 w_ISO639 w_ISO15924 w_POSITIVE_NUMBER w_POSITIVE_INTEGER w_NONNEGATIVE_INTEGER w_ISO8601_DATE w_DIGEST w_PER_TIME_STANDARD w_PER_COORDINATE_SYSTEM w_TIME_SPAN  h0 n0 _ T2.heap _
  rw [e2]
  exact ⟨rfl, N0, rfl⟩
def Q_pick4 (Z : State) (w_TEXT : Addr) (w_COMPOSITE : Addr) (w_CLOSED_LIST : Addr) (w_LISTED : Addr) (w_URI : Addr) (w_ISO3166_1_ALPHA2 : Addr) (w_ISO639 : Addr) (w_ISO15924 : Addr) (w_POSITIVE_NUMBER : Addr) (w_POSITIVE_INTEGER : Addr) (w_NONNEGATIVE_INTEGER : Addr) (w_ISO8601_DATE : Addr) (w_DIGEST : Addr) (w_PER_TIME_STANDARD : Addr) (w_PER_COORDINATE_SYSTEM : Addr) (w_TIME_SPAN : Addr)  (h0 : Heap) (n0 : Nat) (v : Option Value) (h : Heap) (L : List Loc) : Prop := (v = some (.ref w_URI)) ∧ (Fr n0 L) ∧ (h = h0)
set_option maxRecDepth 65536 in
set_option maxHeartbeats 40000000 in
theorem pick4 (l : Launch) (Z : State) (a0 : Array Value) (hw : ∀ d ∈ tables_1, d.before a0 Z = true) (ws : List Jvm.Cond) (w_TEXT : Addr) (w_COMPOSITE : Addr) (w_CLOSED_LIST : Addr) (w_LISTED : Addr) (w_URI : Addr) (w_ISO3166_1_ALPHA2 : Addr) (w_ISO639 : Addr) (w_ISO15924 : Addr) (w_POSITIVE_NUMBER : Addr) (w_POSITIVE_INTEGER : Addr) (w_NONNEGATIVE_INTEGER : Addr) (w_ISO8601_DATE : Addr) (w_DIGEST : Addr) (w_PER_TIME_STANDARD : Addr) (w_PER_COORDINATE_SYSTEM : Addr) (w_TIME_SPAN : Addr) (G : Gst Z w_TEXT w_COMPOSITE w_CLOSED_LIST w_LISTED w_URI w_ISO3166_1_ALPHA2 w_ISO639 w_ISO15924 w_POSITIVE_NUMBER w_POSITIVE_INTEGER w_NONNEGATIVE_INTEGER w_ISO8601_DATE w_DIGEST w_PER_TIME_STANDARD w_PER_COORDINATE_SYSTEM w_TIME_SPAN)  (h0 : Heap) (n0 : Nat) (O0 : Old Z n0 h0) :
    MetFree l (⟨"gradivo/spec/ValueKindTakesFormFromPinLaw", "pick", "(I)Lgradivo/spec/ValueKind;"⟩ : MethodName) (head1 (Jvm.Cond.code (⟨"gradivo/spec/ValueKindTakesFormFromPinLaw", "pick", "(I)Lgradivo/spec/ValueKind;"⟩ : MethodName) method_2_code 1 (some (.object "gradivo/spec/ValueKind")) :: ws) ({ frames := 0, cells := 0, slots := 0, locals := 0 } : Room)) (fun a U => a = #[(.int (4 : Int32))] ∧ Z.Warmed39 U.vm ∧ U.heap = h0) (fun _ _ _ _ _ => True) (fun _ U o U' => ∃ v L, o = .returned v ∧ Q_pick4 Z w_TEXT w_COMPOSITE w_CLOSED_LIST w_LISTED w_URI w_ISO3166_1_ALPHA2 w_ISO639 w_ISO15924 w_POSITIVE_NUMBER w_POSITIVE_INTEGER w_NONNEGATIVE_INTEGER w_ISO8601_DATE w_DIGEST w_PER_TIME_STANDARD w_PER_COORDINATE_SYSTEM w_TIME_SPAN  h0 n0 v U'.heap L ∧ FrameEnd U o U' L ({ frames := 0, cells := 0, slots := 0, locals := 0 } : Room).cells ({ frames := 0, cells := 0, slots := 0, locals := 0 } : Room).slots) := by
  refine MetFree.of_bodySF (plainFor_of_name pn_0) hisR ?_
  intro p e s m args below meth c s₁ Bd hml0 hP hK
  obtain ⟨rfl, hZ, hh⟩ := hP
  have hx := Bd.exec
  have hby := Bd.bytes
  have hml : c.maxLocals = 1 := hml0
  have hown : s.vm.findClass "gradivo/spec/ValueKindTakesFormFromPinLaw" = some m.cls := findClass_of_methodNamed Bd.named
  have hnm := (name_of_methodNamed Bd.named Bd.method).1
  have X0 : Stand p l e ({ frames := 0, cells := 0, slots := 0, locals := 0 } : Room) s m #[(.int (4 : Int32))] below meth c s₁ [] 0 0 := Stand.of_body Bd
  have e0 : s₁.heap = h0 := by rw [← hh, Bd.state]; rfl
  have N0 := Fr.nil n0
  obtain ⟨S_w_TEXT, E_w_TEXT, F_w_TEXT_ordinal, S_w_COMPOSITE, E_w_COMPOSITE, F_w_COMPOSITE_ordinal, S_w_CLOSED_LIST, E_w_CLOSED_LIST, F_w_CLOSED_LIST_ordinal, S_w_LISTED, E_w_LISTED, F_w_LISTED_ordinal, S_w_URI, E_w_URI, F_w_URI_ordinal, S_w_ISO3166_1_ALPHA2, E_w_ISO3166_1_ALPHA2, F_w_ISO3166_1_ALPHA2_ordinal, S_w_ISO639, E_w_ISO639, F_w_ISO639_ordinal, S_w_ISO15924, E_w_ISO15924, F_w_ISO15924_ordinal, S_w_POSITIVE_NUMBER, E_w_POSITIVE_NUMBER, F_w_POSITIVE_NUMBER_ordinal, S_w_POSITIVE_INTEGER, E_w_POSITIVE_INTEGER, F_w_POSITIVE_INTEGER_ordinal, S_w_NONNEGATIVE_INTEGER, E_w_NONNEGATIVE_INTEGER, F_w_NONNEGATIVE_INTEGER_ordinal, S_w_ISO8601_DATE, E_w_ISO8601_DATE, F_w_ISO8601_DATE_ordinal, S_w_DIGEST, E_w_DIGEST, F_w_DIGEST_ordinal, S_w_PER_TIME_STANDARD, E_w_PER_TIME_STANDARD, F_w_PER_TIME_STANDARD_ordinal, S_w_PER_COORDINATE_SYSTEM, E_w_PER_COORDINATE_SYSTEM, F_w_PER_COORDINATE_SYSTEM_ordinal, S_w_TIME_SPAN, E_w_TIME_SPAN, F_w_TIME_SPAN_ordinal⟩ := id G
  have k0 : Way p e below (s₁.setTop (entryFrame m #[(.int (4 : Int32))] 1)) s₁ (mkF m 0 #[iv (4 : Int32)] []) := fun t k => castTop (by first | (simp [entryFrame, mkF, argsToLocals, Value.category]; done) | rfl) k
  generalize s₁.setTop (entryFrame m #[(.int (4 : Int32))] 1) = S0 at k0 ⊢
  have k1 : Way p e below S0 s₁ (mkF m 40 #[iv (4 : Int32)] []) := by
    intro t k
    refine k0 t ?_
    refine XS.iloadN X0.here hx rfl (hb hby d_method_2_code_0) rfl ?_
    show Steps p.tables e below (s₁.setTop (mkF m 1 #[iv (4 : Int32)] [(.int (4 : Int32))])) _
    refine XS.ifYes X0.here hx rfl (pc0 := 1) (pc' := 8) rfl (hb hby d_method_2_code_1) rfl ((if0 _ _).trans (feq ((by decide) : ¬ ((4 : Int32) = (0 : Int32)))).2) (by decide) (by decide) ?_
    show Steps p.tables e below (s₁.setTop (mkF m 8 #[iv (4 : Int32)] [])) _
    refine XS.iloadN X0.here hx rfl (hb hby d_method_2_code_8) rfl ?_
    show Steps p.tables e below (s₁.setTop (mkF m 9 #[iv (4 : Int32)] [(.int (4 : Int32))])) _
    refine XS.iconst X0.here hx rfl (hb hby d_method_2_code_9) ?_
    show Steps p.tables e below (s₁.setTop (mkF m 10 #[iv (4 : Int32)] [(.int (1 : Int32)), (.int (4 : Int32))])) _
    refine XS.icmpYes X0.here hx rfl (pc0 := 10) (pc' := 17) rfl (hb hby d_method_2_code_10) rfl (feq ((by decide) : ¬ ((4 : Int32) = (1 : Int32)))).2 (by decide) (by decide) ?_
    show Steps p.tables e below (s₁.setTop (mkF m 17 #[iv (4 : Int32)] [])) _
    refine XS.iloadN X0.here hx rfl (hb hby d_method_2_code_17) rfl ?_
    show Steps p.tables e below (s₁.setTop (mkF m 18 #[iv (4 : Int32)] [(.int (4 : Int32))])) _
    refine XS.iconst X0.here hx rfl (hb hby d_method_2_code_18) ?_
    show Steps p.tables e below (s₁.setTop (mkF m 19 #[iv (4 : Int32)] [(.int (2 : Int32)), (.int (4 : Int32))])) _
    refine XS.icmpYes X0.here hx rfl (pc0 := 19) (pc' := 26) rfl (hb hby d_method_2_code_19) rfl (feq ((by decide) : ¬ ((4 : Int32) = (2 : Int32)))).2 (by decide) (by decide) ?_
    show Steps p.tables e below (s₁.setTop (mkF m 26 #[iv (4 : Int32)] [])) _
    refine XS.iloadN X0.here hx rfl (hb hby d_method_2_code_26) rfl ?_
    show Steps p.tables e below (s₁.setTop (mkF m 27 #[iv (4 : Int32)] [(.int (4 : Int32))])) _
    refine XS.iconst X0.here hx rfl (hb hby d_method_2_code_27) ?_
    show Steps p.tables e below (s₁.setTop (mkF m 28 #[iv (4 : Int32)] [(.int (3 : Int32)), (.int (4 : Int32))])) _
    refine XS.icmpYes X0.here hx rfl (pc0 := 28) (pc' := 35) rfl (hb hby d_method_2_code_28) rfl (feq ((by decide) : ¬ ((4 : Int32) = (3 : Int32)))).2 (by decide) (by decide) ?_
    show Steps p.tables e below (s₁.setTop (mkF m 35 #[iv (4 : Int32)] [])) _
    refine XS.iloadN X0.here hx rfl (hb hby d_method_2_code_35) rfl ?_
    show Steps p.tables e below (s₁.setTop (mkF m 36 #[iv (4 : Int32)] [(.int (4 : Int32))])) _
    refine XS.iconst X0.here hx rfl (hb hby d_method_2_code_36) ?_
    show Steps p.tables e below (s₁.setTop (mkF m 37 #[iv (4 : Int32)] [(.int (4 : Int32)), (.int (4 : Int32))])) _
    refine XS.icmpNo X0.here hx rfl (hb hby d_method_2_code_37) rfl (teq ((by decide) : (4 : Int32) = (4 : Int32))).2 ?_
    show Steps p.tables e below (s₁.setTop (mkF m 40 #[iv (4 : Int32)] [])) _
    exact k
  obtain ⟨T2, X2, e2, st2⟩ := getS2 X0 hx hZ hown (host := "") (Or.inl (hw _ (List.mem_of_getElem? (i := 36) rfl))) Via.refl e0 (S_w_URI.ext O0.2) (g := (mkF m 40 #[iv (4 : Int32)] [])) rfl (hb hby d_method_2_code_40)
  have k3 : Way p e below S0 T2 (mkF m 43 #[iv (4 : Int32)] [(.ref w_URI)]) := fun t k => k1 t (st2 _ k)
  obtain ⟨fs, hr, hrun, hended, hW, hsame⟩ := X2.leave (v := some (.ref w_URI)) (fun h => by rw [Bd.returns] at h; cases h)
  refine ⟨_, _, k3 _ (retOut X2 hx Bd.returns rfl (Or.inr (Or.inr (Or.inr (Or.inr ⟨rfl, rfl, rfl⟩)))) (hb hby d_method_2_code_43) hr), hrun, hended, _, _, rfl, ?_, ⟨_, rfl⟩, hW, hsame.mono (by decide) (by decide)⟩
  show Q_pick4 Z w_TEXT w_COMPOSITE w_CLOSED_LIST w_LISTED w_URI w_ISO3166_1_ALPHA2 w_ISO639 w_ISO15924 w_POSITIVE_NUMBER w_POSITIVE_INTEGER w_NONNEGATIVE_INTEGER w_ISO8601_DATE w_DIGEST w_PER_TIME_STANDARD w_PER_COORDINATE_SYSTEM w_TIME_SPAN  h0 n0 _ T2.heap _
  rw [e2]
  exact ⟨rfl, N0, rfl⟩
def Q_pick5 (Z : State) (w_TEXT : Addr) (w_COMPOSITE : Addr) (w_CLOSED_LIST : Addr) (w_LISTED : Addr) (w_URI : Addr) (w_ISO3166_1_ALPHA2 : Addr) (w_ISO639 : Addr) (w_ISO15924 : Addr) (w_POSITIVE_NUMBER : Addr) (w_POSITIVE_INTEGER : Addr) (w_NONNEGATIVE_INTEGER : Addr) (w_ISO8601_DATE : Addr) (w_DIGEST : Addr) (w_PER_TIME_STANDARD : Addr) (w_PER_COORDINATE_SYSTEM : Addr) (w_TIME_SPAN : Addr)  (h0 : Heap) (n0 : Nat) (v : Option Value) (h : Heap) (L : List Loc) : Prop := (v = some (.ref w_ISO3166_1_ALPHA2)) ∧ (Fr n0 L) ∧ (h = h0)
set_option maxRecDepth 65536 in
set_option maxHeartbeats 40000000 in
theorem pick5 (l : Launch) (Z : State) (a0 : Array Value) (hw : ∀ d ∈ tables_1, d.before a0 Z = true) (ws : List Jvm.Cond) (w_TEXT : Addr) (w_COMPOSITE : Addr) (w_CLOSED_LIST : Addr) (w_LISTED : Addr) (w_URI : Addr) (w_ISO3166_1_ALPHA2 : Addr) (w_ISO639 : Addr) (w_ISO15924 : Addr) (w_POSITIVE_NUMBER : Addr) (w_POSITIVE_INTEGER : Addr) (w_NONNEGATIVE_INTEGER : Addr) (w_ISO8601_DATE : Addr) (w_DIGEST : Addr) (w_PER_TIME_STANDARD : Addr) (w_PER_COORDINATE_SYSTEM : Addr) (w_TIME_SPAN : Addr) (G : Gst Z w_TEXT w_COMPOSITE w_CLOSED_LIST w_LISTED w_URI w_ISO3166_1_ALPHA2 w_ISO639 w_ISO15924 w_POSITIVE_NUMBER w_POSITIVE_INTEGER w_NONNEGATIVE_INTEGER w_ISO8601_DATE w_DIGEST w_PER_TIME_STANDARD w_PER_COORDINATE_SYSTEM w_TIME_SPAN)  (h0 : Heap) (n0 : Nat) (O0 : Old Z n0 h0) :
    MetFree l (⟨"gradivo/spec/ValueKindTakesFormFromPinLaw", "pick", "(I)Lgradivo/spec/ValueKind;"⟩ : MethodName) (head1 (Jvm.Cond.code (⟨"gradivo/spec/ValueKindTakesFormFromPinLaw", "pick", "(I)Lgradivo/spec/ValueKind;"⟩ : MethodName) method_2_code 1 (some (.object "gradivo/spec/ValueKind")) :: ws) ({ frames := 0, cells := 0, slots := 0, locals := 0 } : Room)) (fun a U => a = #[(.int (5 : Int32))] ∧ Z.Warmed39 U.vm ∧ U.heap = h0) (fun _ _ _ _ _ => True) (fun _ U o U' => ∃ v L, o = .returned v ∧ Q_pick5 Z w_TEXT w_COMPOSITE w_CLOSED_LIST w_LISTED w_URI w_ISO3166_1_ALPHA2 w_ISO639 w_ISO15924 w_POSITIVE_NUMBER w_POSITIVE_INTEGER w_NONNEGATIVE_INTEGER w_ISO8601_DATE w_DIGEST w_PER_TIME_STANDARD w_PER_COORDINATE_SYSTEM w_TIME_SPAN  h0 n0 v U'.heap L ∧ FrameEnd U o U' L ({ frames := 0, cells := 0, slots := 0, locals := 0 } : Room).cells ({ frames := 0, cells := 0, slots := 0, locals := 0 } : Room).slots) := by
  refine MetFree.of_bodySF (plainFor_of_name pn_0) hisR ?_
  intro p e s m args below meth c s₁ Bd hml0 hP hK
  obtain ⟨rfl, hZ, hh⟩ := hP
  have hx := Bd.exec
  have hby := Bd.bytes
  have hml : c.maxLocals = 1 := hml0
  have hown : s.vm.findClass "gradivo/spec/ValueKindTakesFormFromPinLaw" = some m.cls := findClass_of_methodNamed Bd.named
  have hnm := (name_of_methodNamed Bd.named Bd.method).1
  have X0 : Stand p l e ({ frames := 0, cells := 0, slots := 0, locals := 0 } : Room) s m #[(.int (5 : Int32))] below meth c s₁ [] 0 0 := Stand.of_body Bd
  have e0 : s₁.heap = h0 := by rw [← hh, Bd.state]; rfl
  have N0 := Fr.nil n0
  obtain ⟨S_w_TEXT, E_w_TEXT, F_w_TEXT_ordinal, S_w_COMPOSITE, E_w_COMPOSITE, F_w_COMPOSITE_ordinal, S_w_CLOSED_LIST, E_w_CLOSED_LIST, F_w_CLOSED_LIST_ordinal, S_w_LISTED, E_w_LISTED, F_w_LISTED_ordinal, S_w_URI, E_w_URI, F_w_URI_ordinal, S_w_ISO3166_1_ALPHA2, E_w_ISO3166_1_ALPHA2, F_w_ISO3166_1_ALPHA2_ordinal, S_w_ISO639, E_w_ISO639, F_w_ISO639_ordinal, S_w_ISO15924, E_w_ISO15924, F_w_ISO15924_ordinal, S_w_POSITIVE_NUMBER, E_w_POSITIVE_NUMBER, F_w_POSITIVE_NUMBER_ordinal, S_w_POSITIVE_INTEGER, E_w_POSITIVE_INTEGER, F_w_POSITIVE_INTEGER_ordinal, S_w_NONNEGATIVE_INTEGER, E_w_NONNEGATIVE_INTEGER, F_w_NONNEGATIVE_INTEGER_ordinal, S_w_ISO8601_DATE, E_w_ISO8601_DATE, F_w_ISO8601_DATE_ordinal, S_w_DIGEST, E_w_DIGEST, F_w_DIGEST_ordinal, S_w_PER_TIME_STANDARD, E_w_PER_TIME_STANDARD, F_w_PER_TIME_STANDARD_ordinal, S_w_PER_COORDINATE_SYSTEM, E_w_PER_COORDINATE_SYSTEM, F_w_PER_COORDINATE_SYSTEM_ordinal, S_w_TIME_SPAN, E_w_TIME_SPAN, F_w_TIME_SPAN_ordinal⟩ := id G
  have k0 : Way p e below (s₁.setTop (entryFrame m #[(.int (5 : Int32))] 1)) s₁ (mkF m 0 #[iv (5 : Int32)] []) := fun t k => castTop (by first | (simp [entryFrame, mkF, argsToLocals, Value.category]; done) | rfl) k
  generalize s₁.setTop (entryFrame m #[(.int (5 : Int32))] 1) = S0 at k0 ⊢
  have k1 : Way p e below S0 s₁ (mkF m 49 #[iv (5 : Int32)] []) := by
    intro t k
    refine k0 t ?_
    refine XS.iloadN X0.here hx rfl (hb hby d_method_2_code_0) rfl ?_
    show Steps p.tables e below (s₁.setTop (mkF m 1 #[iv (5 : Int32)] [(.int (5 : Int32))])) _
    refine XS.ifYes X0.here hx rfl (pc0 := 1) (pc' := 8) rfl (hb hby d_method_2_code_1) rfl ((if0 _ _).trans (feq ((by decide) : ¬ ((5 : Int32) = (0 : Int32)))).2) (by decide) (by decide) ?_
    show Steps p.tables e below (s₁.setTop (mkF m 8 #[iv (5 : Int32)] [])) _
    refine XS.iloadN X0.here hx rfl (hb hby d_method_2_code_8) rfl ?_
    show Steps p.tables e below (s₁.setTop (mkF m 9 #[iv (5 : Int32)] [(.int (5 : Int32))])) _
    refine XS.iconst X0.here hx rfl (hb hby d_method_2_code_9) ?_
    show Steps p.tables e below (s₁.setTop (mkF m 10 #[iv (5 : Int32)] [(.int (1 : Int32)), (.int (5 : Int32))])) _
    refine XS.icmpYes X0.here hx rfl (pc0 := 10) (pc' := 17) rfl (hb hby d_method_2_code_10) rfl (feq ((by decide) : ¬ ((5 : Int32) = (1 : Int32)))).2 (by decide) (by decide) ?_
    show Steps p.tables e below (s₁.setTop (mkF m 17 #[iv (5 : Int32)] [])) _
    refine XS.iloadN X0.here hx rfl (hb hby d_method_2_code_17) rfl ?_
    show Steps p.tables e below (s₁.setTop (mkF m 18 #[iv (5 : Int32)] [(.int (5 : Int32))])) _
    refine XS.iconst X0.here hx rfl (hb hby d_method_2_code_18) ?_
    show Steps p.tables e below (s₁.setTop (mkF m 19 #[iv (5 : Int32)] [(.int (2 : Int32)), (.int (5 : Int32))])) _
    refine XS.icmpYes X0.here hx rfl (pc0 := 19) (pc' := 26) rfl (hb hby d_method_2_code_19) rfl (feq ((by decide) : ¬ ((5 : Int32) = (2 : Int32)))).2 (by decide) (by decide) ?_
    show Steps p.tables e below (s₁.setTop (mkF m 26 #[iv (5 : Int32)] [])) _
    refine XS.iloadN X0.here hx rfl (hb hby d_method_2_code_26) rfl ?_
    show Steps p.tables e below (s₁.setTop (mkF m 27 #[iv (5 : Int32)] [(.int (5 : Int32))])) _
    refine XS.iconst X0.here hx rfl (hb hby d_method_2_code_27) ?_
    show Steps p.tables e below (s₁.setTop (mkF m 28 #[iv (5 : Int32)] [(.int (3 : Int32)), (.int (5 : Int32))])) _
    refine XS.icmpYes X0.here hx rfl (pc0 := 28) (pc' := 35) rfl (hb hby d_method_2_code_28) rfl (feq ((by decide) : ¬ ((5 : Int32) = (3 : Int32)))).2 (by decide) (by decide) ?_
    show Steps p.tables e below (s₁.setTop (mkF m 35 #[iv (5 : Int32)] [])) _
    refine XS.iloadN X0.here hx rfl (hb hby d_method_2_code_35) rfl ?_
    show Steps p.tables e below (s₁.setTop (mkF m 36 #[iv (5 : Int32)] [(.int (5 : Int32))])) _
    refine XS.iconst X0.here hx rfl (hb hby d_method_2_code_36) ?_
    show Steps p.tables e below (s₁.setTop (mkF m 37 #[iv (5 : Int32)] [(.int (4 : Int32)), (.int (5 : Int32))])) _
    refine XS.icmpYes X0.here hx rfl (pc0 := 37) (pc' := 44) rfl (hb hby d_method_2_code_37) rfl (feq ((by decide) : ¬ ((5 : Int32) = (4 : Int32)))).2 (by decide) (by decide) ?_
    show Steps p.tables e below (s₁.setTop (mkF m 44 #[iv (5 : Int32)] [])) _
    refine XS.iloadN X0.here hx rfl (hb hby d_method_2_code_44) rfl ?_
    show Steps p.tables e below (s₁.setTop (mkF m 45 #[iv (5 : Int32)] [(.int (5 : Int32))])) _
    refine XS.iconst X0.here hx rfl (hb hby d_method_2_code_45) ?_
    show Steps p.tables e below (s₁.setTop (mkF m 46 #[iv (5 : Int32)] [(.int (5 : Int32)), (.int (5 : Int32))])) _
    refine XS.icmpNo X0.here hx rfl (hb hby d_method_2_code_46) rfl (teq ((by decide) : (5 : Int32) = (5 : Int32))).2 ?_
    show Steps p.tables e below (s₁.setTop (mkF m 49 #[iv (5 : Int32)] [])) _
    exact k
  obtain ⟨T2, X2, e2, st2⟩ := getS2 X0 hx hZ hown (host := "") (Or.inl (hw _ (List.mem_of_getElem? (i := 44) rfl))) Via.refl e0 (S_w_ISO3166_1_ALPHA2.ext O0.2) (g := (mkF m 49 #[iv (5 : Int32)] [])) rfl (hb hby d_method_2_code_49)
  have k3 : Way p e below S0 T2 (mkF m 52 #[iv (5 : Int32)] [(.ref w_ISO3166_1_ALPHA2)]) := fun t k => k1 t (st2 _ k)
  obtain ⟨fs, hr, hrun, hended, hW, hsame⟩ := X2.leave (v := some (.ref w_ISO3166_1_ALPHA2)) (fun h => by rw [Bd.returns] at h; cases h)
  refine ⟨_, _, k3 _ (retOut X2 hx Bd.returns rfl (Or.inr (Or.inr (Or.inr (Or.inr ⟨rfl, rfl, rfl⟩)))) (hb hby d_method_2_code_52) hr), hrun, hended, _, _, rfl, ?_, ⟨_, rfl⟩, hW, hsame.mono (by decide) (by decide)⟩
  show Q_pick5 Z w_TEXT w_COMPOSITE w_CLOSED_LIST w_LISTED w_URI w_ISO3166_1_ALPHA2 w_ISO639 w_ISO15924 w_POSITIVE_NUMBER w_POSITIVE_INTEGER w_NONNEGATIVE_INTEGER w_ISO8601_DATE w_DIGEST w_PER_TIME_STANDARD w_PER_COORDINATE_SYSTEM w_TIME_SPAN  h0 n0 _ T2.heap _
  rw [e2]
  exact ⟨rfl, N0, rfl⟩
def Q_pick6 (Z : State) (w_TEXT : Addr) (w_COMPOSITE : Addr) (w_CLOSED_LIST : Addr) (w_LISTED : Addr) (w_URI : Addr) (w_ISO3166_1_ALPHA2 : Addr) (w_ISO639 : Addr) (w_ISO15924 : Addr) (w_POSITIVE_NUMBER : Addr) (w_POSITIVE_INTEGER : Addr) (w_NONNEGATIVE_INTEGER : Addr) (w_ISO8601_DATE : Addr) (w_DIGEST : Addr) (w_PER_TIME_STANDARD : Addr) (w_PER_COORDINATE_SYSTEM : Addr) (w_TIME_SPAN : Addr)  (h0 : Heap) (n0 : Nat) (v : Option Value) (h : Heap) (L : List Loc) : Prop := (v = some (.ref w_ISO639)) ∧ (Fr n0 L) ∧ (h = h0)
set_option maxRecDepth 65536 in
set_option maxHeartbeats 40000000 in
theorem pick6 (l : Launch) (Z : State) (a0 : Array Value) (hw : ∀ d ∈ tables_1, d.before a0 Z = true) (ws : List Jvm.Cond) (w_TEXT : Addr) (w_COMPOSITE : Addr) (w_CLOSED_LIST : Addr) (w_LISTED : Addr) (w_URI : Addr) (w_ISO3166_1_ALPHA2 : Addr) (w_ISO639 : Addr) (w_ISO15924 : Addr) (w_POSITIVE_NUMBER : Addr) (w_POSITIVE_INTEGER : Addr) (w_NONNEGATIVE_INTEGER : Addr) (w_ISO8601_DATE : Addr) (w_DIGEST : Addr) (w_PER_TIME_STANDARD : Addr) (w_PER_COORDINATE_SYSTEM : Addr) (w_TIME_SPAN : Addr) (G : Gst Z w_TEXT w_COMPOSITE w_CLOSED_LIST w_LISTED w_URI w_ISO3166_1_ALPHA2 w_ISO639 w_ISO15924 w_POSITIVE_NUMBER w_POSITIVE_INTEGER w_NONNEGATIVE_INTEGER w_ISO8601_DATE w_DIGEST w_PER_TIME_STANDARD w_PER_COORDINATE_SYSTEM w_TIME_SPAN)  (h0 : Heap) (n0 : Nat) (O0 : Old Z n0 h0) :
    MetFree l (⟨"gradivo/spec/ValueKindTakesFormFromPinLaw", "pick", "(I)Lgradivo/spec/ValueKind;"⟩ : MethodName) (head1 (Jvm.Cond.code (⟨"gradivo/spec/ValueKindTakesFormFromPinLaw", "pick", "(I)Lgradivo/spec/ValueKind;"⟩ : MethodName) method_2_code 1 (some (.object "gradivo/spec/ValueKind")) :: ws) ({ frames := 0, cells := 0, slots := 0, locals := 0 } : Room)) (fun a U => a = #[(.int (6 : Int32))] ∧ Z.Warmed39 U.vm ∧ U.heap = h0) (fun _ _ _ _ _ => True) (fun _ U o U' => ∃ v L, o = .returned v ∧ Q_pick6 Z w_TEXT w_COMPOSITE w_CLOSED_LIST w_LISTED w_URI w_ISO3166_1_ALPHA2 w_ISO639 w_ISO15924 w_POSITIVE_NUMBER w_POSITIVE_INTEGER w_NONNEGATIVE_INTEGER w_ISO8601_DATE w_DIGEST w_PER_TIME_STANDARD w_PER_COORDINATE_SYSTEM w_TIME_SPAN  h0 n0 v U'.heap L ∧ FrameEnd U o U' L ({ frames := 0, cells := 0, slots := 0, locals := 0 } : Room).cells ({ frames := 0, cells := 0, slots := 0, locals := 0 } : Room).slots) := by
  refine MetFree.of_bodySF (plainFor_of_name pn_0) hisR ?_
  intro p e s m args below meth c s₁ Bd hml0 hP hK
  obtain ⟨rfl, hZ, hh⟩ := hP
  have hx := Bd.exec
  have hby := Bd.bytes
  have hml : c.maxLocals = 1 := hml0
  have hown : s.vm.findClass "gradivo/spec/ValueKindTakesFormFromPinLaw" = some m.cls := findClass_of_methodNamed Bd.named
  have hnm := (name_of_methodNamed Bd.named Bd.method).1
  have X0 : Stand p l e ({ frames := 0, cells := 0, slots := 0, locals := 0 } : Room) s m #[(.int (6 : Int32))] below meth c s₁ [] 0 0 := Stand.of_body Bd
  have e0 : s₁.heap = h0 := by rw [← hh, Bd.state]; rfl
  have N0 := Fr.nil n0
  obtain ⟨S_w_TEXT, E_w_TEXT, F_w_TEXT_ordinal, S_w_COMPOSITE, E_w_COMPOSITE, F_w_COMPOSITE_ordinal, S_w_CLOSED_LIST, E_w_CLOSED_LIST, F_w_CLOSED_LIST_ordinal, S_w_LISTED, E_w_LISTED, F_w_LISTED_ordinal, S_w_URI, E_w_URI, F_w_URI_ordinal, S_w_ISO3166_1_ALPHA2, E_w_ISO3166_1_ALPHA2, F_w_ISO3166_1_ALPHA2_ordinal, S_w_ISO639, E_w_ISO639, F_w_ISO639_ordinal, S_w_ISO15924, E_w_ISO15924, F_w_ISO15924_ordinal, S_w_POSITIVE_NUMBER, E_w_POSITIVE_NUMBER, F_w_POSITIVE_NUMBER_ordinal, S_w_POSITIVE_INTEGER, E_w_POSITIVE_INTEGER, F_w_POSITIVE_INTEGER_ordinal, S_w_NONNEGATIVE_INTEGER, E_w_NONNEGATIVE_INTEGER, F_w_NONNEGATIVE_INTEGER_ordinal, S_w_ISO8601_DATE, E_w_ISO8601_DATE, F_w_ISO8601_DATE_ordinal, S_w_DIGEST, E_w_DIGEST, F_w_DIGEST_ordinal, S_w_PER_TIME_STANDARD, E_w_PER_TIME_STANDARD, F_w_PER_TIME_STANDARD_ordinal, S_w_PER_COORDINATE_SYSTEM, E_w_PER_COORDINATE_SYSTEM, F_w_PER_COORDINATE_SYSTEM_ordinal, S_w_TIME_SPAN, E_w_TIME_SPAN, F_w_TIME_SPAN_ordinal⟩ := id G
  have k0 : Way p e below (s₁.setTop (entryFrame m #[(.int (6 : Int32))] 1)) s₁ (mkF m 0 #[iv (6 : Int32)] []) := fun t k => castTop (by first | (simp [entryFrame, mkF, argsToLocals, Value.category]; done) | rfl) k
  generalize s₁.setTop (entryFrame m #[(.int (6 : Int32))] 1) = S0 at k0 ⊢
  have k1 : Way p e below S0 s₁ (mkF m 59 #[iv (6 : Int32)] []) := by
    intro t k
    refine k0 t ?_
    refine XS.iloadN X0.here hx rfl (hb hby d_method_2_code_0) rfl ?_
    show Steps p.tables e below (s₁.setTop (mkF m 1 #[iv (6 : Int32)] [(.int (6 : Int32))])) _
    refine XS.ifYes X0.here hx rfl (pc0 := 1) (pc' := 8) rfl (hb hby d_method_2_code_1) rfl ((if0 _ _).trans (feq ((by decide) : ¬ ((6 : Int32) = (0 : Int32)))).2) (by decide) (by decide) ?_
    show Steps p.tables e below (s₁.setTop (mkF m 8 #[iv (6 : Int32)] [])) _
    refine XS.iloadN X0.here hx rfl (hb hby d_method_2_code_8) rfl ?_
    show Steps p.tables e below (s₁.setTop (mkF m 9 #[iv (6 : Int32)] [(.int (6 : Int32))])) _
    refine XS.iconst X0.here hx rfl (hb hby d_method_2_code_9) ?_
    show Steps p.tables e below (s₁.setTop (mkF m 10 #[iv (6 : Int32)] [(.int (1 : Int32)), (.int (6 : Int32))])) _
    refine XS.icmpYes X0.here hx rfl (pc0 := 10) (pc' := 17) rfl (hb hby d_method_2_code_10) rfl (feq ((by decide) : ¬ ((6 : Int32) = (1 : Int32)))).2 (by decide) (by decide) ?_
    show Steps p.tables e below (s₁.setTop (mkF m 17 #[iv (6 : Int32)] [])) _
    refine XS.iloadN X0.here hx rfl (hb hby d_method_2_code_17) rfl ?_
    show Steps p.tables e below (s₁.setTop (mkF m 18 #[iv (6 : Int32)] [(.int (6 : Int32))])) _
    refine XS.iconst X0.here hx rfl (hb hby d_method_2_code_18) ?_
    show Steps p.tables e below (s₁.setTop (mkF m 19 #[iv (6 : Int32)] [(.int (2 : Int32)), (.int (6 : Int32))])) _
    refine XS.icmpYes X0.here hx rfl (pc0 := 19) (pc' := 26) rfl (hb hby d_method_2_code_19) rfl (feq ((by decide) : ¬ ((6 : Int32) = (2 : Int32)))).2 (by decide) (by decide) ?_
    show Steps p.tables e below (s₁.setTop (mkF m 26 #[iv (6 : Int32)] [])) _
    refine XS.iloadN X0.here hx rfl (hb hby d_method_2_code_26) rfl ?_
    show Steps p.tables e below (s₁.setTop (mkF m 27 #[iv (6 : Int32)] [(.int (6 : Int32))])) _
    refine XS.iconst X0.here hx rfl (hb hby d_method_2_code_27) ?_
    show Steps p.tables e below (s₁.setTop (mkF m 28 #[iv (6 : Int32)] [(.int (3 : Int32)), (.int (6 : Int32))])) _
    refine XS.icmpYes X0.here hx rfl (pc0 := 28) (pc' := 35) rfl (hb hby d_method_2_code_28) rfl (feq ((by decide) : ¬ ((6 : Int32) = (3 : Int32)))).2 (by decide) (by decide) ?_
    show Steps p.tables e below (s₁.setTop (mkF m 35 #[iv (6 : Int32)] [])) _
    refine XS.iloadN X0.here hx rfl (hb hby d_method_2_code_35) rfl ?_
    show Steps p.tables e below (s₁.setTop (mkF m 36 #[iv (6 : Int32)] [(.int (6 : Int32))])) _
    refine XS.iconst X0.here hx rfl (hb hby d_method_2_code_36) ?_
    show Steps p.tables e below (s₁.setTop (mkF m 37 #[iv (6 : Int32)] [(.int (4 : Int32)), (.int (6 : Int32))])) _
    refine XS.icmpYes X0.here hx rfl (pc0 := 37) (pc' := 44) rfl (hb hby d_method_2_code_37) rfl (feq ((by decide) : ¬ ((6 : Int32) = (4 : Int32)))).2 (by decide) (by decide) ?_
    show Steps p.tables e below (s₁.setTop (mkF m 44 #[iv (6 : Int32)] [])) _
    refine XS.iloadN X0.here hx rfl (hb hby d_method_2_code_44) rfl ?_
    show Steps p.tables e below (s₁.setTop (mkF m 45 #[iv (6 : Int32)] [(.int (6 : Int32))])) _
    refine XS.iconst X0.here hx rfl (hb hby d_method_2_code_45) ?_
    show Steps p.tables e below (s₁.setTop (mkF m 46 #[iv (6 : Int32)] [(.int (5 : Int32)), (.int (6 : Int32))])) _
    refine XS.icmpYes X0.here hx rfl (pc0 := 46) (pc' := 53) rfl (hb hby d_method_2_code_46) rfl (feq ((by decide) : ¬ ((6 : Int32) = (5 : Int32)))).2 (by decide) (by decide) ?_
    show Steps p.tables e below (s₁.setTop (mkF m 53 #[iv (6 : Int32)] [])) _
    refine XS.iloadN X0.here hx rfl (hb hby d_method_2_code_53) rfl ?_
    show Steps p.tables e below (s₁.setTop (mkF m 54 #[iv (6 : Int32)] [(.int (6 : Int32))])) _
    refine XS.bipush X0.here hx rfl (hb hby d_method_2_code_54) ?_
    show Steps p.tables e below (s₁.setTop (mkF m 56 #[iv (6 : Int32)] [(.int (6 : Int32)), (.int (6 : Int32))])) _
    refine XS.icmpNo X0.here hx rfl (hb hby d_method_2_code_56) rfl (teq ((by decide) : (6 : Int32) = (6 : Int32))).2 ?_
    show Steps p.tables e below (s₁.setTop (mkF m 59 #[iv (6 : Int32)] [])) _
    exact k
  obtain ⟨T2, X2, e2, st2⟩ := getS2 X0 hx hZ hown (host := "") (Or.inl (hw _ (List.mem_of_getElem? (i := 40) rfl))) Via.refl e0 (S_w_ISO639.ext O0.2) (g := (mkF m 59 #[iv (6 : Int32)] [])) rfl (hb hby d_method_2_code_59)
  have k3 : Way p e below S0 T2 (mkF m 62 #[iv (6 : Int32)] [(.ref w_ISO639)]) := fun t k => k1 t (st2 _ k)
  obtain ⟨fs, hr, hrun, hended, hW, hsame⟩ := X2.leave (v := some (.ref w_ISO639)) (fun h => by rw [Bd.returns] at h; cases h)
  refine ⟨_, _, k3 _ (retOut X2 hx Bd.returns rfl (Or.inr (Or.inr (Or.inr (Or.inr ⟨rfl, rfl, rfl⟩)))) (hb hby d_method_2_code_62) hr), hrun, hended, _, _, rfl, ?_, ⟨_, rfl⟩, hW, hsame.mono (by decide) (by decide)⟩
  show Q_pick6 Z w_TEXT w_COMPOSITE w_CLOSED_LIST w_LISTED w_URI w_ISO3166_1_ALPHA2 w_ISO639 w_ISO15924 w_POSITIVE_NUMBER w_POSITIVE_INTEGER w_NONNEGATIVE_INTEGER w_ISO8601_DATE w_DIGEST w_PER_TIME_STANDARD w_PER_COORDINATE_SYSTEM w_TIME_SPAN  h0 n0 _ T2.heap _
  rw [e2]
  exact ⟨rfl, N0, rfl⟩
def Q_pick7 (Z : State) (w_TEXT : Addr) (w_COMPOSITE : Addr) (w_CLOSED_LIST : Addr) (w_LISTED : Addr) (w_URI : Addr) (w_ISO3166_1_ALPHA2 : Addr) (w_ISO639 : Addr) (w_ISO15924 : Addr) (w_POSITIVE_NUMBER : Addr) (w_POSITIVE_INTEGER : Addr) (w_NONNEGATIVE_INTEGER : Addr) (w_ISO8601_DATE : Addr) (w_DIGEST : Addr) (w_PER_TIME_STANDARD : Addr) (w_PER_COORDINATE_SYSTEM : Addr) (w_TIME_SPAN : Addr)  (h0 : Heap) (n0 : Nat) (v : Option Value) (h : Heap) (L : List Loc) : Prop := (v = some (.ref w_ISO15924)) ∧ (Fr n0 L) ∧ (h = h0)
set_option maxRecDepth 65536 in
set_option maxHeartbeats 40000000 in
theorem pick7 (l : Launch) (Z : State) (a0 : Array Value) (hw : ∀ d ∈ tables_1, d.before a0 Z = true) (ws : List Jvm.Cond) (w_TEXT : Addr) (w_COMPOSITE : Addr) (w_CLOSED_LIST : Addr) (w_LISTED : Addr) (w_URI : Addr) (w_ISO3166_1_ALPHA2 : Addr) (w_ISO639 : Addr) (w_ISO15924 : Addr) (w_POSITIVE_NUMBER : Addr) (w_POSITIVE_INTEGER : Addr) (w_NONNEGATIVE_INTEGER : Addr) (w_ISO8601_DATE : Addr) (w_DIGEST : Addr) (w_PER_TIME_STANDARD : Addr) (w_PER_COORDINATE_SYSTEM : Addr) (w_TIME_SPAN : Addr) (G : Gst Z w_TEXT w_COMPOSITE w_CLOSED_LIST w_LISTED w_URI w_ISO3166_1_ALPHA2 w_ISO639 w_ISO15924 w_POSITIVE_NUMBER w_POSITIVE_INTEGER w_NONNEGATIVE_INTEGER w_ISO8601_DATE w_DIGEST w_PER_TIME_STANDARD w_PER_COORDINATE_SYSTEM w_TIME_SPAN)  (h0 : Heap) (n0 : Nat) (O0 : Old Z n0 h0) :
    MetFree l (⟨"gradivo/spec/ValueKindTakesFormFromPinLaw", "pick", "(I)Lgradivo/spec/ValueKind;"⟩ : MethodName) (head1 (Jvm.Cond.code (⟨"gradivo/spec/ValueKindTakesFormFromPinLaw", "pick", "(I)Lgradivo/spec/ValueKind;"⟩ : MethodName) method_2_code 1 (some (.object "gradivo/spec/ValueKind")) :: ws) ({ frames := 0, cells := 0, slots := 0, locals := 0 } : Room)) (fun a U => a = #[(.int (7 : Int32))] ∧ Z.Warmed39 U.vm ∧ U.heap = h0) (fun _ _ _ _ _ => True) (fun _ U o U' => ∃ v L, o = .returned v ∧ Q_pick7 Z w_TEXT w_COMPOSITE w_CLOSED_LIST w_LISTED w_URI w_ISO3166_1_ALPHA2 w_ISO639 w_ISO15924 w_POSITIVE_NUMBER w_POSITIVE_INTEGER w_NONNEGATIVE_INTEGER w_ISO8601_DATE w_DIGEST w_PER_TIME_STANDARD w_PER_COORDINATE_SYSTEM w_TIME_SPAN  h0 n0 v U'.heap L ∧ FrameEnd U o U' L ({ frames := 0, cells := 0, slots := 0, locals := 0 } : Room).cells ({ frames := 0, cells := 0, slots := 0, locals := 0 } : Room).slots) := by
  refine MetFree.of_bodySF (plainFor_of_name pn_0) hisR ?_
  intro p e s m args below meth c s₁ Bd hml0 hP hK
  obtain ⟨rfl, hZ, hh⟩ := hP
  have hx := Bd.exec
  have hby := Bd.bytes
  have hml : c.maxLocals = 1 := hml0
  have hown : s.vm.findClass "gradivo/spec/ValueKindTakesFormFromPinLaw" = some m.cls := findClass_of_methodNamed Bd.named
  have hnm := (name_of_methodNamed Bd.named Bd.method).1
  have X0 : Stand p l e ({ frames := 0, cells := 0, slots := 0, locals := 0 } : Room) s m #[(.int (7 : Int32))] below meth c s₁ [] 0 0 := Stand.of_body Bd
  have e0 : s₁.heap = h0 := by rw [← hh, Bd.state]; rfl
  have N0 := Fr.nil n0
  obtain ⟨S_w_TEXT, E_w_TEXT, F_w_TEXT_ordinal, S_w_COMPOSITE, E_w_COMPOSITE, F_w_COMPOSITE_ordinal, S_w_CLOSED_LIST, E_w_CLOSED_LIST, F_w_CLOSED_LIST_ordinal, S_w_LISTED, E_w_LISTED, F_w_LISTED_ordinal, S_w_URI, E_w_URI, F_w_URI_ordinal, S_w_ISO3166_1_ALPHA2, E_w_ISO3166_1_ALPHA2, F_w_ISO3166_1_ALPHA2_ordinal, S_w_ISO639, E_w_ISO639, F_w_ISO639_ordinal, S_w_ISO15924, E_w_ISO15924, F_w_ISO15924_ordinal, S_w_POSITIVE_NUMBER, E_w_POSITIVE_NUMBER, F_w_POSITIVE_NUMBER_ordinal, S_w_POSITIVE_INTEGER, E_w_POSITIVE_INTEGER, F_w_POSITIVE_INTEGER_ordinal, S_w_NONNEGATIVE_INTEGER, E_w_NONNEGATIVE_INTEGER, F_w_NONNEGATIVE_INTEGER_ordinal, S_w_ISO8601_DATE, E_w_ISO8601_DATE, F_w_ISO8601_DATE_ordinal, S_w_DIGEST, E_w_DIGEST, F_w_DIGEST_ordinal, S_w_PER_TIME_STANDARD, E_w_PER_TIME_STANDARD, F_w_PER_TIME_STANDARD_ordinal, S_w_PER_COORDINATE_SYSTEM, E_w_PER_COORDINATE_SYSTEM, F_w_PER_COORDINATE_SYSTEM_ordinal, S_w_TIME_SPAN, E_w_TIME_SPAN, F_w_TIME_SPAN_ordinal⟩ := id G
  have k0 : Way p e below (s₁.setTop (entryFrame m #[(.int (7 : Int32))] 1)) s₁ (mkF m 0 #[iv (7 : Int32)] []) := fun t k => castTop (by first | (simp [entryFrame, mkF, argsToLocals, Value.category]; done) | rfl) k
  generalize s₁.setTop (entryFrame m #[(.int (7 : Int32))] 1) = S0 at k0 ⊢
  have k1 : Way p e below S0 s₁ (mkF m 69 #[iv (7 : Int32)] []) := by
    intro t k
    refine k0 t ?_
    refine XS.iloadN X0.here hx rfl (hb hby d_method_2_code_0) rfl ?_
    show Steps p.tables e below (s₁.setTop (mkF m 1 #[iv (7 : Int32)] [(.int (7 : Int32))])) _
    refine XS.ifYes X0.here hx rfl (pc0 := 1) (pc' := 8) rfl (hb hby d_method_2_code_1) rfl ((if0 _ _).trans (feq ((by decide) : ¬ ((7 : Int32) = (0 : Int32)))).2) (by decide) (by decide) ?_
    show Steps p.tables e below (s₁.setTop (mkF m 8 #[iv (7 : Int32)] [])) _
    refine XS.iloadN X0.here hx rfl (hb hby d_method_2_code_8) rfl ?_
    show Steps p.tables e below (s₁.setTop (mkF m 9 #[iv (7 : Int32)] [(.int (7 : Int32))])) _
    refine XS.iconst X0.here hx rfl (hb hby d_method_2_code_9) ?_
    show Steps p.tables e below (s₁.setTop (mkF m 10 #[iv (7 : Int32)] [(.int (1 : Int32)), (.int (7 : Int32))])) _
    refine XS.icmpYes X0.here hx rfl (pc0 := 10) (pc' := 17) rfl (hb hby d_method_2_code_10) rfl (feq ((by decide) : ¬ ((7 : Int32) = (1 : Int32)))).2 (by decide) (by decide) ?_
    show Steps p.tables e below (s₁.setTop (mkF m 17 #[iv (7 : Int32)] [])) _
    refine XS.iloadN X0.here hx rfl (hb hby d_method_2_code_17) rfl ?_
    show Steps p.tables e below (s₁.setTop (mkF m 18 #[iv (7 : Int32)] [(.int (7 : Int32))])) _
    refine XS.iconst X0.here hx rfl (hb hby d_method_2_code_18) ?_
    show Steps p.tables e below (s₁.setTop (mkF m 19 #[iv (7 : Int32)] [(.int (2 : Int32)), (.int (7 : Int32))])) _
    refine XS.icmpYes X0.here hx rfl (pc0 := 19) (pc' := 26) rfl (hb hby d_method_2_code_19) rfl (feq ((by decide) : ¬ ((7 : Int32) = (2 : Int32)))).2 (by decide) (by decide) ?_
    show Steps p.tables e below (s₁.setTop (mkF m 26 #[iv (7 : Int32)] [])) _
    refine XS.iloadN X0.here hx rfl (hb hby d_method_2_code_26) rfl ?_
    show Steps p.tables e below (s₁.setTop (mkF m 27 #[iv (7 : Int32)] [(.int (7 : Int32))])) _
    refine XS.iconst X0.here hx rfl (hb hby d_method_2_code_27) ?_
    show Steps p.tables e below (s₁.setTop (mkF m 28 #[iv (7 : Int32)] [(.int (3 : Int32)), (.int (7 : Int32))])) _
    refine XS.icmpYes X0.here hx rfl (pc0 := 28) (pc' := 35) rfl (hb hby d_method_2_code_28) rfl (feq ((by decide) : ¬ ((7 : Int32) = (3 : Int32)))).2 (by decide) (by decide) ?_
    show Steps p.tables e below (s₁.setTop (mkF m 35 #[iv (7 : Int32)] [])) _
    refine XS.iloadN X0.here hx rfl (hb hby d_method_2_code_35) rfl ?_
    show Steps p.tables e below (s₁.setTop (mkF m 36 #[iv (7 : Int32)] [(.int (7 : Int32))])) _
    refine XS.iconst X0.here hx rfl (hb hby d_method_2_code_36) ?_
    show Steps p.tables e below (s₁.setTop (mkF m 37 #[iv (7 : Int32)] [(.int (4 : Int32)), (.int (7 : Int32))])) _
    refine XS.icmpYes X0.here hx rfl (pc0 := 37) (pc' := 44) rfl (hb hby d_method_2_code_37) rfl (feq ((by decide) : ¬ ((7 : Int32) = (4 : Int32)))).2 (by decide) (by decide) ?_
    show Steps p.tables e below (s₁.setTop (mkF m 44 #[iv (7 : Int32)] [])) _
    refine XS.iloadN X0.here hx rfl (hb hby d_method_2_code_44) rfl ?_
    show Steps p.tables e below (s₁.setTop (mkF m 45 #[iv (7 : Int32)] [(.int (7 : Int32))])) _
    refine XS.iconst X0.here hx rfl (hb hby d_method_2_code_45) ?_
    show Steps p.tables e below (s₁.setTop (mkF m 46 #[iv (7 : Int32)] [(.int (5 : Int32)), (.int (7 : Int32))])) _
    refine XS.icmpYes X0.here hx rfl (pc0 := 46) (pc' := 53) rfl (hb hby d_method_2_code_46) rfl (feq ((by decide) : ¬ ((7 : Int32) = (5 : Int32)))).2 (by decide) (by decide) ?_
    show Steps p.tables e below (s₁.setTop (mkF m 53 #[iv (7 : Int32)] [])) _
    refine XS.iloadN X0.here hx rfl (hb hby d_method_2_code_53) rfl ?_
    show Steps p.tables e below (s₁.setTop (mkF m 54 #[iv (7 : Int32)] [(.int (7 : Int32))])) _
    refine XS.bipush X0.here hx rfl (hb hby d_method_2_code_54) ?_
    show Steps p.tables e below (s₁.setTop (mkF m 56 #[iv (7 : Int32)] [(.int (6 : Int32)), (.int (7 : Int32))])) _
    refine XS.icmpYes X0.here hx rfl (pc0 := 56) (pc' := 63) rfl (hb hby d_method_2_code_56) rfl (feq ((by decide) : ¬ ((7 : Int32) = (6 : Int32)))).2 (by decide) (by decide) ?_
    show Steps p.tables e below (s₁.setTop (mkF m 63 #[iv (7 : Int32)] [])) _
    refine XS.iloadN X0.here hx rfl (hb hby d_method_2_code_63) rfl ?_
    show Steps p.tables e below (s₁.setTop (mkF m 64 #[iv (7 : Int32)] [(.int (7 : Int32))])) _
    refine XS.bipush X0.here hx rfl (hb hby d_method_2_code_64) ?_
    show Steps p.tables e below (s₁.setTop (mkF m 66 #[iv (7 : Int32)] [(.int (7 : Int32)), (.int (7 : Int32))])) _
    refine XS.icmpNo X0.here hx rfl (hb hby d_method_2_code_66) rfl (teq ((by decide) : (7 : Int32) = (7 : Int32))).2 ?_
    show Steps p.tables e below (s₁.setTop (mkF m 69 #[iv (7 : Int32)] [])) _
    exact k
  obtain ⟨T2, X2, e2, st2⟩ := getS2 X0 hx hZ hown (host := "") (Or.inl (hw _ (List.mem_of_getElem? (i := 26) rfl))) Via.refl e0 (S_w_ISO15924.ext O0.2) (g := (mkF m 69 #[iv (7 : Int32)] [])) rfl (hb hby d_method_2_code_69)
  have k3 : Way p e below S0 T2 (mkF m 72 #[iv (7 : Int32)] [(.ref w_ISO15924)]) := fun t k => k1 t (st2 _ k)
  obtain ⟨fs, hr, hrun, hended, hW, hsame⟩ := X2.leave (v := some (.ref w_ISO15924)) (fun h => by rw [Bd.returns] at h; cases h)
  refine ⟨_, _, k3 _ (retOut X2 hx Bd.returns rfl (Or.inr (Or.inr (Or.inr (Or.inr ⟨rfl, rfl, rfl⟩)))) (hb hby d_method_2_code_72) hr), hrun, hended, _, _, rfl, ?_, ⟨_, rfl⟩, hW, hsame.mono (by decide) (by decide)⟩
  show Q_pick7 Z w_TEXT w_COMPOSITE w_CLOSED_LIST w_LISTED w_URI w_ISO3166_1_ALPHA2 w_ISO639 w_ISO15924 w_POSITIVE_NUMBER w_POSITIVE_INTEGER w_NONNEGATIVE_INTEGER w_ISO8601_DATE w_DIGEST w_PER_TIME_STANDARD w_PER_COORDINATE_SYSTEM w_TIME_SPAN  h0 n0 _ T2.heap _
  rw [e2]
  exact ⟨rfl, N0, rfl⟩
def Q_pick8 (Z : State) (w_TEXT : Addr) (w_COMPOSITE : Addr) (w_CLOSED_LIST : Addr) (w_LISTED : Addr) (w_URI : Addr) (w_ISO3166_1_ALPHA2 : Addr) (w_ISO639 : Addr) (w_ISO15924 : Addr) (w_POSITIVE_NUMBER : Addr) (w_POSITIVE_INTEGER : Addr) (w_NONNEGATIVE_INTEGER : Addr) (w_ISO8601_DATE : Addr) (w_DIGEST : Addr) (w_PER_TIME_STANDARD : Addr) (w_PER_COORDINATE_SYSTEM : Addr) (w_TIME_SPAN : Addr)  (h0 : Heap) (n0 : Nat) (v : Option Value) (h : Heap) (L : List Loc) : Prop := (v = some (.ref w_POSITIVE_NUMBER)) ∧ (Fr n0 L) ∧ (h = h0)
set_option maxRecDepth 65536 in
set_option maxHeartbeats 40000000 in
theorem pick8 (l : Launch) (Z : State) (a0 : Array Value) (hw : ∀ d ∈ tables_1, d.before a0 Z = true) (ws : List Jvm.Cond) (w_TEXT : Addr) (w_COMPOSITE : Addr) (w_CLOSED_LIST : Addr) (w_LISTED : Addr) (w_URI : Addr) (w_ISO3166_1_ALPHA2 : Addr) (w_ISO639 : Addr) (w_ISO15924 : Addr) (w_POSITIVE_NUMBER : Addr) (w_POSITIVE_INTEGER : Addr) (w_NONNEGATIVE_INTEGER : Addr) (w_ISO8601_DATE : Addr) (w_DIGEST : Addr) (w_PER_TIME_STANDARD : Addr) (w_PER_COORDINATE_SYSTEM : Addr) (w_TIME_SPAN : Addr) (G : Gst Z w_TEXT w_COMPOSITE w_CLOSED_LIST w_LISTED w_URI w_ISO3166_1_ALPHA2 w_ISO639 w_ISO15924 w_POSITIVE_NUMBER w_POSITIVE_INTEGER w_NONNEGATIVE_INTEGER w_ISO8601_DATE w_DIGEST w_PER_TIME_STANDARD w_PER_COORDINATE_SYSTEM w_TIME_SPAN)  (h0 : Heap) (n0 : Nat) (O0 : Old Z n0 h0) :
    MetFree l (⟨"gradivo/spec/ValueKindTakesFormFromPinLaw", "pick", "(I)Lgradivo/spec/ValueKind;"⟩ : MethodName) (head1 (Jvm.Cond.code (⟨"gradivo/spec/ValueKindTakesFormFromPinLaw", "pick", "(I)Lgradivo/spec/ValueKind;"⟩ : MethodName) method_2_code 1 (some (.object "gradivo/spec/ValueKind")) :: ws) ({ frames := 0, cells := 0, slots := 0, locals := 0 } : Room)) (fun a U => a = #[(.int (8 : Int32))] ∧ Z.Warmed39 U.vm ∧ U.heap = h0) (fun _ _ _ _ _ => True) (fun _ U o U' => ∃ v L, o = .returned v ∧ Q_pick8 Z w_TEXT w_COMPOSITE w_CLOSED_LIST w_LISTED w_URI w_ISO3166_1_ALPHA2 w_ISO639 w_ISO15924 w_POSITIVE_NUMBER w_POSITIVE_INTEGER w_NONNEGATIVE_INTEGER w_ISO8601_DATE w_DIGEST w_PER_TIME_STANDARD w_PER_COORDINATE_SYSTEM w_TIME_SPAN  h0 n0 v U'.heap L ∧ FrameEnd U o U' L ({ frames := 0, cells := 0, slots := 0, locals := 0 } : Room).cells ({ frames := 0, cells := 0, slots := 0, locals := 0 } : Room).slots) := by
  refine MetFree.of_bodySF (plainFor_of_name pn_0) hisR ?_
  intro p e s m args below meth c s₁ Bd hml0 hP hK
  obtain ⟨rfl, hZ, hh⟩ := hP
  have hx := Bd.exec
  have hby := Bd.bytes
  have hml : c.maxLocals = 1 := hml0
  have hown : s.vm.findClass "gradivo/spec/ValueKindTakesFormFromPinLaw" = some m.cls := findClass_of_methodNamed Bd.named
  have hnm := (name_of_methodNamed Bd.named Bd.method).1
  have X0 : Stand p l e ({ frames := 0, cells := 0, slots := 0, locals := 0 } : Room) s m #[(.int (8 : Int32))] below meth c s₁ [] 0 0 := Stand.of_body Bd
  have e0 : s₁.heap = h0 := by rw [← hh, Bd.state]; rfl
  have N0 := Fr.nil n0
  obtain ⟨S_w_TEXT, E_w_TEXT, F_w_TEXT_ordinal, S_w_COMPOSITE, E_w_COMPOSITE, F_w_COMPOSITE_ordinal, S_w_CLOSED_LIST, E_w_CLOSED_LIST, F_w_CLOSED_LIST_ordinal, S_w_LISTED, E_w_LISTED, F_w_LISTED_ordinal, S_w_URI, E_w_URI, F_w_URI_ordinal, S_w_ISO3166_1_ALPHA2, E_w_ISO3166_1_ALPHA2, F_w_ISO3166_1_ALPHA2_ordinal, S_w_ISO639, E_w_ISO639, F_w_ISO639_ordinal, S_w_ISO15924, E_w_ISO15924, F_w_ISO15924_ordinal, S_w_POSITIVE_NUMBER, E_w_POSITIVE_NUMBER, F_w_POSITIVE_NUMBER_ordinal, S_w_POSITIVE_INTEGER, E_w_POSITIVE_INTEGER, F_w_POSITIVE_INTEGER_ordinal, S_w_NONNEGATIVE_INTEGER, E_w_NONNEGATIVE_INTEGER, F_w_NONNEGATIVE_INTEGER_ordinal, S_w_ISO8601_DATE, E_w_ISO8601_DATE, F_w_ISO8601_DATE_ordinal, S_w_DIGEST, E_w_DIGEST, F_w_DIGEST_ordinal, S_w_PER_TIME_STANDARD, E_w_PER_TIME_STANDARD, F_w_PER_TIME_STANDARD_ordinal, S_w_PER_COORDINATE_SYSTEM, E_w_PER_COORDINATE_SYSTEM, F_w_PER_COORDINATE_SYSTEM_ordinal, S_w_TIME_SPAN, E_w_TIME_SPAN, F_w_TIME_SPAN_ordinal⟩ := id G
  have k0 : Way p e below (s₁.setTop (entryFrame m #[(.int (8 : Int32))] 1)) s₁ (mkF m 0 #[iv (8 : Int32)] []) := fun t k => castTop (by first | (simp [entryFrame, mkF, argsToLocals, Value.category]; done) | rfl) k
  generalize s₁.setTop (entryFrame m #[(.int (8 : Int32))] 1) = S0 at k0 ⊢
  have k1 : Way p e below S0 s₁ (mkF m 79 #[iv (8 : Int32)] []) := by
    intro t k
    refine k0 t ?_
    refine XS.iloadN X0.here hx rfl (hb hby d_method_2_code_0) rfl ?_
    show Steps p.tables e below (s₁.setTop (mkF m 1 #[iv (8 : Int32)] [(.int (8 : Int32))])) _
    refine XS.ifYes X0.here hx rfl (pc0 := 1) (pc' := 8) rfl (hb hby d_method_2_code_1) rfl ((if0 _ _).trans (feq ((by decide) : ¬ ((8 : Int32) = (0 : Int32)))).2) (by decide) (by decide) ?_
    show Steps p.tables e below (s₁.setTop (mkF m 8 #[iv (8 : Int32)] [])) _
    refine XS.iloadN X0.here hx rfl (hb hby d_method_2_code_8) rfl ?_
    show Steps p.tables e below (s₁.setTop (mkF m 9 #[iv (8 : Int32)] [(.int (8 : Int32))])) _
    refine XS.iconst X0.here hx rfl (hb hby d_method_2_code_9) ?_
    show Steps p.tables e below (s₁.setTop (mkF m 10 #[iv (8 : Int32)] [(.int (1 : Int32)), (.int (8 : Int32))])) _
    refine XS.icmpYes X0.here hx rfl (pc0 := 10) (pc' := 17) rfl (hb hby d_method_2_code_10) rfl (feq ((by decide) : ¬ ((8 : Int32) = (1 : Int32)))).2 (by decide) (by decide) ?_
    show Steps p.tables e below (s₁.setTop (mkF m 17 #[iv (8 : Int32)] [])) _
    refine XS.iloadN X0.here hx rfl (hb hby d_method_2_code_17) rfl ?_
    show Steps p.tables e below (s₁.setTop (mkF m 18 #[iv (8 : Int32)] [(.int (8 : Int32))])) _
    refine XS.iconst X0.here hx rfl (hb hby d_method_2_code_18) ?_
    show Steps p.tables e below (s₁.setTop (mkF m 19 #[iv (8 : Int32)] [(.int (2 : Int32)), (.int (8 : Int32))])) _
    refine XS.icmpYes X0.here hx rfl (pc0 := 19) (pc' := 26) rfl (hb hby d_method_2_code_19) rfl (feq ((by decide) : ¬ ((8 : Int32) = (2 : Int32)))).2 (by decide) (by decide) ?_
    show Steps p.tables e below (s₁.setTop (mkF m 26 #[iv (8 : Int32)] [])) _
    refine XS.iloadN X0.here hx rfl (hb hby d_method_2_code_26) rfl ?_
    show Steps p.tables e below (s₁.setTop (mkF m 27 #[iv (8 : Int32)] [(.int (8 : Int32))])) _
    refine XS.iconst X0.here hx rfl (hb hby d_method_2_code_27) ?_
    show Steps p.tables e below (s₁.setTop (mkF m 28 #[iv (8 : Int32)] [(.int (3 : Int32)), (.int (8 : Int32))])) _
    refine XS.icmpYes X0.here hx rfl (pc0 := 28) (pc' := 35) rfl (hb hby d_method_2_code_28) rfl (feq ((by decide) : ¬ ((8 : Int32) = (3 : Int32)))).2 (by decide) (by decide) ?_
    show Steps p.tables e below (s₁.setTop (mkF m 35 #[iv (8 : Int32)] [])) _
    refine XS.iloadN X0.here hx rfl (hb hby d_method_2_code_35) rfl ?_
    show Steps p.tables e below (s₁.setTop (mkF m 36 #[iv (8 : Int32)] [(.int (8 : Int32))])) _
    refine XS.iconst X0.here hx rfl (hb hby d_method_2_code_36) ?_
    show Steps p.tables e below (s₁.setTop (mkF m 37 #[iv (8 : Int32)] [(.int (4 : Int32)), (.int (8 : Int32))])) _
    refine XS.icmpYes X0.here hx rfl (pc0 := 37) (pc' := 44) rfl (hb hby d_method_2_code_37) rfl (feq ((by decide) : ¬ ((8 : Int32) = (4 : Int32)))).2 (by decide) (by decide) ?_
    show Steps p.tables e below (s₁.setTop (mkF m 44 #[iv (8 : Int32)] [])) _
    refine XS.iloadN X0.here hx rfl (hb hby d_method_2_code_44) rfl ?_
    show Steps p.tables e below (s₁.setTop (mkF m 45 #[iv (8 : Int32)] [(.int (8 : Int32))])) _
    refine XS.iconst X0.here hx rfl (hb hby d_method_2_code_45) ?_
    show Steps p.tables e below (s₁.setTop (mkF m 46 #[iv (8 : Int32)] [(.int (5 : Int32)), (.int (8 : Int32))])) _
    refine XS.icmpYes X0.here hx rfl (pc0 := 46) (pc' := 53) rfl (hb hby d_method_2_code_46) rfl (feq ((by decide) : ¬ ((8 : Int32) = (5 : Int32)))).2 (by decide) (by decide) ?_
    show Steps p.tables e below (s₁.setTop (mkF m 53 #[iv (8 : Int32)] [])) _
    refine XS.iloadN X0.here hx rfl (hb hby d_method_2_code_53) rfl ?_
    show Steps p.tables e below (s₁.setTop (mkF m 54 #[iv (8 : Int32)] [(.int (8 : Int32))])) _
    refine XS.bipush X0.here hx rfl (hb hby d_method_2_code_54) ?_
    show Steps p.tables e below (s₁.setTop (mkF m 56 #[iv (8 : Int32)] [(.int (6 : Int32)), (.int (8 : Int32))])) _
    refine XS.icmpYes X0.here hx rfl (pc0 := 56) (pc' := 63) rfl (hb hby d_method_2_code_56) rfl (feq ((by decide) : ¬ ((8 : Int32) = (6 : Int32)))).2 (by decide) (by decide) ?_
    show Steps p.tables e below (s₁.setTop (mkF m 63 #[iv (8 : Int32)] [])) _
    refine XS.iloadN X0.here hx rfl (hb hby d_method_2_code_63) rfl ?_
    show Steps p.tables e below (s₁.setTop (mkF m 64 #[iv (8 : Int32)] [(.int (8 : Int32))])) _
    refine XS.bipush X0.here hx rfl (hb hby d_method_2_code_64) ?_
    show Steps p.tables e below (s₁.setTop (mkF m 66 #[iv (8 : Int32)] [(.int (7 : Int32)), (.int (8 : Int32))])) _
    refine XS.icmpYes X0.here hx rfl (pc0 := 66) (pc' := 73) rfl (hb hby d_method_2_code_66) rfl (feq ((by decide) : ¬ ((8 : Int32) = (7 : Int32)))).2 (by decide) (by decide) ?_
    show Steps p.tables e below (s₁.setTop (mkF m 73 #[iv (8 : Int32)] [])) _
    refine XS.iloadN X0.here hx rfl (hb hby d_method_2_code_73) rfl ?_
    show Steps p.tables e below (s₁.setTop (mkF m 74 #[iv (8 : Int32)] [(.int (8 : Int32))])) _
    refine XS.bipush X0.here hx rfl (hb hby d_method_2_code_74) ?_
    show Steps p.tables e below (s₁.setTop (mkF m 76 #[iv (8 : Int32)] [(.int (8 : Int32)), (.int (8 : Int32))])) _
    refine XS.icmpNo X0.here hx rfl (hb hby d_method_2_code_76) rfl (teq ((by decide) : (8 : Int32) = (8 : Int32))).2 ?_
    show Steps p.tables e below (s₁.setTop (mkF m 79 #[iv (8 : Int32)] [])) _
    exact k
  obtain ⟨T2, X2, e2, st2⟩ := getS2 X0 hx hZ hown (host := "") (Or.inl (hw _ (List.mem_of_getElem? (i := 32) rfl))) Via.refl e0 (S_w_POSITIVE_NUMBER.ext O0.2) (g := (mkF m 79 #[iv (8 : Int32)] [])) rfl (hb hby d_method_2_code_79)
  have k3 : Way p e below S0 T2 (mkF m 82 #[iv (8 : Int32)] [(.ref w_POSITIVE_NUMBER)]) := fun t k => k1 t (st2 _ k)
  obtain ⟨fs, hr, hrun, hended, hW, hsame⟩ := X2.leave (v := some (.ref w_POSITIVE_NUMBER)) (fun h => by rw [Bd.returns] at h; cases h)
  refine ⟨_, _, k3 _ (retOut X2 hx Bd.returns rfl (Or.inr (Or.inr (Or.inr (Or.inr ⟨rfl, rfl, rfl⟩)))) (hb hby d_method_2_code_82) hr), hrun, hended, _, _, rfl, ?_, ⟨_, rfl⟩, hW, hsame.mono (by decide) (by decide)⟩
  show Q_pick8 Z w_TEXT w_COMPOSITE w_CLOSED_LIST w_LISTED w_URI w_ISO3166_1_ALPHA2 w_ISO639 w_ISO15924 w_POSITIVE_NUMBER w_POSITIVE_INTEGER w_NONNEGATIVE_INTEGER w_ISO8601_DATE w_DIGEST w_PER_TIME_STANDARD w_PER_COORDINATE_SYSTEM w_TIME_SPAN  h0 n0 _ T2.heap _
  rw [e2]
  exact ⟨rfl, N0, rfl⟩
def Q_pick9 (Z : State) (w_TEXT : Addr) (w_COMPOSITE : Addr) (w_CLOSED_LIST : Addr) (w_LISTED : Addr) (w_URI : Addr) (w_ISO3166_1_ALPHA2 : Addr) (w_ISO639 : Addr) (w_ISO15924 : Addr) (w_POSITIVE_NUMBER : Addr) (w_POSITIVE_INTEGER : Addr) (w_NONNEGATIVE_INTEGER : Addr) (w_ISO8601_DATE : Addr) (w_DIGEST : Addr) (w_PER_TIME_STANDARD : Addr) (w_PER_COORDINATE_SYSTEM : Addr) (w_TIME_SPAN : Addr)  (h0 : Heap) (n0 : Nat) (v : Option Value) (h : Heap) (L : List Loc) : Prop := (v = some (.ref w_POSITIVE_INTEGER)) ∧ (Fr n0 L) ∧ (h = h0)
set_option maxRecDepth 65536 in
set_option maxHeartbeats 40000000 in
theorem pick9 (l : Launch) (Z : State) (a0 : Array Value) (hw : ∀ d ∈ tables_1, d.before a0 Z = true) (ws : List Jvm.Cond) (w_TEXT : Addr) (w_COMPOSITE : Addr) (w_CLOSED_LIST : Addr) (w_LISTED : Addr) (w_URI : Addr) (w_ISO3166_1_ALPHA2 : Addr) (w_ISO639 : Addr) (w_ISO15924 : Addr) (w_POSITIVE_NUMBER : Addr) (w_POSITIVE_INTEGER : Addr) (w_NONNEGATIVE_INTEGER : Addr) (w_ISO8601_DATE : Addr) (w_DIGEST : Addr) (w_PER_TIME_STANDARD : Addr) (w_PER_COORDINATE_SYSTEM : Addr) (w_TIME_SPAN : Addr) (G : Gst Z w_TEXT w_COMPOSITE w_CLOSED_LIST w_LISTED w_URI w_ISO3166_1_ALPHA2 w_ISO639 w_ISO15924 w_POSITIVE_NUMBER w_POSITIVE_INTEGER w_NONNEGATIVE_INTEGER w_ISO8601_DATE w_DIGEST w_PER_TIME_STANDARD w_PER_COORDINATE_SYSTEM w_TIME_SPAN)  (h0 : Heap) (n0 : Nat) (O0 : Old Z n0 h0) :
    MetFree l (⟨"gradivo/spec/ValueKindTakesFormFromPinLaw", "pick", "(I)Lgradivo/spec/ValueKind;"⟩ : MethodName) (head1 (Jvm.Cond.code (⟨"gradivo/spec/ValueKindTakesFormFromPinLaw", "pick", "(I)Lgradivo/spec/ValueKind;"⟩ : MethodName) method_2_code 1 (some (.object "gradivo/spec/ValueKind")) :: ws) ({ frames := 0, cells := 0, slots := 0, locals := 0 } : Room)) (fun a U => a = #[(.int (9 : Int32))] ∧ Z.Warmed39 U.vm ∧ U.heap = h0) (fun _ _ _ _ _ => True) (fun _ U o U' => ∃ v L, o = .returned v ∧ Q_pick9 Z w_TEXT w_COMPOSITE w_CLOSED_LIST w_LISTED w_URI w_ISO3166_1_ALPHA2 w_ISO639 w_ISO15924 w_POSITIVE_NUMBER w_POSITIVE_INTEGER w_NONNEGATIVE_INTEGER w_ISO8601_DATE w_DIGEST w_PER_TIME_STANDARD w_PER_COORDINATE_SYSTEM w_TIME_SPAN  h0 n0 v U'.heap L ∧ FrameEnd U o U' L ({ frames := 0, cells := 0, slots := 0, locals := 0 } : Room).cells ({ frames := 0, cells := 0, slots := 0, locals := 0 } : Room).slots) := by
  refine MetFree.of_bodySF (plainFor_of_name pn_0) hisR ?_
  intro p e s m args below meth c s₁ Bd hml0 hP hK
  obtain ⟨rfl, hZ, hh⟩ := hP
  have hx := Bd.exec
  have hby := Bd.bytes
  have hml : c.maxLocals = 1 := hml0
  have hown : s.vm.findClass "gradivo/spec/ValueKindTakesFormFromPinLaw" = some m.cls := findClass_of_methodNamed Bd.named
  have hnm := (name_of_methodNamed Bd.named Bd.method).1
  have X0 : Stand p l e ({ frames := 0, cells := 0, slots := 0, locals := 0 } : Room) s m #[(.int (9 : Int32))] below meth c s₁ [] 0 0 := Stand.of_body Bd
  have e0 : s₁.heap = h0 := by rw [← hh, Bd.state]; rfl
  have N0 := Fr.nil n0
  obtain ⟨S_w_TEXT, E_w_TEXT, F_w_TEXT_ordinal, S_w_COMPOSITE, E_w_COMPOSITE, F_w_COMPOSITE_ordinal, S_w_CLOSED_LIST, E_w_CLOSED_LIST, F_w_CLOSED_LIST_ordinal, S_w_LISTED, E_w_LISTED, F_w_LISTED_ordinal, S_w_URI, E_w_URI, F_w_URI_ordinal, S_w_ISO3166_1_ALPHA2, E_w_ISO3166_1_ALPHA2, F_w_ISO3166_1_ALPHA2_ordinal, S_w_ISO639, E_w_ISO639, F_w_ISO639_ordinal, S_w_ISO15924, E_w_ISO15924, F_w_ISO15924_ordinal, S_w_POSITIVE_NUMBER, E_w_POSITIVE_NUMBER, F_w_POSITIVE_NUMBER_ordinal, S_w_POSITIVE_INTEGER, E_w_POSITIVE_INTEGER, F_w_POSITIVE_INTEGER_ordinal, S_w_NONNEGATIVE_INTEGER, E_w_NONNEGATIVE_INTEGER, F_w_NONNEGATIVE_INTEGER_ordinal, S_w_ISO8601_DATE, E_w_ISO8601_DATE, F_w_ISO8601_DATE_ordinal, S_w_DIGEST, E_w_DIGEST, F_w_DIGEST_ordinal, S_w_PER_TIME_STANDARD, E_w_PER_TIME_STANDARD, F_w_PER_TIME_STANDARD_ordinal, S_w_PER_COORDINATE_SYSTEM, E_w_PER_COORDINATE_SYSTEM, F_w_PER_COORDINATE_SYSTEM_ordinal, S_w_TIME_SPAN, E_w_TIME_SPAN, F_w_TIME_SPAN_ordinal⟩ := id G
  have k0 : Way p e below (s₁.setTop (entryFrame m #[(.int (9 : Int32))] 1)) s₁ (mkF m 0 #[iv (9 : Int32)] []) := fun t k => castTop (by first | (simp [entryFrame, mkF, argsToLocals, Value.category]; done) | rfl) k
  generalize s₁.setTop (entryFrame m #[(.int (9 : Int32))] 1) = S0 at k0 ⊢
  have k1 : Way p e below S0 s₁ (mkF m 89 #[iv (9 : Int32)] []) := by
    intro t k
    refine k0 t ?_
    refine XS.iloadN X0.here hx rfl (hb hby d_method_2_code_0) rfl ?_
    show Steps p.tables e below (s₁.setTop (mkF m 1 #[iv (9 : Int32)] [(.int (9 : Int32))])) _
    refine XS.ifYes X0.here hx rfl (pc0 := 1) (pc' := 8) rfl (hb hby d_method_2_code_1) rfl ((if0 _ _).trans (feq ((by decide) : ¬ ((9 : Int32) = (0 : Int32)))).2) (by decide) (by decide) ?_
    show Steps p.tables e below (s₁.setTop (mkF m 8 #[iv (9 : Int32)] [])) _
    refine XS.iloadN X0.here hx rfl (hb hby d_method_2_code_8) rfl ?_
    show Steps p.tables e below (s₁.setTop (mkF m 9 #[iv (9 : Int32)] [(.int (9 : Int32))])) _
    refine XS.iconst X0.here hx rfl (hb hby d_method_2_code_9) ?_
    show Steps p.tables e below (s₁.setTop (mkF m 10 #[iv (9 : Int32)] [(.int (1 : Int32)), (.int (9 : Int32))])) _
    refine XS.icmpYes X0.here hx rfl (pc0 := 10) (pc' := 17) rfl (hb hby d_method_2_code_10) rfl (feq ((by decide) : ¬ ((9 : Int32) = (1 : Int32)))).2 (by decide) (by decide) ?_
    show Steps p.tables e below (s₁.setTop (mkF m 17 #[iv (9 : Int32)] [])) _
    refine XS.iloadN X0.here hx rfl (hb hby d_method_2_code_17) rfl ?_
    show Steps p.tables e below (s₁.setTop (mkF m 18 #[iv (9 : Int32)] [(.int (9 : Int32))])) _
    refine XS.iconst X0.here hx rfl (hb hby d_method_2_code_18) ?_
    show Steps p.tables e below (s₁.setTop (mkF m 19 #[iv (9 : Int32)] [(.int (2 : Int32)), (.int (9 : Int32))])) _
    refine XS.icmpYes X0.here hx rfl (pc0 := 19) (pc' := 26) rfl (hb hby d_method_2_code_19) rfl (feq ((by decide) : ¬ ((9 : Int32) = (2 : Int32)))).2 (by decide) (by decide) ?_
    show Steps p.tables e below (s₁.setTop (mkF m 26 #[iv (9 : Int32)] [])) _
    refine XS.iloadN X0.here hx rfl (hb hby d_method_2_code_26) rfl ?_
    show Steps p.tables e below (s₁.setTop (mkF m 27 #[iv (9 : Int32)] [(.int (9 : Int32))])) _
    refine XS.iconst X0.here hx rfl (hb hby d_method_2_code_27) ?_
    show Steps p.tables e below (s₁.setTop (mkF m 28 #[iv (9 : Int32)] [(.int (3 : Int32)), (.int (9 : Int32))])) _
    refine XS.icmpYes X0.here hx rfl (pc0 := 28) (pc' := 35) rfl (hb hby d_method_2_code_28) rfl (feq ((by decide) : ¬ ((9 : Int32) = (3 : Int32)))).2 (by decide) (by decide) ?_
    show Steps p.tables e below (s₁.setTop (mkF m 35 #[iv (9 : Int32)] [])) _
    refine XS.iloadN X0.here hx rfl (hb hby d_method_2_code_35) rfl ?_
    show Steps p.tables e below (s₁.setTop (mkF m 36 #[iv (9 : Int32)] [(.int (9 : Int32))])) _
    refine XS.iconst X0.here hx rfl (hb hby d_method_2_code_36) ?_
    show Steps p.tables e below (s₁.setTop (mkF m 37 #[iv (9 : Int32)] [(.int (4 : Int32)), (.int (9 : Int32))])) _
    refine XS.icmpYes X0.here hx rfl (pc0 := 37) (pc' := 44) rfl (hb hby d_method_2_code_37) rfl (feq ((by decide) : ¬ ((9 : Int32) = (4 : Int32)))).2 (by decide) (by decide) ?_
    show Steps p.tables e below (s₁.setTop (mkF m 44 #[iv (9 : Int32)] [])) _
    refine XS.iloadN X0.here hx rfl (hb hby d_method_2_code_44) rfl ?_
    show Steps p.tables e below (s₁.setTop (mkF m 45 #[iv (9 : Int32)] [(.int (9 : Int32))])) _
    refine XS.iconst X0.here hx rfl (hb hby d_method_2_code_45) ?_
    show Steps p.tables e below (s₁.setTop (mkF m 46 #[iv (9 : Int32)] [(.int (5 : Int32)), (.int (9 : Int32))])) _
    refine XS.icmpYes X0.here hx rfl (pc0 := 46) (pc' := 53) rfl (hb hby d_method_2_code_46) rfl (feq ((by decide) : ¬ ((9 : Int32) = (5 : Int32)))).2 (by decide) (by decide) ?_
    show Steps p.tables e below (s₁.setTop (mkF m 53 #[iv (9 : Int32)] [])) _
    refine XS.iloadN X0.here hx rfl (hb hby d_method_2_code_53) rfl ?_
    show Steps p.tables e below (s₁.setTop (mkF m 54 #[iv (9 : Int32)] [(.int (9 : Int32))])) _
    refine XS.bipush X0.here hx rfl (hb hby d_method_2_code_54) ?_
    show Steps p.tables e below (s₁.setTop (mkF m 56 #[iv (9 : Int32)] [(.int (6 : Int32)), (.int (9 : Int32))])) _
    refine XS.icmpYes X0.here hx rfl (pc0 := 56) (pc' := 63) rfl (hb hby d_method_2_code_56) rfl (feq ((by decide) : ¬ ((9 : Int32) = (6 : Int32)))).2 (by decide) (by decide) ?_
    show Steps p.tables e below (s₁.setTop (mkF m 63 #[iv (9 : Int32)] [])) _
    refine XS.iloadN X0.here hx rfl (hb hby d_method_2_code_63) rfl ?_
    show Steps p.tables e below (s₁.setTop (mkF m 64 #[iv (9 : Int32)] [(.int (9 : Int32))])) _
    refine XS.bipush X0.here hx rfl (hb hby d_method_2_code_64) ?_
    show Steps p.tables e below (s₁.setTop (mkF m 66 #[iv (9 : Int32)] [(.int (7 : Int32)), (.int (9 : Int32))])) _
    refine XS.icmpYes X0.here hx rfl (pc0 := 66) (pc' := 73) rfl (hb hby d_method_2_code_66) rfl (feq ((by decide) : ¬ ((9 : Int32) = (7 : Int32)))).2 (by decide) (by decide) ?_
    show Steps p.tables e below (s₁.setTop (mkF m 73 #[iv (9 : Int32)] [])) _
    refine XS.iloadN X0.here hx rfl (hb hby d_method_2_code_73) rfl ?_
    show Steps p.tables e below (s₁.setTop (mkF m 74 #[iv (9 : Int32)] [(.int (9 : Int32))])) _
    refine XS.bipush X0.here hx rfl (hb hby d_method_2_code_74) ?_
    show Steps p.tables e below (s₁.setTop (mkF m 76 #[iv (9 : Int32)] [(.int (8 : Int32)), (.int (9 : Int32))])) _
    refine XS.icmpYes X0.here hx rfl (pc0 := 76) (pc' := 83) rfl (hb hby d_method_2_code_76) rfl (feq ((by decide) : ¬ ((9 : Int32) = (8 : Int32)))).2 (by decide) (by decide) ?_
    show Steps p.tables e below (s₁.setTop (mkF m 83 #[iv (9 : Int32)] [])) _
    refine XS.iloadN X0.here hx rfl (hb hby d_method_2_code_83) rfl ?_
    show Steps p.tables e below (s₁.setTop (mkF m 84 #[iv (9 : Int32)] [(.int (9 : Int32))])) _
    refine XS.bipush X0.here hx rfl (hb hby d_method_2_code_84) ?_
    show Steps p.tables e below (s₁.setTop (mkF m 86 #[iv (9 : Int32)] [(.int (9 : Int32)), (.int (9 : Int32))])) _
    refine XS.icmpNo X0.here hx rfl (hb hby d_method_2_code_86) rfl (teq ((by decide) : (9 : Int32) = (9 : Int32))).2 ?_
    show Steps p.tables e below (s₁.setTop (mkF m 89 #[iv (9 : Int32)] [])) _
    exact k
  obtain ⟨T2, X2, e2, st2⟩ := getS2 X0 hx hZ hown (host := "") (Or.inl (hw _ (List.mem_of_getElem? (i := 42) rfl))) Via.refl e0 (S_w_POSITIVE_INTEGER.ext O0.2) (g := (mkF m 89 #[iv (9 : Int32)] [])) rfl (hb hby d_method_2_code_89)
  have k3 : Way p e below S0 T2 (mkF m 92 #[iv (9 : Int32)] [(.ref w_POSITIVE_INTEGER)]) := fun t k => k1 t (st2 _ k)
  obtain ⟨fs, hr, hrun, hended, hW, hsame⟩ := X2.leave (v := some (.ref w_POSITIVE_INTEGER)) (fun h => by rw [Bd.returns] at h; cases h)
  refine ⟨_, _, k3 _ (retOut X2 hx Bd.returns rfl (Or.inr (Or.inr (Or.inr (Or.inr ⟨rfl, rfl, rfl⟩)))) (hb hby d_method_2_code_92) hr), hrun, hended, _, _, rfl, ?_, ⟨_, rfl⟩, hW, hsame.mono (by decide) (by decide)⟩
  show Q_pick9 Z w_TEXT w_COMPOSITE w_CLOSED_LIST w_LISTED w_URI w_ISO3166_1_ALPHA2 w_ISO639 w_ISO15924 w_POSITIVE_NUMBER w_POSITIVE_INTEGER w_NONNEGATIVE_INTEGER w_ISO8601_DATE w_DIGEST w_PER_TIME_STANDARD w_PER_COORDINATE_SYSTEM w_TIME_SPAN  h0 n0 _ T2.heap _
  rw [e2]
  exact ⟨rfl, N0, rfl⟩
def Q_pick10 (Z : State) (w_TEXT : Addr) (w_COMPOSITE : Addr) (w_CLOSED_LIST : Addr) (w_LISTED : Addr) (w_URI : Addr) (w_ISO3166_1_ALPHA2 : Addr) (w_ISO639 : Addr) (w_ISO15924 : Addr) (w_POSITIVE_NUMBER : Addr) (w_POSITIVE_INTEGER : Addr) (w_NONNEGATIVE_INTEGER : Addr) (w_ISO8601_DATE : Addr) (w_DIGEST : Addr) (w_PER_TIME_STANDARD : Addr) (w_PER_COORDINATE_SYSTEM : Addr) (w_TIME_SPAN : Addr)  (h0 : Heap) (n0 : Nat) (v : Option Value) (h : Heap) (L : List Loc) : Prop := (v = some (.ref w_NONNEGATIVE_INTEGER)) ∧ (Fr n0 L) ∧ (h = h0)
set_option maxRecDepth 65536 in
set_option maxHeartbeats 40000000 in
theorem pick10 (l : Launch) (Z : State) (a0 : Array Value) (hw : ∀ d ∈ tables_1, d.before a0 Z = true) (ws : List Jvm.Cond) (w_TEXT : Addr) (w_COMPOSITE : Addr) (w_CLOSED_LIST : Addr) (w_LISTED : Addr) (w_URI : Addr) (w_ISO3166_1_ALPHA2 : Addr) (w_ISO639 : Addr) (w_ISO15924 : Addr) (w_POSITIVE_NUMBER : Addr) (w_POSITIVE_INTEGER : Addr) (w_NONNEGATIVE_INTEGER : Addr) (w_ISO8601_DATE : Addr) (w_DIGEST : Addr) (w_PER_TIME_STANDARD : Addr) (w_PER_COORDINATE_SYSTEM : Addr) (w_TIME_SPAN : Addr) (G : Gst Z w_TEXT w_COMPOSITE w_CLOSED_LIST w_LISTED w_URI w_ISO3166_1_ALPHA2 w_ISO639 w_ISO15924 w_POSITIVE_NUMBER w_POSITIVE_INTEGER w_NONNEGATIVE_INTEGER w_ISO8601_DATE w_DIGEST w_PER_TIME_STANDARD w_PER_COORDINATE_SYSTEM w_TIME_SPAN)  (h0 : Heap) (n0 : Nat) (O0 : Old Z n0 h0) :
    MetFree l (⟨"gradivo/spec/ValueKindTakesFormFromPinLaw", "pick", "(I)Lgradivo/spec/ValueKind;"⟩ : MethodName) (head1 (Jvm.Cond.code (⟨"gradivo/spec/ValueKindTakesFormFromPinLaw", "pick", "(I)Lgradivo/spec/ValueKind;"⟩ : MethodName) method_2_code 1 (some (.object "gradivo/spec/ValueKind")) :: ws) ({ frames := 0, cells := 0, slots := 0, locals := 0 } : Room)) (fun a U => a = #[(.int (10 : Int32))] ∧ Z.Warmed39 U.vm ∧ U.heap = h0) (fun _ _ _ _ _ => True) (fun _ U o U' => ∃ v L, o = .returned v ∧ Q_pick10 Z w_TEXT w_COMPOSITE w_CLOSED_LIST w_LISTED w_URI w_ISO3166_1_ALPHA2 w_ISO639 w_ISO15924 w_POSITIVE_NUMBER w_POSITIVE_INTEGER w_NONNEGATIVE_INTEGER w_ISO8601_DATE w_DIGEST w_PER_TIME_STANDARD w_PER_COORDINATE_SYSTEM w_TIME_SPAN  h0 n0 v U'.heap L ∧ FrameEnd U o U' L ({ frames := 0, cells := 0, slots := 0, locals := 0 } : Room).cells ({ frames := 0, cells := 0, slots := 0, locals := 0 } : Room).slots) := by
  refine MetFree.of_bodySF (plainFor_of_name pn_0) hisR ?_
  intro p e s m args below meth c s₁ Bd hml0 hP hK
  obtain ⟨rfl, hZ, hh⟩ := hP
  have hx := Bd.exec
  have hby := Bd.bytes
  have hml : c.maxLocals = 1 := hml0
  have hown : s.vm.findClass "gradivo/spec/ValueKindTakesFormFromPinLaw" = some m.cls := findClass_of_methodNamed Bd.named
  have hnm := (name_of_methodNamed Bd.named Bd.method).1
  have X0 : Stand p l e ({ frames := 0, cells := 0, slots := 0, locals := 0 } : Room) s m #[(.int (10 : Int32))] below meth c s₁ [] 0 0 := Stand.of_body Bd
  have e0 : s₁.heap = h0 := by rw [← hh, Bd.state]; rfl
  have N0 := Fr.nil n0
  obtain ⟨S_w_TEXT, E_w_TEXT, F_w_TEXT_ordinal, S_w_COMPOSITE, E_w_COMPOSITE, F_w_COMPOSITE_ordinal, S_w_CLOSED_LIST, E_w_CLOSED_LIST, F_w_CLOSED_LIST_ordinal, S_w_LISTED, E_w_LISTED, F_w_LISTED_ordinal, S_w_URI, E_w_URI, F_w_URI_ordinal, S_w_ISO3166_1_ALPHA2, E_w_ISO3166_1_ALPHA2, F_w_ISO3166_1_ALPHA2_ordinal, S_w_ISO639, E_w_ISO639, F_w_ISO639_ordinal, S_w_ISO15924, E_w_ISO15924, F_w_ISO15924_ordinal, S_w_POSITIVE_NUMBER, E_w_POSITIVE_NUMBER, F_w_POSITIVE_NUMBER_ordinal, S_w_POSITIVE_INTEGER, E_w_POSITIVE_INTEGER, F_w_POSITIVE_INTEGER_ordinal, S_w_NONNEGATIVE_INTEGER, E_w_NONNEGATIVE_INTEGER, F_w_NONNEGATIVE_INTEGER_ordinal, S_w_ISO8601_DATE, E_w_ISO8601_DATE, F_w_ISO8601_DATE_ordinal, S_w_DIGEST, E_w_DIGEST, F_w_DIGEST_ordinal, S_w_PER_TIME_STANDARD, E_w_PER_TIME_STANDARD, F_w_PER_TIME_STANDARD_ordinal, S_w_PER_COORDINATE_SYSTEM, E_w_PER_COORDINATE_SYSTEM, F_w_PER_COORDINATE_SYSTEM_ordinal, S_w_TIME_SPAN, E_w_TIME_SPAN, F_w_TIME_SPAN_ordinal⟩ := id G
  have k0 : Way p e below (s₁.setTop (entryFrame m #[(.int (10 : Int32))] 1)) s₁ (mkF m 0 #[iv (10 : Int32)] []) := fun t k => castTop (by first | (simp [entryFrame, mkF, argsToLocals, Value.category]; done) | rfl) k
  generalize s₁.setTop (entryFrame m #[(.int (10 : Int32))] 1) = S0 at k0 ⊢
  have k1 : Way p e below S0 s₁ (mkF m 99 #[iv (10 : Int32)] []) := by
    intro t k
    refine k0 t ?_
    refine XS.iloadN X0.here hx rfl (hb hby d_method_2_code_0) rfl ?_
    show Steps p.tables e below (s₁.setTop (mkF m 1 #[iv (10 : Int32)] [(.int (10 : Int32))])) _
    refine XS.ifYes X0.here hx rfl (pc0 := 1) (pc' := 8) rfl (hb hby d_method_2_code_1) rfl ((if0 _ _).trans (feq ((by decide) : ¬ ((10 : Int32) = (0 : Int32)))).2) (by decide) (by decide) ?_
    show Steps p.tables e below (s₁.setTop (mkF m 8 #[iv (10 : Int32)] [])) _
    refine XS.iloadN X0.here hx rfl (hb hby d_method_2_code_8) rfl ?_
    show Steps p.tables e below (s₁.setTop (mkF m 9 #[iv (10 : Int32)] [(.int (10 : Int32))])) _
    refine XS.iconst X0.here hx rfl (hb hby d_method_2_code_9) ?_
    show Steps p.tables e below (s₁.setTop (mkF m 10 #[iv (10 : Int32)] [(.int (1 : Int32)), (.int (10 : Int32))])) _
    refine XS.icmpYes X0.here hx rfl (pc0 := 10) (pc' := 17) rfl (hb hby d_method_2_code_10) rfl (feq ((by decide) : ¬ ((10 : Int32) = (1 : Int32)))).2 (by decide) (by decide) ?_
    show Steps p.tables e below (s₁.setTop (mkF m 17 #[iv (10 : Int32)] [])) _
    refine XS.iloadN X0.here hx rfl (hb hby d_method_2_code_17) rfl ?_
    show Steps p.tables e below (s₁.setTop (mkF m 18 #[iv (10 : Int32)] [(.int (10 : Int32))])) _
    refine XS.iconst X0.here hx rfl (hb hby d_method_2_code_18) ?_
    show Steps p.tables e below (s₁.setTop (mkF m 19 #[iv (10 : Int32)] [(.int (2 : Int32)), (.int (10 : Int32))])) _
    refine XS.icmpYes X0.here hx rfl (pc0 := 19) (pc' := 26) rfl (hb hby d_method_2_code_19) rfl (feq ((by decide) : ¬ ((10 : Int32) = (2 : Int32)))).2 (by decide) (by decide) ?_
    show Steps p.tables e below (s₁.setTop (mkF m 26 #[iv (10 : Int32)] [])) _
    refine XS.iloadN X0.here hx rfl (hb hby d_method_2_code_26) rfl ?_
    show Steps p.tables e below (s₁.setTop (mkF m 27 #[iv (10 : Int32)] [(.int (10 : Int32))])) _
    refine XS.iconst X0.here hx rfl (hb hby d_method_2_code_27) ?_
    show Steps p.tables e below (s₁.setTop (mkF m 28 #[iv (10 : Int32)] [(.int (3 : Int32)), (.int (10 : Int32))])) _
    refine XS.icmpYes X0.here hx rfl (pc0 := 28) (pc' := 35) rfl (hb hby d_method_2_code_28) rfl (feq ((by decide) : ¬ ((10 : Int32) = (3 : Int32)))).2 (by decide) (by decide) ?_
    show Steps p.tables e below (s₁.setTop (mkF m 35 #[iv (10 : Int32)] [])) _
    refine XS.iloadN X0.here hx rfl (hb hby d_method_2_code_35) rfl ?_
    show Steps p.tables e below (s₁.setTop (mkF m 36 #[iv (10 : Int32)] [(.int (10 : Int32))])) _
    refine XS.iconst X0.here hx rfl (hb hby d_method_2_code_36) ?_
    show Steps p.tables e below (s₁.setTop (mkF m 37 #[iv (10 : Int32)] [(.int (4 : Int32)), (.int (10 : Int32))])) _
    refine XS.icmpYes X0.here hx rfl (pc0 := 37) (pc' := 44) rfl (hb hby d_method_2_code_37) rfl (feq ((by decide) : ¬ ((10 : Int32) = (4 : Int32)))).2 (by decide) (by decide) ?_
    show Steps p.tables e below (s₁.setTop (mkF m 44 #[iv (10 : Int32)] [])) _
    refine XS.iloadN X0.here hx rfl (hb hby d_method_2_code_44) rfl ?_
    show Steps p.tables e below (s₁.setTop (mkF m 45 #[iv (10 : Int32)] [(.int (10 : Int32))])) _
    refine XS.iconst X0.here hx rfl (hb hby d_method_2_code_45) ?_
    show Steps p.tables e below (s₁.setTop (mkF m 46 #[iv (10 : Int32)] [(.int (5 : Int32)), (.int (10 : Int32))])) _
    refine XS.icmpYes X0.here hx rfl (pc0 := 46) (pc' := 53) rfl (hb hby d_method_2_code_46) rfl (feq ((by decide) : ¬ ((10 : Int32) = (5 : Int32)))).2 (by decide) (by decide) ?_
    show Steps p.tables e below (s₁.setTop (mkF m 53 #[iv (10 : Int32)] [])) _
    refine XS.iloadN X0.here hx rfl (hb hby d_method_2_code_53) rfl ?_
    show Steps p.tables e below (s₁.setTop (mkF m 54 #[iv (10 : Int32)] [(.int (10 : Int32))])) _
    refine XS.bipush X0.here hx rfl (hb hby d_method_2_code_54) ?_
    show Steps p.tables e below (s₁.setTop (mkF m 56 #[iv (10 : Int32)] [(.int (6 : Int32)), (.int (10 : Int32))])) _
    refine XS.icmpYes X0.here hx rfl (pc0 := 56) (pc' := 63) rfl (hb hby d_method_2_code_56) rfl (feq ((by decide) : ¬ ((10 : Int32) = (6 : Int32)))).2 (by decide) (by decide) ?_
    show Steps p.tables e below (s₁.setTop (mkF m 63 #[iv (10 : Int32)] [])) _
    refine XS.iloadN X0.here hx rfl (hb hby d_method_2_code_63) rfl ?_
    show Steps p.tables e below (s₁.setTop (mkF m 64 #[iv (10 : Int32)] [(.int (10 : Int32))])) _
    refine XS.bipush X0.here hx rfl (hb hby d_method_2_code_64) ?_
    show Steps p.tables e below (s₁.setTop (mkF m 66 #[iv (10 : Int32)] [(.int (7 : Int32)), (.int (10 : Int32))])) _
    refine XS.icmpYes X0.here hx rfl (pc0 := 66) (pc' := 73) rfl (hb hby d_method_2_code_66) rfl (feq ((by decide) : ¬ ((10 : Int32) = (7 : Int32)))).2 (by decide) (by decide) ?_
    show Steps p.tables e below (s₁.setTop (mkF m 73 #[iv (10 : Int32)] [])) _
    refine XS.iloadN X0.here hx rfl (hb hby d_method_2_code_73) rfl ?_
    show Steps p.tables e below (s₁.setTop (mkF m 74 #[iv (10 : Int32)] [(.int (10 : Int32))])) _
    refine XS.bipush X0.here hx rfl (hb hby d_method_2_code_74) ?_
    show Steps p.tables e below (s₁.setTop (mkF m 76 #[iv (10 : Int32)] [(.int (8 : Int32)), (.int (10 : Int32))])) _
    refine XS.icmpYes X0.here hx rfl (pc0 := 76) (pc' := 83) rfl (hb hby d_method_2_code_76) rfl (feq ((by decide) : ¬ ((10 : Int32) = (8 : Int32)))).2 (by decide) (by decide) ?_
    show Steps p.tables e below (s₁.setTop (mkF m 83 #[iv (10 : Int32)] [])) _
    refine XS.iloadN X0.here hx rfl (hb hby d_method_2_code_83) rfl ?_
    show Steps p.tables e below (s₁.setTop (mkF m 84 #[iv (10 : Int32)] [(.int (10 : Int32))])) _
    refine XS.bipush X0.here hx rfl (hb hby d_method_2_code_84) ?_
    show Steps p.tables e below (s₁.setTop (mkF m 86 #[iv (10 : Int32)] [(.int (9 : Int32)), (.int (10 : Int32))])) _
    refine XS.icmpYes X0.here hx rfl (pc0 := 86) (pc' := 93) rfl (hb hby d_method_2_code_86) rfl (feq ((by decide) : ¬ ((10 : Int32) = (9 : Int32)))).2 (by decide) (by decide) ?_
    show Steps p.tables e below (s₁.setTop (mkF m 93 #[iv (10 : Int32)] [])) _
    refine XS.iloadN X0.here hx rfl (hb hby d_method_2_code_93) rfl ?_
    show Steps p.tables e below (s₁.setTop (mkF m 94 #[iv (10 : Int32)] [(.int (10 : Int32))])) _
    refine XS.bipush X0.here hx rfl (hb hby d_method_2_code_94) ?_
    show Steps p.tables e below (s₁.setTop (mkF m 96 #[iv (10 : Int32)] [(.int (10 : Int32)), (.int (10 : Int32))])) _
    refine XS.icmpNo X0.here hx rfl (hb hby d_method_2_code_96) rfl (teq ((by decide) : (10 : Int32) = (10 : Int32))).2 ?_
    show Steps p.tables e below (s₁.setTop (mkF m 99 #[iv (10 : Int32)] [])) _
    exact k
  obtain ⟨T2, X2, e2, st2⟩ := getS2 X0 hx hZ hown (host := "") (Or.inl (hw _ (List.mem_of_getElem? (i := 24) rfl))) Via.refl e0 (S_w_NONNEGATIVE_INTEGER.ext O0.2) (g := (mkF m 99 #[iv (10 : Int32)] [])) rfl (hb hby d_method_2_code_99)
  have k3 : Way p e below S0 T2 (mkF m 102 #[iv (10 : Int32)] [(.ref w_NONNEGATIVE_INTEGER)]) := fun t k => k1 t (st2 _ k)
  obtain ⟨fs, hr, hrun, hended, hW, hsame⟩ := X2.leave (v := some (.ref w_NONNEGATIVE_INTEGER)) (fun h => by rw [Bd.returns] at h; cases h)
  refine ⟨_, _, k3 _ (retOut X2 hx Bd.returns rfl (Or.inr (Or.inr (Or.inr (Or.inr ⟨rfl, rfl, rfl⟩)))) (hb hby d_method_2_code_102) hr), hrun, hended, _, _, rfl, ?_, ⟨_, rfl⟩, hW, hsame.mono (by decide) (by decide)⟩
  show Q_pick10 Z w_TEXT w_COMPOSITE w_CLOSED_LIST w_LISTED w_URI w_ISO3166_1_ALPHA2 w_ISO639 w_ISO15924 w_POSITIVE_NUMBER w_POSITIVE_INTEGER w_NONNEGATIVE_INTEGER w_ISO8601_DATE w_DIGEST w_PER_TIME_STANDARD w_PER_COORDINATE_SYSTEM w_TIME_SPAN  h0 n0 _ T2.heap _
  rw [e2]
  exact ⟨rfl, N0, rfl⟩
def Q_pick11 (Z : State) (w_TEXT : Addr) (w_COMPOSITE : Addr) (w_CLOSED_LIST : Addr) (w_LISTED : Addr) (w_URI : Addr) (w_ISO3166_1_ALPHA2 : Addr) (w_ISO639 : Addr) (w_ISO15924 : Addr) (w_POSITIVE_NUMBER : Addr) (w_POSITIVE_INTEGER : Addr) (w_NONNEGATIVE_INTEGER : Addr) (w_ISO8601_DATE : Addr) (w_DIGEST : Addr) (w_PER_TIME_STANDARD : Addr) (w_PER_COORDINATE_SYSTEM : Addr) (w_TIME_SPAN : Addr)  (h0 : Heap) (n0 : Nat) (v : Option Value) (h : Heap) (L : List Loc) : Prop := (v = some (.ref w_ISO8601_DATE)) ∧ (Fr n0 L) ∧ (h = h0)
set_option maxRecDepth 65536 in
set_option maxHeartbeats 40000000 in
theorem pick11 (l : Launch) (Z : State) (a0 : Array Value) (hw : ∀ d ∈ tables_1, d.before a0 Z = true) (ws : List Jvm.Cond) (w_TEXT : Addr) (w_COMPOSITE : Addr) (w_CLOSED_LIST : Addr) (w_LISTED : Addr) (w_URI : Addr) (w_ISO3166_1_ALPHA2 : Addr) (w_ISO639 : Addr) (w_ISO15924 : Addr) (w_POSITIVE_NUMBER : Addr) (w_POSITIVE_INTEGER : Addr) (w_NONNEGATIVE_INTEGER : Addr) (w_ISO8601_DATE : Addr) (w_DIGEST : Addr) (w_PER_TIME_STANDARD : Addr) (w_PER_COORDINATE_SYSTEM : Addr) (w_TIME_SPAN : Addr) (G : Gst Z w_TEXT w_COMPOSITE w_CLOSED_LIST w_LISTED w_URI w_ISO3166_1_ALPHA2 w_ISO639 w_ISO15924 w_POSITIVE_NUMBER w_POSITIVE_INTEGER w_NONNEGATIVE_INTEGER w_ISO8601_DATE w_DIGEST w_PER_TIME_STANDARD w_PER_COORDINATE_SYSTEM w_TIME_SPAN)  (h0 : Heap) (n0 : Nat) (O0 : Old Z n0 h0) :
    MetFree l (⟨"gradivo/spec/ValueKindTakesFormFromPinLaw", "pick", "(I)Lgradivo/spec/ValueKind;"⟩ : MethodName) (head1 (Jvm.Cond.code (⟨"gradivo/spec/ValueKindTakesFormFromPinLaw", "pick", "(I)Lgradivo/spec/ValueKind;"⟩ : MethodName) method_2_code 1 (some (.object "gradivo/spec/ValueKind")) :: ws) ({ frames := 0, cells := 0, slots := 0, locals := 0 } : Room)) (fun a U => a = #[(.int (11 : Int32))] ∧ Z.Warmed39 U.vm ∧ U.heap = h0) (fun _ _ _ _ _ => True) (fun _ U o U' => ∃ v L, o = .returned v ∧ Q_pick11 Z w_TEXT w_COMPOSITE w_CLOSED_LIST w_LISTED w_URI w_ISO3166_1_ALPHA2 w_ISO639 w_ISO15924 w_POSITIVE_NUMBER w_POSITIVE_INTEGER w_NONNEGATIVE_INTEGER w_ISO8601_DATE w_DIGEST w_PER_TIME_STANDARD w_PER_COORDINATE_SYSTEM w_TIME_SPAN  h0 n0 v U'.heap L ∧ FrameEnd U o U' L ({ frames := 0, cells := 0, slots := 0, locals := 0 } : Room).cells ({ frames := 0, cells := 0, slots := 0, locals := 0 } : Room).slots) := by
  refine MetFree.of_bodySF (plainFor_of_name pn_0) hisR ?_
  intro p e s m args below meth c s₁ Bd hml0 hP hK
  obtain ⟨rfl, hZ, hh⟩ := hP
  have hx := Bd.exec
  have hby := Bd.bytes
  have hml : c.maxLocals = 1 := hml0
  have hown : s.vm.findClass "gradivo/spec/ValueKindTakesFormFromPinLaw" = some m.cls := findClass_of_methodNamed Bd.named
  have hnm := (name_of_methodNamed Bd.named Bd.method).1
  have X0 : Stand p l e ({ frames := 0, cells := 0, slots := 0, locals := 0 } : Room) s m #[(.int (11 : Int32))] below meth c s₁ [] 0 0 := Stand.of_body Bd
  have e0 : s₁.heap = h0 := by rw [← hh, Bd.state]; rfl
  have N0 := Fr.nil n0
  obtain ⟨S_w_TEXT, E_w_TEXT, F_w_TEXT_ordinal, S_w_COMPOSITE, E_w_COMPOSITE, F_w_COMPOSITE_ordinal, S_w_CLOSED_LIST, E_w_CLOSED_LIST, F_w_CLOSED_LIST_ordinal, S_w_LISTED, E_w_LISTED, F_w_LISTED_ordinal, S_w_URI, E_w_URI, F_w_URI_ordinal, S_w_ISO3166_1_ALPHA2, E_w_ISO3166_1_ALPHA2, F_w_ISO3166_1_ALPHA2_ordinal, S_w_ISO639, E_w_ISO639, F_w_ISO639_ordinal, S_w_ISO15924, E_w_ISO15924, F_w_ISO15924_ordinal, S_w_POSITIVE_NUMBER, E_w_POSITIVE_NUMBER, F_w_POSITIVE_NUMBER_ordinal, S_w_POSITIVE_INTEGER, E_w_POSITIVE_INTEGER, F_w_POSITIVE_INTEGER_ordinal, S_w_NONNEGATIVE_INTEGER, E_w_NONNEGATIVE_INTEGER, F_w_NONNEGATIVE_INTEGER_ordinal, S_w_ISO8601_DATE, E_w_ISO8601_DATE, F_w_ISO8601_DATE_ordinal, S_w_DIGEST, E_w_DIGEST, F_w_DIGEST_ordinal, S_w_PER_TIME_STANDARD, E_w_PER_TIME_STANDARD, F_w_PER_TIME_STANDARD_ordinal, S_w_PER_COORDINATE_SYSTEM, E_w_PER_COORDINATE_SYSTEM, F_w_PER_COORDINATE_SYSTEM_ordinal, S_w_TIME_SPAN, E_w_TIME_SPAN, F_w_TIME_SPAN_ordinal⟩ := id G
  have k0 : Way p e below (s₁.setTop (entryFrame m #[(.int (11 : Int32))] 1)) s₁ (mkF m 0 #[iv (11 : Int32)] []) := fun t k => castTop (by first | (simp [entryFrame, mkF, argsToLocals, Value.category]; done) | rfl) k
  generalize s₁.setTop (entryFrame m #[(.int (11 : Int32))] 1) = S0 at k0 ⊢
  have k1 : Way p e below S0 s₁ (mkF m 109 #[iv (11 : Int32)] []) := by
    intro t k
    refine k0 t ?_
    refine XS.iloadN X0.here hx rfl (hb hby d_method_2_code_0) rfl ?_
    show Steps p.tables e below (s₁.setTop (mkF m 1 #[iv (11 : Int32)] [(.int (11 : Int32))])) _
    refine XS.ifYes X0.here hx rfl (pc0 := 1) (pc' := 8) rfl (hb hby d_method_2_code_1) rfl ((if0 _ _).trans (feq ((by decide) : ¬ ((11 : Int32) = (0 : Int32)))).2) (by decide) (by decide) ?_
    show Steps p.tables e below (s₁.setTop (mkF m 8 #[iv (11 : Int32)] [])) _
    refine XS.iloadN X0.here hx rfl (hb hby d_method_2_code_8) rfl ?_
    show Steps p.tables e below (s₁.setTop (mkF m 9 #[iv (11 : Int32)] [(.int (11 : Int32))])) _
    refine XS.iconst X0.here hx rfl (hb hby d_method_2_code_9) ?_
    show Steps p.tables e below (s₁.setTop (mkF m 10 #[iv (11 : Int32)] [(.int (1 : Int32)), (.int (11 : Int32))])) _
    refine XS.icmpYes X0.here hx rfl (pc0 := 10) (pc' := 17) rfl (hb hby d_method_2_code_10) rfl (feq ((by decide) : ¬ ((11 : Int32) = (1 : Int32)))).2 (by decide) (by decide) ?_
    show Steps p.tables e below (s₁.setTop (mkF m 17 #[iv (11 : Int32)] [])) _
    refine XS.iloadN X0.here hx rfl (hb hby d_method_2_code_17) rfl ?_
    show Steps p.tables e below (s₁.setTop (mkF m 18 #[iv (11 : Int32)] [(.int (11 : Int32))])) _
    refine XS.iconst X0.here hx rfl (hb hby d_method_2_code_18) ?_
    show Steps p.tables e below (s₁.setTop (mkF m 19 #[iv (11 : Int32)] [(.int (2 : Int32)), (.int (11 : Int32))])) _
    refine XS.icmpYes X0.here hx rfl (pc0 := 19) (pc' := 26) rfl (hb hby d_method_2_code_19) rfl (feq ((by decide) : ¬ ((11 : Int32) = (2 : Int32)))).2 (by decide) (by decide) ?_
    show Steps p.tables e below (s₁.setTop (mkF m 26 #[iv (11 : Int32)] [])) _
    refine XS.iloadN X0.here hx rfl (hb hby d_method_2_code_26) rfl ?_
    show Steps p.tables e below (s₁.setTop (mkF m 27 #[iv (11 : Int32)] [(.int (11 : Int32))])) _
    refine XS.iconst X0.here hx rfl (hb hby d_method_2_code_27) ?_
    show Steps p.tables e below (s₁.setTop (mkF m 28 #[iv (11 : Int32)] [(.int (3 : Int32)), (.int (11 : Int32))])) _
    refine XS.icmpYes X0.here hx rfl (pc0 := 28) (pc' := 35) rfl (hb hby d_method_2_code_28) rfl (feq ((by decide) : ¬ ((11 : Int32) = (3 : Int32)))).2 (by decide) (by decide) ?_
    show Steps p.tables e below (s₁.setTop (mkF m 35 #[iv (11 : Int32)] [])) _
    refine XS.iloadN X0.here hx rfl (hb hby d_method_2_code_35) rfl ?_
    show Steps p.tables e below (s₁.setTop (mkF m 36 #[iv (11 : Int32)] [(.int (11 : Int32))])) _
    refine XS.iconst X0.here hx rfl (hb hby d_method_2_code_36) ?_
    show Steps p.tables e below (s₁.setTop (mkF m 37 #[iv (11 : Int32)] [(.int (4 : Int32)), (.int (11 : Int32))])) _
    refine XS.icmpYes X0.here hx rfl (pc0 := 37) (pc' := 44) rfl (hb hby d_method_2_code_37) rfl (feq ((by decide) : ¬ ((11 : Int32) = (4 : Int32)))).2 (by decide) (by decide) ?_
    show Steps p.tables e below (s₁.setTop (mkF m 44 #[iv (11 : Int32)] [])) _
    refine XS.iloadN X0.here hx rfl (hb hby d_method_2_code_44) rfl ?_
    show Steps p.tables e below (s₁.setTop (mkF m 45 #[iv (11 : Int32)] [(.int (11 : Int32))])) _
    refine XS.iconst X0.here hx rfl (hb hby d_method_2_code_45) ?_
    show Steps p.tables e below (s₁.setTop (mkF m 46 #[iv (11 : Int32)] [(.int (5 : Int32)), (.int (11 : Int32))])) _
    refine XS.icmpYes X0.here hx rfl (pc0 := 46) (pc' := 53) rfl (hb hby d_method_2_code_46) rfl (feq ((by decide) : ¬ ((11 : Int32) = (5 : Int32)))).2 (by decide) (by decide) ?_
    show Steps p.tables e below (s₁.setTop (mkF m 53 #[iv (11 : Int32)] [])) _
    refine XS.iloadN X0.here hx rfl (hb hby d_method_2_code_53) rfl ?_
    show Steps p.tables e below (s₁.setTop (mkF m 54 #[iv (11 : Int32)] [(.int (11 : Int32))])) _
    refine XS.bipush X0.here hx rfl (hb hby d_method_2_code_54) ?_
    show Steps p.tables e below (s₁.setTop (mkF m 56 #[iv (11 : Int32)] [(.int (6 : Int32)), (.int (11 : Int32))])) _
    refine XS.icmpYes X0.here hx rfl (pc0 := 56) (pc' := 63) rfl (hb hby d_method_2_code_56) rfl (feq ((by decide) : ¬ ((11 : Int32) = (6 : Int32)))).2 (by decide) (by decide) ?_
    show Steps p.tables e below (s₁.setTop (mkF m 63 #[iv (11 : Int32)] [])) _
    refine XS.iloadN X0.here hx rfl (hb hby d_method_2_code_63) rfl ?_
    show Steps p.tables e below (s₁.setTop (mkF m 64 #[iv (11 : Int32)] [(.int (11 : Int32))])) _
    refine XS.bipush X0.here hx rfl (hb hby d_method_2_code_64) ?_
    show Steps p.tables e below (s₁.setTop (mkF m 66 #[iv (11 : Int32)] [(.int (7 : Int32)), (.int (11 : Int32))])) _
    refine XS.icmpYes X0.here hx rfl (pc0 := 66) (pc' := 73) rfl (hb hby d_method_2_code_66) rfl (feq ((by decide) : ¬ ((11 : Int32) = (7 : Int32)))).2 (by decide) (by decide) ?_
    show Steps p.tables e below (s₁.setTop (mkF m 73 #[iv (11 : Int32)] [])) _
    refine XS.iloadN X0.here hx rfl (hb hby d_method_2_code_73) rfl ?_
    show Steps p.tables e below (s₁.setTop (mkF m 74 #[iv (11 : Int32)] [(.int (11 : Int32))])) _
    refine XS.bipush X0.here hx rfl (hb hby d_method_2_code_74) ?_
    show Steps p.tables e below (s₁.setTop (mkF m 76 #[iv (11 : Int32)] [(.int (8 : Int32)), (.int (11 : Int32))])) _
    refine XS.icmpYes X0.here hx rfl (pc0 := 76) (pc' := 83) rfl (hb hby d_method_2_code_76) rfl (feq ((by decide) : ¬ ((11 : Int32) = (8 : Int32)))).2 (by decide) (by decide) ?_
    show Steps p.tables e below (s₁.setTop (mkF m 83 #[iv (11 : Int32)] [])) _
    refine XS.iloadN X0.here hx rfl (hb hby d_method_2_code_83) rfl ?_
    show Steps p.tables e below (s₁.setTop (mkF m 84 #[iv (11 : Int32)] [(.int (11 : Int32))])) _
    refine XS.bipush X0.here hx rfl (hb hby d_method_2_code_84) ?_
    show Steps p.tables e below (s₁.setTop (mkF m 86 #[iv (11 : Int32)] [(.int (9 : Int32)), (.int (11 : Int32))])) _
    refine XS.icmpYes X0.here hx rfl (pc0 := 86) (pc' := 93) rfl (hb hby d_method_2_code_86) rfl (feq ((by decide) : ¬ ((11 : Int32) = (9 : Int32)))).2 (by decide) (by decide) ?_
    show Steps p.tables e below (s₁.setTop (mkF m 93 #[iv (11 : Int32)] [])) _
    refine XS.iloadN X0.here hx rfl (hb hby d_method_2_code_93) rfl ?_
    show Steps p.tables e below (s₁.setTop (mkF m 94 #[iv (11 : Int32)] [(.int (11 : Int32))])) _
    refine XS.bipush X0.here hx rfl (hb hby d_method_2_code_94) ?_
    show Steps p.tables e below (s₁.setTop (mkF m 96 #[iv (11 : Int32)] [(.int (10 : Int32)), (.int (11 : Int32))])) _
    refine XS.icmpYes X0.here hx rfl (pc0 := 96) (pc' := 103) rfl (hb hby d_method_2_code_96) rfl (feq ((by decide) : ¬ ((11 : Int32) = (10 : Int32)))).2 (by decide) (by decide) ?_
    show Steps p.tables e below (s₁.setTop (mkF m 103 #[iv (11 : Int32)] [])) _
    refine XS.iloadN X0.here hx rfl (hb hby d_method_2_code_103) rfl ?_
    show Steps p.tables e below (s₁.setTop (mkF m 104 #[iv (11 : Int32)] [(.int (11 : Int32))])) _
    refine XS.bipush X0.here hx rfl (hb hby d_method_2_code_104) ?_
    show Steps p.tables e below (s₁.setTop (mkF m 106 #[iv (11 : Int32)] [(.int (11 : Int32)), (.int (11 : Int32))])) _
    refine XS.icmpNo X0.here hx rfl (hb hby d_method_2_code_106) rfl (teq ((by decide) : (11 : Int32) = (11 : Int32))).2 ?_
    show Steps p.tables e below (s₁.setTop (mkF m 109 #[iv (11 : Int32)] [])) _
    exact k
  obtain ⟨T2, X2, e2, st2⟩ := getS2 X0 hx hZ hown (host := "") (Or.inl (hw _ (List.mem_of_getElem? (i := 30) rfl))) Via.refl e0 (S_w_ISO8601_DATE.ext O0.2) (g := (mkF m 109 #[iv (11 : Int32)] [])) rfl (hb hby d_method_2_code_109)
  have k3 : Way p e below S0 T2 (mkF m 112 #[iv (11 : Int32)] [(.ref w_ISO8601_DATE)]) := fun t k => k1 t (st2 _ k)
  obtain ⟨fs, hr, hrun, hended, hW, hsame⟩ := X2.leave (v := some (.ref w_ISO8601_DATE)) (fun h => by rw [Bd.returns] at h; cases h)
  refine ⟨_, _, k3 _ (retOut X2 hx Bd.returns rfl (Or.inr (Or.inr (Or.inr (Or.inr ⟨rfl, rfl, rfl⟩)))) (hb hby d_method_2_code_112) hr), hrun, hended, _, _, rfl, ?_, ⟨_, rfl⟩, hW, hsame.mono (by decide) (by decide)⟩
  show Q_pick11 Z w_TEXT w_COMPOSITE w_CLOSED_LIST w_LISTED w_URI w_ISO3166_1_ALPHA2 w_ISO639 w_ISO15924 w_POSITIVE_NUMBER w_POSITIVE_INTEGER w_NONNEGATIVE_INTEGER w_ISO8601_DATE w_DIGEST w_PER_TIME_STANDARD w_PER_COORDINATE_SYSTEM w_TIME_SPAN  h0 n0 _ T2.heap _
  rw [e2]
  exact ⟨rfl, N0, rfl⟩
def Q_pick12 (Z : State) (w_TEXT : Addr) (w_COMPOSITE : Addr) (w_CLOSED_LIST : Addr) (w_LISTED : Addr) (w_URI : Addr) (w_ISO3166_1_ALPHA2 : Addr) (w_ISO639 : Addr) (w_ISO15924 : Addr) (w_POSITIVE_NUMBER : Addr) (w_POSITIVE_INTEGER : Addr) (w_NONNEGATIVE_INTEGER : Addr) (w_ISO8601_DATE : Addr) (w_DIGEST : Addr) (w_PER_TIME_STANDARD : Addr) (w_PER_COORDINATE_SYSTEM : Addr) (w_TIME_SPAN : Addr)  (h0 : Heap) (n0 : Nat) (v : Option Value) (h : Heap) (L : List Loc) : Prop := (v = some (.ref w_DIGEST)) ∧ (Fr n0 L) ∧ (h = h0)
set_option maxRecDepth 65536 in
set_option maxHeartbeats 40000000 in
theorem pick12 (l : Launch) (Z : State) (a0 : Array Value) (hw : ∀ d ∈ tables_1, d.before a0 Z = true) (ws : List Jvm.Cond) (w_TEXT : Addr) (w_COMPOSITE : Addr) (w_CLOSED_LIST : Addr) (w_LISTED : Addr) (w_URI : Addr) (w_ISO3166_1_ALPHA2 : Addr) (w_ISO639 : Addr) (w_ISO15924 : Addr) (w_POSITIVE_NUMBER : Addr) (w_POSITIVE_INTEGER : Addr) (w_NONNEGATIVE_INTEGER : Addr) (w_ISO8601_DATE : Addr) (w_DIGEST : Addr) (w_PER_TIME_STANDARD : Addr) (w_PER_COORDINATE_SYSTEM : Addr) (w_TIME_SPAN : Addr) (G : Gst Z w_TEXT w_COMPOSITE w_CLOSED_LIST w_LISTED w_URI w_ISO3166_1_ALPHA2 w_ISO639 w_ISO15924 w_POSITIVE_NUMBER w_POSITIVE_INTEGER w_NONNEGATIVE_INTEGER w_ISO8601_DATE w_DIGEST w_PER_TIME_STANDARD w_PER_COORDINATE_SYSTEM w_TIME_SPAN)  (h0 : Heap) (n0 : Nat) (O0 : Old Z n0 h0) :
    MetFree l (⟨"gradivo/spec/ValueKindTakesFormFromPinLaw", "pick", "(I)Lgradivo/spec/ValueKind;"⟩ : MethodName) (head1 (Jvm.Cond.code (⟨"gradivo/spec/ValueKindTakesFormFromPinLaw", "pick", "(I)Lgradivo/spec/ValueKind;"⟩ : MethodName) method_2_code 1 (some (.object "gradivo/spec/ValueKind")) :: ws) ({ frames := 0, cells := 0, slots := 0, locals := 0 } : Room)) (fun a U => a = #[(.int (12 : Int32))] ∧ Z.Warmed39 U.vm ∧ U.heap = h0) (fun _ _ _ _ _ => True) (fun _ U o U' => ∃ v L, o = .returned v ∧ Q_pick12 Z w_TEXT w_COMPOSITE w_CLOSED_LIST w_LISTED w_URI w_ISO3166_1_ALPHA2 w_ISO639 w_ISO15924 w_POSITIVE_NUMBER w_POSITIVE_INTEGER w_NONNEGATIVE_INTEGER w_ISO8601_DATE w_DIGEST w_PER_TIME_STANDARD w_PER_COORDINATE_SYSTEM w_TIME_SPAN  h0 n0 v U'.heap L ∧ FrameEnd U o U' L ({ frames := 0, cells := 0, slots := 0, locals := 0 } : Room).cells ({ frames := 0, cells := 0, slots := 0, locals := 0 } : Room).slots) := by
  refine MetFree.of_bodySF (plainFor_of_name pn_0) hisR ?_
  intro p e s m args below meth c s₁ Bd hml0 hP hK
  obtain ⟨rfl, hZ, hh⟩ := hP
  have hx := Bd.exec
  have hby := Bd.bytes
  have hml : c.maxLocals = 1 := hml0
  have hown : s.vm.findClass "gradivo/spec/ValueKindTakesFormFromPinLaw" = some m.cls := findClass_of_methodNamed Bd.named
  have hnm := (name_of_methodNamed Bd.named Bd.method).1
  have X0 : Stand p l e ({ frames := 0, cells := 0, slots := 0, locals := 0 } : Room) s m #[(.int (12 : Int32))] below meth c s₁ [] 0 0 := Stand.of_body Bd
  have e0 : s₁.heap = h0 := by rw [← hh, Bd.state]; rfl
  have N0 := Fr.nil n0
  obtain ⟨S_w_TEXT, E_w_TEXT, F_w_TEXT_ordinal, S_w_COMPOSITE, E_w_COMPOSITE, F_w_COMPOSITE_ordinal, S_w_CLOSED_LIST, E_w_CLOSED_LIST, F_w_CLOSED_LIST_ordinal, S_w_LISTED, E_w_LISTED, F_w_LISTED_ordinal, S_w_URI, E_w_URI, F_w_URI_ordinal, S_w_ISO3166_1_ALPHA2, E_w_ISO3166_1_ALPHA2, F_w_ISO3166_1_ALPHA2_ordinal, S_w_ISO639, E_w_ISO639, F_w_ISO639_ordinal, S_w_ISO15924, E_w_ISO15924, F_w_ISO15924_ordinal, S_w_POSITIVE_NUMBER, E_w_POSITIVE_NUMBER, F_w_POSITIVE_NUMBER_ordinal, S_w_POSITIVE_INTEGER, E_w_POSITIVE_INTEGER, F_w_POSITIVE_INTEGER_ordinal, S_w_NONNEGATIVE_INTEGER, E_w_NONNEGATIVE_INTEGER, F_w_NONNEGATIVE_INTEGER_ordinal, S_w_ISO8601_DATE, E_w_ISO8601_DATE, F_w_ISO8601_DATE_ordinal, S_w_DIGEST, E_w_DIGEST, F_w_DIGEST_ordinal, S_w_PER_TIME_STANDARD, E_w_PER_TIME_STANDARD, F_w_PER_TIME_STANDARD_ordinal, S_w_PER_COORDINATE_SYSTEM, E_w_PER_COORDINATE_SYSTEM, F_w_PER_COORDINATE_SYSTEM_ordinal, S_w_TIME_SPAN, E_w_TIME_SPAN, F_w_TIME_SPAN_ordinal⟩ := id G
  have k0 : Way p e below (s₁.setTop (entryFrame m #[(.int (12 : Int32))] 1)) s₁ (mkF m 0 #[iv (12 : Int32)] []) := fun t k => castTop (by first | (simp [entryFrame, mkF, argsToLocals, Value.category]; done) | rfl) k
  generalize s₁.setTop (entryFrame m #[(.int (12 : Int32))] 1) = S0 at k0 ⊢
  have k1 : Way p e below S0 s₁ (mkF m 119 #[iv (12 : Int32)] []) := by
    intro t k
    refine k0 t ?_
    refine XS.iloadN X0.here hx rfl (hb hby d_method_2_code_0) rfl ?_
    show Steps p.tables e below (s₁.setTop (mkF m 1 #[iv (12 : Int32)] [(.int (12 : Int32))])) _
    refine XS.ifYes X0.here hx rfl (pc0 := 1) (pc' := 8) rfl (hb hby d_method_2_code_1) rfl ((if0 _ _).trans (feq ((by decide) : ¬ ((12 : Int32) = (0 : Int32)))).2) (by decide) (by decide) ?_
    show Steps p.tables e below (s₁.setTop (mkF m 8 #[iv (12 : Int32)] [])) _
    refine XS.iloadN X0.here hx rfl (hb hby d_method_2_code_8) rfl ?_
    show Steps p.tables e below (s₁.setTop (mkF m 9 #[iv (12 : Int32)] [(.int (12 : Int32))])) _
    refine XS.iconst X0.here hx rfl (hb hby d_method_2_code_9) ?_
    show Steps p.tables e below (s₁.setTop (mkF m 10 #[iv (12 : Int32)] [(.int (1 : Int32)), (.int (12 : Int32))])) _
    refine XS.icmpYes X0.here hx rfl (pc0 := 10) (pc' := 17) rfl (hb hby d_method_2_code_10) rfl (feq ((by decide) : ¬ ((12 : Int32) = (1 : Int32)))).2 (by decide) (by decide) ?_
    show Steps p.tables e below (s₁.setTop (mkF m 17 #[iv (12 : Int32)] [])) _
    refine XS.iloadN X0.here hx rfl (hb hby d_method_2_code_17) rfl ?_
    show Steps p.tables e below (s₁.setTop (mkF m 18 #[iv (12 : Int32)] [(.int (12 : Int32))])) _
    refine XS.iconst X0.here hx rfl (hb hby d_method_2_code_18) ?_
    show Steps p.tables e below (s₁.setTop (mkF m 19 #[iv (12 : Int32)] [(.int (2 : Int32)), (.int (12 : Int32))])) _
    refine XS.icmpYes X0.here hx rfl (pc0 := 19) (pc' := 26) rfl (hb hby d_method_2_code_19) rfl (feq ((by decide) : ¬ ((12 : Int32) = (2 : Int32)))).2 (by decide) (by decide) ?_
    show Steps p.tables e below (s₁.setTop (mkF m 26 #[iv (12 : Int32)] [])) _
    refine XS.iloadN X0.here hx rfl (hb hby d_method_2_code_26) rfl ?_
    show Steps p.tables e below (s₁.setTop (mkF m 27 #[iv (12 : Int32)] [(.int (12 : Int32))])) _
    refine XS.iconst X0.here hx rfl (hb hby d_method_2_code_27) ?_
    show Steps p.tables e below (s₁.setTop (mkF m 28 #[iv (12 : Int32)] [(.int (3 : Int32)), (.int (12 : Int32))])) _
    refine XS.icmpYes X0.here hx rfl (pc0 := 28) (pc' := 35) rfl (hb hby d_method_2_code_28) rfl (feq ((by decide) : ¬ ((12 : Int32) = (3 : Int32)))).2 (by decide) (by decide) ?_
    show Steps p.tables e below (s₁.setTop (mkF m 35 #[iv (12 : Int32)] [])) _
    refine XS.iloadN X0.here hx rfl (hb hby d_method_2_code_35) rfl ?_
    show Steps p.tables e below (s₁.setTop (mkF m 36 #[iv (12 : Int32)] [(.int (12 : Int32))])) _
    refine XS.iconst X0.here hx rfl (hb hby d_method_2_code_36) ?_
    show Steps p.tables e below (s₁.setTop (mkF m 37 #[iv (12 : Int32)] [(.int (4 : Int32)), (.int (12 : Int32))])) _
    refine XS.icmpYes X0.here hx rfl (pc0 := 37) (pc' := 44) rfl (hb hby d_method_2_code_37) rfl (feq ((by decide) : ¬ ((12 : Int32) = (4 : Int32)))).2 (by decide) (by decide) ?_
    show Steps p.tables e below (s₁.setTop (mkF m 44 #[iv (12 : Int32)] [])) _
    refine XS.iloadN X0.here hx rfl (hb hby d_method_2_code_44) rfl ?_
    show Steps p.tables e below (s₁.setTop (mkF m 45 #[iv (12 : Int32)] [(.int (12 : Int32))])) _
    refine XS.iconst X0.here hx rfl (hb hby d_method_2_code_45) ?_
    show Steps p.tables e below (s₁.setTop (mkF m 46 #[iv (12 : Int32)] [(.int (5 : Int32)), (.int (12 : Int32))])) _
    refine XS.icmpYes X0.here hx rfl (pc0 := 46) (pc' := 53) rfl (hb hby d_method_2_code_46) rfl (feq ((by decide) : ¬ ((12 : Int32) = (5 : Int32)))).2 (by decide) (by decide) ?_
    show Steps p.tables e below (s₁.setTop (mkF m 53 #[iv (12 : Int32)] [])) _
    refine XS.iloadN X0.here hx rfl (hb hby d_method_2_code_53) rfl ?_
    show Steps p.tables e below (s₁.setTop (mkF m 54 #[iv (12 : Int32)] [(.int (12 : Int32))])) _
    refine XS.bipush X0.here hx rfl (hb hby d_method_2_code_54) ?_
    show Steps p.tables e below (s₁.setTop (mkF m 56 #[iv (12 : Int32)] [(.int (6 : Int32)), (.int (12 : Int32))])) _
    refine XS.icmpYes X0.here hx rfl (pc0 := 56) (pc' := 63) rfl (hb hby d_method_2_code_56) rfl (feq ((by decide) : ¬ ((12 : Int32) = (6 : Int32)))).2 (by decide) (by decide) ?_
    show Steps p.tables e below (s₁.setTop (mkF m 63 #[iv (12 : Int32)] [])) _
    refine XS.iloadN X0.here hx rfl (hb hby d_method_2_code_63) rfl ?_
    show Steps p.tables e below (s₁.setTop (mkF m 64 #[iv (12 : Int32)] [(.int (12 : Int32))])) _
    refine XS.bipush X0.here hx rfl (hb hby d_method_2_code_64) ?_
    show Steps p.tables e below (s₁.setTop (mkF m 66 #[iv (12 : Int32)] [(.int (7 : Int32)), (.int (12 : Int32))])) _
    refine XS.icmpYes X0.here hx rfl (pc0 := 66) (pc' := 73) rfl (hb hby d_method_2_code_66) rfl (feq ((by decide) : ¬ ((12 : Int32) = (7 : Int32)))).2 (by decide) (by decide) ?_
    show Steps p.tables e below (s₁.setTop (mkF m 73 #[iv (12 : Int32)] [])) _
    refine XS.iloadN X0.here hx rfl (hb hby d_method_2_code_73) rfl ?_
    show Steps p.tables e below (s₁.setTop (mkF m 74 #[iv (12 : Int32)] [(.int (12 : Int32))])) _
    refine XS.bipush X0.here hx rfl (hb hby d_method_2_code_74) ?_
    show Steps p.tables e below (s₁.setTop (mkF m 76 #[iv (12 : Int32)] [(.int (8 : Int32)), (.int (12 : Int32))])) _
    refine XS.icmpYes X0.here hx rfl (pc0 := 76) (pc' := 83) rfl (hb hby d_method_2_code_76) rfl (feq ((by decide) : ¬ ((12 : Int32) = (8 : Int32)))).2 (by decide) (by decide) ?_
    show Steps p.tables e below (s₁.setTop (mkF m 83 #[iv (12 : Int32)] [])) _
    refine XS.iloadN X0.here hx rfl (hb hby d_method_2_code_83) rfl ?_
    show Steps p.tables e below (s₁.setTop (mkF m 84 #[iv (12 : Int32)] [(.int (12 : Int32))])) _
    refine XS.bipush X0.here hx rfl (hb hby d_method_2_code_84) ?_
    show Steps p.tables e below (s₁.setTop (mkF m 86 #[iv (12 : Int32)] [(.int (9 : Int32)), (.int (12 : Int32))])) _
    refine XS.icmpYes X0.here hx rfl (pc0 := 86) (pc' := 93) rfl (hb hby d_method_2_code_86) rfl (feq ((by decide) : ¬ ((12 : Int32) = (9 : Int32)))).2 (by decide) (by decide) ?_
    show Steps p.tables e below (s₁.setTop (mkF m 93 #[iv (12 : Int32)] [])) _
    refine XS.iloadN X0.here hx rfl (hb hby d_method_2_code_93) rfl ?_
    show Steps p.tables e below (s₁.setTop (mkF m 94 #[iv (12 : Int32)] [(.int (12 : Int32))])) _
    refine XS.bipush X0.here hx rfl (hb hby d_method_2_code_94) ?_
    show Steps p.tables e below (s₁.setTop (mkF m 96 #[iv (12 : Int32)] [(.int (10 : Int32)), (.int (12 : Int32))])) _
    refine XS.icmpYes X0.here hx rfl (pc0 := 96) (pc' := 103) rfl (hb hby d_method_2_code_96) rfl (feq ((by decide) : ¬ ((12 : Int32) = (10 : Int32)))).2 (by decide) (by decide) ?_
    show Steps p.tables e below (s₁.setTop (mkF m 103 #[iv (12 : Int32)] [])) _
    refine XS.iloadN X0.here hx rfl (hb hby d_method_2_code_103) rfl ?_
    show Steps p.tables e below (s₁.setTop (mkF m 104 #[iv (12 : Int32)] [(.int (12 : Int32))])) _
    refine XS.bipush X0.here hx rfl (hb hby d_method_2_code_104) ?_
    show Steps p.tables e below (s₁.setTop (mkF m 106 #[iv (12 : Int32)] [(.int (11 : Int32)), (.int (12 : Int32))])) _
    refine XS.icmpYes X0.here hx rfl (pc0 := 106) (pc' := 113) rfl (hb hby d_method_2_code_106) rfl (feq ((by decide) : ¬ ((12 : Int32) = (11 : Int32)))).2 (by decide) (by decide) ?_
    show Steps p.tables e below (s₁.setTop (mkF m 113 #[iv (12 : Int32)] [])) _
    refine XS.iloadN X0.here hx rfl (hb hby d_method_2_code_113) rfl ?_
    show Steps p.tables e below (s₁.setTop (mkF m 114 #[iv (12 : Int32)] [(.int (12 : Int32))])) _
    refine XS.bipush X0.here hx rfl (hb hby d_method_2_code_114) ?_
    show Steps p.tables e below (s₁.setTop (mkF m 116 #[iv (12 : Int32)] [(.int (12 : Int32)), (.int (12 : Int32))])) _
    refine XS.icmpNo X0.here hx rfl (hb hby d_method_2_code_116) rfl (teq ((by decide) : (12 : Int32) = (12 : Int32))).2 ?_
    show Steps p.tables e below (s₁.setTop (mkF m 119 #[iv (12 : Int32)] [])) _
    exact k
  obtain ⟨T2, X2, e2, st2⟩ := getS2 X0 hx hZ hown (host := "") (Or.inl (hw _ (List.mem_of_getElem? (i := 38) rfl))) Via.refl e0 (S_w_DIGEST.ext O0.2) (g := (mkF m 119 #[iv (12 : Int32)] [])) rfl (hb hby d_method_2_code_119)
  have k3 : Way p e below S0 T2 (mkF m 122 #[iv (12 : Int32)] [(.ref w_DIGEST)]) := fun t k => k1 t (st2 _ k)
  obtain ⟨fs, hr, hrun, hended, hW, hsame⟩ := X2.leave (v := some (.ref w_DIGEST)) (fun h => by rw [Bd.returns] at h; cases h)
  refine ⟨_, _, k3 _ (retOut X2 hx Bd.returns rfl (Or.inr (Or.inr (Or.inr (Or.inr ⟨rfl, rfl, rfl⟩)))) (hb hby d_method_2_code_122) hr), hrun, hended, _, _, rfl, ?_, ⟨_, rfl⟩, hW, hsame.mono (by decide) (by decide)⟩
  show Q_pick12 Z w_TEXT w_COMPOSITE w_CLOSED_LIST w_LISTED w_URI w_ISO3166_1_ALPHA2 w_ISO639 w_ISO15924 w_POSITIVE_NUMBER w_POSITIVE_INTEGER w_NONNEGATIVE_INTEGER w_ISO8601_DATE w_DIGEST w_PER_TIME_STANDARD w_PER_COORDINATE_SYSTEM w_TIME_SPAN  h0 n0 _ T2.heap _
  rw [e2]
  exact ⟨rfl, N0, rfl⟩
def Q_pick13 (Z : State) (w_TEXT : Addr) (w_COMPOSITE : Addr) (w_CLOSED_LIST : Addr) (w_LISTED : Addr) (w_URI : Addr) (w_ISO3166_1_ALPHA2 : Addr) (w_ISO639 : Addr) (w_ISO15924 : Addr) (w_POSITIVE_NUMBER : Addr) (w_POSITIVE_INTEGER : Addr) (w_NONNEGATIVE_INTEGER : Addr) (w_ISO8601_DATE : Addr) (w_DIGEST : Addr) (w_PER_TIME_STANDARD : Addr) (w_PER_COORDINATE_SYSTEM : Addr) (w_TIME_SPAN : Addr)  (h0 : Heap) (n0 : Nat) (v : Option Value) (h : Heap) (L : List Loc) : Prop := (v = some (.ref w_PER_TIME_STANDARD)) ∧ (Fr n0 L) ∧ (h = h0)
set_option maxRecDepth 65536 in
set_option maxHeartbeats 40000000 in
theorem pick13 (l : Launch) (Z : State) (a0 : Array Value) (hw : ∀ d ∈ tables_1, d.before a0 Z = true) (ws : List Jvm.Cond) (w_TEXT : Addr) (w_COMPOSITE : Addr) (w_CLOSED_LIST : Addr) (w_LISTED : Addr) (w_URI : Addr) (w_ISO3166_1_ALPHA2 : Addr) (w_ISO639 : Addr) (w_ISO15924 : Addr) (w_POSITIVE_NUMBER : Addr) (w_POSITIVE_INTEGER : Addr) (w_NONNEGATIVE_INTEGER : Addr) (w_ISO8601_DATE : Addr) (w_DIGEST : Addr) (w_PER_TIME_STANDARD : Addr) (w_PER_COORDINATE_SYSTEM : Addr) (w_TIME_SPAN : Addr) (G : Gst Z w_TEXT w_COMPOSITE w_CLOSED_LIST w_LISTED w_URI w_ISO3166_1_ALPHA2 w_ISO639 w_ISO15924 w_POSITIVE_NUMBER w_POSITIVE_INTEGER w_NONNEGATIVE_INTEGER w_ISO8601_DATE w_DIGEST w_PER_TIME_STANDARD w_PER_COORDINATE_SYSTEM w_TIME_SPAN)  (h0 : Heap) (n0 : Nat) (O0 : Old Z n0 h0) :
    MetFree l (⟨"gradivo/spec/ValueKindTakesFormFromPinLaw", "pick", "(I)Lgradivo/spec/ValueKind;"⟩ : MethodName) (head1 (Jvm.Cond.code (⟨"gradivo/spec/ValueKindTakesFormFromPinLaw", "pick", "(I)Lgradivo/spec/ValueKind;"⟩ : MethodName) method_2_code 1 (some (.object "gradivo/spec/ValueKind")) :: ws) ({ frames := 0, cells := 0, slots := 0, locals := 0 } : Room)) (fun a U => a = #[(.int (13 : Int32))] ∧ Z.Warmed39 U.vm ∧ U.heap = h0) (fun _ _ _ _ _ => True) (fun _ U o U' => ∃ v L, o = .returned v ∧ Q_pick13 Z w_TEXT w_COMPOSITE w_CLOSED_LIST w_LISTED w_URI w_ISO3166_1_ALPHA2 w_ISO639 w_ISO15924 w_POSITIVE_NUMBER w_POSITIVE_INTEGER w_NONNEGATIVE_INTEGER w_ISO8601_DATE w_DIGEST w_PER_TIME_STANDARD w_PER_COORDINATE_SYSTEM w_TIME_SPAN  h0 n0 v U'.heap L ∧ FrameEnd U o U' L ({ frames := 0, cells := 0, slots := 0, locals := 0 } : Room).cells ({ frames := 0, cells := 0, slots := 0, locals := 0 } : Room).slots) := by
  refine MetFree.of_bodySF (plainFor_of_name pn_0) hisR ?_
  intro p e s m args below meth c s₁ Bd hml0 hP hK
  obtain ⟨rfl, hZ, hh⟩ := hP
  have hx := Bd.exec
  have hby := Bd.bytes
  have hml : c.maxLocals = 1 := hml0
  have hown : s.vm.findClass "gradivo/spec/ValueKindTakesFormFromPinLaw" = some m.cls := findClass_of_methodNamed Bd.named
  have hnm := (name_of_methodNamed Bd.named Bd.method).1
  have X0 : Stand p l e ({ frames := 0, cells := 0, slots := 0, locals := 0 } : Room) s m #[(.int (13 : Int32))] below meth c s₁ [] 0 0 := Stand.of_body Bd
  have e0 : s₁.heap = h0 := by rw [← hh, Bd.state]; rfl
  have N0 := Fr.nil n0
  obtain ⟨S_w_TEXT, E_w_TEXT, F_w_TEXT_ordinal, S_w_COMPOSITE, E_w_COMPOSITE, F_w_COMPOSITE_ordinal, S_w_CLOSED_LIST, E_w_CLOSED_LIST, F_w_CLOSED_LIST_ordinal, S_w_LISTED, E_w_LISTED, F_w_LISTED_ordinal, S_w_URI, E_w_URI, F_w_URI_ordinal, S_w_ISO3166_1_ALPHA2, E_w_ISO3166_1_ALPHA2, F_w_ISO3166_1_ALPHA2_ordinal, S_w_ISO639, E_w_ISO639, F_w_ISO639_ordinal, S_w_ISO15924, E_w_ISO15924, F_w_ISO15924_ordinal, S_w_POSITIVE_NUMBER, E_w_POSITIVE_NUMBER, F_w_POSITIVE_NUMBER_ordinal, S_w_POSITIVE_INTEGER, E_w_POSITIVE_INTEGER, F_w_POSITIVE_INTEGER_ordinal, S_w_NONNEGATIVE_INTEGER, E_w_NONNEGATIVE_INTEGER, F_w_NONNEGATIVE_INTEGER_ordinal, S_w_ISO8601_DATE, E_w_ISO8601_DATE, F_w_ISO8601_DATE_ordinal, S_w_DIGEST, E_w_DIGEST, F_w_DIGEST_ordinal, S_w_PER_TIME_STANDARD, E_w_PER_TIME_STANDARD, F_w_PER_TIME_STANDARD_ordinal, S_w_PER_COORDINATE_SYSTEM, E_w_PER_COORDINATE_SYSTEM, F_w_PER_COORDINATE_SYSTEM_ordinal, S_w_TIME_SPAN, E_w_TIME_SPAN, F_w_TIME_SPAN_ordinal⟩ := id G
  have k0 : Way p e below (s₁.setTop (entryFrame m #[(.int (13 : Int32))] 1)) s₁ (mkF m 0 #[iv (13 : Int32)] []) := fun t k => castTop (by first | (simp [entryFrame, mkF, argsToLocals, Value.category]; done) | rfl) k
  generalize s₁.setTop (entryFrame m #[(.int (13 : Int32))] 1) = S0 at k0 ⊢
  have k1 : Way p e below S0 s₁ (mkF m 129 #[iv (13 : Int32)] []) := by
    intro t k
    refine k0 t ?_
    refine XS.iloadN X0.here hx rfl (hb hby d_method_2_code_0) rfl ?_
    show Steps p.tables e below (s₁.setTop (mkF m 1 #[iv (13 : Int32)] [(.int (13 : Int32))])) _
    refine XS.ifYes X0.here hx rfl (pc0 := 1) (pc' := 8) rfl (hb hby d_method_2_code_1) rfl ((if0 _ _).trans (feq ((by decide) : ¬ ((13 : Int32) = (0 : Int32)))).2) (by decide) (by decide) ?_
    show Steps p.tables e below (s₁.setTop (mkF m 8 #[iv (13 : Int32)] [])) _
    refine XS.iloadN X0.here hx rfl (hb hby d_method_2_code_8) rfl ?_
    show Steps p.tables e below (s₁.setTop (mkF m 9 #[iv (13 : Int32)] [(.int (13 : Int32))])) _
    refine XS.iconst X0.here hx rfl (hb hby d_method_2_code_9) ?_
    show Steps p.tables e below (s₁.setTop (mkF m 10 #[iv (13 : Int32)] [(.int (1 : Int32)), (.int (13 : Int32))])) _
    refine XS.icmpYes X0.here hx rfl (pc0 := 10) (pc' := 17) rfl (hb hby d_method_2_code_10) rfl (feq ((by decide) : ¬ ((13 : Int32) = (1 : Int32)))).2 (by decide) (by decide) ?_
    show Steps p.tables e below (s₁.setTop (mkF m 17 #[iv (13 : Int32)] [])) _
    refine XS.iloadN X0.here hx rfl (hb hby d_method_2_code_17) rfl ?_
    show Steps p.tables e below (s₁.setTop (mkF m 18 #[iv (13 : Int32)] [(.int (13 : Int32))])) _
    refine XS.iconst X0.here hx rfl (hb hby d_method_2_code_18) ?_
    show Steps p.tables e below (s₁.setTop (mkF m 19 #[iv (13 : Int32)] [(.int (2 : Int32)), (.int (13 : Int32))])) _
    refine XS.icmpYes X0.here hx rfl (pc0 := 19) (pc' := 26) rfl (hb hby d_method_2_code_19) rfl (feq ((by decide) : ¬ ((13 : Int32) = (2 : Int32)))).2 (by decide) (by decide) ?_
    show Steps p.tables e below (s₁.setTop (mkF m 26 #[iv (13 : Int32)] [])) _
    refine XS.iloadN X0.here hx rfl (hb hby d_method_2_code_26) rfl ?_
    show Steps p.tables e below (s₁.setTop (mkF m 27 #[iv (13 : Int32)] [(.int (13 : Int32))])) _
    refine XS.iconst X0.here hx rfl (hb hby d_method_2_code_27) ?_
    show Steps p.tables e below (s₁.setTop (mkF m 28 #[iv (13 : Int32)] [(.int (3 : Int32)), (.int (13 : Int32))])) _
    refine XS.icmpYes X0.here hx rfl (pc0 := 28) (pc' := 35) rfl (hb hby d_method_2_code_28) rfl (feq ((by decide) : ¬ ((13 : Int32) = (3 : Int32)))).2 (by decide) (by decide) ?_
    show Steps p.tables e below (s₁.setTop (mkF m 35 #[iv (13 : Int32)] [])) _
    refine XS.iloadN X0.here hx rfl (hb hby d_method_2_code_35) rfl ?_
    show Steps p.tables e below (s₁.setTop (mkF m 36 #[iv (13 : Int32)] [(.int (13 : Int32))])) _
    refine XS.iconst X0.here hx rfl (hb hby d_method_2_code_36) ?_
    show Steps p.tables e below (s₁.setTop (mkF m 37 #[iv (13 : Int32)] [(.int (4 : Int32)), (.int (13 : Int32))])) _
    refine XS.icmpYes X0.here hx rfl (pc0 := 37) (pc' := 44) rfl (hb hby d_method_2_code_37) rfl (feq ((by decide) : ¬ ((13 : Int32) = (4 : Int32)))).2 (by decide) (by decide) ?_
    show Steps p.tables e below (s₁.setTop (mkF m 44 #[iv (13 : Int32)] [])) _
    refine XS.iloadN X0.here hx rfl (hb hby d_method_2_code_44) rfl ?_
    show Steps p.tables e below (s₁.setTop (mkF m 45 #[iv (13 : Int32)] [(.int (13 : Int32))])) _
    refine XS.iconst X0.here hx rfl (hb hby d_method_2_code_45) ?_
    show Steps p.tables e below (s₁.setTop (mkF m 46 #[iv (13 : Int32)] [(.int (5 : Int32)), (.int (13 : Int32))])) _
    refine XS.icmpYes X0.here hx rfl (pc0 := 46) (pc' := 53) rfl (hb hby d_method_2_code_46) rfl (feq ((by decide) : ¬ ((13 : Int32) = (5 : Int32)))).2 (by decide) (by decide) ?_
    show Steps p.tables e below (s₁.setTop (mkF m 53 #[iv (13 : Int32)] [])) _
    refine XS.iloadN X0.here hx rfl (hb hby d_method_2_code_53) rfl ?_
    show Steps p.tables e below (s₁.setTop (mkF m 54 #[iv (13 : Int32)] [(.int (13 : Int32))])) _
    refine XS.bipush X0.here hx rfl (hb hby d_method_2_code_54) ?_
    show Steps p.tables e below (s₁.setTop (mkF m 56 #[iv (13 : Int32)] [(.int (6 : Int32)), (.int (13 : Int32))])) _
    refine XS.icmpYes X0.here hx rfl (pc0 := 56) (pc' := 63) rfl (hb hby d_method_2_code_56) rfl (feq ((by decide) : ¬ ((13 : Int32) = (6 : Int32)))).2 (by decide) (by decide) ?_
    show Steps p.tables e below (s₁.setTop (mkF m 63 #[iv (13 : Int32)] [])) _
    refine XS.iloadN X0.here hx rfl (hb hby d_method_2_code_63) rfl ?_
    show Steps p.tables e below (s₁.setTop (mkF m 64 #[iv (13 : Int32)] [(.int (13 : Int32))])) _
    refine XS.bipush X0.here hx rfl (hb hby d_method_2_code_64) ?_
    show Steps p.tables e below (s₁.setTop (mkF m 66 #[iv (13 : Int32)] [(.int (7 : Int32)), (.int (13 : Int32))])) _
    refine XS.icmpYes X0.here hx rfl (pc0 := 66) (pc' := 73) rfl (hb hby d_method_2_code_66) rfl (feq ((by decide) : ¬ ((13 : Int32) = (7 : Int32)))).2 (by decide) (by decide) ?_
    show Steps p.tables e below (s₁.setTop (mkF m 73 #[iv (13 : Int32)] [])) _
    refine XS.iloadN X0.here hx rfl (hb hby d_method_2_code_73) rfl ?_
    show Steps p.tables e below (s₁.setTop (mkF m 74 #[iv (13 : Int32)] [(.int (13 : Int32))])) _
    refine XS.bipush X0.here hx rfl (hb hby d_method_2_code_74) ?_
    show Steps p.tables e below (s₁.setTop (mkF m 76 #[iv (13 : Int32)] [(.int (8 : Int32)), (.int (13 : Int32))])) _
    refine XS.icmpYes X0.here hx rfl (pc0 := 76) (pc' := 83) rfl (hb hby d_method_2_code_76) rfl (feq ((by decide) : ¬ ((13 : Int32) = (8 : Int32)))).2 (by decide) (by decide) ?_
    show Steps p.tables e below (s₁.setTop (mkF m 83 #[iv (13 : Int32)] [])) _
    refine XS.iloadN X0.here hx rfl (hb hby d_method_2_code_83) rfl ?_
    show Steps p.tables e below (s₁.setTop (mkF m 84 #[iv (13 : Int32)] [(.int (13 : Int32))])) _
    refine XS.bipush X0.here hx rfl (hb hby d_method_2_code_84) ?_
    show Steps p.tables e below (s₁.setTop (mkF m 86 #[iv (13 : Int32)] [(.int (9 : Int32)), (.int (13 : Int32))])) _
    refine XS.icmpYes X0.here hx rfl (pc0 := 86) (pc' := 93) rfl (hb hby d_method_2_code_86) rfl (feq ((by decide) : ¬ ((13 : Int32) = (9 : Int32)))).2 (by decide) (by decide) ?_
    show Steps p.tables e below (s₁.setTop (mkF m 93 #[iv (13 : Int32)] [])) _
    refine XS.iloadN X0.here hx rfl (hb hby d_method_2_code_93) rfl ?_
    show Steps p.tables e below (s₁.setTop (mkF m 94 #[iv (13 : Int32)] [(.int (13 : Int32))])) _
    refine XS.bipush X0.here hx rfl (hb hby d_method_2_code_94) ?_
    show Steps p.tables e below (s₁.setTop (mkF m 96 #[iv (13 : Int32)] [(.int (10 : Int32)), (.int (13 : Int32))])) _
    refine XS.icmpYes X0.here hx rfl (pc0 := 96) (pc' := 103) rfl (hb hby d_method_2_code_96) rfl (feq ((by decide) : ¬ ((13 : Int32) = (10 : Int32)))).2 (by decide) (by decide) ?_
    show Steps p.tables e below (s₁.setTop (mkF m 103 #[iv (13 : Int32)] [])) _
    refine XS.iloadN X0.here hx rfl (hb hby d_method_2_code_103) rfl ?_
    show Steps p.tables e below (s₁.setTop (mkF m 104 #[iv (13 : Int32)] [(.int (13 : Int32))])) _
    refine XS.bipush X0.here hx rfl (hb hby d_method_2_code_104) ?_
    show Steps p.tables e below (s₁.setTop (mkF m 106 #[iv (13 : Int32)] [(.int (11 : Int32)), (.int (13 : Int32))])) _
    refine XS.icmpYes X0.here hx rfl (pc0 := 106) (pc' := 113) rfl (hb hby d_method_2_code_106) rfl (feq ((by decide) : ¬ ((13 : Int32) = (11 : Int32)))).2 (by decide) (by decide) ?_
    show Steps p.tables e below (s₁.setTop (mkF m 113 #[iv (13 : Int32)] [])) _
    refine XS.iloadN X0.here hx rfl (hb hby d_method_2_code_113) rfl ?_
    show Steps p.tables e below (s₁.setTop (mkF m 114 #[iv (13 : Int32)] [(.int (13 : Int32))])) _
    refine XS.bipush X0.here hx rfl (hb hby d_method_2_code_114) ?_
    show Steps p.tables e below (s₁.setTop (mkF m 116 #[iv (13 : Int32)] [(.int (12 : Int32)), (.int (13 : Int32))])) _
    refine XS.icmpYes X0.here hx rfl (pc0 := 116) (pc' := 123) rfl (hb hby d_method_2_code_116) rfl (feq ((by decide) : ¬ ((13 : Int32) = (12 : Int32)))).2 (by decide) (by decide) ?_
    show Steps p.tables e below (s₁.setTop (mkF m 123 #[iv (13 : Int32)] [])) _
    refine XS.iloadN X0.here hx rfl (hb hby d_method_2_code_123) rfl ?_
    show Steps p.tables e below (s₁.setTop (mkF m 124 #[iv (13 : Int32)] [(.int (13 : Int32))])) _
    refine XS.bipush X0.here hx rfl (hb hby d_method_2_code_124) ?_
    show Steps p.tables e below (s₁.setTop (mkF m 126 #[iv (13 : Int32)] [(.int (13 : Int32)), (.int (13 : Int32))])) _
    refine XS.icmpNo X0.here hx rfl (hb hby d_method_2_code_126) rfl (teq ((by decide) : (13 : Int32) = (13 : Int32))).2 ?_
    show Steps p.tables e below (s₁.setTop (mkF m 129 #[iv (13 : Int32)] [])) _
    exact k
  obtain ⟨T2, X2, e2, st2⟩ := getS2 X0 hx hZ hown (host := "") (Or.inl (hw _ (List.mem_of_getElem? (i := 39) rfl))) Via.refl e0 (S_w_PER_TIME_STANDARD.ext O0.2) (g := (mkF m 129 #[iv (13 : Int32)] [])) rfl (hb hby d_method_2_code_129)
  have k3 : Way p e below S0 T2 (mkF m 132 #[iv (13 : Int32)] [(.ref w_PER_TIME_STANDARD)]) := fun t k => k1 t (st2 _ k)
  obtain ⟨fs, hr, hrun, hended, hW, hsame⟩ := X2.leave (v := some (.ref w_PER_TIME_STANDARD)) (fun h => by rw [Bd.returns] at h; cases h)
  refine ⟨_, _, k3 _ (retOut X2 hx Bd.returns rfl (Or.inr (Or.inr (Or.inr (Or.inr ⟨rfl, rfl, rfl⟩)))) (hb hby d_method_2_code_132) hr), hrun, hended, _, _, rfl, ?_, ⟨_, rfl⟩, hW, hsame.mono (by decide) (by decide)⟩
  show Q_pick13 Z w_TEXT w_COMPOSITE w_CLOSED_LIST w_LISTED w_URI w_ISO3166_1_ALPHA2 w_ISO639 w_ISO15924 w_POSITIVE_NUMBER w_POSITIVE_INTEGER w_NONNEGATIVE_INTEGER w_ISO8601_DATE w_DIGEST w_PER_TIME_STANDARD w_PER_COORDINATE_SYSTEM w_TIME_SPAN  h0 n0 _ T2.heap _
  rw [e2]
  exact ⟨rfl, N0, rfl⟩
def Q_pick14 (Z : State) (w_TEXT : Addr) (w_COMPOSITE : Addr) (w_CLOSED_LIST : Addr) (w_LISTED : Addr) (w_URI : Addr) (w_ISO3166_1_ALPHA2 : Addr) (w_ISO639 : Addr) (w_ISO15924 : Addr) (w_POSITIVE_NUMBER : Addr) (w_POSITIVE_INTEGER : Addr) (w_NONNEGATIVE_INTEGER : Addr) (w_ISO8601_DATE : Addr) (w_DIGEST : Addr) (w_PER_TIME_STANDARD : Addr) (w_PER_COORDINATE_SYSTEM : Addr) (w_TIME_SPAN : Addr)  (h0 : Heap) (n0 : Nat) (v : Option Value) (h : Heap) (L : List Loc) : Prop := (v = some (.ref w_PER_COORDINATE_SYSTEM)) ∧ (Fr n0 L) ∧ (h = h0)
set_option maxRecDepth 65536 in
set_option maxHeartbeats 40000000 in
theorem pick14 (l : Launch) (Z : State) (a0 : Array Value) (hw : ∀ d ∈ tables_1, d.before a0 Z = true) (ws : List Jvm.Cond) (w_TEXT : Addr) (w_COMPOSITE : Addr) (w_CLOSED_LIST : Addr) (w_LISTED : Addr) (w_URI : Addr) (w_ISO3166_1_ALPHA2 : Addr) (w_ISO639 : Addr) (w_ISO15924 : Addr) (w_POSITIVE_NUMBER : Addr) (w_POSITIVE_INTEGER : Addr) (w_NONNEGATIVE_INTEGER : Addr) (w_ISO8601_DATE : Addr) (w_DIGEST : Addr) (w_PER_TIME_STANDARD : Addr) (w_PER_COORDINATE_SYSTEM : Addr) (w_TIME_SPAN : Addr) (G : Gst Z w_TEXT w_COMPOSITE w_CLOSED_LIST w_LISTED w_URI w_ISO3166_1_ALPHA2 w_ISO639 w_ISO15924 w_POSITIVE_NUMBER w_POSITIVE_INTEGER w_NONNEGATIVE_INTEGER w_ISO8601_DATE w_DIGEST w_PER_TIME_STANDARD w_PER_COORDINATE_SYSTEM w_TIME_SPAN)  (h0 : Heap) (n0 : Nat) (O0 : Old Z n0 h0) :
    MetFree l (⟨"gradivo/spec/ValueKindTakesFormFromPinLaw", "pick", "(I)Lgradivo/spec/ValueKind;"⟩ : MethodName) (head1 (Jvm.Cond.code (⟨"gradivo/spec/ValueKindTakesFormFromPinLaw", "pick", "(I)Lgradivo/spec/ValueKind;"⟩ : MethodName) method_2_code 1 (some (.object "gradivo/spec/ValueKind")) :: ws) ({ frames := 0, cells := 0, slots := 0, locals := 0 } : Room)) (fun a U => a = #[(.int (14 : Int32))] ∧ Z.Warmed39 U.vm ∧ U.heap = h0) (fun _ _ _ _ _ => True) (fun _ U o U' => ∃ v L, o = .returned v ∧ Q_pick14 Z w_TEXT w_COMPOSITE w_CLOSED_LIST w_LISTED w_URI w_ISO3166_1_ALPHA2 w_ISO639 w_ISO15924 w_POSITIVE_NUMBER w_POSITIVE_INTEGER w_NONNEGATIVE_INTEGER w_ISO8601_DATE w_DIGEST w_PER_TIME_STANDARD w_PER_COORDINATE_SYSTEM w_TIME_SPAN  h0 n0 v U'.heap L ∧ FrameEnd U o U' L ({ frames := 0, cells := 0, slots := 0, locals := 0 } : Room).cells ({ frames := 0, cells := 0, slots := 0, locals := 0 } : Room).slots) := by
  refine MetFree.of_bodySF (plainFor_of_name pn_0) hisR ?_
  intro p e s m args below meth c s₁ Bd hml0 hP hK
  obtain ⟨rfl, hZ, hh⟩ := hP
  have hx := Bd.exec
  have hby := Bd.bytes
  have hml : c.maxLocals = 1 := hml0
  have hown : s.vm.findClass "gradivo/spec/ValueKindTakesFormFromPinLaw" = some m.cls := findClass_of_methodNamed Bd.named
  have hnm := (name_of_methodNamed Bd.named Bd.method).1
  have X0 : Stand p l e ({ frames := 0, cells := 0, slots := 0, locals := 0 } : Room) s m #[(.int (14 : Int32))] below meth c s₁ [] 0 0 := Stand.of_body Bd
  have e0 : s₁.heap = h0 := by rw [← hh, Bd.state]; rfl
  have N0 := Fr.nil n0
  obtain ⟨S_w_TEXT, E_w_TEXT, F_w_TEXT_ordinal, S_w_COMPOSITE, E_w_COMPOSITE, F_w_COMPOSITE_ordinal, S_w_CLOSED_LIST, E_w_CLOSED_LIST, F_w_CLOSED_LIST_ordinal, S_w_LISTED, E_w_LISTED, F_w_LISTED_ordinal, S_w_URI, E_w_URI, F_w_URI_ordinal, S_w_ISO3166_1_ALPHA2, E_w_ISO3166_1_ALPHA2, F_w_ISO3166_1_ALPHA2_ordinal, S_w_ISO639, E_w_ISO639, F_w_ISO639_ordinal, S_w_ISO15924, E_w_ISO15924, F_w_ISO15924_ordinal, S_w_POSITIVE_NUMBER, E_w_POSITIVE_NUMBER, F_w_POSITIVE_NUMBER_ordinal, S_w_POSITIVE_INTEGER, E_w_POSITIVE_INTEGER, F_w_POSITIVE_INTEGER_ordinal, S_w_NONNEGATIVE_INTEGER, E_w_NONNEGATIVE_INTEGER, F_w_NONNEGATIVE_INTEGER_ordinal, S_w_ISO8601_DATE, E_w_ISO8601_DATE, F_w_ISO8601_DATE_ordinal, S_w_DIGEST, E_w_DIGEST, F_w_DIGEST_ordinal, S_w_PER_TIME_STANDARD, E_w_PER_TIME_STANDARD, F_w_PER_TIME_STANDARD_ordinal, S_w_PER_COORDINATE_SYSTEM, E_w_PER_COORDINATE_SYSTEM, F_w_PER_COORDINATE_SYSTEM_ordinal, S_w_TIME_SPAN, E_w_TIME_SPAN, F_w_TIME_SPAN_ordinal⟩ := id G
  have k0 : Way p e below (s₁.setTop (entryFrame m #[(.int (14 : Int32))] 1)) s₁ (mkF m 0 #[iv (14 : Int32)] []) := fun t k => castTop (by first | (simp [entryFrame, mkF, argsToLocals, Value.category]; done) | rfl) k
  generalize s₁.setTop (entryFrame m #[(.int (14 : Int32))] 1) = S0 at k0 ⊢
  have k1 : Way p e below S0 s₁ (mkF m 139 #[iv (14 : Int32)] []) := by
    intro t k
    refine k0 t ?_
    refine XS.iloadN X0.here hx rfl (hb hby d_method_2_code_0) rfl ?_
    show Steps p.tables e below (s₁.setTop (mkF m 1 #[iv (14 : Int32)] [(.int (14 : Int32))])) _
    refine XS.ifYes X0.here hx rfl (pc0 := 1) (pc' := 8) rfl (hb hby d_method_2_code_1) rfl ((if0 _ _).trans (feq ((by decide) : ¬ ((14 : Int32) = (0 : Int32)))).2) (by decide) (by decide) ?_
    show Steps p.tables e below (s₁.setTop (mkF m 8 #[iv (14 : Int32)] [])) _
    refine XS.iloadN X0.here hx rfl (hb hby d_method_2_code_8) rfl ?_
    show Steps p.tables e below (s₁.setTop (mkF m 9 #[iv (14 : Int32)] [(.int (14 : Int32))])) _
    refine XS.iconst X0.here hx rfl (hb hby d_method_2_code_9) ?_
    show Steps p.tables e below (s₁.setTop (mkF m 10 #[iv (14 : Int32)] [(.int (1 : Int32)), (.int (14 : Int32))])) _
    refine XS.icmpYes X0.here hx rfl (pc0 := 10) (pc' := 17) rfl (hb hby d_method_2_code_10) rfl (feq ((by decide) : ¬ ((14 : Int32) = (1 : Int32)))).2 (by decide) (by decide) ?_
    show Steps p.tables e below (s₁.setTop (mkF m 17 #[iv (14 : Int32)] [])) _
    refine XS.iloadN X0.here hx rfl (hb hby d_method_2_code_17) rfl ?_
    show Steps p.tables e below (s₁.setTop (mkF m 18 #[iv (14 : Int32)] [(.int (14 : Int32))])) _
    refine XS.iconst X0.here hx rfl (hb hby d_method_2_code_18) ?_
    show Steps p.tables e below (s₁.setTop (mkF m 19 #[iv (14 : Int32)] [(.int (2 : Int32)), (.int (14 : Int32))])) _
    refine XS.icmpYes X0.here hx rfl (pc0 := 19) (pc' := 26) rfl (hb hby d_method_2_code_19) rfl (feq ((by decide) : ¬ ((14 : Int32) = (2 : Int32)))).2 (by decide) (by decide) ?_
    show Steps p.tables e below (s₁.setTop (mkF m 26 #[iv (14 : Int32)] [])) _
    refine XS.iloadN X0.here hx rfl (hb hby d_method_2_code_26) rfl ?_
    show Steps p.tables e below (s₁.setTop (mkF m 27 #[iv (14 : Int32)] [(.int (14 : Int32))])) _
    refine XS.iconst X0.here hx rfl (hb hby d_method_2_code_27) ?_
    show Steps p.tables e below (s₁.setTop (mkF m 28 #[iv (14 : Int32)] [(.int (3 : Int32)), (.int (14 : Int32))])) _
    refine XS.icmpYes X0.here hx rfl (pc0 := 28) (pc' := 35) rfl (hb hby d_method_2_code_28) rfl (feq ((by decide) : ¬ ((14 : Int32) = (3 : Int32)))).2 (by decide) (by decide) ?_
    show Steps p.tables e below (s₁.setTop (mkF m 35 #[iv (14 : Int32)] [])) _
    refine XS.iloadN X0.here hx rfl (hb hby d_method_2_code_35) rfl ?_
    show Steps p.tables e below (s₁.setTop (mkF m 36 #[iv (14 : Int32)] [(.int (14 : Int32))])) _
    refine XS.iconst X0.here hx rfl (hb hby d_method_2_code_36) ?_
    show Steps p.tables e below (s₁.setTop (mkF m 37 #[iv (14 : Int32)] [(.int (4 : Int32)), (.int (14 : Int32))])) _
    refine XS.icmpYes X0.here hx rfl (pc0 := 37) (pc' := 44) rfl (hb hby d_method_2_code_37) rfl (feq ((by decide) : ¬ ((14 : Int32) = (4 : Int32)))).2 (by decide) (by decide) ?_
    show Steps p.tables e below (s₁.setTop (mkF m 44 #[iv (14 : Int32)] [])) _
    refine XS.iloadN X0.here hx rfl (hb hby d_method_2_code_44) rfl ?_
    show Steps p.tables e below (s₁.setTop (mkF m 45 #[iv (14 : Int32)] [(.int (14 : Int32))])) _
    refine XS.iconst X0.here hx rfl (hb hby d_method_2_code_45) ?_
    show Steps p.tables e below (s₁.setTop (mkF m 46 #[iv (14 : Int32)] [(.int (5 : Int32)), (.int (14 : Int32))])) _
    refine XS.icmpYes X0.here hx rfl (pc0 := 46) (pc' := 53) rfl (hb hby d_method_2_code_46) rfl (feq ((by decide) : ¬ ((14 : Int32) = (5 : Int32)))).2 (by decide) (by decide) ?_
    show Steps p.tables e below (s₁.setTop (mkF m 53 #[iv (14 : Int32)] [])) _
    refine XS.iloadN X0.here hx rfl (hb hby d_method_2_code_53) rfl ?_
    show Steps p.tables e below (s₁.setTop (mkF m 54 #[iv (14 : Int32)] [(.int (14 : Int32))])) _
    refine XS.bipush X0.here hx rfl (hb hby d_method_2_code_54) ?_
    show Steps p.tables e below (s₁.setTop (mkF m 56 #[iv (14 : Int32)] [(.int (6 : Int32)), (.int (14 : Int32))])) _
    refine XS.icmpYes X0.here hx rfl (pc0 := 56) (pc' := 63) rfl (hb hby d_method_2_code_56) rfl (feq ((by decide) : ¬ ((14 : Int32) = (6 : Int32)))).2 (by decide) (by decide) ?_
    show Steps p.tables e below (s₁.setTop (mkF m 63 #[iv (14 : Int32)] [])) _
    refine XS.iloadN X0.here hx rfl (hb hby d_method_2_code_63) rfl ?_
    show Steps p.tables e below (s₁.setTop (mkF m 64 #[iv (14 : Int32)] [(.int (14 : Int32))])) _
    refine XS.bipush X0.here hx rfl (hb hby d_method_2_code_64) ?_
    show Steps p.tables e below (s₁.setTop (mkF m 66 #[iv (14 : Int32)] [(.int (7 : Int32)), (.int (14 : Int32))])) _
    refine XS.icmpYes X0.here hx rfl (pc0 := 66) (pc' := 73) rfl (hb hby d_method_2_code_66) rfl (feq ((by decide) : ¬ ((14 : Int32) = (7 : Int32)))).2 (by decide) (by decide) ?_
    show Steps p.tables e below (s₁.setTop (mkF m 73 #[iv (14 : Int32)] [])) _
    refine XS.iloadN X0.here hx rfl (hb hby d_method_2_code_73) rfl ?_
    show Steps p.tables e below (s₁.setTop (mkF m 74 #[iv (14 : Int32)] [(.int (14 : Int32))])) _
    refine XS.bipush X0.here hx rfl (hb hby d_method_2_code_74) ?_
    show Steps p.tables e below (s₁.setTop (mkF m 76 #[iv (14 : Int32)] [(.int (8 : Int32)), (.int (14 : Int32))])) _
    refine XS.icmpYes X0.here hx rfl (pc0 := 76) (pc' := 83) rfl (hb hby d_method_2_code_76) rfl (feq ((by decide) : ¬ ((14 : Int32) = (8 : Int32)))).2 (by decide) (by decide) ?_
    show Steps p.tables e below (s₁.setTop (mkF m 83 #[iv (14 : Int32)] [])) _
    refine XS.iloadN X0.here hx rfl (hb hby d_method_2_code_83) rfl ?_
    show Steps p.tables e below (s₁.setTop (mkF m 84 #[iv (14 : Int32)] [(.int (14 : Int32))])) _
    refine XS.bipush X0.here hx rfl (hb hby d_method_2_code_84) ?_
    show Steps p.tables e below (s₁.setTop (mkF m 86 #[iv (14 : Int32)] [(.int (9 : Int32)), (.int (14 : Int32))])) _
    refine XS.icmpYes X0.here hx rfl (pc0 := 86) (pc' := 93) rfl (hb hby d_method_2_code_86) rfl (feq ((by decide) : ¬ ((14 : Int32) = (9 : Int32)))).2 (by decide) (by decide) ?_
    show Steps p.tables e below (s₁.setTop (mkF m 93 #[iv (14 : Int32)] [])) _
    refine XS.iloadN X0.here hx rfl (hb hby d_method_2_code_93) rfl ?_
    show Steps p.tables e below (s₁.setTop (mkF m 94 #[iv (14 : Int32)] [(.int (14 : Int32))])) _
    refine XS.bipush X0.here hx rfl (hb hby d_method_2_code_94) ?_
    show Steps p.tables e below (s₁.setTop (mkF m 96 #[iv (14 : Int32)] [(.int (10 : Int32)), (.int (14 : Int32))])) _
    refine XS.icmpYes X0.here hx rfl (pc0 := 96) (pc' := 103) rfl (hb hby d_method_2_code_96) rfl (feq ((by decide) : ¬ ((14 : Int32) = (10 : Int32)))).2 (by decide) (by decide) ?_
    show Steps p.tables e below (s₁.setTop (mkF m 103 #[iv (14 : Int32)] [])) _
    refine XS.iloadN X0.here hx rfl (hb hby d_method_2_code_103) rfl ?_
    show Steps p.tables e below (s₁.setTop (mkF m 104 #[iv (14 : Int32)] [(.int (14 : Int32))])) _
    refine XS.bipush X0.here hx rfl (hb hby d_method_2_code_104) ?_
    show Steps p.tables e below (s₁.setTop (mkF m 106 #[iv (14 : Int32)] [(.int (11 : Int32)), (.int (14 : Int32))])) _
    refine XS.icmpYes X0.here hx rfl (pc0 := 106) (pc' := 113) rfl (hb hby d_method_2_code_106) rfl (feq ((by decide) : ¬ ((14 : Int32) = (11 : Int32)))).2 (by decide) (by decide) ?_
    show Steps p.tables e below (s₁.setTop (mkF m 113 #[iv (14 : Int32)] [])) _
    refine XS.iloadN X0.here hx rfl (hb hby d_method_2_code_113) rfl ?_
    show Steps p.tables e below (s₁.setTop (mkF m 114 #[iv (14 : Int32)] [(.int (14 : Int32))])) _
    refine XS.bipush X0.here hx rfl (hb hby d_method_2_code_114) ?_
    show Steps p.tables e below (s₁.setTop (mkF m 116 #[iv (14 : Int32)] [(.int (12 : Int32)), (.int (14 : Int32))])) _
    refine XS.icmpYes X0.here hx rfl (pc0 := 116) (pc' := 123) rfl (hb hby d_method_2_code_116) rfl (feq ((by decide) : ¬ ((14 : Int32) = (12 : Int32)))).2 (by decide) (by decide) ?_
    show Steps p.tables e below (s₁.setTop (mkF m 123 #[iv (14 : Int32)] [])) _
    refine XS.iloadN X0.here hx rfl (hb hby d_method_2_code_123) rfl ?_
    show Steps p.tables e below (s₁.setTop (mkF m 124 #[iv (14 : Int32)] [(.int (14 : Int32))])) _
    refine XS.bipush X0.here hx rfl (hb hby d_method_2_code_124) ?_
    show Steps p.tables e below (s₁.setTop (mkF m 126 #[iv (14 : Int32)] [(.int (13 : Int32)), (.int (14 : Int32))])) _
    refine XS.icmpYes X0.here hx rfl (pc0 := 126) (pc' := 133) rfl (hb hby d_method_2_code_126) rfl (feq ((by decide) : ¬ ((14 : Int32) = (13 : Int32)))).2 (by decide) (by decide) ?_
    show Steps p.tables e below (s₁.setTop (mkF m 133 #[iv (14 : Int32)] [])) _
    refine XS.iloadN X0.here hx rfl (hb hby d_method_2_code_133) rfl ?_
    show Steps p.tables e below (s₁.setTop (mkF m 134 #[iv (14 : Int32)] [(.int (14 : Int32))])) _
    refine XS.bipush X0.here hx rfl (hb hby d_method_2_code_134) ?_
    show Steps p.tables e below (s₁.setTop (mkF m 136 #[iv (14 : Int32)] [(.int (14 : Int32)), (.int (14 : Int32))])) _
    refine XS.icmpNo X0.here hx rfl (hb hby d_method_2_code_136) rfl (teq ((by decide) : (14 : Int32) = (14 : Int32))).2 ?_
    show Steps p.tables e below (s₁.setTop (mkF m 139 #[iv (14 : Int32)] [])) _
    exact k
  obtain ⟨T2, X2, e2, st2⟩ := getS2 X0 hx hZ hown (host := "") (Or.inl (hw _ (List.mem_of_getElem? (i := 21) rfl))) Via.refl e0 (S_w_PER_COORDINATE_SYSTEM.ext O0.2) (g := (mkF m 139 #[iv (14 : Int32)] [])) rfl (hb hby d_method_2_code_139)
  have k3 : Way p e below S0 T2 (mkF m 142 #[iv (14 : Int32)] [(.ref w_PER_COORDINATE_SYSTEM)]) := fun t k => k1 t (st2 _ k)
  obtain ⟨fs, hr, hrun, hended, hW, hsame⟩ := X2.leave (v := some (.ref w_PER_COORDINATE_SYSTEM)) (fun h => by rw [Bd.returns] at h; cases h)
  refine ⟨_, _, k3 _ (retOut X2 hx Bd.returns rfl (Or.inr (Or.inr (Or.inr (Or.inr ⟨rfl, rfl, rfl⟩)))) (hb hby d_method_2_code_142) hr), hrun, hended, _, _, rfl, ?_, ⟨_, rfl⟩, hW, hsame.mono (by decide) (by decide)⟩
  show Q_pick14 Z w_TEXT w_COMPOSITE w_CLOSED_LIST w_LISTED w_URI w_ISO3166_1_ALPHA2 w_ISO639 w_ISO15924 w_POSITIVE_NUMBER w_POSITIVE_INTEGER w_NONNEGATIVE_INTEGER w_ISO8601_DATE w_DIGEST w_PER_TIME_STANDARD w_PER_COORDINATE_SYSTEM w_TIME_SPAN  h0 n0 _ T2.heap _
  rw [e2]
  exact ⟨rfl, N0, rfl⟩
def Q_pick15 (Z : State) (w_TEXT : Addr) (w_COMPOSITE : Addr) (w_CLOSED_LIST : Addr) (w_LISTED : Addr) (w_URI : Addr) (w_ISO3166_1_ALPHA2 : Addr) (w_ISO639 : Addr) (w_ISO15924 : Addr) (w_POSITIVE_NUMBER : Addr) (w_POSITIVE_INTEGER : Addr) (w_NONNEGATIVE_INTEGER : Addr) (w_ISO8601_DATE : Addr) (w_DIGEST : Addr) (w_PER_TIME_STANDARD : Addr) (w_PER_COORDINATE_SYSTEM : Addr) (w_TIME_SPAN : Addr)  (h0 : Heap) (n0 : Nat) (v : Option Value) (h : Heap) (L : List Loc) : Prop := (v = some (.ref w_TIME_SPAN)) ∧ (Fr n0 L) ∧ (h = h0)
set_option maxRecDepth 65536 in
set_option maxHeartbeats 40000000 in
theorem pick15 (l : Launch) (Z : State) (a0 : Array Value) (hw : ∀ d ∈ tables_1, d.before a0 Z = true) (ws : List Jvm.Cond) (w_TEXT : Addr) (w_COMPOSITE : Addr) (w_CLOSED_LIST : Addr) (w_LISTED : Addr) (w_URI : Addr) (w_ISO3166_1_ALPHA2 : Addr) (w_ISO639 : Addr) (w_ISO15924 : Addr) (w_POSITIVE_NUMBER : Addr) (w_POSITIVE_INTEGER : Addr) (w_NONNEGATIVE_INTEGER : Addr) (w_ISO8601_DATE : Addr) (w_DIGEST : Addr) (w_PER_TIME_STANDARD : Addr) (w_PER_COORDINATE_SYSTEM : Addr) (w_TIME_SPAN : Addr) (G : Gst Z w_TEXT w_COMPOSITE w_CLOSED_LIST w_LISTED w_URI w_ISO3166_1_ALPHA2 w_ISO639 w_ISO15924 w_POSITIVE_NUMBER w_POSITIVE_INTEGER w_NONNEGATIVE_INTEGER w_ISO8601_DATE w_DIGEST w_PER_TIME_STANDARD w_PER_COORDINATE_SYSTEM w_TIME_SPAN)  (h0 : Heap) (n0 : Nat) (O0 : Old Z n0 h0) :
    MetFree l (⟨"gradivo/spec/ValueKindTakesFormFromPinLaw", "pick", "(I)Lgradivo/spec/ValueKind;"⟩ : MethodName) (head1 (Jvm.Cond.code (⟨"gradivo/spec/ValueKindTakesFormFromPinLaw", "pick", "(I)Lgradivo/spec/ValueKind;"⟩ : MethodName) method_2_code 1 (some (.object "gradivo/spec/ValueKind")) :: ws) ({ frames := 0, cells := 0, slots := 0, locals := 0 } : Room)) (fun a U => a = #[(.int (15 : Int32))] ∧ Z.Warmed39 U.vm ∧ U.heap = h0) (fun _ _ _ _ _ => True) (fun _ U o U' => ∃ v L, o = .returned v ∧ Q_pick15 Z w_TEXT w_COMPOSITE w_CLOSED_LIST w_LISTED w_URI w_ISO3166_1_ALPHA2 w_ISO639 w_ISO15924 w_POSITIVE_NUMBER w_POSITIVE_INTEGER w_NONNEGATIVE_INTEGER w_ISO8601_DATE w_DIGEST w_PER_TIME_STANDARD w_PER_COORDINATE_SYSTEM w_TIME_SPAN  h0 n0 v U'.heap L ∧ FrameEnd U o U' L ({ frames := 0, cells := 0, slots := 0, locals := 0 } : Room).cells ({ frames := 0, cells := 0, slots := 0, locals := 0 } : Room).slots) := by
  refine MetFree.of_bodySF (plainFor_of_name pn_0) hisR ?_
  intro p e s m args below meth c s₁ Bd hml0 hP hK
  obtain ⟨rfl, hZ, hh⟩ := hP
  have hx := Bd.exec
  have hby := Bd.bytes
  have hml : c.maxLocals = 1 := hml0
  have hown : s.vm.findClass "gradivo/spec/ValueKindTakesFormFromPinLaw" = some m.cls := findClass_of_methodNamed Bd.named
  have hnm := (name_of_methodNamed Bd.named Bd.method).1
  have X0 : Stand p l e ({ frames := 0, cells := 0, slots := 0, locals := 0 } : Room) s m #[(.int (15 : Int32))] below meth c s₁ [] 0 0 := Stand.of_body Bd
  have e0 : s₁.heap = h0 := by rw [← hh, Bd.state]; rfl
  have N0 := Fr.nil n0
  obtain ⟨S_w_TEXT, E_w_TEXT, F_w_TEXT_ordinal, S_w_COMPOSITE, E_w_COMPOSITE, F_w_COMPOSITE_ordinal, S_w_CLOSED_LIST, E_w_CLOSED_LIST, F_w_CLOSED_LIST_ordinal, S_w_LISTED, E_w_LISTED, F_w_LISTED_ordinal, S_w_URI, E_w_URI, F_w_URI_ordinal, S_w_ISO3166_1_ALPHA2, E_w_ISO3166_1_ALPHA2, F_w_ISO3166_1_ALPHA2_ordinal, S_w_ISO639, E_w_ISO639, F_w_ISO639_ordinal, S_w_ISO15924, E_w_ISO15924, F_w_ISO15924_ordinal, S_w_POSITIVE_NUMBER, E_w_POSITIVE_NUMBER, F_w_POSITIVE_NUMBER_ordinal, S_w_POSITIVE_INTEGER, E_w_POSITIVE_INTEGER, F_w_POSITIVE_INTEGER_ordinal, S_w_NONNEGATIVE_INTEGER, E_w_NONNEGATIVE_INTEGER, F_w_NONNEGATIVE_INTEGER_ordinal, S_w_ISO8601_DATE, E_w_ISO8601_DATE, F_w_ISO8601_DATE_ordinal, S_w_DIGEST, E_w_DIGEST, F_w_DIGEST_ordinal, S_w_PER_TIME_STANDARD, E_w_PER_TIME_STANDARD, F_w_PER_TIME_STANDARD_ordinal, S_w_PER_COORDINATE_SYSTEM, E_w_PER_COORDINATE_SYSTEM, F_w_PER_COORDINATE_SYSTEM_ordinal, S_w_TIME_SPAN, E_w_TIME_SPAN, F_w_TIME_SPAN_ordinal⟩ := id G
  have k0 : Way p e below (s₁.setTop (entryFrame m #[(.int (15 : Int32))] 1)) s₁ (mkF m 0 #[iv (15 : Int32)] []) := fun t k => castTop (by first | (simp [entryFrame, mkF, argsToLocals, Value.category]; done) | rfl) k
  generalize s₁.setTop (entryFrame m #[(.int (15 : Int32))] 1) = S0 at k0 ⊢
  have k1 : Way p e below S0 s₁ (mkF m 143 #[iv (15 : Int32)] []) := by
    intro t k
    refine k0 t ?_
    refine XS.iloadN X0.here hx rfl (hb hby d_method_2_code_0) rfl ?_
    show Steps p.tables e below (s₁.setTop (mkF m 1 #[iv (15 : Int32)] [(.int (15 : Int32))])) _
    refine XS.ifYes X0.here hx rfl (pc0 := 1) (pc' := 8) rfl (hb hby d_method_2_code_1) rfl ((if0 _ _).trans (feq ((by decide) : ¬ ((15 : Int32) = (0 : Int32)))).2) (by decide) (by decide) ?_
    show Steps p.tables e below (s₁.setTop (mkF m 8 #[iv (15 : Int32)] [])) _
    refine XS.iloadN X0.here hx rfl (hb hby d_method_2_code_8) rfl ?_
    show Steps p.tables e below (s₁.setTop (mkF m 9 #[iv (15 : Int32)] [(.int (15 : Int32))])) _
    refine XS.iconst X0.here hx rfl (hb hby d_method_2_code_9) ?_
    show Steps p.tables e below (s₁.setTop (mkF m 10 #[iv (15 : Int32)] [(.int (1 : Int32)), (.int (15 : Int32))])) _
    refine XS.icmpYes X0.here hx rfl (pc0 := 10) (pc' := 17) rfl (hb hby d_method_2_code_10) rfl (feq ((by decide) : ¬ ((15 : Int32) = (1 : Int32)))).2 (by decide) (by decide) ?_
    show Steps p.tables e below (s₁.setTop (mkF m 17 #[iv (15 : Int32)] [])) _
    refine XS.iloadN X0.here hx rfl (hb hby d_method_2_code_17) rfl ?_
    show Steps p.tables e below (s₁.setTop (mkF m 18 #[iv (15 : Int32)] [(.int (15 : Int32))])) _
    refine XS.iconst X0.here hx rfl (hb hby d_method_2_code_18) ?_
    show Steps p.tables e below (s₁.setTop (mkF m 19 #[iv (15 : Int32)] [(.int (2 : Int32)), (.int (15 : Int32))])) _
    refine XS.icmpYes X0.here hx rfl (pc0 := 19) (pc' := 26) rfl (hb hby d_method_2_code_19) rfl (feq ((by decide) : ¬ ((15 : Int32) = (2 : Int32)))).2 (by decide) (by decide) ?_
    show Steps p.tables e below (s₁.setTop (mkF m 26 #[iv (15 : Int32)] [])) _
    refine XS.iloadN X0.here hx rfl (hb hby d_method_2_code_26) rfl ?_
    show Steps p.tables e below (s₁.setTop (mkF m 27 #[iv (15 : Int32)] [(.int (15 : Int32))])) _
    refine XS.iconst X0.here hx rfl (hb hby d_method_2_code_27) ?_
    show Steps p.tables e below (s₁.setTop (mkF m 28 #[iv (15 : Int32)] [(.int (3 : Int32)), (.int (15 : Int32))])) _
    refine XS.icmpYes X0.here hx rfl (pc0 := 28) (pc' := 35) rfl (hb hby d_method_2_code_28) rfl (feq ((by decide) : ¬ ((15 : Int32) = (3 : Int32)))).2 (by decide) (by decide) ?_
    show Steps p.tables e below (s₁.setTop (mkF m 35 #[iv (15 : Int32)] [])) _
    refine XS.iloadN X0.here hx rfl (hb hby d_method_2_code_35) rfl ?_
    show Steps p.tables e below (s₁.setTop (mkF m 36 #[iv (15 : Int32)] [(.int (15 : Int32))])) _
    refine XS.iconst X0.here hx rfl (hb hby d_method_2_code_36) ?_
    show Steps p.tables e below (s₁.setTop (mkF m 37 #[iv (15 : Int32)] [(.int (4 : Int32)), (.int (15 : Int32))])) _
    refine XS.icmpYes X0.here hx rfl (pc0 := 37) (pc' := 44) rfl (hb hby d_method_2_code_37) rfl (feq ((by decide) : ¬ ((15 : Int32) = (4 : Int32)))).2 (by decide) (by decide) ?_
    show Steps p.tables e below (s₁.setTop (mkF m 44 #[iv (15 : Int32)] [])) _
    refine XS.iloadN X0.here hx rfl (hb hby d_method_2_code_44) rfl ?_
    show Steps p.tables e below (s₁.setTop (mkF m 45 #[iv (15 : Int32)] [(.int (15 : Int32))])) _
    refine XS.iconst X0.here hx rfl (hb hby d_method_2_code_45) ?_
    show Steps p.tables e below (s₁.setTop (mkF m 46 #[iv (15 : Int32)] [(.int (5 : Int32)), (.int (15 : Int32))])) _
    refine XS.icmpYes X0.here hx rfl (pc0 := 46) (pc' := 53) rfl (hb hby d_method_2_code_46) rfl (feq ((by decide) : ¬ ((15 : Int32) = (5 : Int32)))).2 (by decide) (by decide) ?_
    show Steps p.tables e below (s₁.setTop (mkF m 53 #[iv (15 : Int32)] [])) _
    refine XS.iloadN X0.here hx rfl (hb hby d_method_2_code_53) rfl ?_
    show Steps p.tables e below (s₁.setTop (mkF m 54 #[iv (15 : Int32)] [(.int (15 : Int32))])) _
    refine XS.bipush X0.here hx rfl (hb hby d_method_2_code_54) ?_
    show Steps p.tables e below (s₁.setTop (mkF m 56 #[iv (15 : Int32)] [(.int (6 : Int32)), (.int (15 : Int32))])) _
    refine XS.icmpYes X0.here hx rfl (pc0 := 56) (pc' := 63) rfl (hb hby d_method_2_code_56) rfl (feq ((by decide) : ¬ ((15 : Int32) = (6 : Int32)))).2 (by decide) (by decide) ?_
    show Steps p.tables e below (s₁.setTop (mkF m 63 #[iv (15 : Int32)] [])) _
    refine XS.iloadN X0.here hx rfl (hb hby d_method_2_code_63) rfl ?_
    show Steps p.tables e below (s₁.setTop (mkF m 64 #[iv (15 : Int32)] [(.int (15 : Int32))])) _
    refine XS.bipush X0.here hx rfl (hb hby d_method_2_code_64) ?_
    show Steps p.tables e below (s₁.setTop (mkF m 66 #[iv (15 : Int32)] [(.int (7 : Int32)), (.int (15 : Int32))])) _
    refine XS.icmpYes X0.here hx rfl (pc0 := 66) (pc' := 73) rfl (hb hby d_method_2_code_66) rfl (feq ((by decide) : ¬ ((15 : Int32) = (7 : Int32)))).2 (by decide) (by decide) ?_
    show Steps p.tables e below (s₁.setTop (mkF m 73 #[iv (15 : Int32)] [])) _
    refine XS.iloadN X0.here hx rfl (hb hby d_method_2_code_73) rfl ?_
    show Steps p.tables e below (s₁.setTop (mkF m 74 #[iv (15 : Int32)] [(.int (15 : Int32))])) _
    refine XS.bipush X0.here hx rfl (hb hby d_method_2_code_74) ?_
    show Steps p.tables e below (s₁.setTop (mkF m 76 #[iv (15 : Int32)] [(.int (8 : Int32)), (.int (15 : Int32))])) _
    refine XS.icmpYes X0.here hx rfl (pc0 := 76) (pc' := 83) rfl (hb hby d_method_2_code_76) rfl (feq ((by decide) : ¬ ((15 : Int32) = (8 : Int32)))).2 (by decide) (by decide) ?_
    show Steps p.tables e below (s₁.setTop (mkF m 83 #[iv (15 : Int32)] [])) _
    refine XS.iloadN X0.here hx rfl (hb hby d_method_2_code_83) rfl ?_
    show Steps p.tables e below (s₁.setTop (mkF m 84 #[iv (15 : Int32)] [(.int (15 : Int32))])) _
    refine XS.bipush X0.here hx rfl (hb hby d_method_2_code_84) ?_
    show Steps p.tables e below (s₁.setTop (mkF m 86 #[iv (15 : Int32)] [(.int (9 : Int32)), (.int (15 : Int32))])) _
    refine XS.icmpYes X0.here hx rfl (pc0 := 86) (pc' := 93) rfl (hb hby d_method_2_code_86) rfl (feq ((by decide) : ¬ ((15 : Int32) = (9 : Int32)))).2 (by decide) (by decide) ?_
    show Steps p.tables e below (s₁.setTop (mkF m 93 #[iv (15 : Int32)] [])) _
    refine XS.iloadN X0.here hx rfl (hb hby d_method_2_code_93) rfl ?_
    show Steps p.tables e below (s₁.setTop (mkF m 94 #[iv (15 : Int32)] [(.int (15 : Int32))])) _
    refine XS.bipush X0.here hx rfl (hb hby d_method_2_code_94) ?_
    show Steps p.tables e below (s₁.setTop (mkF m 96 #[iv (15 : Int32)] [(.int (10 : Int32)), (.int (15 : Int32))])) _
    refine XS.icmpYes X0.here hx rfl (pc0 := 96) (pc' := 103) rfl (hb hby d_method_2_code_96) rfl (feq ((by decide) : ¬ ((15 : Int32) = (10 : Int32)))).2 (by decide) (by decide) ?_
    show Steps p.tables e below (s₁.setTop (mkF m 103 #[iv (15 : Int32)] [])) _
    refine XS.iloadN X0.here hx rfl (hb hby d_method_2_code_103) rfl ?_
    show Steps p.tables e below (s₁.setTop (mkF m 104 #[iv (15 : Int32)] [(.int (15 : Int32))])) _
    refine XS.bipush X0.here hx rfl (hb hby d_method_2_code_104) ?_
    show Steps p.tables e below (s₁.setTop (mkF m 106 #[iv (15 : Int32)] [(.int (11 : Int32)), (.int (15 : Int32))])) _
    refine XS.icmpYes X0.here hx rfl (pc0 := 106) (pc' := 113) rfl (hb hby d_method_2_code_106) rfl (feq ((by decide) : ¬ ((15 : Int32) = (11 : Int32)))).2 (by decide) (by decide) ?_
    show Steps p.tables e below (s₁.setTop (mkF m 113 #[iv (15 : Int32)] [])) _
    refine XS.iloadN X0.here hx rfl (hb hby d_method_2_code_113) rfl ?_
    show Steps p.tables e below (s₁.setTop (mkF m 114 #[iv (15 : Int32)] [(.int (15 : Int32))])) _
    refine XS.bipush X0.here hx rfl (hb hby d_method_2_code_114) ?_
    show Steps p.tables e below (s₁.setTop (mkF m 116 #[iv (15 : Int32)] [(.int (12 : Int32)), (.int (15 : Int32))])) _
    refine XS.icmpYes X0.here hx rfl (pc0 := 116) (pc' := 123) rfl (hb hby d_method_2_code_116) rfl (feq ((by decide) : ¬ ((15 : Int32) = (12 : Int32)))).2 (by decide) (by decide) ?_
    show Steps p.tables e below (s₁.setTop (mkF m 123 #[iv (15 : Int32)] [])) _
    refine XS.iloadN X0.here hx rfl (hb hby d_method_2_code_123) rfl ?_
    show Steps p.tables e below (s₁.setTop (mkF m 124 #[iv (15 : Int32)] [(.int (15 : Int32))])) _
    refine XS.bipush X0.here hx rfl (hb hby d_method_2_code_124) ?_
    show Steps p.tables e below (s₁.setTop (mkF m 126 #[iv (15 : Int32)] [(.int (13 : Int32)), (.int (15 : Int32))])) _
    refine XS.icmpYes X0.here hx rfl (pc0 := 126) (pc' := 133) rfl (hb hby d_method_2_code_126) rfl (feq ((by decide) : ¬ ((15 : Int32) = (13 : Int32)))).2 (by decide) (by decide) ?_
    show Steps p.tables e below (s₁.setTop (mkF m 133 #[iv (15 : Int32)] [])) _
    refine XS.iloadN X0.here hx rfl (hb hby d_method_2_code_133) rfl ?_
    show Steps p.tables e below (s₁.setTop (mkF m 134 #[iv (15 : Int32)] [(.int (15 : Int32))])) _
    refine XS.bipush X0.here hx rfl (hb hby d_method_2_code_134) ?_
    show Steps p.tables e below (s₁.setTop (mkF m 136 #[iv (15 : Int32)] [(.int (14 : Int32)), (.int (15 : Int32))])) _
    refine XS.icmpYes X0.here hx rfl (pc0 := 136) (pc' := 143) rfl (hb hby d_method_2_code_136) rfl (feq ((by decide) : ¬ ((15 : Int32) = (14 : Int32)))).2 (by decide) (by decide) ?_
    show Steps p.tables e below (s₁.setTop (mkF m 143 #[iv (15 : Int32)] [])) _
    exact k
  obtain ⟨T2, X2, e2, st2⟩ := getS2 X0 hx hZ hown (host := "") (Or.inl (hw _ (List.mem_of_getElem? (i := 22) rfl))) Via.refl e0 (S_w_TIME_SPAN.ext O0.2) (g := (mkF m 143 #[iv (15 : Int32)] [])) rfl (hb hby d_method_2_code_143)
  have k3 : Way p e below S0 T2 (mkF m 146 #[iv (15 : Int32)] [(.ref w_TIME_SPAN)]) := fun t k => k1 t (st2 _ k)
  obtain ⟨fs, hr, hrun, hended, hW, hsame⟩ := X2.leave (v := some (.ref w_TIME_SPAN)) (fun h => by rw [Bd.returns] at h; cases h)
  refine ⟨_, _, k3 _ (retOut X2 hx Bd.returns rfl (Or.inr (Or.inr (Or.inr (Or.inr ⟨rfl, rfl, rfl⟩)))) (hb hby d_method_2_code_146) hr), hrun, hended, _, _, rfl, ?_, ⟨_, rfl⟩, hW, hsame.mono (by decide) (by decide)⟩
  show Q_pick15 Z w_TEXT w_COMPOSITE w_CLOSED_LIST w_LISTED w_URI w_ISO3166_1_ALPHA2 w_ISO639 w_ISO15924 w_POSITIVE_NUMBER w_POSITIVE_INTEGER w_NONNEGATIVE_INTEGER w_ISO8601_DATE w_DIGEST w_PER_TIME_STANDARD w_PER_COORDINATE_SYSTEM w_TIME_SPAN  h0 n0 _ T2.heap _
  rw [e2]
  exact ⟨rfl, N0, rfl⟩
def Q_tff0 (Z : State) (w_TEXT : Addr) (w_COMPOSITE : Addr) (w_CLOSED_LIST : Addr) (w_LISTED : Addr) (w_URI : Addr) (w_ISO3166_1_ALPHA2 : Addr) (w_ISO639 : Addr) (w_ISO15924 : Addr) (w_POSITIVE_NUMBER : Addr) (w_POSITIVE_INTEGER : Addr) (w_NONNEGATIVE_INTEGER : Addr) (w_ISO8601_DATE : Addr) (w_DIGEST : Addr) (w_PER_TIME_STANDARD : Addr) (w_PER_COORDINATE_SYSTEM : Addr) (w_TIME_SPAN : Addr)  (h0 : Heap) (n0 : Nat) (v : Option Value) (h : Heap) (L : List Loc) : Prop := (v = some (.int (0 : Int32))) ∧ (Fr n0 L) ∧ (h = h0)
set_option maxRecDepth 65536 in
set_option maxHeartbeats 40000000 in
theorem tff0 (l : Launch) (Z : State) (a0 : Array Value) (hw : ∀ d ∈ tables_1, d.before a0 Z = true) (ws : List Jvm.Cond) (w_TEXT : Addr) (w_COMPOSITE : Addr) (w_CLOSED_LIST : Addr) (w_LISTED : Addr) (w_URI : Addr) (w_ISO3166_1_ALPHA2 : Addr) (w_ISO639 : Addr) (w_ISO15924 : Addr) (w_POSITIVE_NUMBER : Addr) (w_POSITIVE_INTEGER : Addr) (w_NONNEGATIVE_INTEGER : Addr) (w_ISO8601_DATE : Addr) (w_DIGEST : Addr) (w_PER_TIME_STANDARD : Addr) (w_PER_COORDINATE_SYSTEM : Addr) (w_TIME_SPAN : Addr) (G : Gst Z w_TEXT w_COMPOSITE w_CLOSED_LIST w_LISTED w_URI w_ISO3166_1_ALPHA2 w_ISO639 w_ISO15924 w_POSITIVE_NUMBER w_POSITIVE_INTEGER w_NONNEGATIVE_INTEGER w_ISO8601_DATE w_DIGEST w_PER_TIME_STANDARD w_PER_COORDINATE_SYSTEM w_TIME_SPAN)  (h0 : Heap) (n0 : Nat) (O0 : Old Z n0 h0) :
    MetFree l (⟨"gradivo/spec/ValueKind", "takesFormFrom", "()Z"⟩ : MethodName) (head1 (Jvm.Cond.code (⟨"gradivo/spec/ValueKind", "takesFormFrom", "()Z"⟩ : MethodName) prog_105_method_7_code 1 (some .boolean) :: ws) ({ frames := 0, cells := 0, slots := 0, locals := 0 } : Room)) (fun a U => a = #[(.ref w_TEXT)] ∧ Z.Warmed39 U.vm ∧ U.heap = h0) (fun _ _ _ _ _ => True) (fun _ U o U' => ∃ v L, o = .returned v ∧ Q_tff0 Z w_TEXT w_COMPOSITE w_CLOSED_LIST w_LISTED w_URI w_ISO3166_1_ALPHA2 w_ISO639 w_ISO15924 w_POSITIVE_NUMBER w_POSITIVE_INTEGER w_NONNEGATIVE_INTEGER w_ISO8601_DATE w_DIGEST w_PER_TIME_STANDARD w_PER_COORDINATE_SYSTEM w_TIME_SPAN  h0 n0 v U'.heap L ∧ FrameEnd U o U' L ({ frames := 0, cells := 0, slots := 0, locals := 0 } : Room).cells ({ frames := 0, cells := 0, slots := 0, locals := 0 } : Room).slots) := by
  refine MetFree.of_bodySF (plainFor_of_name pn_1) hisR ?_
  intro p e s m args below meth c s₁ Bd hml0 hP hK
  obtain ⟨rfl, hZ, hh⟩ := hP
  have hx := Bd.exec
  have hby := Bd.bytes
  have hml : c.maxLocals = 1 := hml0
  have hown : s.vm.findClass "gradivo/spec/ValueKind" = some m.cls := findClass_of_methodNamed Bd.named
  have hnm := (name_of_methodNamed Bd.named Bd.method).1
  have X0 : Stand p l e ({ frames := 0, cells := 0, slots := 0, locals := 0 } : Room) s m #[(.ref w_TEXT)] below meth c s₁ [] 0 0 := Stand.of_body Bd
  have e0 : s₁.heap = h0 := by rw [← hh, Bd.state]; rfl
  have N0 := Fr.nil n0
  obtain ⟨S_w_TEXT, E_w_TEXT, F_w_TEXT_ordinal, S_w_COMPOSITE, E_w_COMPOSITE, F_w_COMPOSITE_ordinal, S_w_CLOSED_LIST, E_w_CLOSED_LIST, F_w_CLOSED_LIST_ordinal, S_w_LISTED, E_w_LISTED, F_w_LISTED_ordinal, S_w_URI, E_w_URI, F_w_URI_ordinal, S_w_ISO3166_1_ALPHA2, E_w_ISO3166_1_ALPHA2, F_w_ISO3166_1_ALPHA2_ordinal, S_w_ISO639, E_w_ISO639, F_w_ISO639_ordinal, S_w_ISO15924, E_w_ISO15924, F_w_ISO15924_ordinal, S_w_POSITIVE_NUMBER, E_w_POSITIVE_NUMBER, F_w_POSITIVE_NUMBER_ordinal, S_w_POSITIVE_INTEGER, E_w_POSITIVE_INTEGER, F_w_POSITIVE_INTEGER_ordinal, S_w_NONNEGATIVE_INTEGER, E_w_NONNEGATIVE_INTEGER, F_w_NONNEGATIVE_INTEGER_ordinal, S_w_ISO8601_DATE, E_w_ISO8601_DATE, F_w_ISO8601_DATE_ordinal, S_w_DIGEST, E_w_DIGEST, F_w_DIGEST_ordinal, S_w_PER_TIME_STANDARD, E_w_PER_TIME_STANDARD, F_w_PER_TIME_STANDARD_ordinal, S_w_PER_COORDINATE_SYSTEM, E_w_PER_COORDINATE_SYSTEM, F_w_PER_COORDINATE_SYSTEM_ordinal, S_w_TIME_SPAN, E_w_TIME_SPAN, F_w_TIME_SPAN_ordinal⟩ := id G
  have k0 : Way p e below (s₁.setTop (entryFrame m #[(.ref w_TEXT)] 1)) s₁ (mkF m 0 #[rv w_TEXT] []) := fun t k => castTop (by first | (simp [entryFrame, mkF, argsToLocals, Value.category]; done) | rfl) k
  generalize s₁.setTop (entryFrame m #[(.ref w_TEXT)] 1) = S0 at k0 ⊢
  have k1 : Way p e below S0 s₁ (mkF m 1 #[rv w_TEXT] [(.ref w_TEXT)]) := by
    intro t k
    refine k0 t ?_
    refine XS.aloadN X0.here hx rfl (hb hby d_prog_105_method_7_code_0) rfl rfl ?_
    show Steps p.tables e below (s₁.setTop (mkF m 1 #[rv w_TEXT] [(.ref w_TEXT)])) _
    exact k
  obtain ⟨T2, X2, e2, st2⟩ := getS2 X0 hx hZ hown (host := "") (Or.inl (hw _ (List.mem_of_getElem? (i := 13) rfl))) Via.refl e0 (S_w_DIGEST.ext O0.2) (g := (mkF m 1 #[rv w_TEXT] [(.ref w_TEXT)])) rfl (hb hby d_prog_105_method_7_code_1)
  have k3 : Way p e below S0 T2 (mkF m 4 #[rv w_TEXT] [(.ref w_DIGEST), (.ref w_TEXT)]) := fun t k => k1 t (st2 _ k)
  have k4 : Way p e below S0 T2 (mkF m 8 #[rv w_TEXT] [(.ref w_TEXT)]) := by
    intro t k
    refine k3 t ?_
    refine Jvm.RoadKit.acmp (g := (mkF m 4 #[rv w_TEXT] [(.ref w_DIGEST), (.ref w_TEXT)])) X2 hx rfl rfl rfl (pc0 := 4) (pc' := 7) (same := false) rfl (hb hby d_prog_105_method_7_code_4) rfl (decide_eq_false fun q => absurd (Value.ref.inj q) (F_w_TEXT_ordinal.ne F_w_DIGEST_ordinal (by decide))) (by decide) (by decide) ?_
    show Steps p.tables e below (T2.setTop (mkF m 7 #[rv w_TEXT] [])) _
    refine XS.aloadN X2.here hx rfl (hb hby d_prog_105_method_7_code_7) rfl rfl ?_
    show Steps p.tables e below (T2.setTop (mkF m 8 #[rv w_TEXT] [(.ref w_TEXT)])) _
    exact k
  obtain ⟨T5, X5, e5, st5⟩ := getS2 X2 hx hZ hown (host := "") (Or.inl (hw _ (List.mem_of_getElem? (i := 15) rfl))) Via.refl e2 (S_w_PER_TIME_STANDARD.ext O0.2) (g := (mkF m 8 #[rv w_TEXT] [(.ref w_TEXT)])) rfl (hb hby d_prog_105_method_7_code_8)
  have k6 : Way p e below S0 T5 (mkF m 11 #[rv w_TEXT] [(.ref w_PER_TIME_STANDARD), (.ref w_TEXT)]) := fun t k => k4 t (st5 _ k)
  have k7 : Way p e below S0 T5 (mkF m 15 #[rv w_TEXT] [(.ref w_TEXT)]) := by
    intro t k
    refine k6 t ?_
    refine Jvm.RoadKit.acmp (g := (mkF m 11 #[rv w_TEXT] [(.ref w_PER_TIME_STANDARD), (.ref w_TEXT)])) X5 hx rfl rfl rfl (pc0 := 11) (pc' := 14) (same := false) rfl (hb hby d_prog_105_method_7_code_11) rfl (decide_eq_false fun q => absurd (Value.ref.inj q) (F_w_TEXT_ordinal.ne F_w_PER_TIME_STANDARD_ordinal (by decide))) (by decide) (by decide) ?_
    show Steps p.tables e below (T5.setTop (mkF m 14 #[rv w_TEXT] [])) _
    refine XS.aloadN X5.here hx rfl (hb hby d_prog_105_method_7_code_14) rfl rfl ?_
    show Steps p.tables e below (T5.setTop (mkF m 15 #[rv w_TEXT] [(.ref w_TEXT)])) _
    exact k
  obtain ⟨T8, X8, e8, st8⟩ := getS2 X5 hx hZ hown (host := "") (Or.inl (hw _ (List.mem_of_getElem? (i := 17) rfl))) Via.refl e5 (S_w_PER_COORDINATE_SYSTEM.ext O0.2) (g := (mkF m 15 #[rv w_TEXT] [(.ref w_TEXT)])) rfl (hb hby d_prog_105_method_7_code_15)
  have k9 : Way p e below S0 T8 (mkF m 18 #[rv w_TEXT] [(.ref w_PER_COORDINATE_SYSTEM), (.ref w_TEXT)]) := fun t k => k7 t (st8 _ k)
  have k10 : Way p e below S0 T8 (mkF m 26 #[rv w_TEXT] [(.int (0 : Int32))]) := by
    intro t k
    refine k9 t ?_
    refine Jvm.RoadKit.acmp (g := (mkF m 18 #[rv w_TEXT] [(.ref w_PER_COORDINATE_SYSTEM), (.ref w_TEXT)])) X8 hx rfl rfl rfl (pc0 := 18) (pc' := 25) (same := false) rfl (hb hby d_prog_105_method_7_code_18) rfl (decide_eq_false fun q => absurd (Value.ref.inj q) (F_w_TEXT_ordinal.ne F_w_PER_COORDINATE_SYSTEM_ordinal (by decide))) (by decide) (by decide) ?_
    show Steps p.tables e below (T8.setTop (mkF m 25 #[rv w_TEXT] [])) _
    refine XS.iconst X8.here hx rfl (hb hby d_prog_105_method_7_code_25) ?_
    show Steps p.tables e below (T8.setTop (mkF m 26 #[rv w_TEXT] [(.int (0 : Int32))])) _
    exact k
  obtain ⟨fs, hr, hrun, hended, hW, hsame⟩ := X8.leave (v := some (.int (0 : Int32))) (fun h => by rw [Bd.returns] at h; cases h)
  refine ⟨_, _, k10 _ (retN X8 hx (t := .boolean) Bd.returns (by simp) (hb hby d_prog_105_method_7_code_26) hr), hrun, hended, _, _, rfl, ?_, ⟨_, rfl⟩, hW, hsame.mono (by decide) (by decide)⟩
  show Q_tff0 Z w_TEXT w_COMPOSITE w_CLOSED_LIST w_LISTED w_URI w_ISO3166_1_ALPHA2 w_ISO639 w_ISO15924 w_POSITIVE_NUMBER w_POSITIVE_INTEGER w_NONNEGATIVE_INTEGER w_ISO8601_DATE w_DIGEST w_PER_TIME_STANDARD w_PER_COORDINATE_SYSTEM w_TIME_SPAN  h0 n0 _ T8.heap _
  rw [e8]
  exact ⟨rfl, N0, rfl⟩
def Q_tff1 (Z : State) (w_TEXT : Addr) (w_COMPOSITE : Addr) (w_CLOSED_LIST : Addr) (w_LISTED : Addr) (w_URI : Addr) (w_ISO3166_1_ALPHA2 : Addr) (w_ISO639 : Addr) (w_ISO15924 : Addr) (w_POSITIVE_NUMBER : Addr) (w_POSITIVE_INTEGER : Addr) (w_NONNEGATIVE_INTEGER : Addr) (w_ISO8601_DATE : Addr) (w_DIGEST : Addr) (w_PER_TIME_STANDARD : Addr) (w_PER_COORDINATE_SYSTEM : Addr) (w_TIME_SPAN : Addr)  (h0 : Heap) (n0 : Nat) (v : Option Value) (h : Heap) (L : List Loc) : Prop := (v = some (.int (0 : Int32))) ∧ (Fr n0 L) ∧ (h = h0)
set_option maxRecDepth 65536 in
set_option maxHeartbeats 40000000 in
theorem tff1 (l : Launch) (Z : State) (a0 : Array Value) (hw : ∀ d ∈ tables_1, d.before a0 Z = true) (ws : List Jvm.Cond) (w_TEXT : Addr) (w_COMPOSITE : Addr) (w_CLOSED_LIST : Addr) (w_LISTED : Addr) (w_URI : Addr) (w_ISO3166_1_ALPHA2 : Addr) (w_ISO639 : Addr) (w_ISO15924 : Addr) (w_POSITIVE_NUMBER : Addr) (w_POSITIVE_INTEGER : Addr) (w_NONNEGATIVE_INTEGER : Addr) (w_ISO8601_DATE : Addr) (w_DIGEST : Addr) (w_PER_TIME_STANDARD : Addr) (w_PER_COORDINATE_SYSTEM : Addr) (w_TIME_SPAN : Addr) (G : Gst Z w_TEXT w_COMPOSITE w_CLOSED_LIST w_LISTED w_URI w_ISO3166_1_ALPHA2 w_ISO639 w_ISO15924 w_POSITIVE_NUMBER w_POSITIVE_INTEGER w_NONNEGATIVE_INTEGER w_ISO8601_DATE w_DIGEST w_PER_TIME_STANDARD w_PER_COORDINATE_SYSTEM w_TIME_SPAN)  (h0 : Heap) (n0 : Nat) (O0 : Old Z n0 h0) :
    MetFree l (⟨"gradivo/spec/ValueKind", "takesFormFrom", "()Z"⟩ : MethodName) (head1 (Jvm.Cond.code (⟨"gradivo/spec/ValueKind", "takesFormFrom", "()Z"⟩ : MethodName) prog_105_method_7_code 1 (some .boolean) :: ws) ({ frames := 0, cells := 0, slots := 0, locals := 0 } : Room)) (fun a U => a = #[(.ref w_COMPOSITE)] ∧ Z.Warmed39 U.vm ∧ U.heap = h0) (fun _ _ _ _ _ => True) (fun _ U o U' => ∃ v L, o = .returned v ∧ Q_tff1 Z w_TEXT w_COMPOSITE w_CLOSED_LIST w_LISTED w_URI w_ISO3166_1_ALPHA2 w_ISO639 w_ISO15924 w_POSITIVE_NUMBER w_POSITIVE_INTEGER w_NONNEGATIVE_INTEGER w_ISO8601_DATE w_DIGEST w_PER_TIME_STANDARD w_PER_COORDINATE_SYSTEM w_TIME_SPAN  h0 n0 v U'.heap L ∧ FrameEnd U o U' L ({ frames := 0, cells := 0, slots := 0, locals := 0 } : Room).cells ({ frames := 0, cells := 0, slots := 0, locals := 0 } : Room).slots) := by
  refine MetFree.of_bodySF (plainFor_of_name pn_1) hisR ?_
  intro p e s m args below meth c s₁ Bd hml0 hP hK
  obtain ⟨rfl, hZ, hh⟩ := hP
  have hx := Bd.exec
  have hby := Bd.bytes
  have hml : c.maxLocals = 1 := hml0
  have hown : s.vm.findClass "gradivo/spec/ValueKind" = some m.cls := findClass_of_methodNamed Bd.named
  have hnm := (name_of_methodNamed Bd.named Bd.method).1
  have X0 : Stand p l e ({ frames := 0, cells := 0, slots := 0, locals := 0 } : Room) s m #[(.ref w_COMPOSITE)] below meth c s₁ [] 0 0 := Stand.of_body Bd
  have e0 : s₁.heap = h0 := by rw [← hh, Bd.state]; rfl
  have N0 := Fr.nil n0
  obtain ⟨S_w_TEXT, E_w_TEXT, F_w_TEXT_ordinal, S_w_COMPOSITE, E_w_COMPOSITE, F_w_COMPOSITE_ordinal, S_w_CLOSED_LIST, E_w_CLOSED_LIST, F_w_CLOSED_LIST_ordinal, S_w_LISTED, E_w_LISTED, F_w_LISTED_ordinal, S_w_URI, E_w_URI, F_w_URI_ordinal, S_w_ISO3166_1_ALPHA2, E_w_ISO3166_1_ALPHA2, F_w_ISO3166_1_ALPHA2_ordinal, S_w_ISO639, E_w_ISO639, F_w_ISO639_ordinal, S_w_ISO15924, E_w_ISO15924, F_w_ISO15924_ordinal, S_w_POSITIVE_NUMBER, E_w_POSITIVE_NUMBER, F_w_POSITIVE_NUMBER_ordinal, S_w_POSITIVE_INTEGER, E_w_POSITIVE_INTEGER, F_w_POSITIVE_INTEGER_ordinal, S_w_NONNEGATIVE_INTEGER, E_w_NONNEGATIVE_INTEGER, F_w_NONNEGATIVE_INTEGER_ordinal, S_w_ISO8601_DATE, E_w_ISO8601_DATE, F_w_ISO8601_DATE_ordinal, S_w_DIGEST, E_w_DIGEST, F_w_DIGEST_ordinal, S_w_PER_TIME_STANDARD, E_w_PER_TIME_STANDARD, F_w_PER_TIME_STANDARD_ordinal, S_w_PER_COORDINATE_SYSTEM, E_w_PER_COORDINATE_SYSTEM, F_w_PER_COORDINATE_SYSTEM_ordinal, S_w_TIME_SPAN, E_w_TIME_SPAN, F_w_TIME_SPAN_ordinal⟩ := id G
  have k0 : Way p e below (s₁.setTop (entryFrame m #[(.ref w_COMPOSITE)] 1)) s₁ (mkF m 0 #[rv w_COMPOSITE] []) := fun t k => castTop (by first | (simp [entryFrame, mkF, argsToLocals, Value.category]; done) | rfl) k
  generalize s₁.setTop (entryFrame m #[(.ref w_COMPOSITE)] 1) = S0 at k0 ⊢
  have k1 : Way p e below S0 s₁ (mkF m 1 #[rv w_COMPOSITE] [(.ref w_COMPOSITE)]) := by
    intro t k
    refine k0 t ?_
    refine XS.aloadN X0.here hx rfl (hb hby d_prog_105_method_7_code_0) rfl rfl ?_
    show Steps p.tables e below (s₁.setTop (mkF m 1 #[rv w_COMPOSITE] [(.ref w_COMPOSITE)])) _
    exact k
  obtain ⟨T2, X2, e2, st2⟩ := getS2 X0 hx hZ hown (host := "") (Or.inl (hw _ (List.mem_of_getElem? (i := 13) rfl))) Via.refl e0 (S_w_DIGEST.ext O0.2) (g := (mkF m 1 #[rv w_COMPOSITE] [(.ref w_COMPOSITE)])) rfl (hb hby d_prog_105_method_7_code_1)
  have k3 : Way p e below S0 T2 (mkF m 4 #[rv w_COMPOSITE] [(.ref w_DIGEST), (.ref w_COMPOSITE)]) := fun t k => k1 t (st2 _ k)
  have k4 : Way p e below S0 T2 (mkF m 8 #[rv w_COMPOSITE] [(.ref w_COMPOSITE)]) := by
    intro t k
    refine k3 t ?_
    refine Jvm.RoadKit.acmp (g := (mkF m 4 #[rv w_COMPOSITE] [(.ref w_DIGEST), (.ref w_COMPOSITE)])) X2 hx rfl rfl rfl (pc0 := 4) (pc' := 7) (same := false) rfl (hb hby d_prog_105_method_7_code_4) rfl (decide_eq_false fun q => absurd (Value.ref.inj q) (F_w_COMPOSITE_ordinal.ne F_w_DIGEST_ordinal (by decide))) (by decide) (by decide) ?_
    show Steps p.tables e below (T2.setTop (mkF m 7 #[rv w_COMPOSITE] [])) _
    refine XS.aloadN X2.here hx rfl (hb hby d_prog_105_method_7_code_7) rfl rfl ?_
    show Steps p.tables e below (T2.setTop (mkF m 8 #[rv w_COMPOSITE] [(.ref w_COMPOSITE)])) _
    exact k
  obtain ⟨T5, X5, e5, st5⟩ := getS2 X2 hx hZ hown (host := "") (Or.inl (hw _ (List.mem_of_getElem? (i := 15) rfl))) Via.refl e2 (S_w_PER_TIME_STANDARD.ext O0.2) (g := (mkF m 8 #[rv w_COMPOSITE] [(.ref w_COMPOSITE)])) rfl (hb hby d_prog_105_method_7_code_8)
  have k6 : Way p e below S0 T5 (mkF m 11 #[rv w_COMPOSITE] [(.ref w_PER_TIME_STANDARD), (.ref w_COMPOSITE)]) := fun t k => k4 t (st5 _ k)
  have k7 : Way p e below S0 T5 (mkF m 15 #[rv w_COMPOSITE] [(.ref w_COMPOSITE)]) := by
    intro t k
    refine k6 t ?_
    refine Jvm.RoadKit.acmp (g := (mkF m 11 #[rv w_COMPOSITE] [(.ref w_PER_TIME_STANDARD), (.ref w_COMPOSITE)])) X5 hx rfl rfl rfl (pc0 := 11) (pc' := 14) (same := false) rfl (hb hby d_prog_105_method_7_code_11) rfl (decide_eq_false fun q => absurd (Value.ref.inj q) (F_w_COMPOSITE_ordinal.ne F_w_PER_TIME_STANDARD_ordinal (by decide))) (by decide) (by decide) ?_
    show Steps p.tables e below (T5.setTop (mkF m 14 #[rv w_COMPOSITE] [])) _
    refine XS.aloadN X5.here hx rfl (hb hby d_prog_105_method_7_code_14) rfl rfl ?_
    show Steps p.tables e below (T5.setTop (mkF m 15 #[rv w_COMPOSITE] [(.ref w_COMPOSITE)])) _
    exact k
  obtain ⟨T8, X8, e8, st8⟩ := getS2 X5 hx hZ hown (host := "") (Or.inl (hw _ (List.mem_of_getElem? (i := 17) rfl))) Via.refl e5 (S_w_PER_COORDINATE_SYSTEM.ext O0.2) (g := (mkF m 15 #[rv w_COMPOSITE] [(.ref w_COMPOSITE)])) rfl (hb hby d_prog_105_method_7_code_15)
  have k9 : Way p e below S0 T8 (mkF m 18 #[rv w_COMPOSITE] [(.ref w_PER_COORDINATE_SYSTEM), (.ref w_COMPOSITE)]) := fun t k => k7 t (st8 _ k)
  have k10 : Way p e below S0 T8 (mkF m 26 #[rv w_COMPOSITE] [(.int (0 : Int32))]) := by
    intro t k
    refine k9 t ?_
    refine Jvm.RoadKit.acmp (g := (mkF m 18 #[rv w_COMPOSITE] [(.ref w_PER_COORDINATE_SYSTEM), (.ref w_COMPOSITE)])) X8 hx rfl rfl rfl (pc0 := 18) (pc' := 25) (same := false) rfl (hb hby d_prog_105_method_7_code_18) rfl (decide_eq_false fun q => absurd (Value.ref.inj q) (F_w_COMPOSITE_ordinal.ne F_w_PER_COORDINATE_SYSTEM_ordinal (by decide))) (by decide) (by decide) ?_
    show Steps p.tables e below (T8.setTop (mkF m 25 #[rv w_COMPOSITE] [])) _
    refine XS.iconst X8.here hx rfl (hb hby d_prog_105_method_7_code_25) ?_
    show Steps p.tables e below (T8.setTop (mkF m 26 #[rv w_COMPOSITE] [(.int (0 : Int32))])) _
    exact k
  obtain ⟨fs, hr, hrun, hended, hW, hsame⟩ := X8.leave (v := some (.int (0 : Int32))) (fun h => by rw [Bd.returns] at h; cases h)
  refine ⟨_, _, k10 _ (retN X8 hx (t := .boolean) Bd.returns (by simp) (hb hby d_prog_105_method_7_code_26) hr), hrun, hended, _, _, rfl, ?_, ⟨_, rfl⟩, hW, hsame.mono (by decide) (by decide)⟩
  show Q_tff1 Z w_TEXT w_COMPOSITE w_CLOSED_LIST w_LISTED w_URI w_ISO3166_1_ALPHA2 w_ISO639 w_ISO15924 w_POSITIVE_NUMBER w_POSITIVE_INTEGER w_NONNEGATIVE_INTEGER w_ISO8601_DATE w_DIGEST w_PER_TIME_STANDARD w_PER_COORDINATE_SYSTEM w_TIME_SPAN  h0 n0 _ T8.heap _
  rw [e8]
  exact ⟨rfl, N0, rfl⟩
def Q_tff2 (Z : State) (w_TEXT : Addr) (w_COMPOSITE : Addr) (w_CLOSED_LIST : Addr) (w_LISTED : Addr) (w_URI : Addr) (w_ISO3166_1_ALPHA2 : Addr) (w_ISO639 : Addr) (w_ISO15924 : Addr) (w_POSITIVE_NUMBER : Addr) (w_POSITIVE_INTEGER : Addr) (w_NONNEGATIVE_INTEGER : Addr) (w_ISO8601_DATE : Addr) (w_DIGEST : Addr) (w_PER_TIME_STANDARD : Addr) (w_PER_COORDINATE_SYSTEM : Addr) (w_TIME_SPAN : Addr)  (h0 : Heap) (n0 : Nat) (v : Option Value) (h : Heap) (L : List Loc) : Prop := (v = some (.int (0 : Int32))) ∧ (Fr n0 L) ∧ (h = h0)
set_option maxRecDepth 65536 in
set_option maxHeartbeats 40000000 in
theorem tff2 (l : Launch) (Z : State) (a0 : Array Value) (hw : ∀ d ∈ tables_1, d.before a0 Z = true) (ws : List Jvm.Cond) (w_TEXT : Addr) (w_COMPOSITE : Addr) (w_CLOSED_LIST : Addr) (w_LISTED : Addr) (w_URI : Addr) (w_ISO3166_1_ALPHA2 : Addr) (w_ISO639 : Addr) (w_ISO15924 : Addr) (w_POSITIVE_NUMBER : Addr) (w_POSITIVE_INTEGER : Addr) (w_NONNEGATIVE_INTEGER : Addr) (w_ISO8601_DATE : Addr) (w_DIGEST : Addr) (w_PER_TIME_STANDARD : Addr) (w_PER_COORDINATE_SYSTEM : Addr) (w_TIME_SPAN : Addr) (G : Gst Z w_TEXT w_COMPOSITE w_CLOSED_LIST w_LISTED w_URI w_ISO3166_1_ALPHA2 w_ISO639 w_ISO15924 w_POSITIVE_NUMBER w_POSITIVE_INTEGER w_NONNEGATIVE_INTEGER w_ISO8601_DATE w_DIGEST w_PER_TIME_STANDARD w_PER_COORDINATE_SYSTEM w_TIME_SPAN)  (h0 : Heap) (n0 : Nat) (O0 : Old Z n0 h0) :
    MetFree l (⟨"gradivo/spec/ValueKind", "takesFormFrom", "()Z"⟩ : MethodName) (head1 (Jvm.Cond.code (⟨"gradivo/spec/ValueKind", "takesFormFrom", "()Z"⟩ : MethodName) prog_105_method_7_code 1 (some .boolean) :: ws) ({ frames := 0, cells := 0, slots := 0, locals := 0 } : Room)) (fun a U => a = #[(.ref w_CLOSED_LIST)] ∧ Z.Warmed39 U.vm ∧ U.heap = h0) (fun _ _ _ _ _ => True) (fun _ U o U' => ∃ v L, o = .returned v ∧ Q_tff2 Z w_TEXT w_COMPOSITE w_CLOSED_LIST w_LISTED w_URI w_ISO3166_1_ALPHA2 w_ISO639 w_ISO15924 w_POSITIVE_NUMBER w_POSITIVE_INTEGER w_NONNEGATIVE_INTEGER w_ISO8601_DATE w_DIGEST w_PER_TIME_STANDARD w_PER_COORDINATE_SYSTEM w_TIME_SPAN  h0 n0 v U'.heap L ∧ FrameEnd U o U' L ({ frames := 0, cells := 0, slots := 0, locals := 0 } : Room).cells ({ frames := 0, cells := 0, slots := 0, locals := 0 } : Room).slots) := by
  refine MetFree.of_bodySF (plainFor_of_name pn_1) hisR ?_
  intro p e s m args below meth c s₁ Bd hml0 hP hK
  obtain ⟨rfl, hZ, hh⟩ := hP
  have hx := Bd.exec
  have hby := Bd.bytes
  have hml : c.maxLocals = 1 := hml0
  have hown : s.vm.findClass "gradivo/spec/ValueKind" = some m.cls := findClass_of_methodNamed Bd.named
  have hnm := (name_of_methodNamed Bd.named Bd.method).1
  have X0 : Stand p l e ({ frames := 0, cells := 0, slots := 0, locals := 0 } : Room) s m #[(.ref w_CLOSED_LIST)] below meth c s₁ [] 0 0 := Stand.of_body Bd
  have e0 : s₁.heap = h0 := by rw [← hh, Bd.state]; rfl
  have N0 := Fr.nil n0
  obtain ⟨S_w_TEXT, E_w_TEXT, F_w_TEXT_ordinal, S_w_COMPOSITE, E_w_COMPOSITE, F_w_COMPOSITE_ordinal, S_w_CLOSED_LIST, E_w_CLOSED_LIST, F_w_CLOSED_LIST_ordinal, S_w_LISTED, E_w_LISTED, F_w_LISTED_ordinal, S_w_URI, E_w_URI, F_w_URI_ordinal, S_w_ISO3166_1_ALPHA2, E_w_ISO3166_1_ALPHA2, F_w_ISO3166_1_ALPHA2_ordinal, S_w_ISO639, E_w_ISO639, F_w_ISO639_ordinal, S_w_ISO15924, E_w_ISO15924, F_w_ISO15924_ordinal, S_w_POSITIVE_NUMBER, E_w_POSITIVE_NUMBER, F_w_POSITIVE_NUMBER_ordinal, S_w_POSITIVE_INTEGER, E_w_POSITIVE_INTEGER, F_w_POSITIVE_INTEGER_ordinal, S_w_NONNEGATIVE_INTEGER, E_w_NONNEGATIVE_INTEGER, F_w_NONNEGATIVE_INTEGER_ordinal, S_w_ISO8601_DATE, E_w_ISO8601_DATE, F_w_ISO8601_DATE_ordinal, S_w_DIGEST, E_w_DIGEST, F_w_DIGEST_ordinal, S_w_PER_TIME_STANDARD, E_w_PER_TIME_STANDARD, F_w_PER_TIME_STANDARD_ordinal, S_w_PER_COORDINATE_SYSTEM, E_w_PER_COORDINATE_SYSTEM, F_w_PER_COORDINATE_SYSTEM_ordinal, S_w_TIME_SPAN, E_w_TIME_SPAN, F_w_TIME_SPAN_ordinal⟩ := id G
  have k0 : Way p e below (s₁.setTop (entryFrame m #[(.ref w_CLOSED_LIST)] 1)) s₁ (mkF m 0 #[rv w_CLOSED_LIST] []) := fun t k => castTop (by first | (simp [entryFrame, mkF, argsToLocals, Value.category]; done) | rfl) k
  generalize s₁.setTop (entryFrame m #[(.ref w_CLOSED_LIST)] 1) = S0 at k0 ⊢
  have k1 : Way p e below S0 s₁ (mkF m 1 #[rv w_CLOSED_LIST] [(.ref w_CLOSED_LIST)]) := by
    intro t k
    refine k0 t ?_
    refine XS.aloadN X0.here hx rfl (hb hby d_prog_105_method_7_code_0) rfl rfl ?_
    show Steps p.tables e below (s₁.setTop (mkF m 1 #[rv w_CLOSED_LIST] [(.ref w_CLOSED_LIST)])) _
    exact k
  obtain ⟨T2, X2, e2, st2⟩ := getS2 X0 hx hZ hown (host := "") (Or.inl (hw _ (List.mem_of_getElem? (i := 13) rfl))) Via.refl e0 (S_w_DIGEST.ext O0.2) (g := (mkF m 1 #[rv w_CLOSED_LIST] [(.ref w_CLOSED_LIST)])) rfl (hb hby d_prog_105_method_7_code_1)
  have k3 : Way p e below S0 T2 (mkF m 4 #[rv w_CLOSED_LIST] [(.ref w_DIGEST), (.ref w_CLOSED_LIST)]) := fun t k => k1 t (st2 _ k)
  have k4 : Way p e below S0 T2 (mkF m 8 #[rv w_CLOSED_LIST] [(.ref w_CLOSED_LIST)]) := by
    intro t k
    refine k3 t ?_
    refine Jvm.RoadKit.acmp (g := (mkF m 4 #[rv w_CLOSED_LIST] [(.ref w_DIGEST), (.ref w_CLOSED_LIST)])) X2 hx rfl rfl rfl (pc0 := 4) (pc' := 7) (same := false) rfl (hb hby d_prog_105_method_7_code_4) rfl (decide_eq_false fun q => absurd (Value.ref.inj q) (F_w_CLOSED_LIST_ordinal.ne F_w_DIGEST_ordinal (by decide))) (by decide) (by decide) ?_
    show Steps p.tables e below (T2.setTop (mkF m 7 #[rv w_CLOSED_LIST] [])) _
    refine XS.aloadN X2.here hx rfl (hb hby d_prog_105_method_7_code_7) rfl rfl ?_
    show Steps p.tables e below (T2.setTop (mkF m 8 #[rv w_CLOSED_LIST] [(.ref w_CLOSED_LIST)])) _
    exact k
  obtain ⟨T5, X5, e5, st5⟩ := getS2 X2 hx hZ hown (host := "") (Or.inl (hw _ (List.mem_of_getElem? (i := 15) rfl))) Via.refl e2 (S_w_PER_TIME_STANDARD.ext O0.2) (g := (mkF m 8 #[rv w_CLOSED_LIST] [(.ref w_CLOSED_LIST)])) rfl (hb hby d_prog_105_method_7_code_8)
  have k6 : Way p e below S0 T5 (mkF m 11 #[rv w_CLOSED_LIST] [(.ref w_PER_TIME_STANDARD), (.ref w_CLOSED_LIST)]) := fun t k => k4 t (st5 _ k)
  have k7 : Way p e below S0 T5 (mkF m 15 #[rv w_CLOSED_LIST] [(.ref w_CLOSED_LIST)]) := by
    intro t k
    refine k6 t ?_
    refine Jvm.RoadKit.acmp (g := (mkF m 11 #[rv w_CLOSED_LIST] [(.ref w_PER_TIME_STANDARD), (.ref w_CLOSED_LIST)])) X5 hx rfl rfl rfl (pc0 := 11) (pc' := 14) (same := false) rfl (hb hby d_prog_105_method_7_code_11) rfl (decide_eq_false fun q => absurd (Value.ref.inj q) (F_w_CLOSED_LIST_ordinal.ne F_w_PER_TIME_STANDARD_ordinal (by decide))) (by decide) (by decide) ?_
    show Steps p.tables e below (T5.setTop (mkF m 14 #[rv w_CLOSED_LIST] [])) _
    refine XS.aloadN X5.here hx rfl (hb hby d_prog_105_method_7_code_14) rfl rfl ?_
    show Steps p.tables e below (T5.setTop (mkF m 15 #[rv w_CLOSED_LIST] [(.ref w_CLOSED_LIST)])) _
    exact k
  obtain ⟨T8, X8, e8, st8⟩ := getS2 X5 hx hZ hown (host := "") (Or.inl (hw _ (List.mem_of_getElem? (i := 17) rfl))) Via.refl e5 (S_w_PER_COORDINATE_SYSTEM.ext O0.2) (g := (mkF m 15 #[rv w_CLOSED_LIST] [(.ref w_CLOSED_LIST)])) rfl (hb hby d_prog_105_method_7_code_15)
  have k9 : Way p e below S0 T8 (mkF m 18 #[rv w_CLOSED_LIST] [(.ref w_PER_COORDINATE_SYSTEM), (.ref w_CLOSED_LIST)]) := fun t k => k7 t (st8 _ k)
  have k10 : Way p e below S0 T8 (mkF m 26 #[rv w_CLOSED_LIST] [(.int (0 : Int32))]) := by
    intro t k
    refine k9 t ?_
    refine Jvm.RoadKit.acmp (g := (mkF m 18 #[rv w_CLOSED_LIST] [(.ref w_PER_COORDINATE_SYSTEM), (.ref w_CLOSED_LIST)])) X8 hx rfl rfl rfl (pc0 := 18) (pc' := 25) (same := false) rfl (hb hby d_prog_105_method_7_code_18) rfl (decide_eq_false fun q => absurd (Value.ref.inj q) (F_w_CLOSED_LIST_ordinal.ne F_w_PER_COORDINATE_SYSTEM_ordinal (by decide))) (by decide) (by decide) ?_
    show Steps p.tables e below (T8.setTop (mkF m 25 #[rv w_CLOSED_LIST] [])) _
    refine XS.iconst X8.here hx rfl (hb hby d_prog_105_method_7_code_25) ?_
    show Steps p.tables e below (T8.setTop (mkF m 26 #[rv w_CLOSED_LIST] [(.int (0 : Int32))])) _
    exact k
  obtain ⟨fs, hr, hrun, hended, hW, hsame⟩ := X8.leave (v := some (.int (0 : Int32))) (fun h => by rw [Bd.returns] at h; cases h)
  refine ⟨_, _, k10 _ (retN X8 hx (t := .boolean) Bd.returns (by simp) (hb hby d_prog_105_method_7_code_26) hr), hrun, hended, _, _, rfl, ?_, ⟨_, rfl⟩, hW, hsame.mono (by decide) (by decide)⟩
  show Q_tff2 Z w_TEXT w_COMPOSITE w_CLOSED_LIST w_LISTED w_URI w_ISO3166_1_ALPHA2 w_ISO639 w_ISO15924 w_POSITIVE_NUMBER w_POSITIVE_INTEGER w_NONNEGATIVE_INTEGER w_ISO8601_DATE w_DIGEST w_PER_TIME_STANDARD w_PER_COORDINATE_SYSTEM w_TIME_SPAN  h0 n0 _ T8.heap _
  rw [e8]
  exact ⟨rfl, N0, rfl⟩
def Q_tff3 (Z : State) (w_TEXT : Addr) (w_COMPOSITE : Addr) (w_CLOSED_LIST : Addr) (w_LISTED : Addr) (w_URI : Addr) (w_ISO3166_1_ALPHA2 : Addr) (w_ISO639 : Addr) (w_ISO15924 : Addr) (w_POSITIVE_NUMBER : Addr) (w_POSITIVE_INTEGER : Addr) (w_NONNEGATIVE_INTEGER : Addr) (w_ISO8601_DATE : Addr) (w_DIGEST : Addr) (w_PER_TIME_STANDARD : Addr) (w_PER_COORDINATE_SYSTEM : Addr) (w_TIME_SPAN : Addr)  (h0 : Heap) (n0 : Nat) (v : Option Value) (h : Heap) (L : List Loc) : Prop := (v = some (.int (0 : Int32))) ∧ (Fr n0 L) ∧ (h = h0)
set_option maxRecDepth 65536 in
set_option maxHeartbeats 40000000 in
theorem tff3 (l : Launch) (Z : State) (a0 : Array Value) (hw : ∀ d ∈ tables_1, d.before a0 Z = true) (ws : List Jvm.Cond) (w_TEXT : Addr) (w_COMPOSITE : Addr) (w_CLOSED_LIST : Addr) (w_LISTED : Addr) (w_URI : Addr) (w_ISO3166_1_ALPHA2 : Addr) (w_ISO639 : Addr) (w_ISO15924 : Addr) (w_POSITIVE_NUMBER : Addr) (w_POSITIVE_INTEGER : Addr) (w_NONNEGATIVE_INTEGER : Addr) (w_ISO8601_DATE : Addr) (w_DIGEST : Addr) (w_PER_TIME_STANDARD : Addr) (w_PER_COORDINATE_SYSTEM : Addr) (w_TIME_SPAN : Addr) (G : Gst Z w_TEXT w_COMPOSITE w_CLOSED_LIST w_LISTED w_URI w_ISO3166_1_ALPHA2 w_ISO639 w_ISO15924 w_POSITIVE_NUMBER w_POSITIVE_INTEGER w_NONNEGATIVE_INTEGER w_ISO8601_DATE w_DIGEST w_PER_TIME_STANDARD w_PER_COORDINATE_SYSTEM w_TIME_SPAN)  (h0 : Heap) (n0 : Nat) (O0 : Old Z n0 h0) :
    MetFree l (⟨"gradivo/spec/ValueKind", "takesFormFrom", "()Z"⟩ : MethodName) (head1 (Jvm.Cond.code (⟨"gradivo/spec/ValueKind", "takesFormFrom", "()Z"⟩ : MethodName) prog_105_method_7_code 1 (some .boolean) :: ws) ({ frames := 0, cells := 0, slots := 0, locals := 0 } : Room)) (fun a U => a = #[(.ref w_LISTED)] ∧ Z.Warmed39 U.vm ∧ U.heap = h0) (fun _ _ _ _ _ => True) (fun _ U o U' => ∃ v L, o = .returned v ∧ Q_tff3 Z w_TEXT w_COMPOSITE w_CLOSED_LIST w_LISTED w_URI w_ISO3166_1_ALPHA2 w_ISO639 w_ISO15924 w_POSITIVE_NUMBER w_POSITIVE_INTEGER w_NONNEGATIVE_INTEGER w_ISO8601_DATE w_DIGEST w_PER_TIME_STANDARD w_PER_COORDINATE_SYSTEM w_TIME_SPAN  h0 n0 v U'.heap L ∧ FrameEnd U o U' L ({ frames := 0, cells := 0, slots := 0, locals := 0 } : Room).cells ({ frames := 0, cells := 0, slots := 0, locals := 0 } : Room).slots) := by
  refine MetFree.of_bodySF (plainFor_of_name pn_1) hisR ?_
  intro p e s m args below meth c s₁ Bd hml0 hP hK
  obtain ⟨rfl, hZ, hh⟩ := hP
  have hx := Bd.exec
  have hby := Bd.bytes
  have hml : c.maxLocals = 1 := hml0
  have hown : s.vm.findClass "gradivo/spec/ValueKind" = some m.cls := findClass_of_methodNamed Bd.named
  have hnm := (name_of_methodNamed Bd.named Bd.method).1
  have X0 : Stand p l e ({ frames := 0, cells := 0, slots := 0, locals := 0 } : Room) s m #[(.ref w_LISTED)] below meth c s₁ [] 0 0 := Stand.of_body Bd
  have e0 : s₁.heap = h0 := by rw [← hh, Bd.state]; rfl
  have N0 := Fr.nil n0
  obtain ⟨S_w_TEXT, E_w_TEXT, F_w_TEXT_ordinal, S_w_COMPOSITE, E_w_COMPOSITE, F_w_COMPOSITE_ordinal, S_w_CLOSED_LIST, E_w_CLOSED_LIST, F_w_CLOSED_LIST_ordinal, S_w_LISTED, E_w_LISTED, F_w_LISTED_ordinal, S_w_URI, E_w_URI, F_w_URI_ordinal, S_w_ISO3166_1_ALPHA2, E_w_ISO3166_1_ALPHA2, F_w_ISO3166_1_ALPHA2_ordinal, S_w_ISO639, E_w_ISO639, F_w_ISO639_ordinal, S_w_ISO15924, E_w_ISO15924, F_w_ISO15924_ordinal, S_w_POSITIVE_NUMBER, E_w_POSITIVE_NUMBER, F_w_POSITIVE_NUMBER_ordinal, S_w_POSITIVE_INTEGER, E_w_POSITIVE_INTEGER, F_w_POSITIVE_INTEGER_ordinal, S_w_NONNEGATIVE_INTEGER, E_w_NONNEGATIVE_INTEGER, F_w_NONNEGATIVE_INTEGER_ordinal, S_w_ISO8601_DATE, E_w_ISO8601_DATE, F_w_ISO8601_DATE_ordinal, S_w_DIGEST, E_w_DIGEST, F_w_DIGEST_ordinal, S_w_PER_TIME_STANDARD, E_w_PER_TIME_STANDARD, F_w_PER_TIME_STANDARD_ordinal, S_w_PER_COORDINATE_SYSTEM, E_w_PER_COORDINATE_SYSTEM, F_w_PER_COORDINATE_SYSTEM_ordinal, S_w_TIME_SPAN, E_w_TIME_SPAN, F_w_TIME_SPAN_ordinal⟩ := id G
  have k0 : Way p e below (s₁.setTop (entryFrame m #[(.ref w_LISTED)] 1)) s₁ (mkF m 0 #[rv w_LISTED] []) := fun t k => castTop (by first | (simp [entryFrame, mkF, argsToLocals, Value.category]; done) | rfl) k
  generalize s₁.setTop (entryFrame m #[(.ref w_LISTED)] 1) = S0 at k0 ⊢
  have k1 : Way p e below S0 s₁ (mkF m 1 #[rv w_LISTED] [(.ref w_LISTED)]) := by
    intro t k
    refine k0 t ?_
    refine XS.aloadN X0.here hx rfl (hb hby d_prog_105_method_7_code_0) rfl rfl ?_
    show Steps p.tables e below (s₁.setTop (mkF m 1 #[rv w_LISTED] [(.ref w_LISTED)])) _
    exact k
  obtain ⟨T2, X2, e2, st2⟩ := getS2 X0 hx hZ hown (host := "") (Or.inl (hw _ (List.mem_of_getElem? (i := 13) rfl))) Via.refl e0 (S_w_DIGEST.ext O0.2) (g := (mkF m 1 #[rv w_LISTED] [(.ref w_LISTED)])) rfl (hb hby d_prog_105_method_7_code_1)
  have k3 : Way p e below S0 T2 (mkF m 4 #[rv w_LISTED] [(.ref w_DIGEST), (.ref w_LISTED)]) := fun t k => k1 t (st2 _ k)
  have k4 : Way p e below S0 T2 (mkF m 8 #[rv w_LISTED] [(.ref w_LISTED)]) := by
    intro t k
    refine k3 t ?_
    refine Jvm.RoadKit.acmp (g := (mkF m 4 #[rv w_LISTED] [(.ref w_DIGEST), (.ref w_LISTED)])) X2 hx rfl rfl rfl (pc0 := 4) (pc' := 7) (same := false) rfl (hb hby d_prog_105_method_7_code_4) rfl (decide_eq_false fun q => absurd (Value.ref.inj q) (F_w_LISTED_ordinal.ne F_w_DIGEST_ordinal (by decide))) (by decide) (by decide) ?_
    show Steps p.tables e below (T2.setTop (mkF m 7 #[rv w_LISTED] [])) _
    refine XS.aloadN X2.here hx rfl (hb hby d_prog_105_method_7_code_7) rfl rfl ?_
    show Steps p.tables e below (T2.setTop (mkF m 8 #[rv w_LISTED] [(.ref w_LISTED)])) _
    exact k
  obtain ⟨T5, X5, e5, st5⟩ := getS2 X2 hx hZ hown (host := "") (Or.inl (hw _ (List.mem_of_getElem? (i := 15) rfl))) Via.refl e2 (S_w_PER_TIME_STANDARD.ext O0.2) (g := (mkF m 8 #[rv w_LISTED] [(.ref w_LISTED)])) rfl (hb hby d_prog_105_method_7_code_8)
  have k6 : Way p e below S0 T5 (mkF m 11 #[rv w_LISTED] [(.ref w_PER_TIME_STANDARD), (.ref w_LISTED)]) := fun t k => k4 t (st5 _ k)
  have k7 : Way p e below S0 T5 (mkF m 15 #[rv w_LISTED] [(.ref w_LISTED)]) := by
    intro t k
    refine k6 t ?_
    refine Jvm.RoadKit.acmp (g := (mkF m 11 #[rv w_LISTED] [(.ref w_PER_TIME_STANDARD), (.ref w_LISTED)])) X5 hx rfl rfl rfl (pc0 := 11) (pc' := 14) (same := false) rfl (hb hby d_prog_105_method_7_code_11) rfl (decide_eq_false fun q => absurd (Value.ref.inj q) (F_w_LISTED_ordinal.ne F_w_PER_TIME_STANDARD_ordinal (by decide))) (by decide) (by decide) ?_
    show Steps p.tables e below (T5.setTop (mkF m 14 #[rv w_LISTED] [])) _
    refine XS.aloadN X5.here hx rfl (hb hby d_prog_105_method_7_code_14) rfl rfl ?_
    show Steps p.tables e below (T5.setTop (mkF m 15 #[rv w_LISTED] [(.ref w_LISTED)])) _
    exact k
  obtain ⟨T8, X8, e8, st8⟩ := getS2 X5 hx hZ hown (host := "") (Or.inl (hw _ (List.mem_of_getElem? (i := 17) rfl))) Via.refl e5 (S_w_PER_COORDINATE_SYSTEM.ext O0.2) (g := (mkF m 15 #[rv w_LISTED] [(.ref w_LISTED)])) rfl (hb hby d_prog_105_method_7_code_15)
  have k9 : Way p e below S0 T8 (mkF m 18 #[rv w_LISTED] [(.ref w_PER_COORDINATE_SYSTEM), (.ref w_LISTED)]) := fun t k => k7 t (st8 _ k)
  have k10 : Way p e below S0 T8 (mkF m 26 #[rv w_LISTED] [(.int (0 : Int32))]) := by
    intro t k
    refine k9 t ?_
    refine Jvm.RoadKit.acmp (g := (mkF m 18 #[rv w_LISTED] [(.ref w_PER_COORDINATE_SYSTEM), (.ref w_LISTED)])) X8 hx rfl rfl rfl (pc0 := 18) (pc' := 25) (same := false) rfl (hb hby d_prog_105_method_7_code_18) rfl (decide_eq_false fun q => absurd (Value.ref.inj q) (F_w_LISTED_ordinal.ne F_w_PER_COORDINATE_SYSTEM_ordinal (by decide))) (by decide) (by decide) ?_
    show Steps p.tables e below (T8.setTop (mkF m 25 #[rv w_LISTED] [])) _
    refine XS.iconst X8.here hx rfl (hb hby d_prog_105_method_7_code_25) ?_
    show Steps p.tables e below (T8.setTop (mkF m 26 #[rv w_LISTED] [(.int (0 : Int32))])) _
    exact k
  obtain ⟨fs, hr, hrun, hended, hW, hsame⟩ := X8.leave (v := some (.int (0 : Int32))) (fun h => by rw [Bd.returns] at h; cases h)
  refine ⟨_, _, k10 _ (retN X8 hx (t := .boolean) Bd.returns (by simp) (hb hby d_prog_105_method_7_code_26) hr), hrun, hended, _, _, rfl, ?_, ⟨_, rfl⟩, hW, hsame.mono (by decide) (by decide)⟩
  show Q_tff3 Z w_TEXT w_COMPOSITE w_CLOSED_LIST w_LISTED w_URI w_ISO3166_1_ALPHA2 w_ISO639 w_ISO15924 w_POSITIVE_NUMBER w_POSITIVE_INTEGER w_NONNEGATIVE_INTEGER w_ISO8601_DATE w_DIGEST w_PER_TIME_STANDARD w_PER_COORDINATE_SYSTEM w_TIME_SPAN  h0 n0 _ T8.heap _
  rw [e8]
  exact ⟨rfl, N0, rfl⟩
def Q_tff4 (Z : State) (w_TEXT : Addr) (w_COMPOSITE : Addr) (w_CLOSED_LIST : Addr) (w_LISTED : Addr) (w_URI : Addr) (w_ISO3166_1_ALPHA2 : Addr) (w_ISO639 : Addr) (w_ISO15924 : Addr) (w_POSITIVE_NUMBER : Addr) (w_POSITIVE_INTEGER : Addr) (w_NONNEGATIVE_INTEGER : Addr) (w_ISO8601_DATE : Addr) (w_DIGEST : Addr) (w_PER_TIME_STANDARD : Addr) (w_PER_COORDINATE_SYSTEM : Addr) (w_TIME_SPAN : Addr)  (h0 : Heap) (n0 : Nat) (v : Option Value) (h : Heap) (L : List Loc) : Prop := (v = some (.int (0 : Int32))) ∧ (Fr n0 L) ∧ (h = h0)
set_option maxRecDepth 65536 in
set_option maxHeartbeats 40000000 in
theorem tff4 (l : Launch) (Z : State) (a0 : Array Value) (hw : ∀ d ∈ tables_1, d.before a0 Z = true) (ws : List Jvm.Cond) (w_TEXT : Addr) (w_COMPOSITE : Addr) (w_CLOSED_LIST : Addr) (w_LISTED : Addr) (w_URI : Addr) (w_ISO3166_1_ALPHA2 : Addr) (w_ISO639 : Addr) (w_ISO15924 : Addr) (w_POSITIVE_NUMBER : Addr) (w_POSITIVE_INTEGER : Addr) (w_NONNEGATIVE_INTEGER : Addr) (w_ISO8601_DATE : Addr) (w_DIGEST : Addr) (w_PER_TIME_STANDARD : Addr) (w_PER_COORDINATE_SYSTEM : Addr) (w_TIME_SPAN : Addr) (G : Gst Z w_TEXT w_COMPOSITE w_CLOSED_LIST w_LISTED w_URI w_ISO3166_1_ALPHA2 w_ISO639 w_ISO15924 w_POSITIVE_NUMBER w_POSITIVE_INTEGER w_NONNEGATIVE_INTEGER w_ISO8601_DATE w_DIGEST w_PER_TIME_STANDARD w_PER_COORDINATE_SYSTEM w_TIME_SPAN)  (h0 : Heap) (n0 : Nat) (O0 : Old Z n0 h0) :
    MetFree l (⟨"gradivo/spec/ValueKind", "takesFormFrom", "()Z"⟩ : MethodName) (head1 (Jvm.Cond.code (⟨"gradivo/spec/ValueKind", "takesFormFrom", "()Z"⟩ : MethodName) prog_105_method_7_code 1 (some .boolean) :: ws) ({ frames := 0, cells := 0, slots := 0, locals := 0 } : Room)) (fun a U => a = #[(.ref w_URI)] ∧ Z.Warmed39 U.vm ∧ U.heap = h0) (fun _ _ _ _ _ => True) (fun _ U o U' => ∃ v L, o = .returned v ∧ Q_tff4 Z w_TEXT w_COMPOSITE w_CLOSED_LIST w_LISTED w_URI w_ISO3166_1_ALPHA2 w_ISO639 w_ISO15924 w_POSITIVE_NUMBER w_POSITIVE_INTEGER w_NONNEGATIVE_INTEGER w_ISO8601_DATE w_DIGEST w_PER_TIME_STANDARD w_PER_COORDINATE_SYSTEM w_TIME_SPAN  h0 n0 v U'.heap L ∧ FrameEnd U o U' L ({ frames := 0, cells := 0, slots := 0, locals := 0 } : Room).cells ({ frames := 0, cells := 0, slots := 0, locals := 0 } : Room).slots) := by
  refine MetFree.of_bodySF (plainFor_of_name pn_1) hisR ?_
  intro p e s m args below meth c s₁ Bd hml0 hP hK
  obtain ⟨rfl, hZ, hh⟩ := hP
  have hx := Bd.exec
  have hby := Bd.bytes
  have hml : c.maxLocals = 1 := hml0
  have hown : s.vm.findClass "gradivo/spec/ValueKind" = some m.cls := findClass_of_methodNamed Bd.named
  have hnm := (name_of_methodNamed Bd.named Bd.method).1
  have X0 : Stand p l e ({ frames := 0, cells := 0, slots := 0, locals := 0 } : Room) s m #[(.ref w_URI)] below meth c s₁ [] 0 0 := Stand.of_body Bd
  have e0 : s₁.heap = h0 := by rw [← hh, Bd.state]; rfl
  have N0 := Fr.nil n0
  obtain ⟨S_w_TEXT, E_w_TEXT, F_w_TEXT_ordinal, S_w_COMPOSITE, E_w_COMPOSITE, F_w_COMPOSITE_ordinal, S_w_CLOSED_LIST, E_w_CLOSED_LIST, F_w_CLOSED_LIST_ordinal, S_w_LISTED, E_w_LISTED, F_w_LISTED_ordinal, S_w_URI, E_w_URI, F_w_URI_ordinal, S_w_ISO3166_1_ALPHA2, E_w_ISO3166_1_ALPHA2, F_w_ISO3166_1_ALPHA2_ordinal, S_w_ISO639, E_w_ISO639, F_w_ISO639_ordinal, S_w_ISO15924, E_w_ISO15924, F_w_ISO15924_ordinal, S_w_POSITIVE_NUMBER, E_w_POSITIVE_NUMBER, F_w_POSITIVE_NUMBER_ordinal, S_w_POSITIVE_INTEGER, E_w_POSITIVE_INTEGER, F_w_POSITIVE_INTEGER_ordinal, S_w_NONNEGATIVE_INTEGER, E_w_NONNEGATIVE_INTEGER, F_w_NONNEGATIVE_INTEGER_ordinal, S_w_ISO8601_DATE, E_w_ISO8601_DATE, F_w_ISO8601_DATE_ordinal, S_w_DIGEST, E_w_DIGEST, F_w_DIGEST_ordinal, S_w_PER_TIME_STANDARD, E_w_PER_TIME_STANDARD, F_w_PER_TIME_STANDARD_ordinal, S_w_PER_COORDINATE_SYSTEM, E_w_PER_COORDINATE_SYSTEM, F_w_PER_COORDINATE_SYSTEM_ordinal, S_w_TIME_SPAN, E_w_TIME_SPAN, F_w_TIME_SPAN_ordinal⟩ := id G
  have k0 : Way p e below (s₁.setTop (entryFrame m #[(.ref w_URI)] 1)) s₁ (mkF m 0 #[rv w_URI] []) := fun t k => castTop (by first | (simp [entryFrame, mkF, argsToLocals, Value.category]; done) | rfl) k
  generalize s₁.setTop (entryFrame m #[(.ref w_URI)] 1) = S0 at k0 ⊢
  have k1 : Way p e below S0 s₁ (mkF m 1 #[rv w_URI] [(.ref w_URI)]) := by
    intro t k
    refine k0 t ?_
    refine XS.aloadN X0.here hx rfl (hb hby d_prog_105_method_7_code_0) rfl rfl ?_
    show Steps p.tables e below (s₁.setTop (mkF m 1 #[rv w_URI] [(.ref w_URI)])) _
    exact k
  obtain ⟨T2, X2, e2, st2⟩ := getS2 X0 hx hZ hown (host := "") (Or.inl (hw _ (List.mem_of_getElem? (i := 13) rfl))) Via.refl e0 (S_w_DIGEST.ext O0.2) (g := (mkF m 1 #[rv w_URI] [(.ref w_URI)])) rfl (hb hby d_prog_105_method_7_code_1)
  have k3 : Way p e below S0 T2 (mkF m 4 #[rv w_URI] [(.ref w_DIGEST), (.ref w_URI)]) := fun t k => k1 t (st2 _ k)
  have k4 : Way p e below S0 T2 (mkF m 8 #[rv w_URI] [(.ref w_URI)]) := by
    intro t k
    refine k3 t ?_
    refine Jvm.RoadKit.acmp (g := (mkF m 4 #[rv w_URI] [(.ref w_DIGEST), (.ref w_URI)])) X2 hx rfl rfl rfl (pc0 := 4) (pc' := 7) (same := false) rfl (hb hby d_prog_105_method_7_code_4) rfl (decide_eq_false fun q => absurd (Value.ref.inj q) (F_w_URI_ordinal.ne F_w_DIGEST_ordinal (by decide))) (by decide) (by decide) ?_
    show Steps p.tables e below (T2.setTop (mkF m 7 #[rv w_URI] [])) _
    refine XS.aloadN X2.here hx rfl (hb hby d_prog_105_method_7_code_7) rfl rfl ?_
    show Steps p.tables e below (T2.setTop (mkF m 8 #[rv w_URI] [(.ref w_URI)])) _
    exact k
  obtain ⟨T5, X5, e5, st5⟩ := getS2 X2 hx hZ hown (host := "") (Or.inl (hw _ (List.mem_of_getElem? (i := 15) rfl))) Via.refl e2 (S_w_PER_TIME_STANDARD.ext O0.2) (g := (mkF m 8 #[rv w_URI] [(.ref w_URI)])) rfl (hb hby d_prog_105_method_7_code_8)
  have k6 : Way p e below S0 T5 (mkF m 11 #[rv w_URI] [(.ref w_PER_TIME_STANDARD), (.ref w_URI)]) := fun t k => k4 t (st5 _ k)
  have k7 : Way p e below S0 T5 (mkF m 15 #[rv w_URI] [(.ref w_URI)]) := by
    intro t k
    refine k6 t ?_
    refine Jvm.RoadKit.acmp (g := (mkF m 11 #[rv w_URI] [(.ref w_PER_TIME_STANDARD), (.ref w_URI)])) X5 hx rfl rfl rfl (pc0 := 11) (pc' := 14) (same := false) rfl (hb hby d_prog_105_method_7_code_11) rfl (decide_eq_false fun q => absurd (Value.ref.inj q) (F_w_URI_ordinal.ne F_w_PER_TIME_STANDARD_ordinal (by decide))) (by decide) (by decide) ?_
    show Steps p.tables e below (T5.setTop (mkF m 14 #[rv w_URI] [])) _
    refine XS.aloadN X5.here hx rfl (hb hby d_prog_105_method_7_code_14) rfl rfl ?_
    show Steps p.tables e below (T5.setTop (mkF m 15 #[rv w_URI] [(.ref w_URI)])) _
    exact k
  obtain ⟨T8, X8, e8, st8⟩ := getS2 X5 hx hZ hown (host := "") (Or.inl (hw _ (List.mem_of_getElem? (i := 17) rfl))) Via.refl e5 (S_w_PER_COORDINATE_SYSTEM.ext O0.2) (g := (mkF m 15 #[rv w_URI] [(.ref w_URI)])) rfl (hb hby d_prog_105_method_7_code_15)
  have k9 : Way p e below S0 T8 (mkF m 18 #[rv w_URI] [(.ref w_PER_COORDINATE_SYSTEM), (.ref w_URI)]) := fun t k => k7 t (st8 _ k)
  have k10 : Way p e below S0 T8 (mkF m 26 #[rv w_URI] [(.int (0 : Int32))]) := by
    intro t k
    refine k9 t ?_
    refine Jvm.RoadKit.acmp (g := (mkF m 18 #[rv w_URI] [(.ref w_PER_COORDINATE_SYSTEM), (.ref w_URI)])) X8 hx rfl rfl rfl (pc0 := 18) (pc' := 25) (same := false) rfl (hb hby d_prog_105_method_7_code_18) rfl (decide_eq_false fun q => absurd (Value.ref.inj q) (F_w_URI_ordinal.ne F_w_PER_COORDINATE_SYSTEM_ordinal (by decide))) (by decide) (by decide) ?_
    show Steps p.tables e below (T8.setTop (mkF m 25 #[rv w_URI] [])) _
    refine XS.iconst X8.here hx rfl (hb hby d_prog_105_method_7_code_25) ?_
    show Steps p.tables e below (T8.setTop (mkF m 26 #[rv w_URI] [(.int (0 : Int32))])) _
    exact k
  obtain ⟨fs, hr, hrun, hended, hW, hsame⟩ := X8.leave (v := some (.int (0 : Int32))) (fun h => by rw [Bd.returns] at h; cases h)
  refine ⟨_, _, k10 _ (retN X8 hx (t := .boolean) Bd.returns (by simp) (hb hby d_prog_105_method_7_code_26) hr), hrun, hended, _, _, rfl, ?_, ⟨_, rfl⟩, hW, hsame.mono (by decide) (by decide)⟩
  show Q_tff4 Z w_TEXT w_COMPOSITE w_CLOSED_LIST w_LISTED w_URI w_ISO3166_1_ALPHA2 w_ISO639 w_ISO15924 w_POSITIVE_NUMBER w_POSITIVE_INTEGER w_NONNEGATIVE_INTEGER w_ISO8601_DATE w_DIGEST w_PER_TIME_STANDARD w_PER_COORDINATE_SYSTEM w_TIME_SPAN  h0 n0 _ T8.heap _
  rw [e8]
  exact ⟨rfl, N0, rfl⟩
def Q_tff5 (Z : State) (w_TEXT : Addr) (w_COMPOSITE : Addr) (w_CLOSED_LIST : Addr) (w_LISTED : Addr) (w_URI : Addr) (w_ISO3166_1_ALPHA2 : Addr) (w_ISO639 : Addr) (w_ISO15924 : Addr) (w_POSITIVE_NUMBER : Addr) (w_POSITIVE_INTEGER : Addr) (w_NONNEGATIVE_INTEGER : Addr) (w_ISO8601_DATE : Addr) (w_DIGEST : Addr) (w_PER_TIME_STANDARD : Addr) (w_PER_COORDINATE_SYSTEM : Addr) (w_TIME_SPAN : Addr)  (h0 : Heap) (n0 : Nat) (v : Option Value) (h : Heap) (L : List Loc) : Prop := (v = some (.int (0 : Int32))) ∧ (Fr n0 L) ∧ (h = h0)
set_option maxRecDepth 65536 in
set_option maxHeartbeats 40000000 in
theorem tff5 (l : Launch) (Z : State) (a0 : Array Value) (hw : ∀ d ∈ tables_1, d.before a0 Z = true) (ws : List Jvm.Cond) (w_TEXT : Addr) (w_COMPOSITE : Addr) (w_CLOSED_LIST : Addr) (w_LISTED : Addr) (w_URI : Addr) (w_ISO3166_1_ALPHA2 : Addr) (w_ISO639 : Addr) (w_ISO15924 : Addr) (w_POSITIVE_NUMBER : Addr) (w_POSITIVE_INTEGER : Addr) (w_NONNEGATIVE_INTEGER : Addr) (w_ISO8601_DATE : Addr) (w_DIGEST : Addr) (w_PER_TIME_STANDARD : Addr) (w_PER_COORDINATE_SYSTEM : Addr) (w_TIME_SPAN : Addr) (G : Gst Z w_TEXT w_COMPOSITE w_CLOSED_LIST w_LISTED w_URI w_ISO3166_1_ALPHA2 w_ISO639 w_ISO15924 w_POSITIVE_NUMBER w_POSITIVE_INTEGER w_NONNEGATIVE_INTEGER w_ISO8601_DATE w_DIGEST w_PER_TIME_STANDARD w_PER_COORDINATE_SYSTEM w_TIME_SPAN)  (h0 : Heap) (n0 : Nat) (O0 : Old Z n0 h0) :
    MetFree l (⟨"gradivo/spec/ValueKind", "takesFormFrom", "()Z"⟩ : MethodName) (head1 (Jvm.Cond.code (⟨"gradivo/spec/ValueKind", "takesFormFrom", "()Z"⟩ : MethodName) prog_105_method_7_code 1 (some .boolean) :: ws) ({ frames := 0, cells := 0, slots := 0, locals := 0 } : Room)) (fun a U => a = #[(.ref w_ISO3166_1_ALPHA2)] ∧ Z.Warmed39 U.vm ∧ U.heap = h0) (fun _ _ _ _ _ => True) (fun _ U o U' => ∃ v L, o = .returned v ∧ Q_tff5 Z w_TEXT w_COMPOSITE w_CLOSED_LIST w_LISTED w_URI w_ISO3166_1_ALPHA2 w_ISO639 w_ISO15924 w_POSITIVE_NUMBER w_POSITIVE_INTEGER w_NONNEGATIVE_INTEGER w_ISO8601_DATE w_DIGEST w_PER_TIME_STANDARD w_PER_COORDINATE_SYSTEM w_TIME_SPAN  h0 n0 v U'.heap L ∧ FrameEnd U o U' L ({ frames := 0, cells := 0, slots := 0, locals := 0 } : Room).cells ({ frames := 0, cells := 0, slots := 0, locals := 0 } : Room).slots) := by
  refine MetFree.of_bodySF (plainFor_of_name pn_1) hisR ?_
  intro p e s m args below meth c s₁ Bd hml0 hP hK
  obtain ⟨rfl, hZ, hh⟩ := hP
  have hx := Bd.exec
  have hby := Bd.bytes
  have hml : c.maxLocals = 1 := hml0
  have hown : s.vm.findClass "gradivo/spec/ValueKind" = some m.cls := findClass_of_methodNamed Bd.named
  have hnm := (name_of_methodNamed Bd.named Bd.method).1
  have X0 : Stand p l e ({ frames := 0, cells := 0, slots := 0, locals := 0 } : Room) s m #[(.ref w_ISO3166_1_ALPHA2)] below meth c s₁ [] 0 0 := Stand.of_body Bd
  have e0 : s₁.heap = h0 := by rw [← hh, Bd.state]; rfl
  have N0 := Fr.nil n0
  obtain ⟨S_w_TEXT, E_w_TEXT, F_w_TEXT_ordinal, S_w_COMPOSITE, E_w_COMPOSITE, F_w_COMPOSITE_ordinal, S_w_CLOSED_LIST, E_w_CLOSED_LIST, F_w_CLOSED_LIST_ordinal, S_w_LISTED, E_w_LISTED, F_w_LISTED_ordinal, S_w_URI, E_w_URI, F_w_URI_ordinal, S_w_ISO3166_1_ALPHA2, E_w_ISO3166_1_ALPHA2, F_w_ISO3166_1_ALPHA2_ordinal, S_w_ISO639, E_w_ISO639, F_w_ISO639_ordinal, S_w_ISO15924, E_w_ISO15924, F_w_ISO15924_ordinal, S_w_POSITIVE_NUMBER, E_w_POSITIVE_NUMBER, F_w_POSITIVE_NUMBER_ordinal, S_w_POSITIVE_INTEGER, E_w_POSITIVE_INTEGER, F_w_POSITIVE_INTEGER_ordinal, S_w_NONNEGATIVE_INTEGER, E_w_NONNEGATIVE_INTEGER, F_w_NONNEGATIVE_INTEGER_ordinal, S_w_ISO8601_DATE, E_w_ISO8601_DATE, F_w_ISO8601_DATE_ordinal, S_w_DIGEST, E_w_DIGEST, F_w_DIGEST_ordinal, S_w_PER_TIME_STANDARD, E_w_PER_TIME_STANDARD, F_w_PER_TIME_STANDARD_ordinal, S_w_PER_COORDINATE_SYSTEM, E_w_PER_COORDINATE_SYSTEM, F_w_PER_COORDINATE_SYSTEM_ordinal, S_w_TIME_SPAN, E_w_TIME_SPAN, F_w_TIME_SPAN_ordinal⟩ := id G
  have k0 : Way p e below (s₁.setTop (entryFrame m #[(.ref w_ISO3166_1_ALPHA2)] 1)) s₁ (mkF m 0 #[rv w_ISO3166_1_ALPHA2] []) := fun t k => castTop (by first | (simp [entryFrame, mkF, argsToLocals, Value.category]; done) | rfl) k
  generalize s₁.setTop (entryFrame m #[(.ref w_ISO3166_1_ALPHA2)] 1) = S0 at k0 ⊢
  have k1 : Way p e below S0 s₁ (mkF m 1 #[rv w_ISO3166_1_ALPHA2] [(.ref w_ISO3166_1_ALPHA2)]) := by
    intro t k
    refine k0 t ?_
    refine XS.aloadN X0.here hx rfl (hb hby d_prog_105_method_7_code_0) rfl rfl ?_
    show Steps p.tables e below (s₁.setTop (mkF m 1 #[rv w_ISO3166_1_ALPHA2] [(.ref w_ISO3166_1_ALPHA2)])) _
    exact k
  obtain ⟨T2, X2, e2, st2⟩ := getS2 X0 hx hZ hown (host := "") (Or.inl (hw _ (List.mem_of_getElem? (i := 13) rfl))) Via.refl e0 (S_w_DIGEST.ext O0.2) (g := (mkF m 1 #[rv w_ISO3166_1_ALPHA2] [(.ref w_ISO3166_1_ALPHA2)])) rfl (hb hby d_prog_105_method_7_code_1)
  have k3 : Way p e below S0 T2 (mkF m 4 #[rv w_ISO3166_1_ALPHA2] [(.ref w_DIGEST), (.ref w_ISO3166_1_ALPHA2)]) := fun t k => k1 t (st2 _ k)
  have k4 : Way p e below S0 T2 (mkF m 8 #[rv w_ISO3166_1_ALPHA2] [(.ref w_ISO3166_1_ALPHA2)]) := by
    intro t k
    refine k3 t ?_
    refine Jvm.RoadKit.acmp (g := (mkF m 4 #[rv w_ISO3166_1_ALPHA2] [(.ref w_DIGEST), (.ref w_ISO3166_1_ALPHA2)])) X2 hx rfl rfl rfl (pc0 := 4) (pc' := 7) (same := false) rfl (hb hby d_prog_105_method_7_code_4) rfl (decide_eq_false fun q => absurd (Value.ref.inj q) (F_w_ISO3166_1_ALPHA2_ordinal.ne F_w_DIGEST_ordinal (by decide))) (by decide) (by decide) ?_
    show Steps p.tables e below (T2.setTop (mkF m 7 #[rv w_ISO3166_1_ALPHA2] [])) _
    refine XS.aloadN X2.here hx rfl (hb hby d_prog_105_method_7_code_7) rfl rfl ?_
    show Steps p.tables e below (T2.setTop (mkF m 8 #[rv w_ISO3166_1_ALPHA2] [(.ref w_ISO3166_1_ALPHA2)])) _
    exact k
  obtain ⟨T5, X5, e5, st5⟩ := getS2 X2 hx hZ hown (host := "") (Or.inl (hw _ (List.mem_of_getElem? (i := 15) rfl))) Via.refl e2 (S_w_PER_TIME_STANDARD.ext O0.2) (g := (mkF m 8 #[rv w_ISO3166_1_ALPHA2] [(.ref w_ISO3166_1_ALPHA2)])) rfl (hb hby d_prog_105_method_7_code_8)
  have k6 : Way p e below S0 T5 (mkF m 11 #[rv w_ISO3166_1_ALPHA2] [(.ref w_PER_TIME_STANDARD), (.ref w_ISO3166_1_ALPHA2)]) := fun t k => k4 t (st5 _ k)
  have k7 : Way p e below S0 T5 (mkF m 15 #[rv w_ISO3166_1_ALPHA2] [(.ref w_ISO3166_1_ALPHA2)]) := by
    intro t k
    refine k6 t ?_
    refine Jvm.RoadKit.acmp (g := (mkF m 11 #[rv w_ISO3166_1_ALPHA2] [(.ref w_PER_TIME_STANDARD), (.ref w_ISO3166_1_ALPHA2)])) X5 hx rfl rfl rfl (pc0 := 11) (pc' := 14) (same := false) rfl (hb hby d_prog_105_method_7_code_11) rfl (decide_eq_false fun q => absurd (Value.ref.inj q) (F_w_ISO3166_1_ALPHA2_ordinal.ne F_w_PER_TIME_STANDARD_ordinal (by decide))) (by decide) (by decide) ?_
    show Steps p.tables e below (T5.setTop (mkF m 14 #[rv w_ISO3166_1_ALPHA2] [])) _
    refine XS.aloadN X5.here hx rfl (hb hby d_prog_105_method_7_code_14) rfl rfl ?_
    show Steps p.tables e below (T5.setTop (mkF m 15 #[rv w_ISO3166_1_ALPHA2] [(.ref w_ISO3166_1_ALPHA2)])) _
    exact k
  obtain ⟨T8, X8, e8, st8⟩ := getS2 X5 hx hZ hown (host := "") (Or.inl (hw _ (List.mem_of_getElem? (i := 17) rfl))) Via.refl e5 (S_w_PER_COORDINATE_SYSTEM.ext O0.2) (g := (mkF m 15 #[rv w_ISO3166_1_ALPHA2] [(.ref w_ISO3166_1_ALPHA2)])) rfl (hb hby d_prog_105_method_7_code_15)
  have k9 : Way p e below S0 T8 (mkF m 18 #[rv w_ISO3166_1_ALPHA2] [(.ref w_PER_COORDINATE_SYSTEM), (.ref w_ISO3166_1_ALPHA2)]) := fun t k => k7 t (st8 _ k)
  have k10 : Way p e below S0 T8 (mkF m 26 #[rv w_ISO3166_1_ALPHA2] [(.int (0 : Int32))]) := by
    intro t k
    refine k9 t ?_
    refine Jvm.RoadKit.acmp (g := (mkF m 18 #[rv w_ISO3166_1_ALPHA2] [(.ref w_PER_COORDINATE_SYSTEM), (.ref w_ISO3166_1_ALPHA2)])) X8 hx rfl rfl rfl (pc0 := 18) (pc' := 25) (same := false) rfl (hb hby d_prog_105_method_7_code_18) rfl (decide_eq_false fun q => absurd (Value.ref.inj q) (F_w_ISO3166_1_ALPHA2_ordinal.ne F_w_PER_COORDINATE_SYSTEM_ordinal (by decide))) (by decide) (by decide) ?_
    show Steps p.tables e below (T8.setTop (mkF m 25 #[rv w_ISO3166_1_ALPHA2] [])) _
    refine XS.iconst X8.here hx rfl (hb hby d_prog_105_method_7_code_25) ?_
    show Steps p.tables e below (T8.setTop (mkF m 26 #[rv w_ISO3166_1_ALPHA2] [(.int (0 : Int32))])) _
    exact k
  obtain ⟨fs, hr, hrun, hended, hW, hsame⟩ := X8.leave (v := some (.int (0 : Int32))) (fun h => by rw [Bd.returns] at h; cases h)
  refine ⟨_, _, k10 _ (retN X8 hx (t := .boolean) Bd.returns (by simp) (hb hby d_prog_105_method_7_code_26) hr), hrun, hended, _, _, rfl, ?_, ⟨_, rfl⟩, hW, hsame.mono (by decide) (by decide)⟩
  show Q_tff5 Z w_TEXT w_COMPOSITE w_CLOSED_LIST w_LISTED w_URI w_ISO3166_1_ALPHA2 w_ISO639 w_ISO15924 w_POSITIVE_NUMBER w_POSITIVE_INTEGER w_NONNEGATIVE_INTEGER w_ISO8601_DATE w_DIGEST w_PER_TIME_STANDARD w_PER_COORDINATE_SYSTEM w_TIME_SPAN  h0 n0 _ T8.heap _
  rw [e8]
  exact ⟨rfl, N0, rfl⟩
def Q_tff6 (Z : State) (w_TEXT : Addr) (w_COMPOSITE : Addr) (w_CLOSED_LIST : Addr) (w_LISTED : Addr) (w_URI : Addr) (w_ISO3166_1_ALPHA2 : Addr) (w_ISO639 : Addr) (w_ISO15924 : Addr) (w_POSITIVE_NUMBER : Addr) (w_POSITIVE_INTEGER : Addr) (w_NONNEGATIVE_INTEGER : Addr) (w_ISO8601_DATE : Addr) (w_DIGEST : Addr) (w_PER_TIME_STANDARD : Addr) (w_PER_COORDINATE_SYSTEM : Addr) (w_TIME_SPAN : Addr)  (h0 : Heap) (n0 : Nat) (v : Option Value) (h : Heap) (L : List Loc) : Prop := (v = some (.int (0 : Int32))) ∧ (Fr n0 L) ∧ (h = h0)
set_option maxRecDepth 65536 in
set_option maxHeartbeats 40000000 in
theorem tff6 (l : Launch) (Z : State) (a0 : Array Value) (hw : ∀ d ∈ tables_1, d.before a0 Z = true) (ws : List Jvm.Cond) (w_TEXT : Addr) (w_COMPOSITE : Addr) (w_CLOSED_LIST : Addr) (w_LISTED : Addr) (w_URI : Addr) (w_ISO3166_1_ALPHA2 : Addr) (w_ISO639 : Addr) (w_ISO15924 : Addr) (w_POSITIVE_NUMBER : Addr) (w_POSITIVE_INTEGER : Addr) (w_NONNEGATIVE_INTEGER : Addr) (w_ISO8601_DATE : Addr) (w_DIGEST : Addr) (w_PER_TIME_STANDARD : Addr) (w_PER_COORDINATE_SYSTEM : Addr) (w_TIME_SPAN : Addr) (G : Gst Z w_TEXT w_COMPOSITE w_CLOSED_LIST w_LISTED w_URI w_ISO3166_1_ALPHA2 w_ISO639 w_ISO15924 w_POSITIVE_NUMBER w_POSITIVE_INTEGER w_NONNEGATIVE_INTEGER w_ISO8601_DATE w_DIGEST w_PER_TIME_STANDARD w_PER_COORDINATE_SYSTEM w_TIME_SPAN)  (h0 : Heap) (n0 : Nat) (O0 : Old Z n0 h0) :
    MetFree l (⟨"gradivo/spec/ValueKind", "takesFormFrom", "()Z"⟩ : MethodName) (head1 (Jvm.Cond.code (⟨"gradivo/spec/ValueKind", "takesFormFrom", "()Z"⟩ : MethodName) prog_105_method_7_code 1 (some .boolean) :: ws) ({ frames := 0, cells := 0, slots := 0, locals := 0 } : Room)) (fun a U => a = #[(.ref w_ISO639)] ∧ Z.Warmed39 U.vm ∧ U.heap = h0) (fun _ _ _ _ _ => True) (fun _ U o U' => ∃ v L, o = .returned v ∧ Q_tff6 Z w_TEXT w_COMPOSITE w_CLOSED_LIST w_LISTED w_URI w_ISO3166_1_ALPHA2 w_ISO639 w_ISO15924 w_POSITIVE_NUMBER w_POSITIVE_INTEGER w_NONNEGATIVE_INTEGER w_ISO8601_DATE w_DIGEST w_PER_TIME_STANDARD w_PER_COORDINATE_SYSTEM w_TIME_SPAN  h0 n0 v U'.heap L ∧ FrameEnd U o U' L ({ frames := 0, cells := 0, slots := 0, locals := 0 } : Room).cells ({ frames := 0, cells := 0, slots := 0, locals := 0 } : Room).slots) := by
  refine MetFree.of_bodySF (plainFor_of_name pn_1) hisR ?_
  intro p e s m args below meth c s₁ Bd hml0 hP hK
  obtain ⟨rfl, hZ, hh⟩ := hP
  have hx := Bd.exec
  have hby := Bd.bytes
  have hml : c.maxLocals = 1 := hml0
  have hown : s.vm.findClass "gradivo/spec/ValueKind" = some m.cls := findClass_of_methodNamed Bd.named
  have hnm := (name_of_methodNamed Bd.named Bd.method).1
  have X0 : Stand p l e ({ frames := 0, cells := 0, slots := 0, locals := 0 } : Room) s m #[(.ref w_ISO639)] below meth c s₁ [] 0 0 := Stand.of_body Bd
  have e0 : s₁.heap = h0 := by rw [← hh, Bd.state]; rfl
  have N0 := Fr.nil n0
  obtain ⟨S_w_TEXT, E_w_TEXT, F_w_TEXT_ordinal, S_w_COMPOSITE, E_w_COMPOSITE, F_w_COMPOSITE_ordinal, S_w_CLOSED_LIST, E_w_CLOSED_LIST, F_w_CLOSED_LIST_ordinal, S_w_LISTED, E_w_LISTED, F_w_LISTED_ordinal, S_w_URI, E_w_URI, F_w_URI_ordinal, S_w_ISO3166_1_ALPHA2, E_w_ISO3166_1_ALPHA2, F_w_ISO3166_1_ALPHA2_ordinal, S_w_ISO639, E_w_ISO639, F_w_ISO639_ordinal, S_w_ISO15924, E_w_ISO15924, F_w_ISO15924_ordinal, S_w_POSITIVE_NUMBER, E_w_POSITIVE_NUMBER, F_w_POSITIVE_NUMBER_ordinal, S_w_POSITIVE_INTEGER, E_w_POSITIVE_INTEGER, F_w_POSITIVE_INTEGER_ordinal, S_w_NONNEGATIVE_INTEGER, E_w_NONNEGATIVE_INTEGER, F_w_NONNEGATIVE_INTEGER_ordinal, S_w_ISO8601_DATE, E_w_ISO8601_DATE, F_w_ISO8601_DATE_ordinal, S_w_DIGEST, E_w_DIGEST, F_w_DIGEST_ordinal, S_w_PER_TIME_STANDARD, E_w_PER_TIME_STANDARD, F_w_PER_TIME_STANDARD_ordinal, S_w_PER_COORDINATE_SYSTEM, E_w_PER_COORDINATE_SYSTEM, F_w_PER_COORDINATE_SYSTEM_ordinal, S_w_TIME_SPAN, E_w_TIME_SPAN, F_w_TIME_SPAN_ordinal⟩ := id G
  have k0 : Way p e below (s₁.setTop (entryFrame m #[(.ref w_ISO639)] 1)) s₁ (mkF m 0 #[rv w_ISO639] []) := fun t k => castTop (by first | (simp [entryFrame, mkF, argsToLocals, Value.category]; done) | rfl) k
  generalize s₁.setTop (entryFrame m #[(.ref w_ISO639)] 1) = S0 at k0 ⊢
  have k1 : Way p e below S0 s₁ (mkF m 1 #[rv w_ISO639] [(.ref w_ISO639)]) := by
    intro t k
    refine k0 t ?_
    refine XS.aloadN X0.here hx rfl (hb hby d_prog_105_method_7_code_0) rfl rfl ?_
    show Steps p.tables e below (s₁.setTop (mkF m 1 #[rv w_ISO639] [(.ref w_ISO639)])) _
    exact k
  obtain ⟨T2, X2, e2, st2⟩ := getS2 X0 hx hZ hown (host := "") (Or.inl (hw _ (List.mem_of_getElem? (i := 13) rfl))) Via.refl e0 (S_w_DIGEST.ext O0.2) (g := (mkF m 1 #[rv w_ISO639] [(.ref w_ISO639)])) rfl (hb hby d_prog_105_method_7_code_1)
  have k3 : Way p e below S0 T2 (mkF m 4 #[rv w_ISO639] [(.ref w_DIGEST), (.ref w_ISO639)]) := fun t k => k1 t (st2 _ k)
  have k4 : Way p e below S0 T2 (mkF m 8 #[rv w_ISO639] [(.ref w_ISO639)]) := by
    intro t k
    refine k3 t ?_
    refine Jvm.RoadKit.acmp (g := (mkF m 4 #[rv w_ISO639] [(.ref w_DIGEST), (.ref w_ISO639)])) X2 hx rfl rfl rfl (pc0 := 4) (pc' := 7) (same := false) rfl (hb hby d_prog_105_method_7_code_4) rfl (decide_eq_false fun q => absurd (Value.ref.inj q) (F_w_ISO639_ordinal.ne F_w_DIGEST_ordinal (by decide))) (by decide) (by decide) ?_
    show Steps p.tables e below (T2.setTop (mkF m 7 #[rv w_ISO639] [])) _
    refine XS.aloadN X2.here hx rfl (hb hby d_prog_105_method_7_code_7) rfl rfl ?_
    show Steps p.tables e below (T2.setTop (mkF m 8 #[rv w_ISO639] [(.ref w_ISO639)])) _
    exact k
  obtain ⟨T5, X5, e5, st5⟩ := getS2 X2 hx hZ hown (host := "") (Or.inl (hw _ (List.mem_of_getElem? (i := 15) rfl))) Via.refl e2 (S_w_PER_TIME_STANDARD.ext O0.2) (g := (mkF m 8 #[rv w_ISO639] [(.ref w_ISO639)])) rfl (hb hby d_prog_105_method_7_code_8)
  have k6 : Way p e below S0 T5 (mkF m 11 #[rv w_ISO639] [(.ref w_PER_TIME_STANDARD), (.ref w_ISO639)]) := fun t k => k4 t (st5 _ k)
  have k7 : Way p e below S0 T5 (mkF m 15 #[rv w_ISO639] [(.ref w_ISO639)]) := by
    intro t k
    refine k6 t ?_
    refine Jvm.RoadKit.acmp (g := (mkF m 11 #[rv w_ISO639] [(.ref w_PER_TIME_STANDARD), (.ref w_ISO639)])) X5 hx rfl rfl rfl (pc0 := 11) (pc' := 14) (same := false) rfl (hb hby d_prog_105_method_7_code_11) rfl (decide_eq_false fun q => absurd (Value.ref.inj q) (F_w_ISO639_ordinal.ne F_w_PER_TIME_STANDARD_ordinal (by decide))) (by decide) (by decide) ?_
    show Steps p.tables e below (T5.setTop (mkF m 14 #[rv w_ISO639] [])) _
    refine XS.aloadN X5.here hx rfl (hb hby d_prog_105_method_7_code_14) rfl rfl ?_
    show Steps p.tables e below (T5.setTop (mkF m 15 #[rv w_ISO639] [(.ref w_ISO639)])) _
    exact k
  obtain ⟨T8, X8, e8, st8⟩ := getS2 X5 hx hZ hown (host := "") (Or.inl (hw _ (List.mem_of_getElem? (i := 17) rfl))) Via.refl e5 (S_w_PER_COORDINATE_SYSTEM.ext O0.2) (g := (mkF m 15 #[rv w_ISO639] [(.ref w_ISO639)])) rfl (hb hby d_prog_105_method_7_code_15)
  have k9 : Way p e below S0 T8 (mkF m 18 #[rv w_ISO639] [(.ref w_PER_COORDINATE_SYSTEM), (.ref w_ISO639)]) := fun t k => k7 t (st8 _ k)
  have k10 : Way p e below S0 T8 (mkF m 26 #[rv w_ISO639] [(.int (0 : Int32))]) := by
    intro t k
    refine k9 t ?_
    refine Jvm.RoadKit.acmp (g := (mkF m 18 #[rv w_ISO639] [(.ref w_PER_COORDINATE_SYSTEM), (.ref w_ISO639)])) X8 hx rfl rfl rfl (pc0 := 18) (pc' := 25) (same := false) rfl (hb hby d_prog_105_method_7_code_18) rfl (decide_eq_false fun q => absurd (Value.ref.inj q) (F_w_ISO639_ordinal.ne F_w_PER_COORDINATE_SYSTEM_ordinal (by decide))) (by decide) (by decide) ?_
    show Steps p.tables e below (T8.setTop (mkF m 25 #[rv w_ISO639] [])) _
    refine XS.iconst X8.here hx rfl (hb hby d_prog_105_method_7_code_25) ?_
    show Steps p.tables e below (T8.setTop (mkF m 26 #[rv w_ISO639] [(.int (0 : Int32))])) _
    exact k
  obtain ⟨fs, hr, hrun, hended, hW, hsame⟩ := X8.leave (v := some (.int (0 : Int32))) (fun h => by rw [Bd.returns] at h; cases h)
  refine ⟨_, _, k10 _ (retN X8 hx (t := .boolean) Bd.returns (by simp) (hb hby d_prog_105_method_7_code_26) hr), hrun, hended, _, _, rfl, ?_, ⟨_, rfl⟩, hW, hsame.mono (by decide) (by decide)⟩
  show Q_tff6 Z w_TEXT w_COMPOSITE w_CLOSED_LIST w_LISTED w_URI w_ISO3166_1_ALPHA2 w_ISO639 w_ISO15924 w_POSITIVE_NUMBER w_POSITIVE_INTEGER w_NONNEGATIVE_INTEGER w_ISO8601_DATE w_DIGEST w_PER_TIME_STANDARD w_PER_COORDINATE_SYSTEM w_TIME_SPAN  h0 n0 _ T8.heap _
  rw [e8]
  exact ⟨rfl, N0, rfl⟩
def Q_tff7 (Z : State) (w_TEXT : Addr) (w_COMPOSITE : Addr) (w_CLOSED_LIST : Addr) (w_LISTED : Addr) (w_URI : Addr) (w_ISO3166_1_ALPHA2 : Addr) (w_ISO639 : Addr) (w_ISO15924 : Addr) (w_POSITIVE_NUMBER : Addr) (w_POSITIVE_INTEGER : Addr) (w_NONNEGATIVE_INTEGER : Addr) (w_ISO8601_DATE : Addr) (w_DIGEST : Addr) (w_PER_TIME_STANDARD : Addr) (w_PER_COORDINATE_SYSTEM : Addr) (w_TIME_SPAN : Addr)  (h0 : Heap) (n0 : Nat) (v : Option Value) (h : Heap) (L : List Loc) : Prop := (v = some (.int (0 : Int32))) ∧ (Fr n0 L) ∧ (h = h0)
set_option maxRecDepth 65536 in
set_option maxHeartbeats 40000000 in
theorem tff7 (l : Launch) (Z : State) (a0 : Array Value) (hw : ∀ d ∈ tables_1, d.before a0 Z = true) (ws : List Jvm.Cond) (w_TEXT : Addr) (w_COMPOSITE : Addr) (w_CLOSED_LIST : Addr) (w_LISTED : Addr) (w_URI : Addr) (w_ISO3166_1_ALPHA2 : Addr) (w_ISO639 : Addr) (w_ISO15924 : Addr) (w_POSITIVE_NUMBER : Addr) (w_POSITIVE_INTEGER : Addr) (w_NONNEGATIVE_INTEGER : Addr) (w_ISO8601_DATE : Addr) (w_DIGEST : Addr) (w_PER_TIME_STANDARD : Addr) (w_PER_COORDINATE_SYSTEM : Addr) (w_TIME_SPAN : Addr) (G : Gst Z w_TEXT w_COMPOSITE w_CLOSED_LIST w_LISTED w_URI w_ISO3166_1_ALPHA2 w_ISO639 w_ISO15924 w_POSITIVE_NUMBER w_POSITIVE_INTEGER w_NONNEGATIVE_INTEGER w_ISO8601_DATE w_DIGEST w_PER_TIME_STANDARD w_PER_COORDINATE_SYSTEM w_TIME_SPAN)  (h0 : Heap) (n0 : Nat) (O0 : Old Z n0 h0) :
    MetFree l (⟨"gradivo/spec/ValueKind", "takesFormFrom", "()Z"⟩ : MethodName) (head1 (Jvm.Cond.code (⟨"gradivo/spec/ValueKind", "takesFormFrom", "()Z"⟩ : MethodName) prog_105_method_7_code 1 (some .boolean) :: ws) ({ frames := 0, cells := 0, slots := 0, locals := 0 } : Room)) (fun a U => a = #[(.ref w_ISO15924)] ∧ Z.Warmed39 U.vm ∧ U.heap = h0) (fun _ _ _ _ _ => True) (fun _ U o U' => ∃ v L, o = .returned v ∧ Q_tff7 Z w_TEXT w_COMPOSITE w_CLOSED_LIST w_LISTED w_URI w_ISO3166_1_ALPHA2 w_ISO639 w_ISO15924 w_POSITIVE_NUMBER w_POSITIVE_INTEGER w_NONNEGATIVE_INTEGER w_ISO8601_DATE w_DIGEST w_PER_TIME_STANDARD w_PER_COORDINATE_SYSTEM w_TIME_SPAN  h0 n0 v U'.heap L ∧ FrameEnd U o U' L ({ frames := 0, cells := 0, slots := 0, locals := 0 } : Room).cells ({ frames := 0, cells := 0, slots := 0, locals := 0 } : Room).slots) := by
  refine MetFree.of_bodySF (plainFor_of_name pn_1) hisR ?_
  intro p e s m args below meth c s₁ Bd hml0 hP hK
  obtain ⟨rfl, hZ, hh⟩ := hP
  have hx := Bd.exec
  have hby := Bd.bytes
  have hml : c.maxLocals = 1 := hml0
  have hown : s.vm.findClass "gradivo/spec/ValueKind" = some m.cls := findClass_of_methodNamed Bd.named
  have hnm := (name_of_methodNamed Bd.named Bd.method).1
  have X0 : Stand p l e ({ frames := 0, cells := 0, slots := 0, locals := 0 } : Room) s m #[(.ref w_ISO15924)] below meth c s₁ [] 0 0 := Stand.of_body Bd
  have e0 : s₁.heap = h0 := by rw [← hh, Bd.state]; rfl
  have N0 := Fr.nil n0
  obtain ⟨S_w_TEXT, E_w_TEXT, F_w_TEXT_ordinal, S_w_COMPOSITE, E_w_COMPOSITE, F_w_COMPOSITE_ordinal, S_w_CLOSED_LIST, E_w_CLOSED_LIST, F_w_CLOSED_LIST_ordinal, S_w_LISTED, E_w_LISTED, F_w_LISTED_ordinal, S_w_URI, E_w_URI, F_w_URI_ordinal, S_w_ISO3166_1_ALPHA2, E_w_ISO3166_1_ALPHA2, F_w_ISO3166_1_ALPHA2_ordinal, S_w_ISO639, E_w_ISO639, F_w_ISO639_ordinal, S_w_ISO15924, E_w_ISO15924, F_w_ISO15924_ordinal, S_w_POSITIVE_NUMBER, E_w_POSITIVE_NUMBER, F_w_POSITIVE_NUMBER_ordinal, S_w_POSITIVE_INTEGER, E_w_POSITIVE_INTEGER, F_w_POSITIVE_INTEGER_ordinal, S_w_NONNEGATIVE_INTEGER, E_w_NONNEGATIVE_INTEGER, F_w_NONNEGATIVE_INTEGER_ordinal, S_w_ISO8601_DATE, E_w_ISO8601_DATE, F_w_ISO8601_DATE_ordinal, S_w_DIGEST, E_w_DIGEST, F_w_DIGEST_ordinal, S_w_PER_TIME_STANDARD, E_w_PER_TIME_STANDARD, F_w_PER_TIME_STANDARD_ordinal, S_w_PER_COORDINATE_SYSTEM, E_w_PER_COORDINATE_SYSTEM, F_w_PER_COORDINATE_SYSTEM_ordinal, S_w_TIME_SPAN, E_w_TIME_SPAN, F_w_TIME_SPAN_ordinal⟩ := id G
  have k0 : Way p e below (s₁.setTop (entryFrame m #[(.ref w_ISO15924)] 1)) s₁ (mkF m 0 #[rv w_ISO15924] []) := fun t k => castTop (by first | (simp [entryFrame, mkF, argsToLocals, Value.category]; done) | rfl) k
  generalize s₁.setTop (entryFrame m #[(.ref w_ISO15924)] 1) = S0 at k0 ⊢
  have k1 : Way p e below S0 s₁ (mkF m 1 #[rv w_ISO15924] [(.ref w_ISO15924)]) := by
    intro t k
    refine k0 t ?_
    refine XS.aloadN X0.here hx rfl (hb hby d_prog_105_method_7_code_0) rfl rfl ?_
    show Steps p.tables e below (s₁.setTop (mkF m 1 #[rv w_ISO15924] [(.ref w_ISO15924)])) _
    exact k
  obtain ⟨T2, X2, e2, st2⟩ := getS2 X0 hx hZ hown (host := "") (Or.inl (hw _ (List.mem_of_getElem? (i := 13) rfl))) Via.refl e0 (S_w_DIGEST.ext O0.2) (g := (mkF m 1 #[rv w_ISO15924] [(.ref w_ISO15924)])) rfl (hb hby d_prog_105_method_7_code_1)
  have k3 : Way p e below S0 T2 (mkF m 4 #[rv w_ISO15924] [(.ref w_DIGEST), (.ref w_ISO15924)]) := fun t k => k1 t (st2 _ k)
  have k4 : Way p e below S0 T2 (mkF m 8 #[rv w_ISO15924] [(.ref w_ISO15924)]) := by
    intro t k
    refine k3 t ?_
    refine Jvm.RoadKit.acmp (g := (mkF m 4 #[rv w_ISO15924] [(.ref w_DIGEST), (.ref w_ISO15924)])) X2 hx rfl rfl rfl (pc0 := 4) (pc' := 7) (same := false) rfl (hb hby d_prog_105_method_7_code_4) rfl (decide_eq_false fun q => absurd (Value.ref.inj q) (F_w_ISO15924_ordinal.ne F_w_DIGEST_ordinal (by decide))) (by decide) (by decide) ?_
    show Steps p.tables e below (T2.setTop (mkF m 7 #[rv w_ISO15924] [])) _
    refine XS.aloadN X2.here hx rfl (hb hby d_prog_105_method_7_code_7) rfl rfl ?_
    show Steps p.tables e below (T2.setTop (mkF m 8 #[rv w_ISO15924] [(.ref w_ISO15924)])) _
    exact k
  obtain ⟨T5, X5, e5, st5⟩ := getS2 X2 hx hZ hown (host := "") (Or.inl (hw _ (List.mem_of_getElem? (i := 15) rfl))) Via.refl e2 (S_w_PER_TIME_STANDARD.ext O0.2) (g := (mkF m 8 #[rv w_ISO15924] [(.ref w_ISO15924)])) rfl (hb hby d_prog_105_method_7_code_8)
  have k6 : Way p e below S0 T5 (mkF m 11 #[rv w_ISO15924] [(.ref w_PER_TIME_STANDARD), (.ref w_ISO15924)]) := fun t k => k4 t (st5 _ k)
  have k7 : Way p e below S0 T5 (mkF m 15 #[rv w_ISO15924] [(.ref w_ISO15924)]) := by
    intro t k
    refine k6 t ?_
    refine Jvm.RoadKit.acmp (g := (mkF m 11 #[rv w_ISO15924] [(.ref w_PER_TIME_STANDARD), (.ref w_ISO15924)])) X5 hx rfl rfl rfl (pc0 := 11) (pc' := 14) (same := false) rfl (hb hby d_prog_105_method_7_code_11) rfl (decide_eq_false fun q => absurd (Value.ref.inj q) (F_w_ISO15924_ordinal.ne F_w_PER_TIME_STANDARD_ordinal (by decide))) (by decide) (by decide) ?_
    show Steps p.tables e below (T5.setTop (mkF m 14 #[rv w_ISO15924] [])) _
    refine XS.aloadN X5.here hx rfl (hb hby d_prog_105_method_7_code_14) rfl rfl ?_
    show Steps p.tables e below (T5.setTop (mkF m 15 #[rv w_ISO15924] [(.ref w_ISO15924)])) _
    exact k
  obtain ⟨T8, X8, e8, st8⟩ := getS2 X5 hx hZ hown (host := "") (Or.inl (hw _ (List.mem_of_getElem? (i := 17) rfl))) Via.refl e5 (S_w_PER_COORDINATE_SYSTEM.ext O0.2) (g := (mkF m 15 #[rv w_ISO15924] [(.ref w_ISO15924)])) rfl (hb hby d_prog_105_method_7_code_15)
  have k9 : Way p e below S0 T8 (mkF m 18 #[rv w_ISO15924] [(.ref w_PER_COORDINATE_SYSTEM), (.ref w_ISO15924)]) := fun t k => k7 t (st8 _ k)
  have k10 : Way p e below S0 T8 (mkF m 26 #[rv w_ISO15924] [(.int (0 : Int32))]) := by
    intro t k
    refine k9 t ?_
    refine Jvm.RoadKit.acmp (g := (mkF m 18 #[rv w_ISO15924] [(.ref w_PER_COORDINATE_SYSTEM), (.ref w_ISO15924)])) X8 hx rfl rfl rfl (pc0 := 18) (pc' := 25) (same := false) rfl (hb hby d_prog_105_method_7_code_18) rfl (decide_eq_false fun q => absurd (Value.ref.inj q) (F_w_ISO15924_ordinal.ne F_w_PER_COORDINATE_SYSTEM_ordinal (by decide))) (by decide) (by decide) ?_
    show Steps p.tables e below (T8.setTop (mkF m 25 #[rv w_ISO15924] [])) _
    refine XS.iconst X8.here hx rfl (hb hby d_prog_105_method_7_code_25) ?_
    show Steps p.tables e below (T8.setTop (mkF m 26 #[rv w_ISO15924] [(.int (0 : Int32))])) _
    exact k
  obtain ⟨fs, hr, hrun, hended, hW, hsame⟩ := X8.leave (v := some (.int (0 : Int32))) (fun h => by rw [Bd.returns] at h; cases h)
  refine ⟨_, _, k10 _ (retN X8 hx (t := .boolean) Bd.returns (by simp) (hb hby d_prog_105_method_7_code_26) hr), hrun, hended, _, _, rfl, ?_, ⟨_, rfl⟩, hW, hsame.mono (by decide) (by decide)⟩
  show Q_tff7 Z w_TEXT w_COMPOSITE w_CLOSED_LIST w_LISTED w_URI w_ISO3166_1_ALPHA2 w_ISO639 w_ISO15924 w_POSITIVE_NUMBER w_POSITIVE_INTEGER w_NONNEGATIVE_INTEGER w_ISO8601_DATE w_DIGEST w_PER_TIME_STANDARD w_PER_COORDINATE_SYSTEM w_TIME_SPAN  h0 n0 _ T8.heap _
  rw [e8]
  exact ⟨rfl, N0, rfl⟩
def Q_tff8 (Z : State) (w_TEXT : Addr) (w_COMPOSITE : Addr) (w_CLOSED_LIST : Addr) (w_LISTED : Addr) (w_URI : Addr) (w_ISO3166_1_ALPHA2 : Addr) (w_ISO639 : Addr) (w_ISO15924 : Addr) (w_POSITIVE_NUMBER : Addr) (w_POSITIVE_INTEGER : Addr) (w_NONNEGATIVE_INTEGER : Addr) (w_ISO8601_DATE : Addr) (w_DIGEST : Addr) (w_PER_TIME_STANDARD : Addr) (w_PER_COORDINATE_SYSTEM : Addr) (w_TIME_SPAN : Addr)  (h0 : Heap) (n0 : Nat) (v : Option Value) (h : Heap) (L : List Loc) : Prop := (v = some (.int (0 : Int32))) ∧ (Fr n0 L) ∧ (h = h0)
set_option maxRecDepth 65536 in
set_option maxHeartbeats 40000000 in
theorem tff8 (l : Launch) (Z : State) (a0 : Array Value) (hw : ∀ d ∈ tables_1, d.before a0 Z = true) (ws : List Jvm.Cond) (w_TEXT : Addr) (w_COMPOSITE : Addr) (w_CLOSED_LIST : Addr) (w_LISTED : Addr) (w_URI : Addr) (w_ISO3166_1_ALPHA2 : Addr) (w_ISO639 : Addr) (w_ISO15924 : Addr) (w_POSITIVE_NUMBER : Addr) (w_POSITIVE_INTEGER : Addr) (w_NONNEGATIVE_INTEGER : Addr) (w_ISO8601_DATE : Addr) (w_DIGEST : Addr) (w_PER_TIME_STANDARD : Addr) (w_PER_COORDINATE_SYSTEM : Addr) (w_TIME_SPAN : Addr) (G : Gst Z w_TEXT w_COMPOSITE w_CLOSED_LIST w_LISTED w_URI w_ISO3166_1_ALPHA2 w_ISO639 w_ISO15924 w_POSITIVE_NUMBER w_POSITIVE_INTEGER w_NONNEGATIVE_INTEGER w_ISO8601_DATE w_DIGEST w_PER_TIME_STANDARD w_PER_COORDINATE_SYSTEM w_TIME_SPAN)  (h0 : Heap) (n0 : Nat) (O0 : Old Z n0 h0) :
    MetFree l (⟨"gradivo/spec/ValueKind", "takesFormFrom", "()Z"⟩ : MethodName) (head1 (Jvm.Cond.code (⟨"gradivo/spec/ValueKind", "takesFormFrom", "()Z"⟩ : MethodName) prog_105_method_7_code 1 (some .boolean) :: ws) ({ frames := 0, cells := 0, slots := 0, locals := 0 } : Room)) (fun a U => a = #[(.ref w_POSITIVE_NUMBER)] ∧ Z.Warmed39 U.vm ∧ U.heap = h0) (fun _ _ _ _ _ => True) (fun _ U o U' => ∃ v L, o = .returned v ∧ Q_tff8 Z w_TEXT w_COMPOSITE w_CLOSED_LIST w_LISTED w_URI w_ISO3166_1_ALPHA2 w_ISO639 w_ISO15924 w_POSITIVE_NUMBER w_POSITIVE_INTEGER w_NONNEGATIVE_INTEGER w_ISO8601_DATE w_DIGEST w_PER_TIME_STANDARD w_PER_COORDINATE_SYSTEM w_TIME_SPAN  h0 n0 v U'.heap L ∧ FrameEnd U o U' L ({ frames := 0, cells := 0, slots := 0, locals := 0 } : Room).cells ({ frames := 0, cells := 0, slots := 0, locals := 0 } : Room).slots) := by
  refine MetFree.of_bodySF (plainFor_of_name pn_1) hisR ?_
  intro p e s m args below meth c s₁ Bd hml0 hP hK
  obtain ⟨rfl, hZ, hh⟩ := hP
  have hx := Bd.exec
  have hby := Bd.bytes
  have hml : c.maxLocals = 1 := hml0
  have hown : s.vm.findClass "gradivo/spec/ValueKind" = some m.cls := findClass_of_methodNamed Bd.named
  have hnm := (name_of_methodNamed Bd.named Bd.method).1
  have X0 : Stand p l e ({ frames := 0, cells := 0, slots := 0, locals := 0 } : Room) s m #[(.ref w_POSITIVE_NUMBER)] below meth c s₁ [] 0 0 := Stand.of_body Bd
  have e0 : s₁.heap = h0 := by rw [← hh, Bd.state]; rfl
  have N0 := Fr.nil n0
  obtain ⟨S_w_TEXT, E_w_TEXT, F_w_TEXT_ordinal, S_w_COMPOSITE, E_w_COMPOSITE, F_w_COMPOSITE_ordinal, S_w_CLOSED_LIST, E_w_CLOSED_LIST, F_w_CLOSED_LIST_ordinal, S_w_LISTED, E_w_LISTED, F_w_LISTED_ordinal, S_w_URI, E_w_URI, F_w_URI_ordinal, S_w_ISO3166_1_ALPHA2, E_w_ISO3166_1_ALPHA2, F_w_ISO3166_1_ALPHA2_ordinal, S_w_ISO639, E_w_ISO639, F_w_ISO639_ordinal, S_w_ISO15924, E_w_ISO15924, F_w_ISO15924_ordinal, S_w_POSITIVE_NUMBER, E_w_POSITIVE_NUMBER, F_w_POSITIVE_NUMBER_ordinal, S_w_POSITIVE_INTEGER, E_w_POSITIVE_INTEGER, F_w_POSITIVE_INTEGER_ordinal, S_w_NONNEGATIVE_INTEGER, E_w_NONNEGATIVE_INTEGER, F_w_NONNEGATIVE_INTEGER_ordinal, S_w_ISO8601_DATE, E_w_ISO8601_DATE, F_w_ISO8601_DATE_ordinal, S_w_DIGEST, E_w_DIGEST, F_w_DIGEST_ordinal, S_w_PER_TIME_STANDARD, E_w_PER_TIME_STANDARD, F_w_PER_TIME_STANDARD_ordinal, S_w_PER_COORDINATE_SYSTEM, E_w_PER_COORDINATE_SYSTEM, F_w_PER_COORDINATE_SYSTEM_ordinal, S_w_TIME_SPAN, E_w_TIME_SPAN, F_w_TIME_SPAN_ordinal⟩ := id G
  have k0 : Way p e below (s₁.setTop (entryFrame m #[(.ref w_POSITIVE_NUMBER)] 1)) s₁ (mkF m 0 #[rv w_POSITIVE_NUMBER] []) := fun t k => castTop (by first | (simp [entryFrame, mkF, argsToLocals, Value.category]; done) | rfl) k
  generalize s₁.setTop (entryFrame m #[(.ref w_POSITIVE_NUMBER)] 1) = S0 at k0 ⊢
  have k1 : Way p e below S0 s₁ (mkF m 1 #[rv w_POSITIVE_NUMBER] [(.ref w_POSITIVE_NUMBER)]) := by
    intro t k
    refine k0 t ?_
    refine XS.aloadN X0.here hx rfl (hb hby d_prog_105_method_7_code_0) rfl rfl ?_
    show Steps p.tables e below (s₁.setTop (mkF m 1 #[rv w_POSITIVE_NUMBER] [(.ref w_POSITIVE_NUMBER)])) _
    exact k
  obtain ⟨T2, X2, e2, st2⟩ := getS2 X0 hx hZ hown (host := "") (Or.inl (hw _ (List.mem_of_getElem? (i := 13) rfl))) Via.refl e0 (S_w_DIGEST.ext O0.2) (g := (mkF m 1 #[rv w_POSITIVE_NUMBER] [(.ref w_POSITIVE_NUMBER)])) rfl (hb hby d_prog_105_method_7_code_1)
  have k3 : Way p e below S0 T2 (mkF m 4 #[rv w_POSITIVE_NUMBER] [(.ref w_DIGEST), (.ref w_POSITIVE_NUMBER)]) := fun t k => k1 t (st2 _ k)
  have k4 : Way p e below S0 T2 (mkF m 8 #[rv w_POSITIVE_NUMBER] [(.ref w_POSITIVE_NUMBER)]) := by
    intro t k
    refine k3 t ?_
    refine Jvm.RoadKit.acmp (g := (mkF m 4 #[rv w_POSITIVE_NUMBER] [(.ref w_DIGEST), (.ref w_POSITIVE_NUMBER)])) X2 hx rfl rfl rfl (pc0 := 4) (pc' := 7) (same := false) rfl (hb hby d_prog_105_method_7_code_4) rfl (decide_eq_false fun q => absurd (Value.ref.inj q) (F_w_POSITIVE_NUMBER_ordinal.ne F_w_DIGEST_ordinal (by decide))) (by decide) (by decide) ?_
    show Steps p.tables e below (T2.setTop (mkF m 7 #[rv w_POSITIVE_NUMBER] [])) _
    refine XS.aloadN X2.here hx rfl (hb hby d_prog_105_method_7_code_7) rfl rfl ?_
    show Steps p.tables e below (T2.setTop (mkF m 8 #[rv w_POSITIVE_NUMBER] [(.ref w_POSITIVE_NUMBER)])) _
    exact k
  obtain ⟨T5, X5, e5, st5⟩ := getS2 X2 hx hZ hown (host := "") (Or.inl (hw _ (List.mem_of_getElem? (i := 15) rfl))) Via.refl e2 (S_w_PER_TIME_STANDARD.ext O0.2) (g := (mkF m 8 #[rv w_POSITIVE_NUMBER] [(.ref w_POSITIVE_NUMBER)])) rfl (hb hby d_prog_105_method_7_code_8)
  have k6 : Way p e below S0 T5 (mkF m 11 #[rv w_POSITIVE_NUMBER] [(.ref w_PER_TIME_STANDARD), (.ref w_POSITIVE_NUMBER)]) := fun t k => k4 t (st5 _ k)
  have k7 : Way p e below S0 T5 (mkF m 15 #[rv w_POSITIVE_NUMBER] [(.ref w_POSITIVE_NUMBER)]) := by
    intro t k
    refine k6 t ?_
    refine Jvm.RoadKit.acmp (g := (mkF m 11 #[rv w_POSITIVE_NUMBER] [(.ref w_PER_TIME_STANDARD), (.ref w_POSITIVE_NUMBER)])) X5 hx rfl rfl rfl (pc0 := 11) (pc' := 14) (same := false) rfl (hb hby d_prog_105_method_7_code_11) rfl (decide_eq_false fun q => absurd (Value.ref.inj q) (F_w_POSITIVE_NUMBER_ordinal.ne F_w_PER_TIME_STANDARD_ordinal (by decide))) (by decide) (by decide) ?_
    show Steps p.tables e below (T5.setTop (mkF m 14 #[rv w_POSITIVE_NUMBER] [])) _
    refine XS.aloadN X5.here hx rfl (hb hby d_prog_105_method_7_code_14) rfl rfl ?_
    show Steps p.tables e below (T5.setTop (mkF m 15 #[rv w_POSITIVE_NUMBER] [(.ref w_POSITIVE_NUMBER)])) _
    exact k
  obtain ⟨T8, X8, e8, st8⟩ := getS2 X5 hx hZ hown (host := "") (Or.inl (hw _ (List.mem_of_getElem? (i := 17) rfl))) Via.refl e5 (S_w_PER_COORDINATE_SYSTEM.ext O0.2) (g := (mkF m 15 #[rv w_POSITIVE_NUMBER] [(.ref w_POSITIVE_NUMBER)])) rfl (hb hby d_prog_105_method_7_code_15)
  have k9 : Way p e below S0 T8 (mkF m 18 #[rv w_POSITIVE_NUMBER] [(.ref w_PER_COORDINATE_SYSTEM), (.ref w_POSITIVE_NUMBER)]) := fun t k => k7 t (st8 _ k)
  have k10 : Way p e below S0 T8 (mkF m 26 #[rv w_POSITIVE_NUMBER] [(.int (0 : Int32))]) := by
    intro t k
    refine k9 t ?_
    refine Jvm.RoadKit.acmp (g := (mkF m 18 #[rv w_POSITIVE_NUMBER] [(.ref w_PER_COORDINATE_SYSTEM), (.ref w_POSITIVE_NUMBER)])) X8 hx rfl rfl rfl (pc0 := 18) (pc' := 25) (same := false) rfl (hb hby d_prog_105_method_7_code_18) rfl (decide_eq_false fun q => absurd (Value.ref.inj q) (F_w_POSITIVE_NUMBER_ordinal.ne F_w_PER_COORDINATE_SYSTEM_ordinal (by decide))) (by decide) (by decide) ?_
    show Steps p.tables e below (T8.setTop (mkF m 25 #[rv w_POSITIVE_NUMBER] [])) _
    refine XS.iconst X8.here hx rfl (hb hby d_prog_105_method_7_code_25) ?_
    show Steps p.tables e below (T8.setTop (mkF m 26 #[rv w_POSITIVE_NUMBER] [(.int (0 : Int32))])) _
    exact k
  obtain ⟨fs, hr, hrun, hended, hW, hsame⟩ := X8.leave (v := some (.int (0 : Int32))) (fun h => by rw [Bd.returns] at h; cases h)
  refine ⟨_, _, k10 _ (retN X8 hx (t := .boolean) Bd.returns (by simp) (hb hby d_prog_105_method_7_code_26) hr), hrun, hended, _, _, rfl, ?_, ⟨_, rfl⟩, hW, hsame.mono (by decide) (by decide)⟩
  show Q_tff8 Z w_TEXT w_COMPOSITE w_CLOSED_LIST w_LISTED w_URI w_ISO3166_1_ALPHA2 w_ISO639 w_ISO15924 w_POSITIVE_NUMBER w_POSITIVE_INTEGER w_NONNEGATIVE_INTEGER w_ISO8601_DATE w_DIGEST w_PER_TIME_STANDARD w_PER_COORDINATE_SYSTEM w_TIME_SPAN  h0 n0 _ T8.heap _
  rw [e8]
  exact ⟨rfl, N0, rfl⟩
def Q_tff9 (Z : State) (w_TEXT : Addr) (w_COMPOSITE : Addr) (w_CLOSED_LIST : Addr) (w_LISTED : Addr) (w_URI : Addr) (w_ISO3166_1_ALPHA2 : Addr) (w_ISO639 : Addr) (w_ISO15924 : Addr) (w_POSITIVE_NUMBER : Addr) (w_POSITIVE_INTEGER : Addr) (w_NONNEGATIVE_INTEGER : Addr) (w_ISO8601_DATE : Addr) (w_DIGEST : Addr) (w_PER_TIME_STANDARD : Addr) (w_PER_COORDINATE_SYSTEM : Addr) (w_TIME_SPAN : Addr)  (h0 : Heap) (n0 : Nat) (v : Option Value) (h : Heap) (L : List Loc) : Prop := (v = some (.int (0 : Int32))) ∧ (Fr n0 L) ∧ (h = h0)
set_option maxRecDepth 65536 in
set_option maxHeartbeats 40000000 in
theorem tff9 (l : Launch) (Z : State) (a0 : Array Value) (hw : ∀ d ∈ tables_1, d.before a0 Z = true) (ws : List Jvm.Cond) (w_TEXT : Addr) (w_COMPOSITE : Addr) (w_CLOSED_LIST : Addr) (w_LISTED : Addr) (w_URI : Addr) (w_ISO3166_1_ALPHA2 : Addr) (w_ISO639 : Addr) (w_ISO15924 : Addr) (w_POSITIVE_NUMBER : Addr) (w_POSITIVE_INTEGER : Addr) (w_NONNEGATIVE_INTEGER : Addr) (w_ISO8601_DATE : Addr) (w_DIGEST : Addr) (w_PER_TIME_STANDARD : Addr) (w_PER_COORDINATE_SYSTEM : Addr) (w_TIME_SPAN : Addr) (G : Gst Z w_TEXT w_COMPOSITE w_CLOSED_LIST w_LISTED w_URI w_ISO3166_1_ALPHA2 w_ISO639 w_ISO15924 w_POSITIVE_NUMBER w_POSITIVE_INTEGER w_NONNEGATIVE_INTEGER w_ISO8601_DATE w_DIGEST w_PER_TIME_STANDARD w_PER_COORDINATE_SYSTEM w_TIME_SPAN)  (h0 : Heap) (n0 : Nat) (O0 : Old Z n0 h0) :
    MetFree l (⟨"gradivo/spec/ValueKind", "takesFormFrom", "()Z"⟩ : MethodName) (head1 (Jvm.Cond.code (⟨"gradivo/spec/ValueKind", "takesFormFrom", "()Z"⟩ : MethodName) prog_105_method_7_code 1 (some .boolean) :: ws) ({ frames := 0, cells := 0, slots := 0, locals := 0 } : Room)) (fun a U => a = #[(.ref w_POSITIVE_INTEGER)] ∧ Z.Warmed39 U.vm ∧ U.heap = h0) (fun _ _ _ _ _ => True) (fun _ U o U' => ∃ v L, o = .returned v ∧ Q_tff9 Z w_TEXT w_COMPOSITE w_CLOSED_LIST w_LISTED w_URI w_ISO3166_1_ALPHA2 w_ISO639 w_ISO15924 w_POSITIVE_NUMBER w_POSITIVE_INTEGER w_NONNEGATIVE_INTEGER w_ISO8601_DATE w_DIGEST w_PER_TIME_STANDARD w_PER_COORDINATE_SYSTEM w_TIME_SPAN  h0 n0 v U'.heap L ∧ FrameEnd U o U' L ({ frames := 0, cells := 0, slots := 0, locals := 0 } : Room).cells ({ frames := 0, cells := 0, slots := 0, locals := 0 } : Room).slots) := by
  refine MetFree.of_bodySF (plainFor_of_name pn_1) hisR ?_
  intro p e s m args below meth c s₁ Bd hml0 hP hK
  obtain ⟨rfl, hZ, hh⟩ := hP
  have hx := Bd.exec
  have hby := Bd.bytes
  have hml : c.maxLocals = 1 := hml0
  have hown : s.vm.findClass "gradivo/spec/ValueKind" = some m.cls := findClass_of_methodNamed Bd.named
  have hnm := (name_of_methodNamed Bd.named Bd.method).1
  have X0 : Stand p l e ({ frames := 0, cells := 0, slots := 0, locals := 0 } : Room) s m #[(.ref w_POSITIVE_INTEGER)] below meth c s₁ [] 0 0 := Stand.of_body Bd
  have e0 : s₁.heap = h0 := by rw [← hh, Bd.state]; rfl
  have N0 := Fr.nil n0
  obtain ⟨S_w_TEXT, E_w_TEXT, F_w_TEXT_ordinal, S_w_COMPOSITE, E_w_COMPOSITE, F_w_COMPOSITE_ordinal, S_w_CLOSED_LIST, E_w_CLOSED_LIST, F_w_CLOSED_LIST_ordinal, S_w_LISTED, E_w_LISTED, F_w_LISTED_ordinal, S_w_URI, E_w_URI, F_w_URI_ordinal, S_w_ISO3166_1_ALPHA2, E_w_ISO3166_1_ALPHA2, F_w_ISO3166_1_ALPHA2_ordinal, S_w_ISO639, E_w_ISO639, F_w_ISO639_ordinal, S_w_ISO15924, E_w_ISO15924, F_w_ISO15924_ordinal, S_w_POSITIVE_NUMBER, E_w_POSITIVE_NUMBER, F_w_POSITIVE_NUMBER_ordinal, S_w_POSITIVE_INTEGER, E_w_POSITIVE_INTEGER, F_w_POSITIVE_INTEGER_ordinal, S_w_NONNEGATIVE_INTEGER, E_w_NONNEGATIVE_INTEGER, F_w_NONNEGATIVE_INTEGER_ordinal, S_w_ISO8601_DATE, E_w_ISO8601_DATE, F_w_ISO8601_DATE_ordinal, S_w_DIGEST, E_w_DIGEST, F_w_DIGEST_ordinal, S_w_PER_TIME_STANDARD, E_w_PER_TIME_STANDARD, F_w_PER_TIME_STANDARD_ordinal, S_w_PER_COORDINATE_SYSTEM, E_w_PER_COORDINATE_SYSTEM, F_w_PER_COORDINATE_SYSTEM_ordinal, S_w_TIME_SPAN, E_w_TIME_SPAN, F_w_TIME_SPAN_ordinal⟩ := id G
  have k0 : Way p e below (s₁.setTop (entryFrame m #[(.ref w_POSITIVE_INTEGER)] 1)) s₁ (mkF m 0 #[rv w_POSITIVE_INTEGER] []) := fun t k => castTop (by first | (simp [entryFrame, mkF, argsToLocals, Value.category]; done) | rfl) k
  generalize s₁.setTop (entryFrame m #[(.ref w_POSITIVE_INTEGER)] 1) = S0 at k0 ⊢
  have k1 : Way p e below S0 s₁ (mkF m 1 #[rv w_POSITIVE_INTEGER] [(.ref w_POSITIVE_INTEGER)]) := by
    intro t k
    refine k0 t ?_
    refine XS.aloadN X0.here hx rfl (hb hby d_prog_105_method_7_code_0) rfl rfl ?_
    show Steps p.tables e below (s₁.setTop (mkF m 1 #[rv w_POSITIVE_INTEGER] [(.ref w_POSITIVE_INTEGER)])) _
    exact k
  obtain ⟨T2, X2, e2, st2⟩ := getS2 X0 hx hZ hown (host := "") (Or.inl (hw _ (List.mem_of_getElem? (i := 13) rfl))) Via.refl e0 (S_w_DIGEST.ext O0.2) (g := (mkF m 1 #[rv w_POSITIVE_INTEGER] [(.ref w_POSITIVE_INTEGER)])) rfl (hb hby d_prog_105_method_7_code_1)
  have k3 : Way p e below S0 T2 (mkF m 4 #[rv w_POSITIVE_INTEGER] [(.ref w_DIGEST), (.ref w_POSITIVE_INTEGER)]) := fun t k => k1 t (st2 _ k)
  have k4 : Way p e below S0 T2 (mkF m 8 #[rv w_POSITIVE_INTEGER] [(.ref w_POSITIVE_INTEGER)]) := by
    intro t k
    refine k3 t ?_
    refine Jvm.RoadKit.acmp (g := (mkF m 4 #[rv w_POSITIVE_INTEGER] [(.ref w_DIGEST), (.ref w_POSITIVE_INTEGER)])) X2 hx rfl rfl rfl (pc0 := 4) (pc' := 7) (same := false) rfl (hb hby d_prog_105_method_7_code_4) rfl (decide_eq_false fun q => absurd (Value.ref.inj q) (F_w_POSITIVE_INTEGER_ordinal.ne F_w_DIGEST_ordinal (by decide))) (by decide) (by decide) ?_
    show Steps p.tables e below (T2.setTop (mkF m 7 #[rv w_POSITIVE_INTEGER] [])) _
    refine XS.aloadN X2.here hx rfl (hb hby d_prog_105_method_7_code_7) rfl rfl ?_
    show Steps p.tables e below (T2.setTop (mkF m 8 #[rv w_POSITIVE_INTEGER] [(.ref w_POSITIVE_INTEGER)])) _
    exact k
  obtain ⟨T5, X5, e5, st5⟩ := getS2 X2 hx hZ hown (host := "") (Or.inl (hw _ (List.mem_of_getElem? (i := 15) rfl))) Via.refl e2 (S_w_PER_TIME_STANDARD.ext O0.2) (g := (mkF m 8 #[rv w_POSITIVE_INTEGER] [(.ref w_POSITIVE_INTEGER)])) rfl (hb hby d_prog_105_method_7_code_8)
  have k6 : Way p e below S0 T5 (mkF m 11 #[rv w_POSITIVE_INTEGER] [(.ref w_PER_TIME_STANDARD), (.ref w_POSITIVE_INTEGER)]) := fun t k => k4 t (st5 _ k)
  have k7 : Way p e below S0 T5 (mkF m 15 #[rv w_POSITIVE_INTEGER] [(.ref w_POSITIVE_INTEGER)]) := by
    intro t k
    refine k6 t ?_
    refine Jvm.RoadKit.acmp (g := (mkF m 11 #[rv w_POSITIVE_INTEGER] [(.ref w_PER_TIME_STANDARD), (.ref w_POSITIVE_INTEGER)])) X5 hx rfl rfl rfl (pc0 := 11) (pc' := 14) (same := false) rfl (hb hby d_prog_105_method_7_code_11) rfl (decide_eq_false fun q => absurd (Value.ref.inj q) (F_w_POSITIVE_INTEGER_ordinal.ne F_w_PER_TIME_STANDARD_ordinal (by decide))) (by decide) (by decide) ?_
    show Steps p.tables e below (T5.setTop (mkF m 14 #[rv w_POSITIVE_INTEGER] [])) _
    refine XS.aloadN X5.here hx rfl (hb hby d_prog_105_method_7_code_14) rfl rfl ?_
    show Steps p.tables e below (T5.setTop (mkF m 15 #[rv w_POSITIVE_INTEGER] [(.ref w_POSITIVE_INTEGER)])) _
    exact k
  obtain ⟨T8, X8, e8, st8⟩ := getS2 X5 hx hZ hown (host := "") (Or.inl (hw _ (List.mem_of_getElem? (i := 17) rfl))) Via.refl e5 (S_w_PER_COORDINATE_SYSTEM.ext O0.2) (g := (mkF m 15 #[rv w_POSITIVE_INTEGER] [(.ref w_POSITIVE_INTEGER)])) rfl (hb hby d_prog_105_method_7_code_15)
  have k9 : Way p e below S0 T8 (mkF m 18 #[rv w_POSITIVE_INTEGER] [(.ref w_PER_COORDINATE_SYSTEM), (.ref w_POSITIVE_INTEGER)]) := fun t k => k7 t (st8 _ k)
  have k10 : Way p e below S0 T8 (mkF m 26 #[rv w_POSITIVE_INTEGER] [(.int (0 : Int32))]) := by
    intro t k
    refine k9 t ?_
    refine Jvm.RoadKit.acmp (g := (mkF m 18 #[rv w_POSITIVE_INTEGER] [(.ref w_PER_COORDINATE_SYSTEM), (.ref w_POSITIVE_INTEGER)])) X8 hx rfl rfl rfl (pc0 := 18) (pc' := 25) (same := false) rfl (hb hby d_prog_105_method_7_code_18) rfl (decide_eq_false fun q => absurd (Value.ref.inj q) (F_w_POSITIVE_INTEGER_ordinal.ne F_w_PER_COORDINATE_SYSTEM_ordinal (by decide))) (by decide) (by decide) ?_
    show Steps p.tables e below (T8.setTop (mkF m 25 #[rv w_POSITIVE_INTEGER] [])) _
    refine XS.iconst X8.here hx rfl (hb hby d_prog_105_method_7_code_25) ?_
    show Steps p.tables e below (T8.setTop (mkF m 26 #[rv w_POSITIVE_INTEGER] [(.int (0 : Int32))])) _
    exact k
  obtain ⟨fs, hr, hrun, hended, hW, hsame⟩ := X8.leave (v := some (.int (0 : Int32))) (fun h => by rw [Bd.returns] at h; cases h)
  refine ⟨_, _, k10 _ (retN X8 hx (t := .boolean) Bd.returns (by simp) (hb hby d_prog_105_method_7_code_26) hr), hrun, hended, _, _, rfl, ?_, ⟨_, rfl⟩, hW, hsame.mono (by decide) (by decide)⟩
  show Q_tff9 Z w_TEXT w_COMPOSITE w_CLOSED_LIST w_LISTED w_URI w_ISO3166_1_ALPHA2 w_ISO639 w_ISO15924 w_POSITIVE_NUMBER w_POSITIVE_INTEGER w_NONNEGATIVE_INTEGER w_ISO8601_DATE w_DIGEST w_PER_TIME_STANDARD w_PER_COORDINATE_SYSTEM w_TIME_SPAN  h0 n0 _ T8.heap _
  rw [e8]
  exact ⟨rfl, N0, rfl⟩
def Q_tff10 (Z : State) (w_TEXT : Addr) (w_COMPOSITE : Addr) (w_CLOSED_LIST : Addr) (w_LISTED : Addr) (w_URI : Addr) (w_ISO3166_1_ALPHA2 : Addr) (w_ISO639 : Addr) (w_ISO15924 : Addr) (w_POSITIVE_NUMBER : Addr) (w_POSITIVE_INTEGER : Addr) (w_NONNEGATIVE_INTEGER : Addr) (w_ISO8601_DATE : Addr) (w_DIGEST : Addr) (w_PER_TIME_STANDARD : Addr) (w_PER_COORDINATE_SYSTEM : Addr) (w_TIME_SPAN : Addr)  (h0 : Heap) (n0 : Nat) (v : Option Value) (h : Heap) (L : List Loc) : Prop := (v = some (.int (0 : Int32))) ∧ (Fr n0 L) ∧ (h = h0)
set_option maxRecDepth 65536 in
set_option maxHeartbeats 40000000 in
theorem tff10 (l : Launch) (Z : State) (a0 : Array Value) (hw : ∀ d ∈ tables_1, d.before a0 Z = true) (ws : List Jvm.Cond) (w_TEXT : Addr) (w_COMPOSITE : Addr) (w_CLOSED_LIST : Addr) (w_LISTED : Addr) (w_URI : Addr) (w_ISO3166_1_ALPHA2 : Addr) (w_ISO639 : Addr) (w_ISO15924 : Addr) (w_POSITIVE_NUMBER : Addr) (w_POSITIVE_INTEGER : Addr) (w_NONNEGATIVE_INTEGER : Addr) (w_ISO8601_DATE : Addr) (w_DIGEST : Addr) (w_PER_TIME_STANDARD : Addr) (w_PER_COORDINATE_SYSTEM : Addr) (w_TIME_SPAN : Addr) (G : Gst Z w_TEXT w_COMPOSITE w_CLOSED_LIST w_LISTED w_URI w_ISO3166_1_ALPHA2 w_ISO639 w_ISO15924 w_POSITIVE_NUMBER w_POSITIVE_INTEGER w_NONNEGATIVE_INTEGER w_ISO8601_DATE w_DIGEST w_PER_TIME_STANDARD w_PER_COORDINATE_SYSTEM w_TIME_SPAN)  (h0 : Heap) (n0 : Nat) (O0 : Old Z n0 h0) :
    MetFree l (⟨"gradivo/spec/ValueKind", "takesFormFrom", "()Z"⟩ : MethodName) (head1 (Jvm.Cond.code (⟨"gradivo/spec/ValueKind", "takesFormFrom", "()Z"⟩ : MethodName) prog_105_method_7_code 1 (some .boolean) :: ws) ({ frames := 0, cells := 0, slots := 0, locals := 0 } : Room)) (fun a U => a = #[(.ref w_NONNEGATIVE_INTEGER)] ∧ Z.Warmed39 U.vm ∧ U.heap = h0) (fun _ _ _ _ _ => True) (fun _ U o U' => ∃ v L, o = .returned v ∧ Q_tff10 Z w_TEXT w_COMPOSITE w_CLOSED_LIST w_LISTED w_URI w_ISO3166_1_ALPHA2 w_ISO639 w_ISO15924 w_POSITIVE_NUMBER w_POSITIVE_INTEGER w_NONNEGATIVE_INTEGER w_ISO8601_DATE w_DIGEST w_PER_TIME_STANDARD w_PER_COORDINATE_SYSTEM w_TIME_SPAN  h0 n0 v U'.heap L ∧ FrameEnd U o U' L ({ frames := 0, cells := 0, slots := 0, locals := 0 } : Room).cells ({ frames := 0, cells := 0, slots := 0, locals := 0 } : Room).slots) := by
  refine MetFree.of_bodySF (plainFor_of_name pn_1) hisR ?_
  intro p e s m args below meth c s₁ Bd hml0 hP hK
  obtain ⟨rfl, hZ, hh⟩ := hP
  have hx := Bd.exec
  have hby := Bd.bytes
  have hml : c.maxLocals = 1 := hml0
  have hown : s.vm.findClass "gradivo/spec/ValueKind" = some m.cls := findClass_of_methodNamed Bd.named
  have hnm := (name_of_methodNamed Bd.named Bd.method).1
  have X0 : Stand p l e ({ frames := 0, cells := 0, slots := 0, locals := 0 } : Room) s m #[(.ref w_NONNEGATIVE_INTEGER)] below meth c s₁ [] 0 0 := Stand.of_body Bd
  have e0 : s₁.heap = h0 := by rw [← hh, Bd.state]; rfl
  have N0 := Fr.nil n0
  obtain ⟨S_w_TEXT, E_w_TEXT, F_w_TEXT_ordinal, S_w_COMPOSITE, E_w_COMPOSITE, F_w_COMPOSITE_ordinal, S_w_CLOSED_LIST, E_w_CLOSED_LIST, F_w_CLOSED_LIST_ordinal, S_w_LISTED, E_w_LISTED, F_w_LISTED_ordinal, S_w_URI, E_w_URI, F_w_URI_ordinal, S_w_ISO3166_1_ALPHA2, E_w_ISO3166_1_ALPHA2, F_w_ISO3166_1_ALPHA2_ordinal, S_w_ISO639, E_w_ISO639, F_w_ISO639_ordinal, S_w_ISO15924, E_w_ISO15924, F_w_ISO15924_ordinal, S_w_POSITIVE_NUMBER, E_w_POSITIVE_NUMBER, F_w_POSITIVE_NUMBER_ordinal, S_w_POSITIVE_INTEGER, E_w_POSITIVE_INTEGER, F_w_POSITIVE_INTEGER_ordinal, S_w_NONNEGATIVE_INTEGER, E_w_NONNEGATIVE_INTEGER, F_w_NONNEGATIVE_INTEGER_ordinal, S_w_ISO8601_DATE, E_w_ISO8601_DATE, F_w_ISO8601_DATE_ordinal, S_w_DIGEST, E_w_DIGEST, F_w_DIGEST_ordinal, S_w_PER_TIME_STANDARD, E_w_PER_TIME_STANDARD, F_w_PER_TIME_STANDARD_ordinal, S_w_PER_COORDINATE_SYSTEM, E_w_PER_COORDINATE_SYSTEM, F_w_PER_COORDINATE_SYSTEM_ordinal, S_w_TIME_SPAN, E_w_TIME_SPAN, F_w_TIME_SPAN_ordinal⟩ := id G
  have k0 : Way p e below (s₁.setTop (entryFrame m #[(.ref w_NONNEGATIVE_INTEGER)] 1)) s₁ (mkF m 0 #[rv w_NONNEGATIVE_INTEGER] []) := fun t k => castTop (by first | (simp [entryFrame, mkF, argsToLocals, Value.category]; done) | rfl) k
  generalize s₁.setTop (entryFrame m #[(.ref w_NONNEGATIVE_INTEGER)] 1) = S0 at k0 ⊢
  have k1 : Way p e below S0 s₁ (mkF m 1 #[rv w_NONNEGATIVE_INTEGER] [(.ref w_NONNEGATIVE_INTEGER)]) := by
    intro t k
    refine k0 t ?_
    refine XS.aloadN X0.here hx rfl (hb hby d_prog_105_method_7_code_0) rfl rfl ?_
    show Steps p.tables e below (s₁.setTop (mkF m 1 #[rv w_NONNEGATIVE_INTEGER] [(.ref w_NONNEGATIVE_INTEGER)])) _
    exact k
  obtain ⟨T2, X2, e2, st2⟩ := getS2 X0 hx hZ hown (host := "") (Or.inl (hw _ (List.mem_of_getElem? (i := 13) rfl))) Via.refl e0 (S_w_DIGEST.ext O0.2) (g := (mkF m 1 #[rv w_NONNEGATIVE_INTEGER] [(.ref w_NONNEGATIVE_INTEGER)])) rfl (hb hby d_prog_105_method_7_code_1)
  have k3 : Way p e below S0 T2 (mkF m 4 #[rv w_NONNEGATIVE_INTEGER] [(.ref w_DIGEST), (.ref w_NONNEGATIVE_INTEGER)]) := fun t k => k1 t (st2 _ k)
  have k4 : Way p e below S0 T2 (mkF m 8 #[rv w_NONNEGATIVE_INTEGER] [(.ref w_NONNEGATIVE_INTEGER)]) := by
    intro t k
    refine k3 t ?_
    refine Jvm.RoadKit.acmp (g := (mkF m 4 #[rv w_NONNEGATIVE_INTEGER] [(.ref w_DIGEST), (.ref w_NONNEGATIVE_INTEGER)])) X2 hx rfl rfl rfl (pc0 := 4) (pc' := 7) (same := false) rfl (hb hby d_prog_105_method_7_code_4) rfl (decide_eq_false fun q => absurd (Value.ref.inj q) (F_w_NONNEGATIVE_INTEGER_ordinal.ne F_w_DIGEST_ordinal (by decide))) (by decide) (by decide) ?_
    show Steps p.tables e below (T2.setTop (mkF m 7 #[rv w_NONNEGATIVE_INTEGER] [])) _
    refine XS.aloadN X2.here hx rfl (hb hby d_prog_105_method_7_code_7) rfl rfl ?_
    show Steps p.tables e below (T2.setTop (mkF m 8 #[rv w_NONNEGATIVE_INTEGER] [(.ref w_NONNEGATIVE_INTEGER)])) _
    exact k
  obtain ⟨T5, X5, e5, st5⟩ := getS2 X2 hx hZ hown (host := "") (Or.inl (hw _ (List.mem_of_getElem? (i := 15) rfl))) Via.refl e2 (S_w_PER_TIME_STANDARD.ext O0.2) (g := (mkF m 8 #[rv w_NONNEGATIVE_INTEGER] [(.ref w_NONNEGATIVE_INTEGER)])) rfl (hb hby d_prog_105_method_7_code_8)
  have k6 : Way p e below S0 T5 (mkF m 11 #[rv w_NONNEGATIVE_INTEGER] [(.ref w_PER_TIME_STANDARD), (.ref w_NONNEGATIVE_INTEGER)]) := fun t k => k4 t (st5 _ k)
  have k7 : Way p e below S0 T5 (mkF m 15 #[rv w_NONNEGATIVE_INTEGER] [(.ref w_NONNEGATIVE_INTEGER)]) := by
    intro t k
    refine k6 t ?_
    refine Jvm.RoadKit.acmp (g := (mkF m 11 #[rv w_NONNEGATIVE_INTEGER] [(.ref w_PER_TIME_STANDARD), (.ref w_NONNEGATIVE_INTEGER)])) X5 hx rfl rfl rfl (pc0 := 11) (pc' := 14) (same := false) rfl (hb hby d_prog_105_method_7_code_11) rfl (decide_eq_false fun q => absurd (Value.ref.inj q) (F_w_NONNEGATIVE_INTEGER_ordinal.ne F_w_PER_TIME_STANDARD_ordinal (by decide))) (by decide) (by decide) ?_
    show Steps p.tables e below (T5.setTop (mkF m 14 #[rv w_NONNEGATIVE_INTEGER] [])) _
    refine XS.aloadN X5.here hx rfl (hb hby d_prog_105_method_7_code_14) rfl rfl ?_
    show Steps p.tables e below (T5.setTop (mkF m 15 #[rv w_NONNEGATIVE_INTEGER] [(.ref w_NONNEGATIVE_INTEGER)])) _
    exact k
  obtain ⟨T8, X8, e8, st8⟩ := getS2 X5 hx hZ hown (host := "") (Or.inl (hw _ (List.mem_of_getElem? (i := 17) rfl))) Via.refl e5 (S_w_PER_COORDINATE_SYSTEM.ext O0.2) (g := (mkF m 15 #[rv w_NONNEGATIVE_INTEGER] [(.ref w_NONNEGATIVE_INTEGER)])) rfl (hb hby d_prog_105_method_7_code_15)
  have k9 : Way p e below S0 T8 (mkF m 18 #[rv w_NONNEGATIVE_INTEGER] [(.ref w_PER_COORDINATE_SYSTEM), (.ref w_NONNEGATIVE_INTEGER)]) := fun t k => k7 t (st8 _ k)
  have k10 : Way p e below S0 T8 (mkF m 26 #[rv w_NONNEGATIVE_INTEGER] [(.int (0 : Int32))]) := by
    intro t k
    refine k9 t ?_
    refine Jvm.RoadKit.acmp (g := (mkF m 18 #[rv w_NONNEGATIVE_INTEGER] [(.ref w_PER_COORDINATE_SYSTEM), (.ref w_NONNEGATIVE_INTEGER)])) X8 hx rfl rfl rfl (pc0 := 18) (pc' := 25) (same := false) rfl (hb hby d_prog_105_method_7_code_18) rfl (decide_eq_false fun q => absurd (Value.ref.inj q) (F_w_NONNEGATIVE_INTEGER_ordinal.ne F_w_PER_COORDINATE_SYSTEM_ordinal (by decide))) (by decide) (by decide) ?_
    show Steps p.tables e below (T8.setTop (mkF m 25 #[rv w_NONNEGATIVE_INTEGER] [])) _
    refine XS.iconst X8.here hx rfl (hb hby d_prog_105_method_7_code_25) ?_
    show Steps p.tables e below (T8.setTop (mkF m 26 #[rv w_NONNEGATIVE_INTEGER] [(.int (0 : Int32))])) _
    exact k
  obtain ⟨fs, hr, hrun, hended, hW, hsame⟩ := X8.leave (v := some (.int (0 : Int32))) (fun h => by rw [Bd.returns] at h; cases h)
  refine ⟨_, _, k10 _ (retN X8 hx (t := .boolean) Bd.returns (by simp) (hb hby d_prog_105_method_7_code_26) hr), hrun, hended, _, _, rfl, ?_, ⟨_, rfl⟩, hW, hsame.mono (by decide) (by decide)⟩
  show Q_tff10 Z w_TEXT w_COMPOSITE w_CLOSED_LIST w_LISTED w_URI w_ISO3166_1_ALPHA2 w_ISO639 w_ISO15924 w_POSITIVE_NUMBER w_POSITIVE_INTEGER w_NONNEGATIVE_INTEGER w_ISO8601_DATE w_DIGEST w_PER_TIME_STANDARD w_PER_COORDINATE_SYSTEM w_TIME_SPAN  h0 n0 _ T8.heap _
  rw [e8]
  exact ⟨rfl, N0, rfl⟩
def Q_tff11 (Z : State) (w_TEXT : Addr) (w_COMPOSITE : Addr) (w_CLOSED_LIST : Addr) (w_LISTED : Addr) (w_URI : Addr) (w_ISO3166_1_ALPHA2 : Addr) (w_ISO639 : Addr) (w_ISO15924 : Addr) (w_POSITIVE_NUMBER : Addr) (w_POSITIVE_INTEGER : Addr) (w_NONNEGATIVE_INTEGER : Addr) (w_ISO8601_DATE : Addr) (w_DIGEST : Addr) (w_PER_TIME_STANDARD : Addr) (w_PER_COORDINATE_SYSTEM : Addr) (w_TIME_SPAN : Addr)  (h0 : Heap) (n0 : Nat) (v : Option Value) (h : Heap) (L : List Loc) : Prop := (v = some (.int (0 : Int32))) ∧ (Fr n0 L) ∧ (h = h0)
set_option maxRecDepth 65536 in
set_option maxHeartbeats 40000000 in
theorem tff11 (l : Launch) (Z : State) (a0 : Array Value) (hw : ∀ d ∈ tables_1, d.before a0 Z = true) (ws : List Jvm.Cond) (w_TEXT : Addr) (w_COMPOSITE : Addr) (w_CLOSED_LIST : Addr) (w_LISTED : Addr) (w_URI : Addr) (w_ISO3166_1_ALPHA2 : Addr) (w_ISO639 : Addr) (w_ISO15924 : Addr) (w_POSITIVE_NUMBER : Addr) (w_POSITIVE_INTEGER : Addr) (w_NONNEGATIVE_INTEGER : Addr) (w_ISO8601_DATE : Addr) (w_DIGEST : Addr) (w_PER_TIME_STANDARD : Addr) (w_PER_COORDINATE_SYSTEM : Addr) (w_TIME_SPAN : Addr) (G : Gst Z w_TEXT w_COMPOSITE w_CLOSED_LIST w_LISTED w_URI w_ISO3166_1_ALPHA2 w_ISO639 w_ISO15924 w_POSITIVE_NUMBER w_POSITIVE_INTEGER w_NONNEGATIVE_INTEGER w_ISO8601_DATE w_DIGEST w_PER_TIME_STANDARD w_PER_COORDINATE_SYSTEM w_TIME_SPAN)  (h0 : Heap) (n0 : Nat) (O0 : Old Z n0 h0) :
    MetFree l (⟨"gradivo/spec/ValueKind", "takesFormFrom", "()Z"⟩ : MethodName) (head1 (Jvm.Cond.code (⟨"gradivo/spec/ValueKind", "takesFormFrom", "()Z"⟩ : MethodName) prog_105_method_7_code 1 (some .boolean) :: ws) ({ frames := 0, cells := 0, slots := 0, locals := 0 } : Room)) (fun a U => a = #[(.ref w_ISO8601_DATE)] ∧ Z.Warmed39 U.vm ∧ U.heap = h0) (fun _ _ _ _ _ => True) (fun _ U o U' => ∃ v L, o = .returned v ∧ Q_tff11 Z w_TEXT w_COMPOSITE w_CLOSED_LIST w_LISTED w_URI w_ISO3166_1_ALPHA2 w_ISO639 w_ISO15924 w_POSITIVE_NUMBER w_POSITIVE_INTEGER w_NONNEGATIVE_INTEGER w_ISO8601_DATE w_DIGEST w_PER_TIME_STANDARD w_PER_COORDINATE_SYSTEM w_TIME_SPAN  h0 n0 v U'.heap L ∧ FrameEnd U o U' L ({ frames := 0, cells := 0, slots := 0, locals := 0 } : Room).cells ({ frames := 0, cells := 0, slots := 0, locals := 0 } : Room).slots) := by
  refine MetFree.of_bodySF (plainFor_of_name pn_1) hisR ?_
  intro p e s m args below meth c s₁ Bd hml0 hP hK
  obtain ⟨rfl, hZ, hh⟩ := hP
  have hx := Bd.exec
  have hby := Bd.bytes
  have hml : c.maxLocals = 1 := hml0
  have hown : s.vm.findClass "gradivo/spec/ValueKind" = some m.cls := findClass_of_methodNamed Bd.named
  have hnm := (name_of_methodNamed Bd.named Bd.method).1
  have X0 : Stand p l e ({ frames := 0, cells := 0, slots := 0, locals := 0 } : Room) s m #[(.ref w_ISO8601_DATE)] below meth c s₁ [] 0 0 := Stand.of_body Bd
  have e0 : s₁.heap = h0 := by rw [← hh, Bd.state]; rfl
  have N0 := Fr.nil n0
  obtain ⟨S_w_TEXT, E_w_TEXT, F_w_TEXT_ordinal, S_w_COMPOSITE, E_w_COMPOSITE, F_w_COMPOSITE_ordinal, S_w_CLOSED_LIST, E_w_CLOSED_LIST, F_w_CLOSED_LIST_ordinal, S_w_LISTED, E_w_LISTED, F_w_LISTED_ordinal, S_w_URI, E_w_URI, F_w_URI_ordinal, S_w_ISO3166_1_ALPHA2, E_w_ISO3166_1_ALPHA2, F_w_ISO3166_1_ALPHA2_ordinal, S_w_ISO639, E_w_ISO639, F_w_ISO639_ordinal, S_w_ISO15924, E_w_ISO15924, F_w_ISO15924_ordinal, S_w_POSITIVE_NUMBER, E_w_POSITIVE_NUMBER, F_w_POSITIVE_NUMBER_ordinal, S_w_POSITIVE_INTEGER, E_w_POSITIVE_INTEGER, F_w_POSITIVE_INTEGER_ordinal, S_w_NONNEGATIVE_INTEGER, E_w_NONNEGATIVE_INTEGER, F_w_NONNEGATIVE_INTEGER_ordinal, S_w_ISO8601_DATE, E_w_ISO8601_DATE, F_w_ISO8601_DATE_ordinal, S_w_DIGEST, E_w_DIGEST, F_w_DIGEST_ordinal, S_w_PER_TIME_STANDARD, E_w_PER_TIME_STANDARD, F_w_PER_TIME_STANDARD_ordinal, S_w_PER_COORDINATE_SYSTEM, E_w_PER_COORDINATE_SYSTEM, F_w_PER_COORDINATE_SYSTEM_ordinal, S_w_TIME_SPAN, E_w_TIME_SPAN, F_w_TIME_SPAN_ordinal⟩ := id G
  have k0 : Way p e below (s₁.setTop (entryFrame m #[(.ref w_ISO8601_DATE)] 1)) s₁ (mkF m 0 #[rv w_ISO8601_DATE] []) := fun t k => castTop (by first | (simp [entryFrame, mkF, argsToLocals, Value.category]; done) | rfl) k
  generalize s₁.setTop (entryFrame m #[(.ref w_ISO8601_DATE)] 1) = S0 at k0 ⊢
  have k1 : Way p e below S0 s₁ (mkF m 1 #[rv w_ISO8601_DATE] [(.ref w_ISO8601_DATE)]) := by
    intro t k
    refine k0 t ?_
    refine XS.aloadN X0.here hx rfl (hb hby d_prog_105_method_7_code_0) rfl rfl ?_
    show Steps p.tables e below (s₁.setTop (mkF m 1 #[rv w_ISO8601_DATE] [(.ref w_ISO8601_DATE)])) _
    exact k
  obtain ⟨T2, X2, e2, st2⟩ := getS2 X0 hx hZ hown (host := "") (Or.inl (hw _ (List.mem_of_getElem? (i := 13) rfl))) Via.refl e0 (S_w_DIGEST.ext O0.2) (g := (mkF m 1 #[rv w_ISO8601_DATE] [(.ref w_ISO8601_DATE)])) rfl (hb hby d_prog_105_method_7_code_1)
  have k3 : Way p e below S0 T2 (mkF m 4 #[rv w_ISO8601_DATE] [(.ref w_DIGEST), (.ref w_ISO8601_DATE)]) := fun t k => k1 t (st2 _ k)
  have k4 : Way p e below S0 T2 (mkF m 8 #[rv w_ISO8601_DATE] [(.ref w_ISO8601_DATE)]) := by
    intro t k
    refine k3 t ?_
    refine Jvm.RoadKit.acmp (g := (mkF m 4 #[rv w_ISO8601_DATE] [(.ref w_DIGEST), (.ref w_ISO8601_DATE)])) X2 hx rfl rfl rfl (pc0 := 4) (pc' := 7) (same := false) rfl (hb hby d_prog_105_method_7_code_4) rfl (decide_eq_false fun q => absurd (Value.ref.inj q) (F_w_ISO8601_DATE_ordinal.ne F_w_DIGEST_ordinal (by decide))) (by decide) (by decide) ?_
    show Steps p.tables e below (T2.setTop (mkF m 7 #[rv w_ISO8601_DATE] [])) _
    refine XS.aloadN X2.here hx rfl (hb hby d_prog_105_method_7_code_7) rfl rfl ?_
    show Steps p.tables e below (T2.setTop (mkF m 8 #[rv w_ISO8601_DATE] [(.ref w_ISO8601_DATE)])) _
    exact k
  obtain ⟨T5, X5, e5, st5⟩ := getS2 X2 hx hZ hown (host := "") (Or.inl (hw _ (List.mem_of_getElem? (i := 15) rfl))) Via.refl e2 (S_w_PER_TIME_STANDARD.ext O0.2) (g := (mkF m 8 #[rv w_ISO8601_DATE] [(.ref w_ISO8601_DATE)])) rfl (hb hby d_prog_105_method_7_code_8)
  have k6 : Way p e below S0 T5 (mkF m 11 #[rv w_ISO8601_DATE] [(.ref w_PER_TIME_STANDARD), (.ref w_ISO8601_DATE)]) := fun t k => k4 t (st5 _ k)
  have k7 : Way p e below S0 T5 (mkF m 15 #[rv w_ISO8601_DATE] [(.ref w_ISO8601_DATE)]) := by
    intro t k
    refine k6 t ?_
    refine Jvm.RoadKit.acmp (g := (mkF m 11 #[rv w_ISO8601_DATE] [(.ref w_PER_TIME_STANDARD), (.ref w_ISO8601_DATE)])) X5 hx rfl rfl rfl (pc0 := 11) (pc' := 14) (same := false) rfl (hb hby d_prog_105_method_7_code_11) rfl (decide_eq_false fun q => absurd (Value.ref.inj q) (F_w_ISO8601_DATE_ordinal.ne F_w_PER_TIME_STANDARD_ordinal (by decide))) (by decide) (by decide) ?_
    show Steps p.tables e below (T5.setTop (mkF m 14 #[rv w_ISO8601_DATE] [])) _
    refine XS.aloadN X5.here hx rfl (hb hby d_prog_105_method_7_code_14) rfl rfl ?_
    show Steps p.tables e below (T5.setTop (mkF m 15 #[rv w_ISO8601_DATE] [(.ref w_ISO8601_DATE)])) _
    exact k
  obtain ⟨T8, X8, e8, st8⟩ := getS2 X5 hx hZ hown (host := "") (Or.inl (hw _ (List.mem_of_getElem? (i := 17) rfl))) Via.refl e5 (S_w_PER_COORDINATE_SYSTEM.ext O0.2) (g := (mkF m 15 #[rv w_ISO8601_DATE] [(.ref w_ISO8601_DATE)])) rfl (hb hby d_prog_105_method_7_code_15)
  have k9 : Way p e below S0 T8 (mkF m 18 #[rv w_ISO8601_DATE] [(.ref w_PER_COORDINATE_SYSTEM), (.ref w_ISO8601_DATE)]) := fun t k => k7 t (st8 _ k)
  have k10 : Way p e below S0 T8 (mkF m 26 #[rv w_ISO8601_DATE] [(.int (0 : Int32))]) := by
    intro t k
    refine k9 t ?_
    refine Jvm.RoadKit.acmp (g := (mkF m 18 #[rv w_ISO8601_DATE] [(.ref w_PER_COORDINATE_SYSTEM), (.ref w_ISO8601_DATE)])) X8 hx rfl rfl rfl (pc0 := 18) (pc' := 25) (same := false) rfl (hb hby d_prog_105_method_7_code_18) rfl (decide_eq_false fun q => absurd (Value.ref.inj q) (F_w_ISO8601_DATE_ordinal.ne F_w_PER_COORDINATE_SYSTEM_ordinal (by decide))) (by decide) (by decide) ?_
    show Steps p.tables e below (T8.setTop (mkF m 25 #[rv w_ISO8601_DATE] [])) _
    refine XS.iconst X8.here hx rfl (hb hby d_prog_105_method_7_code_25) ?_
    show Steps p.tables e below (T8.setTop (mkF m 26 #[rv w_ISO8601_DATE] [(.int (0 : Int32))])) _
    exact k
  obtain ⟨fs, hr, hrun, hended, hW, hsame⟩ := X8.leave (v := some (.int (0 : Int32))) (fun h => by rw [Bd.returns] at h; cases h)
  refine ⟨_, _, k10 _ (retN X8 hx (t := .boolean) Bd.returns (by simp) (hb hby d_prog_105_method_7_code_26) hr), hrun, hended, _, _, rfl, ?_, ⟨_, rfl⟩, hW, hsame.mono (by decide) (by decide)⟩
  show Q_tff11 Z w_TEXT w_COMPOSITE w_CLOSED_LIST w_LISTED w_URI w_ISO3166_1_ALPHA2 w_ISO639 w_ISO15924 w_POSITIVE_NUMBER w_POSITIVE_INTEGER w_NONNEGATIVE_INTEGER w_ISO8601_DATE w_DIGEST w_PER_TIME_STANDARD w_PER_COORDINATE_SYSTEM w_TIME_SPAN  h0 n0 _ T8.heap _
  rw [e8]
  exact ⟨rfl, N0, rfl⟩
def Q_tff12 (Z : State) (w_TEXT : Addr) (w_COMPOSITE : Addr) (w_CLOSED_LIST : Addr) (w_LISTED : Addr) (w_URI : Addr) (w_ISO3166_1_ALPHA2 : Addr) (w_ISO639 : Addr) (w_ISO15924 : Addr) (w_POSITIVE_NUMBER : Addr) (w_POSITIVE_INTEGER : Addr) (w_NONNEGATIVE_INTEGER : Addr) (w_ISO8601_DATE : Addr) (w_DIGEST : Addr) (w_PER_TIME_STANDARD : Addr) (w_PER_COORDINATE_SYSTEM : Addr) (w_TIME_SPAN : Addr)  (h0 : Heap) (n0 : Nat) (v : Option Value) (h : Heap) (L : List Loc) : Prop := (v = some (.int (1 : Int32))) ∧ (Fr n0 L) ∧ (h = h0)
set_option maxRecDepth 65536 in
set_option maxHeartbeats 40000000 in
theorem tff12 (l : Launch) (Z : State) (a0 : Array Value) (hw : ∀ d ∈ tables_1, d.before a0 Z = true) (ws : List Jvm.Cond) (w_TEXT : Addr) (w_COMPOSITE : Addr) (w_CLOSED_LIST : Addr) (w_LISTED : Addr) (w_URI : Addr) (w_ISO3166_1_ALPHA2 : Addr) (w_ISO639 : Addr) (w_ISO15924 : Addr) (w_POSITIVE_NUMBER : Addr) (w_POSITIVE_INTEGER : Addr) (w_NONNEGATIVE_INTEGER : Addr) (w_ISO8601_DATE : Addr) (w_DIGEST : Addr) (w_PER_TIME_STANDARD : Addr) (w_PER_COORDINATE_SYSTEM : Addr) (w_TIME_SPAN : Addr) (G : Gst Z w_TEXT w_COMPOSITE w_CLOSED_LIST w_LISTED w_URI w_ISO3166_1_ALPHA2 w_ISO639 w_ISO15924 w_POSITIVE_NUMBER w_POSITIVE_INTEGER w_NONNEGATIVE_INTEGER w_ISO8601_DATE w_DIGEST w_PER_TIME_STANDARD w_PER_COORDINATE_SYSTEM w_TIME_SPAN)  (h0 : Heap) (n0 : Nat) (O0 : Old Z n0 h0) :
    MetFree l (⟨"gradivo/spec/ValueKind", "takesFormFrom", "()Z"⟩ : MethodName) (head1 (Jvm.Cond.code (⟨"gradivo/spec/ValueKind", "takesFormFrom", "()Z"⟩ : MethodName) prog_105_method_7_code 1 (some .boolean) :: ws) ({ frames := 0, cells := 0, slots := 0, locals := 0 } : Room)) (fun a U => a = #[(.ref w_DIGEST)] ∧ Z.Warmed39 U.vm ∧ U.heap = h0) (fun _ _ _ _ _ => True) (fun _ U o U' => ∃ v L, o = .returned v ∧ Q_tff12 Z w_TEXT w_COMPOSITE w_CLOSED_LIST w_LISTED w_URI w_ISO3166_1_ALPHA2 w_ISO639 w_ISO15924 w_POSITIVE_NUMBER w_POSITIVE_INTEGER w_NONNEGATIVE_INTEGER w_ISO8601_DATE w_DIGEST w_PER_TIME_STANDARD w_PER_COORDINATE_SYSTEM w_TIME_SPAN  h0 n0 v U'.heap L ∧ FrameEnd U o U' L ({ frames := 0, cells := 0, slots := 0, locals := 0 } : Room).cells ({ frames := 0, cells := 0, slots := 0, locals := 0 } : Room).slots) := by
  refine MetFree.of_bodySF (plainFor_of_name pn_1) hisR ?_
  intro p e s m args below meth c s₁ Bd hml0 hP hK
  obtain ⟨rfl, hZ, hh⟩ := hP
  have hx := Bd.exec
  have hby := Bd.bytes
  have hml : c.maxLocals = 1 := hml0
  have hown : s.vm.findClass "gradivo/spec/ValueKind" = some m.cls := findClass_of_methodNamed Bd.named
  have hnm := (name_of_methodNamed Bd.named Bd.method).1
  have X0 : Stand p l e ({ frames := 0, cells := 0, slots := 0, locals := 0 } : Room) s m #[(.ref w_DIGEST)] below meth c s₁ [] 0 0 := Stand.of_body Bd
  have e0 : s₁.heap = h0 := by rw [← hh, Bd.state]; rfl
  have N0 := Fr.nil n0
  obtain ⟨S_w_TEXT, E_w_TEXT, F_w_TEXT_ordinal, S_w_COMPOSITE, E_w_COMPOSITE, F_w_COMPOSITE_ordinal, S_w_CLOSED_LIST, E_w_CLOSED_LIST, F_w_CLOSED_LIST_ordinal, S_w_LISTED, E_w_LISTED, F_w_LISTED_ordinal, S_w_URI, E_w_URI, F_w_URI_ordinal, S_w_ISO3166_1_ALPHA2, E_w_ISO3166_1_ALPHA2, F_w_ISO3166_1_ALPHA2_ordinal, S_w_ISO639, E_w_ISO639, F_w_ISO639_ordinal, S_w_ISO15924, E_w_ISO15924, F_w_ISO15924_ordinal, S_w_POSITIVE_NUMBER, E_w_POSITIVE_NUMBER, F_w_POSITIVE_NUMBER_ordinal, S_w_POSITIVE_INTEGER, E_w_POSITIVE_INTEGER, F_w_POSITIVE_INTEGER_ordinal, S_w_NONNEGATIVE_INTEGER, E_w_NONNEGATIVE_INTEGER, F_w_NONNEGATIVE_INTEGER_ordinal, S_w_ISO8601_DATE, E_w_ISO8601_DATE, F_w_ISO8601_DATE_ordinal, S_w_DIGEST, E_w_DIGEST, F_w_DIGEST_ordinal, S_w_PER_TIME_STANDARD, E_w_PER_TIME_STANDARD, F_w_PER_TIME_STANDARD_ordinal, S_w_PER_COORDINATE_SYSTEM, E_w_PER_COORDINATE_SYSTEM, F_w_PER_COORDINATE_SYSTEM_ordinal, S_w_TIME_SPAN, E_w_TIME_SPAN, F_w_TIME_SPAN_ordinal⟩ := id G
  have k0 : Way p e below (s₁.setTop (entryFrame m #[(.ref w_DIGEST)] 1)) s₁ (mkF m 0 #[rv w_DIGEST] []) := fun t k => castTop (by first | (simp [entryFrame, mkF, argsToLocals, Value.category]; done) | rfl) k
  generalize s₁.setTop (entryFrame m #[(.ref w_DIGEST)] 1) = S0 at k0 ⊢
  have k1 : Way p e below S0 s₁ (mkF m 1 #[rv w_DIGEST] [(.ref w_DIGEST)]) := by
    intro t k
    refine k0 t ?_
    refine XS.aloadN X0.here hx rfl (hb hby d_prog_105_method_7_code_0) rfl rfl ?_
    show Steps p.tables e below (s₁.setTop (mkF m 1 #[rv w_DIGEST] [(.ref w_DIGEST)])) _
    exact k
  obtain ⟨T2, X2, e2, st2⟩ := getS2 X0 hx hZ hown (host := "") (Or.inl (hw _ (List.mem_of_getElem? (i := 13) rfl))) Via.refl e0 (S_w_DIGEST.ext O0.2) (g := (mkF m 1 #[rv w_DIGEST] [(.ref w_DIGEST)])) rfl (hb hby d_prog_105_method_7_code_1)
  have k3 : Way p e below S0 T2 (mkF m 4 #[rv w_DIGEST] [(.ref w_DIGEST), (.ref w_DIGEST)]) := fun t k => k1 t (st2 _ k)
  have k4 : Way p e below S0 T2 (mkF m 26 #[rv w_DIGEST] [(.int (1 : Int32))]) := by
    intro t k
    refine k3 t ?_
    refine Jvm.RoadKit.acmp (g := (mkF m 4 #[rv w_DIGEST] [(.ref w_DIGEST), (.ref w_DIGEST)])) X2 hx rfl rfl rfl (pc0 := 4) (pc' := 21) (same := true) rfl (hb hby d_prog_105_method_7_code_4) rfl (decide_eq_true rfl) (by decide) (by decide) ?_
    show Steps p.tables e below (T2.setTop (mkF m 21 #[rv w_DIGEST] [])) _
    refine XS.iconst X2.here hx rfl (hb hby d_prog_105_method_7_code_21) ?_
    show Steps p.tables e below (T2.setTop (mkF m 22 #[rv w_DIGEST] [(.int (1 : Int32))])) _
    refine XS.goto X2.here hx rfl (pc0 := 22) (pc' := 26) rfl (hb hby d_prog_105_method_7_code_22) (by decide) (by decide) ?_
    show Steps p.tables e below (T2.setTop (mkF m 26 #[rv w_DIGEST] [(.int (1 : Int32))])) _
    exact k
  obtain ⟨fs, hr, hrun, hended, hW, hsame⟩ := X2.leave (v := some (.int (1 : Int32))) (fun h => by rw [Bd.returns] at h; cases h)
  refine ⟨_, _, k4 _ (retN X2 hx (t := .boolean) Bd.returns (by simp) (hb hby d_prog_105_method_7_code_26) hr), hrun, hended, _, _, rfl, ?_, ⟨_, rfl⟩, hW, hsame.mono (by decide) (by decide)⟩
  show Q_tff12 Z w_TEXT w_COMPOSITE w_CLOSED_LIST w_LISTED w_URI w_ISO3166_1_ALPHA2 w_ISO639 w_ISO15924 w_POSITIVE_NUMBER w_POSITIVE_INTEGER w_NONNEGATIVE_INTEGER w_ISO8601_DATE w_DIGEST w_PER_TIME_STANDARD w_PER_COORDINATE_SYSTEM w_TIME_SPAN  h0 n0 _ T2.heap _
  rw [e2]
  exact ⟨rfl, N0, rfl⟩
def Q_tff13 (Z : State) (w_TEXT : Addr) (w_COMPOSITE : Addr) (w_CLOSED_LIST : Addr) (w_LISTED : Addr) (w_URI : Addr) (w_ISO3166_1_ALPHA2 : Addr) (w_ISO639 : Addr) (w_ISO15924 : Addr) (w_POSITIVE_NUMBER : Addr) (w_POSITIVE_INTEGER : Addr) (w_NONNEGATIVE_INTEGER : Addr) (w_ISO8601_DATE : Addr) (w_DIGEST : Addr) (w_PER_TIME_STANDARD : Addr) (w_PER_COORDINATE_SYSTEM : Addr) (w_TIME_SPAN : Addr)  (h0 : Heap) (n0 : Nat) (v : Option Value) (h : Heap) (L : List Loc) : Prop := (v = some (.int (1 : Int32))) ∧ (Fr n0 L) ∧ (h = h0)
set_option maxRecDepth 65536 in
set_option maxHeartbeats 40000000 in
theorem tff13 (l : Launch) (Z : State) (a0 : Array Value) (hw : ∀ d ∈ tables_1, d.before a0 Z = true) (ws : List Jvm.Cond) (w_TEXT : Addr) (w_COMPOSITE : Addr) (w_CLOSED_LIST : Addr) (w_LISTED : Addr) (w_URI : Addr) (w_ISO3166_1_ALPHA2 : Addr) (w_ISO639 : Addr) (w_ISO15924 : Addr) (w_POSITIVE_NUMBER : Addr) (w_POSITIVE_INTEGER : Addr) (w_NONNEGATIVE_INTEGER : Addr) (w_ISO8601_DATE : Addr) (w_DIGEST : Addr) (w_PER_TIME_STANDARD : Addr) (w_PER_COORDINATE_SYSTEM : Addr) (w_TIME_SPAN : Addr) (G : Gst Z w_TEXT w_COMPOSITE w_CLOSED_LIST w_LISTED w_URI w_ISO3166_1_ALPHA2 w_ISO639 w_ISO15924 w_POSITIVE_NUMBER w_POSITIVE_INTEGER w_NONNEGATIVE_INTEGER w_ISO8601_DATE w_DIGEST w_PER_TIME_STANDARD w_PER_COORDINATE_SYSTEM w_TIME_SPAN)  (h0 : Heap) (n0 : Nat) (O0 : Old Z n0 h0) :
    MetFree l (⟨"gradivo/spec/ValueKind", "takesFormFrom", "()Z"⟩ : MethodName) (head1 (Jvm.Cond.code (⟨"gradivo/spec/ValueKind", "takesFormFrom", "()Z"⟩ : MethodName) prog_105_method_7_code 1 (some .boolean) :: ws) ({ frames := 0, cells := 0, slots := 0, locals := 0 } : Room)) (fun a U => a = #[(.ref w_PER_TIME_STANDARD)] ∧ Z.Warmed39 U.vm ∧ U.heap = h0) (fun _ _ _ _ _ => True) (fun _ U o U' => ∃ v L, o = .returned v ∧ Q_tff13 Z w_TEXT w_COMPOSITE w_CLOSED_LIST w_LISTED w_URI w_ISO3166_1_ALPHA2 w_ISO639 w_ISO15924 w_POSITIVE_NUMBER w_POSITIVE_INTEGER w_NONNEGATIVE_INTEGER w_ISO8601_DATE w_DIGEST w_PER_TIME_STANDARD w_PER_COORDINATE_SYSTEM w_TIME_SPAN  h0 n0 v U'.heap L ∧ FrameEnd U o U' L ({ frames := 0, cells := 0, slots := 0, locals := 0 } : Room).cells ({ frames := 0, cells := 0, slots := 0, locals := 0 } : Room).slots) := by
  refine MetFree.of_bodySF (plainFor_of_name pn_1) hisR ?_
  intro p e s m args below meth c s₁ Bd hml0 hP hK
  obtain ⟨rfl, hZ, hh⟩ := hP
  have hx := Bd.exec
  have hby := Bd.bytes
  have hml : c.maxLocals = 1 := hml0
  have hown : s.vm.findClass "gradivo/spec/ValueKind" = some m.cls := findClass_of_methodNamed Bd.named
  have hnm := (name_of_methodNamed Bd.named Bd.method).1
  have X0 : Stand p l e ({ frames := 0, cells := 0, slots := 0, locals := 0 } : Room) s m #[(.ref w_PER_TIME_STANDARD)] below meth c s₁ [] 0 0 := Stand.of_body Bd
  have e0 : s₁.heap = h0 := by rw [← hh, Bd.state]; rfl
  have N0 := Fr.nil n0
  obtain ⟨S_w_TEXT, E_w_TEXT, F_w_TEXT_ordinal, S_w_COMPOSITE, E_w_COMPOSITE, F_w_COMPOSITE_ordinal, S_w_CLOSED_LIST, E_w_CLOSED_LIST, F_w_CLOSED_LIST_ordinal, S_w_LISTED, E_w_LISTED, F_w_LISTED_ordinal, S_w_URI, E_w_URI, F_w_URI_ordinal, S_w_ISO3166_1_ALPHA2, E_w_ISO3166_1_ALPHA2, F_w_ISO3166_1_ALPHA2_ordinal, S_w_ISO639, E_w_ISO639, F_w_ISO639_ordinal, S_w_ISO15924, E_w_ISO15924, F_w_ISO15924_ordinal, S_w_POSITIVE_NUMBER, E_w_POSITIVE_NUMBER, F_w_POSITIVE_NUMBER_ordinal, S_w_POSITIVE_INTEGER, E_w_POSITIVE_INTEGER, F_w_POSITIVE_INTEGER_ordinal, S_w_NONNEGATIVE_INTEGER, E_w_NONNEGATIVE_INTEGER, F_w_NONNEGATIVE_INTEGER_ordinal, S_w_ISO8601_DATE, E_w_ISO8601_DATE, F_w_ISO8601_DATE_ordinal, S_w_DIGEST, E_w_DIGEST, F_w_DIGEST_ordinal, S_w_PER_TIME_STANDARD, E_w_PER_TIME_STANDARD, F_w_PER_TIME_STANDARD_ordinal, S_w_PER_COORDINATE_SYSTEM, E_w_PER_COORDINATE_SYSTEM, F_w_PER_COORDINATE_SYSTEM_ordinal, S_w_TIME_SPAN, E_w_TIME_SPAN, F_w_TIME_SPAN_ordinal⟩ := id G
  have k0 : Way p e below (s₁.setTop (entryFrame m #[(.ref w_PER_TIME_STANDARD)] 1)) s₁ (mkF m 0 #[rv w_PER_TIME_STANDARD] []) := fun t k => castTop (by first | (simp [entryFrame, mkF, argsToLocals, Value.category]; done) | rfl) k
  generalize s₁.setTop (entryFrame m #[(.ref w_PER_TIME_STANDARD)] 1) = S0 at k0 ⊢
  have k1 : Way p e below S0 s₁ (mkF m 1 #[rv w_PER_TIME_STANDARD] [(.ref w_PER_TIME_STANDARD)]) := by
    intro t k
    refine k0 t ?_
    refine XS.aloadN X0.here hx rfl (hb hby d_prog_105_method_7_code_0) rfl rfl ?_
    show Steps p.tables e below (s₁.setTop (mkF m 1 #[rv w_PER_TIME_STANDARD] [(.ref w_PER_TIME_STANDARD)])) _
    exact k
  obtain ⟨T2, X2, e2, st2⟩ := getS2 X0 hx hZ hown (host := "") (Or.inl (hw _ (List.mem_of_getElem? (i := 13) rfl))) Via.refl e0 (S_w_DIGEST.ext O0.2) (g := (mkF m 1 #[rv w_PER_TIME_STANDARD] [(.ref w_PER_TIME_STANDARD)])) rfl (hb hby d_prog_105_method_7_code_1)
  have k3 : Way p e below S0 T2 (mkF m 4 #[rv w_PER_TIME_STANDARD] [(.ref w_DIGEST), (.ref w_PER_TIME_STANDARD)]) := fun t k => k1 t (st2 _ k)
  have k4 : Way p e below S0 T2 (mkF m 8 #[rv w_PER_TIME_STANDARD] [(.ref w_PER_TIME_STANDARD)]) := by
    intro t k
    refine k3 t ?_
    refine Jvm.RoadKit.acmp (g := (mkF m 4 #[rv w_PER_TIME_STANDARD] [(.ref w_DIGEST), (.ref w_PER_TIME_STANDARD)])) X2 hx rfl rfl rfl (pc0 := 4) (pc' := 7) (same := false) rfl (hb hby d_prog_105_method_7_code_4) rfl (decide_eq_false fun q => absurd (Value.ref.inj q) (F_w_PER_TIME_STANDARD_ordinal.ne F_w_DIGEST_ordinal (by decide))) (by decide) (by decide) ?_
    show Steps p.tables e below (T2.setTop (mkF m 7 #[rv w_PER_TIME_STANDARD] [])) _
    refine XS.aloadN X2.here hx rfl (hb hby d_prog_105_method_7_code_7) rfl rfl ?_
    show Steps p.tables e below (T2.setTop (mkF m 8 #[rv w_PER_TIME_STANDARD] [(.ref w_PER_TIME_STANDARD)])) _
    exact k
  obtain ⟨T5, X5, e5, st5⟩ := getS2 X2 hx hZ hown (host := "") (Or.inl (hw _ (List.mem_of_getElem? (i := 15) rfl))) Via.refl e2 (S_w_PER_TIME_STANDARD.ext O0.2) (g := (mkF m 8 #[rv w_PER_TIME_STANDARD] [(.ref w_PER_TIME_STANDARD)])) rfl (hb hby d_prog_105_method_7_code_8)
  have k6 : Way p e below S0 T5 (mkF m 11 #[rv w_PER_TIME_STANDARD] [(.ref w_PER_TIME_STANDARD), (.ref w_PER_TIME_STANDARD)]) := fun t k => k4 t (st5 _ k)
  have k7 : Way p e below S0 T5 (mkF m 26 #[rv w_PER_TIME_STANDARD] [(.int (1 : Int32))]) := by
    intro t k
    refine k6 t ?_
    refine Jvm.RoadKit.acmp (g := (mkF m 11 #[rv w_PER_TIME_STANDARD] [(.ref w_PER_TIME_STANDARD), (.ref w_PER_TIME_STANDARD)])) X5 hx rfl rfl rfl (pc0 := 11) (pc' := 21) (same := true) rfl (hb hby d_prog_105_method_7_code_11) rfl (decide_eq_true rfl) (by decide) (by decide) ?_
    show Steps p.tables e below (T5.setTop (mkF m 21 #[rv w_PER_TIME_STANDARD] [])) _
    refine XS.iconst X5.here hx rfl (hb hby d_prog_105_method_7_code_21) ?_
    show Steps p.tables e below (T5.setTop (mkF m 22 #[rv w_PER_TIME_STANDARD] [(.int (1 : Int32))])) _
    refine XS.goto X5.here hx rfl (pc0 := 22) (pc' := 26) rfl (hb hby d_prog_105_method_7_code_22) (by decide) (by decide) ?_
    show Steps p.tables e below (T5.setTop (mkF m 26 #[rv w_PER_TIME_STANDARD] [(.int (1 : Int32))])) _
    exact k
  obtain ⟨fs, hr, hrun, hended, hW, hsame⟩ := X5.leave (v := some (.int (1 : Int32))) (fun h => by rw [Bd.returns] at h; cases h)
  refine ⟨_, _, k7 _ (retN X5 hx (t := .boolean) Bd.returns (by simp) (hb hby d_prog_105_method_7_code_26) hr), hrun, hended, _, _, rfl, ?_, ⟨_, rfl⟩, hW, hsame.mono (by decide) (by decide)⟩
  show Q_tff13 Z w_TEXT w_COMPOSITE w_CLOSED_LIST w_LISTED w_URI w_ISO3166_1_ALPHA2 w_ISO639 w_ISO15924 w_POSITIVE_NUMBER w_POSITIVE_INTEGER w_NONNEGATIVE_INTEGER w_ISO8601_DATE w_DIGEST w_PER_TIME_STANDARD w_PER_COORDINATE_SYSTEM w_TIME_SPAN  h0 n0 _ T5.heap _
  rw [e5]
  exact ⟨rfl, N0, rfl⟩
def Q_tff14 (Z : State) (w_TEXT : Addr) (w_COMPOSITE : Addr) (w_CLOSED_LIST : Addr) (w_LISTED : Addr) (w_URI : Addr) (w_ISO3166_1_ALPHA2 : Addr) (w_ISO639 : Addr) (w_ISO15924 : Addr) (w_POSITIVE_NUMBER : Addr) (w_POSITIVE_INTEGER : Addr) (w_NONNEGATIVE_INTEGER : Addr) (w_ISO8601_DATE : Addr) (w_DIGEST : Addr) (w_PER_TIME_STANDARD : Addr) (w_PER_COORDINATE_SYSTEM : Addr) (w_TIME_SPAN : Addr)  (h0 : Heap) (n0 : Nat) (v : Option Value) (h : Heap) (L : List Loc) : Prop := (v = some (.int (1 : Int32))) ∧ (Fr n0 L) ∧ (h = h0)
set_option maxRecDepth 65536 in
set_option maxHeartbeats 40000000 in
theorem tff14 (l : Launch) (Z : State) (a0 : Array Value) (hw : ∀ d ∈ tables_1, d.before a0 Z = true) (ws : List Jvm.Cond) (w_TEXT : Addr) (w_COMPOSITE : Addr) (w_CLOSED_LIST : Addr) (w_LISTED : Addr) (w_URI : Addr) (w_ISO3166_1_ALPHA2 : Addr) (w_ISO639 : Addr) (w_ISO15924 : Addr) (w_POSITIVE_NUMBER : Addr) (w_POSITIVE_INTEGER : Addr) (w_NONNEGATIVE_INTEGER : Addr) (w_ISO8601_DATE : Addr) (w_DIGEST : Addr) (w_PER_TIME_STANDARD : Addr) (w_PER_COORDINATE_SYSTEM : Addr) (w_TIME_SPAN : Addr) (G : Gst Z w_TEXT w_COMPOSITE w_CLOSED_LIST w_LISTED w_URI w_ISO3166_1_ALPHA2 w_ISO639 w_ISO15924 w_POSITIVE_NUMBER w_POSITIVE_INTEGER w_NONNEGATIVE_INTEGER w_ISO8601_DATE w_DIGEST w_PER_TIME_STANDARD w_PER_COORDINATE_SYSTEM w_TIME_SPAN)  (h0 : Heap) (n0 : Nat) (O0 : Old Z n0 h0) :
    MetFree l (⟨"gradivo/spec/ValueKind", "takesFormFrom", "()Z"⟩ : MethodName) (head1 (Jvm.Cond.code (⟨"gradivo/spec/ValueKind", "takesFormFrom", "()Z"⟩ : MethodName) prog_105_method_7_code 1 (some .boolean) :: ws) ({ frames := 0, cells := 0, slots := 0, locals := 0 } : Room)) (fun a U => a = #[(.ref w_PER_COORDINATE_SYSTEM)] ∧ Z.Warmed39 U.vm ∧ U.heap = h0) (fun _ _ _ _ _ => True) (fun _ U o U' => ∃ v L, o = .returned v ∧ Q_tff14 Z w_TEXT w_COMPOSITE w_CLOSED_LIST w_LISTED w_URI w_ISO3166_1_ALPHA2 w_ISO639 w_ISO15924 w_POSITIVE_NUMBER w_POSITIVE_INTEGER w_NONNEGATIVE_INTEGER w_ISO8601_DATE w_DIGEST w_PER_TIME_STANDARD w_PER_COORDINATE_SYSTEM w_TIME_SPAN  h0 n0 v U'.heap L ∧ FrameEnd U o U' L ({ frames := 0, cells := 0, slots := 0, locals := 0 } : Room).cells ({ frames := 0, cells := 0, slots := 0, locals := 0 } : Room).slots) := by
  refine MetFree.of_bodySF (plainFor_of_name pn_1) hisR ?_
  intro p e s m args below meth c s₁ Bd hml0 hP hK
  obtain ⟨rfl, hZ, hh⟩ := hP
  have hx := Bd.exec
  have hby := Bd.bytes
  have hml : c.maxLocals = 1 := hml0
  have hown : s.vm.findClass "gradivo/spec/ValueKind" = some m.cls := findClass_of_methodNamed Bd.named
  have hnm := (name_of_methodNamed Bd.named Bd.method).1
  have X0 : Stand p l e ({ frames := 0, cells := 0, slots := 0, locals := 0 } : Room) s m #[(.ref w_PER_COORDINATE_SYSTEM)] below meth c s₁ [] 0 0 := Stand.of_body Bd
  have e0 : s₁.heap = h0 := by rw [← hh, Bd.state]; rfl
  have N0 := Fr.nil n0
  obtain ⟨S_w_TEXT, E_w_TEXT, F_w_TEXT_ordinal, S_w_COMPOSITE, E_w_COMPOSITE, F_w_COMPOSITE_ordinal, S_w_CLOSED_LIST, E_w_CLOSED_LIST, F_w_CLOSED_LIST_ordinal, S_w_LISTED, E_w_LISTED, F_w_LISTED_ordinal, S_w_URI, E_w_URI, F_w_URI_ordinal, S_w_ISO3166_1_ALPHA2, E_w_ISO3166_1_ALPHA2, F_w_ISO3166_1_ALPHA2_ordinal, S_w_ISO639, E_w_ISO639, F_w_ISO639_ordinal, S_w_ISO15924, E_w_ISO15924, F_w_ISO15924_ordinal, S_w_POSITIVE_NUMBER, E_w_POSITIVE_NUMBER, F_w_POSITIVE_NUMBER_ordinal, S_w_POSITIVE_INTEGER, E_w_POSITIVE_INTEGER, F_w_POSITIVE_INTEGER_ordinal, S_w_NONNEGATIVE_INTEGER, E_w_NONNEGATIVE_INTEGER, F_w_NONNEGATIVE_INTEGER_ordinal, S_w_ISO8601_DATE, E_w_ISO8601_DATE, F_w_ISO8601_DATE_ordinal, S_w_DIGEST, E_w_DIGEST, F_w_DIGEST_ordinal, S_w_PER_TIME_STANDARD, E_w_PER_TIME_STANDARD, F_w_PER_TIME_STANDARD_ordinal, S_w_PER_COORDINATE_SYSTEM, E_w_PER_COORDINATE_SYSTEM, F_w_PER_COORDINATE_SYSTEM_ordinal, S_w_TIME_SPAN, E_w_TIME_SPAN, F_w_TIME_SPAN_ordinal⟩ := id G
  have k0 : Way p e below (s₁.setTop (entryFrame m #[(.ref w_PER_COORDINATE_SYSTEM)] 1)) s₁ (mkF m 0 #[rv w_PER_COORDINATE_SYSTEM] []) := fun t k => castTop (by first | (simp [entryFrame, mkF, argsToLocals, Value.category]; done) | rfl) k
  generalize s₁.setTop (entryFrame m #[(.ref w_PER_COORDINATE_SYSTEM)] 1) = S0 at k0 ⊢
  have k1 : Way p e below S0 s₁ (mkF m 1 #[rv w_PER_COORDINATE_SYSTEM] [(.ref w_PER_COORDINATE_SYSTEM)]) := by
    intro t k
    refine k0 t ?_
    refine XS.aloadN X0.here hx rfl (hb hby d_prog_105_method_7_code_0) rfl rfl ?_
    show Steps p.tables e below (s₁.setTop (mkF m 1 #[rv w_PER_COORDINATE_SYSTEM] [(.ref w_PER_COORDINATE_SYSTEM)])) _
    exact k
  obtain ⟨T2, X2, e2, st2⟩ := getS2 X0 hx hZ hown (host := "") (Or.inl (hw _ (List.mem_of_getElem? (i := 13) rfl))) Via.refl e0 (S_w_DIGEST.ext O0.2) (g := (mkF m 1 #[rv w_PER_COORDINATE_SYSTEM] [(.ref w_PER_COORDINATE_SYSTEM)])) rfl (hb hby d_prog_105_method_7_code_1)
  have k3 : Way p e below S0 T2 (mkF m 4 #[rv w_PER_COORDINATE_SYSTEM] [(.ref w_DIGEST), (.ref w_PER_COORDINATE_SYSTEM)]) := fun t k => k1 t (st2 _ k)
  have k4 : Way p e below S0 T2 (mkF m 8 #[rv w_PER_COORDINATE_SYSTEM] [(.ref w_PER_COORDINATE_SYSTEM)]) := by
    intro t k
    refine k3 t ?_
    refine Jvm.RoadKit.acmp (g := (mkF m 4 #[rv w_PER_COORDINATE_SYSTEM] [(.ref w_DIGEST), (.ref w_PER_COORDINATE_SYSTEM)])) X2 hx rfl rfl rfl (pc0 := 4) (pc' := 7) (same := false) rfl (hb hby d_prog_105_method_7_code_4) rfl (decide_eq_false fun q => absurd (Value.ref.inj q) (F_w_PER_COORDINATE_SYSTEM_ordinal.ne F_w_DIGEST_ordinal (by decide))) (by decide) (by decide) ?_
    show Steps p.tables e below (T2.setTop (mkF m 7 #[rv w_PER_COORDINATE_SYSTEM] [])) _
    refine XS.aloadN X2.here hx rfl (hb hby d_prog_105_method_7_code_7) rfl rfl ?_
    show Steps p.tables e below (T2.setTop (mkF m 8 #[rv w_PER_COORDINATE_SYSTEM] [(.ref w_PER_COORDINATE_SYSTEM)])) _
    exact k
  obtain ⟨T5, X5, e5, st5⟩ := getS2 X2 hx hZ hown (host := "") (Or.inl (hw _ (List.mem_of_getElem? (i := 15) rfl))) Via.refl e2 (S_w_PER_TIME_STANDARD.ext O0.2) (g := (mkF m 8 #[rv w_PER_COORDINATE_SYSTEM] [(.ref w_PER_COORDINATE_SYSTEM)])) rfl (hb hby d_prog_105_method_7_code_8)
  have k6 : Way p e below S0 T5 (mkF m 11 #[rv w_PER_COORDINATE_SYSTEM] [(.ref w_PER_TIME_STANDARD), (.ref w_PER_COORDINATE_SYSTEM)]) := fun t k => k4 t (st5 _ k)
  have k7 : Way p e below S0 T5 (mkF m 15 #[rv w_PER_COORDINATE_SYSTEM] [(.ref w_PER_COORDINATE_SYSTEM)]) := by
    intro t k
    refine k6 t ?_
    refine Jvm.RoadKit.acmp (g := (mkF m 11 #[rv w_PER_COORDINATE_SYSTEM] [(.ref w_PER_TIME_STANDARD), (.ref w_PER_COORDINATE_SYSTEM)])) X5 hx rfl rfl rfl (pc0 := 11) (pc' := 14) (same := false) rfl (hb hby d_prog_105_method_7_code_11) rfl (decide_eq_false fun q => absurd (Value.ref.inj q) (F_w_PER_COORDINATE_SYSTEM_ordinal.ne F_w_PER_TIME_STANDARD_ordinal (by decide))) (by decide) (by decide) ?_
    show Steps p.tables e below (T5.setTop (mkF m 14 #[rv w_PER_COORDINATE_SYSTEM] [])) _
    refine XS.aloadN X5.here hx rfl (hb hby d_prog_105_method_7_code_14) rfl rfl ?_
    show Steps p.tables e below (T5.setTop (mkF m 15 #[rv w_PER_COORDINATE_SYSTEM] [(.ref w_PER_COORDINATE_SYSTEM)])) _
    exact k
  obtain ⟨T8, X8, e8, st8⟩ := getS2 X5 hx hZ hown (host := "") (Or.inl (hw _ (List.mem_of_getElem? (i := 17) rfl))) Via.refl e5 (S_w_PER_COORDINATE_SYSTEM.ext O0.2) (g := (mkF m 15 #[rv w_PER_COORDINATE_SYSTEM] [(.ref w_PER_COORDINATE_SYSTEM)])) rfl (hb hby d_prog_105_method_7_code_15)
  have k9 : Way p e below S0 T8 (mkF m 18 #[rv w_PER_COORDINATE_SYSTEM] [(.ref w_PER_COORDINATE_SYSTEM), (.ref w_PER_COORDINATE_SYSTEM)]) := fun t k => k7 t (st8 _ k)
  have k10 : Way p e below S0 T8 (mkF m 26 #[rv w_PER_COORDINATE_SYSTEM] [(.int (1 : Int32))]) := by
    intro t k
    refine k9 t ?_
    refine Jvm.RoadKit.acmp (g := (mkF m 18 #[rv w_PER_COORDINATE_SYSTEM] [(.ref w_PER_COORDINATE_SYSTEM), (.ref w_PER_COORDINATE_SYSTEM)])) X8 hx rfl rfl rfl (pc0 := 18) (pc' := 21) (same := true) rfl (hb hby d_prog_105_method_7_code_18) rfl (decide_eq_true rfl) (by decide) (by decide) ?_
    show Steps p.tables e below (T8.setTop (mkF m 21 #[rv w_PER_COORDINATE_SYSTEM] [])) _
    refine XS.iconst X8.here hx rfl (hb hby d_prog_105_method_7_code_21) ?_
    show Steps p.tables e below (T8.setTop (mkF m 22 #[rv w_PER_COORDINATE_SYSTEM] [(.int (1 : Int32))])) _
    refine XS.goto X8.here hx rfl (pc0 := 22) (pc' := 26) rfl (hb hby d_prog_105_method_7_code_22) (by decide) (by decide) ?_
    show Steps p.tables e below (T8.setTop (mkF m 26 #[rv w_PER_COORDINATE_SYSTEM] [(.int (1 : Int32))])) _
    exact k
  obtain ⟨fs, hr, hrun, hended, hW, hsame⟩ := X8.leave (v := some (.int (1 : Int32))) (fun h => by rw [Bd.returns] at h; cases h)
  refine ⟨_, _, k10 _ (retN X8 hx (t := .boolean) Bd.returns (by simp) (hb hby d_prog_105_method_7_code_26) hr), hrun, hended, _, _, rfl, ?_, ⟨_, rfl⟩, hW, hsame.mono (by decide) (by decide)⟩
  show Q_tff14 Z w_TEXT w_COMPOSITE w_CLOSED_LIST w_LISTED w_URI w_ISO3166_1_ALPHA2 w_ISO639 w_ISO15924 w_POSITIVE_NUMBER w_POSITIVE_INTEGER w_NONNEGATIVE_INTEGER w_ISO8601_DATE w_DIGEST w_PER_TIME_STANDARD w_PER_COORDINATE_SYSTEM w_TIME_SPAN  h0 n0 _ T8.heap _
  rw [e8]
  exact ⟨rfl, N0, rfl⟩
def Q_tff15 (Z : State) (w_TEXT : Addr) (w_COMPOSITE : Addr) (w_CLOSED_LIST : Addr) (w_LISTED : Addr) (w_URI : Addr) (w_ISO3166_1_ALPHA2 : Addr) (w_ISO639 : Addr) (w_ISO15924 : Addr) (w_POSITIVE_NUMBER : Addr) (w_POSITIVE_INTEGER : Addr) (w_NONNEGATIVE_INTEGER : Addr) (w_ISO8601_DATE : Addr) (w_DIGEST : Addr) (w_PER_TIME_STANDARD : Addr) (w_PER_COORDINATE_SYSTEM : Addr) (w_TIME_SPAN : Addr)  (h0 : Heap) (n0 : Nat) (v : Option Value) (h : Heap) (L : List Loc) : Prop := (v = some (.int (0 : Int32))) ∧ (Fr n0 L) ∧ (h = h0)
set_option maxRecDepth 65536 in
set_option maxHeartbeats 40000000 in
theorem tff15 (l : Launch) (Z : State) (a0 : Array Value) (hw : ∀ d ∈ tables_1, d.before a0 Z = true) (ws : List Jvm.Cond) (w_TEXT : Addr) (w_COMPOSITE : Addr) (w_CLOSED_LIST : Addr) (w_LISTED : Addr) (w_URI : Addr) (w_ISO3166_1_ALPHA2 : Addr) (w_ISO639 : Addr) (w_ISO15924 : Addr) (w_POSITIVE_NUMBER : Addr) (w_POSITIVE_INTEGER : Addr) (w_NONNEGATIVE_INTEGER : Addr) (w_ISO8601_DATE : Addr) (w_DIGEST : Addr) (w_PER_TIME_STANDARD : Addr) (w_PER_COORDINATE_SYSTEM : Addr) (w_TIME_SPAN : Addr) (G : Gst Z w_TEXT w_COMPOSITE w_CLOSED_LIST w_LISTED w_URI w_ISO3166_1_ALPHA2 w_ISO639 w_ISO15924 w_POSITIVE_NUMBER w_POSITIVE_INTEGER w_NONNEGATIVE_INTEGER w_ISO8601_DATE w_DIGEST w_PER_TIME_STANDARD w_PER_COORDINATE_SYSTEM w_TIME_SPAN)  (h0 : Heap) (n0 : Nat) (O0 : Old Z n0 h0) :
    MetFree l (⟨"gradivo/spec/ValueKind", "takesFormFrom", "()Z"⟩ : MethodName) (head1 (Jvm.Cond.code (⟨"gradivo/spec/ValueKind", "takesFormFrom", "()Z"⟩ : MethodName) prog_105_method_7_code 1 (some .boolean) :: ws) ({ frames := 0, cells := 0, slots := 0, locals := 0 } : Room)) (fun a U => a = #[(.ref w_TIME_SPAN)] ∧ Z.Warmed39 U.vm ∧ U.heap = h0) (fun _ _ _ _ _ => True) (fun _ U o U' => ∃ v L, o = .returned v ∧ Q_tff15 Z w_TEXT w_COMPOSITE w_CLOSED_LIST w_LISTED w_URI w_ISO3166_1_ALPHA2 w_ISO639 w_ISO15924 w_POSITIVE_NUMBER w_POSITIVE_INTEGER w_NONNEGATIVE_INTEGER w_ISO8601_DATE w_DIGEST w_PER_TIME_STANDARD w_PER_COORDINATE_SYSTEM w_TIME_SPAN  h0 n0 v U'.heap L ∧ FrameEnd U o U' L ({ frames := 0, cells := 0, slots := 0, locals := 0 } : Room).cells ({ frames := 0, cells := 0, slots := 0, locals := 0 } : Room).slots) := by
  refine MetFree.of_bodySF (plainFor_of_name pn_1) hisR ?_
  intro p e s m args below meth c s₁ Bd hml0 hP hK
  obtain ⟨rfl, hZ, hh⟩ := hP
  have hx := Bd.exec
  have hby := Bd.bytes
  have hml : c.maxLocals = 1 := hml0
  have hown : s.vm.findClass "gradivo/spec/ValueKind" = some m.cls := findClass_of_methodNamed Bd.named
  have hnm := (name_of_methodNamed Bd.named Bd.method).1
  have X0 : Stand p l e ({ frames := 0, cells := 0, slots := 0, locals := 0 } : Room) s m #[(.ref w_TIME_SPAN)] below meth c s₁ [] 0 0 := Stand.of_body Bd
  have e0 : s₁.heap = h0 := by rw [← hh, Bd.state]; rfl
  have N0 := Fr.nil n0
  obtain ⟨S_w_TEXT, E_w_TEXT, F_w_TEXT_ordinal, S_w_COMPOSITE, E_w_COMPOSITE, F_w_COMPOSITE_ordinal, S_w_CLOSED_LIST, E_w_CLOSED_LIST, F_w_CLOSED_LIST_ordinal, S_w_LISTED, E_w_LISTED, F_w_LISTED_ordinal, S_w_URI, E_w_URI, F_w_URI_ordinal, S_w_ISO3166_1_ALPHA2, E_w_ISO3166_1_ALPHA2, F_w_ISO3166_1_ALPHA2_ordinal, S_w_ISO639, E_w_ISO639, F_w_ISO639_ordinal, S_w_ISO15924, E_w_ISO15924, F_w_ISO15924_ordinal, S_w_POSITIVE_NUMBER, E_w_POSITIVE_NUMBER, F_w_POSITIVE_NUMBER_ordinal, S_w_POSITIVE_INTEGER, E_w_POSITIVE_INTEGER, F_w_POSITIVE_INTEGER_ordinal, S_w_NONNEGATIVE_INTEGER, E_w_NONNEGATIVE_INTEGER, F_w_NONNEGATIVE_INTEGER_ordinal, S_w_ISO8601_DATE, E_w_ISO8601_DATE, F_w_ISO8601_DATE_ordinal, S_w_DIGEST, E_w_DIGEST, F_w_DIGEST_ordinal, S_w_PER_TIME_STANDARD, E_w_PER_TIME_STANDARD, F_w_PER_TIME_STANDARD_ordinal, S_w_PER_COORDINATE_SYSTEM, E_w_PER_COORDINATE_SYSTEM, F_w_PER_COORDINATE_SYSTEM_ordinal, S_w_TIME_SPAN, E_w_TIME_SPAN, F_w_TIME_SPAN_ordinal⟩ := id G
  have k0 : Way p e below (s₁.setTop (entryFrame m #[(.ref w_TIME_SPAN)] 1)) s₁ (mkF m 0 #[rv w_TIME_SPAN] []) := fun t k => castTop (by first | (simp [entryFrame, mkF, argsToLocals, Value.category]; done) | rfl) k
  generalize s₁.setTop (entryFrame m #[(.ref w_TIME_SPAN)] 1) = S0 at k0 ⊢
  have k1 : Way p e below S0 s₁ (mkF m 1 #[rv w_TIME_SPAN] [(.ref w_TIME_SPAN)]) := by
    intro t k
    refine k0 t ?_
    refine XS.aloadN X0.here hx rfl (hb hby d_prog_105_method_7_code_0) rfl rfl ?_
    show Steps p.tables e below (s₁.setTop (mkF m 1 #[rv w_TIME_SPAN] [(.ref w_TIME_SPAN)])) _
    exact k
  obtain ⟨T2, X2, e2, st2⟩ := getS2 X0 hx hZ hown (host := "") (Or.inl (hw _ (List.mem_of_getElem? (i := 13) rfl))) Via.refl e0 (S_w_DIGEST.ext O0.2) (g := (mkF m 1 #[rv w_TIME_SPAN] [(.ref w_TIME_SPAN)])) rfl (hb hby d_prog_105_method_7_code_1)
  have k3 : Way p e below S0 T2 (mkF m 4 #[rv w_TIME_SPAN] [(.ref w_DIGEST), (.ref w_TIME_SPAN)]) := fun t k => k1 t (st2 _ k)
  have k4 : Way p e below S0 T2 (mkF m 8 #[rv w_TIME_SPAN] [(.ref w_TIME_SPAN)]) := by
    intro t k
    refine k3 t ?_
    refine Jvm.RoadKit.acmp (g := (mkF m 4 #[rv w_TIME_SPAN] [(.ref w_DIGEST), (.ref w_TIME_SPAN)])) X2 hx rfl rfl rfl (pc0 := 4) (pc' := 7) (same := false) rfl (hb hby d_prog_105_method_7_code_4) rfl (decide_eq_false fun q => absurd (Value.ref.inj q) (F_w_TIME_SPAN_ordinal.ne F_w_DIGEST_ordinal (by decide))) (by decide) (by decide) ?_
    show Steps p.tables e below (T2.setTop (mkF m 7 #[rv w_TIME_SPAN] [])) _
    refine XS.aloadN X2.here hx rfl (hb hby d_prog_105_method_7_code_7) rfl rfl ?_
    show Steps p.tables e below (T2.setTop (mkF m 8 #[rv w_TIME_SPAN] [(.ref w_TIME_SPAN)])) _
    exact k
  obtain ⟨T5, X5, e5, st5⟩ := getS2 X2 hx hZ hown (host := "") (Or.inl (hw _ (List.mem_of_getElem? (i := 15) rfl))) Via.refl e2 (S_w_PER_TIME_STANDARD.ext O0.2) (g := (mkF m 8 #[rv w_TIME_SPAN] [(.ref w_TIME_SPAN)])) rfl (hb hby d_prog_105_method_7_code_8)
  have k6 : Way p e below S0 T5 (mkF m 11 #[rv w_TIME_SPAN] [(.ref w_PER_TIME_STANDARD), (.ref w_TIME_SPAN)]) := fun t k => k4 t (st5 _ k)
  have k7 : Way p e below S0 T5 (mkF m 15 #[rv w_TIME_SPAN] [(.ref w_TIME_SPAN)]) := by
    intro t k
    refine k6 t ?_
    refine Jvm.RoadKit.acmp (g := (mkF m 11 #[rv w_TIME_SPAN] [(.ref w_PER_TIME_STANDARD), (.ref w_TIME_SPAN)])) X5 hx rfl rfl rfl (pc0 := 11) (pc' := 14) (same := false) rfl (hb hby d_prog_105_method_7_code_11) rfl (decide_eq_false fun q => absurd (Value.ref.inj q) (F_w_TIME_SPAN_ordinal.ne F_w_PER_TIME_STANDARD_ordinal (by decide))) (by decide) (by decide) ?_
    show Steps p.tables e below (T5.setTop (mkF m 14 #[rv w_TIME_SPAN] [])) _
    refine XS.aloadN X5.here hx rfl (hb hby d_prog_105_method_7_code_14) rfl rfl ?_
    show Steps p.tables e below (T5.setTop (mkF m 15 #[rv w_TIME_SPAN] [(.ref w_TIME_SPAN)])) _
    exact k
  obtain ⟨T8, X8, e8, st8⟩ := getS2 X5 hx hZ hown (host := "") (Or.inl (hw _ (List.mem_of_getElem? (i := 17) rfl))) Via.refl e5 (S_w_PER_COORDINATE_SYSTEM.ext O0.2) (g := (mkF m 15 #[rv w_TIME_SPAN] [(.ref w_TIME_SPAN)])) rfl (hb hby d_prog_105_method_7_code_15)
  have k9 : Way p e below S0 T8 (mkF m 18 #[rv w_TIME_SPAN] [(.ref w_PER_COORDINATE_SYSTEM), (.ref w_TIME_SPAN)]) := fun t k => k7 t (st8 _ k)
  have k10 : Way p e below S0 T8 (mkF m 26 #[rv w_TIME_SPAN] [(.int (0 : Int32))]) := by
    intro t k
    refine k9 t ?_
    refine Jvm.RoadKit.acmp (g := (mkF m 18 #[rv w_TIME_SPAN] [(.ref w_PER_COORDINATE_SYSTEM), (.ref w_TIME_SPAN)])) X8 hx rfl rfl rfl (pc0 := 18) (pc' := 25) (same := false) rfl (hb hby d_prog_105_method_7_code_18) rfl (decide_eq_false fun q => absurd (Value.ref.inj q) (F_w_TIME_SPAN_ordinal.ne F_w_PER_COORDINATE_SYSTEM_ordinal (by decide))) (by decide) (by decide) ?_
    show Steps p.tables e below (T8.setTop (mkF m 25 #[rv w_TIME_SPAN] [])) _
    refine XS.iconst X8.here hx rfl (hb hby d_prog_105_method_7_code_25) ?_
    show Steps p.tables e below (T8.setTop (mkF m 26 #[rv w_TIME_SPAN] [(.int (0 : Int32))])) _
    exact k
  obtain ⟨fs, hr, hrun, hended, hW, hsame⟩ := X8.leave (v := some (.int (0 : Int32))) (fun h => by rw [Bd.returns] at h; cases h)
  refine ⟨_, _, k10 _ (retN X8 hx (t := .boolean) Bd.returns (by simp) (hb hby d_prog_105_method_7_code_26) hr), hrun, hended, _, _, rfl, ?_, ⟨_, rfl⟩, hW, hsame.mono (by decide) (by decide)⟩
  show Q_tff15 Z w_TEXT w_COMPOSITE w_CLOSED_LIST w_LISTED w_URI w_ISO3166_1_ALPHA2 w_ISO639 w_ISO15924 w_POSITIVE_NUMBER w_POSITIVE_INTEGER w_NONNEGATIVE_INTEGER w_ISO8601_DATE w_DIGEST w_PER_TIME_STANDARD w_PER_COORDINATE_SYSTEM w_TIME_SPAN  h0 n0 _ T8.heap _
  rw [e8]
  exact ⟨rfl, N0, rfl⟩
def Q_law_met (Z : State) (w_TEXT : Addr) (w_COMPOSITE : Addr) (w_CLOSED_LIST : Addr) (w_LISTED : Addr) (w_URI : Addr) (w_ISO3166_1_ALPHA2 : Addr) (w_ISO639 : Addr) (w_ISO15924 : Addr) (w_POSITIVE_NUMBER : Addr) (w_POSITIVE_INTEGER : Addr) (w_NONNEGATIVE_INTEGER : Addr) (w_ISO8601_DATE : Addr) (w_DIGEST : Addr) (w_PER_TIME_STANDARD : Addr) (w_PER_COORDINATE_SYSTEM : Addr) (w_TIME_SPAN : Addr) (p1 : Int32) (h0 : Heap) (n0 : Nat) (v : Option Value) (h : Heap) (L : List Loc) : Prop := (v = some (.int (1 : Int32))) ∧ (Fr n0 L)
set_option maxRecDepth 65536 in
set_option maxHeartbeats 40000000 in
theorem law_met (l : Launch) (Z : State) (a0 : Array Value) (hw : ∀ d ∈ tables_1, d.before a0 Z = true) (ws : List Jvm.Cond) (w_TEXT : Addr) (w_COMPOSITE : Addr) (w_CLOSED_LIST : Addr) (w_LISTED : Addr) (w_URI : Addr) (w_ISO3166_1_ALPHA2 : Addr) (w_ISO639 : Addr) (w_ISO15924 : Addr) (w_POSITIVE_NUMBER : Addr) (w_POSITIVE_INTEGER : Addr) (w_NONNEGATIVE_INTEGER : Addr) (w_ISO8601_DATE : Addr) (w_DIGEST : Addr) (w_PER_TIME_STANDARD : Addr) (w_PER_COORDINATE_SYSTEM : Addr) (w_TIME_SPAN : Addr) (G : Gst Z w_TEXT w_COMPOSITE w_CLOSED_LIST w_LISTED w_URI w_ISO3166_1_ALPHA2 w_ISO639 w_ISO15924 w_POSITIVE_NUMBER w_POSITIVE_INTEGER w_NONNEGATIVE_INTEGER w_ISO8601_DATE w_DIGEST w_PER_TIME_STANDARD w_PER_COORDINATE_SYSTEM w_TIME_SPAN) (p1 : Int32) (h0 : Heap) (n0 : Nat) (O0 : Old Z n0 h0) :
    MetFree l x (head1 (Jvm.Cond.code x code maxLocals ret :: ws) room_1) (fun a U => a = #[(.int p1)] ∧ Z.Warmed39 U.vm ∧ U.heap = h0) (fun _ _ _ _ _ => True) (fun _ U o U' => ∃ v L, o = .returned v ∧ Q_law_met Z w_TEXT w_COMPOSITE w_CLOSED_LIST w_LISTED w_URI w_ISO3166_1_ALPHA2 w_ISO639 w_ISO15924 w_POSITIVE_NUMBER w_POSITIVE_INTEGER w_NONNEGATIVE_INTEGER w_ISO8601_DATE w_DIGEST w_PER_TIME_STANDARD w_PER_COORDINATE_SYSTEM w_TIME_SPAN p1 h0 n0 v U'.heap L ∧ FrameEnd U o U' L 0 0) := by
  refine MetFree.of_bodySF (plainFor_of_name pn_0) hisR ?_
  intro p e s m args below meth c s₁ Bd hml0 hP hK
  obtain ⟨rfl, hZ, hh⟩ := hP
  have hx := Bd.exec
  have hby := Bd.bytes
  have hml : c.maxLocals = 4 := hml0
  have hown : s.vm.findClass "gradivo/spec/ValueKindTakesFormFromPinLaw" = some m.cls := findClass_of_methodNamed Bd.named
  have hnm := (name_of_methodNamed Bd.named Bd.method).1
  have X0 : Stand p l e room_1 s m #[(.int p1)] below meth c s₁ [] 0 0 := Stand.of_body Bd
  have e0 : s₁.heap = h0 := by rw [← hh, Bd.state]; rfl
  have N0 := Fr.nil n0
  obtain ⟨S_w_TEXT, E_w_TEXT, F_w_TEXT_ordinal, S_w_COMPOSITE, E_w_COMPOSITE, F_w_COMPOSITE_ordinal, S_w_CLOSED_LIST, E_w_CLOSED_LIST, F_w_CLOSED_LIST_ordinal, S_w_LISTED, E_w_LISTED, F_w_LISTED_ordinal, S_w_URI, E_w_URI, F_w_URI_ordinal, S_w_ISO3166_1_ALPHA2, E_w_ISO3166_1_ALPHA2, F_w_ISO3166_1_ALPHA2_ordinal, S_w_ISO639, E_w_ISO639, F_w_ISO639_ordinal, S_w_ISO15924, E_w_ISO15924, F_w_ISO15924_ordinal, S_w_POSITIVE_NUMBER, E_w_POSITIVE_NUMBER, F_w_POSITIVE_NUMBER_ordinal, S_w_POSITIVE_INTEGER, E_w_POSITIVE_INTEGER, F_w_POSITIVE_INTEGER_ordinal, S_w_NONNEGATIVE_INTEGER, E_w_NONNEGATIVE_INTEGER, F_w_NONNEGATIVE_INTEGER_ordinal, S_w_ISO8601_DATE, E_w_ISO8601_DATE, F_w_ISO8601_DATE_ordinal, S_w_DIGEST, E_w_DIGEST, F_w_DIGEST_ordinal, S_w_PER_TIME_STANDARD, E_w_PER_TIME_STANDARD, F_w_PER_TIME_STANDARD_ordinal, S_w_PER_COORDINATE_SYSTEM, E_w_PER_COORDINATE_SYSTEM, F_w_PER_COORDINATE_SYSTEM_ordinal, S_w_TIME_SPAN, E_w_TIME_SPAN, F_w_TIME_SPAN_ordinal⟩ := id G
  have k0 : Way p e below (s₁.setTop (entryFrame m #[(.int p1)] maxLocals)) s₁ (mkF m 0 #[iv p1, .unset, .unset, .unset] []) := fun t k => castTop (by first | (simp [entryFrame, mkF, argsToLocals, Value.category, maxLocals]; done) | rfl) k
  generalize s₁.setTop (entryFrame m #[(.int p1)] maxLocals) = S0 at k0 ⊢
  have k1 : Way p e below S0 s₁ (mkF m 8 #[iv p1, iv ((p1 &&& (2147483647 : Int32)) % (16 : Int32)), .unset, .unset] []) := by
    intro t k
    refine k0 t ?_
    refine XS.iloadN X0.here hx rfl (hb hby at_0) rfl ?_
    show Steps p.tables e below (s₁.setTop (mkF m 1 #[iv p1, .unset, .unset, .unset] [(.int p1)])) _
    refine X0.ldcInt hx hown (mvT hZ (hw _ (List.mem_of_getElem? (i := 0) rfl))) (g := (mkF m 1 #[iv p1, .unset, .unset, .unset] [(.int p1)])) rfl (hb hby at_1) _ ?_
    show Steps p.tables e below (s₁.setTop (mkF m 3 #[iv p1, .unset, .unset, .unset] [(.int (2147483647 : Int32)), (.int p1)])) _
    refine XS.iand X0.here hx rfl (hb hby at_3) rfl ?_
    show Steps p.tables e below (s₁.setTop (mkF m 4 #[iv p1, .unset, .unset, .unset] [(.int (p1 &&& (2147483647 : Int32)))])) _
    refine XS.bipush X0.here hx rfl (hb hby at_4) ?_
    show Steps p.tables e below (s₁.setTop (mkF m 6 #[iv p1, .unset, .unset, .unset] [(.int (16 : Int32)), (.int (p1 &&& (2147483647 : Int32)))])) _
    refine iremM (g := (mkF m 6 #[iv p1, .unset, .unset, .unset] [(.int (16 : Int32)), (.int (p1 &&& (2147483647 : Int32)))])) X0 hx rfl (hb hby at_6) rfl (by decide) ?_
    show Steps p.tables e below (s₁.setTop (mkF m 7 #[iv p1, .unset, .unset, .unset] [(.int ((p1 &&& (2147483647 : Int32)) % (16 : Int32)))])) _
    refine XS.istoreN X0.here hx rfl (hb hby at_7) rfl (l' := #[iv p1, iv ((p1 &&& (2147483647 : Int32)) % (16 : Int32)), .unset, .unset]) rfl ?_
    show Steps p.tables e below (s₁.setTop (mkF m 8 #[iv p1, iv ((p1 &&& (2147483647 : Int32)) % (16 : Int32)), .unset, .unset] [])) _
    exact k
  have hr2 : ((p1 &&& (2147483647 : Int32)) % (16 : Int32)) = (0 : Int32) ∨ ((p1 &&& (2147483647 : Int32)) % (16 : Int32)) = (1 : Int32) ∨ ((p1 &&& (2147483647 : Int32)) % (16 : Int32)) = (2 : Int32) ∨ ((p1 &&& (2147483647 : Int32)) % (16 : Int32)) = (3 : Int32) ∨ ((p1 &&& (2147483647 : Int32)) % (16 : Int32)) = (4 : Int32) ∨ ((p1 &&& (2147483647 : Int32)) % (16 : Int32)) = (5 : Int32) ∨ ((p1 &&& (2147483647 : Int32)) % (16 : Int32)) = (6 : Int32) ∨ ((p1 &&& (2147483647 : Int32)) % (16 : Int32)) = (7 : Int32) ∨ ((p1 &&& (2147483647 : Int32)) % (16 : Int32)) = (8 : Int32) ∨ ((p1 &&& (2147483647 : Int32)) % (16 : Int32)) = (9 : Int32) ∨ ((p1 &&& (2147483647 : Int32)) % (16 : Int32)) = (10 : Int32) ∨ ((p1 &&& (2147483647 : Int32)) % (16 : Int32)) = (11 : Int32) ∨ ((p1 &&& (2147483647 : Int32)) % (16 : Int32)) = (12 : Int32) ∨ ((p1 &&& (2147483647 : Int32)) % (16 : Int32)) = (13 : Int32) ∨ ((p1 &&& (2147483647 : Int32)) % (16 : Int32)) = (14 : Int32) ∨ ((p1 &&& (2147483647 : Int32)) % (16 : Int32)) = (15 : Int32) := own_rem16 p1
  rcases hr2 with hi2 | hi2 | hi2 | hi2 | hi2 | hi2 | hi2 | hi2 | hi2 | hi2 | hi2 | hi2 | hi2 | hi2 | hi2 | hi2
  · have k3 : Way p e below S0 s₁ (mkF m 8 #[iv p1, iv (0 : Int32), .unset, .unset] []) := by have q := k1; rw [hi2] at q; exact q
    have k4 : Way p e below S0 s₁ (mkF m 9 #[iv p1, iv (0 : Int32), .unset, .unset] [(.int (0 : Int32))]) := by
      intro t k
      refine k3 t ?_
      refine XS.iloadN X0.here hx rfl (hb hby at_8) rfl ?_
      show Steps p.tables e below (s₁.setTop (mkF m 9 #[iv p1, iv (0 : Int32), .unset, .unset] [(.int (0 : Int32))])) _
      exact k
    obtain ⟨_, _, ⟨T5, L5, kk5, nn5⟩, -, X5, ⟨Lc5, hQ5, l5, y5, z5⟩, st5⟩ := Jvm.LawKit.callS X0 hx (y := (⟨"gradivo/spec/ValueKindTakesFormFromPinLaw", "pick", "(I)Lgradivo/spec/ValueKind;"⟩ : MethodName)) hown (mvT hZ (hw _ (List.mem_of_getElem? (i := 1) rfl))) (mvT hZ (hw _ (List.mem_of_getElem? (i := 2) rfl))) (mvT hZ (hw _ (List.mem_of_getElem? (i := 3) rfl))) (mvT hZ (hw _ (List.mem_of_getElem? (i := 4) rfl))) (by decide) (backOf (W := 0) (pick0 l Z a0 hw [] w_TEXT w_COMPOSITE w_CLOSED_LIST w_LISTED w_URI w_ISO3166_1_ALPHA2 w_ISO639 w_ISO15924 w_POSITIVE_NUMBER w_POSITIVE_INTEGER w_NONNEGATIVE_INTEGER w_ISO8601_DATE w_DIGEST w_PER_TIME_STANDARD w_PER_COORDINATE_SYSTEM w_TIME_SPAN G  h0 n0 O0 ) hZ (hw _ (List.mem_of_getElem? (i := 4) rfl)) (hw _ (List.mem_of_getElem? (i := 3) rfl)) (by decide) (by decide)) (g := (mkF m 9 #[iv p1, iv (0 : Int32), .unset, .unset] [(.int (0 : Int32))])) rfl (by rw [hml]; rfl) (argsL := [(.int (0 : Int32))]) (rest := []) (lenOf pd_0 rfl) rfl (by show 2 * 0 + _ ≤ _; exact Nat.le_of_eq rfl) (hb hby at_9) (fun _ _ => ⟨rfl, e0, (by decide : 0 + 0 ≤ _), (by decide : 0 + 0 ≤ _)⟩)
    dsimp only [Pt.U, Pt.locs, Pt.cells, Pt.slots] at X5 l5 y5 z5 st5 hQ5
    subst l5 y5 z5
    obtain ⟨rfl, Nq5, e5⟩ := hQ5
    have N5 := Fr.app N0 Nq5
    have k6 : Way p e below S0 T5 (mkF m 12 #[iv p1, iv (0 : Int32), .unset, .unset] [(.ref w_TEXT)]) := fun t k => k4 t (st5 _ k)
    have k7 : Way p e below S0 T5 (mkF m 38 #[iv p1, iv (0 : Int32), rv w_TEXT, iv (0 : Int32)] [(.ref w_TEXT)]) := by
      intro t k
      refine k6 t ?_
      refine XS.astoreN X5.here hx rfl (hb hby at_12) rfl rfl (l' := #[iv p1, iv (0 : Int32), rv w_TEXT, .unset]) rfl ?_
      show Steps p.tables e below (T5.setTop (mkF m 13 #[iv p1, iv (0 : Int32), rv w_TEXT, .unset] [])) _
      refine XS.iloadN X5.here hx rfl (hb hby at_13) rfl ?_
      show Steps p.tables e below (T5.setTop (mkF m 14 #[iv p1, iv (0 : Int32), rv w_TEXT, .unset] [(.int (0 : Int32))])) _
      refine XS.bipush X5.here hx rfl (hb hby at_14) ?_
      show Steps p.tables e below (T5.setTop (mkF m 16 #[iv p1, iv (0 : Int32), rv w_TEXT, .unset] [(.int (12 : Int32)), (.int (0 : Int32))])) _
      refine XS.icmpNo X5.here hx rfl (hb hby at_16) rfl (feq ((by decide) : ¬ ((0 : Int32) = (12 : Int32)))).1 ?_
      show Steps p.tables e below (T5.setTop (mkF m 19 #[iv p1, iv (0 : Int32), rv w_TEXT, .unset] [])) _
      refine XS.iloadN X5.here hx rfl (hb hby at_19) rfl ?_
      show Steps p.tables e below (T5.setTop (mkF m 20 #[iv p1, iv (0 : Int32), rv w_TEXT, .unset] [(.int (0 : Int32))])) _
      refine XS.bipush X5.here hx rfl (hb hby at_20) ?_
      show Steps p.tables e below (T5.setTop (mkF m 22 #[iv p1, iv (0 : Int32), rv w_TEXT, .unset] [(.int (13 : Int32)), (.int (0 : Int32))])) _
      refine XS.icmpNo X5.here hx rfl (hb hby at_22) rfl (feq ((by decide) : ¬ ((0 : Int32) = (13 : Int32)))).1 ?_
      show Steps p.tables e below (T5.setTop (mkF m 25 #[iv p1, iv (0 : Int32), rv w_TEXT, .unset] [])) _
      refine XS.iloadN X5.here hx rfl (hb hby at_25) rfl ?_
      show Steps p.tables e below (T5.setTop (mkF m 26 #[iv p1, iv (0 : Int32), rv w_TEXT, .unset] [(.int (0 : Int32))])) _
      refine XS.bipush X5.here hx rfl (hb hby at_26) ?_
      show Steps p.tables e below (T5.setTop (mkF m 28 #[iv p1, iv (0 : Int32), rv w_TEXT, .unset] [(.int (14 : Int32)), (.int (0 : Int32))])) _
      refine XS.icmpYes X5.here hx rfl (pc0 := 28) (pc' := 35) rfl (hb hby at_28) rfl (feq ((by decide) : ¬ ((0 : Int32) = (14 : Int32)))).2 (by decide) (by decide) ?_
      show Steps p.tables e below (T5.setTop (mkF m 35 #[iv p1, iv (0 : Int32), rv w_TEXT, .unset] [])) _
      refine XS.iconst X5.here hx rfl (hb hby at_35) ?_
      show Steps p.tables e below (T5.setTop (mkF m 36 #[iv p1, iv (0 : Int32), rv w_TEXT, .unset] [(.int (0 : Int32))])) _
      refine XS.istoreN X5.here hx rfl (hb hby at_36) rfl (l' := #[iv p1, iv (0 : Int32), rv w_TEXT, iv (0 : Int32)]) rfl ?_
      show Steps p.tables e below (T5.setTop (mkF m 37 #[iv p1, iv (0 : Int32), rv w_TEXT, iv (0 : Int32)] [])) _
      refine XS.aloadN X5.here hx rfl (hb hby at_37) rfl rfl ?_
      show Steps p.tables e below (T5.setTop (mkF m 38 #[iv p1, iv (0 : Int32), rv w_TEXT, iv (0 : Int32)] [(.ref w_TEXT)])) _
      exact k
    obtain ⟨cq8, kq8, qq8a, qq8b, qq8c⟩ := isOf hZ e5 (E_w_TEXT.ext O0.2)
    obtain ⟨_, _, ⟨T8, L8, kk8, nn8⟩, -, X8, ⟨Lc8, hQ8, l8, y8, z8⟩, st8⟩ := X5.virtualBack hx (y := (⟨"gradivo/spec/ValueKind", "takesFormFrom", "()Z"⟩ : MethodName)) (z := (⟨"gradivo/spec/ValueKind", "takesFormFrom", "()Z"⟩ : MethodName)) hown (mvT hZ (hw _ (List.mem_of_getElem? (i := 8) rfl))) (mvT hZ (hw _ (List.mem_of_getElem? (i := 9) rfl))) (notFace_of_selects (args := #[]) (mvT hZ (hw _ (List.mem_of_getElem? (i := 11) rfl)))) (mvT hZ (hw _ (List.mem_of_getElem? (i := 11) rfl))) (mvT hZ (hw _ (List.mem_of_getElem? (i := 10) rfl))) (by decide) (backOf (W := 0) (tff0 l Z a0 hw [] w_TEXT w_COMPOSITE w_CLOSED_LIST w_LISTED w_URI w_ISO3166_1_ALPHA2 w_ISO639 w_ISO15924 w_POSITIVE_NUMBER w_POSITIVE_INTEGER w_NONNEGATIVE_INTEGER w_ISO8601_DATE w_DIGEST w_PER_TIME_STANDARD w_PER_COORDINATE_SYSTEM w_TIME_SPAN G  h0 n0 O0 ) hZ (hw _ (List.mem_of_getElem? (i := 12) rfl)) (hw _ (List.mem_of_getElem? (i := 6) rfl)) (by decide) (by decide)) qq8a qq8c (g := (mkF m 38 #[iv p1, iv (0 : Int32), rv w_TEXT, iv (0 : Int32)] [(.ref w_TEXT)])) rfl (by rw [hml]; rfl) (Steps.refl _) (argsL := []) (rest := []) (lenOf pd_1 rfl) rfl (by show 2 * 0 + _ ≤ _; exact Nat.le_of_eq rfl) (hb hby at_38) (fun _ _ => ⟨rfl, e5, (by decide : 0 + 0 ≤ _), (by decide : 0 + 0 ≤ _)⟩)
    dsimp only [Pt.U, Pt.locs, Pt.cells, Pt.slots] at X8 l8 y8 z8 st8 hQ8
    subst l8 y8 z8
    obtain ⟨rfl, Nq8, e8⟩ := hQ8
    have N8 := Fr.app N5 Nq8
    have k9 : Way p e below S0 T8 (mkF m 41 #[iv p1, iv (0 : Int32), rv w_TEXT, iv (0 : Int32)] [(.int (0 : Int32))]) := fun t k => k7 t (st8.trans k)
    have k10 : Way p e below S0 T8 (mkF m 50 #[iv p1, iv (0 : Int32), rv w_TEXT, iv (0 : Int32)] [(.int (1 : Int32))]) := by
      intro t k
      refine k9 t ?_
      refine XS.iloadN X8.here hx rfl (hb hby at_41) rfl ?_
      show Steps p.tables e below (T8.setTop (mkF m 42 #[iv p1, iv (0 : Int32), rv w_TEXT, iv (0 : Int32)] [(.int (0 : Int32)), (.int (0 : Int32))])) _
      refine XS.icmpNo X8.here hx rfl (hb hby at_42) rfl (teq ((by decide) : (0 : Int32) = (0 : Int32))).2 ?_
      show Steps p.tables e below (T8.setTop (mkF m 45 #[iv p1, iv (0 : Int32), rv w_TEXT, iv (0 : Int32)] [])) _
      refine XS.iconst X8.here hx rfl (hb hby at_45) ?_
      show Steps p.tables e below (T8.setTop (mkF m 46 #[iv p1, iv (0 : Int32), rv w_TEXT, iv (0 : Int32)] [(.int (1 : Int32))])) _
      refine XS.goto X8.here hx rfl (pc0 := 46) (pc' := 50) rfl (hb hby at_46) (by decide) (by decide) ?_
      show Steps p.tables e below (T8.setTop (mkF m 50 #[iv p1, iv (0 : Int32), rv w_TEXT, iv (0 : Int32)] [(.int (1 : Int32))])) _
      exact k
    obtain ⟨fs, hr, hrun, hended, hW, hsame⟩ := X8.leave (v := some (.int (1 : Int32))) (fun h => by rw [Bd.returns] at h; cases h)
    refine ⟨_, _, k10 _ (retN X8 hx (t := .boolean) Bd.returns (by simp) (hb hby at_50) hr), hrun, hended, _, _, rfl, ?_, ⟨_, rfl⟩, hW, hsame.mono (by decide) (by decide)⟩
    show Q_law_met Z w_TEXT w_COMPOSITE w_CLOSED_LIST w_LISTED w_URI w_ISO3166_1_ALPHA2 w_ISO639 w_ISO15924 w_POSITIVE_NUMBER w_POSITIVE_INTEGER w_NONNEGATIVE_INTEGER w_ISO8601_DATE w_DIGEST w_PER_TIME_STANDARD w_PER_COORDINATE_SYSTEM w_TIME_SPAN p1 h0 n0 _ T8.heap _
    rw [e8]
    exact ⟨rfl, N8⟩
  · have k11 : Way p e below S0 s₁ (mkF m 8 #[iv p1, iv (1 : Int32), .unset, .unset] []) := by have q := k1; rw [hi2] at q; exact q
    have k12 : Way p e below S0 s₁ (mkF m 9 #[iv p1, iv (1 : Int32), .unset, .unset] [(.int (1 : Int32))]) := by
      intro t k
      refine k11 t ?_
      refine XS.iloadN X0.here hx rfl (hb hby at_8) rfl ?_
      show Steps p.tables e below (s₁.setTop (mkF m 9 #[iv p1, iv (1 : Int32), .unset, .unset] [(.int (1 : Int32))])) _
      exact k
    obtain ⟨_, _, ⟨T13, L13, kk13, nn13⟩, -, X13, ⟨Lc13, hQ13, l13, y13, z13⟩, st13⟩ := Jvm.LawKit.callS X0 hx (y := (⟨"gradivo/spec/ValueKindTakesFormFromPinLaw", "pick", "(I)Lgradivo/spec/ValueKind;"⟩ : MethodName)) hown (mvT hZ (hw _ (List.mem_of_getElem? (i := 1) rfl))) (mvT hZ (hw _ (List.mem_of_getElem? (i := 2) rfl))) (mvT hZ (hw _ (List.mem_of_getElem? (i := 3) rfl))) (mvT hZ (hw _ (List.mem_of_getElem? (i := 4) rfl))) (by decide) (backOf (W := 0) (pick1 l Z a0 hw [] w_TEXT w_COMPOSITE w_CLOSED_LIST w_LISTED w_URI w_ISO3166_1_ALPHA2 w_ISO639 w_ISO15924 w_POSITIVE_NUMBER w_POSITIVE_INTEGER w_NONNEGATIVE_INTEGER w_ISO8601_DATE w_DIGEST w_PER_TIME_STANDARD w_PER_COORDINATE_SYSTEM w_TIME_SPAN G  h0 n0 O0 ) hZ (hw _ (List.mem_of_getElem? (i := 4) rfl)) (hw _ (List.mem_of_getElem? (i := 3) rfl)) (by decide) (by decide)) (g := (mkF m 9 #[iv p1, iv (1 : Int32), .unset, .unset] [(.int (1 : Int32))])) rfl (by rw [hml]; rfl) (argsL := [(.int (1 : Int32))]) (rest := []) (lenOf pd_0 rfl) rfl (by show 2 * 0 + _ ≤ _; exact Nat.le_of_eq rfl) (hb hby at_9) (fun _ _ => ⟨rfl, e0, (by decide : 0 + 0 ≤ _), (by decide : 0 + 0 ≤ _)⟩)
    dsimp only [Pt.U, Pt.locs, Pt.cells, Pt.slots] at X13 l13 y13 z13 st13 hQ13
    subst l13 y13 z13
    obtain ⟨rfl, Nq13, e13⟩ := hQ13
    have N13 := Fr.app N0 Nq13
    have k14 : Way p e below S0 T13 (mkF m 12 #[iv p1, iv (1 : Int32), .unset, .unset] [(.ref w_COMPOSITE)]) := fun t k => k12 t (st13 _ k)
    have k15 : Way p e below S0 T13 (mkF m 38 #[iv p1, iv (1 : Int32), rv w_COMPOSITE, iv (0 : Int32)] [(.ref w_COMPOSITE)]) := by
      intro t k
      refine k14 t ?_
      refine XS.astoreN X13.here hx rfl (hb hby at_12) rfl rfl (l' := #[iv p1, iv (1 : Int32), rv w_COMPOSITE, .unset]) rfl ?_
      show Steps p.tables e below (T13.setTop (mkF m 13 #[iv p1, iv (1 : Int32), rv w_COMPOSITE, .unset] [])) _
      refine XS.iloadN X13.here hx rfl (hb hby at_13) rfl ?_
      show Steps p.tables e below (T13.setTop (mkF m 14 #[iv p1, iv (1 : Int32), rv w_COMPOSITE, .unset] [(.int (1 : Int32))])) _
      refine XS.bipush X13.here hx rfl (hb hby at_14) ?_
      show Steps p.tables e below (T13.setTop (mkF m 16 #[iv p1, iv (1 : Int32), rv w_COMPOSITE, .unset] [(.int (12 : Int32)), (.int (1 : Int32))])) _
      refine XS.icmpNo X13.here hx rfl (hb hby at_16) rfl (feq ((by decide) : ¬ ((1 : Int32) = (12 : Int32)))).1 ?_
      show Steps p.tables e below (T13.setTop (mkF m 19 #[iv p1, iv (1 : Int32), rv w_COMPOSITE, .unset] [])) _
      refine XS.iloadN X13.here hx rfl (hb hby at_19) rfl ?_
      show Steps p.tables e below (T13.setTop (mkF m 20 #[iv p1, iv (1 : Int32), rv w_COMPOSITE, .unset] [(.int (1 : Int32))])) _
      refine XS.bipush X13.here hx rfl (hb hby at_20) ?_
      show Steps p.tables e below (T13.setTop (mkF m 22 #[iv p1, iv (1 : Int32), rv w_COMPOSITE, .unset] [(.int (13 : Int32)), (.int (1 : Int32))])) _
      refine XS.icmpNo X13.here hx rfl (hb hby at_22) rfl (feq ((by decide) : ¬ ((1 : Int32) = (13 : Int32)))).1 ?_
      show Steps p.tables e below (T13.setTop (mkF m 25 #[iv p1, iv (1 : Int32), rv w_COMPOSITE, .unset] [])) _
      refine XS.iloadN X13.here hx rfl (hb hby at_25) rfl ?_
      show Steps p.tables e below (T13.setTop (mkF m 26 #[iv p1, iv (1 : Int32), rv w_COMPOSITE, .unset] [(.int (1 : Int32))])) _
      refine XS.bipush X13.here hx rfl (hb hby at_26) ?_
      show Steps p.tables e below (T13.setTop (mkF m 28 #[iv p1, iv (1 : Int32), rv w_COMPOSITE, .unset] [(.int (14 : Int32)), (.int (1 : Int32))])) _
      refine XS.icmpYes X13.here hx rfl (pc0 := 28) (pc' := 35) rfl (hb hby at_28) rfl (feq ((by decide) : ¬ ((1 : Int32) = (14 : Int32)))).2 (by decide) (by decide) ?_
      show Steps p.tables e below (T13.setTop (mkF m 35 #[iv p1, iv (1 : Int32), rv w_COMPOSITE, .unset] [])) _
      refine XS.iconst X13.here hx rfl (hb hby at_35) ?_
      show Steps p.tables e below (T13.setTop (mkF m 36 #[iv p1, iv (1 : Int32), rv w_COMPOSITE, .unset] [(.int (0 : Int32))])) _
      refine XS.istoreN X13.here hx rfl (hb hby at_36) rfl (l' := #[iv p1, iv (1 : Int32), rv w_COMPOSITE, iv (0 : Int32)]) rfl ?_
      show Steps p.tables e below (T13.setTop (mkF m 37 #[iv p1, iv (1 : Int32), rv w_COMPOSITE, iv (0 : Int32)] [])) _
      refine XS.aloadN X13.here hx rfl (hb hby at_37) rfl rfl ?_
      show Steps p.tables e below (T13.setTop (mkF m 38 #[iv p1, iv (1 : Int32), rv w_COMPOSITE, iv (0 : Int32)] [(.ref w_COMPOSITE)])) _
      exact k
    obtain ⟨cq16, kq16, qq16a, qq16b, qq16c⟩ := isOf hZ e13 (E_w_COMPOSITE.ext O0.2)
    obtain ⟨_, _, ⟨T16, L16, kk16, nn16⟩, -, X16, ⟨Lc16, hQ16, l16, y16, z16⟩, st16⟩ := X13.virtualBack hx (y := (⟨"gradivo/spec/ValueKind", "takesFormFrom", "()Z"⟩ : MethodName)) (z := (⟨"gradivo/spec/ValueKind", "takesFormFrom", "()Z"⟩ : MethodName)) hown (mvT hZ (hw _ (List.mem_of_getElem? (i := 8) rfl))) (mvT hZ (hw _ (List.mem_of_getElem? (i := 9) rfl))) (notFace_of_selects (args := #[]) (mvT hZ (hw _ (List.mem_of_getElem? (i := 11) rfl)))) (mvT hZ (hw _ (List.mem_of_getElem? (i := 11) rfl))) (mvT hZ (hw _ (List.mem_of_getElem? (i := 10) rfl))) (by decide) (backOf (W := 0) (tff1 l Z a0 hw [] w_TEXT w_COMPOSITE w_CLOSED_LIST w_LISTED w_URI w_ISO3166_1_ALPHA2 w_ISO639 w_ISO15924 w_POSITIVE_NUMBER w_POSITIVE_INTEGER w_NONNEGATIVE_INTEGER w_ISO8601_DATE w_DIGEST w_PER_TIME_STANDARD w_PER_COORDINATE_SYSTEM w_TIME_SPAN G  h0 n0 O0 ) hZ (hw _ (List.mem_of_getElem? (i := 12) rfl)) (hw _ (List.mem_of_getElem? (i := 6) rfl)) (by decide) (by decide)) qq16a qq16c (g := (mkF m 38 #[iv p1, iv (1 : Int32), rv w_COMPOSITE, iv (0 : Int32)] [(.ref w_COMPOSITE)])) rfl (by rw [hml]; rfl) (Steps.refl _) (argsL := []) (rest := []) (lenOf pd_1 rfl) rfl (by show 2 * 0 + _ ≤ _; exact Nat.le_of_eq rfl) (hb hby at_38) (fun _ _ => ⟨rfl, e13, (by decide : 0 + 0 ≤ _), (by decide : 0 + 0 ≤ _)⟩)
    dsimp only [Pt.U, Pt.locs, Pt.cells, Pt.slots] at X16 l16 y16 z16 st16 hQ16
    subst l16 y16 z16
    obtain ⟨rfl, Nq16, e16⟩ := hQ16
    have N16 := Fr.app N13 Nq16
    have k17 : Way p e below S0 T16 (mkF m 41 #[iv p1, iv (1 : Int32), rv w_COMPOSITE, iv (0 : Int32)] [(.int (0 : Int32))]) := fun t k => k15 t (st16.trans k)
    have k18 : Way p e below S0 T16 (mkF m 50 #[iv p1, iv (1 : Int32), rv w_COMPOSITE, iv (0 : Int32)] [(.int (1 : Int32))]) := by
      intro t k
      refine k17 t ?_
      refine XS.iloadN X16.here hx rfl (hb hby at_41) rfl ?_
      show Steps p.tables e below (T16.setTop (mkF m 42 #[iv p1, iv (1 : Int32), rv w_COMPOSITE, iv (0 : Int32)] [(.int (0 : Int32)), (.int (0 : Int32))])) _
      refine XS.icmpNo X16.here hx rfl (hb hby at_42) rfl (teq ((by decide) : (0 : Int32) = (0 : Int32))).2 ?_
      show Steps p.tables e below (T16.setTop (mkF m 45 #[iv p1, iv (1 : Int32), rv w_COMPOSITE, iv (0 : Int32)] [])) _
      refine XS.iconst X16.here hx rfl (hb hby at_45) ?_
      show Steps p.tables e below (T16.setTop (mkF m 46 #[iv p1, iv (1 : Int32), rv w_COMPOSITE, iv (0 : Int32)] [(.int (1 : Int32))])) _
      refine XS.goto X16.here hx rfl (pc0 := 46) (pc' := 50) rfl (hb hby at_46) (by decide) (by decide) ?_
      show Steps p.tables e below (T16.setTop (mkF m 50 #[iv p1, iv (1 : Int32), rv w_COMPOSITE, iv (0 : Int32)] [(.int (1 : Int32))])) _
      exact k
    obtain ⟨fs, hr, hrun, hended, hW, hsame⟩ := X16.leave (v := some (.int (1 : Int32))) (fun h => by rw [Bd.returns] at h; cases h)
    refine ⟨_, _, k18 _ (retN X16 hx (t := .boolean) Bd.returns (by simp) (hb hby at_50) hr), hrun, hended, _, _, rfl, ?_, ⟨_, rfl⟩, hW, hsame.mono (by decide) (by decide)⟩
    show Q_law_met Z w_TEXT w_COMPOSITE w_CLOSED_LIST w_LISTED w_URI w_ISO3166_1_ALPHA2 w_ISO639 w_ISO15924 w_POSITIVE_NUMBER w_POSITIVE_INTEGER w_NONNEGATIVE_INTEGER w_ISO8601_DATE w_DIGEST w_PER_TIME_STANDARD w_PER_COORDINATE_SYSTEM w_TIME_SPAN p1 h0 n0 _ T16.heap _
    rw [e16]
    exact ⟨rfl, N16⟩
  · have k19 : Way p e below S0 s₁ (mkF m 8 #[iv p1, iv (2 : Int32), .unset, .unset] []) := by have q := k1; rw [hi2] at q; exact q
    have k20 : Way p e below S0 s₁ (mkF m 9 #[iv p1, iv (2 : Int32), .unset, .unset] [(.int (2 : Int32))]) := by
      intro t k
      refine k19 t ?_
      refine XS.iloadN X0.here hx rfl (hb hby at_8) rfl ?_
      show Steps p.tables e below (s₁.setTop (mkF m 9 #[iv p1, iv (2 : Int32), .unset, .unset] [(.int (2 : Int32))])) _
      exact k
    obtain ⟨_, _, ⟨T21, L21, kk21, nn21⟩, -, X21, ⟨Lc21, hQ21, l21, y21, z21⟩, st21⟩ := Jvm.LawKit.callS X0 hx (y := (⟨"gradivo/spec/ValueKindTakesFormFromPinLaw", "pick", "(I)Lgradivo/spec/ValueKind;"⟩ : MethodName)) hown (mvT hZ (hw _ (List.mem_of_getElem? (i := 1) rfl))) (mvT hZ (hw _ (List.mem_of_getElem? (i := 2) rfl))) (mvT hZ (hw _ (List.mem_of_getElem? (i := 3) rfl))) (mvT hZ (hw _ (List.mem_of_getElem? (i := 4) rfl))) (by decide) (backOf (W := 0) (pick2 l Z a0 hw [] w_TEXT w_COMPOSITE w_CLOSED_LIST w_LISTED w_URI w_ISO3166_1_ALPHA2 w_ISO639 w_ISO15924 w_POSITIVE_NUMBER w_POSITIVE_INTEGER w_NONNEGATIVE_INTEGER w_ISO8601_DATE w_DIGEST w_PER_TIME_STANDARD w_PER_COORDINATE_SYSTEM w_TIME_SPAN G  h0 n0 O0 ) hZ (hw _ (List.mem_of_getElem? (i := 4) rfl)) (hw _ (List.mem_of_getElem? (i := 3) rfl)) (by decide) (by decide)) (g := (mkF m 9 #[iv p1, iv (2 : Int32), .unset, .unset] [(.int (2 : Int32))])) rfl (by rw [hml]; rfl) (argsL := [(.int (2 : Int32))]) (rest := []) (lenOf pd_0 rfl) rfl (by show 2 * 0 + _ ≤ _; exact Nat.le_of_eq rfl) (hb hby at_9) (fun _ _ => ⟨rfl, e0, (by decide : 0 + 0 ≤ _), (by decide : 0 + 0 ≤ _)⟩)
    dsimp only [Pt.U, Pt.locs, Pt.cells, Pt.slots] at X21 l21 y21 z21 st21 hQ21
    subst l21 y21 z21
    obtain ⟨rfl, Nq21, e21⟩ := hQ21
    have N21 := Fr.app N0 Nq21
    have k22 : Way p e below S0 T21 (mkF m 12 #[iv p1, iv (2 : Int32), .unset, .unset] [(.ref w_CLOSED_LIST)]) := fun t k => k20 t (st21 _ k)
    have k23 : Way p e below S0 T21 (mkF m 38 #[iv p1, iv (2 : Int32), rv w_CLOSED_LIST, iv (0 : Int32)] [(.ref w_CLOSED_LIST)]) := by
      intro t k
      refine k22 t ?_
      refine XS.astoreN X21.here hx rfl (hb hby at_12) rfl rfl (l' := #[iv p1, iv (2 : Int32), rv w_CLOSED_LIST, .unset]) rfl ?_
      show Steps p.tables e below (T21.setTop (mkF m 13 #[iv p1, iv (2 : Int32), rv w_CLOSED_LIST, .unset] [])) _
      refine XS.iloadN X21.here hx rfl (hb hby at_13) rfl ?_
      show Steps p.tables e below (T21.setTop (mkF m 14 #[iv p1, iv (2 : Int32), rv w_CLOSED_LIST, .unset] [(.int (2 : Int32))])) _
      refine XS.bipush X21.here hx rfl (hb hby at_14) ?_
      show Steps p.tables e below (T21.setTop (mkF m 16 #[iv p1, iv (2 : Int32), rv w_CLOSED_LIST, .unset] [(.int (12 : Int32)), (.int (2 : Int32))])) _
      refine XS.icmpNo X21.here hx rfl (hb hby at_16) rfl (feq ((by decide) : ¬ ((2 : Int32) = (12 : Int32)))).1 ?_
      show Steps p.tables e below (T21.setTop (mkF m 19 #[iv p1, iv (2 : Int32), rv w_CLOSED_LIST, .unset] [])) _
      refine XS.iloadN X21.here hx rfl (hb hby at_19) rfl ?_
      show Steps p.tables e below (T21.setTop (mkF m 20 #[iv p1, iv (2 : Int32), rv w_CLOSED_LIST, .unset] [(.int (2 : Int32))])) _
      refine XS.bipush X21.here hx rfl (hb hby at_20) ?_
      show Steps p.tables e below (T21.setTop (mkF m 22 #[iv p1, iv (2 : Int32), rv w_CLOSED_LIST, .unset] [(.int (13 : Int32)), (.int (2 : Int32))])) _
      refine XS.icmpNo X21.here hx rfl (hb hby at_22) rfl (feq ((by decide) : ¬ ((2 : Int32) = (13 : Int32)))).1 ?_
      show Steps p.tables e below (T21.setTop (mkF m 25 #[iv p1, iv (2 : Int32), rv w_CLOSED_LIST, .unset] [])) _
      refine XS.iloadN X21.here hx rfl (hb hby at_25) rfl ?_
      show Steps p.tables e below (T21.setTop (mkF m 26 #[iv p1, iv (2 : Int32), rv w_CLOSED_LIST, .unset] [(.int (2 : Int32))])) _
      refine XS.bipush X21.here hx rfl (hb hby at_26) ?_
      show Steps p.tables e below (T21.setTop (mkF m 28 #[iv p1, iv (2 : Int32), rv w_CLOSED_LIST, .unset] [(.int (14 : Int32)), (.int (2 : Int32))])) _
      refine XS.icmpYes X21.here hx rfl (pc0 := 28) (pc' := 35) rfl (hb hby at_28) rfl (feq ((by decide) : ¬ ((2 : Int32) = (14 : Int32)))).2 (by decide) (by decide) ?_
      show Steps p.tables e below (T21.setTop (mkF m 35 #[iv p1, iv (2 : Int32), rv w_CLOSED_LIST, .unset] [])) _
      refine XS.iconst X21.here hx rfl (hb hby at_35) ?_
      show Steps p.tables e below (T21.setTop (mkF m 36 #[iv p1, iv (2 : Int32), rv w_CLOSED_LIST, .unset] [(.int (0 : Int32))])) _
      refine XS.istoreN X21.here hx rfl (hb hby at_36) rfl (l' := #[iv p1, iv (2 : Int32), rv w_CLOSED_LIST, iv (0 : Int32)]) rfl ?_
      show Steps p.tables e below (T21.setTop (mkF m 37 #[iv p1, iv (2 : Int32), rv w_CLOSED_LIST, iv (0 : Int32)] [])) _
      refine XS.aloadN X21.here hx rfl (hb hby at_37) rfl rfl ?_
      show Steps p.tables e below (T21.setTop (mkF m 38 #[iv p1, iv (2 : Int32), rv w_CLOSED_LIST, iv (0 : Int32)] [(.ref w_CLOSED_LIST)])) _
      exact k
    obtain ⟨cq24, kq24, qq24a, qq24b, qq24c⟩ := isOf hZ e21 (E_w_CLOSED_LIST.ext O0.2)
    obtain ⟨_, _, ⟨T24, L24, kk24, nn24⟩, -, X24, ⟨Lc24, hQ24, l24, y24, z24⟩, st24⟩ := X21.virtualBack hx (y := (⟨"gradivo/spec/ValueKind", "takesFormFrom", "()Z"⟩ : MethodName)) (z := (⟨"gradivo/spec/ValueKind", "takesFormFrom", "()Z"⟩ : MethodName)) hown (mvT hZ (hw _ (List.mem_of_getElem? (i := 8) rfl))) (mvT hZ (hw _ (List.mem_of_getElem? (i := 9) rfl))) (notFace_of_selects (args := #[]) (mvT hZ (hw _ (List.mem_of_getElem? (i := 11) rfl)))) (mvT hZ (hw _ (List.mem_of_getElem? (i := 11) rfl))) (mvT hZ (hw _ (List.mem_of_getElem? (i := 10) rfl))) (by decide) (backOf (W := 0) (tff2 l Z a0 hw [] w_TEXT w_COMPOSITE w_CLOSED_LIST w_LISTED w_URI w_ISO3166_1_ALPHA2 w_ISO639 w_ISO15924 w_POSITIVE_NUMBER w_POSITIVE_INTEGER w_NONNEGATIVE_INTEGER w_ISO8601_DATE w_DIGEST w_PER_TIME_STANDARD w_PER_COORDINATE_SYSTEM w_TIME_SPAN G  h0 n0 O0 ) hZ (hw _ (List.mem_of_getElem? (i := 12) rfl)) (hw _ (List.mem_of_getElem? (i := 6) rfl)) (by decide) (by decide)) qq24a qq24c (g := (mkF m 38 #[iv p1, iv (2 : Int32), rv w_CLOSED_LIST, iv (0 : Int32)] [(.ref w_CLOSED_LIST)])) rfl (by rw [hml]; rfl) (Steps.refl _) (argsL := []) (rest := []) (lenOf pd_1 rfl) rfl (by show 2 * 0 + _ ≤ _; exact Nat.le_of_eq rfl) (hb hby at_38) (fun _ _ => ⟨rfl, e21, (by decide : 0 + 0 ≤ _), (by decide : 0 + 0 ≤ _)⟩)
    dsimp only [Pt.U, Pt.locs, Pt.cells, Pt.slots] at X24 l24 y24 z24 st24 hQ24
    subst l24 y24 z24
    obtain ⟨rfl, Nq24, e24⟩ := hQ24
    have N24 := Fr.app N21 Nq24
    have k25 : Way p e below S0 T24 (mkF m 41 #[iv p1, iv (2 : Int32), rv w_CLOSED_LIST, iv (0 : Int32)] [(.int (0 : Int32))]) := fun t k => k23 t (st24.trans k)
    have k26 : Way p e below S0 T24 (mkF m 50 #[iv p1, iv (2 : Int32), rv w_CLOSED_LIST, iv (0 : Int32)] [(.int (1 : Int32))]) := by
      intro t k
      refine k25 t ?_
      refine XS.iloadN X24.here hx rfl (hb hby at_41) rfl ?_
      show Steps p.tables e below (T24.setTop (mkF m 42 #[iv p1, iv (2 : Int32), rv w_CLOSED_LIST, iv (0 : Int32)] [(.int (0 : Int32)), (.int (0 : Int32))])) _
      refine XS.icmpNo X24.here hx rfl (hb hby at_42) rfl (teq ((by decide) : (0 : Int32) = (0 : Int32))).2 ?_
      show Steps p.tables e below (T24.setTop (mkF m 45 #[iv p1, iv (2 : Int32), rv w_CLOSED_LIST, iv (0 : Int32)] [])) _
      refine XS.iconst X24.here hx rfl (hb hby at_45) ?_
      show Steps p.tables e below (T24.setTop (mkF m 46 #[iv p1, iv (2 : Int32), rv w_CLOSED_LIST, iv (0 : Int32)] [(.int (1 : Int32))])) _
      refine XS.goto X24.here hx rfl (pc0 := 46) (pc' := 50) rfl (hb hby at_46) (by decide) (by decide) ?_
      show Steps p.tables e below (T24.setTop (mkF m 50 #[iv p1, iv (2 : Int32), rv w_CLOSED_LIST, iv (0 : Int32)] [(.int (1 : Int32))])) _
      exact k
    obtain ⟨fs, hr, hrun, hended, hW, hsame⟩ := X24.leave (v := some (.int (1 : Int32))) (fun h => by rw [Bd.returns] at h; cases h)
    refine ⟨_, _, k26 _ (retN X24 hx (t := .boolean) Bd.returns (by simp) (hb hby at_50) hr), hrun, hended, _, _, rfl, ?_, ⟨_, rfl⟩, hW, hsame.mono (by decide) (by decide)⟩
    show Q_law_met Z w_TEXT w_COMPOSITE w_CLOSED_LIST w_LISTED w_URI w_ISO3166_1_ALPHA2 w_ISO639 w_ISO15924 w_POSITIVE_NUMBER w_POSITIVE_INTEGER w_NONNEGATIVE_INTEGER w_ISO8601_DATE w_DIGEST w_PER_TIME_STANDARD w_PER_COORDINATE_SYSTEM w_TIME_SPAN p1 h0 n0 _ T24.heap _
    rw [e24]
    exact ⟨rfl, N24⟩
  · have k27 : Way p e below S0 s₁ (mkF m 8 #[iv p1, iv (3 : Int32), .unset, .unset] []) := by have q := k1; rw [hi2] at q; exact q
    have k28 : Way p e below S0 s₁ (mkF m 9 #[iv p1, iv (3 : Int32), .unset, .unset] [(.int (3 : Int32))]) := by
      intro t k
      refine k27 t ?_
      refine XS.iloadN X0.here hx rfl (hb hby at_8) rfl ?_
      show Steps p.tables e below (s₁.setTop (mkF m 9 #[iv p1, iv (3 : Int32), .unset, .unset] [(.int (3 : Int32))])) _
      exact k
    obtain ⟨_, _, ⟨T29, L29, kk29, nn29⟩, -, X29, ⟨Lc29, hQ29, l29, y29, z29⟩, st29⟩ := Jvm.LawKit.callS X0 hx (y := (⟨"gradivo/spec/ValueKindTakesFormFromPinLaw", "pick", "(I)Lgradivo/spec/ValueKind;"⟩ : MethodName)) hown (mvT hZ (hw _ (List.mem_of_getElem? (i := 1) rfl))) (mvT hZ (hw _ (List.mem_of_getElem? (i := 2) rfl))) (mvT hZ (hw _ (List.mem_of_getElem? (i := 3) rfl))) (mvT hZ (hw _ (List.mem_of_getElem? (i := 4) rfl))) (by decide) (backOf (W := 0) (pick3 l Z a0 hw [] w_TEXT w_COMPOSITE w_CLOSED_LIST w_LISTED w_URI w_ISO3166_1_ALPHA2 w_ISO639 w_ISO15924 w_POSITIVE_NUMBER w_POSITIVE_INTEGER w_NONNEGATIVE_INTEGER w_ISO8601_DATE w_DIGEST w_PER_TIME_STANDARD w_PER_COORDINATE_SYSTEM w_TIME_SPAN G  h0 n0 O0 ) hZ (hw _ (List.mem_of_getElem? (i := 4) rfl)) (hw _ (List.mem_of_getElem? (i := 3) rfl)) (by decide) (by decide)) (g := (mkF m 9 #[iv p1, iv (3 : Int32), .unset, .unset] [(.int (3 : Int32))])) rfl (by rw [hml]; rfl) (argsL := [(.int (3 : Int32))]) (rest := []) (lenOf pd_0 rfl) rfl (by show 2 * 0 + _ ≤ _; exact Nat.le_of_eq rfl) (hb hby at_9) (fun _ _ => ⟨rfl, e0, (by decide : 0 + 0 ≤ _), (by decide : 0 + 0 ≤ _)⟩)
    dsimp only [Pt.U, Pt.locs, Pt.cells, Pt.slots] at X29 l29 y29 z29 st29 hQ29
    subst l29 y29 z29
    obtain ⟨rfl, Nq29, e29⟩ := hQ29
    have N29 := Fr.app N0 Nq29
    have k30 : Way p e below S0 T29 (mkF m 12 #[iv p1, iv (3 : Int32), .unset, .unset] [(.ref w_LISTED)]) := fun t k => k28 t (st29 _ k)
    have k31 : Way p e below S0 T29 (mkF m 38 #[iv p1, iv (3 : Int32), rv w_LISTED, iv (0 : Int32)] [(.ref w_LISTED)]) := by
      intro t k
      refine k30 t ?_
      refine XS.astoreN X29.here hx rfl (hb hby at_12) rfl rfl (l' := #[iv p1, iv (3 : Int32), rv w_LISTED, .unset]) rfl ?_
      show Steps p.tables e below (T29.setTop (mkF m 13 #[iv p1, iv (3 : Int32), rv w_LISTED, .unset] [])) _
      refine XS.iloadN X29.here hx rfl (hb hby at_13) rfl ?_
      show Steps p.tables e below (T29.setTop (mkF m 14 #[iv p1, iv (3 : Int32), rv w_LISTED, .unset] [(.int (3 : Int32))])) _
      refine XS.bipush X29.here hx rfl (hb hby at_14) ?_
      show Steps p.tables e below (T29.setTop (mkF m 16 #[iv p1, iv (3 : Int32), rv w_LISTED, .unset] [(.int (12 : Int32)), (.int (3 : Int32))])) _
      refine XS.icmpNo X29.here hx rfl (hb hby at_16) rfl (feq ((by decide) : ¬ ((3 : Int32) = (12 : Int32)))).1 ?_
      show Steps p.tables e below (T29.setTop (mkF m 19 #[iv p1, iv (3 : Int32), rv w_LISTED, .unset] [])) _
      refine XS.iloadN X29.here hx rfl (hb hby at_19) rfl ?_
      show Steps p.tables e below (T29.setTop (mkF m 20 #[iv p1, iv (3 : Int32), rv w_LISTED, .unset] [(.int (3 : Int32))])) _
      refine XS.bipush X29.here hx rfl (hb hby at_20) ?_
      show Steps p.tables e below (T29.setTop (mkF m 22 #[iv p1, iv (3 : Int32), rv w_LISTED, .unset] [(.int (13 : Int32)), (.int (3 : Int32))])) _
      refine XS.icmpNo X29.here hx rfl (hb hby at_22) rfl (feq ((by decide) : ¬ ((3 : Int32) = (13 : Int32)))).1 ?_
      show Steps p.tables e below (T29.setTop (mkF m 25 #[iv p1, iv (3 : Int32), rv w_LISTED, .unset] [])) _
      refine XS.iloadN X29.here hx rfl (hb hby at_25) rfl ?_
      show Steps p.tables e below (T29.setTop (mkF m 26 #[iv p1, iv (3 : Int32), rv w_LISTED, .unset] [(.int (3 : Int32))])) _
      refine XS.bipush X29.here hx rfl (hb hby at_26) ?_
      show Steps p.tables e below (T29.setTop (mkF m 28 #[iv p1, iv (3 : Int32), rv w_LISTED, .unset] [(.int (14 : Int32)), (.int (3 : Int32))])) _
      refine XS.icmpYes X29.here hx rfl (pc0 := 28) (pc' := 35) rfl (hb hby at_28) rfl (feq ((by decide) : ¬ ((3 : Int32) = (14 : Int32)))).2 (by decide) (by decide) ?_
      show Steps p.tables e below (T29.setTop (mkF m 35 #[iv p1, iv (3 : Int32), rv w_LISTED, .unset] [])) _
      refine XS.iconst X29.here hx rfl (hb hby at_35) ?_
      show Steps p.tables e below (T29.setTop (mkF m 36 #[iv p1, iv (3 : Int32), rv w_LISTED, .unset] [(.int (0 : Int32))])) _
      refine XS.istoreN X29.here hx rfl (hb hby at_36) rfl (l' := #[iv p1, iv (3 : Int32), rv w_LISTED, iv (0 : Int32)]) rfl ?_
      show Steps p.tables e below (T29.setTop (mkF m 37 #[iv p1, iv (3 : Int32), rv w_LISTED, iv (0 : Int32)] [])) _
      refine XS.aloadN X29.here hx rfl (hb hby at_37) rfl rfl ?_
      show Steps p.tables e below (T29.setTop (mkF m 38 #[iv p1, iv (3 : Int32), rv w_LISTED, iv (0 : Int32)] [(.ref w_LISTED)])) _
      exact k
    obtain ⟨cq32, kq32, qq32a, qq32b, qq32c⟩ := isOf hZ e29 (E_w_LISTED.ext O0.2)
    obtain ⟨_, _, ⟨T32, L32, kk32, nn32⟩, -, X32, ⟨Lc32, hQ32, l32, y32, z32⟩, st32⟩ := X29.virtualBack hx (y := (⟨"gradivo/spec/ValueKind", "takesFormFrom", "()Z"⟩ : MethodName)) (z := (⟨"gradivo/spec/ValueKind", "takesFormFrom", "()Z"⟩ : MethodName)) hown (mvT hZ (hw _ (List.mem_of_getElem? (i := 8) rfl))) (mvT hZ (hw _ (List.mem_of_getElem? (i := 9) rfl))) (notFace_of_selects (args := #[]) (mvT hZ (hw _ (List.mem_of_getElem? (i := 11) rfl)))) (mvT hZ (hw _ (List.mem_of_getElem? (i := 11) rfl))) (mvT hZ (hw _ (List.mem_of_getElem? (i := 10) rfl))) (by decide) (backOf (W := 0) (tff3 l Z a0 hw [] w_TEXT w_COMPOSITE w_CLOSED_LIST w_LISTED w_URI w_ISO3166_1_ALPHA2 w_ISO639 w_ISO15924 w_POSITIVE_NUMBER w_POSITIVE_INTEGER w_NONNEGATIVE_INTEGER w_ISO8601_DATE w_DIGEST w_PER_TIME_STANDARD w_PER_COORDINATE_SYSTEM w_TIME_SPAN G  h0 n0 O0 ) hZ (hw _ (List.mem_of_getElem? (i := 12) rfl)) (hw _ (List.mem_of_getElem? (i := 6) rfl)) (by decide) (by decide)) qq32a qq32c (g := (mkF m 38 #[iv p1, iv (3 : Int32), rv w_LISTED, iv (0 : Int32)] [(.ref w_LISTED)])) rfl (by rw [hml]; rfl) (Steps.refl _) (argsL := []) (rest := []) (lenOf pd_1 rfl) rfl (by show 2 * 0 + _ ≤ _; exact Nat.le_of_eq rfl) (hb hby at_38) (fun _ _ => ⟨rfl, e29, (by decide : 0 + 0 ≤ _), (by decide : 0 + 0 ≤ _)⟩)
    dsimp only [Pt.U, Pt.locs, Pt.cells, Pt.slots] at X32 l32 y32 z32 st32 hQ32
    subst l32 y32 z32
    obtain ⟨rfl, Nq32, e32⟩ := hQ32
    have N32 := Fr.app N29 Nq32
    have k33 : Way p e below S0 T32 (mkF m 41 #[iv p1, iv (3 : Int32), rv w_LISTED, iv (0 : Int32)] [(.int (0 : Int32))]) := fun t k => k31 t (st32.trans k)
    have k34 : Way p e below S0 T32 (mkF m 50 #[iv p1, iv (3 : Int32), rv w_LISTED, iv (0 : Int32)] [(.int (1 : Int32))]) := by
      intro t k
      refine k33 t ?_
      refine XS.iloadN X32.here hx rfl (hb hby at_41) rfl ?_
      show Steps p.tables e below (T32.setTop (mkF m 42 #[iv p1, iv (3 : Int32), rv w_LISTED, iv (0 : Int32)] [(.int (0 : Int32)), (.int (0 : Int32))])) _
      refine XS.icmpNo X32.here hx rfl (hb hby at_42) rfl (teq ((by decide) : (0 : Int32) = (0 : Int32))).2 ?_
      show Steps p.tables e below (T32.setTop (mkF m 45 #[iv p1, iv (3 : Int32), rv w_LISTED, iv (0 : Int32)] [])) _
      refine XS.iconst X32.here hx rfl (hb hby at_45) ?_
      show Steps p.tables e below (T32.setTop (mkF m 46 #[iv p1, iv (3 : Int32), rv w_LISTED, iv (0 : Int32)] [(.int (1 : Int32))])) _
      refine XS.goto X32.here hx rfl (pc0 := 46) (pc' := 50) rfl (hb hby at_46) (by decide) (by decide) ?_
      show Steps p.tables e below (T32.setTop (mkF m 50 #[iv p1, iv (3 : Int32), rv w_LISTED, iv (0 : Int32)] [(.int (1 : Int32))])) _
      exact k
    obtain ⟨fs, hr, hrun, hended, hW, hsame⟩ := X32.leave (v := some (.int (1 : Int32))) (fun h => by rw [Bd.returns] at h; cases h)
    refine ⟨_, _, k34 _ (retN X32 hx (t := .boolean) Bd.returns (by simp) (hb hby at_50) hr), hrun, hended, _, _, rfl, ?_, ⟨_, rfl⟩, hW, hsame.mono (by decide) (by decide)⟩
    show Q_law_met Z w_TEXT w_COMPOSITE w_CLOSED_LIST w_LISTED w_URI w_ISO3166_1_ALPHA2 w_ISO639 w_ISO15924 w_POSITIVE_NUMBER w_POSITIVE_INTEGER w_NONNEGATIVE_INTEGER w_ISO8601_DATE w_DIGEST w_PER_TIME_STANDARD w_PER_COORDINATE_SYSTEM w_TIME_SPAN p1 h0 n0 _ T32.heap _
    rw [e32]
    exact ⟨rfl, N32⟩
  · have k35 : Way p e below S0 s₁ (mkF m 8 #[iv p1, iv (4 : Int32), .unset, .unset] []) := by have q := k1; rw [hi2] at q; exact q
    have k36 : Way p e below S0 s₁ (mkF m 9 #[iv p1, iv (4 : Int32), .unset, .unset] [(.int (4 : Int32))]) := by
      intro t k
      refine k35 t ?_
      refine XS.iloadN X0.here hx rfl (hb hby at_8) rfl ?_
      show Steps p.tables e below (s₁.setTop (mkF m 9 #[iv p1, iv (4 : Int32), .unset, .unset] [(.int (4 : Int32))])) _
      exact k
    obtain ⟨_, _, ⟨T37, L37, kk37, nn37⟩, -, X37, ⟨Lc37, hQ37, l37, y37, z37⟩, st37⟩ := Jvm.LawKit.callS X0 hx (y := (⟨"gradivo/spec/ValueKindTakesFormFromPinLaw", "pick", "(I)Lgradivo/spec/ValueKind;"⟩ : MethodName)) hown (mvT hZ (hw _ (List.mem_of_getElem? (i := 1) rfl))) (mvT hZ (hw _ (List.mem_of_getElem? (i := 2) rfl))) (mvT hZ (hw _ (List.mem_of_getElem? (i := 3) rfl))) (mvT hZ (hw _ (List.mem_of_getElem? (i := 4) rfl))) (by decide) (backOf (W := 0) (pick4 l Z a0 hw [] w_TEXT w_COMPOSITE w_CLOSED_LIST w_LISTED w_URI w_ISO3166_1_ALPHA2 w_ISO639 w_ISO15924 w_POSITIVE_NUMBER w_POSITIVE_INTEGER w_NONNEGATIVE_INTEGER w_ISO8601_DATE w_DIGEST w_PER_TIME_STANDARD w_PER_COORDINATE_SYSTEM w_TIME_SPAN G  h0 n0 O0 ) hZ (hw _ (List.mem_of_getElem? (i := 4) rfl)) (hw _ (List.mem_of_getElem? (i := 3) rfl)) (by decide) (by decide)) (g := (mkF m 9 #[iv p1, iv (4 : Int32), .unset, .unset] [(.int (4 : Int32))])) rfl (by rw [hml]; rfl) (argsL := [(.int (4 : Int32))]) (rest := []) (lenOf pd_0 rfl) rfl (by show 2 * 0 + _ ≤ _; exact Nat.le_of_eq rfl) (hb hby at_9) (fun _ _ => ⟨rfl, e0, (by decide : 0 + 0 ≤ _), (by decide : 0 + 0 ≤ _)⟩)
    dsimp only [Pt.U, Pt.locs, Pt.cells, Pt.slots] at X37 l37 y37 z37 st37 hQ37
    subst l37 y37 z37
    obtain ⟨rfl, Nq37, e37⟩ := hQ37
    have N37 := Fr.app N0 Nq37
    have k38 : Way p e below S0 T37 (mkF m 12 #[iv p1, iv (4 : Int32), .unset, .unset] [(.ref w_URI)]) := fun t k => k36 t (st37 _ k)
    have k39 : Way p e below S0 T37 (mkF m 38 #[iv p1, iv (4 : Int32), rv w_URI, iv (0 : Int32)] [(.ref w_URI)]) := by
      intro t k
      refine k38 t ?_
      refine XS.astoreN X37.here hx rfl (hb hby at_12) rfl rfl (l' := #[iv p1, iv (4 : Int32), rv w_URI, .unset]) rfl ?_
      show Steps p.tables e below (T37.setTop (mkF m 13 #[iv p1, iv (4 : Int32), rv w_URI, .unset] [])) _
      refine XS.iloadN X37.here hx rfl (hb hby at_13) rfl ?_
      show Steps p.tables e below (T37.setTop (mkF m 14 #[iv p1, iv (4 : Int32), rv w_URI, .unset] [(.int (4 : Int32))])) _
      refine XS.bipush X37.here hx rfl (hb hby at_14) ?_
      show Steps p.tables e below (T37.setTop (mkF m 16 #[iv p1, iv (4 : Int32), rv w_URI, .unset] [(.int (12 : Int32)), (.int (4 : Int32))])) _
      refine XS.icmpNo X37.here hx rfl (hb hby at_16) rfl (feq ((by decide) : ¬ ((4 : Int32) = (12 : Int32)))).1 ?_
      show Steps p.tables e below (T37.setTop (mkF m 19 #[iv p1, iv (4 : Int32), rv w_URI, .unset] [])) _
      refine XS.iloadN X37.here hx rfl (hb hby at_19) rfl ?_
      show Steps p.tables e below (T37.setTop (mkF m 20 #[iv p1, iv (4 : Int32), rv w_URI, .unset] [(.int (4 : Int32))])) _
      refine XS.bipush X37.here hx rfl (hb hby at_20) ?_
      show Steps p.tables e below (T37.setTop (mkF m 22 #[iv p1, iv (4 : Int32), rv w_URI, .unset] [(.int (13 : Int32)), (.int (4 : Int32))])) _
      refine XS.icmpNo X37.here hx rfl (hb hby at_22) rfl (feq ((by decide) : ¬ ((4 : Int32) = (13 : Int32)))).1 ?_
      show Steps p.tables e below (T37.setTop (mkF m 25 #[iv p1, iv (4 : Int32), rv w_URI, .unset] [])) _
      refine XS.iloadN X37.here hx rfl (hb hby at_25) rfl ?_
      show Steps p.tables e below (T37.setTop (mkF m 26 #[iv p1, iv (4 : Int32), rv w_URI, .unset] [(.int (4 : Int32))])) _
      refine XS.bipush X37.here hx rfl (hb hby at_26) ?_
      show Steps p.tables e below (T37.setTop (mkF m 28 #[iv p1, iv (4 : Int32), rv w_URI, .unset] [(.int (14 : Int32)), (.int (4 : Int32))])) _
      refine XS.icmpYes X37.here hx rfl (pc0 := 28) (pc' := 35) rfl (hb hby at_28) rfl (feq ((by decide) : ¬ ((4 : Int32) = (14 : Int32)))).2 (by decide) (by decide) ?_
      show Steps p.tables e below (T37.setTop (mkF m 35 #[iv p1, iv (4 : Int32), rv w_URI, .unset] [])) _
      refine XS.iconst X37.here hx rfl (hb hby at_35) ?_
      show Steps p.tables e below (T37.setTop (mkF m 36 #[iv p1, iv (4 : Int32), rv w_URI, .unset] [(.int (0 : Int32))])) _
      refine XS.istoreN X37.here hx rfl (hb hby at_36) rfl (l' := #[iv p1, iv (4 : Int32), rv w_URI, iv (0 : Int32)]) rfl ?_
      show Steps p.tables e below (T37.setTop (mkF m 37 #[iv p1, iv (4 : Int32), rv w_URI, iv (0 : Int32)] [])) _
      refine XS.aloadN X37.here hx rfl (hb hby at_37) rfl rfl ?_
      show Steps p.tables e below (T37.setTop (mkF m 38 #[iv p1, iv (4 : Int32), rv w_URI, iv (0 : Int32)] [(.ref w_URI)])) _
      exact k
    obtain ⟨cq40, kq40, qq40a, qq40b, qq40c⟩ := isOf hZ e37 (E_w_URI.ext O0.2)
    obtain ⟨_, _, ⟨T40, L40, kk40, nn40⟩, -, X40, ⟨Lc40, hQ40, l40, y40, z40⟩, st40⟩ := X37.virtualBack hx (y := (⟨"gradivo/spec/ValueKind", "takesFormFrom", "()Z"⟩ : MethodName)) (z := (⟨"gradivo/spec/ValueKind", "takesFormFrom", "()Z"⟩ : MethodName)) hown (mvT hZ (hw _ (List.mem_of_getElem? (i := 8) rfl))) (mvT hZ (hw _ (List.mem_of_getElem? (i := 9) rfl))) (notFace_of_selects (args := #[]) (mvT hZ (hw _ (List.mem_of_getElem? (i := 11) rfl)))) (mvT hZ (hw _ (List.mem_of_getElem? (i := 11) rfl))) (mvT hZ (hw _ (List.mem_of_getElem? (i := 10) rfl))) (by decide) (backOf (W := 0) (tff4 l Z a0 hw [] w_TEXT w_COMPOSITE w_CLOSED_LIST w_LISTED w_URI w_ISO3166_1_ALPHA2 w_ISO639 w_ISO15924 w_POSITIVE_NUMBER w_POSITIVE_INTEGER w_NONNEGATIVE_INTEGER w_ISO8601_DATE w_DIGEST w_PER_TIME_STANDARD w_PER_COORDINATE_SYSTEM w_TIME_SPAN G  h0 n0 O0 ) hZ (hw _ (List.mem_of_getElem? (i := 12) rfl)) (hw _ (List.mem_of_getElem? (i := 6) rfl)) (by decide) (by decide)) qq40a qq40c (g := (mkF m 38 #[iv p1, iv (4 : Int32), rv w_URI, iv (0 : Int32)] [(.ref w_URI)])) rfl (by rw [hml]; rfl) (Steps.refl _) (argsL := []) (rest := []) (lenOf pd_1 rfl) rfl (by show 2 * 0 + _ ≤ _; exact Nat.le_of_eq rfl) (hb hby at_38) (fun _ _ => ⟨rfl, e37, (by decide : 0 + 0 ≤ _), (by decide : 0 + 0 ≤ _)⟩)
    dsimp only [Pt.U, Pt.locs, Pt.cells, Pt.slots] at X40 l40 y40 z40 st40 hQ40
    subst l40 y40 z40
    obtain ⟨rfl, Nq40, e40⟩ := hQ40
    have N40 := Fr.app N37 Nq40
    have k41 : Way p e below S0 T40 (mkF m 41 #[iv p1, iv (4 : Int32), rv w_URI, iv (0 : Int32)] [(.int (0 : Int32))]) := fun t k => k39 t (st40.trans k)
    have k42 : Way p e below S0 T40 (mkF m 50 #[iv p1, iv (4 : Int32), rv w_URI, iv (0 : Int32)] [(.int (1 : Int32))]) := by
      intro t k
      refine k41 t ?_
      refine XS.iloadN X40.here hx rfl (hb hby at_41) rfl ?_
      show Steps p.tables e below (T40.setTop (mkF m 42 #[iv p1, iv (4 : Int32), rv w_URI, iv (0 : Int32)] [(.int (0 : Int32)), (.int (0 : Int32))])) _
      refine XS.icmpNo X40.here hx rfl (hb hby at_42) rfl (teq ((by decide) : (0 : Int32) = (0 : Int32))).2 ?_
      show Steps p.tables e below (T40.setTop (mkF m 45 #[iv p1, iv (4 : Int32), rv w_URI, iv (0 : Int32)] [])) _
      refine XS.iconst X40.here hx rfl (hb hby at_45) ?_
      show Steps p.tables e below (T40.setTop (mkF m 46 #[iv p1, iv (4 : Int32), rv w_URI, iv (0 : Int32)] [(.int (1 : Int32))])) _
      refine XS.goto X40.here hx rfl (pc0 := 46) (pc' := 50) rfl (hb hby at_46) (by decide) (by decide) ?_
      show Steps p.tables e below (T40.setTop (mkF m 50 #[iv p1, iv (4 : Int32), rv w_URI, iv (0 : Int32)] [(.int (1 : Int32))])) _
      exact k
    obtain ⟨fs, hr, hrun, hended, hW, hsame⟩ := X40.leave (v := some (.int (1 : Int32))) (fun h => by rw [Bd.returns] at h; cases h)
    refine ⟨_, _, k42 _ (retN X40 hx (t := .boolean) Bd.returns (by simp) (hb hby at_50) hr), hrun, hended, _, _, rfl, ?_, ⟨_, rfl⟩, hW, hsame.mono (by decide) (by decide)⟩
    show Q_law_met Z w_TEXT w_COMPOSITE w_CLOSED_LIST w_LISTED w_URI w_ISO3166_1_ALPHA2 w_ISO639 w_ISO15924 w_POSITIVE_NUMBER w_POSITIVE_INTEGER w_NONNEGATIVE_INTEGER w_ISO8601_DATE w_DIGEST w_PER_TIME_STANDARD w_PER_COORDINATE_SYSTEM w_TIME_SPAN p1 h0 n0 _ T40.heap _
    rw [e40]
    exact ⟨rfl, N40⟩
  · have k43 : Way p e below S0 s₁ (mkF m 8 #[iv p1, iv (5 : Int32), .unset, .unset] []) := by have q := k1; rw [hi2] at q; exact q
    have k44 : Way p e below S0 s₁ (mkF m 9 #[iv p1, iv (5 : Int32), .unset, .unset] [(.int (5 : Int32))]) := by
      intro t k
      refine k43 t ?_
      refine XS.iloadN X0.here hx rfl (hb hby at_8) rfl ?_
      show Steps p.tables e below (s₁.setTop (mkF m 9 #[iv p1, iv (5 : Int32), .unset, .unset] [(.int (5 : Int32))])) _
      exact k
    obtain ⟨_, _, ⟨T45, L45, kk45, nn45⟩, -, X45, ⟨Lc45, hQ45, l45, y45, z45⟩, st45⟩ := Jvm.LawKit.callS X0 hx (y := (⟨"gradivo/spec/ValueKindTakesFormFromPinLaw", "pick", "(I)Lgradivo/spec/ValueKind;"⟩ : MethodName)) hown (mvT hZ (hw _ (List.mem_of_getElem? (i := 1) rfl))) (mvT hZ (hw _ (List.mem_of_getElem? (i := 2) rfl))) (mvT hZ (hw _ (List.mem_of_getElem? (i := 3) rfl))) (mvT hZ (hw _ (List.mem_of_getElem? (i := 4) rfl))) (by decide) (backOf (W := 0) (pick5 l Z a0 hw [] w_TEXT w_COMPOSITE w_CLOSED_LIST w_LISTED w_URI w_ISO3166_1_ALPHA2 w_ISO639 w_ISO15924 w_POSITIVE_NUMBER w_POSITIVE_INTEGER w_NONNEGATIVE_INTEGER w_ISO8601_DATE w_DIGEST w_PER_TIME_STANDARD w_PER_COORDINATE_SYSTEM w_TIME_SPAN G  h0 n0 O0 ) hZ (hw _ (List.mem_of_getElem? (i := 4) rfl)) (hw _ (List.mem_of_getElem? (i := 3) rfl)) (by decide) (by decide)) (g := (mkF m 9 #[iv p1, iv (5 : Int32), .unset, .unset] [(.int (5 : Int32))])) rfl (by rw [hml]; rfl) (argsL := [(.int (5 : Int32))]) (rest := []) (lenOf pd_0 rfl) rfl (by show 2 * 0 + _ ≤ _; exact Nat.le_of_eq rfl) (hb hby at_9) (fun _ _ => ⟨rfl, e0, (by decide : 0 + 0 ≤ _), (by decide : 0 + 0 ≤ _)⟩)
    dsimp only [Pt.U, Pt.locs, Pt.cells, Pt.slots] at X45 l45 y45 z45 st45 hQ45
    subst l45 y45 z45
    obtain ⟨rfl, Nq45, e45⟩ := hQ45
    have N45 := Fr.app N0 Nq45
    have k46 : Way p e below S0 T45 (mkF m 12 #[iv p1, iv (5 : Int32), .unset, .unset] [(.ref w_ISO3166_1_ALPHA2)]) := fun t k => k44 t (st45 _ k)
    have k47 : Way p e below S0 T45 (mkF m 38 #[iv p1, iv (5 : Int32), rv w_ISO3166_1_ALPHA2, iv (0 : Int32)] [(.ref w_ISO3166_1_ALPHA2)]) := by
      intro t k
      refine k46 t ?_
      refine XS.astoreN X45.here hx rfl (hb hby at_12) rfl rfl (l' := #[iv p1, iv (5 : Int32), rv w_ISO3166_1_ALPHA2, .unset]) rfl ?_
      show Steps p.tables e below (T45.setTop (mkF m 13 #[iv p1, iv (5 : Int32), rv w_ISO3166_1_ALPHA2, .unset] [])) _
      refine XS.iloadN X45.here hx rfl (hb hby at_13) rfl ?_
      show Steps p.tables e below (T45.setTop (mkF m 14 #[iv p1, iv (5 : Int32), rv w_ISO3166_1_ALPHA2, .unset] [(.int (5 : Int32))])) _
      refine XS.bipush X45.here hx rfl (hb hby at_14) ?_
      show Steps p.tables e below (T45.setTop (mkF m 16 #[iv p1, iv (5 : Int32), rv w_ISO3166_1_ALPHA2, .unset] [(.int (12 : Int32)), (.int (5 : Int32))])) _
      refine XS.icmpNo X45.here hx rfl (hb hby at_16) rfl (feq ((by decide) : ¬ ((5 : Int32) = (12 : Int32)))).1 ?_
      show Steps p.tables e below (T45.setTop (mkF m 19 #[iv p1, iv (5 : Int32), rv w_ISO3166_1_ALPHA2, .unset] [])) _
      refine XS.iloadN X45.here hx rfl (hb hby at_19) rfl ?_
      show Steps p.tables e below (T45.setTop (mkF m 20 #[iv p1, iv (5 : Int32), rv w_ISO3166_1_ALPHA2, .unset] [(.int (5 : Int32))])) _
      refine XS.bipush X45.here hx rfl (hb hby at_20) ?_
      show Steps p.tables e below (T45.setTop (mkF m 22 #[iv p1, iv (5 : Int32), rv w_ISO3166_1_ALPHA2, .unset] [(.int (13 : Int32)), (.int (5 : Int32))])) _
      refine XS.icmpNo X45.here hx rfl (hb hby at_22) rfl (feq ((by decide) : ¬ ((5 : Int32) = (13 : Int32)))).1 ?_
      show Steps p.tables e below (T45.setTop (mkF m 25 #[iv p1, iv (5 : Int32), rv w_ISO3166_1_ALPHA2, .unset] [])) _
      refine XS.iloadN X45.here hx rfl (hb hby at_25) rfl ?_
      show Steps p.tables e below (T45.setTop (mkF m 26 #[iv p1, iv (5 : Int32), rv w_ISO3166_1_ALPHA2, .unset] [(.int (5 : Int32))])) _
      refine XS.bipush X45.here hx rfl (hb hby at_26) ?_
      show Steps p.tables e below (T45.setTop (mkF m 28 #[iv p1, iv (5 : Int32), rv w_ISO3166_1_ALPHA2, .unset] [(.int (14 : Int32)), (.int (5 : Int32))])) _
      refine XS.icmpYes X45.here hx rfl (pc0 := 28) (pc' := 35) rfl (hb hby at_28) rfl (feq ((by decide) : ¬ ((5 : Int32) = (14 : Int32)))).2 (by decide) (by decide) ?_
      show Steps p.tables e below (T45.setTop (mkF m 35 #[iv p1, iv (5 : Int32), rv w_ISO3166_1_ALPHA2, .unset] [])) _
      refine XS.iconst X45.here hx rfl (hb hby at_35) ?_
      show Steps p.tables e below (T45.setTop (mkF m 36 #[iv p1, iv (5 : Int32), rv w_ISO3166_1_ALPHA2, .unset] [(.int (0 : Int32))])) _
      refine XS.istoreN X45.here hx rfl (hb hby at_36) rfl (l' := #[iv p1, iv (5 : Int32), rv w_ISO3166_1_ALPHA2, iv (0 : Int32)]) rfl ?_
      show Steps p.tables e below (T45.setTop (mkF m 37 #[iv p1, iv (5 : Int32), rv w_ISO3166_1_ALPHA2, iv (0 : Int32)] [])) _
      refine XS.aloadN X45.here hx rfl (hb hby at_37) rfl rfl ?_
      show Steps p.tables e below (T45.setTop (mkF m 38 #[iv p1, iv (5 : Int32), rv w_ISO3166_1_ALPHA2, iv (0 : Int32)] [(.ref w_ISO3166_1_ALPHA2)])) _
      exact k
    obtain ⟨cq48, kq48, qq48a, qq48b, qq48c⟩ := isOf hZ e45 (E_w_ISO3166_1_ALPHA2.ext O0.2)
    obtain ⟨_, _, ⟨T48, L48, kk48, nn48⟩, -, X48, ⟨Lc48, hQ48, l48, y48, z48⟩, st48⟩ := X45.virtualBack hx (y := (⟨"gradivo/spec/ValueKind", "takesFormFrom", "()Z"⟩ : MethodName)) (z := (⟨"gradivo/spec/ValueKind", "takesFormFrom", "()Z"⟩ : MethodName)) hown (mvT hZ (hw _ (List.mem_of_getElem? (i := 8) rfl))) (mvT hZ (hw _ (List.mem_of_getElem? (i := 9) rfl))) (notFace_of_selects (args := #[]) (mvT hZ (hw _ (List.mem_of_getElem? (i := 11) rfl)))) (mvT hZ (hw _ (List.mem_of_getElem? (i := 11) rfl))) (mvT hZ (hw _ (List.mem_of_getElem? (i := 10) rfl))) (by decide) (backOf (W := 0) (tff5 l Z a0 hw [] w_TEXT w_COMPOSITE w_CLOSED_LIST w_LISTED w_URI w_ISO3166_1_ALPHA2 w_ISO639 w_ISO15924 w_POSITIVE_NUMBER w_POSITIVE_INTEGER w_NONNEGATIVE_INTEGER w_ISO8601_DATE w_DIGEST w_PER_TIME_STANDARD w_PER_COORDINATE_SYSTEM w_TIME_SPAN G  h0 n0 O0 ) hZ (hw _ (List.mem_of_getElem? (i := 12) rfl)) (hw _ (List.mem_of_getElem? (i := 6) rfl)) (by decide) (by decide)) qq48a qq48c (g := (mkF m 38 #[iv p1, iv (5 : Int32), rv w_ISO3166_1_ALPHA2, iv (0 : Int32)] [(.ref w_ISO3166_1_ALPHA2)])) rfl (by rw [hml]; rfl) (Steps.refl _) (argsL := []) (rest := []) (lenOf pd_1 rfl) rfl (by show 2 * 0 + _ ≤ _; exact Nat.le_of_eq rfl) (hb hby at_38) (fun _ _ => ⟨rfl, e45, (by decide : 0 + 0 ≤ _), (by decide : 0 + 0 ≤ _)⟩)
    dsimp only [Pt.U, Pt.locs, Pt.cells, Pt.slots] at X48 l48 y48 z48 st48 hQ48
    subst l48 y48 z48
    obtain ⟨rfl, Nq48, e48⟩ := hQ48
    have N48 := Fr.app N45 Nq48
    have k49 : Way p e below S0 T48 (mkF m 41 #[iv p1, iv (5 : Int32), rv w_ISO3166_1_ALPHA2, iv (0 : Int32)] [(.int (0 : Int32))]) := fun t k => k47 t (st48.trans k)
    have k50 : Way p e below S0 T48 (mkF m 50 #[iv p1, iv (5 : Int32), rv w_ISO3166_1_ALPHA2, iv (0 : Int32)] [(.int (1 : Int32))]) := by
      intro t k
      refine k49 t ?_
      refine XS.iloadN X48.here hx rfl (hb hby at_41) rfl ?_
      show Steps p.tables e below (T48.setTop (mkF m 42 #[iv p1, iv (5 : Int32), rv w_ISO3166_1_ALPHA2, iv (0 : Int32)] [(.int (0 : Int32)), (.int (0 : Int32))])) _
      refine XS.icmpNo X48.here hx rfl (hb hby at_42) rfl (teq ((by decide) : (0 : Int32) = (0 : Int32))).2 ?_
      show Steps p.tables e below (T48.setTop (mkF m 45 #[iv p1, iv (5 : Int32), rv w_ISO3166_1_ALPHA2, iv (0 : Int32)] [])) _
      refine XS.iconst X48.here hx rfl (hb hby at_45) ?_
      show Steps p.tables e below (T48.setTop (mkF m 46 #[iv p1, iv (5 : Int32), rv w_ISO3166_1_ALPHA2, iv (0 : Int32)] [(.int (1 : Int32))])) _
      refine XS.goto X48.here hx rfl (pc0 := 46) (pc' := 50) rfl (hb hby at_46) (by decide) (by decide) ?_
      show Steps p.tables e below (T48.setTop (mkF m 50 #[iv p1, iv (5 : Int32), rv w_ISO3166_1_ALPHA2, iv (0 : Int32)] [(.int (1 : Int32))])) _
      exact k
    obtain ⟨fs, hr, hrun, hended, hW, hsame⟩ := X48.leave (v := some (.int (1 : Int32))) (fun h => by rw [Bd.returns] at h; cases h)
    refine ⟨_, _, k50 _ (retN X48 hx (t := .boolean) Bd.returns (by simp) (hb hby at_50) hr), hrun, hended, _, _, rfl, ?_, ⟨_, rfl⟩, hW, hsame.mono (by decide) (by decide)⟩
    show Q_law_met Z w_TEXT w_COMPOSITE w_CLOSED_LIST w_LISTED w_URI w_ISO3166_1_ALPHA2 w_ISO639 w_ISO15924 w_POSITIVE_NUMBER w_POSITIVE_INTEGER w_NONNEGATIVE_INTEGER w_ISO8601_DATE w_DIGEST w_PER_TIME_STANDARD w_PER_COORDINATE_SYSTEM w_TIME_SPAN p1 h0 n0 _ T48.heap _
    rw [e48]
    exact ⟨rfl, N48⟩
  · have k51 : Way p e below S0 s₁ (mkF m 8 #[iv p1, iv (6 : Int32), .unset, .unset] []) := by have q := k1; rw [hi2] at q; exact q
    have k52 : Way p e below S0 s₁ (mkF m 9 #[iv p1, iv (6 : Int32), .unset, .unset] [(.int (6 : Int32))]) := by
      intro t k
      refine k51 t ?_
      refine XS.iloadN X0.here hx rfl (hb hby at_8) rfl ?_
      show Steps p.tables e below (s₁.setTop (mkF m 9 #[iv p1, iv (6 : Int32), .unset, .unset] [(.int (6 : Int32))])) _
      exact k
    obtain ⟨_, _, ⟨T53, L53, kk53, nn53⟩, -, X53, ⟨Lc53, hQ53, l53, y53, z53⟩, st53⟩ := Jvm.LawKit.callS X0 hx (y := (⟨"gradivo/spec/ValueKindTakesFormFromPinLaw", "pick", "(I)Lgradivo/spec/ValueKind;"⟩ : MethodName)) hown (mvT hZ (hw _ (List.mem_of_getElem? (i := 1) rfl))) (mvT hZ (hw _ (List.mem_of_getElem? (i := 2) rfl))) (mvT hZ (hw _ (List.mem_of_getElem? (i := 3) rfl))) (mvT hZ (hw _ (List.mem_of_getElem? (i := 4) rfl))) (by decide) (backOf (W := 0) (pick6 l Z a0 hw [] w_TEXT w_COMPOSITE w_CLOSED_LIST w_LISTED w_URI w_ISO3166_1_ALPHA2 w_ISO639 w_ISO15924 w_POSITIVE_NUMBER w_POSITIVE_INTEGER w_NONNEGATIVE_INTEGER w_ISO8601_DATE w_DIGEST w_PER_TIME_STANDARD w_PER_COORDINATE_SYSTEM w_TIME_SPAN G  h0 n0 O0 ) hZ (hw _ (List.mem_of_getElem? (i := 4) rfl)) (hw _ (List.mem_of_getElem? (i := 3) rfl)) (by decide) (by decide)) (g := (mkF m 9 #[iv p1, iv (6 : Int32), .unset, .unset] [(.int (6 : Int32))])) rfl (by rw [hml]; rfl) (argsL := [(.int (6 : Int32))]) (rest := []) (lenOf pd_0 rfl) rfl (by show 2 * 0 + _ ≤ _; exact Nat.le_of_eq rfl) (hb hby at_9) (fun _ _ => ⟨rfl, e0, (by decide : 0 + 0 ≤ _), (by decide : 0 + 0 ≤ _)⟩)
    dsimp only [Pt.U, Pt.locs, Pt.cells, Pt.slots] at X53 l53 y53 z53 st53 hQ53
    subst l53 y53 z53
    obtain ⟨rfl, Nq53, e53⟩ := hQ53
    have N53 := Fr.app N0 Nq53
    have k54 : Way p e below S0 T53 (mkF m 12 #[iv p1, iv (6 : Int32), .unset, .unset] [(.ref w_ISO639)]) := fun t k => k52 t (st53 _ k)
    have k55 : Way p e below S0 T53 (mkF m 38 #[iv p1, iv (6 : Int32), rv w_ISO639, iv (0 : Int32)] [(.ref w_ISO639)]) := by
      intro t k
      refine k54 t ?_
      refine XS.astoreN X53.here hx rfl (hb hby at_12) rfl rfl (l' := #[iv p1, iv (6 : Int32), rv w_ISO639, .unset]) rfl ?_
      show Steps p.tables e below (T53.setTop (mkF m 13 #[iv p1, iv (6 : Int32), rv w_ISO639, .unset] [])) _
      refine XS.iloadN X53.here hx rfl (hb hby at_13) rfl ?_
      show Steps p.tables e below (T53.setTop (mkF m 14 #[iv p1, iv (6 : Int32), rv w_ISO639, .unset] [(.int (6 : Int32))])) _
      refine XS.bipush X53.here hx rfl (hb hby at_14) ?_
      show Steps p.tables e below (T53.setTop (mkF m 16 #[iv p1, iv (6 : Int32), rv w_ISO639, .unset] [(.int (12 : Int32)), (.int (6 : Int32))])) _
      refine XS.icmpNo X53.here hx rfl (hb hby at_16) rfl (feq ((by decide) : ¬ ((6 : Int32) = (12 : Int32)))).1 ?_
      show Steps p.tables e below (T53.setTop (mkF m 19 #[iv p1, iv (6 : Int32), rv w_ISO639, .unset] [])) _
      refine XS.iloadN X53.here hx rfl (hb hby at_19) rfl ?_
      show Steps p.tables e below (T53.setTop (mkF m 20 #[iv p1, iv (6 : Int32), rv w_ISO639, .unset] [(.int (6 : Int32))])) _
      refine XS.bipush X53.here hx rfl (hb hby at_20) ?_
      show Steps p.tables e below (T53.setTop (mkF m 22 #[iv p1, iv (6 : Int32), rv w_ISO639, .unset] [(.int (13 : Int32)), (.int (6 : Int32))])) _
      refine XS.icmpNo X53.here hx rfl (hb hby at_22) rfl (feq ((by decide) : ¬ ((6 : Int32) = (13 : Int32)))).1 ?_
      show Steps p.tables e below (T53.setTop (mkF m 25 #[iv p1, iv (6 : Int32), rv w_ISO639, .unset] [])) _
      refine XS.iloadN X53.here hx rfl (hb hby at_25) rfl ?_
      show Steps p.tables e below (T53.setTop (mkF m 26 #[iv p1, iv (6 : Int32), rv w_ISO639, .unset] [(.int (6 : Int32))])) _
      refine XS.bipush X53.here hx rfl (hb hby at_26) ?_
      show Steps p.tables e below (T53.setTop (mkF m 28 #[iv p1, iv (6 : Int32), rv w_ISO639, .unset] [(.int (14 : Int32)), (.int (6 : Int32))])) _
      refine XS.icmpYes X53.here hx rfl (pc0 := 28) (pc' := 35) rfl (hb hby at_28) rfl (feq ((by decide) : ¬ ((6 : Int32) = (14 : Int32)))).2 (by decide) (by decide) ?_
      show Steps p.tables e below (T53.setTop (mkF m 35 #[iv p1, iv (6 : Int32), rv w_ISO639, .unset] [])) _
      refine XS.iconst X53.here hx rfl (hb hby at_35) ?_
      show Steps p.tables e below (T53.setTop (mkF m 36 #[iv p1, iv (6 : Int32), rv w_ISO639, .unset] [(.int (0 : Int32))])) _
      refine XS.istoreN X53.here hx rfl (hb hby at_36) rfl (l' := #[iv p1, iv (6 : Int32), rv w_ISO639, iv (0 : Int32)]) rfl ?_
      show Steps p.tables e below (T53.setTop (mkF m 37 #[iv p1, iv (6 : Int32), rv w_ISO639, iv (0 : Int32)] [])) _
      refine XS.aloadN X53.here hx rfl (hb hby at_37) rfl rfl ?_
      show Steps p.tables e below (T53.setTop (mkF m 38 #[iv p1, iv (6 : Int32), rv w_ISO639, iv (0 : Int32)] [(.ref w_ISO639)])) _
      exact k
    obtain ⟨cq56, kq56, qq56a, qq56b, qq56c⟩ := isOf hZ e53 (E_w_ISO639.ext O0.2)
    obtain ⟨_, _, ⟨T56, L56, kk56, nn56⟩, -, X56, ⟨Lc56, hQ56, l56, y56, z56⟩, st56⟩ := X53.virtualBack hx (y := (⟨"gradivo/spec/ValueKind", "takesFormFrom", "()Z"⟩ : MethodName)) (z := (⟨"gradivo/spec/ValueKind", "takesFormFrom", "()Z"⟩ : MethodName)) hown (mvT hZ (hw _ (List.mem_of_getElem? (i := 8) rfl))) (mvT hZ (hw _ (List.mem_of_getElem? (i := 9) rfl))) (notFace_of_selects (args := #[]) (mvT hZ (hw _ (List.mem_of_getElem? (i := 11) rfl)))) (mvT hZ (hw _ (List.mem_of_getElem? (i := 11) rfl))) (mvT hZ (hw _ (List.mem_of_getElem? (i := 10) rfl))) (by decide) (backOf (W := 0) (tff6 l Z a0 hw [] w_TEXT w_COMPOSITE w_CLOSED_LIST w_LISTED w_URI w_ISO3166_1_ALPHA2 w_ISO639 w_ISO15924 w_POSITIVE_NUMBER w_POSITIVE_INTEGER w_NONNEGATIVE_INTEGER w_ISO8601_DATE w_DIGEST w_PER_TIME_STANDARD w_PER_COORDINATE_SYSTEM w_TIME_SPAN G  h0 n0 O0 ) hZ (hw _ (List.mem_of_getElem? (i := 12) rfl)) (hw _ (List.mem_of_getElem? (i := 6) rfl)) (by decide) (by decide)) qq56a qq56c (g := (mkF m 38 #[iv p1, iv (6 : Int32), rv w_ISO639, iv (0 : Int32)] [(.ref w_ISO639)])) rfl (by rw [hml]; rfl) (Steps.refl _) (argsL := []) (rest := []) (lenOf pd_1 rfl) rfl (by show 2 * 0 + _ ≤ _; exact Nat.le_of_eq rfl) (hb hby at_38) (fun _ _ => ⟨rfl, e53, (by decide : 0 + 0 ≤ _), (by decide : 0 + 0 ≤ _)⟩)
    dsimp only [Pt.U, Pt.locs, Pt.cells, Pt.slots] at X56 l56 y56 z56 st56 hQ56
    subst l56 y56 z56
    obtain ⟨rfl, Nq56, e56⟩ := hQ56
    have N56 := Fr.app N53 Nq56
    have k57 : Way p e below S0 T56 (mkF m 41 #[iv p1, iv (6 : Int32), rv w_ISO639, iv (0 : Int32)] [(.int (0 : Int32))]) := fun t k => k55 t (st56.trans k)
    have k58 : Way p e below S0 T56 (mkF m 50 #[iv p1, iv (6 : Int32), rv w_ISO639, iv (0 : Int32)] [(.int (1 : Int32))]) := by
      intro t k
      refine k57 t ?_
      refine XS.iloadN X56.here hx rfl (hb hby at_41) rfl ?_
      show Steps p.tables e below (T56.setTop (mkF m 42 #[iv p1, iv (6 : Int32), rv w_ISO639, iv (0 : Int32)] [(.int (0 : Int32)), (.int (0 : Int32))])) _
      refine XS.icmpNo X56.here hx rfl (hb hby at_42) rfl (teq ((by decide) : (0 : Int32) = (0 : Int32))).2 ?_
      show Steps p.tables e below (T56.setTop (mkF m 45 #[iv p1, iv (6 : Int32), rv w_ISO639, iv (0 : Int32)] [])) _
      refine XS.iconst X56.here hx rfl (hb hby at_45) ?_
      show Steps p.tables e below (T56.setTop (mkF m 46 #[iv p1, iv (6 : Int32), rv w_ISO639, iv (0 : Int32)] [(.int (1 : Int32))])) _
      refine XS.goto X56.here hx rfl (pc0 := 46) (pc' := 50) rfl (hb hby at_46) (by decide) (by decide) ?_
      show Steps p.tables e below (T56.setTop (mkF m 50 #[iv p1, iv (6 : Int32), rv w_ISO639, iv (0 : Int32)] [(.int (1 : Int32))])) _
      exact k
    obtain ⟨fs, hr, hrun, hended, hW, hsame⟩ := X56.leave (v := some (.int (1 : Int32))) (fun h => by rw [Bd.returns] at h; cases h)
    refine ⟨_, _, k58 _ (retN X56 hx (t := .boolean) Bd.returns (by simp) (hb hby at_50) hr), hrun, hended, _, _, rfl, ?_, ⟨_, rfl⟩, hW, hsame.mono (by decide) (by decide)⟩
    show Q_law_met Z w_TEXT w_COMPOSITE w_CLOSED_LIST w_LISTED w_URI w_ISO3166_1_ALPHA2 w_ISO639 w_ISO15924 w_POSITIVE_NUMBER w_POSITIVE_INTEGER w_NONNEGATIVE_INTEGER w_ISO8601_DATE w_DIGEST w_PER_TIME_STANDARD w_PER_COORDINATE_SYSTEM w_TIME_SPAN p1 h0 n0 _ T56.heap _
    rw [e56]
    exact ⟨rfl, N56⟩
  · have k59 : Way p e below S0 s₁ (mkF m 8 #[iv p1, iv (7 : Int32), .unset, .unset] []) := by have q := k1; rw [hi2] at q; exact q
    have k60 : Way p e below S0 s₁ (mkF m 9 #[iv p1, iv (7 : Int32), .unset, .unset] [(.int (7 : Int32))]) := by
      intro t k
      refine k59 t ?_
      refine XS.iloadN X0.here hx rfl (hb hby at_8) rfl ?_
      show Steps p.tables e below (s₁.setTop (mkF m 9 #[iv p1, iv (7 : Int32), .unset, .unset] [(.int (7 : Int32))])) _
      exact k
    obtain ⟨_, _, ⟨T61, L61, kk61, nn61⟩, -, X61, ⟨Lc61, hQ61, l61, y61, z61⟩, st61⟩ := Jvm.LawKit.callS X0 hx (y := (⟨"gradivo/spec/ValueKindTakesFormFromPinLaw", "pick", "(I)Lgradivo/spec/ValueKind;"⟩ : MethodName)) hown (mvT hZ (hw _ (List.mem_of_getElem? (i := 1) rfl))) (mvT hZ (hw _ (List.mem_of_getElem? (i := 2) rfl))) (mvT hZ (hw _ (List.mem_of_getElem? (i := 3) rfl))) (mvT hZ (hw _ (List.mem_of_getElem? (i := 4) rfl))) (by decide) (backOf (W := 0) (pick7 l Z a0 hw [] w_TEXT w_COMPOSITE w_CLOSED_LIST w_LISTED w_URI w_ISO3166_1_ALPHA2 w_ISO639 w_ISO15924 w_POSITIVE_NUMBER w_POSITIVE_INTEGER w_NONNEGATIVE_INTEGER w_ISO8601_DATE w_DIGEST w_PER_TIME_STANDARD w_PER_COORDINATE_SYSTEM w_TIME_SPAN G  h0 n0 O0 ) hZ (hw _ (List.mem_of_getElem? (i := 4) rfl)) (hw _ (List.mem_of_getElem? (i := 3) rfl)) (by decide) (by decide)) (g := (mkF m 9 #[iv p1, iv (7 : Int32), .unset, .unset] [(.int (7 : Int32))])) rfl (by rw [hml]; rfl) (argsL := [(.int (7 : Int32))]) (rest := []) (lenOf pd_0 rfl) rfl (by show 2 * 0 + _ ≤ _; exact Nat.le_of_eq rfl) (hb hby at_9) (fun _ _ => ⟨rfl, e0, (by decide : 0 + 0 ≤ _), (by decide : 0 + 0 ≤ _)⟩)
    dsimp only [Pt.U, Pt.locs, Pt.cells, Pt.slots] at X61 l61 y61 z61 st61 hQ61
    subst l61 y61 z61
    obtain ⟨rfl, Nq61, e61⟩ := hQ61
    have N61 := Fr.app N0 Nq61
    have k62 : Way p e below S0 T61 (mkF m 12 #[iv p1, iv (7 : Int32), .unset, .unset] [(.ref w_ISO15924)]) := fun t k => k60 t (st61 _ k)
    have k63 : Way p e below S0 T61 (mkF m 38 #[iv p1, iv (7 : Int32), rv w_ISO15924, iv (0 : Int32)] [(.ref w_ISO15924)]) := by
      intro t k
      refine k62 t ?_
      refine XS.astoreN X61.here hx rfl (hb hby at_12) rfl rfl (l' := #[iv p1, iv (7 : Int32), rv w_ISO15924, .unset]) rfl ?_
      show Steps p.tables e below (T61.setTop (mkF m 13 #[iv p1, iv (7 : Int32), rv w_ISO15924, .unset] [])) _
      refine XS.iloadN X61.here hx rfl (hb hby at_13) rfl ?_
      show Steps p.tables e below (T61.setTop (mkF m 14 #[iv p1, iv (7 : Int32), rv w_ISO15924, .unset] [(.int (7 : Int32))])) _
      refine XS.bipush X61.here hx rfl (hb hby at_14) ?_
      show Steps p.tables e below (T61.setTop (mkF m 16 #[iv p1, iv (7 : Int32), rv w_ISO15924, .unset] [(.int (12 : Int32)), (.int (7 : Int32))])) _
      refine XS.icmpNo X61.here hx rfl (hb hby at_16) rfl (feq ((by decide) : ¬ ((7 : Int32) = (12 : Int32)))).1 ?_
      show Steps p.tables e below (T61.setTop (mkF m 19 #[iv p1, iv (7 : Int32), rv w_ISO15924, .unset] [])) _
      refine XS.iloadN X61.here hx rfl (hb hby at_19) rfl ?_
      show Steps p.tables e below (T61.setTop (mkF m 20 #[iv p1, iv (7 : Int32), rv w_ISO15924, .unset] [(.int (7 : Int32))])) _
      refine XS.bipush X61.here hx rfl (hb hby at_20) ?_
      show Steps p.tables e below (T61.setTop (mkF m 22 #[iv p1, iv (7 : Int32), rv w_ISO15924, .unset] [(.int (13 : Int32)), (.int (7 : Int32))])) _
      refine XS.icmpNo X61.here hx rfl (hb hby at_22) rfl (feq ((by decide) : ¬ ((7 : Int32) = (13 : Int32)))).1 ?_
      show Steps p.tables e below (T61.setTop (mkF m 25 #[iv p1, iv (7 : Int32), rv w_ISO15924, .unset] [])) _
      refine XS.iloadN X61.here hx rfl (hb hby at_25) rfl ?_
      show Steps p.tables e below (T61.setTop (mkF m 26 #[iv p1, iv (7 : Int32), rv w_ISO15924, .unset] [(.int (7 : Int32))])) _
      refine XS.bipush X61.here hx rfl (hb hby at_26) ?_
      show Steps p.tables e below (T61.setTop (mkF m 28 #[iv p1, iv (7 : Int32), rv w_ISO15924, .unset] [(.int (14 : Int32)), (.int (7 : Int32))])) _
      refine XS.icmpYes X61.here hx rfl (pc0 := 28) (pc' := 35) rfl (hb hby at_28) rfl (feq ((by decide) : ¬ ((7 : Int32) = (14 : Int32)))).2 (by decide) (by decide) ?_
      show Steps p.tables e below (T61.setTop (mkF m 35 #[iv p1, iv (7 : Int32), rv w_ISO15924, .unset] [])) _
      refine XS.iconst X61.here hx rfl (hb hby at_35) ?_
      show Steps p.tables e below (T61.setTop (mkF m 36 #[iv p1, iv (7 : Int32), rv w_ISO15924, .unset] [(.int (0 : Int32))])) _
      refine XS.istoreN X61.here hx rfl (hb hby at_36) rfl (l' := #[iv p1, iv (7 : Int32), rv w_ISO15924, iv (0 : Int32)]) rfl ?_
      show Steps p.tables e below (T61.setTop (mkF m 37 #[iv p1, iv (7 : Int32), rv w_ISO15924, iv (0 : Int32)] [])) _
      refine XS.aloadN X61.here hx rfl (hb hby at_37) rfl rfl ?_
      show Steps p.tables e below (T61.setTop (mkF m 38 #[iv p1, iv (7 : Int32), rv w_ISO15924, iv (0 : Int32)] [(.ref w_ISO15924)])) _
      exact k
    obtain ⟨cq64, kq64, qq64a, qq64b, qq64c⟩ := isOf hZ e61 (E_w_ISO15924.ext O0.2)
    obtain ⟨_, _, ⟨T64, L64, kk64, nn64⟩, -, X64, ⟨Lc64, hQ64, l64, y64, z64⟩, st64⟩ := X61.virtualBack hx (y := (⟨"gradivo/spec/ValueKind", "takesFormFrom", "()Z"⟩ : MethodName)) (z := (⟨"gradivo/spec/ValueKind", "takesFormFrom", "()Z"⟩ : MethodName)) hown (mvT hZ (hw _ (List.mem_of_getElem? (i := 8) rfl))) (mvT hZ (hw _ (List.mem_of_getElem? (i := 9) rfl))) (notFace_of_selects (args := #[]) (mvT hZ (hw _ (List.mem_of_getElem? (i := 11) rfl)))) (mvT hZ (hw _ (List.mem_of_getElem? (i := 11) rfl))) (mvT hZ (hw _ (List.mem_of_getElem? (i := 10) rfl))) (by decide) (backOf (W := 0) (tff7 l Z a0 hw [] w_TEXT w_COMPOSITE w_CLOSED_LIST w_LISTED w_URI w_ISO3166_1_ALPHA2 w_ISO639 w_ISO15924 w_POSITIVE_NUMBER w_POSITIVE_INTEGER w_NONNEGATIVE_INTEGER w_ISO8601_DATE w_DIGEST w_PER_TIME_STANDARD w_PER_COORDINATE_SYSTEM w_TIME_SPAN G  h0 n0 O0 ) hZ (hw _ (List.mem_of_getElem? (i := 12) rfl)) (hw _ (List.mem_of_getElem? (i := 6) rfl)) (by decide) (by decide)) qq64a qq64c (g := (mkF m 38 #[iv p1, iv (7 : Int32), rv w_ISO15924, iv (0 : Int32)] [(.ref w_ISO15924)])) rfl (by rw [hml]; rfl) (Steps.refl _) (argsL := []) (rest := []) (lenOf pd_1 rfl) rfl (by show 2 * 0 + _ ≤ _; exact Nat.le_of_eq rfl) (hb hby at_38) (fun _ _ => ⟨rfl, e61, (by decide : 0 + 0 ≤ _), (by decide : 0 + 0 ≤ _)⟩)
    dsimp only [Pt.U, Pt.locs, Pt.cells, Pt.slots] at X64 l64 y64 z64 st64 hQ64
    subst l64 y64 z64
    obtain ⟨rfl, Nq64, e64⟩ := hQ64
    have N64 := Fr.app N61 Nq64
    have k65 : Way p e below S0 T64 (mkF m 41 #[iv p1, iv (7 : Int32), rv w_ISO15924, iv (0 : Int32)] [(.int (0 : Int32))]) := fun t k => k63 t (st64.trans k)
    have k66 : Way p e below S0 T64 (mkF m 50 #[iv p1, iv (7 : Int32), rv w_ISO15924, iv (0 : Int32)] [(.int (1 : Int32))]) := by
      intro t k
      refine k65 t ?_
      refine XS.iloadN X64.here hx rfl (hb hby at_41) rfl ?_
      show Steps p.tables e below (T64.setTop (mkF m 42 #[iv p1, iv (7 : Int32), rv w_ISO15924, iv (0 : Int32)] [(.int (0 : Int32)), (.int (0 : Int32))])) _
      refine XS.icmpNo X64.here hx rfl (hb hby at_42) rfl (teq ((by decide) : (0 : Int32) = (0 : Int32))).2 ?_
      show Steps p.tables e below (T64.setTop (mkF m 45 #[iv p1, iv (7 : Int32), rv w_ISO15924, iv (0 : Int32)] [])) _
      refine XS.iconst X64.here hx rfl (hb hby at_45) ?_
      show Steps p.tables e below (T64.setTop (mkF m 46 #[iv p1, iv (7 : Int32), rv w_ISO15924, iv (0 : Int32)] [(.int (1 : Int32))])) _
      refine XS.goto X64.here hx rfl (pc0 := 46) (pc' := 50) rfl (hb hby at_46) (by decide) (by decide) ?_
      show Steps p.tables e below (T64.setTop (mkF m 50 #[iv p1, iv (7 : Int32), rv w_ISO15924, iv (0 : Int32)] [(.int (1 : Int32))])) _
      exact k
    obtain ⟨fs, hr, hrun, hended, hW, hsame⟩ := X64.leave (v := some (.int (1 : Int32))) (fun h => by rw [Bd.returns] at h; cases h)
    refine ⟨_, _, k66 _ (retN X64 hx (t := .boolean) Bd.returns (by simp) (hb hby at_50) hr), hrun, hended, _, _, rfl, ?_, ⟨_, rfl⟩, hW, hsame.mono (by decide) (by decide)⟩
    show Q_law_met Z w_TEXT w_COMPOSITE w_CLOSED_LIST w_LISTED w_URI w_ISO3166_1_ALPHA2 w_ISO639 w_ISO15924 w_POSITIVE_NUMBER w_POSITIVE_INTEGER w_NONNEGATIVE_INTEGER w_ISO8601_DATE w_DIGEST w_PER_TIME_STANDARD w_PER_COORDINATE_SYSTEM w_TIME_SPAN p1 h0 n0 _ T64.heap _
    rw [e64]
    exact ⟨rfl, N64⟩
  · have k67 : Way p e below S0 s₁ (mkF m 8 #[iv p1, iv (8 : Int32), .unset, .unset] []) := by have q := k1; rw [hi2] at q; exact q
    have k68 : Way p e below S0 s₁ (mkF m 9 #[iv p1, iv (8 : Int32), .unset, .unset] [(.int (8 : Int32))]) := by
      intro t k
      refine k67 t ?_
      refine XS.iloadN X0.here hx rfl (hb hby at_8) rfl ?_
      show Steps p.tables e below (s₁.setTop (mkF m 9 #[iv p1, iv (8 : Int32), .unset, .unset] [(.int (8 : Int32))])) _
      exact k
    obtain ⟨_, _, ⟨T69, L69, kk69, nn69⟩, -, X69, ⟨Lc69, hQ69, l69, y69, z69⟩, st69⟩ := Jvm.LawKit.callS X0 hx (y := (⟨"gradivo/spec/ValueKindTakesFormFromPinLaw", "pick", "(I)Lgradivo/spec/ValueKind;"⟩ : MethodName)) hown (mvT hZ (hw _ (List.mem_of_getElem? (i := 1) rfl))) (mvT hZ (hw _ (List.mem_of_getElem? (i := 2) rfl))) (mvT hZ (hw _ (List.mem_of_getElem? (i := 3) rfl))) (mvT hZ (hw _ (List.mem_of_getElem? (i := 4) rfl))) (by decide) (backOf (W := 0) (pick8 l Z a0 hw [] w_TEXT w_COMPOSITE w_CLOSED_LIST w_LISTED w_URI w_ISO3166_1_ALPHA2 w_ISO639 w_ISO15924 w_POSITIVE_NUMBER w_POSITIVE_INTEGER w_NONNEGATIVE_INTEGER w_ISO8601_DATE w_DIGEST w_PER_TIME_STANDARD w_PER_COORDINATE_SYSTEM w_TIME_SPAN G  h0 n0 O0 ) hZ (hw _ (List.mem_of_getElem? (i := 4) rfl)) (hw _ (List.mem_of_getElem? (i := 3) rfl)) (by decide) (by decide)) (g := (mkF m 9 #[iv p1, iv (8 : Int32), .unset, .unset] [(.int (8 : Int32))])) rfl (by rw [hml]; rfl) (argsL := [(.int (8 : Int32))]) (rest := []) (lenOf pd_0 rfl) rfl (by show 2 * 0 + _ ≤ _; exact Nat.le_of_eq rfl) (hb hby at_9) (fun _ _ => ⟨rfl, e0, (by decide : 0 + 0 ≤ _), (by decide : 0 + 0 ≤ _)⟩)
    dsimp only [Pt.U, Pt.locs, Pt.cells, Pt.slots] at X69 l69 y69 z69 st69 hQ69
    subst l69 y69 z69
    obtain ⟨rfl, Nq69, e69⟩ := hQ69
    have N69 := Fr.app N0 Nq69
    have k70 : Way p e below S0 T69 (mkF m 12 #[iv p1, iv (8 : Int32), .unset, .unset] [(.ref w_POSITIVE_NUMBER)]) := fun t k => k68 t (st69 _ k)
    have k71 : Way p e below S0 T69 (mkF m 38 #[iv p1, iv (8 : Int32), rv w_POSITIVE_NUMBER, iv (0 : Int32)] [(.ref w_POSITIVE_NUMBER)]) := by
      intro t k
      refine k70 t ?_
      refine XS.astoreN X69.here hx rfl (hb hby at_12) rfl rfl (l' := #[iv p1, iv (8 : Int32), rv w_POSITIVE_NUMBER, .unset]) rfl ?_
      show Steps p.tables e below (T69.setTop (mkF m 13 #[iv p1, iv (8 : Int32), rv w_POSITIVE_NUMBER, .unset] [])) _
      refine XS.iloadN X69.here hx rfl (hb hby at_13) rfl ?_
      show Steps p.tables e below (T69.setTop (mkF m 14 #[iv p1, iv (8 : Int32), rv w_POSITIVE_NUMBER, .unset] [(.int (8 : Int32))])) _
      refine XS.bipush X69.here hx rfl (hb hby at_14) ?_
      show Steps p.tables e below (T69.setTop (mkF m 16 #[iv p1, iv (8 : Int32), rv w_POSITIVE_NUMBER, .unset] [(.int (12 : Int32)), (.int (8 : Int32))])) _
      refine XS.icmpNo X69.here hx rfl (hb hby at_16) rfl (feq ((by decide) : ¬ ((8 : Int32) = (12 : Int32)))).1 ?_
      show Steps p.tables e below (T69.setTop (mkF m 19 #[iv p1, iv (8 : Int32), rv w_POSITIVE_NUMBER, .unset] [])) _
      refine XS.iloadN X69.here hx rfl (hb hby at_19) rfl ?_
      show Steps p.tables e below (T69.setTop (mkF m 20 #[iv p1, iv (8 : Int32), rv w_POSITIVE_NUMBER, .unset] [(.int (8 : Int32))])) _
      refine XS.bipush X69.here hx rfl (hb hby at_20) ?_
      show Steps p.tables e below (T69.setTop (mkF m 22 #[iv p1, iv (8 : Int32), rv w_POSITIVE_NUMBER, .unset] [(.int (13 : Int32)), (.int (8 : Int32))])) _
      refine XS.icmpNo X69.here hx rfl (hb hby at_22) rfl (feq ((by decide) : ¬ ((8 : Int32) = (13 : Int32)))).1 ?_
      show Steps p.tables e below (T69.setTop (mkF m 25 #[iv p1, iv (8 : Int32), rv w_POSITIVE_NUMBER, .unset] [])) _
      refine XS.iloadN X69.here hx rfl (hb hby at_25) rfl ?_
      show Steps p.tables e below (T69.setTop (mkF m 26 #[iv p1, iv (8 : Int32), rv w_POSITIVE_NUMBER, .unset] [(.int (8 : Int32))])) _
      refine XS.bipush X69.here hx rfl (hb hby at_26) ?_
      show Steps p.tables e below (T69.setTop (mkF m 28 #[iv p1, iv (8 : Int32), rv w_POSITIVE_NUMBER, .unset] [(.int (14 : Int32)), (.int (8 : Int32))])) _
      refine XS.icmpYes X69.here hx rfl (pc0 := 28) (pc' := 35) rfl (hb hby at_28) rfl (feq ((by decide) : ¬ ((8 : Int32) = (14 : Int32)))).2 (by decide) (by decide) ?_
      show Steps p.tables e below (T69.setTop (mkF m 35 #[iv p1, iv (8 : Int32), rv w_POSITIVE_NUMBER, .unset] [])) _
      refine XS.iconst X69.here hx rfl (hb hby at_35) ?_
      show Steps p.tables e below (T69.setTop (mkF m 36 #[iv p1, iv (8 : Int32), rv w_POSITIVE_NUMBER, .unset] [(.int (0 : Int32))])) _
      refine XS.istoreN X69.here hx rfl (hb hby at_36) rfl (l' := #[iv p1, iv (8 : Int32), rv w_POSITIVE_NUMBER, iv (0 : Int32)]) rfl ?_
      show Steps p.tables e below (T69.setTop (mkF m 37 #[iv p1, iv (8 : Int32), rv w_POSITIVE_NUMBER, iv (0 : Int32)] [])) _
      refine XS.aloadN X69.here hx rfl (hb hby at_37) rfl rfl ?_
      show Steps p.tables e below (T69.setTop (mkF m 38 #[iv p1, iv (8 : Int32), rv w_POSITIVE_NUMBER, iv (0 : Int32)] [(.ref w_POSITIVE_NUMBER)])) _
      exact k
    obtain ⟨cq72, kq72, qq72a, qq72b, qq72c⟩ := isOf hZ e69 (E_w_POSITIVE_NUMBER.ext O0.2)
    obtain ⟨_, _, ⟨T72, L72, kk72, nn72⟩, -, X72, ⟨Lc72, hQ72, l72, y72, z72⟩, st72⟩ := X69.virtualBack hx (y := (⟨"gradivo/spec/ValueKind", "takesFormFrom", "()Z"⟩ : MethodName)) (z := (⟨"gradivo/spec/ValueKind", "takesFormFrom", "()Z"⟩ : MethodName)) hown (mvT hZ (hw _ (List.mem_of_getElem? (i := 8) rfl))) (mvT hZ (hw _ (List.mem_of_getElem? (i := 9) rfl))) (notFace_of_selects (args := #[]) (mvT hZ (hw _ (List.mem_of_getElem? (i := 11) rfl)))) (mvT hZ (hw _ (List.mem_of_getElem? (i := 11) rfl))) (mvT hZ (hw _ (List.mem_of_getElem? (i := 10) rfl))) (by decide) (backOf (W := 0) (tff8 l Z a0 hw [] w_TEXT w_COMPOSITE w_CLOSED_LIST w_LISTED w_URI w_ISO3166_1_ALPHA2 w_ISO639 w_ISO15924 w_POSITIVE_NUMBER w_POSITIVE_INTEGER w_NONNEGATIVE_INTEGER w_ISO8601_DATE w_DIGEST w_PER_TIME_STANDARD w_PER_COORDINATE_SYSTEM w_TIME_SPAN G  h0 n0 O0 ) hZ (hw _ (List.mem_of_getElem? (i := 12) rfl)) (hw _ (List.mem_of_getElem? (i := 6) rfl)) (by decide) (by decide)) qq72a qq72c (g := (mkF m 38 #[iv p1, iv (8 : Int32), rv w_POSITIVE_NUMBER, iv (0 : Int32)] [(.ref w_POSITIVE_NUMBER)])) rfl (by rw [hml]; rfl) (Steps.refl _) (argsL := []) (rest := []) (lenOf pd_1 rfl) rfl (by show 2 * 0 + _ ≤ _; exact Nat.le_of_eq rfl) (hb hby at_38) (fun _ _ => ⟨rfl, e69, (by decide : 0 + 0 ≤ _), (by decide : 0 + 0 ≤ _)⟩)
    dsimp only [Pt.U, Pt.locs, Pt.cells, Pt.slots] at X72 l72 y72 z72 st72 hQ72
    subst l72 y72 z72
    obtain ⟨rfl, Nq72, e72⟩ := hQ72
    have N72 := Fr.app N69 Nq72
    have k73 : Way p e below S0 T72 (mkF m 41 #[iv p1, iv (8 : Int32), rv w_POSITIVE_NUMBER, iv (0 : Int32)] [(.int (0 : Int32))]) := fun t k => k71 t (st72.trans k)
    have k74 : Way p e below S0 T72 (mkF m 50 #[iv p1, iv (8 : Int32), rv w_POSITIVE_NUMBER, iv (0 : Int32)] [(.int (1 : Int32))]) := by
      intro t k
      refine k73 t ?_
      refine XS.iloadN X72.here hx rfl (hb hby at_41) rfl ?_
      show Steps p.tables e below (T72.setTop (mkF m 42 #[iv p1, iv (8 : Int32), rv w_POSITIVE_NUMBER, iv (0 : Int32)] [(.int (0 : Int32)), (.int (0 : Int32))])) _
      refine XS.icmpNo X72.here hx rfl (hb hby at_42) rfl (teq ((by decide) : (0 : Int32) = (0 : Int32))).2 ?_
      show Steps p.tables e below (T72.setTop (mkF m 45 #[iv p1, iv (8 : Int32), rv w_POSITIVE_NUMBER, iv (0 : Int32)] [])) _
      refine XS.iconst X72.here hx rfl (hb hby at_45) ?_
      show Steps p.tables e below (T72.setTop (mkF m 46 #[iv p1, iv (8 : Int32), rv w_POSITIVE_NUMBER, iv (0 : Int32)] [(.int (1 : Int32))])) _
      refine XS.goto X72.here hx rfl (pc0 := 46) (pc' := 50) rfl (hb hby at_46) (by decide) (by decide) ?_
      show Steps p.tables e below (T72.setTop (mkF m 50 #[iv p1, iv (8 : Int32), rv w_POSITIVE_NUMBER, iv (0 : Int32)] [(.int (1 : Int32))])) _
      exact k
    obtain ⟨fs, hr, hrun, hended, hW, hsame⟩ := X72.leave (v := some (.int (1 : Int32))) (fun h => by rw [Bd.returns] at h; cases h)
    refine ⟨_, _, k74 _ (retN X72 hx (t := .boolean) Bd.returns (by simp) (hb hby at_50) hr), hrun, hended, _, _, rfl, ?_, ⟨_, rfl⟩, hW, hsame.mono (by decide) (by decide)⟩
    show Q_law_met Z w_TEXT w_COMPOSITE w_CLOSED_LIST w_LISTED w_URI w_ISO3166_1_ALPHA2 w_ISO639 w_ISO15924 w_POSITIVE_NUMBER w_POSITIVE_INTEGER w_NONNEGATIVE_INTEGER w_ISO8601_DATE w_DIGEST w_PER_TIME_STANDARD w_PER_COORDINATE_SYSTEM w_TIME_SPAN p1 h0 n0 _ T72.heap _
    rw [e72]
    exact ⟨rfl, N72⟩
  · have k75 : Way p e below S0 s₁ (mkF m 8 #[iv p1, iv (9 : Int32), .unset, .unset] []) := by have q := k1; rw [hi2] at q; exact q
    have k76 : Way p e below S0 s₁ (mkF m 9 #[iv p1, iv (9 : Int32), .unset, .unset] [(.int (9 : Int32))]) := by
      intro t k
      refine k75 t ?_
      refine XS.iloadN X0.here hx rfl (hb hby at_8) rfl ?_
      show Steps p.tables e below (s₁.setTop (mkF m 9 #[iv p1, iv (9 : Int32), .unset, .unset] [(.int (9 : Int32))])) _
      exact k
    obtain ⟨_, _, ⟨T77, L77, kk77, nn77⟩, -, X77, ⟨Lc77, hQ77, l77, y77, z77⟩, st77⟩ := Jvm.LawKit.callS X0 hx (y := (⟨"gradivo/spec/ValueKindTakesFormFromPinLaw", "pick", "(I)Lgradivo/spec/ValueKind;"⟩ : MethodName)) hown (mvT hZ (hw _ (List.mem_of_getElem? (i := 1) rfl))) (mvT hZ (hw _ (List.mem_of_getElem? (i := 2) rfl))) (mvT hZ (hw _ (List.mem_of_getElem? (i := 3) rfl))) (mvT hZ (hw _ (List.mem_of_getElem? (i := 4) rfl))) (by decide) (backOf (W := 0) (pick9 l Z a0 hw [] w_TEXT w_COMPOSITE w_CLOSED_LIST w_LISTED w_URI w_ISO3166_1_ALPHA2 w_ISO639 w_ISO15924 w_POSITIVE_NUMBER w_POSITIVE_INTEGER w_NONNEGATIVE_INTEGER w_ISO8601_DATE w_DIGEST w_PER_TIME_STANDARD w_PER_COORDINATE_SYSTEM w_TIME_SPAN G  h0 n0 O0 ) hZ (hw _ (List.mem_of_getElem? (i := 4) rfl)) (hw _ (List.mem_of_getElem? (i := 3) rfl)) (by decide) (by decide)) (g := (mkF m 9 #[iv p1, iv (9 : Int32), .unset, .unset] [(.int (9 : Int32))])) rfl (by rw [hml]; rfl) (argsL := [(.int (9 : Int32))]) (rest := []) (lenOf pd_0 rfl) rfl (by show 2 * 0 + _ ≤ _; exact Nat.le_of_eq rfl) (hb hby at_9) (fun _ _ => ⟨rfl, e0, (by decide : 0 + 0 ≤ _), (by decide : 0 + 0 ≤ _)⟩)
    dsimp only [Pt.U, Pt.locs, Pt.cells, Pt.slots] at X77 l77 y77 z77 st77 hQ77
    subst l77 y77 z77
    obtain ⟨rfl, Nq77, e77⟩ := hQ77
    have N77 := Fr.app N0 Nq77
    have k78 : Way p e below S0 T77 (mkF m 12 #[iv p1, iv (9 : Int32), .unset, .unset] [(.ref w_POSITIVE_INTEGER)]) := fun t k => k76 t (st77 _ k)
    have k79 : Way p e below S0 T77 (mkF m 38 #[iv p1, iv (9 : Int32), rv w_POSITIVE_INTEGER, iv (0 : Int32)] [(.ref w_POSITIVE_INTEGER)]) := by
      intro t k
      refine k78 t ?_
      refine XS.astoreN X77.here hx rfl (hb hby at_12) rfl rfl (l' := #[iv p1, iv (9 : Int32), rv w_POSITIVE_INTEGER, .unset]) rfl ?_
      show Steps p.tables e below (T77.setTop (mkF m 13 #[iv p1, iv (9 : Int32), rv w_POSITIVE_INTEGER, .unset] [])) _
      refine XS.iloadN X77.here hx rfl (hb hby at_13) rfl ?_
      show Steps p.tables e below (T77.setTop (mkF m 14 #[iv p1, iv (9 : Int32), rv w_POSITIVE_INTEGER, .unset] [(.int (9 : Int32))])) _
      refine XS.bipush X77.here hx rfl (hb hby at_14) ?_
      show Steps p.tables e below (T77.setTop (mkF m 16 #[iv p1, iv (9 : Int32), rv w_POSITIVE_INTEGER, .unset] [(.int (12 : Int32)), (.int (9 : Int32))])) _
      refine XS.icmpNo X77.here hx rfl (hb hby at_16) rfl (feq ((by decide) : ¬ ((9 : Int32) = (12 : Int32)))).1 ?_
      show Steps p.tables e below (T77.setTop (mkF m 19 #[iv p1, iv (9 : Int32), rv w_POSITIVE_INTEGER, .unset] [])) _
      refine XS.iloadN X77.here hx rfl (hb hby at_19) rfl ?_
      show Steps p.tables e below (T77.setTop (mkF m 20 #[iv p1, iv (9 : Int32), rv w_POSITIVE_INTEGER, .unset] [(.int (9 : Int32))])) _
      refine XS.bipush X77.here hx rfl (hb hby at_20) ?_
      show Steps p.tables e below (T77.setTop (mkF m 22 #[iv p1, iv (9 : Int32), rv w_POSITIVE_INTEGER, .unset] [(.int (13 : Int32)), (.int (9 : Int32))])) _
      refine XS.icmpNo X77.here hx rfl (hb hby at_22) rfl (feq ((by decide) : ¬ ((9 : Int32) = (13 : Int32)))).1 ?_
      show Steps p.tables e below (T77.setTop (mkF m 25 #[iv p1, iv (9 : Int32), rv w_POSITIVE_INTEGER, .unset] [])) _
      refine XS.iloadN X77.here hx rfl (hb hby at_25) rfl ?_
      show Steps p.tables e below (T77.setTop (mkF m 26 #[iv p1, iv (9 : Int32), rv w_POSITIVE_INTEGER, .unset] [(.int (9 : Int32))])) _
      refine XS.bipush X77.here hx rfl (hb hby at_26) ?_
      show Steps p.tables e below (T77.setTop (mkF m 28 #[iv p1, iv (9 : Int32), rv w_POSITIVE_INTEGER, .unset] [(.int (14 : Int32)), (.int (9 : Int32))])) _
      refine XS.icmpYes X77.here hx rfl (pc0 := 28) (pc' := 35) rfl (hb hby at_28) rfl (feq ((by decide) : ¬ ((9 : Int32) = (14 : Int32)))).2 (by decide) (by decide) ?_
      show Steps p.tables e below (T77.setTop (mkF m 35 #[iv p1, iv (9 : Int32), rv w_POSITIVE_INTEGER, .unset] [])) _
      refine XS.iconst X77.here hx rfl (hb hby at_35) ?_
      show Steps p.tables e below (T77.setTop (mkF m 36 #[iv p1, iv (9 : Int32), rv w_POSITIVE_INTEGER, .unset] [(.int (0 : Int32))])) _
      refine XS.istoreN X77.here hx rfl (hb hby at_36) rfl (l' := #[iv p1, iv (9 : Int32), rv w_POSITIVE_INTEGER, iv (0 : Int32)]) rfl ?_
      show Steps p.tables e below (T77.setTop (mkF m 37 #[iv p1, iv (9 : Int32), rv w_POSITIVE_INTEGER, iv (0 : Int32)] [])) _
      refine XS.aloadN X77.here hx rfl (hb hby at_37) rfl rfl ?_
      show Steps p.tables e below (T77.setTop (mkF m 38 #[iv p1, iv (9 : Int32), rv w_POSITIVE_INTEGER, iv (0 : Int32)] [(.ref w_POSITIVE_INTEGER)])) _
      exact k
    obtain ⟨cq80, kq80, qq80a, qq80b, qq80c⟩ := isOf hZ e77 (E_w_POSITIVE_INTEGER.ext O0.2)
    obtain ⟨_, _, ⟨T80, L80, kk80, nn80⟩, -, X80, ⟨Lc80, hQ80, l80, y80, z80⟩, st80⟩ := X77.virtualBack hx (y := (⟨"gradivo/spec/ValueKind", "takesFormFrom", "()Z"⟩ : MethodName)) (z := (⟨"gradivo/spec/ValueKind", "takesFormFrom", "()Z"⟩ : MethodName)) hown (mvT hZ (hw _ (List.mem_of_getElem? (i := 8) rfl))) (mvT hZ (hw _ (List.mem_of_getElem? (i := 9) rfl))) (notFace_of_selects (args := #[]) (mvT hZ (hw _ (List.mem_of_getElem? (i := 11) rfl)))) (mvT hZ (hw _ (List.mem_of_getElem? (i := 11) rfl))) (mvT hZ (hw _ (List.mem_of_getElem? (i := 10) rfl))) (by decide) (backOf (W := 0) (tff9 l Z a0 hw [] w_TEXT w_COMPOSITE w_CLOSED_LIST w_LISTED w_URI w_ISO3166_1_ALPHA2 w_ISO639 w_ISO15924 w_POSITIVE_NUMBER w_POSITIVE_INTEGER w_NONNEGATIVE_INTEGER w_ISO8601_DATE w_DIGEST w_PER_TIME_STANDARD w_PER_COORDINATE_SYSTEM w_TIME_SPAN G  h0 n0 O0 ) hZ (hw _ (List.mem_of_getElem? (i := 12) rfl)) (hw _ (List.mem_of_getElem? (i := 6) rfl)) (by decide) (by decide)) qq80a qq80c (g := (mkF m 38 #[iv p1, iv (9 : Int32), rv w_POSITIVE_INTEGER, iv (0 : Int32)] [(.ref w_POSITIVE_INTEGER)])) rfl (by rw [hml]; rfl) (Steps.refl _) (argsL := []) (rest := []) (lenOf pd_1 rfl) rfl (by show 2 * 0 + _ ≤ _; exact Nat.le_of_eq rfl) (hb hby at_38) (fun _ _ => ⟨rfl, e77, (by decide : 0 + 0 ≤ _), (by decide : 0 + 0 ≤ _)⟩)
    dsimp only [Pt.U, Pt.locs, Pt.cells, Pt.slots] at X80 l80 y80 z80 st80 hQ80
    subst l80 y80 z80
    obtain ⟨rfl, Nq80, e80⟩ := hQ80
    have N80 := Fr.app N77 Nq80
    have k81 : Way p e below S0 T80 (mkF m 41 #[iv p1, iv (9 : Int32), rv w_POSITIVE_INTEGER, iv (0 : Int32)] [(.int (0 : Int32))]) := fun t k => k79 t (st80.trans k)
    have k82 : Way p e below S0 T80 (mkF m 50 #[iv p1, iv (9 : Int32), rv w_POSITIVE_INTEGER, iv (0 : Int32)] [(.int (1 : Int32))]) := by
      intro t k
      refine k81 t ?_
      refine XS.iloadN X80.here hx rfl (hb hby at_41) rfl ?_
      show Steps p.tables e below (T80.setTop (mkF m 42 #[iv p1, iv (9 : Int32), rv w_POSITIVE_INTEGER, iv (0 : Int32)] [(.int (0 : Int32)), (.int (0 : Int32))])) _
      refine XS.icmpNo X80.here hx rfl (hb hby at_42) rfl (teq ((by decide) : (0 : Int32) = (0 : Int32))).2 ?_
      show Steps p.tables e below (T80.setTop (mkF m 45 #[iv p1, iv (9 : Int32), rv w_POSITIVE_INTEGER, iv (0 : Int32)] [])) _
      refine XS.iconst X80.here hx rfl (hb hby at_45) ?_
      show Steps p.tables e below (T80.setTop (mkF m 46 #[iv p1, iv (9 : Int32), rv w_POSITIVE_INTEGER, iv (0 : Int32)] [(.int (1 : Int32))])) _
      refine XS.goto X80.here hx rfl (pc0 := 46) (pc' := 50) rfl (hb hby at_46) (by decide) (by decide) ?_
      show Steps p.tables e below (T80.setTop (mkF m 50 #[iv p1, iv (9 : Int32), rv w_POSITIVE_INTEGER, iv (0 : Int32)] [(.int (1 : Int32))])) _
      exact k
    obtain ⟨fs, hr, hrun, hended, hW, hsame⟩ := X80.leave (v := some (.int (1 : Int32))) (fun h => by rw [Bd.returns] at h; cases h)
    refine ⟨_, _, k82 _ (retN X80 hx (t := .boolean) Bd.returns (by simp) (hb hby at_50) hr), hrun, hended, _, _, rfl, ?_, ⟨_, rfl⟩, hW, hsame.mono (by decide) (by decide)⟩
    show Q_law_met Z w_TEXT w_COMPOSITE w_CLOSED_LIST w_LISTED w_URI w_ISO3166_1_ALPHA2 w_ISO639 w_ISO15924 w_POSITIVE_NUMBER w_POSITIVE_INTEGER w_NONNEGATIVE_INTEGER w_ISO8601_DATE w_DIGEST w_PER_TIME_STANDARD w_PER_COORDINATE_SYSTEM w_TIME_SPAN p1 h0 n0 _ T80.heap _
    rw [e80]
    exact ⟨rfl, N80⟩
  · have k83 : Way p e below S0 s₁ (mkF m 8 #[iv p1, iv (10 : Int32), .unset, .unset] []) := by have q := k1; rw [hi2] at q; exact q
    have k84 : Way p e below S0 s₁ (mkF m 9 #[iv p1, iv (10 : Int32), .unset, .unset] [(.int (10 : Int32))]) := by
      intro t k
      refine k83 t ?_
      refine XS.iloadN X0.here hx rfl (hb hby at_8) rfl ?_
      show Steps p.tables e below (s₁.setTop (mkF m 9 #[iv p1, iv (10 : Int32), .unset, .unset] [(.int (10 : Int32))])) _
      exact k
    obtain ⟨_, _, ⟨T85, L85, kk85, nn85⟩, -, X85, ⟨Lc85, hQ85, l85, y85, z85⟩, st85⟩ := Jvm.LawKit.callS X0 hx (y := (⟨"gradivo/spec/ValueKindTakesFormFromPinLaw", "pick", "(I)Lgradivo/spec/ValueKind;"⟩ : MethodName)) hown (mvT hZ (hw _ (List.mem_of_getElem? (i := 1) rfl))) (mvT hZ (hw _ (List.mem_of_getElem? (i := 2) rfl))) (mvT hZ (hw _ (List.mem_of_getElem? (i := 3) rfl))) (mvT hZ (hw _ (List.mem_of_getElem? (i := 4) rfl))) (by decide) (backOf (W := 0) (pick10 l Z a0 hw [] w_TEXT w_COMPOSITE w_CLOSED_LIST w_LISTED w_URI w_ISO3166_1_ALPHA2 w_ISO639 w_ISO15924 w_POSITIVE_NUMBER w_POSITIVE_INTEGER w_NONNEGATIVE_INTEGER w_ISO8601_DATE w_DIGEST w_PER_TIME_STANDARD w_PER_COORDINATE_SYSTEM w_TIME_SPAN G  h0 n0 O0 ) hZ (hw _ (List.mem_of_getElem? (i := 4) rfl)) (hw _ (List.mem_of_getElem? (i := 3) rfl)) (by decide) (by decide)) (g := (mkF m 9 #[iv p1, iv (10 : Int32), .unset, .unset] [(.int (10 : Int32))])) rfl (by rw [hml]; rfl) (argsL := [(.int (10 : Int32))]) (rest := []) (lenOf pd_0 rfl) rfl (by show 2 * 0 + _ ≤ _; exact Nat.le_of_eq rfl) (hb hby at_9) (fun _ _ => ⟨rfl, e0, (by decide : 0 + 0 ≤ _), (by decide : 0 + 0 ≤ _)⟩)
    dsimp only [Pt.U, Pt.locs, Pt.cells, Pt.slots] at X85 l85 y85 z85 st85 hQ85
    subst l85 y85 z85
    obtain ⟨rfl, Nq85, e85⟩ := hQ85
    have N85 := Fr.app N0 Nq85
    have k86 : Way p e below S0 T85 (mkF m 12 #[iv p1, iv (10 : Int32), .unset, .unset] [(.ref w_NONNEGATIVE_INTEGER)]) := fun t k => k84 t (st85 _ k)
    have k87 : Way p e below S0 T85 (mkF m 38 #[iv p1, iv (10 : Int32), rv w_NONNEGATIVE_INTEGER, iv (0 : Int32)] [(.ref w_NONNEGATIVE_INTEGER)]) := by
      intro t k
      refine k86 t ?_
      refine XS.astoreN X85.here hx rfl (hb hby at_12) rfl rfl (l' := #[iv p1, iv (10 : Int32), rv w_NONNEGATIVE_INTEGER, .unset]) rfl ?_
      show Steps p.tables e below (T85.setTop (mkF m 13 #[iv p1, iv (10 : Int32), rv w_NONNEGATIVE_INTEGER, .unset] [])) _
      refine XS.iloadN X85.here hx rfl (hb hby at_13) rfl ?_
      show Steps p.tables e below (T85.setTop (mkF m 14 #[iv p1, iv (10 : Int32), rv w_NONNEGATIVE_INTEGER, .unset] [(.int (10 : Int32))])) _
      refine XS.bipush X85.here hx rfl (hb hby at_14) ?_
      show Steps p.tables e below (T85.setTop (mkF m 16 #[iv p1, iv (10 : Int32), rv w_NONNEGATIVE_INTEGER, .unset] [(.int (12 : Int32)), (.int (10 : Int32))])) _
      refine XS.icmpNo X85.here hx rfl (hb hby at_16) rfl (feq ((by decide) : ¬ ((10 : Int32) = (12 : Int32)))).1 ?_
      show Steps p.tables e below (T85.setTop (mkF m 19 #[iv p1, iv (10 : Int32), rv w_NONNEGATIVE_INTEGER, .unset] [])) _
      refine XS.iloadN X85.here hx rfl (hb hby at_19) rfl ?_
      show Steps p.tables e below (T85.setTop (mkF m 20 #[iv p1, iv (10 : Int32), rv w_NONNEGATIVE_INTEGER, .unset] [(.int (10 : Int32))])) _
      refine XS.bipush X85.here hx rfl (hb hby at_20) ?_
      show Steps p.tables e below (T85.setTop (mkF m 22 #[iv p1, iv (10 : Int32), rv w_NONNEGATIVE_INTEGER, .unset] [(.int (13 : Int32)), (.int (10 : Int32))])) _
      refine XS.icmpNo X85.here hx rfl (hb hby at_22) rfl (feq ((by decide) : ¬ ((10 : Int32) = (13 : Int32)))).1 ?_
      show Steps p.tables e below (T85.setTop (mkF m 25 #[iv p1, iv (10 : Int32), rv w_NONNEGATIVE_INTEGER, .unset] [])) _
      refine XS.iloadN X85.here hx rfl (hb hby at_25) rfl ?_
      show Steps p.tables e below (T85.setTop (mkF m 26 #[iv p1, iv (10 : Int32), rv w_NONNEGATIVE_INTEGER, .unset] [(.int (10 : Int32))])) _
      refine XS.bipush X85.here hx rfl (hb hby at_26) ?_
      show Steps p.tables e below (T85.setTop (mkF m 28 #[iv p1, iv (10 : Int32), rv w_NONNEGATIVE_INTEGER, .unset] [(.int (14 : Int32)), (.int (10 : Int32))])) _
      refine XS.icmpYes X85.here hx rfl (pc0 := 28) (pc' := 35) rfl (hb hby at_28) rfl (feq ((by decide) : ¬ ((10 : Int32) = (14 : Int32)))).2 (by decide) (by decide) ?_
      show Steps p.tables e below (T85.setTop (mkF m 35 #[iv p1, iv (10 : Int32), rv w_NONNEGATIVE_INTEGER, .unset] [])) _
      refine XS.iconst X85.here hx rfl (hb hby at_35) ?_
      show Steps p.tables e below (T85.setTop (mkF m 36 #[iv p1, iv (10 : Int32), rv w_NONNEGATIVE_INTEGER, .unset] [(.int (0 : Int32))])) _
      refine XS.istoreN X85.here hx rfl (hb hby at_36) rfl (l' := #[iv p1, iv (10 : Int32), rv w_NONNEGATIVE_INTEGER, iv (0 : Int32)]) rfl ?_
      show Steps p.tables e below (T85.setTop (mkF m 37 #[iv p1, iv (10 : Int32), rv w_NONNEGATIVE_INTEGER, iv (0 : Int32)] [])) _
      refine XS.aloadN X85.here hx rfl (hb hby at_37) rfl rfl ?_
      show Steps p.tables e below (T85.setTop (mkF m 38 #[iv p1, iv (10 : Int32), rv w_NONNEGATIVE_INTEGER, iv (0 : Int32)] [(.ref w_NONNEGATIVE_INTEGER)])) _
      exact k
    obtain ⟨cq88, kq88, qq88a, qq88b, qq88c⟩ := isOf hZ e85 (E_w_NONNEGATIVE_INTEGER.ext O0.2)
    obtain ⟨_, _, ⟨T88, L88, kk88, nn88⟩, -, X88, ⟨Lc88, hQ88, l88, y88, z88⟩, st88⟩ := X85.virtualBack hx (y := (⟨"gradivo/spec/ValueKind", "takesFormFrom", "()Z"⟩ : MethodName)) (z := (⟨"gradivo/spec/ValueKind", "takesFormFrom", "()Z"⟩ : MethodName)) hown (mvT hZ (hw _ (List.mem_of_getElem? (i := 8) rfl))) (mvT hZ (hw _ (List.mem_of_getElem? (i := 9) rfl))) (notFace_of_selects (args := #[]) (mvT hZ (hw _ (List.mem_of_getElem? (i := 11) rfl)))) (mvT hZ (hw _ (List.mem_of_getElem? (i := 11) rfl))) (mvT hZ (hw _ (List.mem_of_getElem? (i := 10) rfl))) (by decide) (backOf (W := 0) (tff10 l Z a0 hw [] w_TEXT w_COMPOSITE w_CLOSED_LIST w_LISTED w_URI w_ISO3166_1_ALPHA2 w_ISO639 w_ISO15924 w_POSITIVE_NUMBER w_POSITIVE_INTEGER w_NONNEGATIVE_INTEGER w_ISO8601_DATE w_DIGEST w_PER_TIME_STANDARD w_PER_COORDINATE_SYSTEM w_TIME_SPAN G  h0 n0 O0 ) hZ (hw _ (List.mem_of_getElem? (i := 12) rfl)) (hw _ (List.mem_of_getElem? (i := 6) rfl)) (by decide) (by decide)) qq88a qq88c (g := (mkF m 38 #[iv p1, iv (10 : Int32), rv w_NONNEGATIVE_INTEGER, iv (0 : Int32)] [(.ref w_NONNEGATIVE_INTEGER)])) rfl (by rw [hml]; rfl) (Steps.refl _) (argsL := []) (rest := []) (lenOf pd_1 rfl) rfl (by show 2 * 0 + _ ≤ _; exact Nat.le_of_eq rfl) (hb hby at_38) (fun _ _ => ⟨rfl, e85, (by decide : 0 + 0 ≤ _), (by decide : 0 + 0 ≤ _)⟩)
    dsimp only [Pt.U, Pt.locs, Pt.cells, Pt.slots] at X88 l88 y88 z88 st88 hQ88
    subst l88 y88 z88
    obtain ⟨rfl, Nq88, e88⟩ := hQ88
    have N88 := Fr.app N85 Nq88
    have k89 : Way p e below S0 T88 (mkF m 41 #[iv p1, iv (10 : Int32), rv w_NONNEGATIVE_INTEGER, iv (0 : Int32)] [(.int (0 : Int32))]) := fun t k => k87 t (st88.trans k)
    have k90 : Way p e below S0 T88 (mkF m 50 #[iv p1, iv (10 : Int32), rv w_NONNEGATIVE_INTEGER, iv (0 : Int32)] [(.int (1 : Int32))]) := by
      intro t k
      refine k89 t ?_
      refine XS.iloadN X88.here hx rfl (hb hby at_41) rfl ?_
      show Steps p.tables e below (T88.setTop (mkF m 42 #[iv p1, iv (10 : Int32), rv w_NONNEGATIVE_INTEGER, iv (0 : Int32)] [(.int (0 : Int32)), (.int (0 : Int32))])) _
      refine XS.icmpNo X88.here hx rfl (hb hby at_42) rfl (teq ((by decide) : (0 : Int32) = (0 : Int32))).2 ?_
      show Steps p.tables e below (T88.setTop (mkF m 45 #[iv p1, iv (10 : Int32), rv w_NONNEGATIVE_INTEGER, iv (0 : Int32)] [])) _
      refine XS.iconst X88.here hx rfl (hb hby at_45) ?_
      show Steps p.tables e below (T88.setTop (mkF m 46 #[iv p1, iv (10 : Int32), rv w_NONNEGATIVE_INTEGER, iv (0 : Int32)] [(.int (1 : Int32))])) _
      refine XS.goto X88.here hx rfl (pc0 := 46) (pc' := 50) rfl (hb hby at_46) (by decide) (by decide) ?_
      show Steps p.tables e below (T88.setTop (mkF m 50 #[iv p1, iv (10 : Int32), rv w_NONNEGATIVE_INTEGER, iv (0 : Int32)] [(.int (1 : Int32))])) _
      exact k
    obtain ⟨fs, hr, hrun, hended, hW, hsame⟩ := X88.leave (v := some (.int (1 : Int32))) (fun h => by rw [Bd.returns] at h; cases h)
    refine ⟨_, _, k90 _ (retN X88 hx (t := .boolean) Bd.returns (by simp) (hb hby at_50) hr), hrun, hended, _, _, rfl, ?_, ⟨_, rfl⟩, hW, hsame.mono (by decide) (by decide)⟩
    show Q_law_met Z w_TEXT w_COMPOSITE w_CLOSED_LIST w_LISTED w_URI w_ISO3166_1_ALPHA2 w_ISO639 w_ISO15924 w_POSITIVE_NUMBER w_POSITIVE_INTEGER w_NONNEGATIVE_INTEGER w_ISO8601_DATE w_DIGEST w_PER_TIME_STANDARD w_PER_COORDINATE_SYSTEM w_TIME_SPAN p1 h0 n0 _ T88.heap _
    rw [e88]
    exact ⟨rfl, N88⟩
  · have k91 : Way p e below S0 s₁ (mkF m 8 #[iv p1, iv (11 : Int32), .unset, .unset] []) := by have q := k1; rw [hi2] at q; exact q
    have k92 : Way p e below S0 s₁ (mkF m 9 #[iv p1, iv (11 : Int32), .unset, .unset] [(.int (11 : Int32))]) := by
      intro t k
      refine k91 t ?_
      refine XS.iloadN X0.here hx rfl (hb hby at_8) rfl ?_
      show Steps p.tables e below (s₁.setTop (mkF m 9 #[iv p1, iv (11 : Int32), .unset, .unset] [(.int (11 : Int32))])) _
      exact k
    obtain ⟨_, _, ⟨T93, L93, kk93, nn93⟩, -, X93, ⟨Lc93, hQ93, l93, y93, z93⟩, st93⟩ := Jvm.LawKit.callS X0 hx (y := (⟨"gradivo/spec/ValueKindTakesFormFromPinLaw", "pick", "(I)Lgradivo/spec/ValueKind;"⟩ : MethodName)) hown (mvT hZ (hw _ (List.mem_of_getElem? (i := 1) rfl))) (mvT hZ (hw _ (List.mem_of_getElem? (i := 2) rfl))) (mvT hZ (hw _ (List.mem_of_getElem? (i := 3) rfl))) (mvT hZ (hw _ (List.mem_of_getElem? (i := 4) rfl))) (by decide) (backOf (W := 0) (pick11 l Z a0 hw [] w_TEXT w_COMPOSITE w_CLOSED_LIST w_LISTED w_URI w_ISO3166_1_ALPHA2 w_ISO639 w_ISO15924 w_POSITIVE_NUMBER w_POSITIVE_INTEGER w_NONNEGATIVE_INTEGER w_ISO8601_DATE w_DIGEST w_PER_TIME_STANDARD w_PER_COORDINATE_SYSTEM w_TIME_SPAN G  h0 n0 O0 ) hZ (hw _ (List.mem_of_getElem? (i := 4) rfl)) (hw _ (List.mem_of_getElem? (i := 3) rfl)) (by decide) (by decide)) (g := (mkF m 9 #[iv p1, iv (11 : Int32), .unset, .unset] [(.int (11 : Int32))])) rfl (by rw [hml]; rfl) (argsL := [(.int (11 : Int32))]) (rest := []) (lenOf pd_0 rfl) rfl (by show 2 * 0 + _ ≤ _; exact Nat.le_of_eq rfl) (hb hby at_9) (fun _ _ => ⟨rfl, e0, (by decide : 0 + 0 ≤ _), (by decide : 0 + 0 ≤ _)⟩)
    dsimp only [Pt.U, Pt.locs, Pt.cells, Pt.slots] at X93 l93 y93 z93 st93 hQ93
    subst l93 y93 z93
    obtain ⟨rfl, Nq93, e93⟩ := hQ93
    have N93 := Fr.app N0 Nq93
    have k94 : Way p e below S0 T93 (mkF m 12 #[iv p1, iv (11 : Int32), .unset, .unset] [(.ref w_ISO8601_DATE)]) := fun t k => k92 t (st93 _ k)
    have k95 : Way p e below S0 T93 (mkF m 38 #[iv p1, iv (11 : Int32), rv w_ISO8601_DATE, iv (0 : Int32)] [(.ref w_ISO8601_DATE)]) := by
      intro t k
      refine k94 t ?_
      refine XS.astoreN X93.here hx rfl (hb hby at_12) rfl rfl (l' := #[iv p1, iv (11 : Int32), rv w_ISO8601_DATE, .unset]) rfl ?_
      show Steps p.tables e below (T93.setTop (mkF m 13 #[iv p1, iv (11 : Int32), rv w_ISO8601_DATE, .unset] [])) _
      refine XS.iloadN X93.here hx rfl (hb hby at_13) rfl ?_
      show Steps p.tables e below (T93.setTop (mkF m 14 #[iv p1, iv (11 : Int32), rv w_ISO8601_DATE, .unset] [(.int (11 : Int32))])) _
      refine XS.bipush X93.here hx rfl (hb hby at_14) ?_
      show Steps p.tables e below (T93.setTop (mkF m 16 #[iv p1, iv (11 : Int32), rv w_ISO8601_DATE, .unset] [(.int (12 : Int32)), (.int (11 : Int32))])) _
      refine XS.icmpNo X93.here hx rfl (hb hby at_16) rfl (feq ((by decide) : ¬ ((11 : Int32) = (12 : Int32)))).1 ?_
      show Steps p.tables e below (T93.setTop (mkF m 19 #[iv p1, iv (11 : Int32), rv w_ISO8601_DATE, .unset] [])) _
      refine XS.iloadN X93.here hx rfl (hb hby at_19) rfl ?_
      show Steps p.tables e below (T93.setTop (mkF m 20 #[iv p1, iv (11 : Int32), rv w_ISO8601_DATE, .unset] [(.int (11 : Int32))])) _
      refine XS.bipush X93.here hx rfl (hb hby at_20) ?_
      show Steps p.tables e below (T93.setTop (mkF m 22 #[iv p1, iv (11 : Int32), rv w_ISO8601_DATE, .unset] [(.int (13 : Int32)), (.int (11 : Int32))])) _
      refine XS.icmpNo X93.here hx rfl (hb hby at_22) rfl (feq ((by decide) : ¬ ((11 : Int32) = (13 : Int32)))).1 ?_
      show Steps p.tables e below (T93.setTop (mkF m 25 #[iv p1, iv (11 : Int32), rv w_ISO8601_DATE, .unset] [])) _
      refine XS.iloadN X93.here hx rfl (hb hby at_25) rfl ?_
      show Steps p.tables e below (T93.setTop (mkF m 26 #[iv p1, iv (11 : Int32), rv w_ISO8601_DATE, .unset] [(.int (11 : Int32))])) _
      refine XS.bipush X93.here hx rfl (hb hby at_26) ?_
      show Steps p.tables e below (T93.setTop (mkF m 28 #[iv p1, iv (11 : Int32), rv w_ISO8601_DATE, .unset] [(.int (14 : Int32)), (.int (11 : Int32))])) _
      refine XS.icmpYes X93.here hx rfl (pc0 := 28) (pc' := 35) rfl (hb hby at_28) rfl (feq ((by decide) : ¬ ((11 : Int32) = (14 : Int32)))).2 (by decide) (by decide) ?_
      show Steps p.tables e below (T93.setTop (mkF m 35 #[iv p1, iv (11 : Int32), rv w_ISO8601_DATE, .unset] [])) _
      refine XS.iconst X93.here hx rfl (hb hby at_35) ?_
      show Steps p.tables e below (T93.setTop (mkF m 36 #[iv p1, iv (11 : Int32), rv w_ISO8601_DATE, .unset] [(.int (0 : Int32))])) _
      refine XS.istoreN X93.here hx rfl (hb hby at_36) rfl (l' := #[iv p1, iv (11 : Int32), rv w_ISO8601_DATE, iv (0 : Int32)]) rfl ?_
      show Steps p.tables e below (T93.setTop (mkF m 37 #[iv p1, iv (11 : Int32), rv w_ISO8601_DATE, iv (0 : Int32)] [])) _
      refine XS.aloadN X93.here hx rfl (hb hby at_37) rfl rfl ?_
      show Steps p.tables e below (T93.setTop (mkF m 38 #[iv p1, iv (11 : Int32), rv w_ISO8601_DATE, iv (0 : Int32)] [(.ref w_ISO8601_DATE)])) _
      exact k
    obtain ⟨cq96, kq96, qq96a, qq96b, qq96c⟩ := isOf hZ e93 (E_w_ISO8601_DATE.ext O0.2)
    obtain ⟨_, _, ⟨T96, L96, kk96, nn96⟩, -, X96, ⟨Lc96, hQ96, l96, y96, z96⟩, st96⟩ := X93.virtualBack hx (y := (⟨"gradivo/spec/ValueKind", "takesFormFrom", "()Z"⟩ : MethodName)) (z := (⟨"gradivo/spec/ValueKind", "takesFormFrom", "()Z"⟩ : MethodName)) hown (mvT hZ (hw _ (List.mem_of_getElem? (i := 8) rfl))) (mvT hZ (hw _ (List.mem_of_getElem? (i := 9) rfl))) (notFace_of_selects (args := #[]) (mvT hZ (hw _ (List.mem_of_getElem? (i := 11) rfl)))) (mvT hZ (hw _ (List.mem_of_getElem? (i := 11) rfl))) (mvT hZ (hw _ (List.mem_of_getElem? (i := 10) rfl))) (by decide) (backOf (W := 0) (tff11 l Z a0 hw [] w_TEXT w_COMPOSITE w_CLOSED_LIST w_LISTED w_URI w_ISO3166_1_ALPHA2 w_ISO639 w_ISO15924 w_POSITIVE_NUMBER w_POSITIVE_INTEGER w_NONNEGATIVE_INTEGER w_ISO8601_DATE w_DIGEST w_PER_TIME_STANDARD w_PER_COORDINATE_SYSTEM w_TIME_SPAN G  h0 n0 O0 ) hZ (hw _ (List.mem_of_getElem? (i := 12) rfl)) (hw _ (List.mem_of_getElem? (i := 6) rfl)) (by decide) (by decide)) qq96a qq96c (g := (mkF m 38 #[iv p1, iv (11 : Int32), rv w_ISO8601_DATE, iv (0 : Int32)] [(.ref w_ISO8601_DATE)])) rfl (by rw [hml]; rfl) (Steps.refl _) (argsL := []) (rest := []) (lenOf pd_1 rfl) rfl (by show 2 * 0 + _ ≤ _; exact Nat.le_of_eq rfl) (hb hby at_38) (fun _ _ => ⟨rfl, e93, (by decide : 0 + 0 ≤ _), (by decide : 0 + 0 ≤ _)⟩)
    dsimp only [Pt.U, Pt.locs, Pt.cells, Pt.slots] at X96 l96 y96 z96 st96 hQ96
    subst l96 y96 z96
    obtain ⟨rfl, Nq96, e96⟩ := hQ96
    have N96 := Fr.app N93 Nq96
    have k97 : Way p e below S0 T96 (mkF m 41 #[iv p1, iv (11 : Int32), rv w_ISO8601_DATE, iv (0 : Int32)] [(.int (0 : Int32))]) := fun t k => k95 t (st96.trans k)
    have k98 : Way p e below S0 T96 (mkF m 50 #[iv p1, iv (11 : Int32), rv w_ISO8601_DATE, iv (0 : Int32)] [(.int (1 : Int32))]) := by
      intro t k
      refine k97 t ?_
      refine XS.iloadN X96.here hx rfl (hb hby at_41) rfl ?_
      show Steps p.tables e below (T96.setTop (mkF m 42 #[iv p1, iv (11 : Int32), rv w_ISO8601_DATE, iv (0 : Int32)] [(.int (0 : Int32)), (.int (0 : Int32))])) _
      refine XS.icmpNo X96.here hx rfl (hb hby at_42) rfl (teq ((by decide) : (0 : Int32) = (0 : Int32))).2 ?_
      show Steps p.tables e below (T96.setTop (mkF m 45 #[iv p1, iv (11 : Int32), rv w_ISO8601_DATE, iv (0 : Int32)] [])) _
      refine XS.iconst X96.here hx rfl (hb hby at_45) ?_
      show Steps p.tables e below (T96.setTop (mkF m 46 #[iv p1, iv (11 : Int32), rv w_ISO8601_DATE, iv (0 : Int32)] [(.int (1 : Int32))])) _
      refine XS.goto X96.here hx rfl (pc0 := 46) (pc' := 50) rfl (hb hby at_46) (by decide) (by decide) ?_
      show Steps p.tables e below (T96.setTop (mkF m 50 #[iv p1, iv (11 : Int32), rv w_ISO8601_DATE, iv (0 : Int32)] [(.int (1 : Int32))])) _
      exact k
    obtain ⟨fs, hr, hrun, hended, hW, hsame⟩ := X96.leave (v := some (.int (1 : Int32))) (fun h => by rw [Bd.returns] at h; cases h)
    refine ⟨_, _, k98 _ (retN X96 hx (t := .boolean) Bd.returns (by simp) (hb hby at_50) hr), hrun, hended, _, _, rfl, ?_, ⟨_, rfl⟩, hW, hsame.mono (by decide) (by decide)⟩
    show Q_law_met Z w_TEXT w_COMPOSITE w_CLOSED_LIST w_LISTED w_URI w_ISO3166_1_ALPHA2 w_ISO639 w_ISO15924 w_POSITIVE_NUMBER w_POSITIVE_INTEGER w_NONNEGATIVE_INTEGER w_ISO8601_DATE w_DIGEST w_PER_TIME_STANDARD w_PER_COORDINATE_SYSTEM w_TIME_SPAN p1 h0 n0 _ T96.heap _
    rw [e96]
    exact ⟨rfl, N96⟩
  · have k99 : Way p e below S0 s₁ (mkF m 8 #[iv p1, iv (12 : Int32), .unset, .unset] []) := by have q := k1; rw [hi2] at q; exact q
    have k100 : Way p e below S0 s₁ (mkF m 9 #[iv p1, iv (12 : Int32), .unset, .unset] [(.int (12 : Int32))]) := by
      intro t k
      refine k99 t ?_
      refine XS.iloadN X0.here hx rfl (hb hby at_8) rfl ?_
      show Steps p.tables e below (s₁.setTop (mkF m 9 #[iv p1, iv (12 : Int32), .unset, .unset] [(.int (12 : Int32))])) _
      exact k
    obtain ⟨_, _, ⟨T101, L101, kk101, nn101⟩, -, X101, ⟨Lc101, hQ101, l101, y101, z101⟩, st101⟩ := Jvm.LawKit.callS X0 hx (y := (⟨"gradivo/spec/ValueKindTakesFormFromPinLaw", "pick", "(I)Lgradivo/spec/ValueKind;"⟩ : MethodName)) hown (mvT hZ (hw _ (List.mem_of_getElem? (i := 1) rfl))) (mvT hZ (hw _ (List.mem_of_getElem? (i := 2) rfl))) (mvT hZ (hw _ (List.mem_of_getElem? (i := 3) rfl))) (mvT hZ (hw _ (List.mem_of_getElem? (i := 4) rfl))) (by decide) (backOf (W := 0) (pick12 l Z a0 hw [] w_TEXT w_COMPOSITE w_CLOSED_LIST w_LISTED w_URI w_ISO3166_1_ALPHA2 w_ISO639 w_ISO15924 w_POSITIVE_NUMBER w_POSITIVE_INTEGER w_NONNEGATIVE_INTEGER w_ISO8601_DATE w_DIGEST w_PER_TIME_STANDARD w_PER_COORDINATE_SYSTEM w_TIME_SPAN G  h0 n0 O0 ) hZ (hw _ (List.mem_of_getElem? (i := 4) rfl)) (hw _ (List.mem_of_getElem? (i := 3) rfl)) (by decide) (by decide)) (g := (mkF m 9 #[iv p1, iv (12 : Int32), .unset, .unset] [(.int (12 : Int32))])) rfl (by rw [hml]; rfl) (argsL := [(.int (12 : Int32))]) (rest := []) (lenOf pd_0 rfl) rfl (by show 2 * 0 + _ ≤ _; exact Nat.le_of_eq rfl) (hb hby at_9) (fun _ _ => ⟨rfl, e0, (by decide : 0 + 0 ≤ _), (by decide : 0 + 0 ≤ _)⟩)
    dsimp only [Pt.U, Pt.locs, Pt.cells, Pt.slots] at X101 l101 y101 z101 st101 hQ101
    subst l101 y101 z101
    obtain ⟨rfl, Nq101, e101⟩ := hQ101
    have N101 := Fr.app N0 Nq101
    have k102 : Way p e below S0 T101 (mkF m 12 #[iv p1, iv (12 : Int32), .unset, .unset] [(.ref w_DIGEST)]) := fun t k => k100 t (st101 _ k)
    have k103 : Way p e below S0 T101 (mkF m 38 #[iv p1, iv (12 : Int32), rv w_DIGEST, iv (1 : Int32)] [(.ref w_DIGEST)]) := by
      intro t k
      refine k102 t ?_
      refine XS.astoreN X101.here hx rfl (hb hby at_12) rfl rfl (l' := #[iv p1, iv (12 : Int32), rv w_DIGEST, .unset]) rfl ?_
      show Steps p.tables e below (T101.setTop (mkF m 13 #[iv p1, iv (12 : Int32), rv w_DIGEST, .unset] [])) _
      refine XS.iloadN X101.here hx rfl (hb hby at_13) rfl ?_
      show Steps p.tables e below (T101.setTop (mkF m 14 #[iv p1, iv (12 : Int32), rv w_DIGEST, .unset] [(.int (12 : Int32))])) _
      refine XS.bipush X101.here hx rfl (hb hby at_14) ?_
      show Steps p.tables e below (T101.setTop (mkF m 16 #[iv p1, iv (12 : Int32), rv w_DIGEST, .unset] [(.int (12 : Int32)), (.int (12 : Int32))])) _
      refine XS.icmpYes X101.here hx rfl (pc0 := 16) (pc' := 31) rfl (hb hby at_16) rfl (teq ((by decide) : (12 : Int32) = (12 : Int32))).1 (by decide) (by decide) ?_
      show Steps p.tables e below (T101.setTop (mkF m 31 #[iv p1, iv (12 : Int32), rv w_DIGEST, .unset] [])) _
      refine XS.iconst X101.here hx rfl (hb hby at_31) ?_
      show Steps p.tables e below (T101.setTop (mkF m 32 #[iv p1, iv (12 : Int32), rv w_DIGEST, .unset] [(.int (1 : Int32))])) _
      refine XS.goto X101.here hx rfl (pc0 := 32) (pc' := 36) rfl (hb hby at_32) (by decide) (by decide) ?_
      show Steps p.tables e below (T101.setTop (mkF m 36 #[iv p1, iv (12 : Int32), rv w_DIGEST, .unset] [(.int (1 : Int32))])) _
      refine XS.istoreN X101.here hx rfl (hb hby at_36) rfl (l' := #[iv p1, iv (12 : Int32), rv w_DIGEST, iv (1 : Int32)]) rfl ?_
      show Steps p.tables e below (T101.setTop (mkF m 37 #[iv p1, iv (12 : Int32), rv w_DIGEST, iv (1 : Int32)] [])) _
      refine XS.aloadN X101.here hx rfl (hb hby at_37) rfl rfl ?_
      show Steps p.tables e below (T101.setTop (mkF m 38 #[iv p1, iv (12 : Int32), rv w_DIGEST, iv (1 : Int32)] [(.ref w_DIGEST)])) _
      exact k
    obtain ⟨cq104, kq104, qq104a, qq104b, qq104c⟩ := isOf hZ e101 (E_w_DIGEST.ext O0.2)
    obtain ⟨_, _, ⟨T104, L104, kk104, nn104⟩, -, X104, ⟨Lc104, hQ104, l104, y104, z104⟩, st104⟩ := X101.virtualBack hx (y := (⟨"gradivo/spec/ValueKind", "takesFormFrom", "()Z"⟩ : MethodName)) (z := (⟨"gradivo/spec/ValueKind", "takesFormFrom", "()Z"⟩ : MethodName)) hown (mvT hZ (hw _ (List.mem_of_getElem? (i := 8) rfl))) (mvT hZ (hw _ (List.mem_of_getElem? (i := 9) rfl))) (notFace_of_selects (args := #[]) (mvT hZ (hw _ (List.mem_of_getElem? (i := 11) rfl)))) (mvT hZ (hw _ (List.mem_of_getElem? (i := 11) rfl))) (mvT hZ (hw _ (List.mem_of_getElem? (i := 10) rfl))) (by decide) (backOf (W := 0) (tff12 l Z a0 hw [] w_TEXT w_COMPOSITE w_CLOSED_LIST w_LISTED w_URI w_ISO3166_1_ALPHA2 w_ISO639 w_ISO15924 w_POSITIVE_NUMBER w_POSITIVE_INTEGER w_NONNEGATIVE_INTEGER w_ISO8601_DATE w_DIGEST w_PER_TIME_STANDARD w_PER_COORDINATE_SYSTEM w_TIME_SPAN G  h0 n0 O0 ) hZ (hw _ (List.mem_of_getElem? (i := 12) rfl)) (hw _ (List.mem_of_getElem? (i := 6) rfl)) (by decide) (by decide)) qq104a qq104c (g := (mkF m 38 #[iv p1, iv (12 : Int32), rv w_DIGEST, iv (1 : Int32)] [(.ref w_DIGEST)])) rfl (by rw [hml]; rfl) (Steps.refl _) (argsL := []) (rest := []) (lenOf pd_1 rfl) rfl (by show 2 * 0 + _ ≤ _; exact Nat.le_of_eq rfl) (hb hby at_38) (fun _ _ => ⟨rfl, e101, (by decide : 0 + 0 ≤ _), (by decide : 0 + 0 ≤ _)⟩)
    dsimp only [Pt.U, Pt.locs, Pt.cells, Pt.slots] at X104 l104 y104 z104 st104 hQ104
    subst l104 y104 z104
    obtain ⟨rfl, Nq104, e104⟩ := hQ104
    have N104 := Fr.app N101 Nq104
    have k105 : Way p e below S0 T104 (mkF m 41 #[iv p1, iv (12 : Int32), rv w_DIGEST, iv (1 : Int32)] [(.int (1 : Int32))]) := fun t k => k103 t (st104.trans k)
    have k106 : Way p e below S0 T104 (mkF m 50 #[iv p1, iv (12 : Int32), rv w_DIGEST, iv (1 : Int32)] [(.int (1 : Int32))]) := by
      intro t k
      refine k105 t ?_
      refine XS.iloadN X104.here hx rfl (hb hby at_41) rfl ?_
      show Steps p.tables e below (T104.setTop (mkF m 42 #[iv p1, iv (12 : Int32), rv w_DIGEST, iv (1 : Int32)] [(.int (1 : Int32)), (.int (1 : Int32))])) _
      refine XS.icmpNo X104.here hx rfl (hb hby at_42) rfl (teq ((by decide) : (1 : Int32) = (1 : Int32))).2 ?_
      show Steps p.tables e below (T104.setTop (mkF m 45 #[iv p1, iv (12 : Int32), rv w_DIGEST, iv (1 : Int32)] [])) _
      refine XS.iconst X104.here hx rfl (hb hby at_45) ?_
      show Steps p.tables e below (T104.setTop (mkF m 46 #[iv p1, iv (12 : Int32), rv w_DIGEST, iv (1 : Int32)] [(.int (1 : Int32))])) _
      refine XS.goto X104.here hx rfl (pc0 := 46) (pc' := 50) rfl (hb hby at_46) (by decide) (by decide) ?_
      show Steps p.tables e below (T104.setTop (mkF m 50 #[iv p1, iv (12 : Int32), rv w_DIGEST, iv (1 : Int32)] [(.int (1 : Int32))])) _
      exact k
    obtain ⟨fs, hr, hrun, hended, hW, hsame⟩ := X104.leave (v := some (.int (1 : Int32))) (fun h => by rw [Bd.returns] at h; cases h)
    refine ⟨_, _, k106 _ (retN X104 hx (t := .boolean) Bd.returns (by simp) (hb hby at_50) hr), hrun, hended, _, _, rfl, ?_, ⟨_, rfl⟩, hW, hsame.mono (by decide) (by decide)⟩
    show Q_law_met Z w_TEXT w_COMPOSITE w_CLOSED_LIST w_LISTED w_URI w_ISO3166_1_ALPHA2 w_ISO639 w_ISO15924 w_POSITIVE_NUMBER w_POSITIVE_INTEGER w_NONNEGATIVE_INTEGER w_ISO8601_DATE w_DIGEST w_PER_TIME_STANDARD w_PER_COORDINATE_SYSTEM w_TIME_SPAN p1 h0 n0 _ T104.heap _
    rw [e104]
    exact ⟨rfl, N104⟩
  · have k107 : Way p e below S0 s₁ (mkF m 8 #[iv p1, iv (13 : Int32), .unset, .unset] []) := by have q := k1; rw [hi2] at q; exact q
    have k108 : Way p e below S0 s₁ (mkF m 9 #[iv p1, iv (13 : Int32), .unset, .unset] [(.int (13 : Int32))]) := by
      intro t k
      refine k107 t ?_
      refine XS.iloadN X0.here hx rfl (hb hby at_8) rfl ?_
      show Steps p.tables e below (s₁.setTop (mkF m 9 #[iv p1, iv (13 : Int32), .unset, .unset] [(.int (13 : Int32))])) _
      exact k
    obtain ⟨_, _, ⟨T109, L109, kk109, nn109⟩, -, X109, ⟨Lc109, hQ109, l109, y109, z109⟩, st109⟩ := Jvm.LawKit.callS X0 hx (y := (⟨"gradivo/spec/ValueKindTakesFormFromPinLaw", "pick", "(I)Lgradivo/spec/ValueKind;"⟩ : MethodName)) hown (mvT hZ (hw _ (List.mem_of_getElem? (i := 1) rfl))) (mvT hZ (hw _ (List.mem_of_getElem? (i := 2) rfl))) (mvT hZ (hw _ (List.mem_of_getElem? (i := 3) rfl))) (mvT hZ (hw _ (List.mem_of_getElem? (i := 4) rfl))) (by decide) (backOf (W := 0) (pick13 l Z a0 hw [] w_TEXT w_COMPOSITE w_CLOSED_LIST w_LISTED w_URI w_ISO3166_1_ALPHA2 w_ISO639 w_ISO15924 w_POSITIVE_NUMBER w_POSITIVE_INTEGER w_NONNEGATIVE_INTEGER w_ISO8601_DATE w_DIGEST w_PER_TIME_STANDARD w_PER_COORDINATE_SYSTEM w_TIME_SPAN G  h0 n0 O0 ) hZ (hw _ (List.mem_of_getElem? (i := 4) rfl)) (hw _ (List.mem_of_getElem? (i := 3) rfl)) (by decide) (by decide)) (g := (mkF m 9 #[iv p1, iv (13 : Int32), .unset, .unset] [(.int (13 : Int32))])) rfl (by rw [hml]; rfl) (argsL := [(.int (13 : Int32))]) (rest := []) (lenOf pd_0 rfl) rfl (by show 2 * 0 + _ ≤ _; exact Nat.le_of_eq rfl) (hb hby at_9) (fun _ _ => ⟨rfl, e0, (by decide : 0 + 0 ≤ _), (by decide : 0 + 0 ≤ _)⟩)
    dsimp only [Pt.U, Pt.locs, Pt.cells, Pt.slots] at X109 l109 y109 z109 st109 hQ109
    subst l109 y109 z109
    obtain ⟨rfl, Nq109, e109⟩ := hQ109
    have N109 := Fr.app N0 Nq109
    have k110 : Way p e below S0 T109 (mkF m 12 #[iv p1, iv (13 : Int32), .unset, .unset] [(.ref w_PER_TIME_STANDARD)]) := fun t k => k108 t (st109 _ k)
    have k111 : Way p e below S0 T109 (mkF m 38 #[iv p1, iv (13 : Int32), rv w_PER_TIME_STANDARD, iv (1 : Int32)] [(.ref w_PER_TIME_STANDARD)]) := by
      intro t k
      refine k110 t ?_
      refine XS.astoreN X109.here hx rfl (hb hby at_12) rfl rfl (l' := #[iv p1, iv (13 : Int32), rv w_PER_TIME_STANDARD, .unset]) rfl ?_
      show Steps p.tables e below (T109.setTop (mkF m 13 #[iv p1, iv (13 : Int32), rv w_PER_TIME_STANDARD, .unset] [])) _
      refine XS.iloadN X109.here hx rfl (hb hby at_13) rfl ?_
      show Steps p.tables e below (T109.setTop (mkF m 14 #[iv p1, iv (13 : Int32), rv w_PER_TIME_STANDARD, .unset] [(.int (13 : Int32))])) _
      refine XS.bipush X109.here hx rfl (hb hby at_14) ?_
      show Steps p.tables e below (T109.setTop (mkF m 16 #[iv p1, iv (13 : Int32), rv w_PER_TIME_STANDARD, .unset] [(.int (12 : Int32)), (.int (13 : Int32))])) _
      refine XS.icmpNo X109.here hx rfl (hb hby at_16) rfl (feq ((by decide) : ¬ ((13 : Int32) = (12 : Int32)))).1 ?_
      show Steps p.tables e below (T109.setTop (mkF m 19 #[iv p1, iv (13 : Int32), rv w_PER_TIME_STANDARD, .unset] [])) _
      refine XS.iloadN X109.here hx rfl (hb hby at_19) rfl ?_
      show Steps p.tables e below (T109.setTop (mkF m 20 #[iv p1, iv (13 : Int32), rv w_PER_TIME_STANDARD, .unset] [(.int (13 : Int32))])) _
      refine XS.bipush X109.here hx rfl (hb hby at_20) ?_
      show Steps p.tables e below (T109.setTop (mkF m 22 #[iv p1, iv (13 : Int32), rv w_PER_TIME_STANDARD, .unset] [(.int (13 : Int32)), (.int (13 : Int32))])) _
      refine XS.icmpYes X109.here hx rfl (pc0 := 22) (pc' := 31) rfl (hb hby at_22) rfl (teq ((by decide) : (13 : Int32) = (13 : Int32))).1 (by decide) (by decide) ?_
      show Steps p.tables e below (T109.setTop (mkF m 31 #[iv p1, iv (13 : Int32), rv w_PER_TIME_STANDARD, .unset] [])) _
      refine XS.iconst X109.here hx rfl (hb hby at_31) ?_
      show Steps p.tables e below (T109.setTop (mkF m 32 #[iv p1, iv (13 : Int32), rv w_PER_TIME_STANDARD, .unset] [(.int (1 : Int32))])) _
      refine XS.goto X109.here hx rfl (pc0 := 32) (pc' := 36) rfl (hb hby at_32) (by decide) (by decide) ?_
      show Steps p.tables e below (T109.setTop (mkF m 36 #[iv p1, iv (13 : Int32), rv w_PER_TIME_STANDARD, .unset] [(.int (1 : Int32))])) _
      refine XS.istoreN X109.here hx rfl (hb hby at_36) rfl (l' := #[iv p1, iv (13 : Int32), rv w_PER_TIME_STANDARD, iv (1 : Int32)]) rfl ?_
      show Steps p.tables e below (T109.setTop (mkF m 37 #[iv p1, iv (13 : Int32), rv w_PER_TIME_STANDARD, iv (1 : Int32)] [])) _
      refine XS.aloadN X109.here hx rfl (hb hby at_37) rfl rfl ?_
      show Steps p.tables e below (T109.setTop (mkF m 38 #[iv p1, iv (13 : Int32), rv w_PER_TIME_STANDARD, iv (1 : Int32)] [(.ref w_PER_TIME_STANDARD)])) _
      exact k
    obtain ⟨cq112, kq112, qq112a, qq112b, qq112c⟩ := isOf hZ e109 (E_w_PER_TIME_STANDARD.ext O0.2)
    obtain ⟨_, _, ⟨T112, L112, kk112, nn112⟩, -, X112, ⟨Lc112, hQ112, l112, y112, z112⟩, st112⟩ := X109.virtualBack hx (y := (⟨"gradivo/spec/ValueKind", "takesFormFrom", "()Z"⟩ : MethodName)) (z := (⟨"gradivo/spec/ValueKind", "takesFormFrom", "()Z"⟩ : MethodName)) hown (mvT hZ (hw _ (List.mem_of_getElem? (i := 8) rfl))) (mvT hZ (hw _ (List.mem_of_getElem? (i := 9) rfl))) (notFace_of_selects (args := #[]) (mvT hZ (hw _ (List.mem_of_getElem? (i := 11) rfl)))) (mvT hZ (hw _ (List.mem_of_getElem? (i := 11) rfl))) (mvT hZ (hw _ (List.mem_of_getElem? (i := 10) rfl))) (by decide) (backOf (W := 0) (tff13 l Z a0 hw [] w_TEXT w_COMPOSITE w_CLOSED_LIST w_LISTED w_URI w_ISO3166_1_ALPHA2 w_ISO639 w_ISO15924 w_POSITIVE_NUMBER w_POSITIVE_INTEGER w_NONNEGATIVE_INTEGER w_ISO8601_DATE w_DIGEST w_PER_TIME_STANDARD w_PER_COORDINATE_SYSTEM w_TIME_SPAN G  h0 n0 O0 ) hZ (hw _ (List.mem_of_getElem? (i := 12) rfl)) (hw _ (List.mem_of_getElem? (i := 6) rfl)) (by decide) (by decide)) qq112a qq112c (g := (mkF m 38 #[iv p1, iv (13 : Int32), rv w_PER_TIME_STANDARD, iv (1 : Int32)] [(.ref w_PER_TIME_STANDARD)])) rfl (by rw [hml]; rfl) (Steps.refl _) (argsL := []) (rest := []) (lenOf pd_1 rfl) rfl (by show 2 * 0 + _ ≤ _; exact Nat.le_of_eq rfl) (hb hby at_38) (fun _ _ => ⟨rfl, e109, (by decide : 0 + 0 ≤ _), (by decide : 0 + 0 ≤ _)⟩)
    dsimp only [Pt.U, Pt.locs, Pt.cells, Pt.slots] at X112 l112 y112 z112 st112 hQ112
    subst l112 y112 z112
    obtain ⟨rfl, Nq112, e112⟩ := hQ112
    have N112 := Fr.app N109 Nq112
    have k113 : Way p e below S0 T112 (mkF m 41 #[iv p1, iv (13 : Int32), rv w_PER_TIME_STANDARD, iv (1 : Int32)] [(.int (1 : Int32))]) := fun t k => k111 t (st112.trans k)
    have k114 : Way p e below S0 T112 (mkF m 50 #[iv p1, iv (13 : Int32), rv w_PER_TIME_STANDARD, iv (1 : Int32)] [(.int (1 : Int32))]) := by
      intro t k
      refine k113 t ?_
      refine XS.iloadN X112.here hx rfl (hb hby at_41) rfl ?_
      show Steps p.tables e below (T112.setTop (mkF m 42 #[iv p1, iv (13 : Int32), rv w_PER_TIME_STANDARD, iv (1 : Int32)] [(.int (1 : Int32)), (.int (1 : Int32))])) _
      refine XS.icmpNo X112.here hx rfl (hb hby at_42) rfl (teq ((by decide) : (1 : Int32) = (1 : Int32))).2 ?_
      show Steps p.tables e below (T112.setTop (mkF m 45 #[iv p1, iv (13 : Int32), rv w_PER_TIME_STANDARD, iv (1 : Int32)] [])) _
      refine XS.iconst X112.here hx rfl (hb hby at_45) ?_
      show Steps p.tables e below (T112.setTop (mkF m 46 #[iv p1, iv (13 : Int32), rv w_PER_TIME_STANDARD, iv (1 : Int32)] [(.int (1 : Int32))])) _
      refine XS.goto X112.here hx rfl (pc0 := 46) (pc' := 50) rfl (hb hby at_46) (by decide) (by decide) ?_
      show Steps p.tables e below (T112.setTop (mkF m 50 #[iv p1, iv (13 : Int32), rv w_PER_TIME_STANDARD, iv (1 : Int32)] [(.int (1 : Int32))])) _
      exact k
    obtain ⟨fs, hr, hrun, hended, hW, hsame⟩ := X112.leave (v := some (.int (1 : Int32))) (fun h => by rw [Bd.returns] at h; cases h)
    refine ⟨_, _, k114 _ (retN X112 hx (t := .boolean) Bd.returns (by simp) (hb hby at_50) hr), hrun, hended, _, _, rfl, ?_, ⟨_, rfl⟩, hW, hsame.mono (by decide) (by decide)⟩
    show Q_law_met Z w_TEXT w_COMPOSITE w_CLOSED_LIST w_LISTED w_URI w_ISO3166_1_ALPHA2 w_ISO639 w_ISO15924 w_POSITIVE_NUMBER w_POSITIVE_INTEGER w_NONNEGATIVE_INTEGER w_ISO8601_DATE w_DIGEST w_PER_TIME_STANDARD w_PER_COORDINATE_SYSTEM w_TIME_SPAN p1 h0 n0 _ T112.heap _
    rw [e112]
    exact ⟨rfl, N112⟩
  · have k115 : Way p e below S0 s₁ (mkF m 8 #[iv p1, iv (14 : Int32), .unset, .unset] []) := by have q := k1; rw [hi2] at q; exact q
    have k116 : Way p e below S0 s₁ (mkF m 9 #[iv p1, iv (14 : Int32), .unset, .unset] [(.int (14 : Int32))]) := by
      intro t k
      refine k115 t ?_
      refine XS.iloadN X0.here hx rfl (hb hby at_8) rfl ?_
      show Steps p.tables e below (s₁.setTop (mkF m 9 #[iv p1, iv (14 : Int32), .unset, .unset] [(.int (14 : Int32))])) _
      exact k
    obtain ⟨_, _, ⟨T117, L117, kk117, nn117⟩, -, X117, ⟨Lc117, hQ117, l117, y117, z117⟩, st117⟩ := Jvm.LawKit.callS X0 hx (y := (⟨"gradivo/spec/ValueKindTakesFormFromPinLaw", "pick", "(I)Lgradivo/spec/ValueKind;"⟩ : MethodName)) hown (mvT hZ (hw _ (List.mem_of_getElem? (i := 1) rfl))) (mvT hZ (hw _ (List.mem_of_getElem? (i := 2) rfl))) (mvT hZ (hw _ (List.mem_of_getElem? (i := 3) rfl))) (mvT hZ (hw _ (List.mem_of_getElem? (i := 4) rfl))) (by decide) (backOf (W := 0) (pick14 l Z a0 hw [] w_TEXT w_COMPOSITE w_CLOSED_LIST w_LISTED w_URI w_ISO3166_1_ALPHA2 w_ISO639 w_ISO15924 w_POSITIVE_NUMBER w_POSITIVE_INTEGER w_NONNEGATIVE_INTEGER w_ISO8601_DATE w_DIGEST w_PER_TIME_STANDARD w_PER_COORDINATE_SYSTEM w_TIME_SPAN G  h0 n0 O0 ) hZ (hw _ (List.mem_of_getElem? (i := 4) rfl)) (hw _ (List.mem_of_getElem? (i := 3) rfl)) (by decide) (by decide)) (g := (mkF m 9 #[iv p1, iv (14 : Int32), .unset, .unset] [(.int (14 : Int32))])) rfl (by rw [hml]; rfl) (argsL := [(.int (14 : Int32))]) (rest := []) (lenOf pd_0 rfl) rfl (by show 2 * 0 + _ ≤ _; exact Nat.le_of_eq rfl) (hb hby at_9) (fun _ _ => ⟨rfl, e0, (by decide : 0 + 0 ≤ _), (by decide : 0 + 0 ≤ _)⟩)
    dsimp only [Pt.U, Pt.locs, Pt.cells, Pt.slots] at X117 l117 y117 z117 st117 hQ117
    subst l117 y117 z117
    obtain ⟨rfl, Nq117, e117⟩ := hQ117
    have N117 := Fr.app N0 Nq117
    have k118 : Way p e below S0 T117 (mkF m 12 #[iv p1, iv (14 : Int32), .unset, .unset] [(.ref w_PER_COORDINATE_SYSTEM)]) := fun t k => k116 t (st117 _ k)
    have k119 : Way p e below S0 T117 (mkF m 38 #[iv p1, iv (14 : Int32), rv w_PER_COORDINATE_SYSTEM, iv (1 : Int32)] [(.ref w_PER_COORDINATE_SYSTEM)]) := by
      intro t k
      refine k118 t ?_
      refine XS.astoreN X117.here hx rfl (hb hby at_12) rfl rfl (l' := #[iv p1, iv (14 : Int32), rv w_PER_COORDINATE_SYSTEM, .unset]) rfl ?_
      show Steps p.tables e below (T117.setTop (mkF m 13 #[iv p1, iv (14 : Int32), rv w_PER_COORDINATE_SYSTEM, .unset] [])) _
      refine XS.iloadN X117.here hx rfl (hb hby at_13) rfl ?_
      show Steps p.tables e below (T117.setTop (mkF m 14 #[iv p1, iv (14 : Int32), rv w_PER_COORDINATE_SYSTEM, .unset] [(.int (14 : Int32))])) _
      refine XS.bipush X117.here hx rfl (hb hby at_14) ?_
      show Steps p.tables e below (T117.setTop (mkF m 16 #[iv p1, iv (14 : Int32), rv w_PER_COORDINATE_SYSTEM, .unset] [(.int (12 : Int32)), (.int (14 : Int32))])) _
      refine XS.icmpNo X117.here hx rfl (hb hby at_16) rfl (feq ((by decide) : ¬ ((14 : Int32) = (12 : Int32)))).1 ?_
      show Steps p.tables e below (T117.setTop (mkF m 19 #[iv p1, iv (14 : Int32), rv w_PER_COORDINATE_SYSTEM, .unset] [])) _
      refine XS.iloadN X117.here hx rfl (hb hby at_19) rfl ?_
      show Steps p.tables e below (T117.setTop (mkF m 20 #[iv p1, iv (14 : Int32), rv w_PER_COORDINATE_SYSTEM, .unset] [(.int (14 : Int32))])) _
      refine XS.bipush X117.here hx rfl (hb hby at_20) ?_
      show Steps p.tables e below (T117.setTop (mkF m 22 #[iv p1, iv (14 : Int32), rv w_PER_COORDINATE_SYSTEM, .unset] [(.int (13 : Int32)), (.int (14 : Int32))])) _
      refine XS.icmpNo X117.here hx rfl (hb hby at_22) rfl (feq ((by decide) : ¬ ((14 : Int32) = (13 : Int32)))).1 ?_
      show Steps p.tables e below (T117.setTop (mkF m 25 #[iv p1, iv (14 : Int32), rv w_PER_COORDINATE_SYSTEM, .unset] [])) _
      refine XS.iloadN X117.here hx rfl (hb hby at_25) rfl ?_
      show Steps p.tables e below (T117.setTop (mkF m 26 #[iv p1, iv (14 : Int32), rv w_PER_COORDINATE_SYSTEM, .unset] [(.int (14 : Int32))])) _
      refine XS.bipush X117.here hx rfl (hb hby at_26) ?_
      show Steps p.tables e below (T117.setTop (mkF m 28 #[iv p1, iv (14 : Int32), rv w_PER_COORDINATE_SYSTEM, .unset] [(.int (14 : Int32)), (.int (14 : Int32))])) _
      refine XS.icmpNo X117.here hx rfl (hb hby at_28) rfl (teq ((by decide) : (14 : Int32) = (14 : Int32))).2 ?_
      show Steps p.tables e below (T117.setTop (mkF m 31 #[iv p1, iv (14 : Int32), rv w_PER_COORDINATE_SYSTEM, .unset] [])) _
      refine XS.iconst X117.here hx rfl (hb hby at_31) ?_
      show Steps p.tables e below (T117.setTop (mkF m 32 #[iv p1, iv (14 : Int32), rv w_PER_COORDINATE_SYSTEM, .unset] [(.int (1 : Int32))])) _
      refine XS.goto X117.here hx rfl (pc0 := 32) (pc' := 36) rfl (hb hby at_32) (by decide) (by decide) ?_
      show Steps p.tables e below (T117.setTop (mkF m 36 #[iv p1, iv (14 : Int32), rv w_PER_COORDINATE_SYSTEM, .unset] [(.int (1 : Int32))])) _
      refine XS.istoreN X117.here hx rfl (hb hby at_36) rfl (l' := #[iv p1, iv (14 : Int32), rv w_PER_COORDINATE_SYSTEM, iv (1 : Int32)]) rfl ?_
      show Steps p.tables e below (T117.setTop (mkF m 37 #[iv p1, iv (14 : Int32), rv w_PER_COORDINATE_SYSTEM, iv (1 : Int32)] [])) _
      refine XS.aloadN X117.here hx rfl (hb hby at_37) rfl rfl ?_
      show Steps p.tables e below (T117.setTop (mkF m 38 #[iv p1, iv (14 : Int32), rv w_PER_COORDINATE_SYSTEM, iv (1 : Int32)] [(.ref w_PER_COORDINATE_SYSTEM)])) _
      exact k
    obtain ⟨cq120, kq120, qq120a, qq120b, qq120c⟩ := isOf hZ e117 (E_w_PER_COORDINATE_SYSTEM.ext O0.2)
    obtain ⟨_, _, ⟨T120, L120, kk120, nn120⟩, -, X120, ⟨Lc120, hQ120, l120, y120, z120⟩, st120⟩ := X117.virtualBack hx (y := (⟨"gradivo/spec/ValueKind", "takesFormFrom", "()Z"⟩ : MethodName)) (z := (⟨"gradivo/spec/ValueKind", "takesFormFrom", "()Z"⟩ : MethodName)) hown (mvT hZ (hw _ (List.mem_of_getElem? (i := 8) rfl))) (mvT hZ (hw _ (List.mem_of_getElem? (i := 9) rfl))) (notFace_of_selects (args := #[]) (mvT hZ (hw _ (List.mem_of_getElem? (i := 11) rfl)))) (mvT hZ (hw _ (List.mem_of_getElem? (i := 11) rfl))) (mvT hZ (hw _ (List.mem_of_getElem? (i := 10) rfl))) (by decide) (backOf (W := 0) (tff14 l Z a0 hw [] w_TEXT w_COMPOSITE w_CLOSED_LIST w_LISTED w_URI w_ISO3166_1_ALPHA2 w_ISO639 w_ISO15924 w_POSITIVE_NUMBER w_POSITIVE_INTEGER w_NONNEGATIVE_INTEGER w_ISO8601_DATE w_DIGEST w_PER_TIME_STANDARD w_PER_COORDINATE_SYSTEM w_TIME_SPAN G  h0 n0 O0 ) hZ (hw _ (List.mem_of_getElem? (i := 12) rfl)) (hw _ (List.mem_of_getElem? (i := 6) rfl)) (by decide) (by decide)) qq120a qq120c (g := (mkF m 38 #[iv p1, iv (14 : Int32), rv w_PER_COORDINATE_SYSTEM, iv (1 : Int32)] [(.ref w_PER_COORDINATE_SYSTEM)])) rfl (by rw [hml]; rfl) (Steps.refl _) (argsL := []) (rest := []) (lenOf pd_1 rfl) rfl (by show 2 * 0 + _ ≤ _; exact Nat.le_of_eq rfl) (hb hby at_38) (fun _ _ => ⟨rfl, e117, (by decide : 0 + 0 ≤ _), (by decide : 0 + 0 ≤ _)⟩)
    dsimp only [Pt.U, Pt.locs, Pt.cells, Pt.slots] at X120 l120 y120 z120 st120 hQ120
    subst l120 y120 z120
    obtain ⟨rfl, Nq120, e120⟩ := hQ120
    have N120 := Fr.app N117 Nq120
    have k121 : Way p e below S0 T120 (mkF m 41 #[iv p1, iv (14 : Int32), rv w_PER_COORDINATE_SYSTEM, iv (1 : Int32)] [(.int (1 : Int32))]) := fun t k => k119 t (st120.trans k)
    have k122 : Way p e below S0 T120 (mkF m 50 #[iv p1, iv (14 : Int32), rv w_PER_COORDINATE_SYSTEM, iv (1 : Int32)] [(.int (1 : Int32))]) := by
      intro t k
      refine k121 t ?_
      refine XS.iloadN X120.here hx rfl (hb hby at_41) rfl ?_
      show Steps p.tables e below (T120.setTop (mkF m 42 #[iv p1, iv (14 : Int32), rv w_PER_COORDINATE_SYSTEM, iv (1 : Int32)] [(.int (1 : Int32)), (.int (1 : Int32))])) _
      refine XS.icmpNo X120.here hx rfl (hb hby at_42) rfl (teq ((by decide) : (1 : Int32) = (1 : Int32))).2 ?_
      show Steps p.tables e below (T120.setTop (mkF m 45 #[iv p1, iv (14 : Int32), rv w_PER_COORDINATE_SYSTEM, iv (1 : Int32)] [])) _
      refine XS.iconst X120.here hx rfl (hb hby at_45) ?_
      show Steps p.tables e below (T120.setTop (mkF m 46 #[iv p1, iv (14 : Int32), rv w_PER_COORDINATE_SYSTEM, iv (1 : Int32)] [(.int (1 : Int32))])) _
      refine XS.goto X120.here hx rfl (pc0 := 46) (pc' := 50) rfl (hb hby at_46) (by decide) (by decide) ?_
      show Steps p.tables e below (T120.setTop (mkF m 50 #[iv p1, iv (14 : Int32), rv w_PER_COORDINATE_SYSTEM, iv (1 : Int32)] [(.int (1 : Int32))])) _
      exact k
    obtain ⟨fs, hr, hrun, hended, hW, hsame⟩ := X120.leave (v := some (.int (1 : Int32))) (fun h => by rw [Bd.returns] at h; cases h)
    refine ⟨_, _, k122 _ (retN X120 hx (t := .boolean) Bd.returns (by simp) (hb hby at_50) hr), hrun, hended, _, _, rfl, ?_, ⟨_, rfl⟩, hW, hsame.mono (by decide) (by decide)⟩
    show Q_law_met Z w_TEXT w_COMPOSITE w_CLOSED_LIST w_LISTED w_URI w_ISO3166_1_ALPHA2 w_ISO639 w_ISO15924 w_POSITIVE_NUMBER w_POSITIVE_INTEGER w_NONNEGATIVE_INTEGER w_ISO8601_DATE w_DIGEST w_PER_TIME_STANDARD w_PER_COORDINATE_SYSTEM w_TIME_SPAN p1 h0 n0 _ T120.heap _
    rw [e120]
    exact ⟨rfl, N120⟩
  · have k123 : Way p e below S0 s₁ (mkF m 8 #[iv p1, iv (15 : Int32), .unset, .unset] []) := by have q := k1; rw [hi2] at q; exact q
    have k124 : Way p e below S0 s₁ (mkF m 9 #[iv p1, iv (15 : Int32), .unset, .unset] [(.int (15 : Int32))]) := by
      intro t k
      refine k123 t ?_
      refine XS.iloadN X0.here hx rfl (hb hby at_8) rfl ?_
      show Steps p.tables e below (s₁.setTop (mkF m 9 #[iv p1, iv (15 : Int32), .unset, .unset] [(.int (15 : Int32))])) _
      exact k
    obtain ⟨_, _, ⟨T125, L125, kk125, nn125⟩, -, X125, ⟨Lc125, hQ125, l125, y125, z125⟩, st125⟩ := Jvm.LawKit.callS X0 hx (y := (⟨"gradivo/spec/ValueKindTakesFormFromPinLaw", "pick", "(I)Lgradivo/spec/ValueKind;"⟩ : MethodName)) hown (mvT hZ (hw _ (List.mem_of_getElem? (i := 1) rfl))) (mvT hZ (hw _ (List.mem_of_getElem? (i := 2) rfl))) (mvT hZ (hw _ (List.mem_of_getElem? (i := 3) rfl))) (mvT hZ (hw _ (List.mem_of_getElem? (i := 4) rfl))) (by decide) (backOf (W := 0) (pick15 l Z a0 hw [] w_TEXT w_COMPOSITE w_CLOSED_LIST w_LISTED w_URI w_ISO3166_1_ALPHA2 w_ISO639 w_ISO15924 w_POSITIVE_NUMBER w_POSITIVE_INTEGER w_NONNEGATIVE_INTEGER w_ISO8601_DATE w_DIGEST w_PER_TIME_STANDARD w_PER_COORDINATE_SYSTEM w_TIME_SPAN G  h0 n0 O0 ) hZ (hw _ (List.mem_of_getElem? (i := 4) rfl)) (hw _ (List.mem_of_getElem? (i := 3) rfl)) (by decide) (by decide)) (g := (mkF m 9 #[iv p1, iv (15 : Int32), .unset, .unset] [(.int (15 : Int32))])) rfl (by rw [hml]; rfl) (argsL := [(.int (15 : Int32))]) (rest := []) (lenOf pd_0 rfl) rfl (by show 2 * 0 + _ ≤ _; exact Nat.le_of_eq rfl) (hb hby at_9) (fun _ _ => ⟨rfl, e0, (by decide : 0 + 0 ≤ _), (by decide : 0 + 0 ≤ _)⟩)
    dsimp only [Pt.U, Pt.locs, Pt.cells, Pt.slots] at X125 l125 y125 z125 st125 hQ125
    subst l125 y125 z125
    obtain ⟨rfl, Nq125, e125⟩ := hQ125
    have N125 := Fr.app N0 Nq125
    have k126 : Way p e below S0 T125 (mkF m 12 #[iv p1, iv (15 : Int32), .unset, .unset] [(.ref w_TIME_SPAN)]) := fun t k => k124 t (st125 _ k)
    have k127 : Way p e below S0 T125 (mkF m 38 #[iv p1, iv (15 : Int32), rv w_TIME_SPAN, iv (0 : Int32)] [(.ref w_TIME_SPAN)]) := by
      intro t k
      refine k126 t ?_
      refine XS.astoreN X125.here hx rfl (hb hby at_12) rfl rfl (l' := #[iv p1, iv (15 : Int32), rv w_TIME_SPAN, .unset]) rfl ?_
      show Steps p.tables e below (T125.setTop (mkF m 13 #[iv p1, iv (15 : Int32), rv w_TIME_SPAN, .unset] [])) _
      refine XS.iloadN X125.here hx rfl (hb hby at_13) rfl ?_
      show Steps p.tables e below (T125.setTop (mkF m 14 #[iv p1, iv (15 : Int32), rv w_TIME_SPAN, .unset] [(.int (15 : Int32))])) _
      refine XS.bipush X125.here hx rfl (hb hby at_14) ?_
      show Steps p.tables e below (T125.setTop (mkF m 16 #[iv p1, iv (15 : Int32), rv w_TIME_SPAN, .unset] [(.int (12 : Int32)), (.int (15 : Int32))])) _
      refine XS.icmpNo X125.here hx rfl (hb hby at_16) rfl (feq ((by decide) : ¬ ((15 : Int32) = (12 : Int32)))).1 ?_
      show Steps p.tables e below (T125.setTop (mkF m 19 #[iv p1, iv (15 : Int32), rv w_TIME_SPAN, .unset] [])) _
      refine XS.iloadN X125.here hx rfl (hb hby at_19) rfl ?_
      show Steps p.tables e below (T125.setTop (mkF m 20 #[iv p1, iv (15 : Int32), rv w_TIME_SPAN, .unset] [(.int (15 : Int32))])) _
      refine XS.bipush X125.here hx rfl (hb hby at_20) ?_
      show Steps p.tables e below (T125.setTop (mkF m 22 #[iv p1, iv (15 : Int32), rv w_TIME_SPAN, .unset] [(.int (13 : Int32)), (.int (15 : Int32))])) _
      refine XS.icmpNo X125.here hx rfl (hb hby at_22) rfl (feq ((by decide) : ¬ ((15 : Int32) = (13 : Int32)))).1 ?_
      show Steps p.tables e below (T125.setTop (mkF m 25 #[iv p1, iv (15 : Int32), rv w_TIME_SPAN, .unset] [])) _
      refine XS.iloadN X125.here hx rfl (hb hby at_25) rfl ?_
      show Steps p.tables e below (T125.setTop (mkF m 26 #[iv p1, iv (15 : Int32), rv w_TIME_SPAN, .unset] [(.int (15 : Int32))])) _
      refine XS.bipush X125.here hx rfl (hb hby at_26) ?_
      show Steps p.tables e below (T125.setTop (mkF m 28 #[iv p1, iv (15 : Int32), rv w_TIME_SPAN, .unset] [(.int (14 : Int32)), (.int (15 : Int32))])) _
      refine XS.icmpYes X125.here hx rfl (pc0 := 28) (pc' := 35) rfl (hb hby at_28) rfl (feq ((by decide) : ¬ ((15 : Int32) = (14 : Int32)))).2 (by decide) (by decide) ?_
      show Steps p.tables e below (T125.setTop (mkF m 35 #[iv p1, iv (15 : Int32), rv w_TIME_SPAN, .unset] [])) _
      refine XS.iconst X125.here hx rfl (hb hby at_35) ?_
      show Steps p.tables e below (T125.setTop (mkF m 36 #[iv p1, iv (15 : Int32), rv w_TIME_SPAN, .unset] [(.int (0 : Int32))])) _
      refine XS.istoreN X125.here hx rfl (hb hby at_36) rfl (l' := #[iv p1, iv (15 : Int32), rv w_TIME_SPAN, iv (0 : Int32)]) rfl ?_
      show Steps p.tables e below (T125.setTop (mkF m 37 #[iv p1, iv (15 : Int32), rv w_TIME_SPAN, iv (0 : Int32)] [])) _
      refine XS.aloadN X125.here hx rfl (hb hby at_37) rfl rfl ?_
      show Steps p.tables e below (T125.setTop (mkF m 38 #[iv p1, iv (15 : Int32), rv w_TIME_SPAN, iv (0 : Int32)] [(.ref w_TIME_SPAN)])) _
      exact k
    obtain ⟨cq128, kq128, qq128a, qq128b, qq128c⟩ := isOf hZ e125 (E_w_TIME_SPAN.ext O0.2)
    obtain ⟨_, _, ⟨T128, L128, kk128, nn128⟩, -, X128, ⟨Lc128, hQ128, l128, y128, z128⟩, st128⟩ := X125.virtualBack hx (y := (⟨"gradivo/spec/ValueKind", "takesFormFrom", "()Z"⟩ : MethodName)) (z := (⟨"gradivo/spec/ValueKind", "takesFormFrom", "()Z"⟩ : MethodName)) hown (mvT hZ (hw _ (List.mem_of_getElem? (i := 8) rfl))) (mvT hZ (hw _ (List.mem_of_getElem? (i := 9) rfl))) (notFace_of_selects (args := #[]) (mvT hZ (hw _ (List.mem_of_getElem? (i := 11) rfl)))) (mvT hZ (hw _ (List.mem_of_getElem? (i := 11) rfl))) (mvT hZ (hw _ (List.mem_of_getElem? (i := 10) rfl))) (by decide) (backOf (W := 0) (tff15 l Z a0 hw [] w_TEXT w_COMPOSITE w_CLOSED_LIST w_LISTED w_URI w_ISO3166_1_ALPHA2 w_ISO639 w_ISO15924 w_POSITIVE_NUMBER w_POSITIVE_INTEGER w_NONNEGATIVE_INTEGER w_ISO8601_DATE w_DIGEST w_PER_TIME_STANDARD w_PER_COORDINATE_SYSTEM w_TIME_SPAN G  h0 n0 O0 ) hZ (hw _ (List.mem_of_getElem? (i := 12) rfl)) (hw _ (List.mem_of_getElem? (i := 6) rfl)) (by decide) (by decide)) qq128a qq128c (g := (mkF m 38 #[iv p1, iv (15 : Int32), rv w_TIME_SPAN, iv (0 : Int32)] [(.ref w_TIME_SPAN)])) rfl (by rw [hml]; rfl) (Steps.refl _) (argsL := []) (rest := []) (lenOf pd_1 rfl) rfl (by show 2 * 0 + _ ≤ _; exact Nat.le_of_eq rfl) (hb hby at_38) (fun _ _ => ⟨rfl, e125, (by decide : 0 + 0 ≤ _), (by decide : 0 + 0 ≤ _)⟩)
    dsimp only [Pt.U, Pt.locs, Pt.cells, Pt.slots] at X128 l128 y128 z128 st128 hQ128
    subst l128 y128 z128
    obtain ⟨rfl, Nq128, e128⟩ := hQ128
    have N128 := Fr.app N125 Nq128
    have k129 : Way p e below S0 T128 (mkF m 41 #[iv p1, iv (15 : Int32), rv w_TIME_SPAN, iv (0 : Int32)] [(.int (0 : Int32))]) := fun t k => k127 t (st128.trans k)
    have k130 : Way p e below S0 T128 (mkF m 50 #[iv p1, iv (15 : Int32), rv w_TIME_SPAN, iv (0 : Int32)] [(.int (1 : Int32))]) := by
      intro t k
      refine k129 t ?_
      refine XS.iloadN X128.here hx rfl (hb hby at_41) rfl ?_
      show Steps p.tables e below (T128.setTop (mkF m 42 #[iv p1, iv (15 : Int32), rv w_TIME_SPAN, iv (0 : Int32)] [(.int (0 : Int32)), (.int (0 : Int32))])) _
      refine XS.icmpNo X128.here hx rfl (hb hby at_42) rfl (teq ((by decide) : (0 : Int32) = (0 : Int32))).2 ?_
      show Steps p.tables e below (T128.setTop (mkF m 45 #[iv p1, iv (15 : Int32), rv w_TIME_SPAN, iv (0 : Int32)] [])) _
      refine XS.iconst X128.here hx rfl (hb hby at_45) ?_
      show Steps p.tables e below (T128.setTop (mkF m 46 #[iv p1, iv (15 : Int32), rv w_TIME_SPAN, iv (0 : Int32)] [(.int (1 : Int32))])) _
      refine XS.goto X128.here hx rfl (pc0 := 46) (pc' := 50) rfl (hb hby at_46) (by decide) (by decide) ?_
      show Steps p.tables e below (T128.setTop (mkF m 50 #[iv p1, iv (15 : Int32), rv w_TIME_SPAN, iv (0 : Int32)] [(.int (1 : Int32))])) _
      exact k
    obtain ⟨fs, hr, hrun, hended, hW, hsame⟩ := X128.leave (v := some (.int (1 : Int32))) (fun h => by rw [Bd.returns] at h; cases h)
    refine ⟨_, _, k130 _ (retN X128 hx (t := .boolean) Bd.returns (by simp) (hb hby at_50) hr), hrun, hended, _, _, rfl, ?_, ⟨_, rfl⟩, hW, hsame.mono (by decide) (by decide)⟩
    show Q_law_met Z w_TEXT w_COMPOSITE w_CLOSED_LIST w_LISTED w_URI w_ISO3166_1_ALPHA2 w_ISO639 w_ISO15924 w_POSITIVE_NUMBER w_POSITIVE_INTEGER w_NONNEGATIVE_INTEGER w_ISO8601_DATE w_DIGEST w_PER_TIME_STANDARD w_PER_COORDINATE_SYSTEM w_TIME_SPAN p1 h0 n0 _ T128.heap _
    rw [e128]
    exact ⟨rfl, N128⟩
set_option maxRecDepth 65536 in
set_option maxHeartbeats 40000000 in
theorem comes_1 {Post : Tables → Env → Array Value → State → Outcome → State → Prop} (hpost : ∀ tb e args s v u, (limb_1_1.after args s (.returned v) u = true ∧ limb_1_2.after args s (.returned v) u = true ∧ True) → FrameEnd s (.returned v) u (Jvm.fieldLocs frame_1_writes args s ++ Jvm.arrayLocs frame_1_arrays args s ++ Jvm.staticLocs frame_1_statics s) 0 0 → Post tb e args s (.returned v) u) :
    ArmFor flags0 classFile x code maxLocals ret World_1 tables_1 room_1 Calls_1 rest_1 Pre_1 Post := by
  intro l hfl _ _ p e ha hc hk s m args below hf hA hF happ hP
  obtain ⟨hcalls, hrest, hpre⟩ := hP
  obtain ⟨-, -, -, hnamed, -, -, -, hat⟩ := (Spec.applies_iff hf).mp happ
  obtain ⟨hg, hn⟩ := and_e (Cond.before_iff.mp (show (Jvm.Cond.and given_1 narrow_1).before args s = true from hpre))
  obtain ⟨g1a, g1b⟩ := and_e hg
  obtain ⟨g2a, g2b⟩ := and_e hn
  obtain ⟨g3a, g3b⟩ := and_e g2b
  obtain ⟨g4a, g4b⟩ := and_e g3b
  obtain ⟨g5a, g5b⟩ := and_e g4b
  obtain ⟨g6a, g6b⟩ := and_e g5b
  obtain ⟨g7a, g7b⟩ := and_e g6b
  obtain ⟨g8a, g8b⟩ := and_e g7b
  obtain ⟨g9a, g9b⟩ := and_e g8b
  obtain ⟨g10a, g10b⟩ := and_e g9b
  obtain ⟨g11a, g11b⟩ := and_e g10b
  obtain ⟨g12a, g12b⟩ := and_e g11b
  obtain ⟨g13a, g13b⟩ := and_e g12b
  obtain ⟨g14a, g14b⟩ := and_e g13b
  obtain ⟨g15a, g15b⟩ := and_e g14b
  obtain ⟨g16a, g16b⟩ := and_e g15b
  obtain ⟨g17a, g17b⟩ := and_e g16b
  obtain ⟨g18a, g18b⟩ := and_e g17b
  obtain ⟨g19a, g19b⟩ := and_e g18b
  obtain ⟨g20a, g20b⟩ := and_e g19b
  obtain ⟨g21a, g21b⟩ := and_e g20b
  obtain ⟨g22a, g22b⟩ := and_e g21b
  obtain ⟨g23a, g23b⟩ := and_e g22b
  obtain ⟨g24a, g24b⟩ := and_e g23b
  obtain ⟨g25a, g25b⟩ := and_e g24b
  obtain ⟨g26a, g26b⟩ := and_e g25b
  obtain ⟨g27a, g27b⟩ := and_e g26b
  obtain ⟨g28a, g28b⟩ := and_e g27b
  obtain ⟨g29a, g29b⟩ := and_e g28b
  obtain ⟨g30a, g30b⟩ := and_e g29b
  obtain ⟨g31a, g31b⟩ := and_e g30b
  obtain ⟨g32a, g32b⟩ := and_e g31b
  obtain ⟨w0, rfl⟩ : ∃ w0 : Value, args = #[w0] := by
    have hs : args.size = 1 := by simpa [Cond.value, given_1] using g1a
    obtain ⟨L⟩ := args
    match L, hs with
    | [w0], _ => exact ⟨w0, rfl⟩
  have hw := fun d (hd : d ∈ tables_1) => atoms_spec (ws := Jvm.Cond.code x code maxLocals ret :: tables_1) hat d (List.mem_cons_of_mem _ hd)
  have hfit : Fit s := fun {y c} hc i hi => by
    obtain ⟨ha, rfl⟩ := Array.getElem?_eq_some_iff.mp hc
    have q := List.all_eq_true.mp ((Array.all_eq_true_iff_forall_mem.mp hF) _ (Array.getElem_mem ha)) i (List.mem_range.mpr hi)
    simpa [Array.getElem?_eq_getElem hi] using q
  obtain ⟨i0, ei0⟩ := is_v g1b
  obtain rfl : w0 = (.int i0) := Option.some.inj ei0
  obtain ⟨w_TEXT, ev_w_TEXT⟩ := exa_v g2a
  have S_w_TEXT := Sta.start ev_w_TEXT (Or.inr ⟨(hw _ (List.mem_of_getElem? (i := 6) rfl)), (hw _ (List.mem_of_getElem? (i := 7) rfl))⟩)
  have E_w_TEXT := Exa.start ev_w_TEXT g2a
  obtain ⟨w_DIGEST, ev_w_DIGEST⟩ := exa_v g3a
  have S_w_DIGEST := Sta.start ev_w_DIGEST (Or.inr ⟨(hw _ (List.mem_of_getElem? (i := 6) rfl)), (hw _ (List.mem_of_getElem? (i := 14) rfl))⟩)
  have E_w_DIGEST := Exa.start ev_w_DIGEST g3a
  obtain ⟨w_PER_TIME_STANDARD, ev_w_PER_TIME_STANDARD⟩ := exa_v g6a
  have S_w_PER_TIME_STANDARD := Sta.start ev_w_PER_TIME_STANDARD (Or.inr ⟨(hw _ (List.mem_of_getElem? (i := 6) rfl)), (hw _ (List.mem_of_getElem? (i := 16) rfl))⟩)
  have E_w_PER_TIME_STANDARD := Exa.start ev_w_PER_TIME_STANDARD g6a
  obtain ⟨w_PER_COORDINATE_SYSTEM, ev_w_PER_COORDINATE_SYSTEM⟩ := exa_v g8a
  have S_w_PER_COORDINATE_SYSTEM := Sta.start ev_w_PER_COORDINATE_SYSTEM (Or.inr ⟨(hw _ (List.mem_of_getElem? (i := 6) rfl)), (hw _ (List.mem_of_getElem? (i := 18) rfl))⟩)
  have E_w_PER_COORDINATE_SYSTEM := Exa.start ev_w_PER_COORDINATE_SYSTEM g8a
  obtain ⟨w_LISTED, ev_w_LISTED⟩ := exa_v g10a
  have S_w_LISTED := Sta.start ev_w_LISTED (Or.inr ⟨(hw _ (List.mem_of_getElem? (i := 6) rfl)), (hw _ (List.mem_of_getElem? (i := 20) rfl))⟩)
  have E_w_LISTED := Exa.start ev_w_LISTED g10a
  obtain ⟨w_TIME_SPAN, ev_w_TIME_SPAN⟩ := exa_v g12a
  have S_w_TIME_SPAN := Sta.start ev_w_TIME_SPAN (Or.inr ⟨(hw _ (List.mem_of_getElem? (i := 6) rfl)), (hw _ (List.mem_of_getElem? (i := 23) rfl))⟩)
  have E_w_TIME_SPAN := Exa.start ev_w_TIME_SPAN g12a
  obtain ⟨w_NONNEGATIVE_INTEGER, ev_w_NONNEGATIVE_INTEGER⟩ := exa_v g14a
  have S_w_NONNEGATIVE_INTEGER := Sta.start ev_w_NONNEGATIVE_INTEGER (Or.inr ⟨(hw _ (List.mem_of_getElem? (i := 6) rfl)), (hw _ (List.mem_of_getElem? (i := 25) rfl))⟩)
  have E_w_NONNEGATIVE_INTEGER := Exa.start ev_w_NONNEGATIVE_INTEGER g14a
  obtain ⟨w_ISO15924, ev_w_ISO15924⟩ := exa_v g16a
  have S_w_ISO15924 := Sta.start ev_w_ISO15924 (Or.inr ⟨(hw _ (List.mem_of_getElem? (i := 6) rfl)), (hw _ (List.mem_of_getElem? (i := 27) rfl))⟩)
  have E_w_ISO15924 := Exa.start ev_w_ISO15924 g16a
  obtain ⟨w_CLOSED_LIST, ev_w_CLOSED_LIST⟩ := exa_v g18a
  have S_w_CLOSED_LIST := Sta.start ev_w_CLOSED_LIST (Or.inr ⟨(hw _ (List.mem_of_getElem? (i := 6) rfl)), (hw _ (List.mem_of_getElem? (i := 29) rfl))⟩)
  have E_w_CLOSED_LIST := Exa.start ev_w_CLOSED_LIST g18a
  obtain ⟨w_ISO8601_DATE, ev_w_ISO8601_DATE⟩ := exa_v g20a
  have S_w_ISO8601_DATE := Sta.start ev_w_ISO8601_DATE (Or.inr ⟨(hw _ (List.mem_of_getElem? (i := 6) rfl)), (hw _ (List.mem_of_getElem? (i := 31) rfl))⟩)
  have E_w_ISO8601_DATE := Exa.start ev_w_ISO8601_DATE g20a
  obtain ⟨w_POSITIVE_NUMBER, ev_w_POSITIVE_NUMBER⟩ := exa_v g22a
  have S_w_POSITIVE_NUMBER := Sta.start ev_w_POSITIVE_NUMBER (Or.inr ⟨(hw _ (List.mem_of_getElem? (i := 6) rfl)), (hw _ (List.mem_of_getElem? (i := 33) rfl))⟩)
  have E_w_POSITIVE_NUMBER := Exa.start ev_w_POSITIVE_NUMBER g22a
  obtain ⟨w_COMPOSITE, ev_w_COMPOSITE⟩ := exa_v g24a
  have S_w_COMPOSITE := Sta.start ev_w_COMPOSITE (Or.inr ⟨(hw _ (List.mem_of_getElem? (i := 6) rfl)), (hw _ (List.mem_of_getElem? (i := 35) rfl))⟩)
  have E_w_COMPOSITE := Exa.start ev_w_COMPOSITE g24a
  obtain ⟨w_URI, ev_w_URI⟩ := exa_v g26a
  have S_w_URI := Sta.start ev_w_URI (Or.inr ⟨(hw _ (List.mem_of_getElem? (i := 6) rfl)), (hw _ (List.mem_of_getElem? (i := 37) rfl))⟩)
  have E_w_URI := Exa.start ev_w_URI g26a
  obtain ⟨w_ISO639, ev_w_ISO639⟩ := exa_v g28a
  have S_w_ISO639 := Sta.start ev_w_ISO639 (Or.inr ⟨(hw _ (List.mem_of_getElem? (i := 6) rfl)), (hw _ (List.mem_of_getElem? (i := 41) rfl))⟩)
  have E_w_ISO639 := Exa.start ev_w_ISO639 g28a
  obtain ⟨w_POSITIVE_INTEGER, ev_w_POSITIVE_INTEGER⟩ := exa_v g30a
  have S_w_POSITIVE_INTEGER := Sta.start ev_w_POSITIVE_INTEGER (Or.inr ⟨(hw _ (List.mem_of_getElem? (i := 6) rfl)), (hw _ (List.mem_of_getElem? (i := 43) rfl))⟩)
  have E_w_POSITIVE_INTEGER := Exa.start ev_w_POSITIVE_INTEGER g30a
  obtain ⟨w_ISO3166_1_ALPHA2, ev_w_ISO3166_1_ALPHA2⟩ := exa_v g32a
  have S_w_ISO3166_1_ALPHA2 := Sta.start ev_w_ISO3166_1_ALPHA2 (Or.inr ⟨(hw _ (List.mem_of_getElem? (i := 6) rfl)), (hw _ (List.mem_of_getElem? (i := 45) rfl))⟩)
  have E_w_ISO3166_1_ALPHA2 := Exa.start ev_w_ISO3166_1_ALPHA2 g32a
  have F_w_TEXT_ordinal := Fld.start (own_eqF ev_w_TEXT g4a)
  have F_w_DIGEST_ordinal := Fld.start (own_eqF ev_w_DIGEST g5a)
  have F_w_PER_TIME_STANDARD_ordinal := Fld.start (own_eqF ev_w_PER_TIME_STANDARD g7a)
  have F_w_PER_COORDINATE_SYSTEM_ordinal := Fld.start (own_eqF ev_w_PER_COORDINATE_SYSTEM g9a)
  have F_w_LISTED_ordinal := Fld.start (own_eqF ev_w_LISTED g11a)
  have F_w_TIME_SPAN_ordinal := Fld.start (own_eqF ev_w_TIME_SPAN g13a)
  have F_w_NONNEGATIVE_INTEGER_ordinal := Fld.start (own_eqF ev_w_NONNEGATIVE_INTEGER g15a)
  have F_w_ISO15924_ordinal := Fld.start (own_eqF ev_w_ISO15924 g17a)
  have F_w_CLOSED_LIST_ordinal := Fld.start (own_eqF ev_w_CLOSED_LIST g19a)
  have F_w_ISO8601_DATE_ordinal := Fld.start (own_eqF ev_w_ISO8601_DATE g21a)
  have F_w_POSITIVE_NUMBER_ordinal := Fld.start (own_eqF ev_w_POSITIVE_NUMBER g23a)
  have F_w_COMPOSITE_ordinal := Fld.start (own_eqF ev_w_COMPOSITE g25a)
  have F_w_URI_ordinal := Fld.start (own_eqF ev_w_URI g27a)
  have F_w_ISO639_ordinal := Fld.start (own_eqF ev_w_ISO639 g29a)
  have F_w_POSITIVE_INTEGER_ordinal := Fld.start (own_eqF ev_w_POSITIVE_INTEGER g31a)
  have F_w_ISO3166_1_ALPHA2_ordinal := Fld.start (own_eqF ev_w_ISO3166_1_ALPHA2 g32b)
  have G : Gst s w_TEXT w_COMPOSITE w_CLOSED_LIST w_LISTED w_URI w_ISO3166_1_ALPHA2 w_ISO639 w_ISO15924 w_POSITIVE_NUMBER w_POSITIVE_INTEGER w_NONNEGATIVE_INTEGER w_ISO8601_DATE w_DIGEST w_PER_TIME_STANDARD w_PER_COORDINATE_SYSTEM w_TIME_SPAN := ⟨S_w_TEXT, E_w_TEXT, F_w_TEXT_ordinal, S_w_COMPOSITE, E_w_COMPOSITE, F_w_COMPOSITE_ordinal, S_w_CLOSED_LIST, E_w_CLOSED_LIST, F_w_CLOSED_LIST_ordinal, S_w_LISTED, E_w_LISTED, F_w_LISTED_ordinal, S_w_URI, E_w_URI, F_w_URI_ordinal, S_w_ISO3166_1_ALPHA2, E_w_ISO3166_1_ALPHA2, F_w_ISO3166_1_ALPHA2_ordinal, S_w_ISO639, E_w_ISO639, F_w_ISO639_ordinal, S_w_ISO15924, E_w_ISO15924, F_w_ISO15924_ordinal, S_w_POSITIVE_NUMBER, E_w_POSITIVE_NUMBER, F_w_POSITIVE_NUMBER_ordinal, S_w_POSITIVE_INTEGER, E_w_POSITIVE_INTEGER, F_w_POSITIVE_INTEGER_ordinal, S_w_NONNEGATIVE_INTEGER, E_w_NONNEGATIVE_INTEGER, F_w_NONNEGATIVE_INTEGER_ordinal, S_w_ISO8601_DATE, E_w_ISO8601_DATE, F_w_ISO8601_DATE_ordinal, S_w_DIGEST, E_w_DIGEST, F_w_DIGEST_ordinal, S_w_PER_TIME_STANDARD, E_w_PER_TIME_STANDARD, F_w_PER_TIME_STANDARD_ordinal, S_w_PER_COORDINATE_SYSTEM, E_w_PER_COORDINATE_SYSTEM, F_w_PER_COORDINATE_SYSTEM_ordinal, S_w_TIME_SPAN, E_w_TIME_SPAN, F_w_TIME_SPAN_ordinal⟩
  obtain ⟨n, o, h1, h2, h3, _, L, rfl, ⟨rfl, N⟩, hq⟩ := law_met l s _ hw tables_1 w_TEXT w_COMPOSITE w_CLOSED_LIST w_LISTED w_URI w_ISO3166_1_ALPHA2 w_ISO639 w_ISO15924 w_POSITIVE_NUMBER w_POSITIVE_INTEGER w_NONNEGATIVE_INTEGER w_ISO8601_DATE w_DIGEST w_PER_TIME_STANDARD w_PER_COORDINATE_SYSTEM w_TIME_SPAN G i0 s.heap s.heap.size (Old.start s)  p e ha hc hk s m _ below hf ((Spec.applies_iff_loose hf).mp happ).1 ⟨rfl, State.Warmed39.refl s, rfl⟩ trivial
  refine ⟨n, _, h1, h2, h3, hpost _ _ _ _ _ _ ⟨Cond.after_iff.mpr rfl, Cond.after_iff.mpr (eq_i res_at (Term.int_eval (1)) rfl), trivial⟩ ⟨hq.1, hq.2.1, (hq.2.2.sift fun y hy => Or.inr (N y hy)).mono (by decide) (by decide)⟩⟩
theorem main_1_1 : Claimed_1_1 := comes_1 fun _ _ _ _ _ _ h hF => ⟨h.1, hF⟩
theorem main_1_2 : Claimed_1_2 := comes_1 fun _ _ _ _ _ _ h hF => ⟨h.2.1, hF⟩
end Jvm.Pilot.@@N@@
namespace Jvm.Pilot.@@N@@
open Jvm Jvm.ClassFile Sem Op Lib Jvm.Free Jvm.Stand Jvm.Pilot.@@N@@.Jvm.D
/-! MADE BY PROGRAM (witnessworld.py) out of the Statement's table words and the real class files: 12 classes; the members and pool entries that the words name. The judged class is class 1, her method 2. -/
namespace start1
open Jvm.ClassFile
def u (s : String) : CpInfo := .utf8 (stringToUtf16 s)
/-- a pool by its gaps: so many unusable entries, then the entry; so many at the end -/
def gap : Nat → List CpInfo → List CpInfo
  | 0, r => r
  | n + 1, r => .unusable :: gap n r
def poolList (es : List (Nat × CpInfo)) (last : Nat) : List CpInfo := es.foldr (fun e r => gap e.1 (e.2 :: r)) (gap last [])
def pool (es : List (Nat × CpInfo)) (last : Nat) : Array CpInfo := ⟨poolList es last⟩
def fileOf (pool : Array CpInfo) (this : Nat) (attrs : Array Attribute := #[]) (ms : Array MethodInfo := #[]) (fl : Nat := 33) (sup : Nat := 0) (ifs : Array Nat := #[]) (fds : Array FieldInfo := #[]) : ClassFile where
  minorVersion := 0
  majorVersion := 65
  constantPool := pool
  accessFlags := fl
  thisClass := this
  superClass := sup
  interfaces := ifs
  fields := fds
  methods := ms
  attributes := attrs
def plain (name : String) (sup : Option ClassId) : Class where
  name := name
  kind := .ordinary
  loader := none
  accessFlags := 33
  super := sup
  interfaces := #[]
  cf := none
  fields := #[]
  methods := #[]
  instanceTypes := #[]
  staticTypes := #[]
  resolved := #[]
  callSites := []
  init := .initialized
  statics := none
  mirror := none

def pool0 : Array CpInfo := pool [(5, u "<init>"), (0, u "()V"), (1, .class_ 10), (1, u "java/lang/Object")] 113

def k0m0 : Method := { name := "<init>", desc := "()V", sig := { parameters := [], returnType := none }, accessFlags := 1, code := none }
/-- java/lang/Object -/
def k0 : Class := { plain "java/lang/Object" none with
  accessFlags := 33
  interfaces := #[]
  cf := some (fileOf pool0 8 #[] #[{ accessFlags := 1, nameIndex := 5, descriptorIndex := 6, attributes := #[] }] 33 0 #[] #[])
  fields := #[]
  methods := #[k0m0]
  instanceTypes := #[]
  staticTypes := #[]
  resolved := Array.replicate 124 none
  statics := none }

def pool1 : Array CpInfo := pool [(2, .class_ 4), (1, u "java/lang/Object"), (0, u "<init>"), (0, u "()V"), (0, .fieldref 8 9), (0, .class_ 10), (0, .nameAndType 11 12), (0, u "gradivo/spec/ValueKind"), (0, u "TEXT"), (0, u "Lgradivo/spec/ValueKind;"), (0, .fieldref 8 14), (0, .nameAndType 15 12), (0, u "COMPOSITE"), (0, .fieldref 8 17), (0, .nameAndType 18 12), (0, u "CLOSED_LIST"), (0, .fieldref 8 20), (0, .nameAndType 21 12), (0, u "LISTED"), (0, .fieldref 8 23), (0, .nameAndType 24 12), (0, u "URI"), (0, .fieldref 8 26), (0, .nameAndType 27 12), (0, u "ISO3166_1_ALPHA2"), (0, .fieldref 8 29), (0, .nameAndType 30 12), (0, u "ISO639"), (0, .fieldref 8 32), (0, .nameAndType 33 12), (0, u "ISO15924"), (0, .fieldref 8 35), (0, .nameAndType 36 12), (0, u "POSITIVE_NUMBER"), (0, .fieldref 8 38), (0, .nameAndType 39 12), (0, u "POSITIVE_INTEGER"), (0, .fieldref 8 41), (0, .nameAndType 42 12), (0, u "NONNEGATIVE_INTEGER"), (0, .fieldref 8 44), (0, .nameAndType 45 12), (0, u "ISO8601_DATE"), (0, .fieldref 8 47), (0, .nameAndType 48 12), (0, u "DIGEST"), (0, .fieldref 8 50), (0, .nameAndType 51 12), (0, u "PER_TIME_STANDARD"), (0, .fieldref 8 53), (0, .nameAndType 54 12), (0, u "PER_COORDINATE_SYSTEM"), (0, .fieldref 8 56), (0, .nameAndType 57 12), (0, u "TIME_SPAN"), (0, .integer 2147483647), (0, .methodref 60 61), (0, .class_ 62), (0, .nameAndType 63 64), (0, u "gradivo/spec/ValueKindTakesFormFromPinLaw"), (0, u "pick"), (0, u "(I)Lgradivo/spec/ValueKind;"), (0, .methodref 8 66), (0, .nameAndType 67 68), (0, u "takesFormFrom"), (0, u "()Z"), (3, u "law"), (0, u "(I)Z")] 2

def k1m0 : Method := { name := "<init>", desc := "()V", sig := { parameters := [], returnType := none }, accessFlags := 2, code := none }
def k1c1 : Code := { maxStack := 2, maxLocals := 1, code := method_2_code, exceptionTable := #[], attributes := #[] }
def k1m1 : Method := { name := "pick", desc := "(I)Lgradivo/spec/ValueKind;", sig := { parameters := [.int], returnType := some (.object "gradivo/spec/ValueKind") }, accessFlags := 10, code := some k1c1 }
def k1c2 : Code := { maxStack := 2, maxLocals := 4, code := code, exceptionTable := #[], attributes := #[] }
def k1m2 : Method := { name := "law", desc := "(I)Z", sig := { parameters := [.int], returnType := some .boolean }, accessFlags := 9, code := some k1c2 }
/-- gradivo/spec/ValueKindTakesFormFromPinLaw -/
def k1 : Class := { plain "gradivo/spec/ValueKindTakesFormFromPinLaw" (some 0) with
  accessFlags := 49
  interfaces := #[]
  cf := some (fileOf pool1 60 #[] #[{ accessFlags := 2, nameIndex := 5, descriptorIndex := 6, attributes := #[] }, { accessFlags := 10, nameIndex := 63, descriptorIndex := 64, attributes := #[] }, { accessFlags := 9, nameIndex := 72, descriptorIndex := 73, attributes := #[] }] 49 2 #[] #[])
  fields := #[]
  methods := #[k1m0, k1m1, k1m2]
  instanceTypes := #[]
  staticTypes := #[]
  resolved := Array.replicate 76 none
  statics := none }

def pool2 : Array CpInfo := pool [(1, .class_ 2), (0, u "java/lang/constant/Constable"), (0, .class_ 4), (0, u "java/lang/Object")] 6

/-- java/lang/constant/Constable -/
def k2 : Class := { plain "java/lang/constant/Constable" (some 0) with
  accessFlags := 1537
  interfaces := #[]
  cf := some (fileOf pool2 1 #[] #[] 1537 3 #[] #[])
  fields := #[]
  methods := #[]
  instanceTypes := #[]
  staticTypes := #[]
  resolved := Array.replicate 11 none
  statics := none }

def pool3 : Array CpInfo := pool [(1, .class_ 2), (0, u "java/lang/Comparable"), (0, .class_ 4), (0, u "java/lang/Object")] 7

/-- java/lang/Comparable -/
def k3 : Class := { plain "java/lang/Comparable" (some 0) with
  accessFlags := 1537
  interfaces := #[]
  cf := some (fileOf pool3 1 #[] #[] 1537 3 #[] #[])
  fields := #[]
  methods := #[]
  instanceTypes := #[]
  staticTypes := #[]
  resolved := Array.replicate 12 none
  statics := none }

def pool4 : Array CpInfo := pool [(1, .class_ 2), (0, u "java/io/Serializable"), (0, .class_ 4), (0, u "java/lang/Object")] 2

/-- java/io/Serializable -/
def k4 : Class := { plain "java/io/Serializable" (some 0) with
  accessFlags := 1537
  interfaces := #[]
  cf := some (fileOf pool4 1 #[] #[] 1537 3 #[] #[])
  fields := #[]
  methods := #[]
  instanceTypes := #[]
  staticTypes := #[]
  resolved := Array.replicate 7 none
  statics := none }

def pool5 : Array CpInfo := pool [(2, .class_ 4), (1, u "java/lang/Enum"), (0, u "name"), (0, u "Ljava/lang/String;"), (2, u "ordinal"), (0, u "I"), (1, .class_ 14), (1, u "java/lang/Object"), (4, u "hash"), (86, .class_ 108), (1, u "java/lang/Enum$EnumDesc"), (2, .class_ 112), (0, u "java/lang/constant/Constable"), (0, .class_ 114), (0, u "java/lang/Comparable"), (0, .class_ 116), (0, u "java/io/Serializable")] 87

/-- java/lang/Enum -/
def k5 : Class := { plain "java/lang/Enum" (some 0) with
  accessFlags := 1057
  interfaces := #[2, 3, 4]
  cf := some (fileOf pool5 2 #[.nestMembers #[106]] #[] 1057 12 #[111, 113, 115] #[{ accessFlags := 18, nameIndex := 5, descriptorIndex := 6, attributes := #[] }, { accessFlags := 18, nameIndex := 9, descriptorIndex := 10, attributes := #[] }, { accessFlags := 2, nameIndex := 19, descriptorIndex := 10, attributes := #[] }])
  fields := #[{ name := "name", type := (.object "java/lang/String"), accessFlags := 18, slot := 0, constantValue := 0 }, { name := "ordinal", type := .int, accessFlags := 18, slot := 1, constantValue := 0 }, { name := "hash", type := .int, accessFlags := 2, slot := 2, constantValue := 0 }]
  methods := #[]
  instanceTypes := #[(.object "java/lang/String"), .int, .int]
  staticTypes := #[]
  resolved := Array.replicate 204 none
  statics := none }

def pool6 : Array CpInfo := pool [(1, .class_ 2), (0, u "gradivo/spec/ValueKind"), (2, u "TEXT"), (0, u "Lgradivo/spec/ValueKind;"), (2, u "COMPOSITE"), (2, u "CLOSED_LIST"), (2, u "LISTED"), (2, u "URI"), (2, u "ISO3166_1_ALPHA2"), (2, u "ISO639"), (2, u "ISO15924"), (2, u "POSITIVE_NUMBER"), (2, u "POSITIVE_INTEGER"), (2, u "NONNEGATIVE_INTEGER"), (2, u "ISO8601_DATE"), (0, .fieldref 1 41), (0, .nameAndType 42 6), (0, u "DIGEST"), (0, .fieldref 1 44), (0, .nameAndType 45 6), (0, u "PER_TIME_STANDARD"), (0, .fieldref 1 47), (0, .nameAndType 48 6), (0, u "PER_COORDINATE_SYSTEM"), (2, u "TIME_SPAN"), (2, u "$VALUES"), (0, u "[Lgradivo/spec/ValueKind;"), (6, .class_ 64), (1, u "java/lang/Enum"), (8, u "word"), (0, u "Ljava/lang/String;"), (50, u "()Z"), (19, u "WGS84"), (180, u "ISO_8601"), (11, u "takesFormFrom")] 39

def k6c0 : Code := { maxStack := 2, maxLocals := 1, code := prog_105_method_7_code, exceptionTable := #[], attributes := #[] }
def k6m0 : Method := { name := "takesFormFrom", desc := "()Z", sig := { parameters := [], returnType := some .boolean }, accessFlags := 1, code := some k6c0 }
/-- gradivo/spec/ValueKind -/
def k6 : Class := { plain "gradivo/spec/ValueKind" (some 5) with
  accessFlags := 16433
  interfaces := #[]
  cf := some (fileOf pool6 1 #[] #[{ accessFlags := 1, nameIndex := 338, descriptorIndex := 125, attributes := #[] }] 16433 62 #[] #[{ accessFlags := 16409, nameIndex := 5, descriptorIndex := 6, attributes := #[] }, { accessFlags := 16409, nameIndex := 9, descriptorIndex := 6, attributes := #[] }, { accessFlags := 16409, nameIndex := 12, descriptorIndex := 6, attributes := #[] }, { accessFlags := 16409, nameIndex := 15, descriptorIndex := 6, attributes := #[] }, { accessFlags := 16409, nameIndex := 18, descriptorIndex := 6, attributes := #[] }, { accessFlags := 16409, nameIndex := 21, descriptorIndex := 6, attributes := #[] }, { accessFlags := 16409, nameIndex := 24, descriptorIndex := 6, attributes := #[] }, { accessFlags := 16409, nameIndex := 27, descriptorIndex := 6, attributes := #[] }, { accessFlags := 16409, nameIndex := 30, descriptorIndex := 6, attributes := #[] }, { accessFlags := 16409, nameIndex := 33, descriptorIndex := 6, attributes := #[] }, { accessFlags := 16409, nameIndex := 36, descriptorIndex := 6, attributes := #[] }, { accessFlags := 16409, nameIndex := 39, descriptorIndex := 6, attributes := #[] }, { accessFlags := 16409, nameIndex := 42, descriptorIndex := 6, attributes := #[] }, { accessFlags := 16409, nameIndex := 45, descriptorIndex := 6, attributes := #[] }, { accessFlags := 16409, nameIndex := 48, descriptorIndex := 6, attributes := #[] }, { accessFlags := 16409, nameIndex := 51, descriptorIndex := 6, attributes := #[] }, { accessFlags := 26, nameIndex := 326, descriptorIndex := 74, attributes := #[] }, { accessFlags := 26, nameIndex := 145, descriptorIndex := 74, attributes := #[] }, { accessFlags := 18, nameIndex := 73, descriptorIndex := 74, attributes := #[] }, { accessFlags := 4122, nameIndex := 54, descriptorIndex := 55, attributes := #[] }])
  fields := #[{ name := "TEXT", type := (.object "gradivo/spec/ValueKind"), accessFlags := 16409, slot := 0, constantValue := 0 }, { name := "COMPOSITE", type := (.object "gradivo/spec/ValueKind"), accessFlags := 16409, slot := 1, constantValue := 0 }, { name := "CLOSED_LIST", type := (.object "gradivo/spec/ValueKind"), accessFlags := 16409, slot := 2, constantValue := 0 }, { name := "LISTED", type := (.object "gradivo/spec/ValueKind"), accessFlags := 16409, slot := 3, constantValue := 0 }, { name := "URI", type := (.object "gradivo/spec/ValueKind"), accessFlags := 16409, slot := 4, constantValue := 0 }, { name := "ISO3166_1_ALPHA2", type := (.object "gradivo/spec/ValueKind"), accessFlags := 16409, slot := 5, constantValue := 0 }, { name := "ISO639", type := (.object "gradivo/spec/ValueKind"), accessFlags := 16409, slot := 6, constantValue := 0 }, { name := "ISO15924", type := (.object "gradivo/spec/ValueKind"), accessFlags := 16409, slot := 7, constantValue := 0 }, { name := "POSITIVE_NUMBER", type := (.object "gradivo/spec/ValueKind"), accessFlags := 16409, slot := 8, constantValue := 0 }, { name := "POSITIVE_INTEGER", type := (.object "gradivo/spec/ValueKind"), accessFlags := 16409, slot := 9, constantValue := 0 }, { name := "NONNEGATIVE_INTEGER", type := (.object "gradivo/spec/ValueKind"), accessFlags := 16409, slot := 10, constantValue := 0 }, { name := "ISO8601_DATE", type := (.object "gradivo/spec/ValueKind"), accessFlags := 16409, slot := 11, constantValue := 0 }, { name := "DIGEST", type := (.object "gradivo/spec/ValueKind"), accessFlags := 16409, slot := 12, constantValue := 0 }, { name := "PER_TIME_STANDARD", type := (.object "gradivo/spec/ValueKind"), accessFlags := 16409, slot := 13, constantValue := 0 }, { name := "PER_COORDINATE_SYSTEM", type := (.object "gradivo/spec/ValueKind"), accessFlags := 16409, slot := 14, constantValue := 0 }, { name := "TIME_SPAN", type := (.object "gradivo/spec/ValueKind"), accessFlags := 16409, slot := 15, constantValue := 0 }, { name := "ISO_8601", type := (.object "java/lang/String"), accessFlags := 26, slot := 16, constantValue := 0 }, { name := "WGS84", type := (.object "java/lang/String"), accessFlags := 26, slot := 17, constantValue := 0 }, { name := "word", type := (.object "java/lang/String"), accessFlags := 18, slot := 3, constantValue := 0 }, { name := "$VALUES", type := (.array (.object "gradivo/spec/ValueKind")), accessFlags := 4122, slot := 18, constantValue := 0 }]
  methods := #[k6m0]
  instanceTypes := #[(.object "java/lang/String"), .int, .int, (.object "java/lang/String")]
  staticTypes := #[(.object "gradivo/spec/ValueKind"), (.object "gradivo/spec/ValueKind"), (.object "gradivo/spec/ValueKind"), (.object "gradivo/spec/ValueKind"), (.object "gradivo/spec/ValueKind"), (.object "gradivo/spec/ValueKind"), (.object "gradivo/spec/ValueKind"), (.object "gradivo/spec/ValueKind"), (.object "gradivo/spec/ValueKind"), (.object "gradivo/spec/ValueKind"), (.object "gradivo/spec/ValueKind"), (.object "gradivo/spec/ValueKind"), (.object "gradivo/spec/ValueKind"), (.object "gradivo/spec/ValueKind"), (.object "gradivo/spec/ValueKind"), (.object "gradivo/spec/ValueKind"), (.object "java/lang/String"), (.object "java/lang/String"), (.array (.object "gradivo/spec/ValueKind"))]
  resolved := Array.replicate 378 none
  statics := some 0 }

def pool7 : Array CpInfo := pool [(1, u "java/lang/Cloneable"), (0, .class_ 1), (0, u "java/lang/Object"), (0, .class_ 3)] 3

/-- java/lang/Cloneable -/
def k7 : Class := { plain "java/lang/Cloneable" (some 0) with
  accessFlags := 1537
  interfaces := #[]
  cf := some (fileOf pool7 2 #[] #[] 1537 4 #[] #[])
  fields := #[]
  methods := #[]
  instanceTypes := #[]
  staticTypes := #[]
  resolved := Array.replicate 8 none
  statics := none }

/-- the primitive byte -/
def k8 : Class := { plain "byte" none with kind := .primitive 'B', accessFlags := 0x411 }
/-- [B -/
def k9 : Class := { plain "[B" (some 0) with kind := .array 8 .byte, interfaces := #[7, 4], accessFlags := 1041 }

/-- the primitive int -/
def k10 : Class := { plain "int" none with kind := .primitive 'I', accessFlags := 0x411 }
/-- [I -/
def k11 : Class := { plain "[I" (some 0) with kind := .array 10 .int, interfaces := #[7, 4], accessFlags := 1041 }

def heap : Heap := #[{ cls := 6, slots := #[.ref 1, .ref 2, .ref 3, .ref 4, .ref 5, .ref 6, .ref 7, .ref 8, .ref 9, .ref 10, .ref 11, .ref 12, .ref 13, .ref 14, .ref 15, .ref 16, .null, .null, .null], vm := .statics 6 },
  { cls := 6, slots := #[.null, .int 0, .int 0, .null], vm := .none },
  { cls := 6, slots := #[.null, .int 1, .int 0, .null], vm := .none },
  { cls := 6, slots := #[.null, .int 2, .int 0, .null], vm := .none },
  { cls := 6, slots := #[.null, .int 3, .int 0, .null], vm := .none },
  { cls := 6, slots := #[.null, .int 4, .int 0, .null], vm := .none },
  { cls := 6, slots := #[.null, .int 5, .int 0, .null], vm := .none },
  { cls := 6, slots := #[.null, .int 6, .int 0, .null], vm := .none },
  { cls := 6, slots := #[.null, .int 7, .int 0, .null], vm := .none },
  { cls := 6, slots := #[.null, .int 8, .int 0, .null], vm := .none },
  { cls := 6, slots := #[.null, .int 9, .int 0, .null], vm := .none },
  { cls := 6, slots := #[.null, .int 10, .int 0, .null], vm := .none },
  { cls := 6, slots := #[.null, .int 11, .int 0, .null], vm := .none },
  { cls := 6, slots := #[.null, .int 12, .int 0, .null], vm := .none },
  { cls := 6, slots := #[.null, .int 13, .int 0, .null], vm := .none },
  { cls := 6, slots := #[.null, .int 14, .int 0, .null], vm := .none },
  { cls := 6, slots := #[.null, .int 15, .int 0, .null], vm := .none }]
def classes : Array Class := #[k0, k1, k2, k3, k4, k5, k6, k7, k8, k9, k10, k11]
def interned : List (Array UInt16 × Addr) := []
def slotsUsed : Nat := 83
def theMethod : MethodId := ⟨1, 2⟩
def args0 : Array Value := #[.int 5]
def aboutOver (below : List Frame) : State where
  vm := { classes := classes, interned := interned.toArray }
  heap := heap
  slotsUsed := slotsUsed
  threads := #[{ frames := .invoking theMethod args0 :: below }]
def below0 : List Frame := [.native { method := ⟨0, 0⟩, args := #[] }]
def about1 : State := aboutOver below0
def p0 : Program := .bare "" "" ""
def e0 : Env := launch0.env 0 0 0
theorem w_frames : about1.frames = Frame.invoking theMethod args0 :: below0 := rfl
set_option maxRecDepth 65536 in
theorem w_args : argsFit about1.vm theMethod args0 = true := by decide +kernel
set_option maxRecDepth 65536 in
theorem w_heap : heapFits about1 = true := by decide +kernel
set_option maxRecDepth 65536 in
theorem w_runnable : about1.curStatus? = some .runnable := by decide +kernel
set_option maxRecDepth 65536 in
theorem w_alone : about1.alone = true := by decide +kernel
set_option maxRecDepth 65536 in
theorem w_named : about1.methodNamed? x = some theMethod := by decide +kernel
set_option maxRecDepth 65536 in
theorem w_hears : about1.hears theMethod below0 = true := by decide +kernel
set_option maxRecDepth 65536 in
theorem w_ripe : about1.ripe theMethod args0 below0 = true := by decide +kernel
theorem w_running : about1.status = .running := rfl
set_option maxRecDepth 65536 in
theorem w_room : about1.hasRoom e0.platform room_1 = true :=
  launch0.hasRoom_least _ room_1 (by decide +kernel) (by decide +kernel) (by decide +kernel) (by decide +kernel) (by decide +kernel) (by decide +kernel)
theorem allAtoms_all (ts : List Jvm.Cond) (a : Array Jvm.Value) (st : Jvm.State) : (allAtoms ts).before a st = ts.all (fun c => c.before a st) := by
  induction ts with
  | nil => rfl
  | cons c t ih =>
    show (Jvm.Cond.and c (allAtoms t)).before a st = _
    rw [Jvm.Cond.before_and, ih, List.all_cons]
def words1 : List Jvm.Cond := Jvm.Cond.code x code maxLocals ret :: tables_1
/-- a 'code' word, met by the world's own term for the bytes: nothing is compared byte by byte -/
theorem code_word {y : MethodName} {bytes : ByteArray} {mx : Nat} {rt : Option FieldType} {a : Array Value} {s : State} {m : MethodId} {meth : Method} {c : Code} (h1 : s.methodNamed? y = some m) (h2 : s.vm.method? m = some meth) (h3 : meth.code = some c) (h4 : c.code = bytes)
    (h5 : (c.maxLocals == mx && c.exceptionTable.isEmpty && decide (c.maxStack ≤ mostOperands) && decide (meth.sig.returnType = rt) && !meth.locks && decide (parseMethodDescriptor y.desc = some meth.sig)) = true) : (Jvm.Cond.code y bytes mx rt).before a s = true := by
  simp only [Bool.and_eq_true, beq_iff_eq, Bool.not_eq_true', decide_eq_true_eq] at h5
  obtain ⟨⟨⟨⟨⟨g1, g2⟩, g3⟩, g4⟩, g5⟩, g6⟩ := h5
  simp [Cond.before, Cond.holds, Cond.value, h1, h2, h3, h4, g1, g2, g3, g4, g5, g6]
def isCode : Jvm.Cond → Bool
  | .code _ _ _ _ => true
  | _ => false
theorem all_split {L : List Jvm.Cond} {P : Jvm.Cond → Bool} (h1 : L.all (fun c => isCode c || P c) = true) (h2 : ∀ c ∈ L.filter isCode, P c = true) : L.all P = true := by
  refine List.all_eq_true.mpr fun c hc => ?_
  have h := List.all_eq_true.mp h1 c hc
  rcases Bool.eq_false_or_eq_true (isCode c) with hi | hi
  · exact h2 c (List.mem_filter.mpr ⟨hc, hi⟩)
  · simpa [hi] using h
set_option maxRecDepth 65536 in
theorem w_c0 : (Jvm.Cond.code x code maxLocals ret).before args0 about1 = true := code_word (m := ⟨1, 2⟩) (meth := k1m2) (c := k1c2) (by decide +kernel) rfl rfl rfl (by decide +kernel)
set_option maxRecDepth 65536 in
theorem w_c1 : (Jvm.Cond.code ({ cls := "gradivo/spec/ValueKindTakesFormFromPinLaw", name := "pick", desc := "(I)Lgradivo/spec/ValueKind;" } : Jvm.MethodName) method_2_code (1 : Nat) (Option.some (Jvm.ClassFile.FieldType.object "gradivo/spec/ValueKind"))).before args0 about1 = true := code_word (m := ⟨1, 1⟩) (meth := k1m1) (c := k1c1) (by decide +kernel) rfl rfl rfl (by decide +kernel)
set_option maxRecDepth 65536 in
theorem w_c2 : (Jvm.Cond.code ({ cls := "gradivo/spec/ValueKind", name := "takesFormFrom", desc := "()Z" } : Jvm.MethodName) prog_105_method_7_code (1 : Nat) (Option.some Jvm.ClassFile.FieldType.boolean)).before args0 about1 = true := code_word (m := ⟨6, 0⟩) (meth := k6m0) (c := k6c0) (by decide +kernel) rfl rfl rfl (by decide +kernel)
def codes1 : List Jvm.Cond := [Jvm.Cond.code x code maxLocals ret, Jvm.Cond.code ({ cls := "gradivo/spec/ValueKindTakesFormFromPinLaw", name := "pick", desc := "(I)Lgradivo/spec/ValueKind;" } : Jvm.MethodName) method_2_code (1 : Nat) (Option.some (Jvm.ClassFile.FieldType.object "gradivo/spec/ValueKind")), Jvm.Cond.code ({ cls := "gradivo/spec/ValueKind", name := "takesFormFrom", desc := "()Z" } : Jvm.MethodName) prog_105_method_7_code (1 : Nat) (Option.some Jvm.ClassFile.FieldType.boolean)]
set_option maxRecDepth 65536 in
theorem codes_eq : words1.filter isCode = codes1 := rfl
theorem w_codes : ∀ c ∈ words1.filter isCode, c.before args0 about1 = true := by
  rw [codes_eq]
  intro c hc
  simp only [codes1, List.mem_cons, List.not_mem_nil, or_false] at hc
  rcases hc with rfl | rfl | rfl
  · exact w_c0
  · exact w_c1
  · exact w_c2
set_option maxRecDepth 65536 in
theorem w_t1 : (words1.take 24).all (fun c => isCode c || c.before args0 about1) = true := by decide +kernel
set_option maxRecDepth 65536 in
theorem w_t2 : (words1.drop 24).all (fun c => isCode c || c.before args0 about1) = true := by decide +kernel
theorem w_tables : (allAtoms (Jvm.Cond.code x code maxLocals ret :: tables_1)).before args0 about1 = true := by
  rw [allAtoms_all]
  show words1.all (fun c => c.before args0 about1) = true
  refine all_split ?_ w_codes
  rw [← List.take_append_drop 24 words1, List.all_append, w_t1, w_t2]
  rfl
set_option maxRecDepth 65536 in
theorem w_case : (Jvm.Cond.and given_1 narrow_1).before args0 about1 = true := by decide +kernel
theorem w_applies : (headSpec (Jvm.Cond.code x code maxLocals ret :: tables_1) room_1).applies x e0.platform about1 = true :=
  (Spec.applies_iff w_frames).mpr ⟨w_running, w_runnable, w_alone, w_named, w_hears, w_ripe, w_room, w_tables⟩
theorem atStart : AtStart classFile x code maxLocals ret World_1 tables_1 room_1 Calls_1 rest_1 Pre_1 launch0 p0 e0 about1 theMethod args0 below0 :=
  ⟨lists_1, trivial, launch0.admits_env _ _ _, launch0.least_env, fairChoices_fair.cas, fairChoices_fair.clock, w_frames, w_args, w_heap, w_applies, trivial, trivial, w_case⟩
end start1
theorem witness_1 : WitnessClaimed_1 := ⟨start1.p0, start1.e0, start1.about1, start1.theMethod, start1.args0, start1.below0, start1.atStart⟩
end Jvm.Pilot.@@N@@
