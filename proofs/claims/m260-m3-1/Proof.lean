import JvmDerived
import JvmDerived.Pilot.@@N@@Statement
import JvmDerived.Pilot.@@N@@Code
set_option linter.unusedVariables false
set_option linter.unusedSimpArgs false
namespace Jvm.Pilot.@@N@@
open Jvm Jvm.ClassFile Sem Op Lib Jvm.Free Jvm.Stand Jvm.LawKit Jvm.RoadKit Bundle Jvm.Pilot.@@N@@.Jvm.D
abbrev Way (p : Program) (e : Env) (below : List Frame) (S0 T : State) (g : JFrame) : Prop := ∀ t, Steps p.tables e below (T.setTop g) t → Steps p.tables e below S0 t
theorem own_old {Z : State} {n0 : Nat} {h : Heap} (O : Old Z n0 h) : n0 ≤ h.size := O.1 ▸ O.2.1
theorem own_chr1 (x : Int32) : ¬ ((255 : Int32) < (x &&& (255 : Int32)).toUInt32.toUInt16.toUInt32.toInt32) := by
  have e := i2c_mask x
  rw [e]
  have h := c_and x (255 : Int32) (by decide)
  have h5 : (255 : Int32).toInt = 255 := by decide
  rw [Int32.lt_iff_toInt_lt]
  omega
theorem own_chr (x : Int32) : ¬ ((255 : Int32) < (x &&& (255 : Int32)).toUInt32.toUInt16.toUInt32.toInt32.toUInt32.toUInt16.toUInt32.toInt32) := by
  have e := i2c_mask x
  rw [e, e]
  have h := c_and x (255 : Int32) (by decide)
  have h5 : (255 : Int32).toInt = 255 := by decide
  rw [Int32.lt_iff_toInt_lt]
  omega
theorem own_arv0 {s : State} {args : Array Value} {t : Term} {a : Addr} {ty : FieldType} {dv : Value} (ev : t.eval args s none [] s = some (.ref a)) (h4 : (Jvm.Cond.arrayOf t ty).value args s none s [] = some true) (h6 : (Jvm.Cond.eq (.length t) (.int (0 : Int32))).value args s none s [] = some true) :
    ∃ k, Arv s s.heap a k ty (0 : Int32) [] dv := by
  obtain ⟨cl, A⟩ := Arr.start ev h4
  have hat : s.arrayAt? a = some cl := A.fin (Vm.Alike.refl _)
  have hlen := Cond.eq_int (Cond.before_iff.mpr h6) rfl
  have h31 := SBG.length_lt ev hat hlen
  have hsz : cl.slots.size = 0 := by
    have e := len_f ev hat h31
    have h2 : cl.slots.size.toInt32 = (0 : Int32) := by simpa using Option.some.inj (e.symm.trans hlen)
    have h3 := congrArg Int32.toInt h2
    rw [len_toInt h31] at h3
    have h4 : (0 : Int32).toInt = 0 := by decide
    omega
  exact ⟨cl.cls, cl, A, rfl, by rw [hsz]; rfl, by decide, fun k hk => absurd hk (by omega), fun k hk => absurd hk (by omega)⟩
theorem own_eqF {args : Array Value} {s : State} {t : Term} {x : Addr} {C n d : String} {k : Int32} (ht : t.eval args s none [] s = some (.ref x)) (h : (Jvm.Cond.eq (.field t C n d) (.int k)).value args s none s [] = some true) : s.fieldOf? x C n d = some (.int k) :=
  (fld_at ht).symm.trans (Cond.eq_int (Cond.before_iff.mpr h) rfl)
theorem own_mask3 (x : Int32) : (x &&& (3 : Int32)) = (0 : Int32) ∨ (x &&& (3 : Int32)) = (1 : Int32) ∨ (x &&& (3 : Int32)) = (2 : Int32) ∨ (x &&& (3 : Int32)) = (3 : Int32) := by
  have h1 : (x &&& (3 : Int32)).toInt = x.toInt % (2 ^ 2 : Nat) := c_mask x 3 2 (by decide) (by decide)
  have h3 : (x &&& (3 : Int32)).toInt = 0 ∨ (x &&& (3 : Int32)).toInt = 1 ∨ (x &&& (3 : Int32)).toInt = 2 ∨ (x &&& (3 : Int32)).toInt = 3 := by omega
  rcases h3 with h | h | h | h
  · exact Or.inl (Int32.toInt_inj.mp h)
  · exact Or.inr (Or.inl (Int32.toInt_inj.mp h))
  · exact Or.inr (Or.inr (Or.inl (Int32.toInt_inj.mp h)))
  · exact Or.inr (Or.inr (Or.inr ((Int32.toInt_inj.mp h))))
def Gst (Z : State) (wCS : Int32) (wDE : Addr) (kDE : ClassId) : Prop := (Sta Z Z.heap "java/lang/String" "COMPACT_STRINGS" "Z" (.int wCS)) ∧ (¬ (wCS = (0 : Int32))) ∧ (Sta Z Z.heap "java/util/ArrayList" "DEFAULTCAPACITY_EMPTY_ELEMENTDATA" "[Ljava/lang/Object;" (.ref wDE)) ∧ (Arv Z Z.heap wDE kDE (.object "java/lang/Object") (0 : Int32) [] .null)
theorem d_jdk_52_method_21_code_0 : decode jdk_52_method_21_code 0 = .ok (.iconst 0, 1) := by decide +kernel
theorem d_jdk_52_method_21_code_1 : decode jdk_52_method_21_code 1 = .ok (.istore 5, 2) := by decide +kernel
theorem d_jdk_52_method_21_code_3 : decode jdk_52_method_21_code 3 = .ok (.iload 5, 2) := by decide +kernel
theorem d_jdk_52_method_21_code_5 : decode jdk_52_method_21_code 5 = .ok (.iload 4, 2) := by decide +kernel
theorem d_jdk_52_method_21_code_7 : decode jdk_52_method_21_code 7 = .ok (.if_icmp .ge 37, 3) := by decide +kernel
theorem d_jdk_52_method_21_code_10 : decode jdk_52_method_21_code 10 = .ok (.aload_n 0, 1) := by decide +kernel
theorem d_jdk_52_method_21_code_11 : decode jdk_52_method_21_code 11 = .ok (.iload_n 1, 1) := by decide +kernel
theorem d_jdk_52_method_21_code_12 : decode jdk_52_method_21_code 12 = .ok (.caload, 1) := by decide +kernel
theorem d_jdk_52_method_21_code_13 : decode jdk_52_method_21_code 13 = .ok (.istore 6, 2) := by decide +kernel
theorem d_jdk_52_method_21_code_15 : decode jdk_52_method_21_code 15 = .ok (.iload 6, 2) := by decide +kernel
theorem d_jdk_52_method_21_code_17 : decode jdk_52_method_21_code 17 = .ok (.sipush 255, 3) := by decide +kernel
theorem d_jdk_52_method_21_code_20 : decode jdk_52_method_21_code 20 = .ok (.if_icmp .le 6, 3) := by decide +kernel
theorem d_jdk_52_method_21_code_26 : decode jdk_52_method_21_code 26 = .ok (.aload_n 2, 1) := by decide +kernel
theorem d_jdk_52_method_21_code_27 : decode jdk_52_method_21_code 27 = .ok (.iload_n 3, 1) := by decide +kernel
theorem d_jdk_52_method_21_code_28 : decode jdk_52_method_21_code 28 = .ok (.iload 6, 2) := by decide +kernel
theorem d_jdk_52_method_21_code_30 : decode jdk_52_method_21_code 30 = .ok (.i2b, 1) := by decide +kernel
theorem d_jdk_52_method_21_code_31 : decode jdk_52_method_21_code 31 = .ok (.bastore, 1) := by decide +kernel
theorem d_jdk_52_method_21_code_32 : decode jdk_52_method_21_code 32 = .ok (.iinc 1 1, 3) := by decide +kernel
theorem d_jdk_52_method_21_code_35 : decode jdk_52_method_21_code 35 = .ok (.iinc 3 1, 3) := by decide +kernel
theorem d_jdk_52_method_21_code_38 : decode jdk_52_method_21_code 38 = .ok (.iinc 5 1, 3) := by decide +kernel
theorem d_jdk_52_method_21_code_41 : decode jdk_52_method_21_code 41 = .ok (.goto (-38), 3) := by decide +kernel
theorem d_jdk_52_method_21_code_44 : decode jdk_52_method_21_code 44 = .ok (.iload 4, 2) := by decide +kernel
theorem d_jdk_52_method_21_code_46 : decode jdk_52_method_21_code 46 = .ok (.ireturn, 1) := by decide +kernel
theorem pn_0 : plainName "java/lang/StringUTF16" = true := by first | (simp [plainName, overriddenIn]; done) | decide +kernel
theorem d_jdk_52_method_16_code_0 : decode jdk_52_method_16_code 0 = .ok (.iload_n 2, 1) := by decide +kernel
theorem d_jdk_52_method_16_code_1 : decode jdk_52_method_16_code 1 = .ok (.newarray .byte, 2) := by decide +kernel
theorem d_jdk_52_method_16_code_3 : decode jdk_52_method_16_code 3 = .ok (.astore_n 3, 1) := by decide +kernel
theorem d_jdk_52_method_16_code_4 : decode jdk_52_method_16_code 4 = .ok (.aload_n 0, 1) := by decide +kernel
theorem d_jdk_52_method_16_code_5 : decode jdk_52_method_16_code 5 = .ok (.iload_n 1, 1) := by decide +kernel
theorem d_jdk_52_method_16_code_6 : decode jdk_52_method_16_code 6 = .ok (.aload_n 3, 1) := by decide +kernel
theorem d_jdk_52_method_16_code_7 : decode jdk_52_method_16_code 7 = .ok (.iconst 0, 1) := by decide +kernel
theorem d_jdk_52_method_16_code_8 : decode jdk_52_method_16_code 8 = .ok (.iload_n 2, 1) := by decide +kernel
theorem d_jdk_52_method_16_code_9 : decode jdk_52_method_16_code 9 = .ok (.invokestatic 115, 3) := by decide +kernel
theorem pd_0 : parseMethodDescriptor "([CI[BII)I" = some ⟨[(.array .char), .int, (.array .byte), .int, .int], some .int⟩ := by decide +kernel
theorem d_jdk_52_method_16_code_12 : decode jdk_52_method_16_code 12 = .ok (.istore 4, 2) := by decide +kernel
theorem d_jdk_52_method_16_code_14 : decode jdk_52_method_16_code 14 = .ok (.iload 4, 2) := by decide +kernel
theorem d_jdk_52_method_16_code_16 : decode jdk_52_method_16_code 16 = .ok (.iload_n 2, 1) := by decide +kernel
theorem d_jdk_52_method_16_code_17 : decode jdk_52_method_16_code 17 = .ok (.if_icmp .eq 40, 3) := by decide +kernel
theorem d_jdk_52_method_16_code_57 : decode jdk_52_method_16_code 57 = .ok (.aload_n 3, 1) := by decide +kernel
theorem d_jdk_52_method_16_code_58 : decode jdk_52_method_16_code 58 = .ok (.areturn, 1) := by decide +kernel
theorem d_jdk_52_method_15_code_0 : decode jdk_52_method_15_code 0 = .ok (.iload_n 1, 1) := by decide +kernel
theorem d_jdk_52_method_15_code_1 : decode jdk_52_method_15_code 1 = .ok (.aload_n 0, 1) := by decide +kernel
theorem d_jdk_52_method_15_code_2 : decode jdk_52_method_15_code 2 = .ok (.arraylength, 1) := by decide +kernel
theorem d_jdk_52_method_15_code_3 : decode jdk_52_method_15_code 3 = .ok (.isub, 1) := by decide +kernel
theorem d_jdk_52_method_15_code_4 : decode jdk_52_method_15_code 4 = .ok (.bipush 31, 2) := by decide +kernel
theorem d_jdk_52_method_15_code_6 : decode jdk_52_method_15_code 6 = .ok (.iushr, 1) := by decide +kernel
theorem d_jdk_52_method_15_code_7 : decode jdk_52_method_15_code 7 = .ok (.i2b, 1) := by decide +kernel
theorem d_jdk_52_method_15_code_8 : decode jdk_52_method_15_code 8 = .ok (.ireturn, 1) := by decide +kernel
theorem d_jdk_42_method_149_code_0 : decode jdk_42_method_149_code 0 = .ok (.aload_n 0, 1) := by decide +kernel
theorem d_jdk_42_method_149_code_1 : decode jdk_42_method_149_code 1 = .ok (.invokespecial 1, 3) := by decide +kernel
theorem d_jdk_42_method_149_code_4 : decode jdk_42_method_149_code 4 = .ok (.iload_n 3, 1) := by decide +kernel
theorem d_jdk_42_method_149_code_5 : decode jdk_42_method_149_code 5 = .ok (.ifCond .ne 22, 3) := by decide +kernel
theorem d_jdk_42_method_149_code_27 : decode jdk_42_method_149_code 27 = .ok (.getstatic 38, 3) := by decide +kernel
theorem d_jdk_42_method_149_code_30 : decode jdk_42_method_149_code 30 = .ok (.ifCond .eq 28, 3) := by decide +kernel
theorem d_jdk_42_method_149_code_33 : decode jdk_42_method_149_code 33 = .ok (.aload_n 1, 1) := by decide +kernel
theorem d_jdk_42_method_149_code_34 : decode jdk_42_method_149_code 34 = .ok (.iload_n 2, 1) := by decide +kernel
theorem d_jdk_42_method_149_code_35 : decode jdk_42_method_149_code 35 = .ok (.iload_n 3, 1) := by decide +kernel
theorem d_jdk_42_method_149_code_36 : decode jdk_42_method_149_code 36 = .ok (.invokestatic 177, 3) := by decide +kernel
theorem pd_1 : parseMethodDescriptor "([CII)[B" = some ⟨[(.array .char), .int, .int], some (.array .byte)⟩ := by decide +kernel
theorem d_jdk_42_method_149_code_39 : decode jdk_42_method_149_code 39 = .ok (.astore 5, 2) := by decide +kernel
theorem d_jdk_42_method_149_code_41 : decode jdk_42_method_149_code 41 = .ok (.aload_n 0, 1) := by decide +kernel
theorem d_jdk_42_method_149_code_42 : decode jdk_42_method_149_code 42 = .ok (.aload 5, 2) := by decide +kernel
theorem d_jdk_42_method_149_code_44 : decode jdk_42_method_149_code 44 = .ok (.iload_n 3, 1) := by decide +kernel
theorem d_jdk_42_method_149_code_45 : decode jdk_42_method_149_code 45 = .ok (.invokestatic 47, 3) := by decide +kernel
theorem pd_2 : parseMethodDescriptor "([BI)B" = some ⟨[(.array .byte), .int], some .byte⟩ := by decide +kernel
theorem d_jdk_42_method_149_code_48 : decode jdk_42_method_149_code 48 = .ok (.putfield 15, 3) := by decide +kernel
theorem d_jdk_42_method_149_code_51 : decode jdk_42_method_149_code 51 = .ok (.aload_n 0, 1) := by decide +kernel
theorem d_jdk_42_method_149_code_52 : decode jdk_42_method_149_code 52 = .ok (.aload 5, 2) := by decide +kernel
theorem d_jdk_42_method_149_code_54 : decode jdk_42_method_149_code 54 = .ok (.putfield 9, 3) := by decide +kernel
theorem d_jdk_42_method_149_code_57 : decode jdk_42_method_149_code 57 = .ok (.return_, 1) := by decide +kernel
theorem pn_1 : plainName "java/lang/String" = true := by first | (simp [plainName, overriddenIn]; done) | decide +kernel
theorem d_jdk_42_method_3_code_0 : decode jdk_42_method_3_code 0 = .ok (.aload_n 0, 1) := by decide +kernel
theorem d_jdk_42_method_3_code_1 : decode jdk_42_method_3_code 1 = .ok (.aload_n 1, 1) := by decide +kernel
theorem d_jdk_42_method_3_code_2 : decode jdk_42_method_3_code 2 = .ok (.iconst 0, 1) := by decide +kernel
theorem d_jdk_42_method_3_code_3 : decode jdk_42_method_3_code 3 = .ok (.aload_n 1, 1) := by decide +kernel
theorem d_jdk_42_method_3_code_4 : decode jdk_42_method_3_code 4 = .ok (.arraylength, 1) := by decide +kernel
theorem d_jdk_42_method_3_code_5 : decode jdk_42_method_3_code 5 = .ok (.aconst_null, 1) := by decide +kernel
theorem d_jdk_42_method_3_code_6 : decode jdk_42_method_3_code 6 = .ok (.invokespecial 27, 3) := by decide +kernel
theorem pd_3 : parseMethodDescriptor "([CIILjava/lang/Void;)V" = some ⟨[(.array .char), .int, .int, (.object "java/lang/Void")], none⟩ := by decide +kernel
theorem d_jdk_42_method_3_code_9 : decode jdk_42_method_3_code 9 = .ok (.return_, 1) := by decide +kernel
theorem d_jdk_43_method_3_code_0 : decode jdk_43_method_3_code 0 = .ok (.iload_n 0, 1) := by decide +kernel
theorem d_jdk_43_method_3_code_1 : decode jdk_43_method_3_code 1 = .ok (.sipush 255, 3) := by decide +kernel
theorem d_jdk_43_method_3_code_4 : decode jdk_43_method_3_code 4 = .ok (.if_icmp .gt 7, 3) := by decide +kernel
theorem d_jdk_43_method_3_code_7 : decode jdk_43_method_3_code 7 = .ok (.iconst 1, 1) := by decide +kernel
theorem d_jdk_43_method_3_code_8 : decode jdk_43_method_3_code 8 = .ok (.goto 4, 3) := by decide +kernel
theorem d_jdk_43_method_3_code_12 : decode jdk_43_method_3_code 12 = .ok (.ireturn, 1) := by decide +kernel
theorem pn_2 : plainName "java/lang/StringLatin1" = true := by first | (simp [plainName, overriddenIn]; done) | decide +kernel
theorem d_jdk_43_method_46_code_0 : decode jdk_43_method_46_code 0 = .ok (.iconst 1, 1) := by decide +kernel
theorem d_jdk_43_method_46_code_1 : decode jdk_43_method_46_code 1 = .ok (.newarray .byte, 2) := by decide +kernel
theorem d_jdk_43_method_46_code_3 : decode jdk_43_method_46_code 3 = .ok (.dup, 1) := by decide +kernel
theorem d_jdk_43_method_46_code_4 : decode jdk_43_method_46_code 4 = .ok (.iconst 0, 1) := by decide +kernel
theorem d_jdk_43_method_46_code_5 : decode jdk_43_method_46_code 5 = .ok (.iload_n 0, 1) := by decide +kernel
theorem d_jdk_43_method_46_code_6 : decode jdk_43_method_46_code 6 = .ok (.i2b, 1) := by decide +kernel
theorem d_jdk_43_method_46_code_7 : decode jdk_43_method_46_code 7 = .ok (.bastore, 1) := by decide +kernel
theorem d_jdk_43_method_46_code_8 : decode jdk_43_method_46_code 8 = .ok (.areturn, 1) := by decide +kernel
theorem d_jdk_42_method_151_code_0 : decode jdk_42_method_151_code 0 = .ok (.aload_n 0, 1) := by decide +kernel
theorem d_jdk_42_method_151_code_1 : decode jdk_42_method_151_code 1 = .ok (.invokespecial 1, 3) := by decide +kernel
theorem d_jdk_42_method_151_code_4 : decode jdk_42_method_151_code 4 = .ok (.aload_n 0, 1) := by decide +kernel
theorem d_jdk_42_method_151_code_5 : decode jdk_42_method_151_code 5 = .ok (.aload_n 1, 1) := by decide +kernel
theorem d_jdk_42_method_151_code_6 : decode jdk_42_method_151_code 6 = .ok (.putfield 9, 3) := by decide +kernel
theorem d_jdk_42_method_151_code_9 : decode jdk_42_method_151_code 9 = .ok (.aload_n 0, 1) := by decide +kernel
theorem d_jdk_42_method_151_code_10 : decode jdk_42_method_151_code 10 = .ok (.iload_n 2, 1) := by decide +kernel
theorem d_jdk_42_method_151_code_11 : decode jdk_42_method_151_code 11 = .ok (.putfield 15, 3) := by decide +kernel
theorem d_jdk_42_method_151_code_14 : decode jdk_42_method_151_code 14 = .ok (.return_, 1) := by decide +kernel
theorem d_jdk_42_method_139_code_0 : decode jdk_42_method_139_code 0 = .ok (.getstatic 38, 3) := by decide +kernel
theorem d_jdk_42_method_139_code_3 : decode jdk_42_method_139_code 3 = .ok (.ifCond .eq 23, 3) := by decide +kernel
theorem d_jdk_42_method_139_code_6 : decode jdk_42_method_139_code 6 = .ok (.iload_n 0, 1) := by decide +kernel
theorem d_jdk_42_method_139_code_7 : decode jdk_42_method_139_code 7 = .ok (.invokestatic 1015, 3) := by decide +kernel
theorem pd_4 : parseMethodDescriptor "(C)Z" = some ⟨[.char], some .boolean⟩ := by decide +kernel
theorem d_jdk_42_method_139_code_10 : decode jdk_42_method_139_code 10 = .ok (.ifCond .eq 16, 3) := by decide +kernel
theorem d_jdk_42_method_139_code_13 : decode jdk_42_method_139_code 13 = .ok (.new 10, 3) := by decide +kernel
theorem d_jdk_42_method_139_code_16 : decode jdk_42_method_139_code 16 = .ok (.dup, 1) := by decide +kernel
theorem d_jdk_42_method_139_code_17 : decode jdk_42_method_139_code 17 = .ok (.iload_n 0, 1) := by decide +kernel
theorem d_jdk_42_method_139_code_18 : decode jdk_42_method_139_code 18 = .ok (.invokestatic 1018, 3) := by decide +kernel
theorem pd_5 : parseMethodDescriptor "(C)[B" = some ⟨[.char], some (.array .byte)⟩ := by decide +kernel
theorem d_jdk_42_method_139_code_21 : decode jdk_42_method_139_code 21 = .ok (.iconst 0, 1) := by decide +kernel
theorem d_jdk_42_method_139_code_22 : decode jdk_42_method_139_code 22 = .ok (.invokespecial 209, 3) := by decide +kernel
theorem pd_6 : parseMethodDescriptor "([BB)V" = some ⟨[(.array .byte), .byte], none⟩ := by decide +kernel
theorem d_jdk_42_method_139_code_25 : decode jdk_42_method_139_code 25 = .ok (.areturn, 1) := by decide +kernel
theorem d_jdk_22_method_1_code_0 : decode jdk_22_method_1_code 0 = .ok (.aload_n 0, 1) := by decide +kernel
theorem d_jdk_22_method_1_code_1 : decode jdk_22_method_1_code 1 = .ok (.invokespecial 1, 3) := by decide +kernel
theorem d_jdk_22_method_1_code_4 : decode jdk_22_method_1_code 4 = .ok (.return_, 1) := by decide +kernel
theorem pn_3 : plainName "java/util/AbstractCollection" = true := by first | (simp [plainName, overriddenIn]; done) | decide +kernel
theorem d_jdk_39_method_1_code_0 : decode jdk_39_method_1_code 0 = .ok (.aload_n 0, 1) := by decide +kernel
theorem d_jdk_39_method_1_code_1 : decode jdk_39_method_1_code 1 = .ok (.invokespecial 1, 3) := by decide +kernel
theorem pd_7 : parseMethodDescriptor "()V" = some ⟨[], none⟩ := by decide +kernel
theorem d_jdk_39_method_1_code_4 : decode jdk_39_method_1_code 4 = .ok (.aload_n 0, 1) := by decide +kernel
theorem d_jdk_39_method_1_code_5 : decode jdk_39_method_1_code 5 = .ok (.iconst 0, 1) := by decide +kernel
theorem d_jdk_39_method_1_code_6 : decode jdk_39_method_1_code 6 = .ok (.putfield 7, 3) := by decide +kernel
theorem d_jdk_39_method_1_code_9 : decode jdk_39_method_1_code 9 = .ok (.return_, 1) := by decide +kernel
theorem pn_4 : plainName "java/util/AbstractList" = true := by first | (simp [plainName, overriddenIn]; done) | decide +kernel
theorem d_jdk_38_method_2_code_0 : decode jdk_38_method_2_code 0 = .ok (.aload_n 0, 1) := by decide +kernel
theorem d_jdk_38_method_2_code_1 : decode jdk_38_method_2_code 1 = .ok (.invokespecial 1, 3) := by decide +kernel
theorem d_jdk_38_method_2_code_4 : decode jdk_38_method_2_code 4 = .ok (.aload_n 0, 1) := by decide +kernel
theorem d_jdk_38_method_2_code_5 : decode jdk_38_method_2_code 5 = .ok (.getstatic 39, 3) := by decide +kernel
theorem d_jdk_38_method_2_code_8 : decode jdk_38_method_2_code 8 = .ok (.putfield 9, 3) := by decide +kernel
theorem d_jdk_38_method_2_code_11 : decode jdk_38_method_2_code 11 = .ok (.return_, 1) := by decide +kernel
theorem pn_5 : plainName "java/util/ArrayList" = true := by first | (simp [plainName, overriddenIn]; done) | decide +kernel
theorem d_jdk_30_method_1_code_0 : decode jdk_30_method_1_code 0 = .ok (.aload_n 0, 1) := by decide +kernel
theorem d_jdk_30_method_1_code_1 : decode jdk_30_method_1_code 1 = .ok (.invokespecial 1, 3) := by decide +kernel
theorem d_jdk_30_method_1_code_4 : decode jdk_30_method_1_code 4 = .ok (.return_, 1) := by decide +kernel
theorem pn_6 : plainName "java/lang/Record" = true := by first | (simp [plainName, overriddenIn]; done) | decide +kernel
theorem d_jdk_29_method_65_code_0 : decode jdk_29_method_65_code 0 = .ok (.iload_n 0, 1) := by decide +kernel
theorem d_jdk_29_method_65_code_1 : decode jdk_29_method_65_code 1 = .ok (.iload_n 1, 1) := by decide +kernel
theorem d_jdk_29_method_65_code_2 : decode jdk_29_method_65_code 2 = .ok (.if_icmp .lt 7, 3) := by decide +kernel
theorem d_jdk_29_method_65_code_5 : decode jdk_29_method_65_code 5 = .ok (.iload_n 0, 1) := by decide +kernel
theorem d_jdk_29_method_65_code_6 : decode jdk_29_method_65_code 6 = .ok (.goto 4, 3) := by decide +kernel
theorem d_jdk_29_method_65_code_10 : decode jdk_29_method_65_code 10 = .ok (.ireturn, 1) := by decide +kernel
theorem d_jdk_38_method_6_code_0 : decode jdk_38_method_6_code 0 = .ok (.aload_n 0, 1) := by decide +kernel
theorem d_jdk_38_method_6_code_1 : decode jdk_38_method_6_code 1 = .ok (.getfield 9, 3) := by decide +kernel
theorem d_jdk_38_method_6_code_4 : decode jdk_38_method_6_code 4 = .ok (.arraylength, 1) := by decide +kernel
theorem d_jdk_38_method_6_code_5 : decode jdk_38_method_6_code 5 = .ok (.istore_n 2, 1) := by decide +kernel
theorem d_jdk_38_method_6_code_6 : decode jdk_38_method_6_code 6 = .ok (.iload_n 2, 1) := by decide +kernel
theorem d_jdk_38_method_6_code_7 : decode jdk_38_method_6_code 7 = .ok (.ifCond .gt 13, 3) := by decide +kernel
theorem d_jdk_38_method_6_code_10 : decode jdk_38_method_6_code 10 = .ok (.aload_n 0, 1) := by decide +kernel
theorem d_jdk_38_method_6_code_11 : decode jdk_38_method_6_code 11 = .ok (.getfield 9, 3) := by decide +kernel
theorem d_jdk_38_method_6_code_14 : decode jdk_38_method_6_code 14 = .ok (.getstatic 39, 3) := by decide +kernel
theorem d_jdk_38_method_6_code_17 : decode jdk_38_method_6_code 17 = .ok (.if_acmp .eq 28, 3) := by decide +kernel
theorem d_jdk_38_method_6_code_45 : decode jdk_38_method_6_code 45 = .ok (.aload_n 0, 1) := by decide +kernel
theorem d_jdk_38_method_6_code_46 : decode jdk_38_method_6_code 46 = .ok (.bipush 10, 2) := by decide +kernel
theorem d_jdk_38_method_6_code_48 : decode jdk_38_method_6_code 48 = .ok (.iload_n 1, 1) := by decide +kernel
theorem d_jdk_38_method_6_code_49 : decode jdk_38_method_6_code 49 = .ok (.invokestatic 79, 3) := by decide +kernel
theorem pd_8 : parseMethodDescriptor "(II)I" = some ⟨[.int, .int], some .int⟩ := by decide +kernel
theorem d_jdk_38_method_6_code_52 : decode jdk_38_method_6_code 52 = .ok (.anewarray 7, 3) := by decide +kernel
theorem d_jdk_38_method_6_code_55 : decode jdk_38_method_6_code 55 = .ok (.dup_x1, 1) := by decide +kernel
theorem d_jdk_38_method_6_code_56 : decode jdk_38_method_6_code 56 = .ok (.putfield 9, 3) := by decide +kernel
theorem d_jdk_38_method_6_code_59 : decode jdk_38_method_6_code 59 = .ok (.areturn, 1) := by decide +kernel
theorem d_jdk_38_method_7_code_0 : decode jdk_38_method_7_code 0 = .ok (.aload_n 0, 1) := by decide +kernel
theorem d_jdk_38_method_7_code_1 : decode jdk_38_method_7_code 1 = .ok (.aload_n 0, 1) := by decide +kernel
theorem d_jdk_38_method_7_code_2 : decode jdk_38_method_7_code 2 = .ok (.getfield 48, 3) := by decide +kernel
theorem d_jdk_38_method_7_code_5 : decode jdk_38_method_7_code 5 = .ok (.iconst 1, 1) := by decide +kernel
theorem d_jdk_38_method_7_code_6 : decode jdk_38_method_7_code 6 = .ok (.iadd, 1) := by decide +kernel
theorem d_jdk_38_method_7_code_7 : decode jdk_38_method_7_code 7 = .ok (.invokevirtual 69, 3) := by decide +kernel
theorem pd_9 : parseMethodDescriptor "(I)[Ljava/lang/Object;" = some ⟨[.int], some (.array (.object "java/lang/Object"))⟩ := by decide +kernel
theorem d_jdk_38_method_7_code_10 : decode jdk_38_method_7_code 10 = .ok (.areturn, 1) := by decide +kernel
theorem d_jdk_38_method_24_code_0 : decode jdk_38_method_24_code 0 = .ok (.iload_n 3, 1) := by decide +kernel
theorem d_jdk_38_method_24_code_1 : decode jdk_38_method_24_code 1 = .ok (.aload_n 2, 1) := by decide +kernel
theorem d_jdk_38_method_24_code_2 : decode jdk_38_method_24_code 2 = .ok (.arraylength, 1) := by decide +kernel
theorem d_jdk_38_method_24_code_3 : decode jdk_38_method_24_code 3 = .ok (.if_icmp .ne 8, 3) := by decide +kernel
theorem d_jdk_38_method_24_code_6 : decode jdk_38_method_24_code 6 = .ok (.aload_n 0, 1) := by decide +kernel
theorem d_jdk_38_method_24_code_7 : decode jdk_38_method_24_code 7 = .ok (.invokevirtual 129, 3) := by decide +kernel
theorem pd_10 : parseMethodDescriptor "()[Ljava/lang/Object;" = some ⟨[], some (.array (.object "java/lang/Object"))⟩ := by decide +kernel
theorem d_jdk_38_method_24_code_10 : decode jdk_38_method_24_code 10 = .ok (.astore_n 2, 1) := by decide +kernel
theorem d_jdk_38_method_24_code_11 : decode jdk_38_method_24_code 11 = .ok (.aload_n 2, 1) := by decide +kernel
theorem d_jdk_38_method_24_code_12 : decode jdk_38_method_24_code 12 = .ok (.iload_n 3, 1) := by decide +kernel
theorem d_jdk_38_method_24_code_13 : decode jdk_38_method_24_code 13 = .ok (.aload_n 1, 1) := by decide +kernel
theorem d_jdk_38_method_24_code_14 : decode jdk_38_method_24_code 14 = .ok (.aastore, 1) := by decide +kernel
theorem d_jdk_38_method_24_code_15 : decode jdk_38_method_24_code 15 = .ok (.aload_n 0, 1) := by decide +kernel
theorem d_jdk_38_method_24_code_16 : decode jdk_38_method_24_code 16 = .ok (.iload_n 3, 1) := by decide +kernel
theorem d_jdk_38_method_24_code_17 : decode jdk_38_method_24_code 17 = .ok (.iconst 1, 1) := by decide +kernel
theorem d_jdk_38_method_24_code_18 : decode jdk_38_method_24_code 18 = .ok (.iadd, 1) := by decide +kernel
theorem d_jdk_38_method_24_code_19 : decode jdk_38_method_24_code 19 = .ok (.putfield 48, 3) := by decide +kernel
theorem d_jdk_38_method_24_code_22 : decode jdk_38_method_24_code 22 = .ok (.return_, 1) := by decide +kernel
theorem d_jdk_38_method_25_code_0 : decode jdk_38_method_25_code 0 = .ok (.aload_n 0, 1) := by decide +kernel
theorem d_jdk_38_method_25_code_1 : decode jdk_38_method_25_code 1 = .ok (.dup, 1) := by decide +kernel
theorem d_jdk_38_method_25_code_2 : decode jdk_38_method_25_code 2 = .ok (.getfield 63, 3) := by decide +kernel
theorem d_jdk_38_method_25_code_5 : decode jdk_38_method_25_code 5 = .ok (.iconst 1, 1) := by decide +kernel
theorem d_jdk_38_method_25_code_6 : decode jdk_38_method_25_code 6 = .ok (.iadd, 1) := by decide +kernel
theorem d_jdk_38_method_25_code_7 : decode jdk_38_method_25_code 7 = .ok (.putfield 63, 3) := by decide +kernel
theorem d_jdk_38_method_25_code_10 : decode jdk_38_method_25_code 10 = .ok (.aload_n 0, 1) := by decide +kernel
theorem d_jdk_38_method_25_code_11 : decode jdk_38_method_25_code 11 = .ok (.aload_n 1, 1) := by decide +kernel
theorem d_jdk_38_method_25_code_12 : decode jdk_38_method_25_code 12 = .ok (.aload_n 0, 1) := by decide +kernel
theorem d_jdk_38_method_25_code_13 : decode jdk_38_method_25_code 13 = .ok (.getfield 9, 3) := by decide +kernel
theorem d_jdk_38_method_25_code_16 : decode jdk_38_method_25_code 16 = .ok (.aload_n 0, 1) := by decide +kernel
theorem d_jdk_38_method_25_code_17 : decode jdk_38_method_25_code 17 = .ok (.getfield 48, 3) := by decide +kernel
theorem d_jdk_38_method_25_code_20 : decode jdk_38_method_25_code 20 = .ok (.invokevirtual 131, 3) := by decide +kernel
theorem pd_11 : parseMethodDescriptor "(Ljava/lang/Object;[Ljava/lang/Object;I)V" = some ⟨[(.object "java/lang/Object"), (.array (.object "java/lang/Object")), .int], none⟩ := by decide +kernel
theorem d_jdk_38_method_25_code_23 : decode jdk_38_method_25_code 23 = .ok (.iconst 1, 1) := by decide +kernel
theorem d_jdk_38_method_25_code_24 : decode jdk_38_method_25_code 24 = .ok (.ireturn, 1) := by decide +kernel
theorem d_prog_54_method_1_code_0 : decode prog_54_method_1_code 0 = .ok (.aload_n 0, 1) := by decide +kernel
theorem d_prog_54_method_1_code_1 : decode prog_54_method_1_code 1 = .ok (.invokespecial 1, 3) := by decide +kernel
theorem d_prog_54_method_1_code_4 : decode prog_54_method_1_code 4 = .ok (.aload_n 0, 1) := by decide +kernel
theorem d_prog_54_method_1_code_5 : decode prog_54_method_1_code 5 = .ok (.aload_n 1, 1) := by decide +kernel
theorem d_prog_54_method_1_code_6 : decode prog_54_method_1_code 6 = .ok (.putfield 7, 3) := by decide +kernel
theorem d_prog_54_method_1_code_9 : decode prog_54_method_1_code 9 = .ok (.aload_n 0, 1) := by decide +kernel
theorem d_prog_54_method_1_code_10 : decode prog_54_method_1_code 10 = .ok (.iload_n 2, 1) := by decide +kernel
theorem d_prog_54_method_1_code_11 : decode prog_54_method_1_code 11 = .ok (.putfield 13, 3) := by decide +kernel
theorem d_prog_54_method_1_code_14 : decode prog_54_method_1_code 14 = .ok (.aload_n 0, 1) := by decide +kernel
theorem d_prog_54_method_1_code_15 : decode prog_54_method_1_code 15 = .ok (.iload_n 3, 1) := by decide +kernel
theorem d_prog_54_method_1_code_16 : decode prog_54_method_1_code 16 = .ok (.putfield 17, 3) := by decide +kernel
theorem d_prog_54_method_1_code_19 : decode prog_54_method_1_code 19 = .ok (.return_, 1) := by decide +kernel
theorem pn_7 : plainName "com/example/stubwright/stubwright/idl/Location" = true := by first | (simp [plainName, overriddenIn]; done) | decide +kernel
theorem d_prog_59_method_1_code_0 : decode prog_59_method_1_code 0 = .ok (.aload_n 0, 1) := by decide +kernel
theorem d_prog_59_method_1_code_1 : decode prog_59_method_1_code 1 = .ok (.invokespecial 1, 3) := by decide +kernel
theorem d_prog_59_method_1_code_4 : decode prog_59_method_1_code 4 = .ok (.aload_n 0, 1) := by decide +kernel
theorem d_prog_59_method_1_code_5 : decode prog_59_method_1_code 5 = .ok (.aload_n 1, 1) := by decide +kernel
theorem d_prog_59_method_1_code_6 : decode prog_59_method_1_code 6 = .ok (.putfield 7, 3) := by decide +kernel
theorem d_prog_59_method_1_code_9 : decode prog_59_method_1_code 9 = .ok (.aload_n 0, 1) := by decide +kernel
theorem d_prog_59_method_1_code_10 : decode prog_59_method_1_code 10 = .ok (.aload_n 2, 1) := by decide +kernel
theorem d_prog_59_method_1_code_11 : decode prog_59_method_1_code 11 = .ok (.putfield 13, 3) := by decide +kernel
theorem d_prog_59_method_1_code_14 : decode prog_59_method_1_code 14 = .ok (.aload_n 0, 1) := by decide +kernel
theorem d_prog_59_method_1_code_15 : decode prog_59_method_1_code 15 = .ok (.aload_n 3, 1) := by decide +kernel
theorem d_prog_59_method_1_code_16 : decode prog_59_method_1_code 16 = .ok (.putfield 17, 3) := by decide +kernel
theorem d_prog_59_method_1_code_19 : decode prog_59_method_1_code 19 = .ok (.aload_n 0, 1) := by decide +kernel
theorem d_prog_59_method_1_code_20 : decode prog_59_method_1_code 20 = .ok (.aload 4, 2) := by decide +kernel
theorem d_prog_59_method_1_code_22 : decode prog_59_method_1_code 22 = .ok (.putfield 20, 3) := by decide +kernel
theorem d_prog_59_method_1_code_25 : decode prog_59_method_1_code 25 = .ok (.return_, 1) := by decide +kernel
theorem pn_8 : plainName "com/example/stubwright/stubwright/idl/Macros$Macro" = true := by first | (simp [plainName, overriddenIn]; done) | decide +kernel
theorem d_prog_59_method_2_code_0 : decode prog_59_method_2_code 0 = .ok (.aload_n 0, 1) := by decide +kernel
theorem d_prog_59_method_2_code_1 : decode prog_59_method_2_code 1 = .ok (.getfield 13, 3) := by decide +kernel
theorem d_prog_59_method_2_code_4 : decode prog_59_method_2_code 4 = .ok (.ifnull 7, 3) := by decide +kernel
theorem d_prog_59_method_2_code_11 : decode prog_59_method_2_code 11 = .ok (.iconst 0, 1) := by decide +kernel
theorem d_prog_59_method_2_code_12 : decode prog_59_method_2_code 12 = .ok (.ireturn, 1) := by decide +kernel
theorem d_prog_59_method_2_code_7 : decode prog_59_method_2_code 7 = .ok (.iconst 1, 1) := by decide +kernel
theorem d_prog_59_method_2_code_8 : decode prog_59_method_2_code 8 = .ok (.goto 4, 3) := by decide +kernel
theorem pd_12 : parseMethodDescriptor "([C)V" = some ⟨[(.array .char)], none⟩ := by decide +kernel
theorem pd_13 : parseMethodDescriptor "(C)Ljava/lang/String;" = some ⟨[.char], some (.object "java/lang/String")⟩ := by decide +kernel
theorem pd_14 : parseMethodDescriptor "(Ljava/lang/String;II)V" = some ⟨[(.object "java/lang/String"), .int, .int], none⟩ := by decide +kernel
theorem pd_15 : parseMethodDescriptor "(Ljava/lang/String;Ljava/util/List;Ljava/util/List;Lcom/example/stubwright/stubwright/idl/Location;)V" = some ⟨[(.object "java/lang/String"), (.object "java/util/List"), (.object "java/util/List"), (.object "com/example/stubwright/stubwright/idl/Location")], none⟩ := by decide +kernel
theorem pd_16 : parseMethodDescriptor "()Z" = some ⟨[], some .boolean⟩ := by decide +kernel
theorem pd_17 : parseMethodDescriptor "(Ljava/lang/Object;)Z" = some ⟨[(.object "java/lang/Object")], some .boolean⟩ := by decide +kernel
theorem pn_9 : plainName "com/example/stubwright/stubwright/idl/MacroFunctionLikePinLaw" = true := by first | (simp [plainName, overriddenIn]; done) | decide +kernel
def Q_scomp1_2 (Z : State) (wCS : Int32) (wDE : Addr) (kDE : ClassId) (a1 : Addr) (a2 : Addr) (kc : ClassId) (kb : ClassId) (q0 : Int32) (q1 : Int32) (h0 : Heap) (n0 : Nat) (v : Option Value) (h : Heap) (L : List Loc) : Prop := (v = some (.int (2 : Int32))) ∧ (Fr n0 L) ∧ (Keep h0 h [a2]) ∧ (Arv Z h a2 kb .byte (2 : Int32) [(.int ((q0.toInt8.toInt32).toInt8.toInt32)), (.int ((q1.toInt8.toInt32).toInt8.toInt32))] (.int (0 : Int32)))
set_option maxRecDepth 65536 in
set_option maxHeartbeats 40000000 in
theorem scomp1_2 (l : Launch) (Z : State) (a0 : Array Value) (hw : ∀ d ∈ tables_1, d.before a0 Z = true) (ws : List Jvm.Cond) (wCS : Int32) (wDE : Addr) (kDE : ClassId) (G : Gst Z wCS wDE kDE) (a1 : Addr) (a2 : Addr) (kc : ClassId) (kb : ClassId) (q0 : Int32) (q1 : Int32) (h0 : Heap) (n0 : Nat) (O0 : Old Z n0 h0) (a_0 : Arv Z h0 a1 kc .char (2 : Int32) [(.int q0), (.int q1)] (.int (0 : Int32))) (a_1 : Arv Z h0 a2 kb .byte (2 : Int32) [(.int (0 : Int32)), (.int (0 : Int32))] (.int (0 : Int32))) (hne : a1 ≠ a2) (ga2 : n0 ≤ a2) (hq0 : ¬ ((255 : Int32) < q0)) (hq1 : ¬ ((255 : Int32) < q1)) :
    MetFree l (⟨"java/lang/StringUTF16", "compress", "([CI[BII)I"⟩ : MethodName) (head1 (Jvm.Cond.code (⟨"java/lang/StringUTF16", "compress", "([CI[BII)I"⟩ : MethodName) jdk_52_method_21_code 7 (some .int) :: ws) ({ frames := 0, cells := 0, slots := 0, locals := 0 } : Room)) (fun a U => a = #[(.ref a1), (.int (0 : Int32)), (.ref a2), (.int (0 : Int32)), (.int (2 : Int32))] ∧ Z.Warmed39 U.vm ∧ U.heap = h0) (fun _ _ _ _ _ => True) (fun _ U o U' => ∃ v L, o = .returned v ∧ Q_scomp1_2 Z wCS wDE kDE a1 a2 kc kb q0 q1 h0 n0 v U'.heap L ∧ FrameEnd U o U' L ({ frames := 0, cells := 0, slots := 0, locals := 0 } : Room).cells ({ frames := 0, cells := 0, slots := 0, locals := 0 } : Room).slots) := by
  refine MetFree.of_bodySF (plainFor_of_name pn_0) hisR ?_
  intro p e s m args below meth c s₁ Bd hml0 hP hK
  obtain ⟨rfl, hZ, hh⟩ := hP
  have hx := Bd.exec
  have hby := Bd.bytes
  have hml : c.maxLocals = 7 := hml0
  have hown : s.vm.findClass "java/lang/StringUTF16" = some m.cls := findClass_of_methodNamed Bd.named
  have hnm := (name_of_methodNamed Bd.named Bd.method).1
  have X0 : Stand p l e ({ frames := 0, cells := 0, slots := 0, locals := 0 } : Room) s m #[(.ref a1), (.int (0 : Int32)), (.ref a2), (.int (0 : Int32)), (.int (2 : Int32))] below meth c s₁ [] 0 0 := Stand.of_body Bd
  have e0 : s₁.heap = h0 := by rw [← hh, Bd.state]; rfl
  have N0 := Fr.nil n0
  obtain ⟨S_CS, hCS, S_DE, V_DE⟩ := id G
  have k0 : Way p e below (s₁.setTop (entryFrame m #[(.ref a1), (.int (0 : Int32)), (.ref a2), (.int (0 : Int32)), (.int (2 : Int32))] 7)) s₁ (mkF m 0 #[rv a1, iv (0 : Int32), rv a2, iv (0 : Int32), iv (2 : Int32), .unset, .unset] []) := fun t k => castTop (by first | (simp [entryFrame, mkF, argsToLocals, Value.category]; done) | rfl) k
  generalize s₁.setTop (entryFrame m #[(.ref a1), (.int (0 : Int32)), (.ref a2), (.int (0 : Int32)), (.int (2 : Int32))] 7) = S0 at k0 ⊢
  have k1 : Way p e below S0 s₁ (mkF m 12 #[rv a1, iv (0 : Int32), rv a2, iv (0 : Int32), iv (2 : Int32), iv (0 : Int32), .unset] [(.int (0 : Int32)), (.ref a1)]) := by
    intro t k
    refine k0 t ?_
    refine XS.iconst X0.here hx rfl (hb hby d_jdk_52_method_21_code_0) ?_
    show Steps p.tables e below (s₁.setTop (mkF m 1 #[rv a1, iv (0 : Int32), rv a2, iv (0 : Int32), iv (2 : Int32), .unset, .unset] [(.int (0 : Int32))])) _
    refine XS.istore X0.here hx rfl (hb hby d_jdk_52_method_21_code_1) rfl (l' := #[rv a1, iv (0 : Int32), rv a2, iv (0 : Int32), iv (2 : Int32), iv (0 : Int32), .unset]) rfl ?_
    show Steps p.tables e below (s₁.setTop (mkF m 3 #[rv a1, iv (0 : Int32), rv a2, iv (0 : Int32), iv (2 : Int32), iv (0 : Int32), .unset] [])) _
    refine XS.iload X0.here hx rfl (hb hby d_jdk_52_method_21_code_3) rfl ?_
    show Steps p.tables e below (s₁.setTop (mkF m 5 #[rv a1, iv (0 : Int32), rv a2, iv (0 : Int32), iv (2 : Int32), iv (0 : Int32), .unset] [(.int (0 : Int32))])) _
    refine XS.iload X0.here hx rfl (hb hby d_jdk_52_method_21_code_5) rfl ?_
    show Steps p.tables e below (s₁.setTop (mkF m 7 #[rv a1, iv (0 : Int32), rv a2, iv (0 : Int32), iv (2 : Int32), iv (0 : Int32), .unset] [(.int (2 : Int32)), (.int (0 : Int32))])) _
    refine XS.icmpNo X0.here hx rfl (hb hby d_jdk_52_method_21_code_7) rfl (tlt ((by decide) : (0 : Int32) < (2 : Int32))).2.1 ?_
    show Steps p.tables e below (s₁.setTop (mkF m 10 #[rv a1, iv (0 : Int32), rv a2, iv (0 : Int32), iv (2 : Int32), iv (0 : Int32), .unset] [])) _
    refine XS.aloadN X0.here hx rfl (hb hby d_jdk_52_method_21_code_10) rfl rfl ?_
    show Steps p.tables e below (s₁.setTop (mkF m 11 #[rv a1, iv (0 : Int32), rv a2, iv (0 : Int32), iv (2 : Int32), iv (0 : Int32), .unset] [(.ref a1)])) _
    refine XS.iloadN X0.here hx rfl (hb hby d_jdk_52_method_21_code_11) rfl ?_
    show Steps p.tables e below (s₁.setTop (mkF m 12 #[rv a1, iv (0 : Int32), rv a2, iv (0 : Int32), iv (2 : Int32), iv (0 : Int32), .unset] [(.int (0 : Int32)), (.ref a1)])) _
    exact k
  obtain ⟨cl2, Ar2, qc2, S2, M2, U2, G2⟩ := id (a_0)
  have hin2 : ¬ ((0 : Int32) < 0 ∨ cl2.slots.size ≤ ((0 : Int32)).toNatClampNeg) := inb_of S2 ⟨by decide, by decide⟩
  have hat2 : cl2.slots[((0 : Int32)).toNatClampNeg]? = some (.int q0) := Has.at U2 hin2 rfl
  have k3 : Way p e below S0 s₁ (mkF m 13 #[rv a1, iv (0 : Int32), rv a2, iv (0 : Int32), iv (2 : Int32), iv (0 : Int32), .unset] [(.int q0)]) := fun t k => k1 t (X0.caload hx (j := (0 : Int32)) (v := (.int q0)) (by rw [e0]; exact Ar2.1) (State.isArrayOf_alike hZ.alike Ar2.2.1) Ar2.2.2 hin2 hat2 (g := (mkF m 12 #[rv a1, iv (0 : Int32), rv a2, iv (0 : Int32), iv (2 : Int32), iv (0 : Int32), .unset] [(.int (0 : Int32)), (.ref a1)])) rfl rfl (hb hby d_jdk_52_method_21_code_12) _ k)
  have k4 : Way p e below S0 s₁ (mkF m 31 #[rv a1, iv (0 : Int32), rv a2, iv (0 : Int32), iv (2 : Int32), iv (0 : Int32), iv q0] [(.int (q0.toInt8.toInt32)), (.int (0 : Int32)), (.ref a2)]) := by
    intro t k
    refine k3 t ?_
    refine XS.istore X0.here hx rfl (hb hby d_jdk_52_method_21_code_13) rfl (l' := #[rv a1, iv (0 : Int32), rv a2, iv (0 : Int32), iv (2 : Int32), iv (0 : Int32), iv q0]) rfl ?_
    show Steps p.tables e below (s₁.setTop (mkF m 15 #[rv a1, iv (0 : Int32), rv a2, iv (0 : Int32), iv (2 : Int32), iv (0 : Int32), iv q0] [])) _
    refine XS.iload X0.here hx rfl (hb hby d_jdk_52_method_21_code_15) rfl ?_
    show Steps p.tables e below (s₁.setTop (mkF m 17 #[rv a1, iv (0 : Int32), rv a2, iv (0 : Int32), iv (2 : Int32), iv (0 : Int32), iv q0] [(.int q0)])) _
    refine XS.sipush X0.here hx rfl (hb hby d_jdk_52_method_21_code_17) ?_
    show Steps p.tables e below (s₁.setTop (mkF m 20 #[rv a1, iv (0 : Int32), rv a2, iv (0 : Int32), iv (2 : Int32), iv (0 : Int32), iv q0] [(.int (255 : Int32)), (.int q0)])) _
    refine XS.icmpYes X0.here hx rfl (pc0 := 20) (pc' := 26) rfl (hb hby d_jdk_52_method_21_code_20) rfl (flt (hq0 : ¬ ((255 : Int32) < q0))).2.2.2 (by decide) (by decide) ?_
    show Steps p.tables e below (s₁.setTop (mkF m 26 #[rv a1, iv (0 : Int32), rv a2, iv (0 : Int32), iv (2 : Int32), iv (0 : Int32), iv q0] [])) _
    refine XS.aloadN X0.here hx rfl (hb hby d_jdk_52_method_21_code_26) rfl rfl ?_
    show Steps p.tables e below (s₁.setTop (mkF m 27 #[rv a1, iv (0 : Int32), rv a2, iv (0 : Int32), iv (2 : Int32), iv (0 : Int32), iv q0] [(.ref a2)])) _
    refine XS.iloadN X0.here hx rfl (hb hby d_jdk_52_method_21_code_27) rfl ?_
    show Steps p.tables e below (s₁.setTop (mkF m 28 #[rv a1, iv (0 : Int32), rv a2, iv (0 : Int32), iv (2 : Int32), iv (0 : Int32), iv q0] [(.int (0 : Int32)), (.ref a2)])) _
    refine XS.iload X0.here hx rfl (hb hby d_jdk_52_method_21_code_28) rfl ?_
    show Steps p.tables e below (s₁.setTop (mkF m 30 #[rv a1, iv (0 : Int32), rv a2, iv (0 : Int32), iv (2 : Int32), iv (0 : Int32), iv q0] [(.int q0), (.int (0 : Int32)), (.ref a2)])) _
    refine XS.i2b X0.here hx rfl (hb hby d_jdk_52_method_21_code_30) rfl ?_
    show Steps p.tables e below (s₁.setTop (mkF m 31 #[rv a1, iv (0 : Int32), rv a2, iv (0 : Int32), iv (2 : Int32), iv (0 : Int32), iv q0] [(.int (q0.toInt8.toInt32)), (.int (0 : Int32)), (.ref a2)])) _
    exact k
  obtain ⟨cl5, Ar5, qc5, S5, M5, U5, G5⟩ := id (a_1)
  have hin5 : ¬ ((0 : Int32) < 0 ∨ cl5.slots.size ≤ ((0 : Int32)).toNatClampNeg) := inb_of S5 ⟨by decide, by decide⟩
  obtain ⟨T5, h5, X5, e5, W5, st5⟩ := stB X0 hx hZ e0 Ar5 (j := (0 : Int32)) hin5 (g := (mkF m 31 #[rv a1, iv (0 : Int32), rv a2, iv (0 : Int32), iv (2 : Int32), iv (0 : Int32), iv q0] [(.int (q0.toInt8.toInt32)), (.int (0 : Int32)), (.ref a2)])) rfl rfl (hb hby d_jdk_52_method_21_code_31)
  have O5 := O0.wr W5 ga2
  have N5 := Fr.snoc X5 N0 ga2
  have K5 : Keep h0 h5 [a2] := (Keep.refl h0 [a2]).wr W5 (Or.inl (List.mem_of_getElem? (i := 0) rfl))
  have va5 : Arv Z h5 a2 kb .byte (2 : Int32) [(.int ((q0.toInt8.toInt32).toInt8.toInt32)), (.int (0 : Int32))] (.int (0 : Int32)) := Arv.set Ar5 qc5 S5 M5 U5 G5 (fits_nar_byte _) W5 0 rfl (Nat.le_of_ble_eq_true rfl)
  have k6 : Way p e below S0 T5 (mkF m 32 #[rv a1, iv (0 : Int32), rv a2, iv (0 : Int32), iv (2 : Int32), iv (0 : Int32), iv q0] []) := fun t k => k4 t (st5 _ k)
  have k7 : Way p e below S0 T5 (mkF m 12 #[rv a1, iv (1 : Int32), rv a2, iv (1 : Int32), iv (2 : Int32), iv (1 : Int32), iv q0] [(.int (1 : Int32)), (.ref a1)]) := by
    intro t k
    refine k6 t ?_
    refine XS.iinc X5.here hx rfl (hb hby d_jdk_52_method_21_code_32) rfl (l' := #[rv a1, iv (1 : Int32), rv a2, iv (0 : Int32), iv (2 : Int32), iv (0 : Int32), iv q0]) rfl ?_
    show Steps p.tables e below (T5.setTop (mkF m 35 #[rv a1, iv (1 : Int32), rv a2, iv (0 : Int32), iv (2 : Int32), iv (0 : Int32), iv q0] [])) _
    refine XS.iinc X5.here hx rfl (hb hby d_jdk_52_method_21_code_35) rfl (l' := #[rv a1, iv (1 : Int32), rv a2, iv (1 : Int32), iv (2 : Int32), iv (0 : Int32), iv q0]) rfl ?_
    show Steps p.tables e below (T5.setTop (mkF m 38 #[rv a1, iv (1 : Int32), rv a2, iv (1 : Int32), iv (2 : Int32), iv (0 : Int32), iv q0] [])) _
    refine XS.iinc X5.here hx rfl (hb hby d_jdk_52_method_21_code_38) rfl (l' := #[rv a1, iv (1 : Int32), rv a2, iv (1 : Int32), iv (2 : Int32), iv (1 : Int32), iv q0]) rfl ?_
    show Steps p.tables e below (T5.setTop (mkF m 41 #[rv a1, iv (1 : Int32), rv a2, iv (1 : Int32), iv (2 : Int32), iv (1 : Int32), iv q0] [])) _
    refine XS.goto X5.here hx rfl (pc0 := 41) (pc' := 3) rfl (hb hby d_jdk_52_method_21_code_41) (by decide) (by decide) ?_
    show Steps p.tables e below (T5.setTop (mkF m 3 #[rv a1, iv (1 : Int32), rv a2, iv (1 : Int32), iv (2 : Int32), iv (1 : Int32), iv q0] [])) _
    refine XS.iload X5.here hx rfl (hb hby d_jdk_52_method_21_code_3) rfl ?_
    show Steps p.tables e below (T5.setTop (mkF m 5 #[rv a1, iv (1 : Int32), rv a2, iv (1 : Int32), iv (2 : Int32), iv (1 : Int32), iv q0] [(.int (1 : Int32))])) _
    refine XS.iload X5.here hx rfl (hb hby d_jdk_52_method_21_code_5) rfl ?_
    show Steps p.tables e below (T5.setTop (mkF m 7 #[rv a1, iv (1 : Int32), rv a2, iv (1 : Int32), iv (2 : Int32), iv (1 : Int32), iv q0] [(.int (2 : Int32)), (.int (1 : Int32))])) _
    refine XS.icmpNo X5.here hx rfl (hb hby d_jdk_52_method_21_code_7) rfl (tlt ((by decide) : (1 : Int32) < (2 : Int32))).2.1 ?_
    show Steps p.tables e below (T5.setTop (mkF m 10 #[rv a1, iv (1 : Int32), rv a2, iv (1 : Int32), iv (2 : Int32), iv (1 : Int32), iv q0] [])) _
    refine XS.aloadN X5.here hx rfl (hb hby d_jdk_52_method_21_code_10) rfl rfl ?_
    show Steps p.tables e below (T5.setTop (mkF m 11 #[rv a1, iv (1 : Int32), rv a2, iv (1 : Int32), iv (2 : Int32), iv (1 : Int32), iv q0] [(.ref a1)])) _
    refine XS.iloadN X5.here hx rfl (hb hby d_jdk_52_method_21_code_11) rfl ?_
    show Steps p.tables e below (T5.setTop (mkF m 12 #[rv a1, iv (1 : Int32), rv a2, iv (1 : Int32), iv (2 : Int32), iv (1 : Int32), iv q0] [(.int (1 : Int32)), (.ref a1)])) _
    exact k
  have f8 : Arv Z h5 a1 kc .char (2 : Int32) [(.int q0), (.int q1)] (.int (0 : Int32)) := (a_0.other W5 hne)
  obtain ⟨cl9, Ar9, qc9, S9, M9, U9, G9⟩ := id (f8)
  have hin9 : ¬ ((1 : Int32) < 0 ∨ cl9.slots.size ≤ ((1 : Int32)).toNatClampNeg) := inb_of S9 ⟨by decide, by decide⟩
  have hat9 : cl9.slots[((1 : Int32)).toNatClampNeg]? = some (.int q1) := Has.at U9 hin9 rfl
  have k10 : Way p e below S0 T5 (mkF m 13 #[rv a1, iv (1 : Int32), rv a2, iv (1 : Int32), iv (2 : Int32), iv (1 : Int32), iv q0] [(.int q1)]) := fun t k => k7 t (X5.caload hx (j := (1 : Int32)) (v := (.int q1)) (by rw [e5]; exact Ar9.1) (State.isArrayOf_alike hZ.alike Ar9.2.1) Ar9.2.2 hin9 hat9 (g := (mkF m 12 #[rv a1, iv (1 : Int32), rv a2, iv (1 : Int32), iv (2 : Int32), iv (1 : Int32), iv q0] [(.int (1 : Int32)), (.ref a1)])) rfl rfl (hb hby d_jdk_52_method_21_code_12) _ k)
  have k11 : Way p e below S0 T5 (mkF m 31 #[rv a1, iv (1 : Int32), rv a2, iv (1 : Int32), iv (2 : Int32), iv (1 : Int32), iv q1] [(.int (q1.toInt8.toInt32)), (.int (1 : Int32)), (.ref a2)]) := by
    intro t k
    refine k10 t ?_
    refine XS.istore X5.here hx rfl (hb hby d_jdk_52_method_21_code_13) rfl (l' := #[rv a1, iv (1 : Int32), rv a2, iv (1 : Int32), iv (2 : Int32), iv (1 : Int32), iv q1]) rfl ?_
    show Steps p.tables e below (T5.setTop (mkF m 15 #[rv a1, iv (1 : Int32), rv a2, iv (1 : Int32), iv (2 : Int32), iv (1 : Int32), iv q1] [])) _
    refine XS.iload X5.here hx rfl (hb hby d_jdk_52_method_21_code_15) rfl ?_
    show Steps p.tables e below (T5.setTop (mkF m 17 #[rv a1, iv (1 : Int32), rv a2, iv (1 : Int32), iv (2 : Int32), iv (1 : Int32), iv q1] [(.int q1)])) _
    refine XS.sipush X5.here hx rfl (hb hby d_jdk_52_method_21_code_17) ?_
    show Steps p.tables e below (T5.setTop (mkF m 20 #[rv a1, iv (1 : Int32), rv a2, iv (1 : Int32), iv (2 : Int32), iv (1 : Int32), iv q1] [(.int (255 : Int32)), (.int q1)])) _
    refine XS.icmpYes X5.here hx rfl (pc0 := 20) (pc' := 26) rfl (hb hby d_jdk_52_method_21_code_20) rfl (flt (hq1 : ¬ ((255 : Int32) < q1))).2.2.2 (by decide) (by decide) ?_
    show Steps p.tables e below (T5.setTop (mkF m 26 #[rv a1, iv (1 : Int32), rv a2, iv (1 : Int32), iv (2 : Int32), iv (1 : Int32), iv q1] [])) _
    refine XS.aloadN X5.here hx rfl (hb hby d_jdk_52_method_21_code_26) rfl rfl ?_
    show Steps p.tables e below (T5.setTop (mkF m 27 #[rv a1, iv (1 : Int32), rv a2, iv (1 : Int32), iv (2 : Int32), iv (1 : Int32), iv q1] [(.ref a2)])) _
    refine XS.iloadN X5.here hx rfl (hb hby d_jdk_52_method_21_code_27) rfl ?_
    show Steps p.tables e below (T5.setTop (mkF m 28 #[rv a1, iv (1 : Int32), rv a2, iv (1 : Int32), iv (2 : Int32), iv (1 : Int32), iv q1] [(.int (1 : Int32)), (.ref a2)])) _
    refine XS.iload X5.here hx rfl (hb hby d_jdk_52_method_21_code_28) rfl ?_
    show Steps p.tables e below (T5.setTop (mkF m 30 #[rv a1, iv (1 : Int32), rv a2, iv (1 : Int32), iv (2 : Int32), iv (1 : Int32), iv q1] [(.int q1), (.int (1 : Int32)), (.ref a2)])) _
    refine XS.i2b X5.here hx rfl (hb hby d_jdk_52_method_21_code_30) rfl ?_
    show Steps p.tables e below (T5.setTop (mkF m 31 #[rv a1, iv (1 : Int32), rv a2, iv (1 : Int32), iv (2 : Int32), iv (1 : Int32), iv q1] [(.int (q1.toInt8.toInt32)), (.int (1 : Int32)), (.ref a2)])) _
    exact k
  obtain ⟨cl12, Ar12, qc12, S12, M12, U12, G12⟩ := id (va5)
  have hin12 : ¬ ((1 : Int32) < 0 ∨ cl12.slots.size ≤ ((1 : Int32)).toNatClampNeg) := inb_of S12 ⟨by decide, by decide⟩
  obtain ⟨T12, h12, X12, e12, W12, st12⟩ := stB X5 hx hZ e5 Ar12 (j := (1 : Int32)) hin12 (g := (mkF m 31 #[rv a1, iv (1 : Int32), rv a2, iv (1 : Int32), iv (2 : Int32), iv (1 : Int32), iv q1] [(.int (q1.toInt8.toInt32)), (.int (1 : Int32)), (.ref a2)])) rfl rfl (hb hby d_jdk_52_method_21_code_31)
  have O12 := O5.wr W12 ga2
  have N12 := Fr.snoc X12 N5 ga2
  have K12 : Keep h0 h12 [a2] := K5.wr W12 (Or.inl (List.mem_of_getElem? (i := 0) rfl))
  have va12 : Arv Z h12 a2 kb .byte (2 : Int32) [(.int ((q0.toInt8.toInt32).toInt8.toInt32)), (.int ((q1.toInt8.toInt32).toInt8.toInt32))] (.int (0 : Int32)) := Arv.set Ar12 qc12 S12 M12 U12 G12 (fits_nar_byte _) W12 1 rfl (Nat.le_of_ble_eq_true rfl)
  have k13 : Way p e below S0 T12 (mkF m 32 #[rv a1, iv (1 : Int32), rv a2, iv (1 : Int32), iv (2 : Int32), iv (1 : Int32), iv q1] []) := fun t k => k11 t (st12 _ k)
  have k14 : Way p e below S0 T12 (mkF m 46 #[rv a1, iv (2 : Int32), rv a2, iv (2 : Int32), iv (2 : Int32), iv (2 : Int32), iv q1] [(.int (2 : Int32))]) := by
    intro t k
    refine k13 t ?_
    refine XS.iinc X12.here hx rfl (hb hby d_jdk_52_method_21_code_32) rfl (l' := #[rv a1, iv (2 : Int32), rv a2, iv (1 : Int32), iv (2 : Int32), iv (1 : Int32), iv q1]) rfl ?_
    show Steps p.tables e below (T12.setTop (mkF m 35 #[rv a1, iv (2 : Int32), rv a2, iv (1 : Int32), iv (2 : Int32), iv (1 : Int32), iv q1] [])) _
    refine XS.iinc X12.here hx rfl (hb hby d_jdk_52_method_21_code_35) rfl (l' := #[rv a1, iv (2 : Int32), rv a2, iv (2 : Int32), iv (2 : Int32), iv (1 : Int32), iv q1]) rfl ?_
    show Steps p.tables e below (T12.setTop (mkF m 38 #[rv a1, iv (2 : Int32), rv a2, iv (2 : Int32), iv (2 : Int32), iv (1 : Int32), iv q1] [])) _
    refine XS.iinc X12.here hx rfl (hb hby d_jdk_52_method_21_code_38) rfl (l' := #[rv a1, iv (2 : Int32), rv a2, iv (2 : Int32), iv (2 : Int32), iv (2 : Int32), iv q1]) rfl ?_
    show Steps p.tables e below (T12.setTop (mkF m 41 #[rv a1, iv (2 : Int32), rv a2, iv (2 : Int32), iv (2 : Int32), iv (2 : Int32), iv q1] [])) _
    refine XS.goto X12.here hx rfl (pc0 := 41) (pc' := 3) rfl (hb hby d_jdk_52_method_21_code_41) (by decide) (by decide) ?_
    show Steps p.tables e below (T12.setTop (mkF m 3 #[rv a1, iv (2 : Int32), rv a2, iv (2 : Int32), iv (2 : Int32), iv (2 : Int32), iv q1] [])) _
    refine XS.iload X12.here hx rfl (hb hby d_jdk_52_method_21_code_3) rfl ?_
    show Steps p.tables e below (T12.setTop (mkF m 5 #[rv a1, iv (2 : Int32), rv a2, iv (2 : Int32), iv (2 : Int32), iv (2 : Int32), iv q1] [(.int (2 : Int32))])) _
    refine XS.iload X12.here hx rfl (hb hby d_jdk_52_method_21_code_5) rfl ?_
    show Steps p.tables e below (T12.setTop (mkF m 7 #[rv a1, iv (2 : Int32), rv a2, iv (2 : Int32), iv (2 : Int32), iv (2 : Int32), iv q1] [(.int (2 : Int32)), (.int (2 : Int32))])) _
    refine XS.icmpYes X12.here hx rfl (pc0 := 7) (pc' := 44) rfl (hb hby d_jdk_52_method_21_code_7) rfl (flt ((by decide) : ¬ ((2 : Int32) < (2 : Int32)))).2.1 (by decide) (by decide) ?_
    show Steps p.tables e below (T12.setTop (mkF m 44 #[rv a1, iv (2 : Int32), rv a2, iv (2 : Int32), iv (2 : Int32), iv (2 : Int32), iv q1] [])) _
    refine XS.iload X12.here hx rfl (hb hby d_jdk_52_method_21_code_44) rfl ?_
    show Steps p.tables e below (T12.setTop (mkF m 46 #[rv a1, iv (2 : Int32), rv a2, iv (2 : Int32), iv (2 : Int32), iv (2 : Int32), iv q1] [(.int (2 : Int32))])) _
    exact k
  obtain ⟨fs, hr, hrun, hended, hW, hsame⟩ := X12.leave (v := some (.int (2 : Int32))) (fun h => by rw [Bd.returns] at h; cases h)
  refine ⟨_, _, k14 _ (retOut X12 hx Bd.returns rfl (Or.inl ⟨rfl, Or.inl rfl, _, rfl⟩) (hb hby d_jdk_52_method_21_code_46) hr), hrun, hended, _, _, rfl, ?_, ⟨_, rfl⟩, hW, hsame.mono (by decide) (by decide)⟩
  show Q_scomp1_2 Z wCS wDE kDE a1 a2 kc kb q0 q1 h0 n0 _ T12.heap _
  rw [e12]
  exact ⟨rfl, N12, K12, va12⟩
def Q_scomp_2 (Z : State) (wCS : Int32) (wDE : Addr) (kDE : ClassId) (a1 : Addr) (kc : ClassId) (q0 : Int32) (q1 : Int32) (h0 : Heap) (n0 : Nat) (v : Option Value) (h : Heap) (L : List Loc) : Prop := ∃ b1 : Addr, ∃ kb : ClassId, (v = some (.ref b1)) ∧ (Fr n0 L) ∧ (Keep h0 h []) ∧ (h0.size ≤ b1) ∧ (Arv Z h b1 kb .byte (2 : Int32) [(.int ((q0.toInt8.toInt32).toInt8.toInt32)), (.int ((q1.toInt8.toInt32).toInt8.toInt32))] (.int (0 : Int32))) ∧ (Exa Z h b1 "[B")
set_option maxRecDepth 65536 in
set_option maxHeartbeats 40000000 in
theorem scomp_2 (l : Launch) (Z : State) (a0 : Array Value) (hw : ∀ d ∈ tables_1, d.before a0 Z = true) (ws : List Jvm.Cond) (wCS : Int32) (wDE : Addr) (kDE : ClassId) (G : Gst Z wCS wDE kDE) (a1 : Addr) (kc : ClassId) (q0 : Int32) (q1 : Int32) (h0 : Heap) (n0 : Nat) (O0 : Old Z n0 h0) (a_0 : Arv Z h0 a1 kc .char (2 : Int32) [(.int q0), (.int q1)] (.int (0 : Int32))) (hq0 : ¬ ((255 : Int32) < q0)) (hq1 : ¬ ((255 : Int32) < q1)) :
    MetFree l (⟨"java/lang/StringUTF16", "compress", "([CII)[B"⟩ : MethodName) (head1 (Jvm.Cond.code (⟨"java/lang/StringUTF16", "compress", "([CII)[B"⟩ : MethodName) jdk_52_method_16_code 6 (some (.array .byte)) :: ws) ({ frames := 1, cells := 1, slots := 2, locals := 18 } : Room)) (fun a U => a = #[(.ref a1), (.int (0 : Int32)), (.int (2 : Int32))] ∧ Z.Warmed39 U.vm ∧ U.heap = h0) (fun _ _ _ _ _ => True) (fun _ U o U' => ∃ v L, o = .returned v ∧ Q_scomp_2 Z wCS wDE kDE a1 kc q0 q1 h0 n0 v U'.heap L ∧ FrameEnd U o U' L ({ frames := 1, cells := 1, slots := 2, locals := 18 } : Room).cells ({ frames := 1, cells := 1, slots := 2, locals := 18 } : Room).slots) := by
  refine MetFree.of_bodySF (plainFor_of_name pn_0) hisR ?_
  intro p e s m args below meth c s₁ Bd hml0 hP hK
  obtain ⟨rfl, hZ, hh⟩ := hP
  have hx := Bd.exec
  have hby := Bd.bytes
  have hml : c.maxLocals = 6 := hml0
  have hown : s.vm.findClass "java/lang/StringUTF16" = some m.cls := findClass_of_methodNamed Bd.named
  have hnm := (name_of_methodNamed Bd.named Bd.method).1
  have X0 : Stand p l e ({ frames := 1, cells := 1, slots := 2, locals := 18 } : Room) s m #[(.ref a1), (.int (0 : Int32)), (.int (2 : Int32))] below meth c s₁ [] 0 0 := Stand.of_body Bd
  have e0 : s₁.heap = h0 := by rw [← hh, Bd.state]; rfl
  have N0 := Fr.nil n0
  obtain ⟨S_CS, hCS, S_DE, V_DE⟩ := id G
  have k0 : Way p e below (s₁.setTop (entryFrame m #[(.ref a1), (.int (0 : Int32)), (.int (2 : Int32))] 6)) s₁ (mkF m 0 #[rv a1, iv (0 : Int32), iv (2 : Int32), .unset, .unset, .unset] []) := fun t k => castTop (by first | (simp [entryFrame, mkF, argsToLocals, Value.category]; done) | rfl) k
  generalize s₁.setTop (entryFrame m #[(.ref a1), (.int (0 : Int32)), (.int (2 : Int32))] 6) = S0 at k0 ⊢
  have k1 : Way p e below S0 s₁ (mkF m 1 #[rv a1, iv (0 : Int32), iv (2 : Int32), .unset, .unset, .unset] [(.int (2 : Int32))]) := by
    intro t k
    refine k0 t ?_
    refine XS.iloadN X0.here hx rfl (hb hby d_jdk_52_method_16_code_0) rfl ?_
    show Steps p.tables e below (s₁.setTop (mkF m 1 #[rv a1, iv (0 : Int32), iv (2 : Int32), .unset, .unset, .unset] [(.int (2 : Int32))])) _
    exact k
  obtain ⟨T2, h2, c2, X2, e2, E2, A2, B2, st2⟩ := newPE X0 hx hZ (hw _ (List.mem_of_getElem? (i := 19) rfl)) e0 (g := (mkF m 1 #[rv a1, iv (0 : Int32), iv (2 : Int32), .unset, .unset, .unset] [(.int (2 : Int32))])) rfl (hb hby d_jdk_52_method_16_code_1) rfl (by decide) (cap := 2) (by decide) (by decide) (by decide) (by decide) (ad := "[B") (by decide)
  obtain ⟨b2, g2⟩ : ∃ z, z = h0.size := ⟨_, rfl⟩
  rw [← g2] at A2 B2 st2
  have O2 := O0.ext E2
  have K2 : Keep h0 h2 [] := (Keep.refl h0 []).ext E2
  have v2 : Arv Z h2 b2 c2 .byte (2 : Int32) [(.int (0 : Int32)), (.int (0 : Int32))] (.int (0 : Int32)) := (Arv.new A2 (by decide)).pad (pad_rep [] (.int (0 : Int32)) 2)
  have k3 : Way p e below S0 T2 (mkF m 3 #[rv a1, iv (0 : Int32), iv (2 : Int32), .unset, .unset, .unset] [(.ref b2)]) := fun t k => k1 t (st2 _ k)
  have k4 : Way p e below S0 T2 (mkF m 9 #[rv a1, iv (0 : Int32), iv (2 : Int32), rv b2, .unset, .unset] [(.int (2 : Int32)), (.int (0 : Int32)), (.ref b2), (.int (0 : Int32)), (.ref a1)]) := by
    intro t k
    refine k3 t ?_
    refine XS.astoreN X2.here hx rfl (hb hby d_jdk_52_method_16_code_3) rfl rfl (l' := #[rv a1, iv (0 : Int32), iv (2 : Int32), rv b2, .unset, .unset]) rfl ?_
    show Steps p.tables e below (T2.setTop (mkF m 4 #[rv a1, iv (0 : Int32), iv (2 : Int32), rv b2, .unset, .unset] [])) _
    refine XS.aloadN X2.here hx rfl (hb hby d_jdk_52_method_16_code_4) rfl rfl ?_
    show Steps p.tables e below (T2.setTop (mkF m 5 #[rv a1, iv (0 : Int32), iv (2 : Int32), rv b2, .unset, .unset] [(.ref a1)])) _
    refine XS.iloadN X2.here hx rfl (hb hby d_jdk_52_method_16_code_5) rfl ?_
    show Steps p.tables e below (T2.setTop (mkF m 6 #[rv a1, iv (0 : Int32), iv (2 : Int32), rv b2, .unset, .unset] [(.int (0 : Int32)), (.ref a1)])) _
    refine XS.aloadN X2.here hx rfl (hb hby d_jdk_52_method_16_code_6) rfl rfl ?_
    show Steps p.tables e below (T2.setTop (mkF m 7 #[rv a1, iv (0 : Int32), iv (2 : Int32), rv b2, .unset, .unset] [(.ref b2), (.int (0 : Int32)), (.ref a1)])) _
    refine XS.iconst X2.here hx rfl (hb hby d_jdk_52_method_16_code_7) ?_
    show Steps p.tables e below (T2.setTop (mkF m 8 #[rv a1, iv (0 : Int32), iv (2 : Int32), rv b2, .unset, .unset] [(.int (0 : Int32)), (.ref b2), (.int (0 : Int32)), (.ref a1)])) _
    refine XS.iloadN X2.here hx rfl (hb hby d_jdk_52_method_16_code_8) rfl ?_
    show Steps p.tables e below (T2.setTop (mkF m 9 #[rv a1, iv (0 : Int32), iv (2 : Int32), rv b2, .unset, .unset] [(.int (2 : Int32)), (.int (0 : Int32)), (.ref b2), (.int (0 : Int32)), (.ref a1)])) _
    exact k
  have f5 : Arv Z h2 a1 kc .char (2 : Int32) [(.int q0), (.int q1)] (.int (0 : Int32)) := (a_0.ext E2)
  have ge6 : n0 ≤ b2 := Nat.le_trans (own_old O0) (Nat.le_of_eq g2.symm)
  obtain ⟨_, _, ⟨T7, L7, kk7, nn7⟩, -, X7, ⟨Lc7, hQ7, l7, y7, z7⟩, st7⟩ := Jvm.LawKit.callS X2 hx (y := (⟨"java/lang/StringUTF16", "compress", "([CI[BII)I"⟩ : MethodName)) hown (mvT hZ (hw _ (List.mem_of_getElem? (i := 20) rfl))) (mvT hZ (hw _ (List.mem_of_getElem? (i := 21) rfl))) (mvT hZ (hw _ (List.mem_of_getElem? (i := 17) rfl))) (mvT hZ (hw _ (List.mem_of_getElem? (i := 22) rfl))) (by decide) (backOf (W := 0) (scomp1_2 l Z a0 hw [] wCS wDE kDE G a1 b2 kc c2 q0 q1 h2 n0 O2 (f5 : Arv Z h2 a1 kc .char (2 : Int32) [(.int q0), (.int q1)] (.int (0 : Int32))) (v2 : Arv Z h2 b2 c2 .byte (2 : Int32) [(.int (0 : Int32)), (.int (0 : Int32))] (.int (0 : Int32))) ((Nat.ne_of_lt (Nat.lt_of_lt_of_le a_0.lt (Nat.le_of_eq g2.symm))) : a1 ≠ b2) (ge6 : n0 ≤ b2) (by first | assumption | decide | omega : ¬ ((255 : Int32) < q0)) (by first | assumption | decide | omega : ¬ ((255 : Int32) < q1))) hZ (hw _ (List.mem_of_getElem? (i := 22) rfl)) (hw _ (List.mem_of_getElem? (i := 17) rfl)) (by decide) (by decide)) (g := (mkF m 9 #[rv a1, iv (0 : Int32), iv (2 : Int32), rv b2, .unset, .unset] [(.int (2 : Int32)), (.int (0 : Int32)), (.ref b2), (.int (0 : Int32)), (.ref a1)])) rfl (by rw [hml]; rfl) (argsL := [(.ref a1), (.int (0 : Int32)), (.ref b2), (.int (0 : Int32)), (.int (2 : Int32))]) (rest := []) (lenOf pd_0 rfl) rfl (by show 2 * 0 + _ ≤ _; exact Nat.le_of_eq rfl) (hb hby d_jdk_52_method_16_code_9) (fun _ _ => ⟨rfl, e2, (by decide : 1 + 0 ≤ _), (by decide : 2 + 0 ≤ _)⟩)
  dsimp only [Pt.U, Pt.locs, Pt.cells, Pt.slots] at X7 l7 y7 z7 st7 hQ7
  subst l7 y7 z7
  obtain ⟨rfl, Nq7, Kq7, po7_0⟩ := hQ7
  have N7 := Fr.app N0 Nq7
  have O7 := O2.keep Kq7 (allS ge6 all0)
  have gz8 : h0.size ≤ b2 := Nat.le_trans (Keep.refl h0 []).1 (Nat.le_of_eq g2.symm)
  have K7 : Keep h0 T7.heap [] := K2.trans Kq7 (allS (Or.inr gz8) all0)
  have k9 : Way p e below S0 T7 (mkF m 12 #[rv a1, iv (0 : Int32), iv (2 : Int32), rv b2, .unset, .unset] [(.int (2 : Int32))]) := fun t k => k4 t (st7 _ k)
  have k10 : Way p e below S0 T7 (mkF m 58 #[rv a1, iv (0 : Int32), iv (2 : Int32), rv b2, iv (2 : Int32), .unset] [(.ref b2)]) := by
    intro t k
    refine k9 t ?_
    refine XS.istore X7.here hx rfl (hb hby d_jdk_52_method_16_code_12) rfl (l' := #[rv a1, iv (0 : Int32), iv (2 : Int32), rv b2, iv (2 : Int32), .unset]) rfl ?_
    show Steps p.tables e below (T7.setTop (mkF m 14 #[rv a1, iv (0 : Int32), iv (2 : Int32), rv b2, iv (2 : Int32), .unset] [])) _
    refine XS.iload X7.here hx rfl (hb hby d_jdk_52_method_16_code_14) rfl ?_
    show Steps p.tables e below (T7.setTop (mkF m 16 #[rv a1, iv (0 : Int32), iv (2 : Int32), rv b2, iv (2 : Int32), .unset] [(.int (2 : Int32))])) _
    refine XS.iloadN X7.here hx rfl (hb hby d_jdk_52_method_16_code_16) rfl ?_
    show Steps p.tables e below (T7.setTop (mkF m 17 #[rv a1, iv (0 : Int32), iv (2 : Int32), rv b2, iv (2 : Int32), .unset] [(.int (2 : Int32)), (.int (2 : Int32))])) _
    refine XS.icmpYes X7.here hx rfl (pc0 := 17) (pc' := 57) rfl (hb hby d_jdk_52_method_16_code_17) rfl (teq ((by decide) : (2 : Int32) = (2 : Int32))).1 (by decide) (by decide) ?_
    show Steps p.tables e below (T7.setTop (mkF m 57 #[rv a1, iv (0 : Int32), iv (2 : Int32), rv b2, iv (2 : Int32), .unset] [])) _
    refine XS.aloadN X7.here hx rfl (hb hby d_jdk_52_method_16_code_57) rfl rfl ?_
    show Steps p.tables e below (T7.setTop (mkF m 58 #[rv a1, iv (0 : Int32), iv (2 : Int32), rv b2, iv (2 : Int32), .unset] [(.ref b2)])) _
    exact k
  obtain ⟨fs, hr, hrun, hended, hW, hsame⟩ := X7.leave (v := some (.ref b2)) (fun h => by rw [Bd.returns] at h; cases h)
  have f11 : Exa Z T7.heap b2 "[B" := (B2.keep Kq7)
  refine ⟨_, _, k10 _ (retOut X7 hx Bd.returns rfl (Or.inr (Or.inr (Or.inr (Or.inr ⟨rfl, rfl, rfl⟩)))) (hb hby d_jdk_52_method_16_code_58) hr), hrun, hended, _, _, rfl, ?_, ⟨_, rfl⟩, hW, hsame.mono (by decide) (by decide)⟩
  show Q_scomp_2 Z wCS wDE kDE a1 kc q0 q1 h0 n0 _ T7.heap _
  exact ⟨b2, c2, rfl, N7, K7, gz8, po7_0, f11⟩
def Q_scoder_2 (Z : State) (wCS : Int32) (wDE : Addr) (kDE : ClassId) (a1 : Addr) (kb : ClassId) (q0 : Int32) (q1 : Int32) (h0 : Heap) (n0 : Nat) (v : Option Value) (h : Heap) (L : List Loc) : Prop := (v = some (.int (0 : Int32))) ∧ (Fr n0 L) ∧ (h = h0)
set_option maxRecDepth 65536 in
set_option maxHeartbeats 40000000 in
theorem scoder_2 (l : Launch) (Z : State) (a0 : Array Value) (hw : ∀ d ∈ tables_1, d.before a0 Z = true) (ws : List Jvm.Cond) (wCS : Int32) (wDE : Addr) (kDE : ClassId) (G : Gst Z wCS wDE kDE) (a1 : Addr) (kb : ClassId) (q0 : Int32) (q1 : Int32) (h0 : Heap) (n0 : Nat) (O0 : Old Z n0 h0) (a_0 : Arv Z h0 a1 kb .byte (2 : Int32) [(.int q0), (.int q1)] (.int (0 : Int32))) :
    MetFree l (⟨"java/lang/StringUTF16", "coderFromArrayLen", "([BI)B"⟩ : MethodName) (head1 (Jvm.Cond.code (⟨"java/lang/StringUTF16", "coderFromArrayLen", "([BI)B"⟩ : MethodName) jdk_52_method_15_code 2 (some .byte) :: ws) ({ frames := 0, cells := 0, slots := 0, locals := 0 } : Room)) (fun a U => a = #[(.ref a1), (.int (2 : Int32))] ∧ Z.Warmed39 U.vm ∧ U.heap = h0) (fun _ _ _ _ _ => True) (fun _ U o U' => ∃ v L, o = .returned v ∧ Q_scoder_2 Z wCS wDE kDE a1 kb q0 q1 h0 n0 v U'.heap L ∧ FrameEnd U o U' L ({ frames := 0, cells := 0, slots := 0, locals := 0 } : Room).cells ({ frames := 0, cells := 0, slots := 0, locals := 0 } : Room).slots) := by
  refine MetFree.of_bodySF (plainFor_of_name pn_0) hisR ?_
  intro p e s m args below meth c s₁ Bd hml0 hP hK
  obtain ⟨rfl, hZ, hh⟩ := hP
  have hx := Bd.exec
  have hby := Bd.bytes
  have hml : c.maxLocals = 2 := hml0
  have hown : s.vm.findClass "java/lang/StringUTF16" = some m.cls := findClass_of_methodNamed Bd.named
  have hnm := (name_of_methodNamed Bd.named Bd.method).1
  have X0 : Stand p l e ({ frames := 0, cells := 0, slots := 0, locals := 0 } : Room) s m #[(.ref a1), (.int (2 : Int32))] below meth c s₁ [] 0 0 := Stand.of_body Bd
  have e0 : s₁.heap = h0 := by rw [← hh, Bd.state]; rfl
  have N0 := Fr.nil n0
  obtain ⟨S_CS, hCS, S_DE, V_DE⟩ := id G
  have k0 : Way p e below (s₁.setTop (entryFrame m #[(.ref a1), (.int (2 : Int32))] 2)) s₁ (mkF m 0 #[rv a1, iv (2 : Int32)] []) := fun t k => castTop (by first | (simp [entryFrame, mkF, argsToLocals, Value.category]; done) | rfl) k
  generalize s₁.setTop (entryFrame m #[(.ref a1), (.int (2 : Int32))] 2) = S0 at k0 ⊢
  have k1 : Way p e below S0 s₁ (mkF m 2 #[rv a1, iv (2 : Int32)] [(.ref a1), (.int (2 : Int32))]) := by
    intro t k
    refine k0 t ?_
    refine XS.iloadN X0.here hx rfl (hb hby d_jdk_52_method_15_code_0) rfl ?_
    show Steps p.tables e below (s₁.setTop (mkF m 1 #[rv a1, iv (2 : Int32)] [(.int (2 : Int32))])) _
    refine XS.aloadN X0.here hx rfl (hb hby d_jdk_52_method_15_code_1) rfl rfl ?_
    show Steps p.tables e below (s₁.setTop (mkF m 2 #[rv a1, iv (2 : Int32)] [(.ref a1), (.int (2 : Int32))])) _
    exact k
  obtain ⟨cl2, Ar2, -, S2, M2, -, -⟩ := id (a_0)
  have k3 : Way p e below S0 s₁ (mkF m 3 #[rv a1, iv (2 : Int32)] [(.int (2 : Int32)), (.int (2 : Int32))]) := fun t k => k1 t (X0.arraylength hx (by rw [e0]; exact Ar2.1) (State.isArrayOf_alike hZ.alike Ar2.2.1) (g := (mkF m 2 #[rv a1, iv (2 : Int32)] [(.ref a1), (.int (2 : Int32))])) rfl rfl (hb hby d_jdk_52_method_15_code_2) _ (by rw [len_of S2 M2]; exact k))
  have k4 : Way p e below S0 s₁ (mkF m 8 #[rv a1, iv (2 : Int32)] [(.int (0 : Int32))]) := by
    intro t k
    refine k3 t ?_
    refine XS.isub X0.here hx rfl (hb hby d_jdk_52_method_15_code_3) rfl ?_
    show Steps p.tables e below (s₁.setTop (mkF m 4 #[rv a1, iv (2 : Int32)] [(.int (0 : Int32))])) _
    refine XS.bipush X0.here hx rfl (hb hby d_jdk_52_method_15_code_4) ?_
    show Steps p.tables e below (s₁.setTop (mkF m 6 #[rv a1, iv (2 : Int32)] [(.int (31 : Int32)), (.int (0 : Int32))])) _
    refine XS.iushr X0.here hx rfl (hb hby d_jdk_52_method_15_code_6) rfl ?_
    show Steps p.tables e below (s₁.setTop (mkF m 7 #[rv a1, iv (2 : Int32)] [(.int (0 : Int32))])) _
    refine XS.i2b X0.here hx rfl (hb hby d_jdk_52_method_15_code_7) rfl ?_
    show Steps p.tables e below (s₁.setTop (mkF m 8 #[rv a1, iv (2 : Int32)] [(.int (0 : Int32))])) _
    exact k
  obtain ⟨fs, hr, hrun, hended, hW, hsame⟩ := X0.leave (v := some (.int (0 : Int32))) (fun h => by rw [Bd.returns] at h; cases h)
  refine ⟨_, _, k4 _ (retN X0 hx (t := .byte) Bd.returns (by simp) (hb hby d_jdk_52_method_15_code_8) hr), hrun, hended, _, _, rfl, ?_, ⟨_, rfl⟩, hW, hsame.mono (by decide) (by decide)⟩
  show Q_scoder_2 Z wCS wDE kDE a1 kb q0 q1 h0 n0 _ s₁.heap _
  rw [e0]
  exact ⟨rfl, N0, rfl⟩
def Q_sinit4_2 (Z : State) (wCS : Int32) (wDE : Addr) (kDE : ClassId) (a1 : Addr) (a2 : Addr) (kc : ClassId) (q0 : Int32) (q1 : Int32) (h0 : Heap) (n0 : Nat) (v : Option Value) (h : Heap) (L : List Loc) : Prop := ∃ d1 : Addr, ∃ kb : ClassId, (v = none) ∧ (Fr n0 L) ∧ (Keep h0 h [a1]) ∧ (h0.size ≤ d1) ∧ (Exa Z h a1 "java/lang/String") ∧ (Fld Z h a1 "java/lang/String" "value" "[B" (.ref d1)) ∧ (Fld Z h a1 "java/lang/String" "coder" "B" (.int (0 : Int32))) ∧ (Arv Z h d1 kb .byte (2 : Int32) [(.int ((q0.toInt8.toInt32).toInt8.toInt32)), (.int ((q1.toInt8.toInt32).toInt8.toInt32))] (.int (0 : Int32))) ∧ (Exa Z h d1 "[B")
set_option maxRecDepth 65536 in
set_option maxHeartbeats 40000000 in
theorem sinit4_2 (l : Launch) (Z : State) (a0 : Array Value) (hw : ∀ d ∈ tables_1, d.before a0 Z = true) (ws : List Jvm.Cond) (wCS : Int32) (wDE : Addr) (kDE : ClassId) (G : Gst Z wCS wDE kDE) (a1 : Addr) (a2 : Addr) (kc : ClassId) (q0 : Int32) (q1 : Int32) (h0 : Heap) (n0 : Nat) (O0 : Old Z n0 h0) (a_0 : Exa Z h0 a1 "java/lang/String") (a_1 : Fld Z h0 a1 "java/lang/String" "value" "[B" .null) (a_2 : Fld Z h0 a1 "java/lang/String" "coder" "B" (.int (0 : Int32))) (ga1 : n0 ≤ a1) (hne : a1 ≠ a2) (a_5 : Arv Z h0 a2 kc .char (2 : Int32) [(.int q0), (.int q1)] (.int (0 : Int32))) (hq0 : ¬ ((255 : Int32) < q0)) (hq1 : ¬ ((255 : Int32) < q1)) :
    MetFree l (⟨"java/lang/String", "<init>", "([CIILjava/lang/Void;)V"⟩ : MethodName) (head1 (Jvm.Cond.code (⟨"java/lang/String", "<init>", "([CIILjava/lang/Void;)V"⟩ : MethodName) jdk_42_method_149_code 6 none :: ws) ({ frames := 2, cells := 1, slots := 2, locals := 35 } : Room)) (fun a U => a = #[(.ref a1), (.ref a2), (.int (0 : Int32)), (.int (2 : Int32)), .null] ∧ Z.Warmed39 U.vm ∧ U.heap = h0) (fun _ _ _ _ _ => True) (fun _ U o U' => ∃ v L, o = .returned v ∧ Q_sinit4_2 Z wCS wDE kDE a1 a2 kc q0 q1 h0 n0 v U'.heap L ∧ FrameEnd U o U' L ({ frames := 2, cells := 1, slots := 2, locals := 35 } : Room).cells ({ frames := 2, cells := 1, slots := 2, locals := 35 } : Room).slots) := by
  refine MetFree.of_bodySF (plainFor_of_name pn_1) hisR ?_
  intro p e s m args below meth c s₁ Bd hml0 hP hK
  obtain ⟨rfl, hZ, hh⟩ := hP
  have hx := Bd.exec
  have hby := Bd.bytes
  have hml : c.maxLocals = 6 := hml0
  have hown : s.vm.findClass "java/lang/String" = some m.cls := findClass_of_methodNamed Bd.named
  have hnm := (name_of_methodNamed Bd.named Bd.method).1
  have X0 : Stand p l e ({ frames := 2, cells := 1, slots := 2, locals := 35 } : Room) s m #[(.ref a1), (.ref a2), (.int (0 : Int32)), (.int (2 : Int32)), .null] below meth c s₁ [] 0 0 := Stand.of_body Bd
  have e0 : s₁.heap = h0 := by rw [← hh, Bd.state]; rfl
  have N0 := Fr.nil n0
  obtain ⟨S_CS, hCS, S_DE, V_DE⟩ := id G
  have k0 : Way p e below (s₁.setTop (entryFrame m #[(.ref a1), (.ref a2), (.int (0 : Int32)), (.int (2 : Int32)), .null] 6)) s₁ (mkF m 0 #[rv a1, rv a2, iv (0 : Int32), iv (2 : Int32), .val .null, .unset] []) := fun t k => castTop (by first | (simp [entryFrame, mkF, argsToLocals, Value.category]; done) | rfl) k
  generalize s₁.setTop (entryFrame m #[(.ref a1), (.ref a2), (.int (0 : Int32)), (.int (2 : Int32)), .null] 6) = S0 at k0 ⊢
  have k1 : Way p e below S0 s₁ (mkF m 1 #[rv a1, rv a2, iv (0 : Int32), iv (2 : Int32), .val .null, .unset] [(.ref a1)]) := by
    intro t k
    refine k0 t ?_
    refine XS.aloadN X0.here hx rfl (hb hby d_jdk_42_method_149_code_0) rfl rfl ?_
    show Steps p.tables e below (s₁.setTop (mkF m 1 #[rv a1, rv a2, iv (0 : Int32), iv (2 : Int32), .val .null, .unset] [(.ref a1)])) _
    exact k
  obtain ⟨T2, X2, e2, st2⟩ := initO X0 hx hZ hown (hw _ (List.mem_of_getElem? (i := 11) rfl)) (hw _ (List.mem_of_getElem? (i := 12) rfl)) (hw _ (List.mem_of_getElem? (i := 13) rfl)) e0 (g := (mkF m 1 #[rv a1, rv a2, iv (0 : Int32), iv (2 : Int32), .val .null, .unset] [(.ref a1)])) rfl (by rw [hml]; rfl) rfl (hb hby d_jdk_42_method_149_code_1) (by decide) (W := 0) (by show 2 * 0 + _ ≤ _; exact Nat.le_of_eq rfl) (by decide)
  have k3 : Way p e below S0 T2 (mkF m 4 #[rv a1, rv a2, iv (0 : Int32), iv (2 : Int32), .val .null, .unset] []) := fun t k => k1 t (st2 _ k)
  have k4 : Way p e below S0 T2 (mkF m 27 #[rv a1, rv a2, iv (0 : Int32), iv (2 : Int32), .val .null, .unset] []) := by
    intro t k
    refine k3 t ?_
    refine XS.iloadN X2.here hx rfl (hb hby d_jdk_42_method_149_code_4) rfl ?_
    show Steps p.tables e below (T2.setTop (mkF m 5 #[rv a1, rv a2, iv (0 : Int32), iv (2 : Int32), .val .null, .unset] [(.int (2 : Int32))])) _
    refine XS.ifYes X2.here hx rfl (pc0 := 5) (pc' := 27) rfl (hb hby d_jdk_42_method_149_code_5) rfl ((if0 _ _).trans (feq ((by decide) : ¬ ((2 : Int32) = (0 : Int32)))).2) (by decide) (by decide) ?_
    show Steps p.tables e below (T2.setTop (mkF m 27 #[rv a1, rv a2, iv (0 : Int32), iv (2 : Int32), .val .null, .unset] [])) _
    exact k
  obtain ⟨T5, X5, e5, st5⟩ := getS2 X2 hx hZ hown (host := "") (Or.inl (hw _ (List.mem_of_getElem? (i := 14) rfl))) Via.refl e2 (S_CS.ext O0.2) (g := (mkF m 27 #[rv a1, rv a2, iv (0 : Int32), iv (2 : Int32), .val .null, .unset] [])) rfl (hb hby d_jdk_42_method_149_code_27)
  have k6 : Way p e below S0 T5 (mkF m 30 #[rv a1, rv a2, iv (0 : Int32), iv (2 : Int32), .val .null, .unset] [(.int wCS)]) := fun t k => k4 t (st5 _ k)
  have k7 : Way p e below S0 T5 (mkF m 36 #[rv a1, rv a2, iv (0 : Int32), iv (2 : Int32), .val .null, .unset] [(.int (2 : Int32)), (.int (0 : Int32)), (.ref a2)]) := by
    intro t k
    refine k6 t ?_
    refine XS.ifNo X5.here hx rfl (hb hby d_jdk_42_method_149_code_30) rfl ((if0 _ _).trans (feq (hCS : ¬ (wCS = (0 : Int32)))).1) ?_
    show Steps p.tables e below (T5.setTop (mkF m 33 #[rv a1, rv a2, iv (0 : Int32), iv (2 : Int32), .val .null, .unset] [])) _
    refine XS.aloadN X5.here hx rfl (hb hby d_jdk_42_method_149_code_33) rfl rfl ?_
    show Steps p.tables e below (T5.setTop (mkF m 34 #[rv a1, rv a2, iv (0 : Int32), iv (2 : Int32), .val .null, .unset] [(.ref a2)])) _
    refine XS.iloadN X5.here hx rfl (hb hby d_jdk_42_method_149_code_34) rfl ?_
    show Steps p.tables e below (T5.setTop (mkF m 35 #[rv a1, rv a2, iv (0 : Int32), iv (2 : Int32), .val .null, .unset] [(.int (0 : Int32)), (.ref a2)])) _
    refine XS.iloadN X5.here hx rfl (hb hby d_jdk_42_method_149_code_35) rfl ?_
    show Steps p.tables e below (T5.setTop (mkF m 36 #[rv a1, rv a2, iv (0 : Int32), iv (2 : Int32), .val .null, .unset] [(.int (2 : Int32)), (.int (0 : Int32)), (.ref a2)])) _
    exact k
  obtain ⟨_, _, ⟨T8, L8, kk8, nn8⟩, -, X8, ⟨Lc8, hQ8, l8, y8, z8⟩, st8⟩ := Jvm.LawKit.callS X5 hx (y := (⟨"java/lang/StringUTF16", "compress", "([CII)[B"⟩ : MethodName)) hown (mvT hZ (hw _ (List.mem_of_getElem? (i := 15) rfl))) (mvT hZ (hw _ (List.mem_of_getElem? (i := 16) rfl))) (mvT hZ (hw _ (List.mem_of_getElem? (i := 17) rfl))) (mvT hZ (hw _ (List.mem_of_getElem? (i := 18) rfl))) (by decide) (backOf (W := 0) (scomp_2 l Z a0 hw [] wCS wDE kDE G a2 kc q0 q1 h0 n0 O0 (a_5 : Arv Z h0 a2 kc .char (2 : Int32) [(.int q0), (.int q1)] (.int (0 : Int32))) (by first | assumption | decide | omega : ¬ ((255 : Int32) < q0)) (by first | assumption | decide | omega : ¬ ((255 : Int32) < q1))) hZ (hw _ (List.mem_of_getElem? (i := 18) rfl)) (hw _ (List.mem_of_getElem? (i := 17) rfl)) (by decide) (by decide)) (g := (mkF m 36 #[rv a1, rv a2, iv (0 : Int32), iv (2 : Int32), .val .null, .unset] [(.int (2 : Int32)), (.int (0 : Int32)), (.ref a2)])) rfl (by rw [hml]; rfl) (argsL := [(.ref a2), (.int (0 : Int32)), (.int (2 : Int32))]) (rest := []) (lenOf pd_1 rfl) rfl (by show 2 * 0 + _ ≤ _; exact Nat.le_of_eq rfl) (hb hby d_jdk_42_method_149_code_36) (fun _ _ => ⟨rfl, e5, (by decide : 0 + 1 ≤ _), (by decide : 0 + 2 ≤ _)⟩)
  dsimp only [Pt.U, Pt.locs, Pt.cells, Pt.slots] at X8 l8 y8 z8 st8 hQ8
  subst l8 y8 z8
  obtain ⟨b1_8, kb_8, rfl, Nq8, Kq8, po8_0, po8_1, po8_2⟩ := hQ8
  have N8 := Fr.app N0 Nq8
  have O8 := O0.keep Kq8 all0
  have K8 : Keep h0 T8.heap [a1] := (Keep.refl h0 [a1]).trans Kq8 all0
  have k9 : Way p e below S0 T8 (mkF m 39 #[rv a1, rv a2, iv (0 : Int32), iv (2 : Int32), .val .null, .unset] [(.ref b1_8)]) := fun t k => k7 t (st8 _ k)
  have k10 : Way p e below S0 T8 (mkF m 45 #[rv a1, rv a2, iv (0 : Int32), iv (2 : Int32), .val .null, rv b1_8] [(.int (2 : Int32)), (.ref b1_8), (.ref a1)]) := by
    intro t k
    refine k9 t ?_
    refine XS.astore X8.here hx rfl (hb hby d_jdk_42_method_149_code_39) rfl rfl (l' := #[rv a1, rv a2, iv (0 : Int32), iv (2 : Int32), .val .null, rv b1_8]) rfl ?_
    show Steps p.tables e below (T8.setTop (mkF m 41 #[rv a1, rv a2, iv (0 : Int32), iv (2 : Int32), .val .null, rv b1_8] [])) _
    refine XS.aloadN X8.here hx rfl (hb hby d_jdk_42_method_149_code_41) rfl rfl ?_
    show Steps p.tables e below (T8.setTop (mkF m 42 #[rv a1, rv a2, iv (0 : Int32), iv (2 : Int32), .val .null, rv b1_8] [(.ref a1)])) _
    refine XS.aload X8.here hx rfl (hb hby d_jdk_42_method_149_code_42) rfl rfl ?_
    show Steps p.tables e below (T8.setTop (mkF m 44 #[rv a1, rv a2, iv (0 : Int32), iv (2 : Int32), .val .null, rv b1_8] [(.ref b1_8), (.ref a1)])) _
    refine XS.iloadN X8.here hx rfl (hb hby d_jdk_42_method_149_code_44) rfl ?_
    show Steps p.tables e below (T8.setTop (mkF m 45 #[rv a1, rv a2, iv (0 : Int32), iv (2 : Int32), .val .null, rv b1_8] [(.int (2 : Int32)), (.ref b1_8), (.ref a1)])) _
    exact k
  obtain ⟨_, _, ⟨T11, L11, kk11, nn11⟩, -, X11, ⟨Lc11, hQ11, l11, y11, z11⟩, st11⟩ := Jvm.LawKit.callS X8 hx (y := (⟨"java/lang/StringUTF16", "coderFromArrayLen", "([BI)B"⟩ : MethodName)) hown (mvT hZ (hw _ (List.mem_of_getElem? (i := 23) rfl))) (mvT hZ (hw _ (List.mem_of_getElem? (i := 24) rfl))) (mvT hZ (hw _ (List.mem_of_getElem? (i := 17) rfl))) (mvT hZ (hw _ (List.mem_of_getElem? (i := 25) rfl))) (by decide) (backOf (W := 1) (scoder_2 l Z a0 hw [] wCS wDE kDE G b1_8 kb_8 ((q0.toInt8.toInt32).toInt8.toInt32) ((q1.toInt8.toInt32).toInt8.toInt32) T8.heap n0 O8 (po8_1 : Arv Z T8.heap b1_8 kb_8 .byte (2 : Int32) [(.int ((q0.toInt8.toInt32).toInt8.toInt32)), (.int ((q1.toInt8.toInt32).toInt8.toInt32))] (.int (0 : Int32)))) hZ (hw _ (List.mem_of_getElem? (i := 25) rfl)) (hw _ (List.mem_of_getElem? (i := 17) rfl)) (by decide) (by decide)) (g := (mkF m 45 #[rv a1, rv a2, iv (0 : Int32), iv (2 : Int32), .val .null, rv b1_8] [(.int (2 : Int32)), (.ref b1_8), (.ref a1)])) rfl (by rw [hml]; rfl) (argsL := [(.ref b1_8), (.int (2 : Int32))]) (rest := [(.ref a1)]) (lenOf pd_2 rfl) rfl (by show 2 * 0 + _ ≤ _; exact Nat.le_of_eq rfl) (hb hby d_jdk_42_method_149_code_45) (fun _ _ => ⟨rfl, rfl, (by decide : 1 + 0 ≤ _), (by decide : 2 + 0 ≤ _)⟩)
  dsimp only [Pt.U, Pt.locs, Pt.cells, Pt.slots] at X11 l11 y11 z11 st11 hQ11
  subst l11 y11 z11
  obtain ⟨rfl, Nq11, e11⟩ := hQ11
  have N11 := Fr.app N8 Nq11
  have k12 : Way p e below S0 T11 (mkF m 48 #[rv a1, rv a2, iv (0 : Int32), iv (2 : Int32), .val .null, rv b1_8] [(.int (0 : Int32)), (.ref a1)]) := fun t k => k10 t (st11 _ k)
  have f13 : Fld Z T8.heap a1 "java/lang/String" "coder" "B" (.int (0 : Int32)) := (a_2.keep Kq8 nin0)
  have f14 : Exa Z T8.heap a1 "java/lang/String" := (a_0.keep Kq8)
  obtain ⟨T15, h15, X15, e15, W15, st15⟩ := putFN X11 hx hZ hown (hw _ (List.mem_of_getElem? (i := 26) rfl)) Via.refl e11 f13 f14 (Or.inr ⟨(hw _ (List.mem_of_getElem? (i := 27) rfl)), rfl, hnm⟩) (hw _ (List.mem_of_getElem? (i := 2) rfl)) (ty := .byte) (v' := (.int (0 : Int32))) (by decide) rfl rfl (g := (mkF m 48 #[rv a1, rv a2, iv (0 : Int32), iv (2 : Int32), .val .null, rv b1_8] [(.int (0 : Int32)), (.ref a1)])) rfl rfl (hb hby d_jdk_42_method_149_code_48)
  have O15 := O8.wr W15 ga1
  have N15 := Fr.snoc X15 N11 ga1
  have K15 : Keep h0 h15 [a1] := K8.wr W15 (Or.inl (List.mem_of_getElem? (i := 0) rfl))
  have fw15 : Fld Z h15 a1 "java/lang/String" "coder" "B" (.int (0 : Int32)) := f13.same W15
  have k16 : Way p e below S0 T15 (mkF m 51 #[rv a1, rv a2, iv (0 : Int32), iv (2 : Int32), .val .null, rv b1_8] []) := fun t k => k12 t (st15 _ k)
  have k17 : Way p e below S0 T15 (mkF m 54 #[rv a1, rv a2, iv (0 : Int32), iv (2 : Int32), .val .null, rv b1_8] [(.ref b1_8), (.ref a1)]) := by
    intro t k
    refine k16 t ?_
    refine XS.aloadN X15.here hx rfl (hb hby d_jdk_42_method_149_code_51) rfl rfl ?_
    show Steps p.tables e below (T15.setTop (mkF m 52 #[rv a1, rv a2, iv (0 : Int32), iv (2 : Int32), .val .null, rv b1_8] [(.ref a1)])) _
    refine XS.aload X15.here hx rfl (hb hby d_jdk_42_method_149_code_52) rfl rfl ?_
    show Steps p.tables e below (T15.setTop (mkF m 54 #[rv a1, rv a2, iv (0 : Int32), iv (2 : Int32), .val .null, rv b1_8] [(.ref b1_8), (.ref a1)])) _
    exact k
  have f18 : Fld Z h15 a1 "java/lang/String" "value" "[B" .null := ((a_1.keep Kq8 nin0).other W15 (Or.inr (slot_ne (Or.inr (hw _ (List.mem_of_getElem? (i := 29) rfl))) (Or.inr (hw _ (List.mem_of_getElem? (i := 27) rfl))) (by decide) (t := (.array .byte)) (t' := .byte) (by decide) (by decide))))
  have f19 : Exa Z h15 a1 "java/lang/String" := (f14.wr W15)
  obtain ⟨T20, h20, X20, e20, W20, st20⟩ := putF X15 hx hZ hown (host := "") (Or.inl (hw _ (List.mem_of_getElem? (i := 28) rfl))) Via.refl e15 f18 f19 (Or.inr ⟨(hw _ (List.mem_of_getElem? (i := 29) rfl)), rfl, hnm⟩) (hw _ (List.mem_of_getElem? (i := 2) rfl)) (ty := (.array .byte)) (by decide) rfl rfl (g := (mkF m 54 #[rv a1, rv a2, iv (0 : Int32), iv (2 : Int32), .val .null, rv b1_8] [(.ref b1_8), (.ref a1)])) rfl rfl (hb hby d_jdk_42_method_149_code_54)
  have O20 := O15.wr W20 ga1
  have N20 := Fr.snoc X20 N15 ga1
  have K20 : Keep h0 h20 [a1] := K15.wr W20 (Or.inl (List.mem_of_getElem? (i := 0) rfl))
  have fw20 : Fld Z h20 a1 "java/lang/String" "value" "[B" (.ref b1_8) := f18.same W20
  have k21 : Way p e below S0 T20 (mkF m 57 #[rv a1, rv a2, iv (0 : Int32), iv (2 : Int32), .val .null, rv b1_8] []) := fun t k => k17 t (st20 _ k)
  obtain ⟨fs, hr, hrun, hended, hW, hsame⟩ := X20.leave (v := none) (fun _ => rfl)
  have gz22 : h0.size ≤ b1_8 := Nat.le_trans (Keep.refl h0 [a1]).1 po8_0
  have f23 : Exa Z h20 a1 "java/lang/String" := (f19.wr W20)
  have f24 : Fld Z h20 a1 "java/lang/String" "coder" "B" (.int (0 : Int32)) := (fw15.other W20 (Or.inr (slot_ne (Or.inr (hw _ (List.mem_of_getElem? (i := 27) rfl))) (Or.inr (hw _ (List.mem_of_getElem? (i := 29) rfl))) (by decide) (t := .byte) (t' := (.array .byte)) (by decide) (by decide))))
  have f25 : Arv Z h20 b1_8 kb_8 .byte (2 : Int32) [(.int ((q0.toInt8.toInt32).toInt8.toInt32)), (.int ((q1.toInt8.toInt32).toInt8.toInt32))] (.int (0 : Int32)) := ((po8_1.other W15 (Ne.symm (Nat.ne_of_lt (Nat.lt_of_lt_of_le a_0.lt po8_0)))).other W20 (Ne.symm (Nat.ne_of_lt (Nat.lt_of_lt_of_le a_0.lt po8_0))))
  have f26 : Exa Z h20 b1_8 "[B" := ((po8_2.wr W15).wr W20)
  refine ⟨_, _, k21 _ (X20.returnOut hx Bd.returns (hb hby d_jdk_42_method_149_code_57) hr), hrun, hended, _, _, rfl, ?_, ⟨_, rfl⟩, hW, hsame.mono (by decide) (by decide)⟩
  show Q_sinit4_2 Z wCS wDE kDE a1 a2 kc q0 q1 h0 n0 _ T20.heap _
  rw [e20]
  exact ⟨b1_8, kb_8, rfl, N20, K20, gz22, f23, fw20, f24, f25, f26⟩
def Q_sinit_2 (Z : State) (wCS : Int32) (wDE : Addr) (kDE : ClassId) (a1 : Addr) (a2 : Addr) (kc : ClassId) (q0 : Int32) (q1 : Int32) (h0 : Heap) (n0 : Nat) (v : Option Value) (h : Heap) (L : List Loc) : Prop := ∃ d1 : Addr, ∃ kb : ClassId, (v = none) ∧ (Fr n0 L) ∧ (Keep h0 h [a1]) ∧ (h0.size ≤ d1) ∧ (Exa Z h a1 "java/lang/String") ∧ (Fld Z h a1 "java/lang/String" "value" "[B" (.ref d1)) ∧ (Fld Z h a1 "java/lang/String" "coder" "B" (.int (0 : Int32))) ∧ (Arv Z h d1 kb .byte (2 : Int32) [(.int ((q0.toInt8.toInt32).toInt8.toInt32)), (.int ((q1.toInt8.toInt32).toInt8.toInt32))] (.int (0 : Int32))) ∧ (Exa Z h d1 "[B")
set_option maxRecDepth 65536 in
set_option maxHeartbeats 40000000 in
theorem sinit_2 (l : Launch) (Z : State) (a0 : Array Value) (hw : ∀ d ∈ tables_1, d.before a0 Z = true) (ws : List Jvm.Cond) (wCS : Int32) (wDE : Addr) (kDE : ClassId) (G : Gst Z wCS wDE kDE) (a1 : Addr) (a2 : Addr) (kc : ClassId) (q0 : Int32) (q1 : Int32) (h0 : Heap) (n0 : Nat) (O0 : Old Z n0 h0) (a_0 : Exa Z h0 a1 "java/lang/String") (a_1 : Fld Z h0 a1 "java/lang/String" "value" "[B" .null) (a_2 : Fld Z h0 a1 "java/lang/String" "coder" "B" (.int (0 : Int32))) (ga1 : n0 ≤ a1) (hne : a1 ≠ a2) (a_5 : Arv Z h0 a2 kc .char (2 : Int32) [(.int q0), (.int q1)] (.int (0 : Int32))) (hq0 : ¬ ((255 : Int32) < q0)) (hq1 : ¬ ((255 : Int32) < q1)) :
    MetFree l (⟨"java/lang/String", "<init>", "([C)V"⟩ : MethodName) (head1 (Jvm.Cond.code (⟨"java/lang/String", "<init>", "([C)V"⟩ : MethodName) jdk_42_method_3_code 2 none :: ws) ({ frames := 3, cells := 1, slots := 2, locals := 52 } : Room)) (fun a U => a = #[(.ref a1), (.ref a2)] ∧ Z.Warmed39 U.vm ∧ U.heap = h0) (fun _ _ _ _ _ => True) (fun _ U o U' => ∃ v L, o = .returned v ∧ Q_sinit_2 Z wCS wDE kDE a1 a2 kc q0 q1 h0 n0 v U'.heap L ∧ FrameEnd U o U' L ({ frames := 3, cells := 1, slots := 2, locals := 52 } : Room).cells ({ frames := 3, cells := 1, slots := 2, locals := 52 } : Room).slots) := by
  refine MetFree.of_bodySF (plainFor_of_name pn_1) hisR ?_
  intro p e s m args below meth c s₁ Bd hml0 hP hK
  obtain ⟨rfl, hZ, hh⟩ := hP
  have hx := Bd.exec
  have hby := Bd.bytes
  have hml : c.maxLocals = 2 := hml0
  have hown : s.vm.findClass "java/lang/String" = some m.cls := findClass_of_methodNamed Bd.named
  have hnm := (name_of_methodNamed Bd.named Bd.method).1
  have X0 : Stand p l e ({ frames := 3, cells := 1, slots := 2, locals := 52 } : Room) s m #[(.ref a1), (.ref a2)] below meth c s₁ [] 0 0 := Stand.of_body Bd
  have e0 : s₁.heap = h0 := by rw [← hh, Bd.state]; rfl
  have N0 := Fr.nil n0
  obtain ⟨S_CS, hCS, S_DE, V_DE⟩ := id G
  have k0 : Way p e below (s₁.setTop (entryFrame m #[(.ref a1), (.ref a2)] 2)) s₁ (mkF m 0 #[rv a1, rv a2] []) := fun t k => castTop (by first | (simp [entryFrame, mkF, argsToLocals, Value.category]; done) | rfl) k
  generalize s₁.setTop (entryFrame m #[(.ref a1), (.ref a2)] 2) = S0 at k0 ⊢
  have k1 : Way p e below S0 s₁ (mkF m 4 #[rv a1, rv a2] [(.ref a2), (.int (0 : Int32)), (.ref a2), (.ref a1)]) := by
    intro t k
    refine k0 t ?_
    refine XS.aloadN X0.here hx rfl (hb hby d_jdk_42_method_3_code_0) rfl rfl ?_
    show Steps p.tables e below (s₁.setTop (mkF m 1 #[rv a1, rv a2] [(.ref a1)])) _
    refine XS.aloadN X0.here hx rfl (hb hby d_jdk_42_method_3_code_1) rfl rfl ?_
    show Steps p.tables e below (s₁.setTop (mkF m 2 #[rv a1, rv a2] [(.ref a2), (.ref a1)])) _
    refine XS.iconst X0.here hx rfl (hb hby d_jdk_42_method_3_code_2) ?_
    show Steps p.tables e below (s₁.setTop (mkF m 3 #[rv a1, rv a2] [(.int (0 : Int32)), (.ref a2), (.ref a1)])) _
    refine XS.aloadN X0.here hx rfl (hb hby d_jdk_42_method_3_code_3) rfl rfl ?_
    show Steps p.tables e below (s₁.setTop (mkF m 4 #[rv a1, rv a2] [(.ref a2), (.int (0 : Int32)), (.ref a2), (.ref a1)])) _
    exact k
  obtain ⟨cl2, Ar2, -, S2, M2, -, -⟩ := id (a_5)
  have k3 : Way p e below S0 s₁ (mkF m 5 #[rv a1, rv a2] [(.int (2 : Int32)), (.int (0 : Int32)), (.ref a2), (.ref a1)]) := fun t k => k1 t (X0.arraylength hx (by rw [e0]; exact Ar2.1) (State.isArrayOf_alike hZ.alike Ar2.2.1) (g := (mkF m 4 #[rv a1, rv a2] [(.ref a2), (.int (0 : Int32)), (.ref a2), (.ref a1)])) rfl rfl (hb hby d_jdk_42_method_3_code_4) _ (by rw [len_of S2 M2]; exact k))
  have k4 : Way p e below S0 s₁ (mkF m 6 #[rv a1, rv a2] [.null, (.int (2 : Int32)), (.int (0 : Int32)), (.ref a2), (.ref a1)]) := by
    intro t k
    refine k3 t ?_
    refine XS.aconstNull X0.here hx rfl (hb hby d_jdk_42_method_3_code_5) ?_
    show Steps p.tables e below (s₁.setTop (mkF m 6 #[rv a1, rv a2] [.null, (.int (2 : Int32)), (.int (0 : Int32)), (.ref a2), (.ref a1)])) _
    exact k
  obtain ⟨_, _, ⟨T5, L5, kk5, nn5⟩, -, X5, ⟨Lc5, hQ5, l5, y5, z5⟩, st5⟩ := X0.specialBack hx (y := (⟨"java/lang/String", "<init>", "([CIILjava/lang/Void;)V"⟩ : MethodName)) rfl hown (mvT hZ (hw _ (List.mem_of_getElem? (i := 7) rfl))) (mvT hZ (hw _ (List.mem_of_getElem? (i := 8) rfl))) (mvT hZ (hw _ (List.mem_of_getElem? (i := 10) rfl))) (by decide) (backOf (W := 0) (sinit4_2 l Z a0 hw [] wCS wDE kDE G a1 a2 kc q0 q1 h0 n0 O0 (a_0 : Exa Z h0 a1 "java/lang/String") (a_1 : Fld Z h0 a1 "java/lang/String" "value" "[B" .null) (a_2 : Fld Z h0 a1 "java/lang/String" "coder" "B" (.int (0 : Int32))) (ga1 : n0 ≤ a1) (hne : a1 ≠ a2) (a_5 : Arv Z h0 a2 kc .char (2 : Int32) [(.int q0), (.int q1)] (.int (0 : Int32))) (by first | assumption | decide | omega : ¬ ((255 : Int32) < q0)) (by first | assumption | decide | omega : ¬ ((255 : Int32) < q1))) hZ (hw _ (List.mem_of_getElem? (i := 10) rfl)) (hw _ (List.mem_of_getElem? (i := 3) rfl)) (by decide) (by decide)) (g := (mkF m 6 #[rv a1, rv a2] [.null, (.int (2 : Int32)), (.int (0 : Int32)), (.ref a2), (.ref a1)])) rfl (by rw [hml]; rfl) (Steps.refl _) (a := a1) (argsL := [(.ref a2), (.int (0 : Int32)), (.int (2 : Int32)), .null]) (rest := []) (lenOf pd_3 rfl) rfl (by show 2 * 0 + _ ≤ _; exact Nat.le_of_eq rfl) (hb hby d_jdk_42_method_3_code_6) (fun _ _ => ⟨rfl, e0, (by decide : 0 + 1 ≤ _), (by decide : 0 + 2 ≤ _)⟩)
  dsimp only [Pt.U, Pt.locs, Pt.cells, Pt.slots] at X5 l5 y5 z5 st5 hQ5
  subst l5 y5 z5
  obtain ⟨d1_5, kb_5, rfl, Nq5, Kq5, po5_0, po5_1, po5_2, po5_3, po5_4, po5_5⟩ := hQ5
  have N5 := Fr.app N0 Nq5
  have O5 := O0.keep Kq5 (allS ga1 all0)
  have K5 : Keep h0 T5.heap [a1] := (Keep.refl h0 [a1]).trans Kq5 (allS (Or.inl (List.mem_of_getElem? (i := 0) rfl)) all0)
  have k6 : Way p e below S0 T5 (mkF m 9 #[rv a1, rv a2] []) := fun t k => k4 t (st5.trans k)
  obtain ⟨fs, hr, hrun, hended, hW, hsame⟩ := X5.leave (v := none) (fun _ => rfl)
  have gz7 : h0.size ≤ d1_5 := Nat.le_trans (Keep.refl h0 [a1]).1 po5_0
  refine ⟨_, _, k6 _ (X5.returnOut hx Bd.returns (hb hby d_jdk_42_method_3_code_9) hr), hrun, hended, _, _, rfl, ?_, ⟨_, rfl⟩, hW, hsame.mono (by decide) (by decide)⟩
  show Q_sinit_2 Z wCS wDE kDE a1 a2 kc q0 q1 h0 n0 _ T5.heap _
  exact ⟨d1_5, kb_5, rfl, N5, K5, gz7, po5_1, po5_2, po5_3, po5_4, po5_5⟩
def Q_canEnc (Z : State) (wCS : Int32) (wDE : Addr) (kDE : ClassId) (p1 : Int32) (h0 : Heap) (n0 : Nat) (v : Option Value) (h : Heap) (L : List Loc) : Prop := (v = some (.int (1 : Int32))) ∧ (Fr n0 L) ∧ (h = h0)
set_option maxRecDepth 65536 in
set_option maxHeartbeats 40000000 in
theorem canEnc (l : Launch) (Z : State) (a0 : Array Value) (hw : ∀ d ∈ tables_1, d.before a0 Z = true) (ws : List Jvm.Cond) (wCS : Int32) (wDE : Addr) (kDE : ClassId) (G : Gst Z wCS wDE kDE) (p1 : Int32) (h0 : Heap) (n0 : Nat) (O0 : Old Z n0 h0) (hq : ¬ ((255 : Int32) < p1)) :
    MetFree l (⟨"java/lang/StringLatin1", "canEncode", "(C)Z"⟩ : MethodName) (head1 (Jvm.Cond.code (⟨"java/lang/StringLatin1", "canEncode", "(C)Z"⟩ : MethodName) jdk_43_method_3_code 1 (some .boolean) :: ws) ({ frames := 0, cells := 0, slots := 0, locals := 0 } : Room)) (fun a U => a = #[(.int p1)] ∧ Z.Warmed39 U.vm ∧ U.heap = h0) (fun _ _ _ _ _ => True) (fun _ U o U' => ∃ v L, o = .returned v ∧ Q_canEnc Z wCS wDE kDE p1 h0 n0 v U'.heap L ∧ FrameEnd U o U' L ({ frames := 0, cells := 0, slots := 0, locals := 0 } : Room).cells ({ frames := 0, cells := 0, slots := 0, locals := 0 } : Room).slots) := by
  refine MetFree.of_bodySF (plainFor_of_name pn_2) hisR ?_
  intro p e s m args below meth c s₁ Bd hml0 hP hK
  obtain ⟨rfl, hZ, hh⟩ := hP
  have hx := Bd.exec
  have hby := Bd.bytes
  have hml : c.maxLocals = 1 := hml0
  have hown : s.vm.findClass "java/lang/StringLatin1" = some m.cls := findClass_of_methodNamed Bd.named
  have hnm := (name_of_methodNamed Bd.named Bd.method).1
  have X0 : Stand p l e ({ frames := 0, cells := 0, slots := 0, locals := 0 } : Room) s m #[(.int p1)] below meth c s₁ [] 0 0 := Stand.of_body Bd
  have e0 : s₁.heap = h0 := by rw [← hh, Bd.state]; rfl
  have N0 := Fr.nil n0
  obtain ⟨S_CS, hCS, S_DE, V_DE⟩ := id G
  have k0 : Way p e below (s₁.setTop (entryFrame m #[(.int p1)] 1)) s₁ (mkF m 0 #[iv p1] []) := fun t k => castTop (by first | (simp [entryFrame, mkF, argsToLocals, Value.category]; done) | rfl) k
  generalize s₁.setTop (entryFrame m #[(.int p1)] 1) = S0 at k0 ⊢
  have k1 : Way p e below S0 s₁ (mkF m 12 #[iv p1] [(.int (1 : Int32))]) := by
    intro t k
    refine k0 t ?_
    refine XS.iloadN X0.here hx rfl (hb hby d_jdk_43_method_3_code_0) rfl ?_
    show Steps p.tables e below (s₁.setTop (mkF m 1 #[iv p1] [(.int p1)])) _
    refine XS.sipush X0.here hx rfl (hb hby d_jdk_43_method_3_code_1) ?_
    show Steps p.tables e below (s₁.setTop (mkF m 4 #[iv p1] [(.int (255 : Int32)), (.int p1)])) _
    refine XS.icmpNo X0.here hx rfl (hb hby d_jdk_43_method_3_code_4) rfl (flt (hq : ¬ ((255 : Int32) < p1))).2.2.1 ?_
    show Steps p.tables e below (s₁.setTop (mkF m 7 #[iv p1] [])) _
    refine XS.iconst X0.here hx rfl (hb hby d_jdk_43_method_3_code_7) ?_
    show Steps p.tables e below (s₁.setTop (mkF m 8 #[iv p1] [(.int (1 : Int32))])) _
    refine XS.goto X0.here hx rfl (pc0 := 8) (pc' := 12) rfl (hb hby d_jdk_43_method_3_code_8) (by decide) (by decide) ?_
    show Steps p.tables e below (s₁.setTop (mkF m 12 #[iv p1] [(.int (1 : Int32))])) _
    exact k
  obtain ⟨fs, hr, hrun, hended, hW, hsame⟩ := X0.leave (v := some (.int (1 : Int32))) (fun h => by rw [Bd.returns] at h; cases h)
  refine ⟨_, _, k1 _ (retN X0 hx (t := .boolean) Bd.returns (by simp) (hb hby d_jdk_43_method_3_code_12) hr), hrun, hended, _, _, rfl, ?_, ⟨_, rfl⟩, hW, hsame.mono (by decide) (by decide)⟩
  show Q_canEnc Z wCS wDE kDE p1 h0 n0 _ s₁.heap _
  rw [e0]
  exact ⟨rfl, N0, rfl⟩
def Q_toBytes (Z : State) (wCS : Int32) (wDE : Addr) (kDE : ClassId) (p1 : Int32) (h0 : Heap) (n0 : Nat) (v : Option Value) (h : Heap) (L : List Loc) : Prop := ∃ b1 : Addr, ∃ kb : ClassId, (v = some (.ref b1)) ∧ (Fr n0 L) ∧ (Keep h0 h []) ∧ (h0.size ≤ b1) ∧ (Arv Z h b1 kb .byte (1 : Int32) [(.int ((p1.toInt8.toInt32).toInt8.toInt32))] (.int (0 : Int32))) ∧ (Exa Z h b1 "[B")
set_option maxRecDepth 65536 in
set_option maxHeartbeats 40000000 in
theorem toBytes (l : Launch) (Z : State) (a0 : Array Value) (hw : ∀ d ∈ tables_1, d.before a0 Z = true) (ws : List Jvm.Cond) (wCS : Int32) (wDE : Addr) (kDE : ClassId) (G : Gst Z wCS wDE kDE) (p1 : Int32) (h0 : Heap) (n0 : Nat) (O0 : Old Z n0 h0) :
    MetFree l (⟨"java/lang/StringLatin1", "toBytes", "(C)[B"⟩ : MethodName) (head1 (Jvm.Cond.code (⟨"java/lang/StringLatin1", "toBytes", "(C)[B"⟩ : MethodName) jdk_43_method_46_code 1 (some (.array .byte)) :: ws) ({ frames := 0, cells := 1, slots := 1, locals := 0 } : Room)) (fun a U => a = #[(.int p1)] ∧ Z.Warmed39 U.vm ∧ U.heap = h0) (fun _ _ _ _ _ => True) (fun _ U o U' => ∃ v L, o = .returned v ∧ Q_toBytes Z wCS wDE kDE p1 h0 n0 v U'.heap L ∧ FrameEnd U o U' L ({ frames := 0, cells := 1, slots := 1, locals := 0 } : Room).cells ({ frames := 0, cells := 1, slots := 1, locals := 0 } : Room).slots) := by
  refine MetFree.of_bodySF (plainFor_of_name pn_2) hisR ?_
  intro p e s m args below meth c s₁ Bd hml0 hP hK
  obtain ⟨rfl, hZ, hh⟩ := hP
  have hx := Bd.exec
  have hby := Bd.bytes
  have hml : c.maxLocals = 1 := hml0
  have hown : s.vm.findClass "java/lang/StringLatin1" = some m.cls := findClass_of_methodNamed Bd.named
  have hnm := (name_of_methodNamed Bd.named Bd.method).1
  have X0 : Stand p l e ({ frames := 0, cells := 1, slots := 1, locals := 0 } : Room) s m #[(.int p1)] below meth c s₁ [] 0 0 := Stand.of_body Bd
  have e0 : s₁.heap = h0 := by rw [← hh, Bd.state]; rfl
  have N0 := Fr.nil n0
  obtain ⟨S_CS, hCS, S_DE, V_DE⟩ := id G
  have k0 : Way p e below (s₁.setTop (entryFrame m #[(.int p1)] 1)) s₁ (mkF m 0 #[iv p1] []) := fun t k => castTop (by first | (simp [entryFrame, mkF, argsToLocals, Value.category]; done) | rfl) k
  generalize s₁.setTop (entryFrame m #[(.int p1)] 1) = S0 at k0 ⊢
  have k1 : Way p e below S0 s₁ (mkF m 1 #[iv p1] [(.int (1 : Int32))]) := by
    intro t k
    refine k0 t ?_
    refine XS.iconst X0.here hx rfl (hb hby d_jdk_43_method_46_code_0) ?_
    show Steps p.tables e below (s₁.setTop (mkF m 1 #[iv p1] [(.int (1 : Int32))])) _
    exact k
  obtain ⟨T2, h2, c2, X2, e2, E2, A2, B2, st2⟩ := newPE X0 hx hZ (hw _ (List.mem_of_getElem? (i := 19) rfl)) e0 (g := (mkF m 1 #[iv p1] [(.int (1 : Int32))])) rfl (hb hby d_jdk_43_method_46_code_1) rfl (by decide) (cap := 1) (by decide) (by decide) (by decide) (by decide) (ad := "[B") (by decide)
  obtain ⟨b2, g2⟩ : ∃ z, z = h0.size := ⟨_, rfl⟩
  rw [← g2] at A2 B2 st2
  have O2 := O0.ext E2
  have K2 : Keep h0 h2 [] := (Keep.refl h0 []).ext E2
  have v2 : Arv Z h2 b2 c2 .byte (1 : Int32) [(.int (0 : Int32))] (.int (0 : Int32)) := (Arv.new A2 (by decide)).pad (pad_rep [] (.int (0 : Int32)) 1)
  have k3 : Way p e below S0 T2 (mkF m 3 #[iv p1] [(.ref b2)]) := fun t k => k1 t (st2 _ k)
  have k4 : Way p e below S0 T2 (mkF m 7 #[iv p1] [(.int (p1.toInt8.toInt32)), (.int (0 : Int32)), (.ref b2), (.ref b2)]) := by
    intro t k
    refine k3 t ?_
    refine XS.dup X2.here hx rfl (hb hby d_jdk_43_method_46_code_3) rfl rfl ?_
    show Steps p.tables e below (T2.setTop (mkF m 4 #[iv p1] [(.ref b2), (.ref b2)])) _
    refine XS.iconst X2.here hx rfl (hb hby d_jdk_43_method_46_code_4) ?_
    show Steps p.tables e below (T2.setTop (mkF m 5 #[iv p1] [(.int (0 : Int32)), (.ref b2), (.ref b2)])) _
    refine XS.iloadN X2.here hx rfl (hb hby d_jdk_43_method_46_code_5) rfl ?_
    show Steps p.tables e below (T2.setTop (mkF m 6 #[iv p1] [(.int p1), (.int (0 : Int32)), (.ref b2), (.ref b2)])) _
    refine XS.i2b X2.here hx rfl (hb hby d_jdk_43_method_46_code_6) rfl ?_
    show Steps p.tables e below (T2.setTop (mkF m 7 #[iv p1] [(.int (p1.toInt8.toInt32)), (.int (0 : Int32)), (.ref b2), (.ref b2)])) _
    exact k
  obtain ⟨cl5, Ar5, qc5, S5, M5, U5, G5⟩ := id (v2)
  have hin5 : ¬ ((0 : Int32) < 0 ∨ cl5.slots.size ≤ ((0 : Int32)).toNatClampNeg) := inb_of S5 ⟨by decide, by decide⟩
  obtain ⟨T5, h5, X5, e5, W5, st5⟩ := stB X2 hx hZ e2 Ar5 (j := (0 : Int32)) hin5 (g := (mkF m 7 #[iv p1] [(.int (p1.toInt8.toInt32)), (.int (0 : Int32)), (.ref b2), (.ref b2)])) rfl rfl (hb hby d_jdk_43_method_46_code_7)
  have ge6 : n0 ≤ b2 := Nat.le_trans (own_old O0) (Nat.le_of_eq g2.symm)
  have O5 := O2.wr W5 ge6
  have N5 := Fr.snoc X5 N0 ge6
  have gz7 : h0.size ≤ b2 := Nat.le_trans (Keep.refl h0 []).1 (Nat.le_of_eq g2.symm)
  have K5 : Keep h0 h5 [] := K2.wr W5 (Or.inr gz7)
  have va5 : Arv Z h5 b2 c2 .byte (1 : Int32) [(.int ((p1.toInt8.toInt32).toInt8.toInt32))] (.int (0 : Int32)) := Arv.set Ar5 qc5 S5 M5 U5 G5 (fits_nar_byte _) W5 0 rfl (Nat.le_of_ble_eq_true rfl)
  have k8 : Way p e below S0 T5 (mkF m 8 #[iv p1] [(.ref b2)]) := fun t k => k4 t (st5 _ k)
  obtain ⟨fs, hr, hrun, hended, hW, hsame⟩ := X5.leave (v := some (.ref b2)) (fun h => by rw [Bd.returns] at h; cases h)
  have f9 : Exa Z h5 b2 "[B" := (B2.wr W5)
  refine ⟨_, _, k8 _ (retOut X5 hx Bd.returns rfl (Or.inr (Or.inr (Or.inr (Or.inr ⟨rfl, rfl, rfl⟩)))) (hb hby d_jdk_43_method_46_code_8) hr), hrun, hended, _, _, rfl, ?_, ⟨_, rfl⟩, hW, hsame.mono (by decide) (by decide)⟩
  show Q_toBytes Z wCS wDE kDE p1 h0 n0 _ T5.heap _
  rw [e5]
  exact ⟨b2, c2, rfl, N5, K5, gz7, va5, f9⟩
def Q_sinitB (Z : State) (wCS : Int32) (wDE : Addr) (kDE : ClassId) (a1 : Addr) (a2 : Addr) (h0 : Heap) (n0 : Nat) (v : Option Value) (h : Heap) (L : List Loc) : Prop := (v = none) ∧ (Fr n0 L) ∧ (Keep h0 h [a1]) ∧ (Exa Z h a1 "java/lang/String") ∧ (Fld Z h a1 "java/lang/String" "value" "[B" (.ref a2)) ∧ (Fld Z h a1 "java/lang/String" "coder" "B" (.int (0 : Int32)))
set_option maxRecDepth 65536 in
set_option maxHeartbeats 40000000 in
theorem sinitB (l : Launch) (Z : State) (a0 : Array Value) (hw : ∀ d ∈ tables_1, d.before a0 Z = true) (ws : List Jvm.Cond) (wCS : Int32) (wDE : Addr) (kDE : ClassId) (G : Gst Z wCS wDE kDE) (a1 : Addr) (a2 : Addr) (h0 : Heap) (n0 : Nat) (O0 : Old Z n0 h0) (a_0 : Exa Z h0 a1 "java/lang/String") (a_1 : Fld Z h0 a1 "java/lang/String" "value" "[B" .null) (a_2 : Fld Z h0 a1 "java/lang/String" "coder" "B" (.int (0 : Int32))) (ga1 : n0 ≤ a1) :
    MetFree l (⟨"java/lang/String", "<init>", "([BB)V"⟩ : MethodName) (head1 (Jvm.Cond.code (⟨"java/lang/String", "<init>", "([BB)V"⟩ : MethodName) jdk_42_method_151_code 3 none :: ws) ({ frames := 1, cells := 0, slots := 0, locals := 12 } : Room)) (fun a U => a = #[(.ref a1), (.ref a2), (.int (0 : Int32))] ∧ Z.Warmed39 U.vm ∧ U.heap = h0) (fun _ _ _ _ _ => True) (fun _ U o U' => ∃ v L, o = .returned v ∧ Q_sinitB Z wCS wDE kDE a1 a2 h0 n0 v U'.heap L ∧ FrameEnd U o U' L ({ frames := 1, cells := 0, slots := 0, locals := 12 } : Room).cells ({ frames := 1, cells := 0, slots := 0, locals := 12 } : Room).slots) := by
  refine MetFree.of_bodySF (plainFor_of_name pn_1) hisR ?_
  intro p e s m args below meth c s₁ Bd hml0 hP hK
  obtain ⟨rfl, hZ, hh⟩ := hP
  have hx := Bd.exec
  have hby := Bd.bytes
  have hml : c.maxLocals = 3 := hml0
  have hown : s.vm.findClass "java/lang/String" = some m.cls := findClass_of_methodNamed Bd.named
  have hnm := (name_of_methodNamed Bd.named Bd.method).1
  have X0 : Stand p l e ({ frames := 1, cells := 0, slots := 0, locals := 12 } : Room) s m #[(.ref a1), (.ref a2), (.int (0 : Int32))] below meth c s₁ [] 0 0 := Stand.of_body Bd
  have e0 : s₁.heap = h0 := by rw [← hh, Bd.state]; rfl
  have N0 := Fr.nil n0
  obtain ⟨S_CS, hCS, S_DE, V_DE⟩ := id G
  have k0 : Way p e below (s₁.setTop (entryFrame m #[(.ref a1), (.ref a2), (.int (0 : Int32))] 3)) s₁ (mkF m 0 #[rv a1, rv a2, iv (0 : Int32)] []) := fun t k => castTop (by first | (simp [entryFrame, mkF, argsToLocals, Value.category]; done) | rfl) k
  generalize s₁.setTop (entryFrame m #[(.ref a1), (.ref a2), (.int (0 : Int32))] 3) = S0 at k0 ⊢
  have k1 : Way p e below S0 s₁ (mkF m 1 #[rv a1, rv a2, iv (0 : Int32)] [(.ref a1)]) := by
    intro t k
    refine k0 t ?_
    refine XS.aloadN X0.here hx rfl (hb hby d_jdk_42_method_151_code_0) rfl rfl ?_
    show Steps p.tables e below (s₁.setTop (mkF m 1 #[rv a1, rv a2, iv (0 : Int32)] [(.ref a1)])) _
    exact k
  obtain ⟨T2, X2, e2, st2⟩ := initO X0 hx hZ hown (hw _ (List.mem_of_getElem? (i := 11) rfl)) (hw _ (List.mem_of_getElem? (i := 12) rfl)) (hw _ (List.mem_of_getElem? (i := 13) rfl)) e0 (g := (mkF m 1 #[rv a1, rv a2, iv (0 : Int32)] [(.ref a1)])) rfl (by rw [hml]; rfl) rfl (hb hby d_jdk_42_method_151_code_1) (by decide) (W := 0) (by show 2 * 0 + _ ≤ _; exact Nat.le_of_eq rfl) (by decide)
  have k3 : Way p e below S0 T2 (mkF m 4 #[rv a1, rv a2, iv (0 : Int32)] []) := fun t k => k1 t (st2 _ k)
  have k4 : Way p e below S0 T2 (mkF m 6 #[rv a1, rv a2, iv (0 : Int32)] [(.ref a2), (.ref a1)]) := by
    intro t k
    refine k3 t ?_
    refine XS.aloadN X2.here hx rfl (hb hby d_jdk_42_method_151_code_4) rfl rfl ?_
    show Steps p.tables e below (T2.setTop (mkF m 5 #[rv a1, rv a2, iv (0 : Int32)] [(.ref a1)])) _
    refine XS.aloadN X2.here hx rfl (hb hby d_jdk_42_method_151_code_5) rfl rfl ?_
    show Steps p.tables e below (T2.setTop (mkF m 6 #[rv a1, rv a2, iv (0 : Int32)] [(.ref a2), (.ref a1)])) _
    exact k
  obtain ⟨T5, h5, X5, e5, W5, st5⟩ := putF X2 hx hZ hown (host := "") (Or.inl (hw _ (List.mem_of_getElem? (i := 28) rfl))) Via.refl e2 a_1 a_0 (Or.inr ⟨(hw _ (List.mem_of_getElem? (i := 29) rfl)), rfl, hnm⟩) (hw _ (List.mem_of_getElem? (i := 2) rfl)) (ty := (.array .byte)) (by decide) rfl rfl (g := (mkF m 6 #[rv a1, rv a2, iv (0 : Int32)] [(.ref a2), (.ref a1)])) rfl rfl (hb hby d_jdk_42_method_151_code_6)
  have O5 := O0.wr W5 ga1
  have N5 := Fr.snoc X5 N0 ga1
  have K5 : Keep h0 h5 [a1] := (Keep.refl h0 [a1]).wr W5 (Or.inl (List.mem_of_getElem? (i := 0) rfl))
  have fw5 : Fld Z h5 a1 "java/lang/String" "value" "[B" (.ref a2) := a_1.same W5
  have k6 : Way p e below S0 T5 (mkF m 9 #[rv a1, rv a2, iv (0 : Int32)] []) := fun t k => k4 t (st5 _ k)
  have k7 : Way p e below S0 T5 (mkF m 11 #[rv a1, rv a2, iv (0 : Int32)] [(.int (0 : Int32)), (.ref a1)]) := by
    intro t k
    refine k6 t ?_
    refine XS.aloadN X5.here hx rfl (hb hby d_jdk_42_method_151_code_9) rfl rfl ?_
    show Steps p.tables e below (T5.setTop (mkF m 10 #[rv a1, rv a2, iv (0 : Int32)] [(.ref a1)])) _
    refine XS.iloadN X5.here hx rfl (hb hby d_jdk_42_method_151_code_10) rfl ?_
    show Steps p.tables e below (T5.setTop (mkF m 11 #[rv a1, rv a2, iv (0 : Int32)] [(.int (0 : Int32)), (.ref a1)])) _
    exact k
  have f8 : Fld Z h5 a1 "java/lang/String" "coder" "B" (.int (0 : Int32)) := (a_2.other W5 (Or.inr (slot_ne (Or.inr (hw _ (List.mem_of_getElem? (i := 27) rfl))) (Or.inr (hw _ (List.mem_of_getElem? (i := 29) rfl))) (by decide) (t := .byte) (t' := (.array .byte)) (by decide) (by decide))))
  have f9 : Exa Z h5 a1 "java/lang/String" := (a_0.wr W5)
  obtain ⟨T10, h10, X10, e10, W10, st10⟩ := putFN X5 hx hZ hown (hw _ (List.mem_of_getElem? (i := 26) rfl)) Via.refl e5 f8 f9 (Or.inr ⟨(hw _ (List.mem_of_getElem? (i := 27) rfl)), rfl, hnm⟩) (hw _ (List.mem_of_getElem? (i := 2) rfl)) (ty := .byte) (v' := (.int (0 : Int32))) (by decide) rfl rfl (g := (mkF m 11 #[rv a1, rv a2, iv (0 : Int32)] [(.int (0 : Int32)), (.ref a1)])) rfl rfl (hb hby d_jdk_42_method_151_code_11)
  have O10 := O5.wr W10 ga1
  have N10 := Fr.snoc X10 N5 ga1
  have K10 : Keep h0 h10 [a1] := K5.wr W10 (Or.inl (List.mem_of_getElem? (i := 0) rfl))
  have fw10 : Fld Z h10 a1 "java/lang/String" "coder" "B" (.int (0 : Int32)) := f8.same W10
  have k11 : Way p e below S0 T10 (mkF m 14 #[rv a1, rv a2, iv (0 : Int32)] []) := fun t k => k7 t (st10 _ k)
  obtain ⟨fs, hr, hrun, hended, hW, hsame⟩ := X10.leave (v := none) (fun _ => rfl)
  have f12 : Exa Z h10 a1 "java/lang/String" := (f9.wr W10)
  have f13 : Fld Z h10 a1 "java/lang/String" "value" "[B" (.ref a2) := (fw5.other W10 (Or.inr (slot_ne (Or.inr (hw _ (List.mem_of_getElem? (i := 29) rfl))) (Or.inr (hw _ (List.mem_of_getElem? (i := 27) rfl))) (by decide) (t := (.array .byte)) (t' := .byte) (by decide) (by decide))))
  refine ⟨_, _, k11 _ (X10.returnOut hx Bd.returns (hb hby d_jdk_42_method_151_code_14) hr), hrun, hended, _, _, rfl, ?_, ⟨_, rfl⟩, hW, hsame.mono (by decide) (by decide)⟩
  show Q_sinitB Z wCS wDE kDE a1 a2 h0 n0 _ T10.heap _
  rw [e10]
  exact ⟨rfl, N10, K10, f12, f13, fw10⟩
def Q_svalueOf (Z : State) (wCS : Int32) (wDE : Addr) (kDE : ClassId) (p1 : Int32) (h0 : Heap) (n0 : Nat) (v : Option Value) (h : Heap) (L : List Loc) : Prop := ∃ b1 : Addr, ∃ d1 : Addr, ∃ kb : ClassId, (v = some (.ref b1)) ∧ (Fr n0 L) ∧ (Keep h0 h []) ∧ (h0.size ≤ b1) ∧ (h0.size ≤ d1) ∧ (Exa Z h b1 "java/lang/String") ∧ (Fld Z h b1 "java/lang/String" "value" "[B" (.ref d1)) ∧ (Fld Z h b1 "java/lang/String" "coder" "B" (.int (0 : Int32))) ∧ (Arv Z h d1 kb .byte (1 : Int32) [(.int ((p1.toInt8.toInt32).toInt8.toInt32))] (.int (0 : Int32))) ∧ (Exa Z h d1 "[B")
set_option maxRecDepth 65536 in
set_option maxHeartbeats 40000000 in
theorem svalueOf (l : Launch) (Z : State) (a0 : Array Value) (hw : ∀ d ∈ tables_1, d.before a0 Z = true) (ws : List Jvm.Cond) (wCS : Int32) (wDE : Addr) (kDE : ClassId) (G : Gst Z wCS wDE kDE) (p1 : Int32) (h0 : Heap) (n0 : Nat) (O0 : Old Z n0 h0) (hq : ¬ ((255 : Int32) < p1)) :
    MetFree l (⟨"java/lang/String", "valueOf", "(C)Ljava/lang/String;"⟩ : MethodName) (head1 (Jvm.Cond.code (⟨"java/lang/String", "valueOf", "(C)Ljava/lang/String;"⟩ : MethodName) jdk_42_method_139_code 1 (some (.object "java/lang/String")) :: ws) ({ frames := 2, cells := 2, slots := 5, locals := 27 } : Room)) (fun a U => a = #[(.int p1)] ∧ Z.Warmed39 U.vm ∧ U.heap = h0) (fun _ _ _ _ _ => True) (fun _ U o U' => ∃ v L, o = .returned v ∧ Q_svalueOf Z wCS wDE kDE p1 h0 n0 v U'.heap L ∧ FrameEnd U o U' L ({ frames := 2, cells := 2, slots := 5, locals := 27 } : Room).cells ({ frames := 2, cells := 2, slots := 5, locals := 27 } : Room).slots) := by
  refine MetFree.of_bodySF (plainFor_of_name pn_1) hisR ?_
  intro p e s m args below meth c s₁ Bd hml0 hP hK
  obtain ⟨rfl, hZ, hh⟩ := hP
  have hx := Bd.exec
  have hby := Bd.bytes
  have hml : c.maxLocals = 1 := hml0
  have hown : s.vm.findClass "java/lang/String" = some m.cls := findClass_of_methodNamed Bd.named
  have hnm := (name_of_methodNamed Bd.named Bd.method).1
  have X0 : Stand p l e ({ frames := 2, cells := 2, slots := 5, locals := 27 } : Room) s m #[(.int p1)] below meth c s₁ [] 0 0 := Stand.of_body Bd
  have e0 : s₁.heap = h0 := by rw [← hh, Bd.state]; rfl
  have N0 := Fr.nil n0
  obtain ⟨S_CS, hCS, S_DE, V_DE⟩ := id G
  have k0 : Way p e below (s₁.setTop (entryFrame m #[(.int p1)] 1)) s₁ (mkF m 0 #[iv p1] []) := fun t k => castTop (by first | (simp [entryFrame, mkF, argsToLocals, Value.category]; done) | rfl) k
  generalize s₁.setTop (entryFrame m #[(.int p1)] 1) = S0 at k0 ⊢
  obtain ⟨T1, X1, e1, st1⟩ := getS2 X0 hx hZ hown (host := "") (Or.inl (hw _ (List.mem_of_getElem? (i := 14) rfl))) Via.refl e0 (S_CS.ext O0.2) (g := (mkF m 0 #[iv p1] [])) rfl (hb hby d_jdk_42_method_139_code_0)
  have k2 : Way p e below S0 T1 (mkF m 3 #[iv p1] [(.int wCS)]) := fun t k => k0 t (st1 _ k)
  have k3 : Way p e below S0 T1 (mkF m 7 #[iv p1] [(.int p1)]) := by
    intro t k
    refine k2 t ?_
    refine XS.ifNo X1.here hx rfl (hb hby d_jdk_42_method_139_code_3) rfl ((if0 _ _).trans (feq (hCS : ¬ (wCS = (0 : Int32)))).1) ?_
    show Steps p.tables e below (T1.setTop (mkF m 6 #[iv p1] [])) _
    refine XS.iloadN X1.here hx rfl (hb hby d_jdk_42_method_139_code_6) rfl ?_
    show Steps p.tables e below (T1.setTop (mkF m 7 #[iv p1] [(.int p1)])) _
    exact k
  obtain ⟨_, _, ⟨T4, L4, kk4, nn4⟩, -, X4, ⟨Lc4, hQ4, l4, y4, z4⟩, st4⟩ := Jvm.LawKit.callS X1 hx (y := (⟨"java/lang/StringLatin1", "canEncode", "(C)Z"⟩ : MethodName)) hown (mvT hZ (hw _ (List.mem_of_getElem? (i := 33) rfl))) (mvT hZ (hw _ (List.mem_of_getElem? (i := 34) rfl))) (mvT hZ (hw _ (List.mem_of_getElem? (i := 35) rfl))) (mvT hZ (hw _ (List.mem_of_getElem? (i := 36) rfl))) (by decide) (backOf (W := 0) (canEnc l Z a0 hw [] wCS wDE kDE G p1 h0 n0 O0 (by first | assumption | decide | omega : ¬ ((255 : Int32) < p1))) hZ (hw _ (List.mem_of_getElem? (i := 36) rfl)) (hw _ (List.mem_of_getElem? (i := 35) rfl)) (by decide) (by decide)) (g := (mkF m 7 #[iv p1] [(.int p1)])) rfl (by rw [hml]; rfl) (argsL := [(.int p1)]) (rest := []) (lenOf pd_4 rfl) rfl (by show 2 * 0 + _ ≤ _; exact Nat.le_of_eq rfl) (hb hby d_jdk_42_method_139_code_7) (fun _ _ => ⟨rfl, e1, (by decide : 0 + 0 ≤ _), (by decide : 0 + 0 ≤ _)⟩)
  dsimp only [Pt.U, Pt.locs, Pt.cells, Pt.slots] at X4 l4 y4 z4 st4 hQ4
  subst l4 y4 z4
  obtain ⟨rfl, Nq4, e4⟩ := hQ4
  have N4 := Fr.app N0 Nq4
  have k5 : Way p e below S0 T4 (mkF m 10 #[iv p1] [(.int (1 : Int32))]) := fun t k => k3 t (st4 _ k)
  have k6 : Way p e below S0 T4 (mkF m 13 #[iv p1] []) := by
    intro t k
    refine k5 t ?_
    refine XS.ifNo X4.here hx rfl (hb hby d_jdk_42_method_139_code_10) rfl ((if0 _ _).trans (feq ((by decide) : ¬ ((1 : Int32) = (0 : Int32)))).1) ?_
    show Steps p.tables e below (T4.setTop (mkF m 13 #[iv p1] [])) _
    exact k
  obtain ⟨T7, h7, X7, e7, E7, A7, D7, U7, st7⟩ := newO X4 hx hZ hown (hw _ (List.mem_of_getElem? (i := 37) rfl)) (hw _ (List.mem_of_getElem? (i := 2) rfl)) (hw _ (List.mem_of_getElem? (i := 3) rfl)) e4 (g := (mkF m 13 #[iv p1] [])) rfl (hb hby d_jdk_42_method_139_code_13) (by decide) (by decide)
  obtain ⟨b7, g7⟩ : ∃ z, z = h0.size := ⟨_, rfl⟩
  rw [← g7] at A7 D7 U7 st7
  have O7 := O0.ext E7
  have K7 : Keep h0 h7 [] := (Keep.refl h0 []).ext E7
  have i7_coder : Fld Z h7 b7 "java/lang/String" "coder" "B" (.int (0 : Int32)) := D7 (Or.inr (hw _ (List.mem_of_getElem? (i := 27) rfl))) (ty := .byte) (by decide)
  have i7_value : Fld Z h7 b7 "java/lang/String" "value" "[B" .null := D7 (Or.inr (hw _ (List.mem_of_getElem? (i := 29) rfl))) (ty := (.array .byte)) (by decide)
  have k8 : Way p e below S0 T7 (mkF m 16 #[iv p1] [(.ref b7)]) := fun t k => k6 t (st7 _ k)
  have k9 : Way p e below S0 T7 (mkF m 18 #[iv p1] [(.int p1), (.ref b7), (.ref b7)]) := by
    intro t k
    refine k8 t ?_
    refine XS.dup X7.here hx rfl (hb hby d_jdk_42_method_139_code_16) rfl rfl ?_
    show Steps p.tables e below (T7.setTop (mkF m 17 #[iv p1] [(.ref b7), (.ref b7)])) _
    refine XS.iloadN X7.here hx rfl (hb hby d_jdk_42_method_139_code_17) rfl ?_
    show Steps p.tables e below (T7.setTop (mkF m 18 #[iv p1] [(.int p1), (.ref b7), (.ref b7)])) _
    exact k
  obtain ⟨_, _, ⟨T10, L10, kk10, nn10⟩, -, X10, ⟨Lc10, hQ10, l10, y10, z10⟩, st10⟩ := Jvm.LawKit.callS X7 hx (y := (⟨"java/lang/StringLatin1", "toBytes", "(C)[B"⟩ : MethodName)) hown (mvT hZ (hw _ (List.mem_of_getElem? (i := 38) rfl))) (mvT hZ (hw _ (List.mem_of_getElem? (i := 39) rfl))) (mvT hZ (hw _ (List.mem_of_getElem? (i := 35) rfl))) (mvT hZ (hw _ (List.mem_of_getElem? (i := 40) rfl))) (by decide) (backOf (W := 2) (toBytes l Z a0 hw [] wCS wDE kDE G p1 h7 n0 O7 ) hZ (hw _ (List.mem_of_getElem? (i := 40) rfl)) (hw _ (List.mem_of_getElem? (i := 35) rfl)) (by decide) (by decide)) (g := (mkF m 18 #[iv p1] [(.int p1), (.ref b7), (.ref b7)])) rfl (by rw [hml]; rfl) (argsL := [(.int p1)]) (rest := [(.ref b7), (.ref b7)]) (lenOf pd_5 rfl) rfl (by show 2 * 0 + _ ≤ _; exact Nat.le_of_eq rfl) (hb hby d_jdk_42_method_139_code_18) (fun _ _ => ⟨rfl, e7, (by decide : 1 + 1 ≤ _), (by decide : 4 + 1 ≤ _)⟩)
  dsimp only [Pt.U, Pt.locs, Pt.cells, Pt.slots] at X10 l10 y10 z10 st10 hQ10
  subst l10 y10 z10
  obtain ⟨b1_10, kb_10, rfl, Nq10, Kq10, po10_0, po10_1, po10_2⟩ := hQ10
  have N10 := Fr.app N4 Nq10
  have O10 := O7.keep Kq10 all0
  have K10 : Keep h0 T10.heap [] := K7.trans Kq10 all0
  have k11 : Way p e below S0 T10 (mkF m 21 #[iv p1] [(.ref b1_10), (.ref b7), (.ref b7)]) := fun t k => k9 t (st10 _ k)
  have k12 : Way p e below S0 T10 (mkF m 22 #[iv p1] [(.int (0 : Int32)), (.ref b1_10), (.ref b7), (.ref b7)]) := by
    intro t k
    refine k11 t ?_
    refine XS.iconst X10.here hx rfl (hb hby d_jdk_42_method_139_code_21) ?_
    show Steps p.tables e below (T10.setTop (mkF m 22 #[iv p1] [(.int (0 : Int32)), (.ref b1_10), (.ref b7), (.ref b7)])) _
    exact k
  have f13 : Exa Z T10.heap b7 "java/lang/String" := (A7.keep Kq10)
  have f14 : Fld Z T10.heap b7 "java/lang/String" "value" "[B" .null := (i7_value.keep Kq10 nin0)
  have f15 : Fld Z T10.heap b7 "java/lang/String" "coder" "B" (.int (0 : Int32)) := (i7_coder.keep Kq10 nin0)
  have ge16 : n0 ≤ b7 := Nat.le_trans (own_old O0) (Nat.le_of_eq g7.symm)
  obtain ⟨_, _, ⟨T17, L17, kk17, nn17⟩, -, X17, ⟨Lc17, hQ17, l17, y17, z17⟩, st17⟩ := X10.specialBack hx (y := (⟨"java/lang/String", "<init>", "([BB)V"⟩ : MethodName)) rfl hown (mvT hZ (hw _ (List.mem_of_getElem? (i := 41) rfl))) (mvT hZ (hw _ (List.mem_of_getElem? (i := 42) rfl))) (mvT hZ (hw _ (List.mem_of_getElem? (i := 43) rfl))) (by decide) (backOf (W := 1) (sinitB l Z a0 hw [] wCS wDE kDE G b7 b1_10 T10.heap n0 O10 (f13 : Exa Z T10.heap b7 "java/lang/String") (f14 : Fld Z T10.heap b7 "java/lang/String" "value" "[B" .null) (f15 : Fld Z T10.heap b7 "java/lang/String" "coder" "B" (.int (0 : Int32))) (ge16 : n0 ≤ b7)) hZ (hw _ (List.mem_of_getElem? (i := 43) rfl)) (hw _ (List.mem_of_getElem? (i := 3) rfl)) (by decide) (by decide)) (g := (mkF m 22 #[iv p1] [(.int (0 : Int32)), (.ref b1_10), (.ref b7), (.ref b7)])) rfl (by rw [hml]; rfl) (Steps.refl _) (a := b7) (argsL := [(.ref b1_10), (.int (0 : Int32))]) (rest := [(.ref b7)]) (lenOf pd_6 rfl) rfl (by show 2 * 0 + _ ≤ _; exact Nat.le_of_eq rfl) (hb hby d_jdk_42_method_139_code_22) (fun _ _ => ⟨rfl, rfl, (by decide : 2 + 0 ≤ _), (by decide : 5 + 0 ≤ _)⟩)
  dsimp only [Pt.U, Pt.locs, Pt.cells, Pt.slots] at X17 l17 y17 z17 st17 hQ17
  subst l17 y17 z17
  obtain ⟨rfl, Nq17, Kq17, po17_0, po17_1, po17_2⟩ := hQ17
  have N17 := Fr.app N10 Nq17
  have O17 := O10.keep Kq17 (allS ge16 all0)
  have gz18 : h0.size ≤ b7 := Nat.le_trans (Keep.refl h0 []).1 (Nat.le_of_eq g7.symm)
  have K17 : Keep h0 T17.heap [] := K10.trans Kq17 (allS (Or.inr gz18) all0)
  have k19 : Way p e below S0 T17 (mkF m 25 #[iv p1] [(.ref b7)]) := fun t k => k12 t (st17.trans k)
  obtain ⟨fs, hr, hrun, hended, hW, hsame⟩ := X17.leave (v := some (.ref b7)) (fun h => by rw [Bd.returns] at h; cases h)
  have gz20 : h0.size ≤ b1_10 := Nat.le_trans K7.1 po10_0
  have f21 : Arv Z T17.heap b1_10 kb_10 .byte (1 : Int32) [(.int ((p1.toInt8.toInt32).toInt8.toInt32))] (.int (0 : Int32)) := (po10_1.keep Kq17 (ninS (Ne.symm (Nat.ne_of_lt (Nat.lt_of_lt_of_le A7.lt po10_0))) nin0))
  have f22 : Exa Z T17.heap b1_10 "[B" := (po10_2.keep Kq17)
  refine ⟨_, _, k19 _ (retOut X17 hx Bd.returns rfl (Or.inr (Or.inr (Or.inr (Or.inr ⟨rfl, rfl, rfl⟩)))) (hb hby d_jdk_42_method_139_code_25) hr), hrun, hended, _, _, rfl, ?_, ⟨_, rfl⟩, hW, hsame.mono (by decide) (by decide)⟩
  show Q_svalueOf Z wCS wDE kDE p1 h0 n0 _ T17.heap _
  exact ⟨b7, b1_10, kb_10, rfl, N17, K17, gz18, gz20, po17_0, po17_1, po17_2, f21, f22⟩
def Q_abcInit (Z : State) (wCS : Int32) (wDE : Addr) (kDE : ClassId) (a1 : Addr) (h0 : Heap) (n0 : Nat) (v : Option Value) (h : Heap) (L : List Loc) : Prop := (v = none) ∧ (Fr n0 L) ∧ (h = h0)
set_option maxRecDepth 65536 in
set_option maxHeartbeats 40000000 in
theorem abcInit (l : Launch) (Z : State) (a0 : Array Value) (hw : ∀ d ∈ tables_1, d.before a0 Z = true) (ws : List Jvm.Cond) (wCS : Int32) (wDE : Addr) (kDE : ClassId) (G : Gst Z wCS wDE kDE) (a1 : Addr) (h0 : Heap) (n0 : Nat) (O0 : Old Z n0 h0) :
    MetFree l (⟨"java/util/AbstractCollection", "<init>", "()V"⟩ : MethodName) (head1 (Jvm.Cond.code (⟨"java/util/AbstractCollection", "<init>", "()V"⟩ : MethodName) jdk_22_method_1_code 1 none :: ws) ({ frames := 1, cells := 0, slots := 0, locals := 12 } : Room)) (fun a U => a = #[(.ref a1)] ∧ Z.Warmed39 U.vm ∧ U.heap = h0) (fun _ _ _ _ _ => True) (fun _ U o U' => ∃ v L, o = .returned v ∧ Q_abcInit Z wCS wDE kDE a1 h0 n0 v U'.heap L ∧ FrameEnd U o U' L ({ frames := 1, cells := 0, slots := 0, locals := 12 } : Room).cells ({ frames := 1, cells := 0, slots := 0, locals := 12 } : Room).slots) := by
  refine MetFree.of_bodySF (plainFor_of_name pn_3) hisR ?_
  intro p e s m args below meth c s₁ Bd hml0 hP hK
  obtain ⟨rfl, hZ, hh⟩ := hP
  have hx := Bd.exec
  have hby := Bd.bytes
  have hml : c.maxLocals = 1 := hml0
  have hown : s.vm.findClass "java/util/AbstractCollection" = some m.cls := findClass_of_methodNamed Bd.named
  have hnm := (name_of_methodNamed Bd.named Bd.method).1
  have X0 : Stand p l e ({ frames := 1, cells := 0, slots := 0, locals := 12 } : Room) s m #[(.ref a1)] below meth c s₁ [] 0 0 := Stand.of_body Bd
  have e0 : s₁.heap = h0 := by rw [← hh, Bd.state]; rfl
  have N0 := Fr.nil n0
  obtain ⟨S_CS, hCS, S_DE, V_DE⟩ := id G
  have k0 : Way p e below (s₁.setTop (entryFrame m #[(.ref a1)] 1)) s₁ (mkF m 0 #[rv a1] []) := fun t k => castTop (by first | (simp [entryFrame, mkF, argsToLocals, Value.category]; done) | rfl) k
  generalize s₁.setTop (entryFrame m #[(.ref a1)] 1) = S0 at k0 ⊢
  have k1 : Way p e below S0 s₁ (mkF m 1 #[rv a1] [(.ref a1)]) := by
    intro t k
    refine k0 t ?_
    refine XS.aloadN X0.here hx rfl (hb hby d_jdk_22_method_1_code_0) rfl rfl ?_
    show Steps p.tables e below (s₁.setTop (mkF m 1 #[rv a1] [(.ref a1)])) _
    exact k
  obtain ⟨T2, X2, e2, st2⟩ := initO X0 hx hZ hown (hw _ (List.mem_of_getElem? (i := 62) rfl)) (hw _ (List.mem_of_getElem? (i := 12) rfl)) (hw _ (List.mem_of_getElem? (i := 13) rfl)) e0 (g := (mkF m 1 #[rv a1] [(.ref a1)])) rfl (by rw [hml]; rfl) rfl (hb hby d_jdk_22_method_1_code_1) (by decide) (W := 0) (by show 2 * 0 + _ ≤ _; exact Nat.le_of_eq rfl) (by decide)
  have k3 : Way p e below S0 T2 (mkF m 4 #[rv a1] []) := fun t k => k1 t (st2 _ k)
  obtain ⟨fs, hr, hrun, hended, hW, hsame⟩ := X2.leave (v := none) (fun _ => rfl)
  refine ⟨_, _, k3 _ (X2.returnOut hx Bd.returns (hb hby d_jdk_22_method_1_code_4) hr), hrun, hended, _, _, rfl, ?_, ⟨_, rfl⟩, hW, hsame.mono (by decide) (by decide)⟩
  show Q_abcInit Z wCS wDE kDE a1 h0 n0 _ T2.heap _
  rw [e2]
  exact ⟨rfl, N0, rfl⟩
def Q_ablInit (Z : State) (wCS : Int32) (wDE : Addr) (kDE : ClassId) (a1 : Addr) (h0 : Heap) (n0 : Nat) (v : Option Value) (h : Heap) (L : List Loc) : Prop := (v = none) ∧ (Fr n0 L) ∧ (Keep h0 h [a1]) ∧ (Exa Z h a1 "java/util/ArrayList") ∧ (Fld Z h a1 "java/util/AbstractList" "modCount" "I" (.int (0 : Int32))) ∧ (Fld Z h a1 "java/util/ArrayList" "elementData" "[Ljava/lang/Object;" .null) ∧ (Fld Z h a1 "java/util/ArrayList" "size" "I" (.int (0 : Int32)))
set_option maxRecDepth 65536 in
set_option maxHeartbeats 40000000 in
theorem ablInit (l : Launch) (Z : State) (a0 : Array Value) (hw : ∀ d ∈ tables_1, d.before a0 Z = true) (ws : List Jvm.Cond) (wCS : Int32) (wDE : Addr) (kDE : ClassId) (G : Gst Z wCS wDE kDE) (a1 : Addr) (h0 : Heap) (n0 : Nat) (O0 : Old Z n0 h0) (a_0 : Exa Z h0 a1 "java/util/ArrayList") (a_1 : Fld Z h0 a1 "java/util/AbstractList" "modCount" "I" (.int (0 : Int32))) (a_2 : Fld Z h0 a1 "java/util/ArrayList" "elementData" "[Ljava/lang/Object;" .null) (a_3 : Fld Z h0 a1 "java/util/ArrayList" "size" "I" (.int (0 : Int32))) (ga1 : n0 ≤ a1) :
    MetFree l (⟨"java/util/AbstractList", "<init>", "()V"⟩ : MethodName) (head1 (Jvm.Cond.code (⟨"java/util/AbstractList", "<init>", "()V"⟩ : MethodName) jdk_39_method_1_code 1 none :: ws) ({ frames := 2, cells := 0, slots := 0, locals := 24 } : Room)) (fun a U => a = #[(.ref a1)] ∧ Z.Warmed39 U.vm ∧ U.heap = h0) (fun _ _ _ _ _ => True) (fun _ U o U' => ∃ v L, o = .returned v ∧ Q_ablInit Z wCS wDE kDE a1 h0 n0 v U'.heap L ∧ FrameEnd U o U' L ({ frames := 2, cells := 0, slots := 0, locals := 24 } : Room).cells ({ frames := 2, cells := 0, slots := 0, locals := 24 } : Room).slots) := by
  refine MetFree.of_bodySF (plainFor_of_name pn_4) hisR ?_
  intro p e s m args below meth c s₁ Bd hml0 hP hK
  obtain ⟨rfl, hZ, hh⟩ := hP
  have hx := Bd.exec
  have hby := Bd.bytes
  have hml : c.maxLocals = 1 := hml0
  have hown : s.vm.findClass "java/util/AbstractList" = some m.cls := findClass_of_methodNamed Bd.named
  have hnm := (name_of_methodNamed Bd.named Bd.method).1
  have X0 : Stand p l e ({ frames := 2, cells := 0, slots := 0, locals := 24 } : Room) s m #[(.ref a1)] below meth c s₁ [] 0 0 := Stand.of_body Bd
  have e0 : s₁.heap = h0 := by rw [← hh, Bd.state]; rfl
  have N0 := Fr.nil n0
  obtain ⟨S_CS, hCS, S_DE, V_DE⟩ := id G
  have k0 : Way p e below (s₁.setTop (entryFrame m #[(.ref a1)] 1)) s₁ (mkF m 0 #[rv a1] []) := fun t k => castTop (by first | (simp [entryFrame, mkF, argsToLocals, Value.category]; done) | rfl) k
  generalize s₁.setTop (entryFrame m #[(.ref a1)] 1) = S0 at k0 ⊢
  have k1 : Way p e below S0 s₁ (mkF m 1 #[rv a1] [(.ref a1)]) := by
    intro t k
    refine k0 t ?_
    refine XS.aloadN X0.here hx rfl (hb hby d_jdk_39_method_1_code_0) rfl rfl ?_
    show Steps p.tables e below (s₁.setTop (mkF m 1 #[rv a1] [(.ref a1)])) _
    exact k
  obtain ⟨_, _, ⟨T2, L2, kk2, nn2⟩, -, X2, ⟨Lc2, hQ2, l2, y2, z2⟩, st2⟩ := X0.specialBack hx (y := (⟨"java/util/AbstractCollection", "<init>", "()V"⟩ : MethodName)) rfl hown (mvT hZ (hw _ (List.mem_of_getElem? (i := 56) rfl))) (mvT hZ (hw _ (List.mem_of_getElem? (i := 57) rfl))) (mvT hZ (hw _ (List.mem_of_getElem? (i := 61) rfl))) (by decide) (backOf (W := 0) (abcInit l Z a0 hw [] wCS wDE kDE G a1 h0 n0 O0 ) hZ (hw _ (List.mem_of_getElem? (i := 61) rfl)) (hw _ (List.mem_of_getElem? (i := 60) rfl)) (by decide) (by decide)) (g := (mkF m 1 #[rv a1] [(.ref a1)])) rfl (by rw [hml]; rfl) (Steps.refl _) (a := a1) (argsL := []) (rest := []) (lenOf pd_7 rfl) rfl (by show 2 * 0 + _ ≤ _; exact Nat.le_of_eq rfl) (hb hby d_jdk_39_method_1_code_1) (fun _ _ => ⟨rfl, e0, (by decide : 0 + 0 ≤ _), (by decide : 0 + 0 ≤ _)⟩)
  dsimp only [Pt.U, Pt.locs, Pt.cells, Pt.slots] at X2 l2 y2 z2 st2 hQ2
  subst l2 y2 z2
  obtain ⟨rfl, Nq2, e2⟩ := hQ2
  have N2 := Fr.app N0 Nq2
  have k3 : Way p e below S0 T2 (mkF m 4 #[rv a1] []) := fun t k => k1 t (st2.trans k)
  have k4 : Way p e below S0 T2 (mkF m 6 #[rv a1] [(.int (0 : Int32)), (.ref a1)]) := by
    intro t k
    refine k3 t ?_
    refine XS.aloadN X2.here hx rfl (hb hby d_jdk_39_method_1_code_4) rfl rfl ?_
    show Steps p.tables e below (T2.setTop (mkF m 5 #[rv a1] [(.ref a1)])) _
    refine XS.iconst X2.here hx rfl (hb hby d_jdk_39_method_1_code_5) ?_
    show Steps p.tables e below (T2.setTop (mkF m 6 #[rv a1] [(.int (0 : Int32)), (.ref a1)])) _
    exact k
  obtain ⟨T5, h5, X5, e5, W5, st5⟩ := putF X2 hx hZ hown (host := "") (Or.inl (hw _ (List.mem_of_getElem? (i := 63) rfl))) Via.refl e2 a_1 a_0 (Or.inl (hw _ (List.mem_of_getElem? (i := 64) rfl))) (hw _ (List.mem_of_getElem? (i := 45) rfl)) (ty := .int) (by decide) rfl rfl (g := (mkF m 6 #[rv a1] [(.int (0 : Int32)), (.ref a1)])) rfl rfl (hb hby d_jdk_39_method_1_code_6)
  have O5 := O0.wr W5 ga1
  have N5 := Fr.snoc X5 N2 ga1
  have K5 : Keep h0 h5 [a1] := (Keep.refl h0 [a1]).wr W5 (Or.inl (List.mem_of_getElem? (i := 0) rfl))
  have fw5 : Fld Z h5 a1 "java/util/AbstractList" "modCount" "I" (.int (0 : Int32)) := a_1.same W5
  have k6 : Way p e below S0 T5 (mkF m 9 #[rv a1] []) := fun t k => k4 t (st5 _ k)
  obtain ⟨fs, hr, hrun, hended, hW, hsame⟩ := X5.leave (v := none) (fun _ => rfl)
  have f7 : Exa Z h5 a1 "java/util/ArrayList" := (a_0.wr W5)
  have f8 : Fld Z h5 a1 "java/util/ArrayList" "elementData" "[Ljava/lang/Object;" .null := (a_2.other W5 (Or.inr (slot_ne (Or.inl (hw _ (List.mem_of_getElem? (i := 67) rfl))) (Or.inl (hw _ (List.mem_of_getElem? (i := 64) rfl))) (by decide) (t := (.array (.object "java/lang/Object"))) (t' := .int) (by decide) (by decide))))
  have f9 : Fld Z h5 a1 "java/util/ArrayList" "size" "I" (.int (0 : Int32)) := (a_3.other W5 (Or.inr (slot_ne (Or.inl (hw _ (List.mem_of_getElem? (i := 114) rfl))) (Or.inl (hw _ (List.mem_of_getElem? (i := 64) rfl))) (by decide) (t := .int) (t' := .int) (by decide) (by decide))))
  refine ⟨_, _, k6 _ (X5.returnOut hx Bd.returns (hb hby d_jdk_39_method_1_code_9) hr), hrun, hended, _, _, rfl, ?_, ⟨_, rfl⟩, hW, hsame.mono (by decide) (by decide)⟩
  show Q_ablInit Z wCS wDE kDE a1 h0 n0 _ T5.heap _
  rw [e5]
  exact ⟨rfl, N5, K5, f7, fw5, f8, f9⟩
def Q_alInit (Z : State) (wCS : Int32) (wDE : Addr) (kDE : ClassId) (a1 : Addr) (h0 : Heap) (n0 : Nat) (v : Option Value) (h : Heap) (L : List Loc) : Prop := (v = none) ∧ (Fr n0 L) ∧ (Keep h0 h [a1]) ∧ (Exa Z h a1 "java/util/ArrayList") ∧ (Fld Z h a1 "java/util/AbstractList" "modCount" "I" (.int (0 : Int32))) ∧ (Fld Z h a1 "java/util/ArrayList" "elementData" "[Ljava/lang/Object;" (.ref wDE)) ∧ (Fld Z h a1 "java/util/ArrayList" "size" "I" (.int (0 : Int32)))
set_option maxRecDepth 65536 in
set_option maxHeartbeats 40000000 in
theorem alInit (l : Launch) (Z : State) (a0 : Array Value) (hw : ∀ d ∈ tables_1, d.before a0 Z = true) (ws : List Jvm.Cond) (wCS : Int32) (wDE : Addr) (kDE : ClassId) (G : Gst Z wCS wDE kDE) (a1 : Addr) (h0 : Heap) (n0 : Nat) (O0 : Old Z n0 h0) (a_0 : Exa Z h0 a1 "java/util/ArrayList") (a_1 : Fld Z h0 a1 "java/util/AbstractList" "modCount" "I" (.int (0 : Int32))) (a_2 : Fld Z h0 a1 "java/util/ArrayList" "elementData" "[Ljava/lang/Object;" .null) (a_3 : Fld Z h0 a1 "java/util/ArrayList" "size" "I" (.int (0 : Int32))) (ga1 : n0 ≤ a1) :
    MetFree l (⟨"java/util/ArrayList", "<init>", "()V"⟩ : MethodName) (head1 (Jvm.Cond.code (⟨"java/util/ArrayList", "<init>", "()V"⟩ : MethodName) jdk_38_method_2_code 1 none :: ws) ({ frames := 3, cells := 0, slots := 0, locals := 36 } : Room)) (fun a U => a = #[(.ref a1)] ∧ Z.Warmed39 U.vm ∧ U.heap = h0) (fun _ _ _ _ _ => True) (fun _ U o U' => ∃ v L, o = .returned v ∧ Q_alInit Z wCS wDE kDE a1 h0 n0 v U'.heap L ∧ FrameEnd U o U' L ({ frames := 3, cells := 0, slots := 0, locals := 36 } : Room).cells ({ frames := 3, cells := 0, slots := 0, locals := 36 } : Room).slots) := by
  refine MetFree.of_bodySF (plainFor_of_name pn_5) hisR ?_
  intro p e s m args below meth c s₁ Bd hml0 hP hK
  obtain ⟨rfl, hZ, hh⟩ := hP
  have hx := Bd.exec
  have hby := Bd.bytes
  have hml : c.maxLocals = 1 := hml0
  have hown : s.vm.findClass "java/util/ArrayList" = some m.cls := findClass_of_methodNamed Bd.named
  have hnm := (name_of_methodNamed Bd.named Bd.method).1
  have X0 : Stand p l e ({ frames := 3, cells := 0, slots := 0, locals := 36 } : Room) s m #[(.ref a1)] below meth c s₁ [] 0 0 := Stand.of_body Bd
  have e0 : s₁.heap = h0 := by rw [← hh, Bd.state]; rfl
  have N0 := Fr.nil n0
  obtain ⟨S_CS, hCS, S_DE, V_DE⟩ := id G
  have k0 : Way p e below (s₁.setTop (entryFrame m #[(.ref a1)] 1)) s₁ (mkF m 0 #[rv a1] []) := fun t k => castTop (by first | (simp [entryFrame, mkF, argsToLocals, Value.category]; done) | rfl) k
  generalize s₁.setTop (entryFrame m #[(.ref a1)] 1) = S0 at k0 ⊢
  have k1 : Way p e below S0 s₁ (mkF m 1 #[rv a1] [(.ref a1)]) := by
    intro t k
    refine k0 t ?_
    refine XS.aloadN X0.here hx rfl (hb hby d_jdk_38_method_2_code_0) rfl rfl ?_
    show Steps p.tables e below (s₁.setTop (mkF m 1 #[rv a1] [(.ref a1)])) _
    exact k
  obtain ⟨_, _, ⟨T2, L2, kk2, nn2⟩, -, X2, ⟨Lc2, hQ2, l2, y2, z2⟩, st2⟩ := X0.specialBack hx (y := (⟨"java/util/AbstractList", "<init>", "()V"⟩ : MethodName)) rfl hown (mvT hZ (hw _ (List.mem_of_getElem? (i := 50) rfl))) (mvT hZ (hw _ (List.mem_of_getElem? (i := 51) rfl))) (mvT hZ (hw _ (List.mem_of_getElem? (i := 55) rfl))) (by decide) (backOf (W := 0) (ablInit l Z a0 hw [] wCS wDE kDE G a1 h0 n0 O0 (a_0 : Exa Z h0 a1 "java/util/ArrayList") (a_1 : Fld Z h0 a1 "java/util/AbstractList" "modCount" "I" (.int (0 : Int32))) (a_2 : Fld Z h0 a1 "java/util/ArrayList" "elementData" "[Ljava/lang/Object;" .null) (a_3 : Fld Z h0 a1 "java/util/ArrayList" "size" "I" (.int (0 : Int32))) (ga1 : n0 ≤ a1)) hZ (hw _ (List.mem_of_getElem? (i := 55) rfl)) (hw _ (List.mem_of_getElem? (i := 54) rfl)) (by decide) (by decide)) (g := (mkF m 1 #[rv a1] [(.ref a1)])) rfl (by rw [hml]; rfl) (Steps.refl _) (a := a1) (argsL := []) (rest := []) (lenOf pd_7 rfl) rfl (by show 2 * 0 + _ ≤ _; exact Nat.le_of_eq rfl) (hb hby d_jdk_38_method_2_code_1) (fun _ _ => ⟨rfl, e0, (by decide : 0 + 0 ≤ _), (by decide : 0 + 0 ≤ _)⟩)
  dsimp only [Pt.U, Pt.locs, Pt.cells, Pt.slots] at X2 l2 y2 z2 st2 hQ2
  subst l2 y2 z2
  obtain ⟨rfl, Nq2, Kq2, po2_0, po2_1, po2_2, po2_3⟩ := hQ2
  have N2 := Fr.app N0 Nq2
  have O2 := O0.keep Kq2 (allS ga1 all0)
  have K2 : Keep h0 T2.heap [a1] := (Keep.refl h0 [a1]).trans Kq2 (allS (Or.inl (List.mem_of_getElem? (i := 0) rfl)) all0)
  have k3 : Way p e below S0 T2 (mkF m 4 #[rv a1] []) := fun t k => k1 t (st2.trans k)
  have k4 : Way p e below S0 T2 (mkF m 5 #[rv a1] [(.ref a1)]) := by
    intro t k
    refine k3 t ?_
    refine XS.aloadN X2.here hx rfl (hb hby d_jdk_38_method_2_code_4) rfl rfl ?_
    show Steps p.tables e below (T2.setTop (mkF m 5 #[rv a1] [(.ref a1)])) _
    exact k
  obtain ⟨T5, X5, e5, st5⟩ := getS2 X2 hx hZ hown (host := "") (Or.inl (hw _ (List.mem_of_getElem? (i := 65) rfl))) Via.refl rfl (S_DE.ext O2.2) (g := (mkF m 5 #[rv a1] [(.ref a1)])) rfl (hb hby d_jdk_38_method_2_code_5)
  have k6 : Way p e below S0 T5 (mkF m 8 #[rv a1] [(.ref wDE), (.ref a1)]) := fun t k => k4 t (st5 _ k)
  obtain ⟨T7, h7, X7, e7, W7, st7⟩ := putF X5 hx hZ hown (host := "") (Or.inl (hw _ (List.mem_of_getElem? (i := 66) rfl))) Via.refl e5 po2_2 po2_0 (Or.inl (hw _ (List.mem_of_getElem? (i := 67) rfl))) (hw _ (List.mem_of_getElem? (i := 45) rfl)) (ty := (.array (.object "java/lang/Object"))) (by decide) rfl rfl (g := (mkF m 8 #[rv a1] [(.ref wDE), (.ref a1)])) rfl rfl (hb hby d_jdk_38_method_2_code_8)
  have O7 := O2.wr W7 ga1
  have N7 := Fr.snoc X7 N2 ga1
  have K7 : Keep h0 h7 [a1] := K2.wr W7 (Or.inl (List.mem_of_getElem? (i := 0) rfl))
  have fw7 : Fld Z h7 a1 "java/util/ArrayList" "elementData" "[Ljava/lang/Object;" (.ref wDE) := po2_2.same W7
  have k8 : Way p e below S0 T7 (mkF m 11 #[rv a1] []) := fun t k => k6 t (st7 _ k)
  obtain ⟨fs, hr, hrun, hended, hW, hsame⟩ := X7.leave (v := none) (fun _ => rfl)
  have f9 : Exa Z h7 a1 "java/util/ArrayList" := (po2_0.wr W7)
  have f10 : Fld Z h7 a1 "java/util/AbstractList" "modCount" "I" (.int (0 : Int32)) := (po2_1.other W7 (Or.inr (slot_ne (Or.inl (hw _ (List.mem_of_getElem? (i := 64) rfl))) (Or.inl (hw _ (List.mem_of_getElem? (i := 67) rfl))) (by decide) (t := .int) (t' := (.array (.object "java/lang/Object"))) (by decide) (by decide))))
  have f11 : Fld Z h7 a1 "java/util/ArrayList" "size" "I" (.int (0 : Int32)) := (po2_3.other W7 (Or.inr (slot_ne (Or.inl (hw _ (List.mem_of_getElem? (i := 114) rfl))) (Or.inl (hw _ (List.mem_of_getElem? (i := 67) rfl))) (by decide) (t := .int) (t' := (.array (.object "java/lang/Object"))) (by decide) (by decide))))
  refine ⟨_, _, k8 _ (X7.returnOut hx Bd.returns (hb hby d_jdk_38_method_2_code_11) hr), hrun, hended, _, _, rfl, ?_, ⟨_, rfl⟩, hW, hsame.mono (by decide) (by decide)⟩
  show Q_alInit Z wCS wDE kDE a1 h0 n0 _ T7.heap _
  rw [e7]
  exact ⟨rfl, N7, K7, f9, f10, fw7, f11⟩
def Q_recInit (Z : State) (wCS : Int32) (wDE : Addr) (kDE : ClassId) (a1 : Addr) (h0 : Heap) (n0 : Nat) (v : Option Value) (h : Heap) (L : List Loc) : Prop := (v = none) ∧ (Fr n0 L) ∧ (h = h0)
set_option maxRecDepth 65536 in
set_option maxHeartbeats 40000000 in
theorem recInit (l : Launch) (Z : State) (a0 : Array Value) (hw : ∀ d ∈ tables_1, d.before a0 Z = true) (ws : List Jvm.Cond) (wCS : Int32) (wDE : Addr) (kDE : ClassId) (G : Gst Z wCS wDE kDE) (a1 : Addr) (h0 : Heap) (n0 : Nat) (O0 : Old Z n0 h0) :
    MetFree l (⟨"java/lang/Record", "<init>", "()V"⟩ : MethodName) (head1 (Jvm.Cond.code (⟨"java/lang/Record", "<init>", "()V"⟩ : MethodName) jdk_30_method_1_code 1 none :: ws) ({ frames := 1, cells := 0, slots := 0, locals := 12 } : Room)) (fun a U => a = #[(.ref a1)] ∧ Z.Warmed39 U.vm ∧ U.heap = h0) (fun _ _ _ _ _ => True) (fun _ U o U' => ∃ v L, o = .returned v ∧ Q_recInit Z wCS wDE kDE a1 h0 n0 v U'.heap L ∧ FrameEnd U o U' L ({ frames := 1, cells := 0, slots := 0, locals := 12 } : Room).cells ({ frames := 1, cells := 0, slots := 0, locals := 12 } : Room).slots) := by
  refine MetFree.of_bodySF (plainFor_of_name pn_6) hisR ?_
  intro p e s m args below meth c s₁ Bd hml0 hP hK
  obtain ⟨rfl, hZ, hh⟩ := hP
  have hx := Bd.exec
  have hby := Bd.bytes
  have hml : c.maxLocals = 1 := hml0
  have hown : s.vm.findClass "java/lang/Record" = some m.cls := findClass_of_methodNamed Bd.named
  have hnm := (name_of_methodNamed Bd.named Bd.method).1
  have X0 : Stand p l e ({ frames := 1, cells := 0, slots := 0, locals := 12 } : Room) s m #[(.ref a1)] below meth c s₁ [] 0 0 := Stand.of_body Bd
  have e0 : s₁.heap = h0 := by rw [← hh, Bd.state]; rfl
  have N0 := Fr.nil n0
  obtain ⟨S_CS, hCS, S_DE, V_DE⟩ := id G
  have k0 : Way p e below (s₁.setTop (entryFrame m #[(.ref a1)] 1)) s₁ (mkF m 0 #[rv a1] []) := fun t k => castTop (by first | (simp [entryFrame, mkF, argsToLocals, Value.category]; done) | rfl) k
  generalize s₁.setTop (entryFrame m #[(.ref a1)] 1) = S0 at k0 ⊢
  have k1 : Way p e below S0 s₁ (mkF m 1 #[rv a1] [(.ref a1)]) := by
    intro t k
    refine k0 t ?_
    refine XS.aloadN X0.here hx rfl (hb hby d_jdk_30_method_1_code_0) rfl rfl ?_
    show Steps p.tables e below (s₁.setTop (mkF m 1 #[rv a1] [(.ref a1)])) _
    exact k
  obtain ⟨T2, X2, e2, st2⟩ := initO X0 hx hZ hown (hw _ (List.mem_of_getElem? (i := 82) rfl)) (hw _ (List.mem_of_getElem? (i := 12) rfl)) (hw _ (List.mem_of_getElem? (i := 13) rfl)) e0 (g := (mkF m 1 #[rv a1] [(.ref a1)])) rfl (by rw [hml]; rfl) rfl (hb hby d_jdk_30_method_1_code_1) (by decide) (W := 0) (by show 2 * 0 + _ ≤ _; exact Nat.le_of_eq rfl) (by decide)
  have k3 : Way p e below S0 T2 (mkF m 4 #[rv a1] []) := fun t k => k1 t (st2 _ k)
  obtain ⟨fs, hr, hrun, hended, hW, hsame⟩ := X2.leave (v := none) (fun _ => rfl)
  refine ⟨_, _, k3 _ (X2.returnOut hx Bd.returns (hb hby d_jdk_30_method_1_code_4) hr), hrun, hended, _, _, rfl, ?_, ⟨_, rfl⟩, hW, hsame.mono (by decide) (by decide)⟩
  show Q_recInit Z wCS wDE kDE a1 h0 n0 _ T2.heap _
  rw [e2]
  exact ⟨rfl, N0, rfl⟩
def Q_mmax (Z : State) (wCS : Int32) (wDE : Addr) (kDE : ClassId)  (h0 : Heap) (n0 : Nat) (v : Option Value) (h : Heap) (L : List Loc) : Prop := (v = some (.int (10 : Int32))) ∧ (Fr n0 L) ∧ (h = h0)
set_option maxRecDepth 65536 in
set_option maxHeartbeats 40000000 in
theorem mmax (l : Launch) (Z : State) (a0 : Array Value) (hw : ∀ d ∈ tables_1, d.before a0 Z = true) (ws : List Jvm.Cond) (wCS : Int32) (wDE : Addr) (kDE : ClassId) (G : Gst Z wCS wDE kDE)  (h0 : Heap) (n0 : Nat) (O0 : Old Z n0 h0) :
    MetFree l (⟨"java/lang/Math", "max", "(II)I"⟩ : MethodName) (head1 (Jvm.Cond.code (⟨"java/lang/Math", "max", "(II)I"⟩ : MethodName) jdk_29_method_65_code 2 (some .int) :: ws) ({ frames := 0, cells := 0, slots := 0, locals := 0 } : Room)) (fun a U => a = #[(.int (10 : Int32)), (.int (1 : Int32))] ∧ Z.Warmed39 U.vm ∧ U.heap = h0) (fun _ _ _ _ _ => True) (fun _ U o U' => ∃ v L, o = .returned v ∧ Q_mmax Z wCS wDE kDE  h0 n0 v U'.heap L ∧ FrameEnd U o U' L ({ frames := 0, cells := 0, slots := 0, locals := 0 } : Room).cells ({ frames := 0, cells := 0, slots := 0, locals := 0 } : Room).slots) := by
  refine MetFree.of_bodySF (Jvm.Free.JP.mathPlain rfl (by decide +kernel)) hisR ?_
  intro p e s m args below meth c s₁ Bd hml0 hP hK
  obtain ⟨rfl, hZ, hh⟩ := hP
  have hx := Bd.exec
  have hby := Bd.bytes
  have hml : c.maxLocals = 2 := hml0
  have hown : s.vm.findClass "java/lang/Math" = some m.cls := findClass_of_methodNamed Bd.named
  have hnm := (name_of_methodNamed Bd.named Bd.method).1
  have X0 : Stand p l e ({ frames := 0, cells := 0, slots := 0, locals := 0 } : Room) s m #[(.int (10 : Int32)), (.int (1 : Int32))] below meth c s₁ [] 0 0 := Stand.of_body Bd
  have e0 : s₁.heap = h0 := by rw [← hh, Bd.state]; rfl
  have N0 := Fr.nil n0
  obtain ⟨S_CS, hCS, S_DE, V_DE⟩ := id G
  have k0 : Way p e below (s₁.setTop (entryFrame m #[(.int (10 : Int32)), (.int (1 : Int32))] 2)) s₁ (mkF m 0 #[iv (10 : Int32), iv (1 : Int32)] []) := fun t k => castTop (by first | (simp [entryFrame, mkF, argsToLocals, Value.category]; done) | rfl) k
  generalize s₁.setTop (entryFrame m #[(.int (10 : Int32)), (.int (1 : Int32))] 2) = S0 at k0 ⊢
  have k1 : Way p e below S0 s₁ (mkF m 10 #[iv (10 : Int32), iv (1 : Int32)] [(.int (10 : Int32))]) := by
    intro t k
    refine k0 t ?_
    refine XS.iloadN X0.here hx rfl (hb hby d_jdk_29_method_65_code_0) rfl ?_
    show Steps p.tables e below (s₁.setTop (mkF m 1 #[iv (10 : Int32), iv (1 : Int32)] [(.int (10 : Int32))])) _
    refine XS.iloadN X0.here hx rfl (hb hby d_jdk_29_method_65_code_1) rfl ?_
    show Steps p.tables e below (s₁.setTop (mkF m 2 #[iv (10 : Int32), iv (1 : Int32)] [(.int (1 : Int32)), (.int (10 : Int32))])) _
    refine XS.icmpNo X0.here hx rfl (hb hby d_jdk_29_method_65_code_2) rfl (flt ((by decide) : ¬ ((10 : Int32) < (1 : Int32)))).1 ?_
    show Steps p.tables e below (s₁.setTop (mkF m 5 #[iv (10 : Int32), iv (1 : Int32)] [])) _
    refine XS.iloadN X0.here hx rfl (hb hby d_jdk_29_method_65_code_5) rfl ?_
    show Steps p.tables e below (s₁.setTop (mkF m 6 #[iv (10 : Int32), iv (1 : Int32)] [(.int (10 : Int32))])) _
    refine XS.goto X0.here hx rfl (pc0 := 6) (pc' := 10) rfl (hb hby d_jdk_29_method_65_code_6) (by decide) (by decide) ?_
    show Steps p.tables e below (s₁.setTop (mkF m 10 #[iv (10 : Int32), iv (1 : Int32)] [(.int (10 : Int32))])) _
    exact k
  obtain ⟨fs, hr, hrun, hended, hW, hsame⟩ := X0.leave (v := some (.int (10 : Int32))) (fun h => by rw [Bd.returns] at h; cases h)
  refine ⟨_, _, k1 _ (retOut X0 hx Bd.returns rfl (Or.inl ⟨rfl, Or.inl rfl, _, rfl⟩) (hb hby d_jdk_29_method_65_code_10) hr), hrun, hended, _, _, rfl, ?_, ⟨_, rfl⟩, hW, hsame.mono (by decide) (by decide)⟩
  show Q_mmax Z wCS wDE kDE  h0 n0 _ s₁.heap _
  rw [e0]
  exact ⟨rfl, N0, rfl⟩
def Q_growI (Z : State) (wCS : Int32) (wDE : Addr) (kDE : ClassId) (a1 : Addr) (q9 : Int32) (h0 : Heap) (n0 : Nat) (v : Option Value) (h : Heap) (L : List Loc) : Prop := ∃ b1 : Addr, ∃ kc : ClassId, (v = some (.ref b1)) ∧ (Fr n0 L) ∧ (Keep h0 h [a1]) ∧ (h0.size ≤ b1) ∧ (Exa Z h a1 "java/util/ArrayList") ∧ (Fld Z h a1 "java/util/AbstractList" "modCount" "I" (.int q9)) ∧ (Fld Z h a1 "java/util/ArrayList" "elementData" "[Ljava/lang/Object;" (.ref b1)) ∧ (Fld Z h a1 "java/util/ArrayList" "size" "I" (.int (0 : Int32))) ∧ (Arv Z h b1 kc (.object "java/lang/Object") (10 : Int32) [.null, .null, .null, .null, .null, .null, .null, .null, .null, .null] .null) ∧ (Ovr Z kc "java/lang/Object")
set_option maxRecDepth 65536 in
set_option maxHeartbeats 40000000 in
theorem growI (l : Launch) (Z : State) (a0 : Array Value) (hw : ∀ d ∈ tables_1, d.before a0 Z = true) (ws : List Jvm.Cond) (wCS : Int32) (wDE : Addr) (kDE : ClassId) (G : Gst Z wCS wDE kDE) (a1 : Addr) (q9 : Int32) (h0 : Heap) (n0 : Nat) (O0 : Old Z n0 h0) (a_0 : Exa Z h0 a1 "java/util/ArrayList") (a_1 : Fld Z h0 a1 "java/util/AbstractList" "modCount" "I" (.int q9)) (a_2 : Fld Z h0 a1 "java/util/ArrayList" "elementData" "[Ljava/lang/Object;" (.ref wDE)) (a_3 : Fld Z h0 a1 "java/util/ArrayList" "size" "I" (.int (0 : Int32))) (ga1 : n0 ≤ a1) :
    MetFree l (⟨"java/util/ArrayList", "grow", "(I)[Ljava/lang/Object;"⟩ : MethodName) (head1 (Jvm.Cond.code (⟨"java/util/ArrayList", "grow", "(I)[Ljava/lang/Object;"⟩ : MethodName) jdk_38_method_6_code 4 (some (.array (.object "java/lang/Object"))) :: ws) ({ frames := 1, cells := 1, slots := 10, locals := 14 } : Room)) (fun a U => a = #[(.ref a1), (.int (1 : Int32))] ∧ Z.Warmed39 U.vm ∧ U.heap = h0) (fun _ _ _ _ _ => True) (fun _ U o U' => ∃ v L, o = .returned v ∧ Q_growI Z wCS wDE kDE a1 q9 h0 n0 v U'.heap L ∧ FrameEnd U o U' L ({ frames := 1, cells := 1, slots := 10, locals := 14 } : Room).cells ({ frames := 1, cells := 1, slots := 10, locals := 14 } : Room).slots) := by
  refine MetFree.of_bodySF (plainFor_of_name pn_5) hisR ?_
  intro p e s m args below meth c s₁ Bd hml0 hP hK
  obtain ⟨rfl, hZ, hh⟩ := hP
  have hx := Bd.exec
  have hby := Bd.bytes
  have hml : c.maxLocals = 4 := hml0
  have hown : s.vm.findClass "java/util/ArrayList" = some m.cls := findClass_of_methodNamed Bd.named
  have hnm := (name_of_methodNamed Bd.named Bd.method).1
  have X0 : Stand p l e ({ frames := 1, cells := 1, slots := 10, locals := 14 } : Room) s m #[(.ref a1), (.int (1 : Int32))] below meth c s₁ [] 0 0 := Stand.of_body Bd
  have e0 : s₁.heap = h0 := by rw [← hh, Bd.state]; rfl
  have N0 := Fr.nil n0
  obtain ⟨S_CS, hCS, S_DE, V_DE⟩ := id G
  have k0 : Way p e below (s₁.setTop (entryFrame m #[(.ref a1), (.int (1 : Int32))] 4)) s₁ (mkF m 0 #[rv a1, iv (1 : Int32), .unset, .unset] []) := fun t k => castTop (by first | (simp [entryFrame, mkF, argsToLocals, Value.category]; done) | rfl) k
  generalize s₁.setTop (entryFrame m #[(.ref a1), (.int (1 : Int32))] 4) = S0 at k0 ⊢
  have k1 : Way p e below S0 s₁ (mkF m 1 #[rv a1, iv (1 : Int32), .unset, .unset] [(.ref a1)]) := by
    intro t k
    refine k0 t ?_
    refine XS.aloadN X0.here hx rfl (hb hby d_jdk_38_method_6_code_0) rfl rfl ?_
    show Steps p.tables e below (s₁.setTop (mkF m 1 #[rv a1, iv (1 : Int32), .unset, .unset] [(.ref a1)])) _
    exact k
  obtain ⟨T2, X2, e2, st2⟩ := getF X0 hx hZ hown (host := "") (Or.inl (hw _ (List.mem_of_getElem? (i := 66) rfl))) Via.refl e0 a_2 (g := (mkF m 1 #[rv a1, iv (1 : Int32), .unset, .unset] [(.ref a1)])) rfl rfl (hb hby d_jdk_38_method_6_code_1)
  have k3 : Way p e below S0 T2 (mkF m 4 #[rv a1, iv (1 : Int32), .unset, .unset] [(.ref wDE)]) := fun t k => k1 t (st2 _ k)
  obtain ⟨cl4, Ar4, -, S4, M4, -, -⟩ := id ((V_DE.ext O0.2))
  have k5 : Way p e below S0 T2 (mkF m 5 #[rv a1, iv (1 : Int32), .unset, .unset] [(.int (0 : Int32))]) := fun t k => k3 t (X2.arraylength hx (by rw [e2]; exact Ar4.1) (State.isArrayOf_alike hZ.alike Ar4.2.1) (g := (mkF m 4 #[rv a1, iv (1 : Int32), .unset, .unset] [(.ref wDE)])) rfl rfl (hb hby d_jdk_38_method_6_code_4) _ (by rw [len_of S4 M4]; exact k))
  have k6 : Way p e below S0 T2 (mkF m 11 #[rv a1, iv (1 : Int32), iv (0 : Int32), .unset] [(.ref a1)]) := by
    intro t k
    refine k5 t ?_
    refine XS.istoreN X2.here hx rfl (hb hby d_jdk_38_method_6_code_5) rfl (l' := #[rv a1, iv (1 : Int32), iv (0 : Int32), .unset]) rfl ?_
    show Steps p.tables e below (T2.setTop (mkF m 6 #[rv a1, iv (1 : Int32), iv (0 : Int32), .unset] [])) _
    refine XS.iloadN X2.here hx rfl (hb hby d_jdk_38_method_6_code_6) rfl ?_
    show Steps p.tables e below (T2.setTop (mkF m 7 #[rv a1, iv (1 : Int32), iv (0 : Int32), .unset] [(.int (0 : Int32))])) _
    refine XS.ifNo X2.here hx rfl (hb hby d_jdk_38_method_6_code_7) rfl ((if0 _ _).trans (flt ((by decide) : ¬ ((0 : Int32) < (0 : Int32)))).2.2.1) ?_
    show Steps p.tables e below (T2.setTop (mkF m 10 #[rv a1, iv (1 : Int32), iv (0 : Int32), .unset] [])) _
    refine XS.aloadN X2.here hx rfl (hb hby d_jdk_38_method_6_code_10) rfl rfl ?_
    show Steps p.tables e below (T2.setTop (mkF m 11 #[rv a1, iv (1 : Int32), iv (0 : Int32), .unset] [(.ref a1)])) _
    exact k
  obtain ⟨T7, X7, e7, st7⟩ := getF X2 hx hZ hown (host := "") (Or.inl (hw _ (List.mem_of_getElem? (i := 66) rfl))) Via.refl e2 a_2 (g := (mkF m 11 #[rv a1, iv (1 : Int32), iv (0 : Int32), .unset] [(.ref a1)])) rfl rfl (hb hby d_jdk_38_method_6_code_11)
  have k8 : Way p e below S0 T7 (mkF m 14 #[rv a1, iv (1 : Int32), iv (0 : Int32), .unset] [(.ref wDE)]) := fun t k => k6 t (st7 _ k)
  obtain ⟨T9, X9, e9, st9⟩ := getS2 X7 hx hZ hown (host := "") (Or.inl (hw _ (List.mem_of_getElem? (i := 65) rfl))) Via.refl e7 (S_DE.ext O0.2) (g := (mkF m 14 #[rv a1, iv (1 : Int32), iv (0 : Int32), .unset] [(.ref wDE)])) rfl (hb hby d_jdk_38_method_6_code_14)
  have k10 : Way p e below S0 T9 (mkF m 17 #[rv a1, iv (1 : Int32), iv (0 : Int32), .unset] [(.ref wDE), (.ref wDE)]) := fun t k => k8 t (st9 _ k)
  have k11 : Way p e below S0 T9 (mkF m 49 #[rv a1, iv (1 : Int32), iv (0 : Int32), .unset] [(.int (1 : Int32)), (.int (10 : Int32)), (.ref a1)]) := by
    intro t k
    refine k10 t ?_
    refine Jvm.RoadKit.acmp (g := (mkF m 17 #[rv a1, iv (1 : Int32), iv (0 : Int32), .unset] [(.ref wDE), (.ref wDE)])) X9 hx rfl rfl rfl (pc0 := 17) (pc' := 45) (same := true) rfl (hb hby d_jdk_38_method_6_code_17) rfl (decide_eq_true rfl) (by decide) (by decide) ?_
    show Steps p.tables e below (T9.setTop (mkF m 45 #[rv a1, iv (1 : Int32), iv (0 : Int32), .unset] [])) _
    refine XS.aloadN X9.here hx rfl (hb hby d_jdk_38_method_6_code_45) rfl rfl ?_
    show Steps p.tables e below (T9.setTop (mkF m 46 #[rv a1, iv (1 : Int32), iv (0 : Int32), .unset] [(.ref a1)])) _
    refine XS.bipush X9.here hx rfl (hb hby d_jdk_38_method_6_code_46) ?_
    show Steps p.tables e below (T9.setTop (mkF m 48 #[rv a1, iv (1 : Int32), iv (0 : Int32), .unset] [(.int (10 : Int32)), (.ref a1)])) _
    refine XS.iloadN X9.here hx rfl (hb hby d_jdk_38_method_6_code_48) rfl ?_
    show Steps p.tables e below (T9.setTop (mkF m 49 #[rv a1, iv (1 : Int32), iv (0 : Int32), .unset] [(.int (1 : Int32)), (.int (10 : Int32)), (.ref a1)])) _
    exact k
  obtain ⟨_, _, ⟨T12, L12, kk12, nn12⟩, -, X12, ⟨Lc12, hQ12, l12, y12, z12⟩, st12⟩ := Jvm.LawKit.callS X9 hx (y := (⟨"java/lang/Math", "max", "(II)I"⟩ : MethodName)) hown (mvT hZ (hw _ (List.mem_of_getElem? (i := 130) rfl))) (mvT hZ (hw _ (List.mem_of_getElem? (i := 131) rfl))) (mvT hZ (hw _ (List.mem_of_getElem? (i := 132) rfl))) (mvT hZ (hw _ (List.mem_of_getElem? (i := 133) rfl))) (by decide) (backOf (W := 1) (mmax l Z a0 hw [] wCS wDE kDE G  h0 n0 O0 ) hZ (hw _ (List.mem_of_getElem? (i := 133) rfl)) (hw _ (List.mem_of_getElem? (i := 132) rfl)) (by decide) (by decide)) (g := (mkF m 49 #[rv a1, iv (1 : Int32), iv (0 : Int32), .unset] [(.int (1 : Int32)), (.int (10 : Int32)), (.ref a1)])) rfl (by rw [hml]; rfl) (argsL := [(.int (10 : Int32)), (.int (1 : Int32))]) (rest := [(.ref a1)]) (lenOf pd_8 rfl) rfl (by show 2 * 0 + _ ≤ _; exact Nat.le_of_eq rfl) (hb hby d_jdk_38_method_6_code_49) (fun _ _ => ⟨rfl, e9, (by decide : 0 + 0 ≤ _), (by decide : 0 + 0 ≤ _)⟩)
  dsimp only [Pt.U, Pt.locs, Pt.cells, Pt.slots] at X12 l12 y12 z12 st12 hQ12
  subst l12 y12 z12
  obtain ⟨rfl, Nq12, e12⟩ := hQ12
  have N12 := Fr.app N0 Nq12
  have k13 : Way p e below S0 T12 (mkF m 52 #[rv a1, iv (1 : Int32), iv (0 : Int32), .unset] [(.int (10 : Int32)), (.ref a1)]) := fun t k => k11 t (st12 _ k)
  obtain ⟨T14, h14, c14, X14, e14, E14, A14, B14, V14, st14⟩ := newRE X12 hx hZ hown (hw _ (List.mem_of_getElem? (i := 134) rfl)) (hw _ (List.mem_of_getElem? (i := 135) rfl)) e12 (g := (mkF m 52 #[rv a1, iv (1 : Int32), iv (0 : Int32), .unset] [(.int (10 : Int32)), (.ref a1)])) rfl (hb hby d_jdk_38_method_6_code_52) rfl (by decide) (cap := 10) (by decide) (by decide) (by decide) (by decide) (ad := "[Ljava/lang/Object;") (by decide)
  obtain ⟨b14, g14⟩ : ∃ z, z = h0.size := ⟨_, rfl⟩
  rw [← g14] at A14 B14 st14
  have O14 := O0.ext E14
  have K14 : Keep h0 h14 [a1] := (Keep.refl h0 [a1]).ext E14
  have v14 : Arv Z h14 b14 c14 (.object "java/lang/Object") (10 : Int32) [.null, .null, .null, .null, .null, .null, .null, .null, .null, .null] .null := (Arv.new A14 (by decide)).pad (pad_rep [] .null 10)
  have k15 : Way p e below S0 T14 (mkF m 55 #[rv a1, iv (1 : Int32), iv (0 : Int32), .unset] [(.ref b14), (.ref a1)]) := fun t k => k13 t (st14 _ k)
  have k16 : Way p e below S0 T14 (mkF m 56 #[rv a1, iv (1 : Int32), iv (0 : Int32), .unset] [(.ref b14), (.ref a1), (.ref b14)]) := by
    intro t k
    refine k15 t ?_
    refine XS.dupX1 X14.here hx rfl (hb hby d_jdk_38_method_6_code_55) rfl rfl rfl ?_
    show Steps p.tables e below (T14.setTop (mkF m 56 #[rv a1, iv (1 : Int32), iv (0 : Int32), .unset] [(.ref b14), (.ref a1), (.ref b14)])) _
    exact k
  have f17 : Fld Z h14 a1 "java/util/ArrayList" "elementData" "[Ljava/lang/Object;" (.ref wDE) := (a_2.ext E14)
  have f18 : Exa Z h14 a1 "java/util/ArrayList" := (a_0.ext E14)
  obtain ⟨T19, h19, X19, e19, W19, st19⟩ := putF X14 hx hZ hown (host := "") (Or.inl (hw _ (List.mem_of_getElem? (i := 66) rfl))) Via.refl e14 f17 f18 (Or.inl (hw _ (List.mem_of_getElem? (i := 67) rfl))) (hw _ (List.mem_of_getElem? (i := 45) rfl)) (ty := (.array (.object "java/lang/Object"))) (by decide) rfl rfl (g := (mkF m 56 #[rv a1, iv (1 : Int32), iv (0 : Int32), .unset] [(.ref b14), (.ref a1), (.ref b14)])) rfl rfl (hb hby d_jdk_38_method_6_code_56)
  have O19 := O14.wr W19 ga1
  have N19 := Fr.snoc X19 N12 ga1
  have K19 : Keep h0 h19 [a1] := K14.wr W19 (Or.inl (List.mem_of_getElem? (i := 0) rfl))
  have fw19 : Fld Z h19 a1 "java/util/ArrayList" "elementData" "[Ljava/lang/Object;" (.ref b14) := f17.same W19
  have k20 : Way p e below S0 T19 (mkF m 59 #[rv a1, iv (1 : Int32), iv (0 : Int32), .unset] [(.ref b14)]) := fun t k => k16 t (st19 _ k)
  obtain ⟨fs, hr, hrun, hended, hW, hsame⟩ := X19.leave (v := some (.ref b14)) (fun h => by rw [Bd.returns] at h; cases h)
  have gz21 : h0.size ≤ b14 := Nat.le_trans (Keep.refl h0 [a1]).1 (Nat.le_of_eq g14.symm)
  have f22 : Exa Z h19 a1 "java/util/ArrayList" := (f18.wr W19)
  have f23 : Fld Z h19 a1 "java/util/AbstractList" "modCount" "I" (.int q9) := ((a_1.ext E14).other W19 (Or.inr (slot_ne (Or.inl (hw _ (List.mem_of_getElem? (i := 64) rfl))) (Or.inl (hw _ (List.mem_of_getElem? (i := 67) rfl))) (by decide) (t := .int) (t' := (.array (.object "java/lang/Object"))) (by decide) (by decide))))
  have f24 : Fld Z h19 a1 "java/util/ArrayList" "size" "I" (.int (0 : Int32)) := ((a_3.ext E14).other W19 (Or.inr (slot_ne (Or.inl (hw _ (List.mem_of_getElem? (i := 114) rfl))) (Or.inl (hw _ (List.mem_of_getElem? (i := 67) rfl))) (by decide) (t := .int) (t' := (.array (.object "java/lang/Object"))) (by decide) (by decide))))
  have f25 : Arv Z h19 b14 c14 (.object "java/lang/Object") (10 : Int32) [.null, .null, .null, .null, .null, .null, .null, .null, .null, .null] .null := (v14.other W19 (Ne.symm (Nat.ne_of_lt (Nat.lt_of_lt_of_le a_0.lt (Nat.le_of_eq g14.symm)))))
  refine ⟨_, _, k20 _ (retOut X19 hx Bd.returns rfl (Or.inr (Or.inr (Or.inr (Or.inr ⟨rfl, rfl, rfl⟩)))) (hb hby d_jdk_38_method_6_code_59) hr), hrun, hended, _, _, rfl, ?_, ⟨_, rfl⟩, hW, hsame.mono (by decide) (by decide)⟩
  show Q_growI Z wCS wDE kDE a1 q9 h0 n0 _ T19.heap _
  rw [e19]
  exact ⟨b14, c14, rfl, N19, K19, gz21, f22, f23, fw19, f24, f25, V14⟩
def Q_grow0 (Z : State) (wCS : Int32) (wDE : Addr) (kDE : ClassId) (a1 : Addr) (q9 : Int32) (h0 : Heap) (n0 : Nat) (v : Option Value) (h : Heap) (L : List Loc) : Prop := ∃ b1 : Addr, ∃ kc : ClassId, (v = some (.ref b1)) ∧ (Fr n0 L) ∧ (Keep h0 h [a1]) ∧ (h0.size ≤ b1) ∧ (Exa Z h a1 "java/util/ArrayList") ∧ (Fld Z h a1 "java/util/AbstractList" "modCount" "I" (.int q9)) ∧ (Fld Z h a1 "java/util/ArrayList" "elementData" "[Ljava/lang/Object;" (.ref b1)) ∧ (Fld Z h a1 "java/util/ArrayList" "size" "I" (.int (0 : Int32))) ∧ (Arv Z h b1 kc (.object "java/lang/Object") (10 : Int32) [.null, .null, .null, .null, .null, .null, .null, .null, .null, .null] .null) ∧ (Ovr Z kc "java/lang/Object")
set_option maxRecDepth 65536 in
set_option maxHeartbeats 40000000 in
theorem grow0 (l : Launch) (Z : State) (a0 : Array Value) (hw : ∀ d ∈ tables_1, d.before a0 Z = true) (ws : List Jvm.Cond) (wCS : Int32) (wDE : Addr) (kDE : ClassId) (G : Gst Z wCS wDE kDE) (a1 : Addr) (q9 : Int32) (h0 : Heap) (n0 : Nat) (O0 : Old Z n0 h0) (a_0 : Exa Z h0 a1 "java/util/ArrayList") (a_1 : Fld Z h0 a1 "java/util/AbstractList" "modCount" "I" (.int q9)) (a_2 : Fld Z h0 a1 "java/util/ArrayList" "elementData" "[Ljava/lang/Object;" (.ref wDE)) (a_3 : Fld Z h0 a1 "java/util/ArrayList" "size" "I" (.int (0 : Int32))) (ga1 : n0 ≤ a1) :
    MetFree l (⟨"java/util/ArrayList", "grow", "()[Ljava/lang/Object;"⟩ : MethodName) (head1 (Jvm.Cond.code (⟨"java/util/ArrayList", "grow", "()[Ljava/lang/Object;"⟩ : MethodName) jdk_38_method_7_code 1 (some (.array (.object "java/lang/Object"))) :: ws) ({ frames := 2, cells := 1, slots := 10, locals := 29 } : Room)) (fun a U => a = #[(.ref a1)] ∧ Z.Warmed39 U.vm ∧ U.heap = h0) (fun _ _ _ _ _ => True) (fun _ U o U' => ∃ v L, o = .returned v ∧ Q_grow0 Z wCS wDE kDE a1 q9 h0 n0 v U'.heap L ∧ FrameEnd U o U' L ({ frames := 2, cells := 1, slots := 10, locals := 29 } : Room).cells ({ frames := 2, cells := 1, slots := 10, locals := 29 } : Room).slots) := by
  refine MetFree.of_bodySF (plainFor_of_name pn_5) hisR ?_
  intro p e s m args below meth c s₁ Bd hml0 hP hK
  obtain ⟨rfl, hZ, hh⟩ := hP
  have hx := Bd.exec
  have hby := Bd.bytes
  have hml : c.maxLocals = 1 := hml0
  have hown : s.vm.findClass "java/util/ArrayList" = some m.cls := findClass_of_methodNamed Bd.named
  have hnm := (name_of_methodNamed Bd.named Bd.method).1
  have X0 : Stand p l e ({ frames := 2, cells := 1, slots := 10, locals := 29 } : Room) s m #[(.ref a1)] below meth c s₁ [] 0 0 := Stand.of_body Bd
  have e0 : s₁.heap = h0 := by rw [← hh, Bd.state]; rfl
  have N0 := Fr.nil n0
  obtain ⟨S_CS, hCS, S_DE, V_DE⟩ := id G
  have k0 : Way p e below (s₁.setTop (entryFrame m #[(.ref a1)] 1)) s₁ (mkF m 0 #[rv a1] []) := fun t k => castTop (by first | (simp [entryFrame, mkF, argsToLocals, Value.category]; done) | rfl) k
  generalize s₁.setTop (entryFrame m #[(.ref a1)] 1) = S0 at k0 ⊢
  have k1 : Way p e below S0 s₁ (mkF m 2 #[rv a1] [(.ref a1), (.ref a1)]) := by
    intro t k
    refine k0 t ?_
    refine XS.aloadN X0.here hx rfl (hb hby d_jdk_38_method_7_code_0) rfl rfl ?_
    show Steps p.tables e below (s₁.setTop (mkF m 1 #[rv a1] [(.ref a1)])) _
    refine XS.aloadN X0.here hx rfl (hb hby d_jdk_38_method_7_code_1) rfl rfl ?_
    show Steps p.tables e below (s₁.setTop (mkF m 2 #[rv a1] [(.ref a1), (.ref a1)])) _
    exact k
  obtain ⟨T2, X2, e2, st2⟩ := getF X0 hx hZ hown (host := "") (Or.inl (hw _ (List.mem_of_getElem? (i := 113) rfl))) Via.refl e0 a_3 (g := (mkF m 2 #[rv a1] [(.ref a1), (.ref a1)])) rfl rfl (hb hby d_jdk_38_method_7_code_2)
  have k3 : Way p e below S0 T2 (mkF m 5 #[rv a1] [(.int (0 : Int32)), (.ref a1)]) := fun t k => k1 t (st2 _ k)
  have k4 : Way p e below S0 T2 (mkF m 7 #[rv a1] [(.int (1 : Int32)), (.ref a1)]) := by
    intro t k
    refine k3 t ?_
    refine XS.iconst X2.here hx rfl (hb hby d_jdk_38_method_7_code_5) ?_
    show Steps p.tables e below (T2.setTop (mkF m 6 #[rv a1] [(.int (1 : Int32)), (.int (0 : Int32)), (.ref a1)])) _
    refine XS.iadd X2.here hx rfl (hb hby d_jdk_38_method_7_code_6) rfl ?_
    show Steps p.tables e below (T2.setTop (mkF m 7 #[rv a1] [(.int (1 : Int32)), (.ref a1)])) _
    exact k
  obtain ⟨cq5, qv5, qv5'⟩ := a_0.cell
  obtain ⟨_, _, ⟨T5, L5, kk5, nn5⟩, -, X5, ⟨Lc5, hQ5, l5, y5, z5⟩, st5⟩ := X2.privateBack hx (y := (⟨"java/util/ArrayList", "grow", "(I)[Ljava/lang/Object;"⟩ : MethodName)) hown (mvT hZ (hw _ (List.mem_of_getElem? (i := 125) rfl))) (mvT hZ (hw _ (List.mem_of_getElem? (i := 126) rfl))) (mvT hZ (hw _ (List.mem_of_getElem? (i := 128) rfl))) (Cond.privateMethod_at (mvP hZ (hw _ (List.mem_of_getElem? (i := 127) rfl)) (args := #[]))) (mvT hZ (hw _ (List.mem_of_getElem? (i := 129) rfl))) (by decide) (backOf (W := 0) (growI l Z a0 hw [] wCS wDE kDE G a1 q9 h0 n0 O0 (a_0 : Exa Z h0 a1 "java/util/ArrayList") (a_1 : Fld Z h0 a1 "java/util/AbstractList" "modCount" "I" (.int q9)) (a_2 : Fld Z h0 a1 "java/util/ArrayList" "elementData" "[Ljava/lang/Object;" (.ref wDE)) (a_3 : Fld Z h0 a1 "java/util/ArrayList" "size" "I" (.int (0 : Int32))) (ga1 : n0 ≤ a1)) hZ (hw _ (List.mem_of_getElem? (i := 129) rfl)) (hw _ (List.mem_of_getElem? (i := 46) rfl)) (by decide) (by decide)) (g := (mkF m 7 #[rv a1] [(.int (1 : Int32)), (.ref a1)])) rfl (by rw [hml]; rfl) (Steps.refl _) (a := a1) (by rw [e2]; exact qv5) qv5' (argsL := [(.int (1 : Int32))]) (rest := []) (lenOf pd_9 rfl) rfl (by show 2 * 0 + _ ≤ _; exact Nat.le_of_eq rfl) (hb hby d_jdk_38_method_7_code_7) (fun _ _ => ⟨rfl, e2, (by decide : 0 + 1 ≤ _), (by decide : 0 + 10 ≤ _)⟩)
  dsimp only [Pt.U, Pt.locs, Pt.cells, Pt.slots] at X5 l5 y5 z5 st5 hQ5
  subst l5 y5 z5
  obtain ⟨b1_5, kc_5, rfl, Nq5, Kq5, po5_0, po5_1, po5_2, po5_3, po5_4, po5_5, po5_6⟩ := hQ5
  have N5 := Fr.app N0 Nq5
  have O5 := O0.keep Kq5 (allS ga1 all0)
  have K5 : Keep h0 T5.heap [a1] := (Keep.refl h0 [a1]).trans Kq5 (allS (Or.inl (List.mem_of_getElem? (i := 0) rfl)) all0)
  have k6 : Way p e below S0 T5 (mkF m 10 #[rv a1] [(.ref b1_5)]) := fun t k => k4 t (st5.trans k)
  obtain ⟨fs, hr, hrun, hended, hW, hsame⟩ := X5.leave (v := some (.ref b1_5)) (fun h => by rw [Bd.returns] at h; cases h)
  have gz7 : h0.size ≤ b1_5 := Nat.le_trans (Keep.refl h0 [a1]).1 po5_0
  refine ⟨_, _, k6 _ (retOut X5 hx Bd.returns rfl (Or.inr (Or.inr (Or.inr (Or.inr ⟨rfl, rfl, rfl⟩)))) (hb hby d_jdk_38_method_7_code_10) hr), hrun, hended, _, _, rfl, ?_, ⟨_, rfl⟩, hW, hsame.mono (by decide) (by decide)⟩
  show Q_grow0 Z wCS wDE kDE a1 q9 h0 n0 _ T5.heap _
  exact ⟨b1_5, kc_5, rfl, N5, K5, gz7, po5_1, po5_2, po5_3, po5_4, po5_5, po5_6⟩
def Q_add3A (Z : State) (wCS : Int32) (wDE : Addr) (kDE : ClassId) (a1 : Addr) (q9 : Int32) (a2 : Addr) (h0 : Heap) (n0 : Nat) (v : Option Value) (h : Heap) (L : List Loc) : Prop := ∃ b1 : Addr, ∃ kc : ClassId, (v = none) ∧ (Fr n0 L) ∧ (Keep h0 h [a1]) ∧ (h0.size ≤ b1) ∧ (Exa Z h a1 "java/util/ArrayList") ∧ (Fld Z h a1 "java/util/AbstractList" "modCount" "I" (.int q9)) ∧ (Fld Z h a1 "java/util/ArrayList" "elementData" "[Ljava/lang/Object;" (.ref b1)) ∧ (Fld Z h a1 "java/util/ArrayList" "size" "I" (.int (1 : Int32))) ∧ (Arv Z h b1 kc (.object "java/lang/Object") (10 : Int32) [(.ref a2), .null, .null, .null, .null, .null, .null, .null, .null, .null] .null) ∧ (Ovr Z kc "java/lang/Object")
set_option maxRecDepth 65536 in
set_option maxHeartbeats 40000000 in
theorem add3A (l : Launch) (Z : State) (a0 : Array Value) (hw : ∀ d ∈ tables_1, d.before a0 Z = true) (ws : List Jvm.Cond) (wCS : Int32) (wDE : Addr) (kDE : ClassId) (G : Gst Z wCS wDE kDE) (a1 : Addr) (q9 : Int32) (a2 : Addr) (h0 : Heap) (n0 : Nat) (O0 : Old Z n0 h0) (a_0 : Exa Z h0 a1 "java/util/ArrayList") (a_1 : Fld Z h0 a1 "java/util/AbstractList" "modCount" "I" (.int q9)) (a_2 : Fld Z h0 a1 "java/util/ArrayList" "elementData" "[Ljava/lang/Object;" (.ref wDE)) (a_3 : Fld Z h0 a1 "java/util/ArrayList" "size" "I" (.int (0 : Int32))) (ga1 : n0 ≤ a1) (a_5 : Exa Z h0 a2 "java/lang/String") :
    MetFree l (⟨"java/util/ArrayList", "add", "(Ljava/lang/Object;[Ljava/lang/Object;I)V"⟩ : MethodName) (head1 (Jvm.Cond.code (⟨"java/util/ArrayList", "add", "(Ljava/lang/Object;[Ljava/lang/Object;I)V"⟩ : MethodName) jdk_38_method_24_code 4 none :: ws) ({ frames := 3, cells := 1, slots := 10, locals := 41 } : Room)) (fun a U => a = #[(.ref a1), (.ref a2), (.ref wDE), (.int (0 : Int32))] ∧ Z.Warmed39 U.vm ∧ U.heap = h0) (fun _ _ _ _ _ => True) (fun _ U o U' => ∃ v L, o = .returned v ∧ Q_add3A Z wCS wDE kDE a1 q9 a2 h0 n0 v U'.heap L ∧ FrameEnd U o U' L ({ frames := 3, cells := 1, slots := 10, locals := 41 } : Room).cells ({ frames := 3, cells := 1, slots := 10, locals := 41 } : Room).slots) := by
  refine MetFree.of_bodySF (plainFor_of_name pn_5) hisR ?_
  intro p e s m args below meth c s₁ Bd hml0 hP hK
  obtain ⟨rfl, hZ, hh⟩ := hP
  have hx := Bd.exec
  have hby := Bd.bytes
  have hml : c.maxLocals = 4 := hml0
  have hown : s.vm.findClass "java/util/ArrayList" = some m.cls := findClass_of_methodNamed Bd.named
  have hnm := (name_of_methodNamed Bd.named Bd.method).1
  have X0 : Stand p l e ({ frames := 3, cells := 1, slots := 10, locals := 41 } : Room) s m #[(.ref a1), (.ref a2), (.ref wDE), (.int (0 : Int32))] below meth c s₁ [] 0 0 := Stand.of_body Bd
  have e0 : s₁.heap = h0 := by rw [← hh, Bd.state]; rfl
  have N0 := Fr.nil n0
  obtain ⟨S_CS, hCS, S_DE, V_DE⟩ := id G
  have k0 : Way p e below (s₁.setTop (entryFrame m #[(.ref a1), (.ref a2), (.ref wDE), (.int (0 : Int32))] 4)) s₁ (mkF m 0 #[rv a1, rv a2, rv wDE, iv (0 : Int32)] []) := fun t k => castTop (by first | (simp [entryFrame, mkF, argsToLocals, Value.category]; done) | rfl) k
  generalize s₁.setTop (entryFrame m #[(.ref a1), (.ref a2), (.ref wDE), (.int (0 : Int32))] 4) = S0 at k0 ⊢
  have k1 : Way p e below S0 s₁ (mkF m 2 #[rv a1, rv a2, rv wDE, iv (0 : Int32)] [(.ref wDE), (.int (0 : Int32))]) := by
    intro t k
    refine k0 t ?_
    refine XS.iloadN X0.here hx rfl (hb hby d_jdk_38_method_24_code_0) rfl ?_
    show Steps p.tables e below (s₁.setTop (mkF m 1 #[rv a1, rv a2, rv wDE, iv (0 : Int32)] [(.int (0 : Int32))])) _
    refine XS.aloadN X0.here hx rfl (hb hby d_jdk_38_method_24_code_1) rfl rfl ?_
    show Steps p.tables e below (s₁.setTop (mkF m 2 #[rv a1, rv a2, rv wDE, iv (0 : Int32)] [(.ref wDE), (.int (0 : Int32))])) _
    exact k
  obtain ⟨cl2, Ar2, -, S2, M2, -, -⟩ := id ((V_DE.ext O0.2))
  have k3 : Way p e below S0 s₁ (mkF m 3 #[rv a1, rv a2, rv wDE, iv (0 : Int32)] [(.int (0 : Int32)), (.int (0 : Int32))]) := fun t k => k1 t (X0.arraylength hx (by rw [e0]; exact Ar2.1) (State.isArrayOf_alike hZ.alike Ar2.2.1) (g := (mkF m 2 #[rv a1, rv a2, rv wDE, iv (0 : Int32)] [(.ref wDE), (.int (0 : Int32))])) rfl rfl (hb hby d_jdk_38_method_24_code_2) _ (by rw [len_of S2 M2]; exact k))
  have k4 : Way p e below S0 s₁ (mkF m 7 #[rv a1, rv a2, rv wDE, iv (0 : Int32)] [(.ref a1)]) := by
    intro t k
    refine k3 t ?_
    refine XS.icmpNo X0.here hx rfl (hb hby d_jdk_38_method_24_code_3) rfl (teq ((by decide) : (0 : Int32) = (0 : Int32))).2 ?_
    show Steps p.tables e below (s₁.setTop (mkF m 6 #[rv a1, rv a2, rv wDE, iv (0 : Int32)] [])) _
    refine XS.aloadN X0.here hx rfl (hb hby d_jdk_38_method_24_code_6) rfl rfl ?_
    show Steps p.tables e below (s₁.setTop (mkF m 7 #[rv a1, rv a2, rv wDE, iv (0 : Int32)] [(.ref a1)])) _
    exact k
  obtain ⟨cq5, qv5, qv5'⟩ := a_0.cell
  obtain ⟨_, _, ⟨T5, L5, kk5, nn5⟩, -, X5, ⟨Lc5, hQ5, l5, y5, z5⟩, st5⟩ := X0.privateBack hx (y := (⟨"java/util/ArrayList", "grow", "()[Ljava/lang/Object;"⟩ : MethodName)) hown (mvT hZ (hw _ (List.mem_of_getElem? (i := 120) rfl))) (mvT hZ (hw _ (List.mem_of_getElem? (i := 121) rfl))) (mvT hZ (hw _ (List.mem_of_getElem? (i := 123) rfl))) (Cond.privateMethod_at (mvP hZ (hw _ (List.mem_of_getElem? (i := 122) rfl)) (args := #[]))) (mvT hZ (hw _ (List.mem_of_getElem? (i := 124) rfl))) (by decide) (backOf (W := 0) (grow0 l Z a0 hw [] wCS wDE kDE G a1 q9 h0 n0 O0 (a_0 : Exa Z h0 a1 "java/util/ArrayList") (a_1 : Fld Z h0 a1 "java/util/AbstractList" "modCount" "I" (.int q9)) (a_2 : Fld Z h0 a1 "java/util/ArrayList" "elementData" "[Ljava/lang/Object;" (.ref wDE)) (a_3 : Fld Z h0 a1 "java/util/ArrayList" "size" "I" (.int (0 : Int32))) (ga1 : n0 ≤ a1)) hZ (hw _ (List.mem_of_getElem? (i := 124) rfl)) (hw _ (List.mem_of_getElem? (i := 46) rfl)) (by decide) (by decide)) (g := (mkF m 7 #[rv a1, rv a2, rv wDE, iv (0 : Int32)] [(.ref a1)])) rfl (by rw [hml]; rfl) (Steps.refl _) (a := a1) (by rw [e0]; exact qv5) qv5' (argsL := []) (rest := []) (lenOf pd_10 rfl) rfl (by show 2 * 0 + _ ≤ _; exact Nat.le_of_eq rfl) (hb hby d_jdk_38_method_24_code_7) (fun _ _ => ⟨rfl, e0, (by decide : 0 + 1 ≤ _), (by decide : 0 + 10 ≤ _)⟩)
  dsimp only [Pt.U, Pt.locs, Pt.cells, Pt.slots] at X5 l5 y5 z5 st5 hQ5
  subst l5 y5 z5
  obtain ⟨b1_5, kc_5, rfl, Nq5, Kq5, po5_0, po5_1, po5_2, po5_3, po5_4, po5_5, po5_6⟩ := hQ5
  have N5 := Fr.app N0 Nq5
  have O5 := O0.keep Kq5 (allS ga1 all0)
  have K5 : Keep h0 T5.heap [a1] := (Keep.refl h0 [a1]).trans Kq5 (allS (Or.inl (List.mem_of_getElem? (i := 0) rfl)) all0)
  have k6 : Way p e below S0 T5 (mkF m 10 #[rv a1, rv a2, rv wDE, iv (0 : Int32)] [(.ref b1_5)]) := fun t k => k4 t (st5.trans k)
  have k7 : Way p e below S0 T5 (mkF m 14 #[rv a1, rv a2, rv b1_5, iv (0 : Int32)] [(.ref a2), (.int (0 : Int32)), (.ref b1_5)]) := by
    intro t k
    refine k6 t ?_
    refine XS.astoreN X5.here hx rfl (hb hby d_jdk_38_method_24_code_10) rfl rfl (l' := #[rv a1, rv a2, rv b1_5, iv (0 : Int32)]) rfl ?_
    show Steps p.tables e below (T5.setTop (mkF m 11 #[rv a1, rv a2, rv b1_5, iv (0 : Int32)] [])) _
    refine XS.aloadN X5.here hx rfl (hb hby d_jdk_38_method_24_code_11) rfl rfl ?_
    show Steps p.tables e below (T5.setTop (mkF m 12 #[rv a1, rv a2, rv b1_5, iv (0 : Int32)] [(.ref b1_5)])) _
    refine XS.iloadN X5.here hx rfl (hb hby d_jdk_38_method_24_code_12) rfl ?_
    show Steps p.tables e below (T5.setTop (mkF m 13 #[rv a1, rv a2, rv b1_5, iv (0 : Int32)] [(.int (0 : Int32)), (.ref b1_5)])) _
    refine XS.aloadN X5.here hx rfl (hb hby d_jdk_38_method_24_code_13) rfl rfl ?_
    show Steps p.tables e below (T5.setTop (mkF m 14 #[rv a1, rv a2, rv b1_5, iv (0 : Int32)] [(.ref a2), (.int (0 : Int32)), (.ref b1_5)])) _
    exact k
  obtain ⟨cl8, Ar8, qc8, S8, M8, U8, G8⟩ := id (po5_5)
  have hin8 : ¬ ((0 : Int32) < 0 ∨ cl8.slots.size ≤ ((0 : Int32)).toNatClampNeg) := inb_of S8 ⟨by decide, by decide⟩
  have f9 : Exa Z T5.heap a2 "java/lang/String" := (a_5.keep Kq5)
  obtain ⟨T8, h8, X8, e8, W8, st8⟩ := stR X5 hx hZ rfl Ar8 (j := (0 : Int32)) hin8 rfl (Sto.ofV Ar8 qc8 po5_6 (Ins.of_exa f9 (hw _ (List.mem_of_getElem? (i := 136) rfl)))) (g := (mkF m 14 #[rv a1, rv a2, rv b1_5, iv (0 : Int32)] [(.ref a2), (.int (0 : Int32)), (.ref b1_5)])) rfl rfl (hb hby d_jdk_38_method_24_code_14)
  have ge10 : n0 ≤ b1_5 := Nat.le_trans (own_old O0) po5_0
  have O8 := O5.wr W8 ge10
  have N8 := Fr.snoc X8 N5 ge10
  have gz11 : h0.size ≤ b1_5 := Nat.le_trans (Keep.refl h0 [a1]).1 po5_0
  have K8 : Keep h0 h8 [a1] := K5.wr W8 (Or.inr gz11)
  have va8 : Arv Z h8 b1_5 kc_5 (.object "java/lang/Object") (10 : Int32) [(.ref a2), .null, .null, .null, .null, .null, .null, .null, .null, .null] .null := Arv.set Ar8 qc8 S8 M8 U8 G8 rfl W8 0 rfl (Nat.le_of_ble_eq_true rfl)
  have k12 : Way p e below S0 T8 (mkF m 15 #[rv a1, rv a2, rv b1_5, iv (0 : Int32)] []) := fun t k => k7 t (st8 _ k)
  have k13 : Way p e below S0 T8 (mkF m 19 #[rv a1, rv a2, rv b1_5, iv (0 : Int32)] [(.int (1 : Int32)), (.ref a1)]) := by
    intro t k
    refine k12 t ?_
    refine XS.aloadN X8.here hx rfl (hb hby d_jdk_38_method_24_code_15) rfl rfl ?_
    show Steps p.tables e below (T8.setTop (mkF m 16 #[rv a1, rv a2, rv b1_5, iv (0 : Int32)] [(.ref a1)])) _
    refine XS.iloadN X8.here hx rfl (hb hby d_jdk_38_method_24_code_16) rfl ?_
    show Steps p.tables e below (T8.setTop (mkF m 17 #[rv a1, rv a2, rv b1_5, iv (0 : Int32)] [(.int (0 : Int32)), (.ref a1)])) _
    refine XS.iconst X8.here hx rfl (hb hby d_jdk_38_method_24_code_17) ?_
    show Steps p.tables e below (T8.setTop (mkF m 18 #[rv a1, rv a2, rv b1_5, iv (0 : Int32)] [(.int (1 : Int32)), (.int (0 : Int32)), (.ref a1)])) _
    refine XS.iadd X8.here hx rfl (hb hby d_jdk_38_method_24_code_18) rfl ?_
    show Steps p.tables e below (T8.setTop (mkF m 19 #[rv a1, rv a2, rv b1_5, iv (0 : Int32)] [(.int (1 : Int32)), (.ref a1)])) _
    exact k
  have f14 : Fld Z h8 a1 "java/util/ArrayList" "size" "I" (.int (0 : Int32)) := (po5_4.other W8 (Or.inl (Nat.ne_of_lt (Nat.lt_of_lt_of_le a_0.lt po5_0))))
  have f15 : Exa Z h8 a1 "java/util/ArrayList" := (po5_1.wr W8)
  obtain ⟨T16, h16, X16, e16, W16, st16⟩ := putF X8 hx hZ hown (host := "") (Or.inl (hw _ (List.mem_of_getElem? (i := 113) rfl))) Via.refl e8 f14 f15 (Or.inl (hw _ (List.mem_of_getElem? (i := 114) rfl))) (hw _ (List.mem_of_getElem? (i := 45) rfl)) (ty := .int) (by decide) rfl rfl (g := (mkF m 19 #[rv a1, rv a2, rv b1_5, iv (0 : Int32)] [(.int (1 : Int32)), (.ref a1)])) rfl rfl (hb hby d_jdk_38_method_24_code_19)
  have O16 := O8.wr W16 ga1
  have N16 := Fr.snoc X16 N8 ga1
  have K16 : Keep h0 h16 [a1] := K8.wr W16 (Or.inl (List.mem_of_getElem? (i := 0) rfl))
  have fw16 : Fld Z h16 a1 "java/util/ArrayList" "size" "I" (.int (1 : Int32)) := f14.same W16
  have k17 : Way p e below S0 T16 (mkF m 22 #[rv a1, rv a2, rv b1_5, iv (0 : Int32)] []) := fun t k => k13 t (st16 _ k)
  obtain ⟨fs, hr, hrun, hended, hW, hsame⟩ := X16.leave (v := none) (fun _ => rfl)
  have f18 : Exa Z h16 a1 "java/util/ArrayList" := (f15.wr W16)
  have f19 : Fld Z h16 a1 "java/util/AbstractList" "modCount" "I" (.int q9) := ((po5_2.other W8 (Or.inl (Nat.ne_of_lt (Nat.lt_of_lt_of_le a_0.lt po5_0)))).other W16 (Or.inr (slot_ne (Or.inl (hw _ (List.mem_of_getElem? (i := 64) rfl))) (Or.inl (hw _ (List.mem_of_getElem? (i := 114) rfl))) (by decide) (t := .int) (t' := .int) (by decide) (by decide))))
  have f20 : Fld Z h16 a1 "java/util/ArrayList" "elementData" "[Ljava/lang/Object;" (.ref b1_5) := ((po5_3.other W8 (Or.inl (Nat.ne_of_lt (Nat.lt_of_lt_of_le a_0.lt po5_0)))).other W16 (Or.inr (slot_ne (Or.inl (hw _ (List.mem_of_getElem? (i := 67) rfl))) (Or.inl (hw _ (List.mem_of_getElem? (i := 114) rfl))) (by decide) (t := (.array (.object "java/lang/Object"))) (t' := .int) (by decide) (by decide))))
  have f21 : Arv Z h16 b1_5 kc_5 (.object "java/lang/Object") (10 : Int32) [(.ref a2), .null, .null, .null, .null, .null, .null, .null, .null, .null] .null := (va8.other W16 (Ne.symm (Nat.ne_of_lt (Nat.lt_of_lt_of_le a_0.lt po5_0))))
  refine ⟨_, _, k17 _ (X16.returnOut hx Bd.returns (hb hby d_jdk_38_method_24_code_22) hr), hrun, hended, _, _, rfl, ?_, ⟨_, rfl⟩, hW, hsame.mono (by decide) (by decide)⟩
  show Q_add3A Z wCS wDE kDE a1 q9 a2 h0 n0 _ T16.heap _
  rw [e16]
  exact ⟨b1_5, kc_5, rfl, N16, K16, gz11, f18, f19, f20, fw16, f21, po5_6⟩
def Q_addA (Z : State) (wCS : Int32) (wDE : Addr) (kDE : ClassId) (a1 : Addr) (a2 : Addr) (h0 : Heap) (n0 : Nat) (v : Option Value) (h : Heap) (L : List Loc) : Prop := ∃ b1 : Addr, ∃ kc : ClassId, (v = some (.int (1 : Int32))) ∧ (Fr n0 L) ∧ (Keep h0 h [a1]) ∧ (h0.size ≤ b1) ∧ (Exa Z h a1 "java/util/ArrayList") ∧ (Fld Z h a1 "java/util/AbstractList" "modCount" "I" (.int (1 : Int32))) ∧ (Fld Z h a1 "java/util/ArrayList" "elementData" "[Ljava/lang/Object;" (.ref b1)) ∧ (Fld Z h a1 "java/util/ArrayList" "size" "I" (.int (1 : Int32))) ∧ (Arv Z h b1 kc (.object "java/lang/Object") (10 : Int32) [(.ref a2), .null, .null, .null, .null, .null, .null, .null, .null, .null] .null) ∧ (Ovr Z kc "java/lang/Object")
set_option maxRecDepth 65536 in
set_option maxHeartbeats 40000000 in
theorem addA (l : Launch) (Z : State) (a0 : Array Value) (hw : ∀ d ∈ tables_1, d.before a0 Z = true) (ws : List Jvm.Cond) (wCS : Int32) (wDE : Addr) (kDE : ClassId) (G : Gst Z wCS wDE kDE) (a1 : Addr) (a2 : Addr) (h0 : Heap) (n0 : Nat) (O0 : Old Z n0 h0) (a_0 : Exa Z h0 a1 "java/util/ArrayList") (a_1 : Fld Z h0 a1 "java/util/AbstractList" "modCount" "I" (.int (0 : Int32))) (a_2 : Fld Z h0 a1 "java/util/ArrayList" "elementData" "[Ljava/lang/Object;" (.ref wDE)) (a_3 : Fld Z h0 a1 "java/util/ArrayList" "size" "I" (.int (0 : Int32))) (ga1 : n0 ≤ a1) (a_5 : Exa Z h0 a2 "java/lang/String") :
    MetFree l (⟨"java/util/ArrayList", "add", "(Ljava/lang/Object;)Z"⟩ : MethodName) (head1 (Jvm.Cond.code (⟨"java/util/ArrayList", "add", "(Ljava/lang/Object;)Z"⟩ : MethodName) jdk_38_method_25_code 2 (some .boolean) :: ws) ({ frames := 4, cells := 1, slots := 10, locals := 56 } : Room)) (fun a U => a = #[(.ref a1), (.ref a2)] ∧ Z.Warmed39 U.vm ∧ U.heap = h0) (fun _ _ _ _ _ => True) (fun _ U o U' => ∃ v L, o = .returned v ∧ Q_addA Z wCS wDE kDE a1 a2 h0 n0 v U'.heap L ∧ FrameEnd U o U' L ({ frames := 4, cells := 1, slots := 10, locals := 56 } : Room).cells ({ frames := 4, cells := 1, slots := 10, locals := 56 } : Room).slots) := by
  refine MetFree.of_bodySF (plainFor_of_name pn_5) hisR ?_
  intro p e s m args below meth c s₁ Bd hml0 hP hK
  obtain ⟨rfl, hZ, hh⟩ := hP
  have hx := Bd.exec
  have hby := Bd.bytes
  have hml : c.maxLocals = 2 := hml0
  have hown : s.vm.findClass "java/util/ArrayList" = some m.cls := findClass_of_methodNamed Bd.named
  have hnm := (name_of_methodNamed Bd.named Bd.method).1
  have X0 : Stand p l e ({ frames := 4, cells := 1, slots := 10, locals := 56 } : Room) s m #[(.ref a1), (.ref a2)] below meth c s₁ [] 0 0 := Stand.of_body Bd
  have e0 : s₁.heap = h0 := by rw [← hh, Bd.state]; rfl
  have N0 := Fr.nil n0
  obtain ⟨S_CS, hCS, S_DE, V_DE⟩ := id G
  have k0 : Way p e below (s₁.setTop (entryFrame m #[(.ref a1), (.ref a2)] 2)) s₁ (mkF m 0 #[rv a1, rv a2] []) := fun t k => castTop (by first | (simp [entryFrame, mkF, argsToLocals, Value.category]; done) | rfl) k
  generalize s₁.setTop (entryFrame m #[(.ref a1), (.ref a2)] 2) = S0 at k0 ⊢
  have k1 : Way p e below S0 s₁ (mkF m 2 #[rv a1, rv a2] [(.ref a1), (.ref a1)]) := by
    intro t k
    refine k0 t ?_
    refine XS.aloadN X0.here hx rfl (hb hby d_jdk_38_method_25_code_0) rfl rfl ?_
    show Steps p.tables e below (s₁.setTop (mkF m 1 #[rv a1, rv a2] [(.ref a1)])) _
    refine XS.dup X0.here hx rfl (hb hby d_jdk_38_method_25_code_1) rfl rfl ?_
    show Steps p.tables e below (s₁.setTop (mkF m 2 #[rv a1, rv a2] [(.ref a1), (.ref a1)])) _
    exact k
  obtain ⟨T2, X2, e2, st2⟩ := getF X0 hx hZ hown (host := "") (Or.inl (hw _ (List.mem_of_getElem? (i := 111) rfl))) (Via.of (hw _ (List.mem_of_getElem? (i := 112) rfl))) e0 a_1 (g := (mkF m 2 #[rv a1, rv a2] [(.ref a1), (.ref a1)])) rfl rfl (hb hby d_jdk_38_method_25_code_2)
  have k3 : Way p e below S0 T2 (mkF m 5 #[rv a1, rv a2] [(.int (0 : Int32)), (.ref a1)]) := fun t k => k1 t (st2 _ k)
  have k4 : Way p e below S0 T2 (mkF m 7 #[rv a1, rv a2] [(.int (1 : Int32)), (.ref a1)]) := by
    intro t k
    refine k3 t ?_
    refine XS.iconst X2.here hx rfl (hb hby d_jdk_38_method_25_code_5) ?_
    show Steps p.tables e below (T2.setTop (mkF m 6 #[rv a1, rv a2] [(.int (1 : Int32)), (.int (0 : Int32)), (.ref a1)])) _
    refine XS.iadd X2.here hx rfl (hb hby d_jdk_38_method_25_code_6) rfl ?_
    show Steps p.tables e below (T2.setTop (mkF m 7 #[rv a1, rv a2] [(.int (1 : Int32)), (.ref a1)])) _
    exact k
  obtain ⟨T5, h5, X5, e5, W5, st5⟩ := putF X2 hx hZ hown (host := "") (Or.inl (hw _ (List.mem_of_getElem? (i := 111) rfl))) (Via.of (hw _ (List.mem_of_getElem? (i := 112) rfl))) e2 a_1 a_0 (Or.inl (hw _ (List.mem_of_getElem? (i := 64) rfl))) (hw _ (List.mem_of_getElem? (i := 45) rfl)) (ty := .int) (by decide) rfl rfl (g := (mkF m 7 #[rv a1, rv a2] [(.int (1 : Int32)), (.ref a1)])) rfl rfl (hb hby d_jdk_38_method_25_code_7)
  have O5 := O0.wr W5 ga1
  have N5 := Fr.snoc X5 N0 ga1
  have K5 : Keep h0 h5 [a1] := (Keep.refl h0 [a1]).wr W5 (Or.inl (List.mem_of_getElem? (i := 0) rfl))
  have fw5 : Fld Z h5 a1 "java/util/AbstractList" "modCount" "I" (.int (1 : Int32)) := a_1.same W5
  have k6 : Way p e below S0 T5 (mkF m 10 #[rv a1, rv a2] []) := fun t k => k4 t (st5 _ k)
  have k7 : Way p e below S0 T5 (mkF m 13 #[rv a1, rv a2] [(.ref a1), (.ref a2), (.ref a1)]) := by
    intro t k
    refine k6 t ?_
    refine XS.aloadN X5.here hx rfl (hb hby d_jdk_38_method_25_code_10) rfl rfl ?_
    show Steps p.tables e below (T5.setTop (mkF m 11 #[rv a1, rv a2] [(.ref a1)])) _
    refine XS.aloadN X5.here hx rfl (hb hby d_jdk_38_method_25_code_11) rfl rfl ?_
    show Steps p.tables e below (T5.setTop (mkF m 12 #[rv a1, rv a2] [(.ref a2), (.ref a1)])) _
    refine XS.aloadN X5.here hx rfl (hb hby d_jdk_38_method_25_code_12) rfl rfl ?_
    show Steps p.tables e below (T5.setTop (mkF m 13 #[rv a1, rv a2] [(.ref a1), (.ref a2), (.ref a1)])) _
    exact k
  have f8 : Fld Z h5 a1 "java/util/ArrayList" "elementData" "[Ljava/lang/Object;" (.ref wDE) := (a_2.other W5 (Or.inr (slot_ne (Or.inl (hw _ (List.mem_of_getElem? (i := 67) rfl))) (Or.inl (hw _ (List.mem_of_getElem? (i := 64) rfl))) (by decide) (t := (.array (.object "java/lang/Object"))) (t' := .int) (by decide) (by decide))))
  obtain ⟨T9, X9, e9, st9⟩ := getF X5 hx hZ hown (host := "") (Or.inl (hw _ (List.mem_of_getElem? (i := 66) rfl))) Via.refl e5 f8 (g := (mkF m 13 #[rv a1, rv a2] [(.ref a1), (.ref a2), (.ref a1)])) rfl rfl (hb hby d_jdk_38_method_25_code_13)
  have k10 : Way p e below S0 T9 (mkF m 16 #[rv a1, rv a2] [(.ref wDE), (.ref a2), (.ref a1)]) := fun t k => k7 t (st9 _ k)
  have k11 : Way p e below S0 T9 (mkF m 17 #[rv a1, rv a2] [(.ref a1), (.ref wDE), (.ref a2), (.ref a1)]) := by
    intro t k
    refine k10 t ?_
    refine XS.aloadN X9.here hx rfl (hb hby d_jdk_38_method_25_code_16) rfl rfl ?_
    show Steps p.tables e below (T9.setTop (mkF m 17 #[rv a1, rv a2] [(.ref a1), (.ref wDE), (.ref a2), (.ref a1)])) _
    exact k
  have f12 : Fld Z h5 a1 "java/util/ArrayList" "size" "I" (.int (0 : Int32)) := (a_3.other W5 (Or.inr (slot_ne (Or.inl (hw _ (List.mem_of_getElem? (i := 114) rfl))) (Or.inl (hw _ (List.mem_of_getElem? (i := 64) rfl))) (by decide) (t := .int) (t' := .int) (by decide) (by decide))))
  obtain ⟨T13, X13, e13, st13⟩ := getF X9 hx hZ hown (host := "") (Or.inl (hw _ (List.mem_of_getElem? (i := 113) rfl))) Via.refl e9 f12 (g := (mkF m 17 #[rv a1, rv a2] [(.ref a1), (.ref wDE), (.ref a2), (.ref a1)])) rfl rfl (hb hby d_jdk_38_method_25_code_17)
  have k14 : Way p e below S0 T13 (mkF m 20 #[rv a1, rv a2] [(.int (0 : Int32)), (.ref wDE), (.ref a2), (.ref a1)]) := fun t k => k11 t (st13 _ k)
  have f15 : Exa Z h5 a1 "java/util/ArrayList" := (a_0.wr W5)
  have f16 : Exa Z h5 a2 "java/lang/String" := (a_5.wr W5)
  obtain ⟨cq17, qv17, qv17'⟩ := f15.cell
  obtain ⟨_, _, ⟨T17, L17, kk17, nn17⟩, -, X17, ⟨Lc17, hQ17, l17, y17, z17⟩, st17⟩ := X13.privateBack hx (y := (⟨"java/util/ArrayList", "add", "(Ljava/lang/Object;[Ljava/lang/Object;I)V"⟩ : MethodName)) hown (mvT hZ (hw _ (List.mem_of_getElem? (i := 115) rfl))) (mvT hZ (hw _ (List.mem_of_getElem? (i := 116) rfl))) (mvT hZ (hw _ (List.mem_of_getElem? (i := 118) rfl))) (Cond.privateMethod_at (mvP hZ (hw _ (List.mem_of_getElem? (i := 117) rfl)) (args := #[]))) (mvT hZ (hw _ (List.mem_of_getElem? (i := 119) rfl))) (by decide) (backOf (W := 0) (add3A l Z a0 hw [] wCS wDE kDE G a1 (1 : Int32) a2 h5 n0 O5 (f15 : Exa Z h5 a1 "java/util/ArrayList") (fw5 : Fld Z h5 a1 "java/util/AbstractList" "modCount" "I" (.int (1 : Int32))) (f8 : Fld Z h5 a1 "java/util/ArrayList" "elementData" "[Ljava/lang/Object;" (.ref wDE)) (f12 : Fld Z h5 a1 "java/util/ArrayList" "size" "I" (.int (0 : Int32))) (ga1 : n0 ≤ a1) (f16 : Exa Z h5 a2 "java/lang/String")) hZ (hw _ (List.mem_of_getElem? (i := 119) rfl)) (hw _ (List.mem_of_getElem? (i := 46) rfl)) (by decide) (by decide)) (g := (mkF m 20 #[rv a1, rv a2] [(.int (0 : Int32)), (.ref wDE), (.ref a2), (.ref a1)])) rfl (by rw [hml]; rfl) (Steps.refl _) (a := a1) (by rw [e13]; exact qv17) qv17' (argsL := [(.ref a2), (.ref wDE), (.int (0 : Int32))]) (rest := []) (lenOf pd_11 rfl) rfl (by show 2 * 0 + _ ≤ _; exact Nat.le_of_eq rfl) (hb hby d_jdk_38_method_25_code_20) (fun _ _ => ⟨rfl, e13, (by decide : 0 + 1 ≤ _), (by decide : 0 + 10 ≤ _)⟩)
  dsimp only [Pt.U, Pt.locs, Pt.cells, Pt.slots] at X17 l17 y17 z17 st17 hQ17
  subst l17 y17 z17
  obtain ⟨b1_17, kc_17, rfl, Nq17, Kq17, po17_0, po17_1, po17_2, po17_3, po17_4, po17_5, po17_6⟩ := hQ17
  have N17 := Fr.app N5 Nq17
  have O17 := O5.keep Kq17 (allS ga1 all0)
  have K17 : Keep h0 T17.heap [a1] := K5.trans Kq17 (allS (Or.inl (List.mem_of_getElem? (i := 0) rfl)) all0)
  have k18 : Way p e below S0 T17 (mkF m 23 #[rv a1, rv a2] []) := fun t k => k14 t (st17.trans k)
  have k19 : Way p e below S0 T17 (mkF m 24 #[rv a1, rv a2] [(.int (1 : Int32))]) := by
    intro t k
    refine k18 t ?_
    refine XS.iconst X17.here hx rfl (hb hby d_jdk_38_method_25_code_23) ?_
    show Steps p.tables e below (T17.setTop (mkF m 24 #[rv a1, rv a2] [(.int (1 : Int32))])) _
    exact k
  obtain ⟨fs, hr, hrun, hended, hW, hsame⟩ := X17.leave (v := some (.int (1 : Int32))) (fun h => by rw [Bd.returns] at h; cases h)
  have gz20 : h0.size ≤ b1_17 := Nat.le_trans K5.1 po17_0
  refine ⟨_, _, k19 _ (retN X17 hx (t := .boolean) Bd.returns (by simp) (hb hby d_jdk_38_method_25_code_24) hr), hrun, hended, _, _, rfl, ?_, ⟨_, rfl⟩, hW, hsame.mono (by decide) (by decide)⟩
  show Q_addA Z wCS wDE kDE a1 a2 h0 n0 _ T17.heap _
  exact ⟨b1_17, kc_17, rfl, N17, K17, gz20, po17_1, po17_2, po17_3, po17_4, po17_5, po17_6⟩
def Q_add3B (Z : State) (wCS : Int32) (wDE : Addr) (kDE : ClassId) (a1 : Addr) (a2 : Addr) (a3 : Addr) (a4 : Addr) (kc : ClassId) (q9 : Int32) (h0 : Heap) (n0 : Nat) (v : Option Value) (h : Heap) (L : List Loc) : Prop := (v = none) ∧ (Fr n0 L) ∧ (Keep h0 h [a1, a3]) ∧ (Exa Z h a1 "java/util/ArrayList")
set_option maxRecDepth 65536 in
set_option maxHeartbeats 40000000 in
theorem add3B (l : Launch) (Z : State) (a0 : Array Value) (hw : ∀ d ∈ tables_1, d.before a0 Z = true) (ws : List Jvm.Cond) (wCS : Int32) (wDE : Addr) (kDE : ClassId) (G : Gst Z wCS wDE kDE) (a1 : Addr) (a2 : Addr) (a3 : Addr) (a4 : Addr) (kc : ClassId) (q9 : Int32) (h0 : Heap) (n0 : Nat) (O0 : Old Z n0 h0) (a_0 : Exa Z h0 a1 "java/util/ArrayList") (a_1 : Fld Z h0 a1 "java/util/AbstractList" "modCount" "I" (.int q9)) (a_2 : Fld Z h0 a1 "java/util/ArrayList" "elementData" "[Ljava/lang/Object;" (.ref a3)) (a_3 : Fld Z h0 a1 "java/util/ArrayList" "size" "I" (.int (1 : Int32))) (ga1 : n0 ≤ a1) (ga3 : n0 ≤ a3) (hne : a1 ≠ a3) (a_7 : Exa Z h0 a2 "java/lang/String") (a_8 : Arv Z h0 a3 kc (.object "java/lang/Object") (10 : Int32) [(.ref a4), .null, .null, .null, .null, .null, .null, .null, .null, .null] .null) (ovr_a3 : Ovr Z kc "java/lang/Object") :
    MetFree l (⟨"java/util/ArrayList", "add", "(Ljava/lang/Object;[Ljava/lang/Object;I)V"⟩ : MethodName) (head1 (Jvm.Cond.code (⟨"java/util/ArrayList", "add", "(Ljava/lang/Object;[Ljava/lang/Object;I)V"⟩ : MethodName) jdk_38_method_24_code 4 none :: ws) ({ frames := 0, cells := 0, slots := 0, locals := 0 } : Room)) (fun a U => a = #[(.ref a1), (.ref a2), (.ref a3), (.int (1 : Int32))] ∧ Z.Warmed39 U.vm ∧ U.heap = h0) (fun _ _ _ _ _ => True) (fun _ U o U' => ∃ v L, o = .returned v ∧ Q_add3B Z wCS wDE kDE a1 a2 a3 a4 kc q9 h0 n0 v U'.heap L ∧ FrameEnd U o U' L ({ frames := 0, cells := 0, slots := 0, locals := 0 } : Room).cells ({ frames := 0, cells := 0, slots := 0, locals := 0 } : Room).slots) := by
  refine MetFree.of_bodySF (plainFor_of_name pn_5) hisR ?_
  intro p e s m args below meth c s₁ Bd hml0 hP hK
  obtain ⟨rfl, hZ, hh⟩ := hP
  have hx := Bd.exec
  have hby := Bd.bytes
  have hml : c.maxLocals = 4 := hml0
  have hown : s.vm.findClass "java/util/ArrayList" = some m.cls := findClass_of_methodNamed Bd.named
  have hnm := (name_of_methodNamed Bd.named Bd.method).1
  have X0 : Stand p l e ({ frames := 0, cells := 0, slots := 0, locals := 0 } : Room) s m #[(.ref a1), (.ref a2), (.ref a3), (.int (1 : Int32))] below meth c s₁ [] 0 0 := Stand.of_body Bd
  have e0 : s₁.heap = h0 := by rw [← hh, Bd.state]; rfl
  have N0 := Fr.nil n0
  obtain ⟨S_CS, hCS, S_DE, V_DE⟩ := id G
  have k0 : Way p e below (s₁.setTop (entryFrame m #[(.ref a1), (.ref a2), (.ref a3), (.int (1 : Int32))] 4)) s₁ (mkF m 0 #[rv a1, rv a2, rv a3, iv (1 : Int32)] []) := fun t k => castTop (by first | (simp [entryFrame, mkF, argsToLocals, Value.category]; done) | rfl) k
  generalize s₁.setTop (entryFrame m #[(.ref a1), (.ref a2), (.ref a3), (.int (1 : Int32))] 4) = S0 at k0 ⊢
  have k1 : Way p e below S0 s₁ (mkF m 2 #[rv a1, rv a2, rv a3, iv (1 : Int32)] [(.ref a3), (.int (1 : Int32))]) := by
    intro t k
    refine k0 t ?_
    refine XS.iloadN X0.here hx rfl (hb hby d_jdk_38_method_24_code_0) rfl ?_
    show Steps p.tables e below (s₁.setTop (mkF m 1 #[rv a1, rv a2, rv a3, iv (1 : Int32)] [(.int (1 : Int32))])) _
    refine XS.aloadN X0.here hx rfl (hb hby d_jdk_38_method_24_code_1) rfl rfl ?_
    show Steps p.tables e below (s₁.setTop (mkF m 2 #[rv a1, rv a2, rv a3, iv (1 : Int32)] [(.ref a3), (.int (1 : Int32))])) _
    exact k
  obtain ⟨cl2, Ar2, -, S2, M2, -, -⟩ := id (a_8)
  have k3 : Way p e below S0 s₁ (mkF m 3 #[rv a1, rv a2, rv a3, iv (1 : Int32)] [(.int (10 : Int32)), (.int (1 : Int32))]) := fun t k => k1 t (X0.arraylength hx (by rw [e0]; exact Ar2.1) (State.isArrayOf_alike hZ.alike Ar2.2.1) (g := (mkF m 2 #[rv a1, rv a2, rv a3, iv (1 : Int32)] [(.ref a3), (.int (1 : Int32))])) rfl rfl (hb hby d_jdk_38_method_24_code_2) _ (by rw [len_of S2 M2]; exact k))
  have k4 : Way p e below S0 s₁ (mkF m 14 #[rv a1, rv a2, rv a3, iv (1 : Int32)] [(.ref a2), (.int (1 : Int32)), (.ref a3)]) := by
    intro t k
    refine k3 t ?_
    refine XS.icmpYes X0.here hx rfl (pc0 := 3) (pc' := 11) rfl (hb hby d_jdk_38_method_24_code_3) rfl (feq ((by decide) : ¬ ((1 : Int32) = (10 : Int32)))).2 (by decide) (by decide) ?_
    show Steps p.tables e below (s₁.setTop (mkF m 11 #[rv a1, rv a2, rv a3, iv (1 : Int32)] [])) _
    refine XS.aloadN X0.here hx rfl (hb hby d_jdk_38_method_24_code_11) rfl rfl ?_
    show Steps p.tables e below (s₁.setTop (mkF m 12 #[rv a1, rv a2, rv a3, iv (1 : Int32)] [(.ref a3)])) _
    refine XS.iloadN X0.here hx rfl (hb hby d_jdk_38_method_24_code_12) rfl ?_
    show Steps p.tables e below (s₁.setTop (mkF m 13 #[rv a1, rv a2, rv a3, iv (1 : Int32)] [(.int (1 : Int32)), (.ref a3)])) _
    refine XS.aloadN X0.here hx rfl (hb hby d_jdk_38_method_24_code_13) rfl rfl ?_
    show Steps p.tables e below (s₁.setTop (mkF m 14 #[rv a1, rv a2, rv a3, iv (1 : Int32)] [(.ref a2), (.int (1 : Int32)), (.ref a3)])) _
    exact k
  obtain ⟨cl5, Ar5, qc5, S5, M5, U5, G5⟩ := id (a_8)
  have hin5 : ¬ ((1 : Int32) < 0 ∨ cl5.slots.size ≤ ((1 : Int32)).toNatClampNeg) := inb_of S5 ⟨by decide, by decide⟩
  obtain ⟨T5, h5, X5, e5, W5, st5⟩ := stR X0 hx hZ e0 Ar5 (j := (1 : Int32)) hin5 rfl (Sto.ofV Ar5 qc5 ovr_a3 (Ins.of_exa a_7 (hw _ (List.mem_of_getElem? (i := 136) rfl)))) (g := (mkF m 14 #[rv a1, rv a2, rv a3, iv (1 : Int32)] [(.ref a2), (.int (1 : Int32)), (.ref a3)])) rfl rfl (hb hby d_jdk_38_method_24_code_14)
  have O5 := O0.wr W5 ga3
  have N5 := Fr.snoc X5 N0 ga3
  have K5 : Keep h0 h5 [a1, a3] := (Keep.refl h0 [a1, a3]).wr W5 (Or.inl (List.mem_of_getElem? (i := 1) rfl))
  have va5 : Arv Z h5 a3 kc (.object "java/lang/Object") (10 : Int32) [(.ref a4), (.ref a2), .null, .null, .null, .null, .null, .null, .null, .null] .null := Arv.set Ar5 qc5 S5 M5 U5 G5 rfl W5 1 rfl (Nat.le_of_ble_eq_true rfl)
  have k6 : Way p e below S0 T5 (mkF m 15 #[rv a1, rv a2, rv a3, iv (1 : Int32)] []) := fun t k => k4 t (st5 _ k)
  have k7 : Way p e below S0 T5 (mkF m 19 #[rv a1, rv a2, rv a3, iv (1 : Int32)] [(.int (2 : Int32)), (.ref a1)]) := by
    intro t k
    refine k6 t ?_
    refine XS.aloadN X5.here hx rfl (hb hby d_jdk_38_method_24_code_15) rfl rfl ?_
    show Steps p.tables e below (T5.setTop (mkF m 16 #[rv a1, rv a2, rv a3, iv (1 : Int32)] [(.ref a1)])) _
    refine XS.iloadN X5.here hx rfl (hb hby d_jdk_38_method_24_code_16) rfl ?_
    show Steps p.tables e below (T5.setTop (mkF m 17 #[rv a1, rv a2, rv a3, iv (1 : Int32)] [(.int (1 : Int32)), (.ref a1)])) _
    refine XS.iconst X5.here hx rfl (hb hby d_jdk_38_method_24_code_17) ?_
    show Steps p.tables e below (T5.setTop (mkF m 18 #[rv a1, rv a2, rv a3, iv (1 : Int32)] [(.int (1 : Int32)), (.int (1 : Int32)), (.ref a1)])) _
    refine XS.iadd X5.here hx rfl (hb hby d_jdk_38_method_24_code_18) rfl ?_
    show Steps p.tables e below (T5.setTop (mkF m 19 #[rv a1, rv a2, rv a3, iv (1 : Int32)] [(.int (2 : Int32)), (.ref a1)])) _
    exact k
  have f8 : Fld Z h5 a1 "java/util/ArrayList" "size" "I" (.int (1 : Int32)) := (a_3.other W5 (Or.inl hne))
  have f9 : Exa Z h5 a1 "java/util/ArrayList" := (a_0.wr W5)
  obtain ⟨T10, h10, X10, e10, W10, st10⟩ := putF X5 hx hZ hown (host := "") (Or.inl (hw _ (List.mem_of_getElem? (i := 113) rfl))) Via.refl e5 f8 f9 (Or.inl (hw _ (List.mem_of_getElem? (i := 114) rfl))) (hw _ (List.mem_of_getElem? (i := 45) rfl)) (ty := .int) (by decide) rfl rfl (g := (mkF m 19 #[rv a1, rv a2, rv a3, iv (1 : Int32)] [(.int (2 : Int32)), (.ref a1)])) rfl rfl (hb hby d_jdk_38_method_24_code_19)
  have O10 := O5.wr W10 ga1
  have N10 := Fr.snoc X10 N5 ga1
  have K10 : Keep h0 h10 [a1, a3] := K5.wr W10 (Or.inl (List.mem_of_getElem? (i := 0) rfl))
  have fw10 : Fld Z h10 a1 "java/util/ArrayList" "size" "I" (.int (2 : Int32)) := f8.same W10
  have k11 : Way p e below S0 T10 (mkF m 22 #[rv a1, rv a2, rv a3, iv (1 : Int32)] []) := fun t k => k7 t (st10 _ k)
  obtain ⟨fs, hr, hrun, hended, hW, hsame⟩ := X10.leave (v := none) (fun _ => rfl)
  have f12 : Exa Z h10 a1 "java/util/ArrayList" := (f9.wr W10)
  refine ⟨_, _, k11 _ (X10.returnOut hx Bd.returns (hb hby d_jdk_38_method_24_code_22) hr), hrun, hended, _, _, rfl, ?_, ⟨_, rfl⟩, hW, hsame.mono (by decide) (by decide)⟩
  show Q_add3B Z wCS wDE kDE a1 a2 a3 a4 kc q9 h0 n0 _ T10.heap _
  rw [e10]
  exact ⟨rfl, N10, K10, f12⟩
def Q_addB (Z : State) (wCS : Int32) (wDE : Addr) (kDE : ClassId) (a1 : Addr) (a2 : Addr) (a3 : Addr) (a4 : Addr) (kc : ClassId) (h0 : Heap) (n0 : Nat) (v : Option Value) (h : Heap) (L : List Loc) : Prop := (v = some (.int (1 : Int32))) ∧ (Fr n0 L) ∧ (Keep h0 h [a1, a3]) ∧ (Exa Z h a1 "java/util/ArrayList")
set_option maxRecDepth 65536 in
set_option maxHeartbeats 40000000 in
theorem addB (l : Launch) (Z : State) (a0 : Array Value) (hw : ∀ d ∈ tables_1, d.before a0 Z = true) (ws : List Jvm.Cond) (wCS : Int32) (wDE : Addr) (kDE : ClassId) (G : Gst Z wCS wDE kDE) (a1 : Addr) (a2 : Addr) (a3 : Addr) (a4 : Addr) (kc : ClassId) (h0 : Heap) (n0 : Nat) (O0 : Old Z n0 h0) (a_0 : Exa Z h0 a1 "java/util/ArrayList") (a_1 : Fld Z h0 a1 "java/util/AbstractList" "modCount" "I" (.int (1 : Int32))) (a_2 : Fld Z h0 a1 "java/util/ArrayList" "elementData" "[Ljava/lang/Object;" (.ref a3)) (a_3 : Fld Z h0 a1 "java/util/ArrayList" "size" "I" (.int (1 : Int32))) (ga1 : n0 ≤ a1) (ga3 : n0 ≤ a3) (hne : a1 ≠ a3) (a_7 : Exa Z h0 a2 "java/lang/String") (a_8 : Arv Z h0 a3 kc (.object "java/lang/Object") (10 : Int32) [(.ref a4), .null, .null, .null, .null, .null, .null, .null, .null, .null] .null) (ovr_a3 : Ovr Z kc "java/lang/Object") :
    MetFree l (⟨"java/util/ArrayList", "add", "(Ljava/lang/Object;)Z"⟩ : MethodName) (head1 (Jvm.Cond.code (⟨"java/util/ArrayList", "add", "(Ljava/lang/Object;)Z"⟩ : MethodName) jdk_38_method_25_code 2 (some .boolean) :: ws) ({ frames := 1, cells := 0, slots := 0, locals := 15 } : Room)) (fun a U => a = #[(.ref a1), (.ref a2)] ∧ Z.Warmed39 U.vm ∧ U.heap = h0) (fun _ _ _ _ _ => True) (fun _ U o U' => ∃ v L, o = .returned v ∧ Q_addB Z wCS wDE kDE a1 a2 a3 a4 kc h0 n0 v U'.heap L ∧ FrameEnd U o U' L ({ frames := 1, cells := 0, slots := 0, locals := 15 } : Room).cells ({ frames := 1, cells := 0, slots := 0, locals := 15 } : Room).slots) := by
  refine MetFree.of_bodySF (plainFor_of_name pn_5) hisR ?_
  intro p e s m args below meth c s₁ Bd hml0 hP hK
  obtain ⟨rfl, hZ, hh⟩ := hP
  have hx := Bd.exec
  have hby := Bd.bytes
  have hml : c.maxLocals = 2 := hml0
  have hown : s.vm.findClass "java/util/ArrayList" = some m.cls := findClass_of_methodNamed Bd.named
  have hnm := (name_of_methodNamed Bd.named Bd.method).1
  have X0 : Stand p l e ({ frames := 1, cells := 0, slots := 0, locals := 15 } : Room) s m #[(.ref a1), (.ref a2)] below meth c s₁ [] 0 0 := Stand.of_body Bd
  have e0 : s₁.heap = h0 := by rw [← hh, Bd.state]; rfl
  have N0 := Fr.nil n0
  obtain ⟨S_CS, hCS, S_DE, V_DE⟩ := id G
  have k0 : Way p e below (s₁.setTop (entryFrame m #[(.ref a1), (.ref a2)] 2)) s₁ (mkF m 0 #[rv a1, rv a2] []) := fun t k => castTop (by first | (simp [entryFrame, mkF, argsToLocals, Value.category]; done) | rfl) k
  generalize s₁.setTop (entryFrame m #[(.ref a1), (.ref a2)] 2) = S0 at k0 ⊢
  have k1 : Way p e below S0 s₁ (mkF m 2 #[rv a1, rv a2] [(.ref a1), (.ref a1)]) := by
    intro t k
    refine k0 t ?_
    refine XS.aloadN X0.here hx rfl (hb hby d_jdk_38_method_25_code_0) rfl rfl ?_
    show Steps p.tables e below (s₁.setTop (mkF m 1 #[rv a1, rv a2] [(.ref a1)])) _
    refine XS.dup X0.here hx rfl (hb hby d_jdk_38_method_25_code_1) rfl rfl ?_
    show Steps p.tables e below (s₁.setTop (mkF m 2 #[rv a1, rv a2] [(.ref a1), (.ref a1)])) _
    exact k
  obtain ⟨T2, X2, e2, st2⟩ := getF X0 hx hZ hown (host := "") (Or.inl (hw _ (List.mem_of_getElem? (i := 111) rfl))) (Via.of (hw _ (List.mem_of_getElem? (i := 112) rfl))) e0 a_1 (g := (mkF m 2 #[rv a1, rv a2] [(.ref a1), (.ref a1)])) rfl rfl (hb hby d_jdk_38_method_25_code_2)
  have k3 : Way p e below S0 T2 (mkF m 5 #[rv a1, rv a2] [(.int (1 : Int32)), (.ref a1)]) := fun t k => k1 t (st2 _ k)
  have k4 : Way p e below S0 T2 (mkF m 7 #[rv a1, rv a2] [(.int (2 : Int32)), (.ref a1)]) := by
    intro t k
    refine k3 t ?_
    refine XS.iconst X2.here hx rfl (hb hby d_jdk_38_method_25_code_5) ?_
    show Steps p.tables e below (T2.setTop (mkF m 6 #[rv a1, rv a2] [(.int (1 : Int32)), (.int (1 : Int32)), (.ref a1)])) _
    refine XS.iadd X2.here hx rfl (hb hby d_jdk_38_method_25_code_6) rfl ?_
    show Steps p.tables e below (T2.setTop (mkF m 7 #[rv a1, rv a2] [(.int (2 : Int32)), (.ref a1)])) _
    exact k
  obtain ⟨T5, h5, X5, e5, W5, st5⟩ := putF X2 hx hZ hown (host := "") (Or.inl (hw _ (List.mem_of_getElem? (i := 111) rfl))) (Via.of (hw _ (List.mem_of_getElem? (i := 112) rfl))) e2 a_1 a_0 (Or.inl (hw _ (List.mem_of_getElem? (i := 64) rfl))) (hw _ (List.mem_of_getElem? (i := 45) rfl)) (ty := .int) (by decide) rfl rfl (g := (mkF m 7 #[rv a1, rv a2] [(.int (2 : Int32)), (.ref a1)])) rfl rfl (hb hby d_jdk_38_method_25_code_7)
  have O5 := O0.wr W5 ga1
  have N5 := Fr.snoc X5 N0 ga1
  have K5 : Keep h0 h5 [a1, a3] := (Keep.refl h0 [a1, a3]).wr W5 (Or.inl (List.mem_of_getElem? (i := 0) rfl))
  have fw5 : Fld Z h5 a1 "java/util/AbstractList" "modCount" "I" (.int (2 : Int32)) := a_1.same W5
  have k6 : Way p e below S0 T5 (mkF m 10 #[rv a1, rv a2] []) := fun t k => k4 t (st5 _ k)
  have k7 : Way p e below S0 T5 (mkF m 13 #[rv a1, rv a2] [(.ref a1), (.ref a2), (.ref a1)]) := by
    intro t k
    refine k6 t ?_
    refine XS.aloadN X5.here hx rfl (hb hby d_jdk_38_method_25_code_10) rfl rfl ?_
    show Steps p.tables e below (T5.setTop (mkF m 11 #[rv a1, rv a2] [(.ref a1)])) _
    refine XS.aloadN X5.here hx rfl (hb hby d_jdk_38_method_25_code_11) rfl rfl ?_
    show Steps p.tables e below (T5.setTop (mkF m 12 #[rv a1, rv a2] [(.ref a2), (.ref a1)])) _
    refine XS.aloadN X5.here hx rfl (hb hby d_jdk_38_method_25_code_12) rfl rfl ?_
    show Steps p.tables e below (T5.setTop (mkF m 13 #[rv a1, rv a2] [(.ref a1), (.ref a2), (.ref a1)])) _
    exact k
  have f8 : Fld Z h5 a1 "java/util/ArrayList" "elementData" "[Ljava/lang/Object;" (.ref a3) := (a_2.other W5 (Or.inr (slot_ne (Or.inl (hw _ (List.mem_of_getElem? (i := 67) rfl))) (Or.inl (hw _ (List.mem_of_getElem? (i := 64) rfl))) (by decide) (t := (.array (.object "java/lang/Object"))) (t' := .int) (by decide) (by decide))))
  obtain ⟨T9, X9, e9, st9⟩ := getF X5 hx hZ hown (host := "") (Or.inl (hw _ (List.mem_of_getElem? (i := 66) rfl))) Via.refl e5 f8 (g := (mkF m 13 #[rv a1, rv a2] [(.ref a1), (.ref a2), (.ref a1)])) rfl rfl (hb hby d_jdk_38_method_25_code_13)
  have k10 : Way p e below S0 T9 (mkF m 16 #[rv a1, rv a2] [(.ref a3), (.ref a2), (.ref a1)]) := fun t k => k7 t (st9 _ k)
  have k11 : Way p e below S0 T9 (mkF m 17 #[rv a1, rv a2] [(.ref a1), (.ref a3), (.ref a2), (.ref a1)]) := by
    intro t k
    refine k10 t ?_
    refine XS.aloadN X9.here hx rfl (hb hby d_jdk_38_method_25_code_16) rfl rfl ?_
    show Steps p.tables e below (T9.setTop (mkF m 17 #[rv a1, rv a2] [(.ref a1), (.ref a3), (.ref a2), (.ref a1)])) _
    exact k
  have f12 : Fld Z h5 a1 "java/util/ArrayList" "size" "I" (.int (1 : Int32)) := (a_3.other W5 (Or.inr (slot_ne (Or.inl (hw _ (List.mem_of_getElem? (i := 114) rfl))) (Or.inl (hw _ (List.mem_of_getElem? (i := 64) rfl))) (by decide) (t := .int) (t' := .int) (by decide) (by decide))))
  obtain ⟨T13, X13, e13, st13⟩ := getF X9 hx hZ hown (host := "") (Or.inl (hw _ (List.mem_of_getElem? (i := 113) rfl))) Via.refl e9 f12 (g := (mkF m 17 #[rv a1, rv a2] [(.ref a1), (.ref a3), (.ref a2), (.ref a1)])) rfl rfl (hb hby d_jdk_38_method_25_code_17)
  have k14 : Way p e below S0 T13 (mkF m 20 #[rv a1, rv a2] [(.int (1 : Int32)), (.ref a3), (.ref a2), (.ref a1)]) := fun t k => k11 t (st13 _ k)
  have f15 : Exa Z h5 a1 "java/util/ArrayList" := (a_0.wr W5)
  have f16 : Exa Z h5 a2 "java/lang/String" := (a_7.wr W5)
  have f17 : Arv Z h5 a3 kc (.object "java/lang/Object") (10 : Int32) [(.ref a4), .null, .null, .null, .null, .null, .null, .null, .null, .null] .null := (a_8.other W5 (Ne.symm hne))
  obtain ⟨cq18, qv18, qv18'⟩ := f15.cell
  obtain ⟨_, _, ⟨T18, L18, kk18, nn18⟩, -, X18, ⟨Lc18, hQ18, l18, y18, z18⟩, st18⟩ := X13.privateBack hx (y := (⟨"java/util/ArrayList", "add", "(Ljava/lang/Object;[Ljava/lang/Object;I)V"⟩ : MethodName)) hown (mvT hZ (hw _ (List.mem_of_getElem? (i := 115) rfl))) (mvT hZ (hw _ (List.mem_of_getElem? (i := 116) rfl))) (mvT hZ (hw _ (List.mem_of_getElem? (i := 118) rfl))) (Cond.privateMethod_at (mvP hZ (hw _ (List.mem_of_getElem? (i := 117) rfl)) (args := #[]))) (mvT hZ (hw _ (List.mem_of_getElem? (i := 119) rfl))) (by decide) (backOf (W := 0) (add3B l Z a0 hw [] wCS wDE kDE G a1 a2 a3 a4 kc (2 : Int32) h5 n0 O5 (f15 : Exa Z h5 a1 "java/util/ArrayList") (fw5 : Fld Z h5 a1 "java/util/AbstractList" "modCount" "I" (.int (2 : Int32))) (f8 : Fld Z h5 a1 "java/util/ArrayList" "elementData" "[Ljava/lang/Object;" (.ref a3)) (f12 : Fld Z h5 a1 "java/util/ArrayList" "size" "I" (.int (1 : Int32))) (ga1 : n0 ≤ a1) (ga3 : n0 ≤ a3) (hne : a1 ≠ a3) (f16 : Exa Z h5 a2 "java/lang/String") (f17 : Arv Z h5 a3 kc (.object "java/lang/Object") (10 : Int32) [(.ref a4), .null, .null, .null, .null, .null, .null, .null, .null, .null] .null) (ovr_a3 : Ovr Z kc "java/lang/Object")) hZ (hw _ (List.mem_of_getElem? (i := 119) rfl)) (hw _ (List.mem_of_getElem? (i := 46) rfl)) (by decide) (by decide)) (g := (mkF m 20 #[rv a1, rv a2] [(.int (1 : Int32)), (.ref a3), (.ref a2), (.ref a1)])) rfl (by rw [hml]; rfl) (Steps.refl _) (a := a1) (by rw [e13]; exact qv18) qv18' (argsL := [(.ref a2), (.ref a3), (.int (1 : Int32))]) (rest := []) (lenOf pd_11 rfl) rfl (by show 2 * 0 + _ ≤ _; exact Nat.le_of_eq rfl) (hb hby d_jdk_38_method_25_code_20) (fun _ _ => ⟨rfl, e13, (by decide : 0 + 0 ≤ _), (by decide : 0 + 0 ≤ _)⟩)
  dsimp only [Pt.U, Pt.locs, Pt.cells, Pt.slots] at X18 l18 y18 z18 st18 hQ18
  subst l18 y18 z18
  obtain ⟨rfl, Nq18, Kq18, po18_0⟩ := hQ18
  have N18 := Fr.app N5 Nq18
  have O18 := O5.keep Kq18 (allS ga1 (allS ga3 all0))
  have K18 : Keep h0 T18.heap [a1, a3] := K5.trans Kq18 (allS (Or.inl (List.mem_of_getElem? (i := 0) rfl)) (allS (Or.inl (List.mem_of_getElem? (i := 1) rfl)) all0))
  have k19 : Way p e below S0 T18 (mkF m 23 #[rv a1, rv a2] []) := fun t k => k14 t (st18.trans k)
  have k20 : Way p e below S0 T18 (mkF m 24 #[rv a1, rv a2] [(.int (1 : Int32))]) := by
    intro t k
    refine k19 t ?_
    refine XS.iconst X18.here hx rfl (hb hby d_jdk_38_method_25_code_23) ?_
    show Steps p.tables e below (T18.setTop (mkF m 24 #[rv a1, rv a2] [(.int (1 : Int32))])) _
    exact k
  obtain ⟨fs, hr, hrun, hended, hW, hsame⟩ := X18.leave (v := some (.int (1 : Int32))) (fun h => by rw [Bd.returns] at h; cases h)
  refine ⟨_, _, k20 _ (retN X18 hx (t := .boolean) Bd.returns (by simp) (hb hby d_jdk_38_method_25_code_24) hr), hrun, hended, _, _, rfl, ?_, ⟨_, rfl⟩, hW, hsame.mono (by decide) (by decide)⟩
  show Q_addB Z wCS wDE kDE a1 a2 a3 a4 kc h0 n0 _ T18.heap _
  exact ⟨rfl, N18, K18, po18_0⟩
def Q_locInit (Z : State) (wCS : Int32) (wDE : Addr) (kDE : ClassId) (a1 : Addr) (a2 : Addr) (p3 : Int32) (p4 : Int32) (h0 : Heap) (n0 : Nat) (v : Option Value) (h : Heap) (L : List Loc) : Prop := (v = none) ∧ (Fr n0 L) ∧ (Keep h0 h [a1]) ∧ (Exa Z h a1 "com/example/stubwright/stubwright/idl/Location")
set_option maxRecDepth 65536 in
set_option maxHeartbeats 40000000 in
theorem locInit (l : Launch) (Z : State) (a0 : Array Value) (hw : ∀ d ∈ tables_1, d.before a0 Z = true) (ws : List Jvm.Cond) (wCS : Int32) (wDE : Addr) (kDE : ClassId) (G : Gst Z wCS wDE kDE) (a1 : Addr) (a2 : Addr) (p3 : Int32) (p4 : Int32) (h0 : Heap) (n0 : Nat) (O0 : Old Z n0 h0) (a_0 : Exa Z h0 a1 "com/example/stubwright/stubwright/idl/Location") (a_1 : Fld Z h0 a1 "com/example/stubwright/stubwright/idl/Location" "file" "Ljava/lang/String;" .null) (a_2 : Fld Z h0 a1 "com/example/stubwright/stubwright/idl/Location" "line" "I" (.int (0 : Int32))) (a_3 : Fld Z h0 a1 "com/example/stubwright/stubwright/idl/Location" "column" "I" (.int (0 : Int32))) (ga1 : n0 ≤ a1) :
    MetFree l (⟨"com/example/stubwright/stubwright/idl/Location", "<init>", "(Ljava/lang/String;II)V"⟩ : MethodName) (head1 (Jvm.Cond.code (⟨"com/example/stubwright/stubwright/idl/Location", "<init>", "(Ljava/lang/String;II)V"⟩ : MethodName) prog_54_method_1_code 4 none :: ws) ({ frames := 2, cells := 0, slots := 0, locals := 24 } : Room)) (fun a U => a = #[(.ref a1), (.ref a2), (.int p3), (.int p4)] ∧ Z.Warmed39 U.vm ∧ U.heap = h0) (fun _ _ _ _ _ => True) (fun _ U o U' => ∃ v L, o = .returned v ∧ Q_locInit Z wCS wDE kDE a1 a2 p3 p4 h0 n0 v U'.heap L ∧ FrameEnd U o U' L ({ frames := 2, cells := 0, slots := 0, locals := 24 } : Room).cells ({ frames := 2, cells := 0, slots := 0, locals := 24 } : Room).slots) := by
  refine MetFree.of_bodySF (plainFor_of_name pn_7) hisR ?_
  intro p e s m args below meth c s₁ Bd hml0 hP hK
  obtain ⟨rfl, hZ, hh⟩ := hP
  have hx := Bd.exec
  have hby := Bd.bytes
  have hml : c.maxLocals = 4 := hml0
  have hown : s.vm.findClass "com/example/stubwright/stubwright/idl/Location" = some m.cls := findClass_of_methodNamed Bd.named
  have hnm := (name_of_methodNamed Bd.named Bd.method).1
  have X0 : Stand p l e ({ frames := 2, cells := 0, slots := 0, locals := 24 } : Room) s m #[(.ref a1), (.ref a2), (.int p3), (.int p4)] below meth c s₁ [] 0 0 := Stand.of_body Bd
  have e0 : s₁.heap = h0 := by rw [← hh, Bd.state]; rfl
  have N0 := Fr.nil n0
  obtain ⟨S_CS, hCS, S_DE, V_DE⟩ := id G
  have k0 : Way p e below (s₁.setTop (entryFrame m #[(.ref a1), (.ref a2), (.int p3), (.int p4)] 4)) s₁ (mkF m 0 #[rv a1, rv a2, iv p3, iv p4] []) := fun t k => castTop (by first | (simp [entryFrame, mkF, argsToLocals, Value.category]; done) | rfl) k
  generalize s₁.setTop (entryFrame m #[(.ref a1), (.ref a2), (.int p3), (.int p4)] 4) = S0 at k0 ⊢
  have k1 : Way p e below S0 s₁ (mkF m 1 #[rv a1, rv a2, iv p3, iv p4] [(.ref a1)]) := by
    intro t k
    refine k0 t ?_
    refine XS.aloadN X0.here hx rfl (hb hby d_prog_54_method_1_code_0) rfl rfl ?_
    show Steps p.tables e below (s₁.setTop (mkF m 1 #[rv a1, rv a2, iv p3, iv p4] [(.ref a1)])) _
    exact k
  obtain ⟨_, _, ⟨T2, L2, kk2, nn2⟩, -, X2, ⟨Lc2, hQ2, l2, y2, z2⟩, st2⟩ := X0.specialBack hx (y := (⟨"java/lang/Record", "<init>", "()V"⟩ : MethodName)) rfl hown (mvT hZ (hw _ (List.mem_of_getElem? (i := 77) rfl))) (mvT hZ (hw _ (List.mem_of_getElem? (i := 78) rfl))) (mvT hZ (hw _ (List.mem_of_getElem? (i := 81) rfl))) (by decide) (backOf (W := 0) (recInit l Z a0 hw [] wCS wDE kDE G a1 h0 n0 O0 ) hZ (hw _ (List.mem_of_getElem? (i := 81) rfl)) (hw _ (List.mem_of_getElem? (i := 80) rfl)) (by decide) (by decide)) (g := (mkF m 1 #[rv a1, rv a2, iv p3, iv p4] [(.ref a1)])) rfl (by rw [hml]; rfl) (Steps.refl _) (a := a1) (argsL := []) (rest := []) (lenOf pd_7 rfl) rfl (by show 2 * 0 + _ ≤ _; exact Nat.le_of_eq rfl) (hb hby d_prog_54_method_1_code_1) (fun _ _ => ⟨rfl, e0, (by decide : 0 + 0 ≤ _), (by decide : 0 + 0 ≤ _)⟩)
  dsimp only [Pt.U, Pt.locs, Pt.cells, Pt.slots] at X2 l2 y2 z2 st2 hQ2
  subst l2 y2 z2
  obtain ⟨rfl, Nq2, e2⟩ := hQ2
  have N2 := Fr.app N0 Nq2
  have k3 : Way p e below S0 T2 (mkF m 4 #[rv a1, rv a2, iv p3, iv p4] []) := fun t k => k1 t (st2.trans k)
  have k4 : Way p e below S0 T2 (mkF m 6 #[rv a1, rv a2, iv p3, iv p4] [(.ref a2), (.ref a1)]) := by
    intro t k
    refine k3 t ?_
    refine XS.aloadN X2.here hx rfl (hb hby d_prog_54_method_1_code_4) rfl rfl ?_
    show Steps p.tables e below (T2.setTop (mkF m 5 #[rv a1, rv a2, iv p3, iv p4] [(.ref a1)])) _
    refine XS.aloadN X2.here hx rfl (hb hby d_prog_54_method_1_code_5) rfl rfl ?_
    show Steps p.tables e below (T2.setTop (mkF m 6 #[rv a1, rv a2, iv p3, iv p4] [(.ref a2), (.ref a1)])) _
    exact k
  obtain ⟨T5, h5, X5, e5, W5, st5⟩ := putF X2 hx hZ hown (host := "") (Or.inl (hw _ (List.mem_of_getElem? (i := 83) rfl))) Via.refl e2 a_1 a_0 (Or.inr ⟨(hw _ (List.mem_of_getElem? (i := 84) rfl)), rfl, hnm⟩) (hw _ (List.mem_of_getElem? (i := 72) rfl)) (ty := (.object "java/lang/String")) (by decide) rfl rfl (g := (mkF m 6 #[rv a1, rv a2, iv p3, iv p4] [(.ref a2), (.ref a1)])) rfl rfl (hb hby d_prog_54_method_1_code_6)
  have O5 := O0.wr W5 ga1
  have N5 := Fr.snoc X5 N2 ga1
  have K5 : Keep h0 h5 [a1] := (Keep.refl h0 [a1]).wr W5 (Or.inl (List.mem_of_getElem? (i := 0) rfl))
  have fw5 : Fld Z h5 a1 "com/example/stubwright/stubwright/idl/Location" "file" "Ljava/lang/String;" (.ref a2) := a_1.same W5
  have k6 : Way p e below S0 T5 (mkF m 9 #[rv a1, rv a2, iv p3, iv p4] []) := fun t k => k4 t (st5 _ k)
  have k7 : Way p e below S0 T5 (mkF m 11 #[rv a1, rv a2, iv p3, iv p4] [(.int p3), (.ref a1)]) := by
    intro t k
    refine k6 t ?_
    refine XS.aloadN X5.here hx rfl (hb hby d_prog_54_method_1_code_9) rfl rfl ?_
    show Steps p.tables e below (T5.setTop (mkF m 10 #[rv a1, rv a2, iv p3, iv p4] [(.ref a1)])) _
    refine XS.iloadN X5.here hx rfl (hb hby d_prog_54_method_1_code_10) rfl ?_
    show Steps p.tables e below (T5.setTop (mkF m 11 #[rv a1, rv a2, iv p3, iv p4] [(.int p3), (.ref a1)])) _
    exact k
  have f8 : Fld Z h5 a1 "com/example/stubwright/stubwright/idl/Location" "line" "I" (.int (0 : Int32)) := (a_2.other W5 (Or.inr (slot_ne (Or.inr (hw _ (List.mem_of_getElem? (i := 86) rfl))) (Or.inr (hw _ (List.mem_of_getElem? (i := 84) rfl))) (by decide) (t := .int) (t' := (.object "java/lang/String")) (by decide) (by decide))))
  have f9 : Exa Z h5 a1 "com/example/stubwright/stubwright/idl/Location" := (a_0.wr W5)
  obtain ⟨T10, h10, X10, e10, W10, st10⟩ := putF X5 hx hZ hown (host := "") (Or.inl (hw _ (List.mem_of_getElem? (i := 85) rfl))) Via.refl e5 f8 f9 (Or.inr ⟨(hw _ (List.mem_of_getElem? (i := 86) rfl)), rfl, hnm⟩) (hw _ (List.mem_of_getElem? (i := 72) rfl)) (ty := .int) (by decide) rfl rfl (g := (mkF m 11 #[rv a1, rv a2, iv p3, iv p4] [(.int p3), (.ref a1)])) rfl rfl (hb hby d_prog_54_method_1_code_11)
  have O10 := O5.wr W10 ga1
  have N10 := Fr.snoc X10 N5 ga1
  have K10 : Keep h0 h10 [a1] := K5.wr W10 (Or.inl (List.mem_of_getElem? (i := 0) rfl))
  have fw10 : Fld Z h10 a1 "com/example/stubwright/stubwright/idl/Location" "line" "I" (.int p3) := f8.same W10
  have k11 : Way p e below S0 T10 (mkF m 14 #[rv a1, rv a2, iv p3, iv p4] []) := fun t k => k7 t (st10 _ k)
  have k12 : Way p e below S0 T10 (mkF m 16 #[rv a1, rv a2, iv p3, iv p4] [(.int p4), (.ref a1)]) := by
    intro t k
    refine k11 t ?_
    refine XS.aloadN X10.here hx rfl (hb hby d_prog_54_method_1_code_14) rfl rfl ?_
    show Steps p.tables e below (T10.setTop (mkF m 15 #[rv a1, rv a2, iv p3, iv p4] [(.ref a1)])) _
    refine XS.iloadN X10.here hx rfl (hb hby d_prog_54_method_1_code_15) rfl ?_
    show Steps p.tables e below (T10.setTop (mkF m 16 #[rv a1, rv a2, iv p3, iv p4] [(.int p4), (.ref a1)])) _
    exact k
  have f13 : Fld Z h10 a1 "com/example/stubwright/stubwright/idl/Location" "column" "I" (.int (0 : Int32)) := ((a_3.other W5 (Or.inr (slot_ne (Or.inr (hw _ (List.mem_of_getElem? (i := 88) rfl))) (Or.inr (hw _ (List.mem_of_getElem? (i := 84) rfl))) (by decide) (t := .int) (t' := (.object "java/lang/String")) (by decide) (by decide)))).other W10 (Or.inr (slot_ne (Or.inr (hw _ (List.mem_of_getElem? (i := 88) rfl))) (Or.inr (hw _ (List.mem_of_getElem? (i := 86) rfl))) (by decide) (t := .int) (t' := .int) (by decide) (by decide))))
  have f14 : Exa Z h10 a1 "com/example/stubwright/stubwright/idl/Location" := (f9.wr W10)
  obtain ⟨T15, h15, X15, e15, W15, st15⟩ := putF X10 hx hZ hown (host := "") (Or.inl (hw _ (List.mem_of_getElem? (i := 87) rfl))) Via.refl e10 f13 f14 (Or.inr ⟨(hw _ (List.mem_of_getElem? (i := 88) rfl)), rfl, hnm⟩) (hw _ (List.mem_of_getElem? (i := 72) rfl)) (ty := .int) (by decide) rfl rfl (g := (mkF m 16 #[rv a1, rv a2, iv p3, iv p4] [(.int p4), (.ref a1)])) rfl rfl (hb hby d_prog_54_method_1_code_16)
  have O15 := O10.wr W15 ga1
  have N15 := Fr.snoc X15 N10 ga1
  have K15 : Keep h0 h15 [a1] := K10.wr W15 (Or.inl (List.mem_of_getElem? (i := 0) rfl))
  have fw15 : Fld Z h15 a1 "com/example/stubwright/stubwright/idl/Location" "column" "I" (.int p4) := f13.same W15
  have k16 : Way p e below S0 T15 (mkF m 19 #[rv a1, rv a2, iv p3, iv p4] []) := fun t k => k12 t (st15 _ k)
  obtain ⟨fs, hr, hrun, hended, hW, hsame⟩ := X15.leave (v := none) (fun _ => rfl)
  have f17 : Exa Z h15 a1 "com/example/stubwright/stubwright/idl/Location" := (f14.wr W15)
  refine ⟨_, _, k16 _ (X15.returnOut hx Bd.returns (hb hby d_prog_54_method_1_code_19) hr), hrun, hended, _, _, rfl, ?_, ⟨_, rfl⟩, hW, hsame.mono (by decide) (by decide)⟩
  show Q_locInit Z wCS wDE kDE a1 a2 p3 p4 h0 n0 _ T15.heap _
  rw [e15]
  exact ⟨rfl, N15, K15, f17⟩
def Q_macInit0 (Z : State) (wCS : Int32) (wDE : Addr) (kDE : ClassId) (a1 : Addr) (a2 : Addr) (a4 : Addr) (a5 : Addr) (h0 : Heap) (n0 : Nat) (v : Option Value) (h : Heap) (L : List Loc) : Prop := (v = none) ∧ (Fr n0 L) ∧ (Keep h0 h [a1]) ∧ (Exa Z h a1 "com/example/stubwright/stubwright/idl/Macros$Macro") ∧ (Fld Z h a1 "com/example/stubwright/stubwright/idl/Macros$Macro" "parameters" "Ljava/util/List;" .null)
set_option maxRecDepth 65536 in
set_option maxHeartbeats 40000000 in
theorem macInit0 (l : Launch) (Z : State) (a0 : Array Value) (hw : ∀ d ∈ tables_1, d.before a0 Z = true) (ws : List Jvm.Cond) (wCS : Int32) (wDE : Addr) (kDE : ClassId) (G : Gst Z wCS wDE kDE) (a1 : Addr) (a2 : Addr) (a4 : Addr) (a5 : Addr) (h0 : Heap) (n0 : Nat) (O0 : Old Z n0 h0) (a_0 : Exa Z h0 a1 "com/example/stubwright/stubwright/idl/Macros$Macro") (a_1 : Fld Z h0 a1 "com/example/stubwright/stubwright/idl/Macros$Macro" "name" "Ljava/lang/String;" .null) (a_2 : Fld Z h0 a1 "com/example/stubwright/stubwright/idl/Macros$Macro" "parameters" "Ljava/util/List;" .null) (a_3 : Fld Z h0 a1 "com/example/stubwright/stubwright/idl/Macros$Macro" "body" "Ljava/util/List;" .null) (a_4 : Fld Z h0 a1 "com/example/stubwright/stubwright/idl/Macros$Macro" "location" "Lcom/example/stubwright/stubwright/idl/Location;" .null) (ga1 : n0 ≤ a1) :
    MetFree l (⟨"com/example/stubwright/stubwright/idl/Macros$Macro", "<init>", "(Ljava/lang/String;Ljava/util/List;Ljava/util/List;Lcom/example/stubwright/stubwright/idl/Location;)V"⟩ : MethodName) (head1 (Jvm.Cond.code (⟨"com/example/stubwright/stubwright/idl/Macros$Macro", "<init>", "(Ljava/lang/String;Ljava/util/List;Ljava/util/List;Lcom/example/stubwright/stubwright/idl/Location;)V"⟩ : MethodName) prog_59_method_1_code 5 none :: ws) ({ frames := 2, cells := 0, slots := 0, locals := 24 } : Room)) (fun a U => a = #[(.ref a1), (.ref a2), .null, (.ref a4), (.ref a5)] ∧ Z.Warmed39 U.vm ∧ U.heap = h0) (fun _ _ _ _ _ => True) (fun _ U o U' => ∃ v L, o = .returned v ∧ Q_macInit0 Z wCS wDE kDE a1 a2 a4 a5 h0 n0 v U'.heap L ∧ FrameEnd U o U' L ({ frames := 2, cells := 0, slots := 0, locals := 24 } : Room).cells ({ frames := 2, cells := 0, slots := 0, locals := 24 } : Room).slots) := by
  refine MetFree.of_bodySF (plainFor_of_name pn_8) hisR ?_
  intro p e s m args below meth c s₁ Bd hml0 hP hK
  obtain ⟨rfl, hZ, hh⟩ := hP
  have hx := Bd.exec
  have hby := Bd.bytes
  have hml : c.maxLocals = 5 := hml0
  have hown : s.vm.findClass "com/example/stubwright/stubwright/idl/Macros$Macro" = some m.cls := findClass_of_methodNamed Bd.named
  have hnm := (name_of_methodNamed Bd.named Bd.method).1
  have X0 : Stand p l e ({ frames := 2, cells := 0, slots := 0, locals := 24 } : Room) s m #[(.ref a1), (.ref a2), .null, (.ref a4), (.ref a5)] below meth c s₁ [] 0 0 := Stand.of_body Bd
  have e0 : s₁.heap = h0 := by rw [← hh, Bd.state]; rfl
  have N0 := Fr.nil n0
  obtain ⟨S_CS, hCS, S_DE, V_DE⟩ := id G
  have k0 : Way p e below (s₁.setTop (entryFrame m #[(.ref a1), (.ref a2), .null, (.ref a4), (.ref a5)] 5)) s₁ (mkF m 0 #[rv a1, rv a2, .val .null, rv a4, rv a5] []) := fun t k => castTop (by first | (simp [entryFrame, mkF, argsToLocals, Value.category]; done) | rfl) k
  generalize s₁.setTop (entryFrame m #[(.ref a1), (.ref a2), .null, (.ref a4), (.ref a5)] 5) = S0 at k0 ⊢
  have k1 : Way p e below S0 s₁ (mkF m 1 #[rv a1, rv a2, .val .null, rv a4, rv a5] [(.ref a1)]) := by
    intro t k
    refine k0 t ?_
    refine XS.aloadN X0.here hx rfl (hb hby d_prog_59_method_1_code_0) rfl rfl ?_
    show Steps p.tables e below (s₁.setTop (mkF m 1 #[rv a1, rv a2, .val .null, rv a4, rv a5] [(.ref a1)])) _
    exact k
  obtain ⟨_, _, ⟨T2, L2, kk2, nn2⟩, -, X2, ⟨Lc2, hQ2, l2, y2, z2⟩, st2⟩ := X0.specialBack hx (y := (⟨"java/lang/Record", "<init>", "()V"⟩ : MethodName)) rfl hown (mvT hZ (hw _ (List.mem_of_getElem? (i := 92) rfl))) (mvT hZ (hw _ (List.mem_of_getElem? (i := 78) rfl))) (mvT hZ (hw _ (List.mem_of_getElem? (i := 81) rfl))) (by decide) (backOf (W := 0) (recInit l Z a0 hw [] wCS wDE kDE G a1 h0 n0 O0 ) hZ (hw _ (List.mem_of_getElem? (i := 81) rfl)) (hw _ (List.mem_of_getElem? (i := 80) rfl)) (by decide) (by decide)) (g := (mkF m 1 #[rv a1, rv a2, .val .null, rv a4, rv a5] [(.ref a1)])) rfl (by rw [hml]; rfl) (Steps.refl _) (a := a1) (argsL := []) (rest := []) (lenOf pd_7 rfl) rfl (by show 2 * 0 + _ ≤ _; exact Nat.le_of_eq rfl) (hb hby d_prog_59_method_1_code_1) (fun _ _ => ⟨rfl, e0, (by decide : 0 + 0 ≤ _), (by decide : 0 + 0 ≤ _)⟩)
  dsimp only [Pt.U, Pt.locs, Pt.cells, Pt.slots] at X2 l2 y2 z2 st2 hQ2
  subst l2 y2 z2
  obtain ⟨rfl, Nq2, e2⟩ := hQ2
  have N2 := Fr.app N0 Nq2
  have k3 : Way p e below S0 T2 (mkF m 4 #[rv a1, rv a2, .val .null, rv a4, rv a5] []) := fun t k => k1 t (st2.trans k)
  have k4 : Way p e below S0 T2 (mkF m 6 #[rv a1, rv a2, .val .null, rv a4, rv a5] [(.ref a2), (.ref a1)]) := by
    intro t k
    refine k3 t ?_
    refine XS.aloadN X2.here hx rfl (hb hby d_prog_59_method_1_code_4) rfl rfl ?_
    show Steps p.tables e below (T2.setTop (mkF m 5 #[rv a1, rv a2, .val .null, rv a4, rv a5] [(.ref a1)])) _
    refine XS.aloadN X2.here hx rfl (hb hby d_prog_59_method_1_code_5) rfl rfl ?_
    show Steps p.tables e below (T2.setTop (mkF m 6 #[rv a1, rv a2, .val .null, rv a4, rv a5] [(.ref a2), (.ref a1)])) _
    exact k
  obtain ⟨T5, h5, X5, e5, W5, st5⟩ := putF X2 hx hZ hown (host := "") (Or.inl (hw _ (List.mem_of_getElem? (i := 93) rfl))) Via.refl e2 a_1 a_0 (Or.inr ⟨(hw _ (List.mem_of_getElem? (i := 94) rfl)), rfl, hnm⟩) (hw _ (List.mem_of_getElem? (i := 69) rfl)) (ty := (.object "java/lang/String")) (by decide) rfl rfl (g := (mkF m 6 #[rv a1, rv a2, .val .null, rv a4, rv a5] [(.ref a2), (.ref a1)])) rfl rfl (hb hby d_prog_59_method_1_code_6)
  have O5 := O0.wr W5 ga1
  have N5 := Fr.snoc X5 N2 ga1
  have K5 : Keep h0 h5 [a1] := (Keep.refl h0 [a1]).wr W5 (Or.inl (List.mem_of_getElem? (i := 0) rfl))
  have fw5 : Fld Z h5 a1 "com/example/stubwright/stubwright/idl/Macros$Macro" "name" "Ljava/lang/String;" (.ref a2) := a_1.same W5
  have k6 : Way p e below S0 T5 (mkF m 9 #[rv a1, rv a2, .val .null, rv a4, rv a5] []) := fun t k => k4 t (st5 _ k)
  have k7 : Way p e below S0 T5 (mkF m 11 #[rv a1, rv a2, .val .null, rv a4, rv a5] [.null, (.ref a1)]) := by
    intro t k
    refine k6 t ?_
    refine XS.aloadN X5.here hx rfl (hb hby d_prog_59_method_1_code_9) rfl rfl ?_
    show Steps p.tables e below (T5.setTop (mkF m 10 #[rv a1, rv a2, .val .null, rv a4, rv a5] [(.ref a1)])) _
    refine XS.aloadN X5.here hx rfl (hb hby d_prog_59_method_1_code_10) rfl rfl ?_
    show Steps p.tables e below (T5.setTop (mkF m 11 #[rv a1, rv a2, .val .null, rv a4, rv a5] [.null, (.ref a1)])) _
    exact k
  have f8 : Fld Z h5 a1 "com/example/stubwright/stubwright/idl/Macros$Macro" "parameters" "Ljava/util/List;" .null := (a_2.other W5 (Or.inr (slot_ne (Or.inr (hw _ (List.mem_of_getElem? (i := 96) rfl))) (Or.inr (hw _ (List.mem_of_getElem? (i := 94) rfl))) (by decide) (t := (.object "java/util/List")) (t' := (.object "java/lang/String")) (by decide) (by decide))))
  have f9 : Exa Z h5 a1 "com/example/stubwright/stubwright/idl/Macros$Macro" := (a_0.wr W5)
  obtain ⟨T10, h10, X10, e10, W10, st10⟩ := putF X5 hx hZ hown (host := "") (Or.inl (hw _ (List.mem_of_getElem? (i := 95) rfl))) Via.refl e5 f8 f9 (Or.inr ⟨(hw _ (List.mem_of_getElem? (i := 96) rfl)), rfl, hnm⟩) (hw _ (List.mem_of_getElem? (i := 69) rfl)) (ty := (.object "java/util/List")) (by decide) rfl rfl (g := (mkF m 11 #[rv a1, rv a2, .val .null, rv a4, rv a5] [.null, (.ref a1)])) rfl rfl (hb hby d_prog_59_method_1_code_11)
  have O10 := O5.wr W10 ga1
  have N10 := Fr.snoc X10 N5 ga1
  have K10 : Keep h0 h10 [a1] := K5.wr W10 (Or.inl (List.mem_of_getElem? (i := 0) rfl))
  have fw10 : Fld Z h10 a1 "com/example/stubwright/stubwright/idl/Macros$Macro" "parameters" "Ljava/util/List;" .null := f8.same W10
  have k11 : Way p e below S0 T10 (mkF m 14 #[rv a1, rv a2, .val .null, rv a4, rv a5] []) := fun t k => k7 t (st10 _ k)
  have k12 : Way p e below S0 T10 (mkF m 16 #[rv a1, rv a2, .val .null, rv a4, rv a5] [(.ref a4), (.ref a1)]) := by
    intro t k
    refine k11 t ?_
    refine XS.aloadN X10.here hx rfl (hb hby d_prog_59_method_1_code_14) rfl rfl ?_
    show Steps p.tables e below (T10.setTop (mkF m 15 #[rv a1, rv a2, .val .null, rv a4, rv a5] [(.ref a1)])) _
    refine XS.aloadN X10.here hx rfl (hb hby d_prog_59_method_1_code_15) rfl rfl ?_
    show Steps p.tables e below (T10.setTop (mkF m 16 #[rv a1, rv a2, .val .null, rv a4, rv a5] [(.ref a4), (.ref a1)])) _
    exact k
  have f13 : Fld Z h10 a1 "com/example/stubwright/stubwright/idl/Macros$Macro" "body" "Ljava/util/List;" .null := ((a_3.other W5 (Or.inr (slot_ne (Or.inr (hw _ (List.mem_of_getElem? (i := 98) rfl))) (Or.inr (hw _ (List.mem_of_getElem? (i := 94) rfl))) (by decide) (t := (.object "java/util/List")) (t' := (.object "java/lang/String")) (by decide) (by decide)))).other W10 (Or.inr (slot_ne (Or.inr (hw _ (List.mem_of_getElem? (i := 98) rfl))) (Or.inr (hw _ (List.mem_of_getElem? (i := 96) rfl))) (by decide) (t := (.object "java/util/List")) (t' := (.object "java/util/List")) (by decide) (by decide))))
  have f14 : Exa Z h10 a1 "com/example/stubwright/stubwright/idl/Macros$Macro" := (f9.wr W10)
  obtain ⟨T15, h15, X15, e15, W15, st15⟩ := putF X10 hx hZ hown (host := "") (Or.inl (hw _ (List.mem_of_getElem? (i := 97) rfl))) Via.refl e10 f13 f14 (Or.inr ⟨(hw _ (List.mem_of_getElem? (i := 98) rfl)), rfl, hnm⟩) (hw _ (List.mem_of_getElem? (i := 69) rfl)) (ty := (.object "java/util/List")) (by decide) rfl rfl (g := (mkF m 16 #[rv a1, rv a2, .val .null, rv a4, rv a5] [(.ref a4), (.ref a1)])) rfl rfl (hb hby d_prog_59_method_1_code_16)
  have O15 := O10.wr W15 ga1
  have N15 := Fr.snoc X15 N10 ga1
  have K15 : Keep h0 h15 [a1] := K10.wr W15 (Or.inl (List.mem_of_getElem? (i := 0) rfl))
  have fw15 : Fld Z h15 a1 "com/example/stubwright/stubwright/idl/Macros$Macro" "body" "Ljava/util/List;" (.ref a4) := f13.same W15
  have k16 : Way p e below S0 T15 (mkF m 19 #[rv a1, rv a2, .val .null, rv a4, rv a5] []) := fun t k => k12 t (st15 _ k)
  have k17 : Way p e below S0 T15 (mkF m 22 #[rv a1, rv a2, .val .null, rv a4, rv a5] [(.ref a5), (.ref a1)]) := by
    intro t k
    refine k16 t ?_
    refine XS.aloadN X15.here hx rfl (hb hby d_prog_59_method_1_code_19) rfl rfl ?_
    show Steps p.tables e below (T15.setTop (mkF m 20 #[rv a1, rv a2, .val .null, rv a4, rv a5] [(.ref a1)])) _
    refine XS.aload X15.here hx rfl (hb hby d_prog_59_method_1_code_20) rfl rfl ?_
    show Steps p.tables e below (T15.setTop (mkF m 22 #[rv a1, rv a2, .val .null, rv a4, rv a5] [(.ref a5), (.ref a1)])) _
    exact k
  have f18 : Fld Z h15 a1 "com/example/stubwright/stubwright/idl/Macros$Macro" "location" "Lcom/example/stubwright/stubwright/idl/Location;" .null := (((a_4.other W5 (Or.inr (slot_ne (Or.inr (hw _ (List.mem_of_getElem? (i := 100) rfl))) (Or.inr (hw _ (List.mem_of_getElem? (i := 94) rfl))) (by decide) (t := (.object "com/example/stubwright/stubwright/idl/Location")) (t' := (.object "java/lang/String")) (by decide) (by decide)))).other W10 (Or.inr (slot_ne (Or.inr (hw _ (List.mem_of_getElem? (i := 100) rfl))) (Or.inr (hw _ (List.mem_of_getElem? (i := 96) rfl))) (by decide) (t := (.object "com/example/stubwright/stubwright/idl/Location")) (t' := (.object "java/util/List")) (by decide) (by decide)))).other W15 (Or.inr (slot_ne (Or.inr (hw _ (List.mem_of_getElem? (i := 100) rfl))) (Or.inr (hw _ (List.mem_of_getElem? (i := 98) rfl))) (by decide) (t := (.object "com/example/stubwright/stubwright/idl/Location")) (t' := (.object "java/util/List")) (by decide) (by decide))))
  have f19 : Exa Z h15 a1 "com/example/stubwright/stubwright/idl/Macros$Macro" := (f14.wr W15)
  obtain ⟨T20, h20, X20, e20, W20, st20⟩ := putF X15 hx hZ hown (host := "") (Or.inl (hw _ (List.mem_of_getElem? (i := 99) rfl))) Via.refl e15 f18 f19 (Or.inr ⟨(hw _ (List.mem_of_getElem? (i := 100) rfl)), rfl, hnm⟩) (hw _ (List.mem_of_getElem? (i := 69) rfl)) (ty := (.object "com/example/stubwright/stubwright/idl/Location")) (by decide) rfl rfl (g := (mkF m 22 #[rv a1, rv a2, .val .null, rv a4, rv a5] [(.ref a5), (.ref a1)])) rfl rfl (hb hby d_prog_59_method_1_code_22)
  have O20 := O15.wr W20 ga1
  have N20 := Fr.snoc X20 N15 ga1
  have K20 : Keep h0 h20 [a1] := K15.wr W20 (Or.inl (List.mem_of_getElem? (i := 0) rfl))
  have fw20 : Fld Z h20 a1 "com/example/stubwright/stubwright/idl/Macros$Macro" "location" "Lcom/example/stubwright/stubwright/idl/Location;" (.ref a5) := f18.same W20
  have k21 : Way p e below S0 T20 (mkF m 25 #[rv a1, rv a2, .val .null, rv a4, rv a5] []) := fun t k => k17 t (st20 _ k)
  obtain ⟨fs, hr, hrun, hended, hW, hsame⟩ := X20.leave (v := none) (fun _ => rfl)
  have f22 : Exa Z h20 a1 "com/example/stubwright/stubwright/idl/Macros$Macro" := (f19.wr W20)
  have f23 : Fld Z h20 a1 "com/example/stubwright/stubwright/idl/Macros$Macro" "parameters" "Ljava/util/List;" .null := ((fw10.other W15 (Or.inr (slot_ne (Or.inr (hw _ (List.mem_of_getElem? (i := 96) rfl))) (Or.inr (hw _ (List.mem_of_getElem? (i := 98) rfl))) (by decide) (t := (.object "java/util/List")) (t' := (.object "java/util/List")) (by decide) (by decide)))).other W20 (Or.inr (slot_ne (Or.inr (hw _ (List.mem_of_getElem? (i := 96) rfl))) (Or.inr (hw _ (List.mem_of_getElem? (i := 100) rfl))) (by decide) (t := (.object "java/util/List")) (t' := (.object "com/example/stubwright/stubwright/idl/Location")) (by decide) (by decide))))
  refine ⟨_, _, k21 _ (X20.returnOut hx Bd.returns (hb hby d_prog_59_method_1_code_25) hr), hrun, hended, _, _, rfl, ?_, ⟨_, rfl⟩, hW, hsame.mono (by decide) (by decide)⟩
  show Q_macInit0 Z wCS wDE kDE a1 a2 a4 a5 h0 n0 _ T20.heap _
  rw [e20]
  exact ⟨rfl, N20, K20, f22, f23⟩
def Q_macInit1 (Z : State) (wCS : Int32) (wDE : Addr) (kDE : ClassId) (a1 : Addr) (a2 : Addr) (a3 : Addr) (a4 : Addr) (a5 : Addr) (h0 : Heap) (n0 : Nat) (v : Option Value) (h : Heap) (L : List Loc) : Prop := (v = none) ∧ (Fr n0 L) ∧ (Keep h0 h [a1]) ∧ (Exa Z h a1 "com/example/stubwright/stubwright/idl/Macros$Macro") ∧ (Fld Z h a1 "com/example/stubwright/stubwright/idl/Macros$Macro" "parameters" "Ljava/util/List;" (.ref a3))
set_option maxRecDepth 65536 in
set_option maxHeartbeats 40000000 in
theorem macInit1 (l : Launch) (Z : State) (a0 : Array Value) (hw : ∀ d ∈ tables_1, d.before a0 Z = true) (ws : List Jvm.Cond) (wCS : Int32) (wDE : Addr) (kDE : ClassId) (G : Gst Z wCS wDE kDE) (a1 : Addr) (a2 : Addr) (a3 : Addr) (a4 : Addr) (a5 : Addr) (h0 : Heap) (n0 : Nat) (O0 : Old Z n0 h0) (a_0 : Exa Z h0 a1 "com/example/stubwright/stubwright/idl/Macros$Macro") (a_1 : Fld Z h0 a1 "com/example/stubwright/stubwright/idl/Macros$Macro" "name" "Ljava/lang/String;" .null) (a_2 : Fld Z h0 a1 "com/example/stubwright/stubwright/idl/Macros$Macro" "parameters" "Ljava/util/List;" .null) (a_3 : Fld Z h0 a1 "com/example/stubwright/stubwright/idl/Macros$Macro" "body" "Ljava/util/List;" .null) (a_4 : Fld Z h0 a1 "com/example/stubwright/stubwright/idl/Macros$Macro" "location" "Lcom/example/stubwright/stubwright/idl/Location;" .null) (ga1 : n0 ≤ a1) :
    MetFree l (⟨"com/example/stubwright/stubwright/idl/Macros$Macro", "<init>", "(Ljava/lang/String;Ljava/util/List;Ljava/util/List;Lcom/example/stubwright/stubwright/idl/Location;)V"⟩ : MethodName) (head1 (Jvm.Cond.code (⟨"com/example/stubwright/stubwright/idl/Macros$Macro", "<init>", "(Ljava/lang/String;Ljava/util/List;Ljava/util/List;Lcom/example/stubwright/stubwright/idl/Location;)V"⟩ : MethodName) prog_59_method_1_code 5 none :: ws) ({ frames := 2, cells := 0, slots := 0, locals := 24 } : Room)) (fun a U => a = #[(.ref a1), (.ref a2), (.ref a3), (.ref a4), (.ref a5)] ∧ Z.Warmed39 U.vm ∧ U.heap = h0) (fun _ _ _ _ _ => True) (fun _ U o U' => ∃ v L, o = .returned v ∧ Q_macInit1 Z wCS wDE kDE a1 a2 a3 a4 a5 h0 n0 v U'.heap L ∧ FrameEnd U o U' L ({ frames := 2, cells := 0, slots := 0, locals := 24 } : Room).cells ({ frames := 2, cells := 0, slots := 0, locals := 24 } : Room).slots) := by
  refine MetFree.of_bodySF (plainFor_of_name pn_8) hisR ?_
  intro p e s m args below meth c s₁ Bd hml0 hP hK
  obtain ⟨rfl, hZ, hh⟩ := hP
  have hx := Bd.exec
  have hby := Bd.bytes
  have hml : c.maxLocals = 5 := hml0
  have hown : s.vm.findClass "com/example/stubwright/stubwright/idl/Macros$Macro" = some m.cls := findClass_of_methodNamed Bd.named
  have hnm := (name_of_methodNamed Bd.named Bd.method).1
  have X0 : Stand p l e ({ frames := 2, cells := 0, slots := 0, locals := 24 } : Room) s m #[(.ref a1), (.ref a2), (.ref a3), (.ref a4), (.ref a5)] below meth c s₁ [] 0 0 := Stand.of_body Bd
  have e0 : s₁.heap = h0 := by rw [← hh, Bd.state]; rfl
  have N0 := Fr.nil n0
  obtain ⟨S_CS, hCS, S_DE, V_DE⟩ := id G
  have k0 : Way p e below (s₁.setTop (entryFrame m #[(.ref a1), (.ref a2), (.ref a3), (.ref a4), (.ref a5)] 5)) s₁ (mkF m 0 #[rv a1, rv a2, rv a3, rv a4, rv a5] []) := fun t k => castTop (by first | (simp [entryFrame, mkF, argsToLocals, Value.category]; done) | rfl) k
  generalize s₁.setTop (entryFrame m #[(.ref a1), (.ref a2), (.ref a3), (.ref a4), (.ref a5)] 5) = S0 at k0 ⊢
  have k1 : Way p e below S0 s₁ (mkF m 1 #[rv a1, rv a2, rv a3, rv a4, rv a5] [(.ref a1)]) := by
    intro t k
    refine k0 t ?_
    refine XS.aloadN X0.here hx rfl (hb hby d_prog_59_method_1_code_0) rfl rfl ?_
    show Steps p.tables e below (s₁.setTop (mkF m 1 #[rv a1, rv a2, rv a3, rv a4, rv a5] [(.ref a1)])) _
    exact k
  obtain ⟨_, _, ⟨T2, L2, kk2, nn2⟩, -, X2, ⟨Lc2, hQ2, l2, y2, z2⟩, st2⟩ := X0.specialBack hx (y := (⟨"java/lang/Record", "<init>", "()V"⟩ : MethodName)) rfl hown (mvT hZ (hw _ (List.mem_of_getElem? (i := 92) rfl))) (mvT hZ (hw _ (List.mem_of_getElem? (i := 78) rfl))) (mvT hZ (hw _ (List.mem_of_getElem? (i := 81) rfl))) (by decide) (backOf (W := 0) (recInit l Z a0 hw [] wCS wDE kDE G a1 h0 n0 O0 ) hZ (hw _ (List.mem_of_getElem? (i := 81) rfl)) (hw _ (List.mem_of_getElem? (i := 80) rfl)) (by decide) (by decide)) (g := (mkF m 1 #[rv a1, rv a2, rv a3, rv a4, rv a5] [(.ref a1)])) rfl (by rw [hml]; rfl) (Steps.refl _) (a := a1) (argsL := []) (rest := []) (lenOf pd_7 rfl) rfl (by show 2 * 0 + _ ≤ _; exact Nat.le_of_eq rfl) (hb hby d_prog_59_method_1_code_1) (fun _ _ => ⟨rfl, e0, (by decide : 0 + 0 ≤ _), (by decide : 0 + 0 ≤ _)⟩)
  dsimp only [Pt.U, Pt.locs, Pt.cells, Pt.slots] at X2 l2 y2 z2 st2 hQ2
  subst l2 y2 z2
  obtain ⟨rfl, Nq2, e2⟩ := hQ2
  have N2 := Fr.app N0 Nq2
  have k3 : Way p e below S0 T2 (mkF m 4 #[rv a1, rv a2, rv a3, rv a4, rv a5] []) := fun t k => k1 t (st2.trans k)
  have k4 : Way p e below S0 T2 (mkF m 6 #[rv a1, rv a2, rv a3, rv a4, rv a5] [(.ref a2), (.ref a1)]) := by
    intro t k
    refine k3 t ?_
    refine XS.aloadN X2.here hx rfl (hb hby d_prog_59_method_1_code_4) rfl rfl ?_
    show Steps p.tables e below (T2.setTop (mkF m 5 #[rv a1, rv a2, rv a3, rv a4, rv a5] [(.ref a1)])) _
    refine XS.aloadN X2.here hx rfl (hb hby d_prog_59_method_1_code_5) rfl rfl ?_
    show Steps p.tables e below (T2.setTop (mkF m 6 #[rv a1, rv a2, rv a3, rv a4, rv a5] [(.ref a2), (.ref a1)])) _
    exact k
  obtain ⟨T5, h5, X5, e5, W5, st5⟩ := putF X2 hx hZ hown (host := "") (Or.inl (hw _ (List.mem_of_getElem? (i := 93) rfl))) Via.refl e2 a_1 a_0 (Or.inr ⟨(hw _ (List.mem_of_getElem? (i := 94) rfl)), rfl, hnm⟩) (hw _ (List.mem_of_getElem? (i := 69) rfl)) (ty := (.object "java/lang/String")) (by decide) rfl rfl (g := (mkF m 6 #[rv a1, rv a2, rv a3, rv a4, rv a5] [(.ref a2), (.ref a1)])) rfl rfl (hb hby d_prog_59_method_1_code_6)
  have O5 := O0.wr W5 ga1
  have N5 := Fr.snoc X5 N2 ga1
  have K5 : Keep h0 h5 [a1] := (Keep.refl h0 [a1]).wr W5 (Or.inl (List.mem_of_getElem? (i := 0) rfl))
  have fw5 : Fld Z h5 a1 "com/example/stubwright/stubwright/idl/Macros$Macro" "name" "Ljava/lang/String;" (.ref a2) := a_1.same W5
  have k6 : Way p e below S0 T5 (mkF m 9 #[rv a1, rv a2, rv a3, rv a4, rv a5] []) := fun t k => k4 t (st5 _ k)
  have k7 : Way p e below S0 T5 (mkF m 11 #[rv a1, rv a2, rv a3, rv a4, rv a5] [(.ref a3), (.ref a1)]) := by
    intro t k
    refine k6 t ?_
    refine XS.aloadN X5.here hx rfl (hb hby d_prog_59_method_1_code_9) rfl rfl ?_
    show Steps p.tables e below (T5.setTop (mkF m 10 #[rv a1, rv a2, rv a3, rv a4, rv a5] [(.ref a1)])) _
    refine XS.aloadN X5.here hx rfl (hb hby d_prog_59_method_1_code_10) rfl rfl ?_
    show Steps p.tables e below (T5.setTop (mkF m 11 #[rv a1, rv a2, rv a3, rv a4, rv a5] [(.ref a3), (.ref a1)])) _
    exact k
  have f8 : Fld Z h5 a1 "com/example/stubwright/stubwright/idl/Macros$Macro" "parameters" "Ljava/util/List;" .null := (a_2.other W5 (Or.inr (slot_ne (Or.inr (hw _ (List.mem_of_getElem? (i := 96) rfl))) (Or.inr (hw _ (List.mem_of_getElem? (i := 94) rfl))) (by decide) (t := (.object "java/util/List")) (t' := (.object "java/lang/String")) (by decide) (by decide))))
  have f9 : Exa Z h5 a1 "com/example/stubwright/stubwright/idl/Macros$Macro" := (a_0.wr W5)
  obtain ⟨T10, h10, X10, e10, W10, st10⟩ := putF X5 hx hZ hown (host := "") (Or.inl (hw _ (List.mem_of_getElem? (i := 95) rfl))) Via.refl e5 f8 f9 (Or.inr ⟨(hw _ (List.mem_of_getElem? (i := 96) rfl)), rfl, hnm⟩) (hw _ (List.mem_of_getElem? (i := 69) rfl)) (ty := (.object "java/util/List")) (by decide) rfl rfl (g := (mkF m 11 #[rv a1, rv a2, rv a3, rv a4, rv a5] [(.ref a3), (.ref a1)])) rfl rfl (hb hby d_prog_59_method_1_code_11)
  have O10 := O5.wr W10 ga1
  have N10 := Fr.snoc X10 N5 ga1
  have K10 : Keep h0 h10 [a1] := K5.wr W10 (Or.inl (List.mem_of_getElem? (i := 0) rfl))
  have fw10 : Fld Z h10 a1 "com/example/stubwright/stubwright/idl/Macros$Macro" "parameters" "Ljava/util/List;" (.ref a3) := f8.same W10
  have k11 : Way p e below S0 T10 (mkF m 14 #[rv a1, rv a2, rv a3, rv a4, rv a5] []) := fun t k => k7 t (st10 _ k)
  have k12 : Way p e below S0 T10 (mkF m 16 #[rv a1, rv a2, rv a3, rv a4, rv a5] [(.ref a4), (.ref a1)]) := by
    intro t k
    refine k11 t ?_
    refine XS.aloadN X10.here hx rfl (hb hby d_prog_59_method_1_code_14) rfl rfl ?_
    show Steps p.tables e below (T10.setTop (mkF m 15 #[rv a1, rv a2, rv a3, rv a4, rv a5] [(.ref a1)])) _
    refine XS.aloadN X10.here hx rfl (hb hby d_prog_59_method_1_code_15) rfl rfl ?_
    show Steps p.tables e below (T10.setTop (mkF m 16 #[rv a1, rv a2, rv a3, rv a4, rv a5] [(.ref a4), (.ref a1)])) _
    exact k
  have f13 : Fld Z h10 a1 "com/example/stubwright/stubwright/idl/Macros$Macro" "body" "Ljava/util/List;" .null := ((a_3.other W5 (Or.inr (slot_ne (Or.inr (hw _ (List.mem_of_getElem? (i := 98) rfl))) (Or.inr (hw _ (List.mem_of_getElem? (i := 94) rfl))) (by decide) (t := (.object "java/util/List")) (t' := (.object "java/lang/String")) (by decide) (by decide)))).other W10 (Or.inr (slot_ne (Or.inr (hw _ (List.mem_of_getElem? (i := 98) rfl))) (Or.inr (hw _ (List.mem_of_getElem? (i := 96) rfl))) (by decide) (t := (.object "java/util/List")) (t' := (.object "java/util/List")) (by decide) (by decide))))
  have f14 : Exa Z h10 a1 "com/example/stubwright/stubwright/idl/Macros$Macro" := (f9.wr W10)
  obtain ⟨T15, h15, X15, e15, W15, st15⟩ := putF X10 hx hZ hown (host := "") (Or.inl (hw _ (List.mem_of_getElem? (i := 97) rfl))) Via.refl e10 f13 f14 (Or.inr ⟨(hw _ (List.mem_of_getElem? (i := 98) rfl)), rfl, hnm⟩) (hw _ (List.mem_of_getElem? (i := 69) rfl)) (ty := (.object "java/util/List")) (by decide) rfl rfl (g := (mkF m 16 #[rv a1, rv a2, rv a3, rv a4, rv a5] [(.ref a4), (.ref a1)])) rfl rfl (hb hby d_prog_59_method_1_code_16)
  have O15 := O10.wr W15 ga1
  have N15 := Fr.snoc X15 N10 ga1
  have K15 : Keep h0 h15 [a1] := K10.wr W15 (Or.inl (List.mem_of_getElem? (i := 0) rfl))
  have fw15 : Fld Z h15 a1 "com/example/stubwright/stubwright/idl/Macros$Macro" "body" "Ljava/util/List;" (.ref a4) := f13.same W15
  have k16 : Way p e below S0 T15 (mkF m 19 #[rv a1, rv a2, rv a3, rv a4, rv a5] []) := fun t k => k12 t (st15 _ k)
  have k17 : Way p e below S0 T15 (mkF m 22 #[rv a1, rv a2, rv a3, rv a4, rv a5] [(.ref a5), (.ref a1)]) := by
    intro t k
    refine k16 t ?_
    refine XS.aloadN X15.here hx rfl (hb hby d_prog_59_method_1_code_19) rfl rfl ?_
    show Steps p.tables e below (T15.setTop (mkF m 20 #[rv a1, rv a2, rv a3, rv a4, rv a5] [(.ref a1)])) _
    refine XS.aload X15.here hx rfl (hb hby d_prog_59_method_1_code_20) rfl rfl ?_
    show Steps p.tables e below (T15.setTop (mkF m 22 #[rv a1, rv a2, rv a3, rv a4, rv a5] [(.ref a5), (.ref a1)])) _
    exact k
  have f18 : Fld Z h15 a1 "com/example/stubwright/stubwright/idl/Macros$Macro" "location" "Lcom/example/stubwright/stubwright/idl/Location;" .null := (((a_4.other W5 (Or.inr (slot_ne (Or.inr (hw _ (List.mem_of_getElem? (i := 100) rfl))) (Or.inr (hw _ (List.mem_of_getElem? (i := 94) rfl))) (by decide) (t := (.object "com/example/stubwright/stubwright/idl/Location")) (t' := (.object "java/lang/String")) (by decide) (by decide)))).other W10 (Or.inr (slot_ne (Or.inr (hw _ (List.mem_of_getElem? (i := 100) rfl))) (Or.inr (hw _ (List.mem_of_getElem? (i := 96) rfl))) (by decide) (t := (.object "com/example/stubwright/stubwright/idl/Location")) (t' := (.object "java/util/List")) (by decide) (by decide)))).other W15 (Or.inr (slot_ne (Or.inr (hw _ (List.mem_of_getElem? (i := 100) rfl))) (Or.inr (hw _ (List.mem_of_getElem? (i := 98) rfl))) (by decide) (t := (.object "com/example/stubwright/stubwright/idl/Location")) (t' := (.object "java/util/List")) (by decide) (by decide))))
  have f19 : Exa Z h15 a1 "com/example/stubwright/stubwright/idl/Macros$Macro" := (f14.wr W15)
  obtain ⟨T20, h20, X20, e20, W20, st20⟩ := putF X15 hx hZ hown (host := "") (Or.inl (hw _ (List.mem_of_getElem? (i := 99) rfl))) Via.refl e15 f18 f19 (Or.inr ⟨(hw _ (List.mem_of_getElem? (i := 100) rfl)), rfl, hnm⟩) (hw _ (List.mem_of_getElem? (i := 69) rfl)) (ty := (.object "com/example/stubwright/stubwright/idl/Location")) (by decide) rfl rfl (g := (mkF m 22 #[rv a1, rv a2, rv a3, rv a4, rv a5] [(.ref a5), (.ref a1)])) rfl rfl (hb hby d_prog_59_method_1_code_22)
  have O20 := O15.wr W20 ga1
  have N20 := Fr.snoc X20 N15 ga1
  have K20 : Keep h0 h20 [a1] := K15.wr W20 (Or.inl (List.mem_of_getElem? (i := 0) rfl))
  have fw20 : Fld Z h20 a1 "com/example/stubwright/stubwright/idl/Macros$Macro" "location" "Lcom/example/stubwright/stubwright/idl/Location;" (.ref a5) := f18.same W20
  have k21 : Way p e below S0 T20 (mkF m 25 #[rv a1, rv a2, rv a3, rv a4, rv a5] []) := fun t k => k17 t (st20 _ k)
  obtain ⟨fs, hr, hrun, hended, hW, hsame⟩ := X20.leave (v := none) (fun _ => rfl)
  have f22 : Exa Z h20 a1 "com/example/stubwright/stubwright/idl/Macros$Macro" := (f19.wr W20)
  have f23 : Fld Z h20 a1 "com/example/stubwright/stubwright/idl/Macros$Macro" "parameters" "Ljava/util/List;" (.ref a3) := ((fw10.other W15 (Or.inr (slot_ne (Or.inr (hw _ (List.mem_of_getElem? (i := 96) rfl))) (Or.inr (hw _ (List.mem_of_getElem? (i := 98) rfl))) (by decide) (t := (.object "java/util/List")) (t' := (.object "java/util/List")) (by decide) (by decide)))).other W20 (Or.inr (slot_ne (Or.inr (hw _ (List.mem_of_getElem? (i := 96) rfl))) (Or.inr (hw _ (List.mem_of_getElem? (i := 100) rfl))) (by decide) (t := (.object "java/util/List")) (t' := (.object "com/example/stubwright/stubwright/idl/Location")) (by decide) (by decide))))
  refine ⟨_, _, k21 _ (X20.returnOut hx Bd.returns (hb hby d_prog_59_method_1_code_25) hr), hrun, hended, _, _, rfl, ?_, ⟨_, rfl⟩, hW, hsame.mono (by decide) (by decide)⟩
  show Q_macInit1 Z wCS wDE kDE a1 a2 a3 a4 a5 h0 n0 _ T20.heap _
  rw [e20]
  exact ⟨rfl, N20, K20, f22, f23⟩
def Q_fl0 (Z : State) (wCS : Int32) (wDE : Addr) (kDE : ClassId) (a1 : Addr) (h0 : Heap) (n0 : Nat) (v : Option Value) (h : Heap) (L : List Loc) : Prop := (v = some (.int (0 : Int32))) ∧ (Fr n0 L) ∧ (h = h0)
set_option maxRecDepth 65536 in
set_option maxHeartbeats 40000000 in
theorem fl0 (l : Launch) (Z : State) (a0 : Array Value) (hw : ∀ d ∈ tables_1, d.before a0 Z = true) (ws : List Jvm.Cond) (wCS : Int32) (wDE : Addr) (kDE : ClassId) (G : Gst Z wCS wDE kDE) (a1 : Addr) (h0 : Heap) (n0 : Nat) (O0 : Old Z n0 h0) (a_0 : Fld Z h0 a1 "com/example/stubwright/stubwright/idl/Macros$Macro" "parameters" "Ljava/util/List;" .null) :
    MetFree l (⟨"com/example/stubwright/stubwright/idl/Macros$Macro", "functionLike", "()Z"⟩ : MethodName) (head1 (Jvm.Cond.code (⟨"com/example/stubwright/stubwright/idl/Macros$Macro", "functionLike", "()Z"⟩ : MethodName) prog_59_method_2_code 1 (some .boolean) :: ws) ({ frames := 0, cells := 0, slots := 0, locals := 0 } : Room)) (fun a U => a = #[(.ref a1)] ∧ Z.Warmed39 U.vm ∧ U.heap = h0) (fun _ _ _ _ _ => True) (fun _ U o U' => ∃ v L, o = .returned v ∧ Q_fl0 Z wCS wDE kDE a1 h0 n0 v U'.heap L ∧ FrameEnd U o U' L ({ frames := 0, cells := 0, slots := 0, locals := 0 } : Room).cells ({ frames := 0, cells := 0, slots := 0, locals := 0 } : Room).slots) := by
  refine MetFree.of_bodySF (plainFor_of_name pn_8) hisR ?_
  intro p e s m args below meth c s₁ Bd hml0 hP hK
  obtain ⟨rfl, hZ, hh⟩ := hP
  have hx := Bd.exec
  have hby := Bd.bytes
  have hml : c.maxLocals = 1 := hml0
  have hown : s.vm.findClass "com/example/stubwright/stubwright/idl/Macros$Macro" = some m.cls := findClass_of_methodNamed Bd.named
  have hnm := (name_of_methodNamed Bd.named Bd.method).1
  have X0 : Stand p l e ({ frames := 0, cells := 0, slots := 0, locals := 0 } : Room) s m #[(.ref a1)] below meth c s₁ [] 0 0 := Stand.of_body Bd
  have e0 : s₁.heap = h0 := by rw [← hh, Bd.state]; rfl
  have N0 := Fr.nil n0
  obtain ⟨S_CS, hCS, S_DE, V_DE⟩ := id G
  have k0 : Way p e below (s₁.setTop (entryFrame m #[(.ref a1)] 1)) s₁ (mkF m 0 #[rv a1] []) := fun t k => castTop (by first | (simp [entryFrame, mkF, argsToLocals, Value.category]; done) | rfl) k
  generalize s₁.setTop (entryFrame m #[(.ref a1)] 1) = S0 at k0 ⊢
  have k1 : Way p e below S0 s₁ (mkF m 1 #[rv a1] [(.ref a1)]) := by
    intro t k
    refine k0 t ?_
    refine XS.aloadN X0.here hx rfl (hb hby d_prog_59_method_2_code_0) rfl rfl ?_
    show Steps p.tables e below (s₁.setTop (mkF m 1 #[rv a1] [(.ref a1)])) _
    exact k
  obtain ⟨T2, X2, e2, st2⟩ := getF X0 hx hZ hown (host := "") (Or.inl (hw _ (List.mem_of_getElem? (i := 95) rfl))) Via.refl e0 a_0 (g := (mkF m 1 #[rv a1] [(.ref a1)])) rfl rfl (hb hby d_prog_59_method_2_code_1)
  have k3 : Way p e below S0 T2 (mkF m 4 #[rv a1] [.null]) := fun t k => k1 t (st2 _ k)
  have k4 : Way p e below S0 T2 (mkF m 12 #[rv a1] [(.int (0 : Int32))]) := by
    intro t k
    refine k3 t ?_
    refine XS.ifnullYes X2.here hx rfl (pc0 := 4) (pc' := 11) rfl (hb hby d_prog_59_method_2_code_4) rfl (by decide) (by decide) ?_
    show Steps p.tables e below (T2.setTop (mkF m 11 #[rv a1] [])) _
    refine XS.iconst X2.here hx rfl (hb hby d_prog_59_method_2_code_11) ?_
    show Steps p.tables e below (T2.setTop (mkF m 12 #[rv a1] [(.int (0 : Int32))])) _
    exact k
  obtain ⟨fs, hr, hrun, hended, hW, hsame⟩ := X2.leave (v := some (.int (0 : Int32))) (fun h => by rw [Bd.returns] at h; cases h)
  refine ⟨_, _, k4 _ (retN X2 hx (t := .boolean) Bd.returns (by simp) (hb hby d_prog_59_method_2_code_12) hr), hrun, hended, _, _, rfl, ?_, ⟨_, rfl⟩, hW, hsame.mono (by decide) (by decide)⟩
  show Q_fl0 Z wCS wDE kDE a1 h0 n0 _ T2.heap _
  rw [e2]
  exact ⟨rfl, N0, rfl⟩
def Q_fl1 (Z : State) (wCS : Int32) (wDE : Addr) (kDE : ClassId) (a1 : Addr) (a2 : Addr) (h0 : Heap) (n0 : Nat) (v : Option Value) (h : Heap) (L : List Loc) : Prop := (v = some (.int (1 : Int32))) ∧ (Fr n0 L) ∧ (h = h0)
set_option maxRecDepth 65536 in
set_option maxHeartbeats 40000000 in
theorem fl1 (l : Launch) (Z : State) (a0 : Array Value) (hw : ∀ d ∈ tables_1, d.before a0 Z = true) (ws : List Jvm.Cond) (wCS : Int32) (wDE : Addr) (kDE : ClassId) (G : Gst Z wCS wDE kDE) (a1 : Addr) (a2 : Addr) (h0 : Heap) (n0 : Nat) (O0 : Old Z n0 h0) (a_0 : Fld Z h0 a1 "com/example/stubwright/stubwright/idl/Macros$Macro" "parameters" "Ljava/util/List;" (.ref a2)) :
    MetFree l (⟨"com/example/stubwright/stubwright/idl/Macros$Macro", "functionLike", "()Z"⟩ : MethodName) (head1 (Jvm.Cond.code (⟨"com/example/stubwright/stubwright/idl/Macros$Macro", "functionLike", "()Z"⟩ : MethodName) prog_59_method_2_code 1 (some .boolean) :: ws) ({ frames := 0, cells := 0, slots := 0, locals := 0 } : Room)) (fun a U => a = #[(.ref a1)] ∧ Z.Warmed39 U.vm ∧ U.heap = h0) (fun _ _ _ _ _ => True) (fun _ U o U' => ∃ v L, o = .returned v ∧ Q_fl1 Z wCS wDE kDE a1 a2 h0 n0 v U'.heap L ∧ FrameEnd U o U' L ({ frames := 0, cells := 0, slots := 0, locals := 0 } : Room).cells ({ frames := 0, cells := 0, slots := 0, locals := 0 } : Room).slots) := by
  refine MetFree.of_bodySF (plainFor_of_name pn_8) hisR ?_
  intro p e s m args below meth c s₁ Bd hml0 hP hK
  obtain ⟨rfl, hZ, hh⟩ := hP
  have hx := Bd.exec
  have hby := Bd.bytes
  have hml : c.maxLocals = 1 := hml0
  have hown : s.vm.findClass "com/example/stubwright/stubwright/idl/Macros$Macro" = some m.cls := findClass_of_methodNamed Bd.named
  have hnm := (name_of_methodNamed Bd.named Bd.method).1
  have X0 : Stand p l e ({ frames := 0, cells := 0, slots := 0, locals := 0 } : Room) s m #[(.ref a1)] below meth c s₁ [] 0 0 := Stand.of_body Bd
  have e0 : s₁.heap = h0 := by rw [← hh, Bd.state]; rfl
  have N0 := Fr.nil n0
  obtain ⟨S_CS, hCS, S_DE, V_DE⟩ := id G
  have k0 : Way p e below (s₁.setTop (entryFrame m #[(.ref a1)] 1)) s₁ (mkF m 0 #[rv a1] []) := fun t k => castTop (by first | (simp [entryFrame, mkF, argsToLocals, Value.category]; done) | rfl) k
  generalize s₁.setTop (entryFrame m #[(.ref a1)] 1) = S0 at k0 ⊢
  have k1 : Way p e below S0 s₁ (mkF m 1 #[rv a1] [(.ref a1)]) := by
    intro t k
    refine k0 t ?_
    refine XS.aloadN X0.here hx rfl (hb hby d_prog_59_method_2_code_0) rfl rfl ?_
    show Steps p.tables e below (s₁.setTop (mkF m 1 #[rv a1] [(.ref a1)])) _
    exact k
  obtain ⟨T2, X2, e2, st2⟩ := getF X0 hx hZ hown (host := "") (Or.inl (hw _ (List.mem_of_getElem? (i := 95) rfl))) Via.refl e0 a_0 (g := (mkF m 1 #[rv a1] [(.ref a1)])) rfl rfl (hb hby d_prog_59_method_2_code_1)
  have k3 : Way p e below S0 T2 (mkF m 4 #[rv a1] [(.ref a2)]) := fun t k => k1 t (st2 _ k)
  have k4 : Way p e below S0 T2 (mkF m 12 #[rv a1] [(.int (1 : Int32))]) := by
    intro t k
    refine k3 t ?_
    refine XS.ifnullNo X2.here hx rfl (hb hby d_prog_59_method_2_code_4) rfl ?_
    show Steps p.tables e below (T2.setTop (mkF m 7 #[rv a1] [])) _
    refine XS.iconst X2.here hx rfl (hb hby d_prog_59_method_2_code_7) ?_
    show Steps p.tables e below (T2.setTop (mkF m 8 #[rv a1] [(.int (1 : Int32))])) _
    refine XS.goto X2.here hx rfl (pc0 := 8) (pc' := 12) rfl (hb hby d_prog_59_method_2_code_8) (by decide) (by decide) ?_
    show Steps p.tables e below (T2.setTop (mkF m 12 #[rv a1] [(.int (1 : Int32))])) _
    exact k
  obtain ⟨fs, hr, hrun, hended, hW, hsame⟩ := X2.leave (v := some (.int (1 : Int32))) (fun h => by rw [Bd.returns] at h; cases h)
  refine ⟨_, _, k4 _ (retN X2 hx (t := .boolean) Bd.returns (by simp) (hb hby d_prog_59_method_2_code_12) hr), hrun, hended, _, _, rfl, ?_, ⟨_, rfl⟩, hW, hsame.mono (by decide) (by decide)⟩
  show Q_fl1 Z wCS wDE kDE a1 a2 h0 n0 _ T2.heap _
  rw [e2]
  exact ⟨rfl, N0, rfl⟩
def Q_law_met (Z : State) (wCS : Int32) (wDE : Addr) (kDE : ClassId) (p1 : Int32) (p2 : Int32) (p3 : Int32) (p4 : Int32) (h0 : Heap) (n0 : Nat) (v : Option Value) (h : Heap) (L : List Loc) : Prop := (v = some (.int (1 : Int32))) ∧ (Fr n0 L)
set_option maxRecDepth 65536 in
set_option maxHeartbeats 40000000 in
theorem law_met (l : Launch) (Z : State) (a0 : Array Value) (hw : ∀ d ∈ tables_1, d.before a0 Z = true) (ws : List Jvm.Cond) (wCS : Int32) (wDE : Addr) (kDE : ClassId) (G : Gst Z wCS wDE kDE) (p1 : Int32) (p2 : Int32) (p3 : Int32) (p4 : Int32) (h0 : Heap) (n0 : Nat) (O0 : Old Z n0 h0) :
    MetFree l x (head1 (Jvm.Cond.code x code maxLocals ret :: ws) room_1) (fun a U => a = #[(.int p1), (.int p2), (.int p3), (.int p4)] ∧ Z.Warmed39 U.vm ∧ U.heap = h0) (fun _ _ _ _ _ => True) (fun _ U o U' => ∃ v L, o = .returned v ∧ Q_law_met Z wCS wDE kDE p1 p2 p3 p4 h0 n0 v U'.heap L ∧ FrameEnd U o U' L 32 192) := by
  refine MetFree.of_bodySF (plainFor_of_name pn_9) hisR ?_
  intro p e s m args below meth c s₁ Bd hml0 hP hK
  obtain ⟨rfl, hZ, hh⟩ := hP
  have hx := Bd.exec
  have hby := Bd.bytes
  have hml : c.maxLocals = 13 := hml0
  have hown : s.vm.findClass "com/example/stubwright/stubwright/idl/MacroFunctionLikePinLaw" = some m.cls := findClass_of_methodNamed Bd.named
  have hnm := (name_of_methodNamed Bd.named Bd.method).1
  have X0 : Stand p l e room_1 s m #[(.int p1), (.int p2), (.int p3), (.int p4)] below meth c s₁ [] 0 0 := Stand.of_body Bd
  have e0 : s₁.heap = h0 := by rw [← hh, Bd.state]; rfl
  have N0 := Fr.nil n0
  obtain ⟨S_CS, hCS, S_DE, V_DE⟩ := id G
  have k0 : Way p e below (s₁.setTop (entryFrame m #[(.int p1), (.int p2), (.int p3), (.int p4)] maxLocals)) s₁ (mkF m 0 #[iv p1, iv p2, iv p3, iv p4, .unset, .unset, .unset, .unset, .unset, .unset, .unset, .unset, .unset] []) := fun t k => castTop (by first | (simp [entryFrame, mkF, argsToLocals, Value.category, maxLocals]; done) | rfl) k
  generalize s₁.setTop (entryFrame m #[(.int p1), (.int p2), (.int p3), (.int p4)] maxLocals) = S0 at k0 ⊢
  have k1 : Way p e below S0 s₁ (mkF m 1 #[iv p1, iv p2, iv p3, iv p4, .unset, .unset, .unset, .unset, .unset, .unset, .unset, .unset, .unset] [(.int (2 : Int32))]) := by
    intro t k
    refine k0 t ?_
    refine XS.iconst X0.here hx rfl (hb hby at_0) ?_
    show Steps p.tables e below (s₁.setTop (mkF m 1 #[iv p1, iv p2, iv p3, iv p4, .unset, .unset, .unset, .unset, .unset, .unset, .unset, .unset, .unset] [(.int (2 : Int32))])) _
    exact k
  obtain ⟨T2, h2, c2, X2, e2, E2, A2, B2, st2⟩ := newPE X0 hx hZ (hw _ (List.mem_of_getElem? (i := 0) rfl)) e0 (g := (mkF m 1 #[iv p1, iv p2, iv p3, iv p4, .unset, .unset, .unset, .unset, .unset, .unset, .unset, .unset, .unset] [(.int (2 : Int32))])) rfl (hb hby at_1) rfl (by decide) (cap := 2) (by decide) (by decide) (by decide) (by decide) (ad := "[C") (by decide)
  obtain ⟨b2, g2⟩ : ∃ z, z = h0.size := ⟨_, rfl⟩
  rw [← g2] at A2 B2 st2
  have O2 := O0.ext E2
  have v2 : Arv Z h2 b2 c2 .char (2 : Int32) [(.int (0 : Int32)), (.int (0 : Int32))] (.int (0 : Int32)) := (Arv.new A2 (by decide)).pad (pad_rep [] (.int (0 : Int32)) 2)
  have k3 : Way p e below S0 T2 (mkF m 3 #[iv p1, iv p2, iv p3, iv p4, .unset, .unset, .unset, .unset, .unset, .unset, .unset, .unset, .unset] [(.ref b2)]) := fun t k => k1 t (st2 _ k)
  have k4 : Way p e below S0 T2 (mkF m 11 #[iv p1, iv p2, iv p3, iv p4, .unset, .unset, .unset, .unset, .unset, .unset, .unset, .unset, .unset] [(.int ((p2 &&& (255 : Int32)).toUInt32.toUInt16.toUInt32.toInt32)), (.int (0 : Int32)), (.ref b2), (.ref b2)]) := by
    intro t k
    refine k3 t ?_
    refine XS.dup X2.here hx rfl (hb hby at_3) rfl rfl ?_
    show Steps p.tables e below (T2.setTop (mkF m 4 #[iv p1, iv p2, iv p3, iv p4, .unset, .unset, .unset, .unset, .unset, .unset, .unset, .unset, .unset] [(.ref b2), (.ref b2)])) _
    refine XS.iconst X2.here hx rfl (hb hby at_4) ?_
    show Steps p.tables e below (T2.setTop (mkF m 5 #[iv p1, iv p2, iv p3, iv p4, .unset, .unset, .unset, .unset, .unset, .unset, .unset, .unset, .unset] [(.int (0 : Int32)), (.ref b2), (.ref b2)])) _
    refine XS.iloadN X2.here hx rfl (hb hby at_5) rfl ?_
    show Steps p.tables e below (T2.setTop (mkF m 6 #[iv p1, iv p2, iv p3, iv p4, .unset, .unset, .unset, .unset, .unset, .unset, .unset, .unset, .unset] [(.int p2), (.int (0 : Int32)), (.ref b2), (.ref b2)])) _
    refine XS.sipush X2.here hx rfl (hb hby at_6) ?_
    show Steps p.tables e below (T2.setTop (mkF m 9 #[iv p1, iv p2, iv p3, iv p4, .unset, .unset, .unset, .unset, .unset, .unset, .unset, .unset, .unset] [(.int (255 : Int32)), (.int p2), (.int (0 : Int32)), (.ref b2), (.ref b2)])) _
    refine XS.iand X2.here hx rfl (hb hby at_9) rfl ?_
    show Steps p.tables e below (T2.setTop (mkF m 10 #[iv p1, iv p2, iv p3, iv p4, .unset, .unset, .unset, .unset, .unset, .unset, .unset, .unset, .unset] [(.int (p2 &&& (255 : Int32))), (.int (0 : Int32)), (.ref b2), (.ref b2)])) _
    refine XS.i2c X2.here hx rfl (hb hby at_10) rfl ?_
    show Steps p.tables e below (T2.setTop (mkF m 11 #[iv p1, iv p2, iv p3, iv p4, .unset, .unset, .unset, .unset, .unset, .unset, .unset, .unset, .unset] [(.int ((p2 &&& (255 : Int32)).toUInt32.toUInt16.toUInt32.toInt32)), (.int (0 : Int32)), (.ref b2), (.ref b2)])) _
    exact k
  obtain ⟨cl5, Ar5, qc5, S5, M5, U5, G5⟩ := id (v2)
  have hin5 : ¬ ((0 : Int32) < 0 ∨ cl5.slots.size ≤ ((0 : Int32)).toNatClampNeg) := inb_of S5 ⟨by decide, by decide⟩
  obtain ⟨T5, h5, X5, e5, W5, st5⟩ := stC X2 hx hZ e2 Ar5 (j := (0 : Int32)) hin5 (g := (mkF m 11 #[iv p1, iv p2, iv p3, iv p4, .unset, .unset, .unset, .unset, .unset, .unset, .unset, .unset, .unset] [(.int ((p2 &&& (255 : Int32)).toUInt32.toUInt16.toUInt32.toInt32)), (.int (0 : Int32)), (.ref b2), (.ref b2)])) rfl rfl (hb hby at_11)
  have ge6 : n0 ≤ b2 := Nat.le_trans (own_old O0) (Nat.le_of_eq g2.symm)
  have O5 := O2.wr W5 ge6
  have N5 := Fr.snoc X5 N0 ge6
  have va5 : Arv Z h5 b2 c2 .char (2 : Int32) [(.int (((p2 &&& (255 : Int32)).toUInt32.toUInt16.toUInt32.toInt32).toUInt32.toUInt16.toUInt32.toInt32)), (.int (0 : Int32))] (.int (0 : Int32)) := Arv.set Ar5 qc5 S5 M5 U5 G5 (fits_nar_char _) W5 0 rfl (Nat.le_of_ble_eq_true rfl)
  have k7 : Way p e below S0 T5 (mkF m 12 #[iv p1, iv p2, iv p3, iv p4, .unset, .unset, .unset, .unset, .unset, .unset, .unset, .unset, .unset] [(.ref b2)]) := fun t k => k4 t (st5 _ k)
  have k8 : Way p e below S0 T5 (mkF m 23 #[iv p1, iv p2, iv p3, iv p4, .unset, .unset, .unset, .unset, .unset, .unset, .unset, .unset, .unset] [(.int ((((p2.toUInt32 >>> ((8 : Int32) &&& 31).toUInt32).toInt32) &&& (255 : Int32)).toUInt32.toUInt16.toUInt32.toInt32)), (.int (1 : Int32)), (.ref b2), (.ref b2)]) := by
    intro t k
    refine k7 t ?_
    refine XS.dup X5.here hx rfl (hb hby at_12) rfl rfl ?_
    show Steps p.tables e below (T5.setTop (mkF m 13 #[iv p1, iv p2, iv p3, iv p4, .unset, .unset, .unset, .unset, .unset, .unset, .unset, .unset, .unset] [(.ref b2), (.ref b2)])) _
    refine XS.iconst X5.here hx rfl (hb hby at_13) ?_
    show Steps p.tables e below (T5.setTop (mkF m 14 #[iv p1, iv p2, iv p3, iv p4, .unset, .unset, .unset, .unset, .unset, .unset, .unset, .unset, .unset] [(.int (1 : Int32)), (.ref b2), (.ref b2)])) _
    refine XS.iloadN X5.here hx rfl (hb hby at_14) rfl ?_
    show Steps p.tables e below (T5.setTop (mkF m 15 #[iv p1, iv p2, iv p3, iv p4, .unset, .unset, .unset, .unset, .unset, .unset, .unset, .unset, .unset] [(.int p2), (.int (1 : Int32)), (.ref b2), (.ref b2)])) _
    refine XS.bipush X5.here hx rfl (hb hby at_15) ?_
    show Steps p.tables e below (T5.setTop (mkF m 17 #[iv p1, iv p2, iv p3, iv p4, .unset, .unset, .unset, .unset, .unset, .unset, .unset, .unset, .unset] [(.int (8 : Int32)), (.int p2), (.int (1 : Int32)), (.ref b2), (.ref b2)])) _
    refine XS.iushr X5.here hx rfl (hb hby at_17) rfl ?_
    show Steps p.tables e below (T5.setTop (mkF m 18 #[iv p1, iv p2, iv p3, iv p4, .unset, .unset, .unset, .unset, .unset, .unset, .unset, .unset, .unset] [(.int ((p2.toUInt32 >>> ((8 : Int32) &&& 31).toUInt32).toInt32)), (.int (1 : Int32)), (.ref b2), (.ref b2)])) _
    refine XS.sipush X5.here hx rfl (hb hby at_18) ?_
    show Steps p.tables e below (T5.setTop (mkF m 21 #[iv p1, iv p2, iv p3, iv p4, .unset, .unset, .unset, .unset, .unset, .unset, .unset, .unset, .unset] [(.int (255 : Int32)), (.int ((p2.toUInt32 >>> ((8 : Int32) &&& 31).toUInt32).toInt32)), (.int (1 : Int32)), (.ref b2), (.ref b2)])) _
    refine XS.iand X5.here hx rfl (hb hby at_21) rfl ?_
    show Steps p.tables e below (T5.setTop (mkF m 22 #[iv p1, iv p2, iv p3, iv p4, .unset, .unset, .unset, .unset, .unset, .unset, .unset, .unset, .unset] [(.int (((p2.toUInt32 >>> ((8 : Int32) &&& 31).toUInt32).toInt32) &&& (255 : Int32))), (.int (1 : Int32)), (.ref b2), (.ref b2)])) _
    refine XS.i2c X5.here hx rfl (hb hby at_22) rfl ?_
    show Steps p.tables e below (T5.setTop (mkF m 23 #[iv p1, iv p2, iv p3, iv p4, .unset, .unset, .unset, .unset, .unset, .unset, .unset, .unset, .unset] [(.int ((((p2.toUInt32 >>> ((8 : Int32) &&& 31).toUInt32).toInt32) &&& (255 : Int32)).toUInt32.toUInt16.toUInt32.toInt32)), (.int (1 : Int32)), (.ref b2), (.ref b2)])) _
    exact k
  obtain ⟨cl9, Ar9, qc9, S9, M9, U9, G9⟩ := id (va5)
  have hin9 : ¬ ((1 : Int32) < 0 ∨ cl9.slots.size ≤ ((1 : Int32)).toNatClampNeg) := inb_of S9 ⟨by decide, by decide⟩
  obtain ⟨T9, h9, X9, e9, W9, st9⟩ := stC X5 hx hZ e5 Ar9 (j := (1 : Int32)) hin9 (g := (mkF m 23 #[iv p1, iv p2, iv p3, iv p4, .unset, .unset, .unset, .unset, .unset, .unset, .unset, .unset, .unset] [(.int ((((p2.toUInt32 >>> ((8 : Int32) &&& 31).toUInt32).toInt32) &&& (255 : Int32)).toUInt32.toUInt16.toUInt32.toInt32)), (.int (1 : Int32)), (.ref b2), (.ref b2)])) rfl rfl (hb hby at_23)
  have O9 := O5.wr W9 ge6
  have N9 := Fr.snoc X9 N5 ge6
  have va9 : Arv Z h9 b2 c2 .char (2 : Int32) [(.int (((p2 &&& (255 : Int32)).toUInt32.toUInt16.toUInt32.toInt32).toUInt32.toUInt16.toUInt32.toInt32)), (.int (((((p2.toUInt32 >>> ((8 : Int32) &&& 31).toUInt32).toInt32) &&& (255 : Int32)).toUInt32.toUInt16.toUInt32.toInt32).toUInt32.toUInt16.toUInt32.toInt32))] (.int (0 : Int32)) := Arv.set Ar9 qc9 S9 M9 U9 G9 (fits_nar_char _) W9 1 rfl (Nat.le_of_ble_eq_true rfl)
  have k10 : Way p e below S0 T9 (mkF m 24 #[iv p1, iv p2, iv p3, iv p4, .unset, .unset, .unset, .unset, .unset, .unset, .unset, .unset, .unset] [(.ref b2)]) := fun t k => k8 t (st9 _ k)
  have k11 : Way p e below S0 T9 (mkF m 26 #[iv p1, iv p2, iv p3, iv p4, rv b2, .unset, .unset, .unset, .unset, .unset, .unset, .unset, .unset] []) := by
    intro t k
    refine k10 t ?_
    refine XS.astore X9.here hx rfl (hb hby at_24) rfl rfl (l' := #[iv p1, iv p2, iv p3, iv p4, rv b2, .unset, .unset, .unset, .unset, .unset, .unset, .unset, .unset]) rfl ?_
    show Steps p.tables e below (T9.setTop (mkF m 26 #[iv p1, iv p2, iv p3, iv p4, rv b2, .unset, .unset, .unset, .unset, .unset, .unset, .unset, .unset] [])) _
    exact k
  obtain ⟨T12, h12, X12, e12, E12, A12, D12, U12, st12⟩ := newO X9 hx hZ hown (hw _ (List.mem_of_getElem? (i := 1) rfl)) (hw _ (List.mem_of_getElem? (i := 2) rfl)) (hw _ (List.mem_of_getElem? (i := 3) rfl)) e9 (g := (mkF m 26 #[iv p1, iv p2, iv p3, iv p4, rv b2, .unset, .unset, .unset, .unset, .unset, .unset, .unset, .unset] [])) rfl (hb hby at_26) (by decide) (by decide)
  obtain ⟨b12, g12⟩ : ∃ z, z = h9.size := ⟨_, rfl⟩
  rw [← g12] at A12 D12 U12 st12
  have O12 := O9.ext E12
  have i12_coder : Fld Z h12 b12 "java/lang/String" "coder" "B" (.int (0 : Int32)) := D12 (Or.inr (hw _ (List.mem_of_getElem? (i := 27) rfl))) (ty := .byte) (by decide)
  have i12_value : Fld Z h12 b12 "java/lang/String" "value" "[B" .null := D12 (Or.inr (hw _ (List.mem_of_getElem? (i := 29) rfl))) (ty := (.array .byte)) (by decide)
  have k13 : Way p e below S0 T12 (mkF m 29 #[iv p1, iv p2, iv p3, iv p4, rv b2, .unset, .unset, .unset, .unset, .unset, .unset, .unset, .unset] [(.ref b12)]) := fun t k => k11 t (st12 _ k)
  have k14 : Way p e below S0 T12 (mkF m 32 #[iv p1, iv p2, iv p3, iv p4, rv b2, .unset, .unset, .unset, .unset, .unset, .unset, .unset, .unset] [(.ref b2), (.ref b12), (.ref b12)]) := by
    intro t k
    refine k13 t ?_
    refine XS.dup X12.here hx rfl (hb hby at_29) rfl rfl ?_
    show Steps p.tables e below (T12.setTop (mkF m 30 #[iv p1, iv p2, iv p3, iv p4, rv b2, .unset, .unset, .unset, .unset, .unset, .unset, .unset, .unset] [(.ref b12), (.ref b12)])) _
    refine XS.aload X12.here hx rfl (hb hby at_30) rfl rfl ?_
    show Steps p.tables e below (T12.setTop (mkF m 32 #[iv p1, iv p2, iv p3, iv p4, rv b2, .unset, .unset, .unset, .unset, .unset, .unset, .unset, .unset] [(.ref b2), (.ref b12), (.ref b12)])) _
    exact k
  have ge15 : n0 ≤ b12 := Nat.le_trans (own_old O9) (Nat.le_of_eq g12.symm)
  have f16 : Arv Z h12 b2 c2 .char (2 : Int32) [(.int (((p2 &&& (255 : Int32)).toUInt32.toUInt16.toUInt32.toInt32).toUInt32.toUInt16.toUInt32.toInt32)), (.int (((((p2.toUInt32 >>> ((8 : Int32) &&& 31).toUInt32).toInt32) &&& (255 : Int32)).toUInt32.toUInt16.toUInt32.toInt32).toUInt32.toUInt16.toUInt32.toInt32))] (.int (0 : Int32)) := (va9.ext E12)
  obtain ⟨_, _, ⟨T17, L17, kk17, nn17⟩, -, X17, ⟨Lc17, hQ17, l17, y17, z17⟩, st17⟩ := X12.specialBack hx (y := (⟨"java/lang/String", "<init>", "([C)V"⟩ : MethodName)) rfl hown (mvT hZ (hw _ (List.mem_of_getElem? (i := 4) rfl))) (mvT hZ (hw _ (List.mem_of_getElem? (i := 5) rfl))) (mvT hZ (hw _ (List.mem_of_getElem? (i := 6) rfl))) (by decide) (backOf (W := 1) (sinit_2 l Z a0 hw [] wCS wDE kDE G b12 b2 c2 (((p2 &&& (255 : Int32)).toUInt32.toUInt16.toUInt32.toInt32).toUInt32.toUInt16.toUInt32.toInt32) (((((p2.toUInt32 >>> ((8 : Int32) &&& 31).toUInt32).toInt32) &&& (255 : Int32)).toUInt32.toUInt16.toUInt32.toInt32).toUInt32.toUInt16.toUInt32.toInt32) h12 n0 O12 (A12 : Exa Z h12 b12 "java/lang/String") (i12_value : Fld Z h12 b12 "java/lang/String" "value" "[B" .null) (i12_coder : Fld Z h12 b12 "java/lang/String" "coder" "B" (.int (0 : Int32))) (ge15 : n0 ≤ b12) ((Ne.symm (Nat.ne_of_lt (Nat.lt_of_lt_of_le ((B2.wr W5).wr W9).lt (Nat.le_of_eq g12.symm)))) : b12 ≠ b2) (f16 : Arv Z h12 b2 c2 .char (2 : Int32) [(.int (((p2 &&& (255 : Int32)).toUInt32.toUInt16.toUInt32.toInt32).toUInt32.toUInt16.toUInt32.toInt32)), (.int (((((p2.toUInt32 >>> ((8 : Int32) &&& 31).toUInt32).toInt32) &&& (255 : Int32)).toUInt32.toUInt16.toUInt32.toInt32).toUInt32.toUInt16.toUInt32.toInt32))] (.int (0 : Int32))) (own_chr _ : ¬ ((255 : Int32) < (((p2 &&& (255 : Int32)).toUInt32.toUInt16.toUInt32.toInt32).toUInt32.toUInt16.toUInt32.toInt32))) (own_chr _ : ¬ ((255 : Int32) < (((((p2.toUInt32 >>> ((8 : Int32) &&& 31).toUInt32).toInt32) &&& (255 : Int32)).toUInt32.toUInt16.toUInt32.toInt32).toUInt32.toUInt16.toUInt32.toInt32)))) hZ (hw _ (List.mem_of_getElem? (i := 6) rfl)) (hw _ (List.mem_of_getElem? (i := 3) rfl)) (by decide) (by decide)) (g := (mkF m 32 #[iv p1, iv p2, iv p3, iv p4, rv b2, .unset, .unset, .unset, .unset, .unset, .unset, .unset, .unset] [(.ref b2), (.ref b12), (.ref b12)])) rfl (by rw [hml]; rfl) (Steps.refl _) (a := b12) (argsL := [(.ref b2)]) (rest := [(.ref b12)]) (lenOf pd_12 rfl) rfl (by show 2 * 0 + _ ≤ _; exact Nat.le_of_eq rfl) (hb hby at_32) (fun _ _ => ⟨rfl, e12, (by decide : 2 + 1 ≤ _), (by decide : 6 + 2 ≤ _)⟩)
  dsimp only [Pt.U, Pt.locs, Pt.cells, Pt.slots] at X17 l17 y17 z17 st17 hQ17
  subst l17 y17 z17
  obtain ⟨d1_17, kb_17, rfl, Nq17, Kq17, po17_0, po17_1, po17_2, po17_3, po17_4, po17_5⟩ := hQ17
  have N17 := Fr.app N9 Nq17
  have O17 := O12.keep Kq17 (allS ge15 all0)
  have k18 : Way p e below S0 T17 (mkF m 35 #[iv p1, iv p2, iv p3, iv p4, rv b2, .unset, .unset, .unset, .unset, .unset, .unset, .unset, .unset] [(.ref b12)]) := fun t k => k14 t (st17.trans k)
  have k19 : Way p e below S0 T17 (mkF m 43 #[iv p1, iv p2, iv p3, iv p4, rv b2, rv b12, .unset, .unset, .unset, .unset, .unset, .unset, .unset] [(.int ((p3 &&& (255 : Int32)).toUInt32.toUInt16.toUInt32.toInt32))]) := by
    intro t k
    refine k18 t ?_
    refine XS.astore X17.here hx rfl (hb hby at_35) rfl rfl (l' := #[iv p1, iv p2, iv p3, iv p4, rv b2, rv b12, .unset, .unset, .unset, .unset, .unset, .unset, .unset]) rfl ?_
    show Steps p.tables e below (T17.setTop (mkF m 37 #[iv p1, iv p2, iv p3, iv p4, rv b2, rv b12, .unset, .unset, .unset, .unset, .unset, .unset, .unset] [])) _
    refine XS.iloadN X17.here hx rfl (hb hby at_37) rfl ?_
    show Steps p.tables e below (T17.setTop (mkF m 38 #[iv p1, iv p2, iv p3, iv p4, rv b2, rv b12, .unset, .unset, .unset, .unset, .unset, .unset, .unset] [(.int p3)])) _
    refine XS.sipush X17.here hx rfl (hb hby at_38) ?_
    show Steps p.tables e below (T17.setTop (mkF m 41 #[iv p1, iv p2, iv p3, iv p4, rv b2, rv b12, .unset, .unset, .unset, .unset, .unset, .unset, .unset] [(.int (255 : Int32)), (.int p3)])) _
    refine XS.iand X17.here hx rfl (hb hby at_41) rfl ?_
    show Steps p.tables e below (T17.setTop (mkF m 42 #[iv p1, iv p2, iv p3, iv p4, rv b2, rv b12, .unset, .unset, .unset, .unset, .unset, .unset, .unset] [(.int (p3 &&& (255 : Int32)))])) _
    refine XS.i2c X17.here hx rfl (hb hby at_42) rfl ?_
    show Steps p.tables e below (T17.setTop (mkF m 43 #[iv p1, iv p2, iv p3, iv p4, rv b2, rv b12, .unset, .unset, .unset, .unset, .unset, .unset, .unset] [(.int ((p3 &&& (255 : Int32)).toUInt32.toUInt16.toUInt32.toInt32))])) _
    exact k
  obtain ⟨_, _, ⟨T20, L20, kk20, nn20⟩, -, X20, ⟨Lc20, hQ20, l20, y20, z20⟩, st20⟩ := Jvm.LawKit.callS X17 hx (y := (⟨"java/lang/String", "valueOf", "(C)Ljava/lang/String;"⟩ : MethodName)) hown (mvT hZ (hw _ (List.mem_of_getElem? (i := 30) rfl))) (mvT hZ (hw _ (List.mem_of_getElem? (i := 31) rfl))) (mvT hZ (hw _ (List.mem_of_getElem? (i := 3) rfl))) (mvT hZ (hw _ (List.mem_of_getElem? (i := 32) rfl))) (by decide) (backOf (W := 0) (svalueOf l Z a0 hw [] wCS wDE kDE G ((p3 &&& (255 : Int32)).toUInt32.toUInt16.toUInt32.toInt32) T17.heap n0 O17 (own_chr1 _ : ¬ ((255 : Int32) < ((p3 &&& (255 : Int32)).toUInt32.toUInt16.toUInt32.toInt32)))) hZ (hw _ (List.mem_of_getElem? (i := 32) rfl)) (hw _ (List.mem_of_getElem? (i := 3) rfl)) (by decide) (by decide)) (g := (mkF m 43 #[iv p1, iv p2, iv p3, iv p4, rv b2, rv b12, .unset, .unset, .unset, .unset, .unset, .unset, .unset] [(.int ((p3 &&& (255 : Int32)).toUInt32.toUInt16.toUInt32.toInt32))])) rfl (by rw [hml]; rfl) (argsL := [(.int ((p3 &&& (255 : Int32)).toUInt32.toUInt16.toUInt32.toInt32))]) (rest := []) (lenOf pd_13 rfl) rfl (by show 2 * 0 + _ ≤ _; exact Nat.le_of_eq rfl) (hb hby at_43) (fun _ _ => ⟨rfl, rfl, (by decide : 3 + 2 ≤ _), (by decide : 8 + 5 ≤ _)⟩)
  dsimp only [Pt.U, Pt.locs, Pt.cells, Pt.slots] at X20 l20 y20 z20 st20 hQ20
  subst l20 y20 z20
  obtain ⟨b1_20, d1_20, kb_20, rfl, Nq20, Kq20, po20_0, po20_1, po20_2, po20_3, po20_4, po20_5, po20_6⟩ := hQ20
  have N20 := Fr.app N17 Nq20
  have O20 := O17.keep Kq20 all0
  have k21 : Way p e below S0 T20 (mkF m 46 #[iv p1, iv p2, iv p3, iv p4, rv b2, rv b12, .unset, .unset, .unset, .unset, .unset, .unset, .unset] [(.ref b1_20)]) := fun t k => k19 t (st20 _ k)
  have k22 : Way p e below S0 T20 (mkF m 57 #[iv p1, iv p2, iv p3, iv p4, rv b2, rv b12, rv b1_20, .unset, .unset, .unset, .unset, .unset, .unset] [(.int ((((p3.toUInt32 >>> ((8 : Int32) &&& 31).toUInt32).toInt32) &&& (255 : Int32)).toUInt32.toUInt16.toUInt32.toInt32))]) := by
    intro t k
    refine k21 t ?_
    refine XS.astore X20.here hx rfl (hb hby at_46) rfl rfl (l' := #[iv p1, iv p2, iv p3, iv p4, rv b2, rv b12, rv b1_20, .unset, .unset, .unset, .unset, .unset, .unset]) rfl ?_
    show Steps p.tables e below (T20.setTop (mkF m 48 #[iv p1, iv p2, iv p3, iv p4, rv b2, rv b12, rv b1_20, .unset, .unset, .unset, .unset, .unset, .unset] [])) _
    refine XS.iloadN X20.here hx rfl (hb hby at_48) rfl ?_
    show Steps p.tables e below (T20.setTop (mkF m 49 #[iv p1, iv p2, iv p3, iv p4, rv b2, rv b12, rv b1_20, .unset, .unset, .unset, .unset, .unset, .unset] [(.int p3)])) _
    refine XS.bipush X20.here hx rfl (hb hby at_49) ?_
    show Steps p.tables e below (T20.setTop (mkF m 51 #[iv p1, iv p2, iv p3, iv p4, rv b2, rv b12, rv b1_20, .unset, .unset, .unset, .unset, .unset, .unset] [(.int (8 : Int32)), (.int p3)])) _
    refine XS.iushr X20.here hx rfl (hb hby at_51) rfl ?_
    show Steps p.tables e below (T20.setTop (mkF m 52 #[iv p1, iv p2, iv p3, iv p4, rv b2, rv b12, rv b1_20, .unset, .unset, .unset, .unset, .unset, .unset] [(.int ((p3.toUInt32 >>> ((8 : Int32) &&& 31).toUInt32).toInt32))])) _
    refine XS.sipush X20.here hx rfl (hb hby at_52) ?_
    show Steps p.tables e below (T20.setTop (mkF m 55 #[iv p1, iv p2, iv p3, iv p4, rv b2, rv b12, rv b1_20, .unset, .unset, .unset, .unset, .unset, .unset] [(.int (255 : Int32)), (.int ((p3.toUInt32 >>> ((8 : Int32) &&& 31).toUInt32).toInt32))])) _
    refine XS.iand X20.here hx rfl (hb hby at_55) rfl ?_
    show Steps p.tables e below (T20.setTop (mkF m 56 #[iv p1, iv p2, iv p3, iv p4, rv b2, rv b12, rv b1_20, .unset, .unset, .unset, .unset, .unset, .unset] [(.int (((p3.toUInt32 >>> ((8 : Int32) &&& 31).toUInt32).toInt32) &&& (255 : Int32)))])) _
    refine XS.i2c X20.here hx rfl (hb hby at_56) rfl ?_
    show Steps p.tables e below (T20.setTop (mkF m 57 #[iv p1, iv p2, iv p3, iv p4, rv b2, rv b12, rv b1_20, .unset, .unset, .unset, .unset, .unset, .unset] [(.int ((((p3.toUInt32 >>> ((8 : Int32) &&& 31).toUInt32).toInt32) &&& (255 : Int32)).toUInt32.toUInt16.toUInt32.toInt32))])) _
    exact k
  obtain ⟨_, _, ⟨T23, L23, kk23, nn23⟩, -, X23, ⟨Lc23, hQ23, l23, y23, z23⟩, st23⟩ := Jvm.LawKit.callS X20 hx (y := (⟨"java/lang/String", "valueOf", "(C)Ljava/lang/String;"⟩ : MethodName)) hown (mvT hZ (hw _ (List.mem_of_getElem? (i := 30) rfl))) (mvT hZ (hw _ (List.mem_of_getElem? (i := 31) rfl))) (mvT hZ (hw _ (List.mem_of_getElem? (i := 3) rfl))) (mvT hZ (hw _ (List.mem_of_getElem? (i := 32) rfl))) (by decide) (backOf (W := 0) (svalueOf l Z a0 hw [] wCS wDE kDE G ((((p3.toUInt32 >>> ((8 : Int32) &&& 31).toUInt32).toInt32) &&& (255 : Int32)).toUInt32.toUInt16.toUInt32.toInt32) T20.heap n0 O20 (own_chr1 _ : ¬ ((255 : Int32) < ((((p3.toUInt32 >>> ((8 : Int32) &&& 31).toUInt32).toInt32) &&& (255 : Int32)).toUInt32.toUInt16.toUInt32.toInt32)))) hZ (hw _ (List.mem_of_getElem? (i := 32) rfl)) (hw _ (List.mem_of_getElem? (i := 3) rfl)) (by decide) (by decide)) (g := (mkF m 57 #[iv p1, iv p2, iv p3, iv p4, rv b2, rv b12, rv b1_20, .unset, .unset, .unset, .unset, .unset, .unset] [(.int ((((p3.toUInt32 >>> ((8 : Int32) &&& 31).toUInt32).toInt32) &&& (255 : Int32)).toUInt32.toUInt16.toUInt32.toInt32))])) rfl (by rw [hml]; rfl) (argsL := [(.int ((((p3.toUInt32 >>> ((8 : Int32) &&& 31).toUInt32).toInt32) &&& (255 : Int32)).toUInt32.toUInt16.toUInt32.toInt32))]) (rest := []) (lenOf pd_13 rfl) rfl (by show 2 * 0 + _ ≤ _; exact Nat.le_of_eq rfl) (hb hby at_57) (fun _ _ => ⟨rfl, rfl, (by decide : 5 + 2 ≤ _), (by decide : 13 + 5 ≤ _)⟩)
  dsimp only [Pt.U, Pt.locs, Pt.cells, Pt.slots] at X23 l23 y23 z23 st23 hQ23
  subst l23 y23 z23
  obtain ⟨b1_23, d1_23, kb_23, rfl, Nq23, Kq23, po23_0, po23_1, po23_2, po23_3, po23_4, po23_5, po23_6⟩ := hQ23
  have N23 := Fr.app N20 Nq23
  have O23 := O20.keep Kq23 all0
  have k24 : Way p e below S0 T23 (mkF m 60 #[iv p1, iv p2, iv p3, iv p4, rv b2, rv b12, rv b1_20, .unset, .unset, .unset, .unset, .unset, .unset] [(.ref b1_23)]) := fun t k => k22 t (st23 _ k)
  have k25 : Way p e below S0 T23 (mkF m 70 #[iv p1, iv p2, iv p3, iv p4, rv b2, rv b12, rv b1_20, rv b1_23, iv (p1 &&& (3 : Int32)), .val .null, .unset, .unset, .unset] []) := by
    intro t k
    refine k24 t ?_
    refine XS.astore X23.here hx rfl (hb hby at_60) rfl rfl (l' := #[iv p1, iv p2, iv p3, iv p4, rv b2, rv b12, rv b1_20, rv b1_23, .unset, .unset, .unset, .unset, .unset]) rfl ?_
    show Steps p.tables e below (T23.setTop (mkF m 62 #[iv p1, iv p2, iv p3, iv p4, rv b2, rv b12, rv b1_20, rv b1_23, .unset, .unset, .unset, .unset, .unset] [])) _
    refine XS.iloadN X23.here hx rfl (hb hby at_62) rfl ?_
    show Steps p.tables e below (T23.setTop (mkF m 63 #[iv p1, iv p2, iv p3, iv p4, rv b2, rv b12, rv b1_20, rv b1_23, .unset, .unset, .unset, .unset, .unset] [(.int p1)])) _
    refine XS.iconst X23.here hx rfl (hb hby at_63) ?_
    show Steps p.tables e below (T23.setTop (mkF m 64 #[iv p1, iv p2, iv p3, iv p4, rv b2, rv b12, rv b1_20, rv b1_23, .unset, .unset, .unset, .unset, .unset] [(.int (3 : Int32)), (.int p1)])) _
    refine XS.iand X23.here hx rfl (hb hby at_64) rfl ?_
    show Steps p.tables e below (T23.setTop (mkF m 65 #[iv p1, iv p2, iv p3, iv p4, rv b2, rv b12, rv b1_20, rv b1_23, .unset, .unset, .unset, .unset, .unset] [(.int (p1 &&& (3 : Int32)))])) _
    refine XS.istore X23.here hx rfl (hb hby at_65) rfl (l' := #[iv p1, iv p2, iv p3, iv p4, rv b2, rv b12, rv b1_20, rv b1_23, iv (p1 &&& (3 : Int32)), .unset, .unset, .unset, .unset]) rfl ?_
    show Steps p.tables e below (T23.setTop (mkF m 67 #[iv p1, iv p2, iv p3, iv p4, rv b2, rv b12, rv b1_20, rv b1_23, iv (p1 &&& (3 : Int32)), .unset, .unset, .unset, .unset] [])) _
    refine XS.aconstNull X23.here hx rfl (hb hby at_67) ?_
    show Steps p.tables e below (T23.setTop (mkF m 68 #[iv p1, iv p2, iv p3, iv p4, rv b2, rv b12, rv b1_20, rv b1_23, iv (p1 &&& (3 : Int32)), .unset, .unset, .unset, .unset] [.null])) _
    refine XS.astore X23.here hx rfl (hb hby at_68) rfl rfl (l' := #[iv p1, iv p2, iv p3, iv p4, rv b2, rv b12, rv b1_20, rv b1_23, iv (p1 &&& (3 : Int32)), .val .null, .unset, .unset, .unset]) rfl ?_
    show Steps p.tables e below (T23.setTop (mkF m 70 #[iv p1, iv p2, iv p3, iv p4, rv b2, rv b12, rv b1_20, rv b1_23, iv (p1 &&& (3 : Int32)), .val .null, .unset, .unset, .unset] [])) _
    exact k
  have hr26 : (p1 &&& (3 : Int32)) = (0 : Int32) ∨ (p1 &&& (3 : Int32)) = (1 : Int32) ∨ (p1 &&& (3 : Int32)) = (2 : Int32) ∨ (p1 &&& (3 : Int32)) = (3 : Int32) := own_mask3 p1
  rcases hr26 with hi26 | hi26 | hi26 | hi26
  · have k27 : Way p e below S0 T23 (mkF m 70 #[iv p1, iv p2, iv p3, iv p4, rv b2, rv b12, rv b1_20, rv b1_23, iv (0 : Int32), .val .null, .unset, .unset, .unset] []) := by have q := k25; rw [hi26] at q; exact q
    have k28 : Way p e below S0 T23 (mkF m 116 #[iv p1, iv p2, iv p3, iv p4, rv b2, rv b12, rv b1_20, rv b1_23, iv (0 : Int32), .val .null, .unset, .unset, .unset] []) := by
      intro t k
      refine k27 t ?_
      refine XS.iload X23.here hx rfl (hb hby at_70) rfl ?_
      show Steps p.tables e below (T23.setTop (mkF m 72 #[iv p1, iv p2, iv p3, iv p4, rv b2, rv b12, rv b1_20, rv b1_23, iv (0 : Int32), .val .null, .unset, .unset, .unset] [(.int (0 : Int32))])) _
      refine XS.ifYes X23.here hx rfl (pc0 := 72) (pc' := 116) rfl (hb hby at_72) rfl ((if0 _ _).trans (teq ((by decide) : (0 : Int32) = (0 : Int32))).1) (by decide) (by decide) ?_
      show Steps p.tables e below (T23.setTop (mkF m 116 #[iv p1, iv p2, iv p3, iv p4, rv b2, rv b12, rv b1_20, rv b1_23, iv (0 : Int32), .val .null, .unset, .unset, .unset] [])) _
      exact k
    obtain ⟨T29, h29, X29, e29, E29, A29, D29, U29, st29⟩ := newO X23 hx hZ hown (hw _ (List.mem_of_getElem? (i := 44) rfl)) (hw _ (List.mem_of_getElem? (i := 45) rfl)) (hw _ (List.mem_of_getElem? (i := 46) rfl)) rfl (g := (mkF m 116 #[iv p1, iv p2, iv p3, iv p4, rv b2, rv b12, rv b1_20, rv b1_23, iv (0 : Int32), .val .null, .unset, .unset, .unset] [])) rfl (hb hby at_116) (by decide) (by decide)
    obtain ⟨b29, g29⟩ : ∃ z, z = T23.heap.size := ⟨_, rfl⟩
    rw [← g29] at A29 D29 U29 st29
    have O29 := O23.ext E29
    have i29_modCount : Fld Z h29 b29 "java/util/AbstractList" "modCount" "I" (.int (0 : Int32)) := D29 (Or.inl (hw _ (List.mem_of_getElem? (i := 64) rfl))) (ty := .int) (by decide)
    have i29_elementData : Fld Z h29 b29 "java/util/ArrayList" "elementData" "[Ljava/lang/Object;" .null := D29 (Or.inl (hw _ (List.mem_of_getElem? (i := 67) rfl))) (ty := (.array (.object "java/lang/Object"))) (by decide)
    have i29_size : Fld Z h29 b29 "java/util/ArrayList" "size" "I" (.int (0 : Int32)) := D29 (Or.inl (hw _ (List.mem_of_getElem? (i := 114) rfl))) (ty := .int) (by decide)
    have k30 : Way p e below S0 T29 (mkF m 119 #[iv p1, iv p2, iv p3, iv p4, rv b2, rv b12, rv b1_20, rv b1_23, iv (0 : Int32), .val .null, .unset, .unset, .unset] [(.ref b29)]) := fun t k => k28 t (st29 _ k)
    have k31 : Way p e below S0 T29 (mkF m 120 #[iv p1, iv p2, iv p3, iv p4, rv b2, rv b12, rv b1_20, rv b1_23, iv (0 : Int32), .val .null, .unset, .unset, .unset] [(.ref b29), (.ref b29)]) := by
      intro t k
      refine k30 t ?_
      refine XS.dup X29.here hx rfl (hb hby at_119) rfl rfl ?_
      show Steps p.tables e below (T29.setTop (mkF m 120 #[iv p1, iv p2, iv p3, iv p4, rv b2, rv b12, rv b1_20, rv b1_23, iv (0 : Int32), .val .null, .unset, .unset, .unset] [(.ref b29), (.ref b29)])) _
      exact k
    have ge32 : n0 ≤ b29 := Nat.le_trans (own_old O23) (Nat.le_of_eq g29.symm)
    obtain ⟨_, _, ⟨T33, L33, kk33, nn33⟩, -, X33, ⟨Lc33, hQ33, l33, y33, z33⟩, st33⟩ := X29.specialBack hx (y := (⟨"java/util/ArrayList", "<init>", "()V"⟩ : MethodName)) rfl hown (mvT hZ (hw _ (List.mem_of_getElem? (i := 47) rfl))) (mvT hZ (hw _ (List.mem_of_getElem? (i := 48) rfl))) (mvT hZ (hw _ (List.mem_of_getElem? (i := 49) rfl))) (by decide) (backOf (W := 1) (alInit l Z a0 hw [] wCS wDE kDE G b29 h29 n0 O29 (A29 : Exa Z h29 b29 "java/util/ArrayList") (i29_modCount : Fld Z h29 b29 "java/util/AbstractList" "modCount" "I" (.int (0 : Int32))) (i29_elementData : Fld Z h29 b29 "java/util/ArrayList" "elementData" "[Ljava/lang/Object;" .null) (i29_size : Fld Z h29 b29 "java/util/ArrayList" "size" "I" (.int (0 : Int32))) (ge32 : n0 ≤ b29)) hZ (hw _ (List.mem_of_getElem? (i := 49) rfl)) (hw _ (List.mem_of_getElem? (i := 46) rfl)) (by decide) (by decide)) (g := (mkF m 120 #[iv p1, iv p2, iv p3, iv p4, rv b2, rv b12, rv b1_20, rv b1_23, iv (0 : Int32), .val .null, .unset, .unset, .unset] [(.ref b29), (.ref b29)])) rfl (by rw [hml]; rfl) (Steps.refl _) (a := b29) (argsL := []) (rest := [(.ref b29)]) (lenOf pd_7 rfl) rfl (by show 2 * 0 + _ ≤ _; exact Nat.le_of_eq rfl) (hb hby at_120) (fun _ _ => ⟨rfl, e29, (by decide : 8 + 0 ≤ _), (by decide : 21 + 0 ≤ _)⟩)
    dsimp only [Pt.U, Pt.locs, Pt.cells, Pt.slots] at X33 l33 y33 z33 st33 hQ33
    subst l33 y33 z33
    obtain ⟨rfl, Nq33, Kq33, po33_0, po33_1, po33_2, po33_3⟩ := hQ33
    have N33 := Fr.app N23 Nq33
    have O33 := O29.keep Kq33 (allS ge32 all0)
    have k34 : Way p e below S0 T33 (mkF m 123 #[iv p1, iv p2, iv p3, iv p4, rv b2, rv b12, rv b1_20, rv b1_23, iv (0 : Int32), .val .null, .unset, .unset, .unset] [(.ref b29)]) := fun t k => k31 t (st33.trans k)
    have k35 : Way p e below S0 T33 (mkF m 125 #[iv p1, iv p2, iv p3, iv p4, rv b2, rv b12, rv b1_20, rv b1_23, iv (0 : Int32), .val .null, rv b29, .unset, .unset] []) := by
      intro t k
      refine k34 t ?_
      refine XS.astore X33.here hx rfl (hb hby at_123) rfl rfl (l' := #[iv p1, iv p2, iv p3, iv p4, rv b2, rv b12, rv b1_20, rv b1_23, iv (0 : Int32), .val .null, rv b29, .unset, .unset]) rfl ?_
      show Steps p.tables e below (T33.setTop (mkF m 125 #[iv p1, iv p2, iv p3, iv p4, rv b2, rv b12, rv b1_20, rv b1_23, iv (0 : Int32), .val .null, rv b29, .unset, .unset] [])) _
      exact k
    obtain ⟨T36, h36, X36, e36, E36, A36, D36, U36, st36⟩ := newO X33 hx hZ hown (hw _ (List.mem_of_getElem? (i := 68) rfl)) (hw _ (List.mem_of_getElem? (i := 69) rfl)) (hw _ (List.mem_of_getElem? (i := 70) rfl)) rfl (g := (mkF m 125 #[iv p1, iv p2, iv p3, iv p4, rv b2, rv b12, rv b1_20, rv b1_23, iv (0 : Int32), .val .null, rv b29, .unset, .unset] [])) rfl (hb hby at_125) (by decide) (by decide)
    obtain ⟨b36, g36⟩ : ∃ z, z = T33.heap.size := ⟨_, rfl⟩
    rw [← g36] at A36 D36 U36 st36
    have O36 := O33.ext E36
    have i36_name : Fld Z h36 b36 "com/example/stubwright/stubwright/idl/Macros$Macro" "name" "Ljava/lang/String;" .null := D36 (Or.inr (hw _ (List.mem_of_getElem? (i := 94) rfl))) (ty := (.object "java/lang/String")) (by decide)
    have i36_parameters : Fld Z h36 b36 "com/example/stubwright/stubwright/idl/Macros$Macro" "parameters" "Ljava/util/List;" .null := D36 (Or.inr (hw _ (List.mem_of_getElem? (i := 96) rfl))) (ty := (.object "java/util/List")) (by decide)
    have i36_body : Fld Z h36 b36 "com/example/stubwright/stubwright/idl/Macros$Macro" "body" "Ljava/util/List;" .null := D36 (Or.inr (hw _ (List.mem_of_getElem? (i := 98) rfl))) (ty := (.object "java/util/List")) (by decide)
    have i36_location : Fld Z h36 b36 "com/example/stubwright/stubwright/idl/Macros$Macro" "location" "Lcom/example/stubwright/stubwright/idl/Location;" .null := D36 (Or.inr (hw _ (List.mem_of_getElem? (i := 100) rfl))) (ty := (.object "com/example/stubwright/stubwright/idl/Location")) (by decide)
    have k37 : Way p e below S0 T36 (mkF m 128 #[iv p1, iv p2, iv p3, iv p4, rv b2, rv b12, rv b1_20, rv b1_23, iv (0 : Int32), .val .null, rv b29, .unset, .unset] [(.ref b36)]) := fun t k => k35 t (st36 _ k)
    have k38 : Way p e below S0 T36 (mkF m 135 #[iv p1, iv p2, iv p3, iv p4, rv b2, rv b12, rv b1_20, rv b1_23, iv (0 : Int32), .val .null, rv b29, .unset, .unset] [(.ref b29), .null, (.ref b12), (.ref b36), (.ref b36)]) := by
      intro t k
      refine k37 t ?_
      refine XS.dup X36.here hx rfl (hb hby at_128) rfl rfl ?_
      show Steps p.tables e below (T36.setTop (mkF m 129 #[iv p1, iv p2, iv p3, iv p4, rv b2, rv b12, rv b1_20, rv b1_23, iv (0 : Int32), .val .null, rv b29, .unset, .unset] [(.ref b36), (.ref b36)])) _
      refine XS.aload X36.here hx rfl (hb hby at_129) rfl rfl ?_
      show Steps p.tables e below (T36.setTop (mkF m 131 #[iv p1, iv p2, iv p3, iv p4, rv b2, rv b12, rv b1_20, rv b1_23, iv (0 : Int32), .val .null, rv b29, .unset, .unset] [(.ref b12), (.ref b36), (.ref b36)])) _
      refine XS.aload X36.here hx rfl (hb hby at_131) rfl rfl ?_
      show Steps p.tables e below (T36.setTop (mkF m 133 #[iv p1, iv p2, iv p3, iv p4, rv b2, rv b12, rv b1_20, rv b1_23, iv (0 : Int32), .val .null, rv b29, .unset, .unset] [.null, (.ref b12), (.ref b36), (.ref b36)])) _
      refine XS.aload X36.here hx rfl (hb hby at_133) rfl rfl ?_
      show Steps p.tables e below (T36.setTop (mkF m 135 #[iv p1, iv p2, iv p3, iv p4, rv b2, rv b12, rv b1_20, rv b1_23, iv (0 : Int32), .val .null, rv b29, .unset, .unset] [(.ref b29), .null, (.ref b12), (.ref b36), (.ref b36)])) _
      exact k
    obtain ⟨T39, h39, X39, e39, E39, A39, D39, U39, st39⟩ := newO X36 hx hZ hown (hw _ (List.mem_of_getElem? (i := 71) rfl)) (hw _ (List.mem_of_getElem? (i := 72) rfl)) (hw _ (List.mem_of_getElem? (i := 73) rfl)) e36 (g := (mkF m 135 #[iv p1, iv p2, iv p3, iv p4, rv b2, rv b12, rv b1_20, rv b1_23, iv (0 : Int32), .val .null, rv b29, .unset, .unset] [(.ref b29), .null, (.ref b12), (.ref b36), (.ref b36)])) rfl (hb hby at_135) (by decide) (by decide)
    obtain ⟨b39, g39⟩ : ∃ z, z = h36.size := ⟨_, rfl⟩
    rw [← g39] at A39 D39 U39 st39
    have O39 := O36.ext E39
    have i39_file : Fld Z h39 b39 "com/example/stubwright/stubwright/idl/Location" "file" "Ljava/lang/String;" .null := D39 (Or.inr (hw _ (List.mem_of_getElem? (i := 84) rfl))) (ty := (.object "java/lang/String")) (by decide)
    have i39_line : Fld Z h39 b39 "com/example/stubwright/stubwright/idl/Location" "line" "I" (.int (0 : Int32)) := D39 (Or.inr (hw _ (List.mem_of_getElem? (i := 86) rfl))) (ty := .int) (by decide)
    have i39_column : Fld Z h39 b39 "com/example/stubwright/stubwright/idl/Location" "column" "I" (.int (0 : Int32)) := D39 (Or.inr (hw _ (List.mem_of_getElem? (i := 88) rfl))) (ty := .int) (by decide)
    have k40 : Way p e below S0 T39 (mkF m 138 #[iv p1, iv p2, iv p3, iv p4, rv b2, rv b12, rv b1_20, rv b1_23, iv (0 : Int32), .val .null, rv b29, .unset, .unset] [(.ref b39), (.ref b29), .null, (.ref b12), (.ref b36), (.ref b36)]) := fun t k => k38 t (st39 _ k)
    have k41 : Way p e below S0 T39 (mkF m 143 #[iv p1, iv p2, iv p3, iv p4, rv b2, rv b12, rv b1_20, rv b1_23, iv (0 : Int32), .val .null, rv b29, .unset, .unset] [(.int p1), (.int p4), (.ref b12), (.ref b39), (.ref b39), (.ref b29), .null, (.ref b12), (.ref b36), (.ref b36)]) := by
      intro t k
      refine k40 t ?_
      refine XS.dup X39.here hx rfl (hb hby at_138) rfl rfl ?_
      show Steps p.tables e below (T39.setTop (mkF m 139 #[iv p1, iv p2, iv p3, iv p4, rv b2, rv b12, rv b1_20, rv b1_23, iv (0 : Int32), .val .null, rv b29, .unset, .unset] [(.ref b39), (.ref b39), (.ref b29), .null, (.ref b12), (.ref b36), (.ref b36)])) _
      refine XS.aload X39.here hx rfl (hb hby at_139) rfl rfl ?_
      show Steps p.tables e below (T39.setTop (mkF m 141 #[iv p1, iv p2, iv p3, iv p4, rv b2, rv b12, rv b1_20, rv b1_23, iv (0 : Int32), .val .null, rv b29, .unset, .unset] [(.ref b12), (.ref b39), (.ref b39), (.ref b29), .null, (.ref b12), (.ref b36), (.ref b36)])) _
      refine XS.iloadN X39.here hx rfl (hb hby at_141) rfl ?_
      show Steps p.tables e below (T39.setTop (mkF m 142 #[iv p1, iv p2, iv p3, iv p4, rv b2, rv b12, rv b1_20, rv b1_23, iv (0 : Int32), .val .null, rv b29, .unset, .unset] [(.int p4), (.ref b12), (.ref b39), (.ref b39), (.ref b29), .null, (.ref b12), (.ref b36), (.ref b36)])) _
      refine XS.iloadN X39.here hx rfl (hb hby at_142) rfl ?_
      show Steps p.tables e below (T39.setTop (mkF m 143 #[iv p1, iv p2, iv p3, iv p4, rv b2, rv b12, rv b1_20, rv b1_23, iv (0 : Int32), .val .null, rv b29, .unset, .unset] [(.int p1), (.int p4), (.ref b12), (.ref b39), (.ref b39), (.ref b29), .null, (.ref b12), (.ref b36), (.ref b36)])) _
      exact k
    have ge42 : n0 ≤ b39 := Nat.le_trans (own_old O36) (Nat.le_of_eq g39.symm)
    obtain ⟨_, _, ⟨T43, L43, kk43, nn43⟩, -, X43, ⟨Lc43, hQ43, l43, y43, z43⟩, st43⟩ := X39.specialBack hx (y := (⟨"com/example/stubwright/stubwright/idl/Location", "<init>", "(Ljava/lang/String;II)V"⟩ : MethodName)) rfl hown (mvT hZ (hw _ (List.mem_of_getElem? (i := 74) rfl))) (mvT hZ (hw _ (List.mem_of_getElem? (i := 75) rfl))) (mvT hZ (hw _ (List.mem_of_getElem? (i := 76) rfl))) (by decide) (backOf (W := 6) (locInit l Z a0 hw [] wCS wDE kDE G b39 b12 p4 p1 h39 n0 O39 (A39 : Exa Z h39 b39 "com/example/stubwright/stubwright/idl/Location") (i39_file : Fld Z h39 b39 "com/example/stubwright/stubwright/idl/Location" "file" "Ljava/lang/String;" .null) (i39_line : Fld Z h39 b39 "com/example/stubwright/stubwright/idl/Location" "line" "I" (.int (0 : Int32))) (i39_column : Fld Z h39 b39 "com/example/stubwright/stubwright/idl/Location" "column" "I" (.int (0 : Int32))) (ge42 : n0 ≤ b39)) hZ (hw _ (List.mem_of_getElem? (i := 76) rfl)) (hw _ (List.mem_of_getElem? (i := 73) rfl)) (by decide) (by decide)) (g := (mkF m 143 #[iv p1, iv p2, iv p3, iv p4, rv b2, rv b12, rv b1_20, rv b1_23, iv (0 : Int32), .val .null, rv b29, .unset, .unset] [(.int p1), (.int p4), (.ref b12), (.ref b39), (.ref b39), (.ref b29), .null, (.ref b12), (.ref b36), (.ref b36)])) rfl (by rw [hml]; rfl) (Steps.refl _) (a := b39) (argsL := [(.ref b12), (.int p4), (.int p1)]) (rest := [(.ref b39), (.ref b29), .null, (.ref b12), (.ref b36), (.ref b36)]) (lenOf pd_14 rfl) rfl (by show 2 * 0 + _ ≤ _; exact Nat.le_of_eq rfl) (hb hby at_143) (fun _ _ => ⟨rfl, e39, (by decide : 10 + 0 ≤ _), (by decide : 28 + 0 ≤ _)⟩)
    dsimp only [Pt.U, Pt.locs, Pt.cells, Pt.slots] at X43 l43 y43 z43 st43 hQ43
    subst l43 y43 z43
    obtain ⟨rfl, Nq43, Kq43, po43_0⟩ := hQ43
    have N43 := Fr.app N33 Nq43
    have O43 := O39.keep Kq43 (allS ge42 all0)
    have k44 : Way p e below S0 T43 (mkF m 146 #[iv p1, iv p2, iv p3, iv p4, rv b2, rv b12, rv b1_20, rv b1_23, iv (0 : Int32), .val .null, rv b29, .unset, .unset] [(.ref b39), (.ref b29), .null, (.ref b12), (.ref b36), (.ref b36)]) := fun t k => k41 t (st43.trans k)
    have f45 : Exa Z T43.heap b36 "com/example/stubwright/stubwright/idl/Macros$Macro" := ((A36.ext E39).keep Kq43)
    have f46 : Fld Z T43.heap b36 "com/example/stubwright/stubwright/idl/Macros$Macro" "name" "Ljava/lang/String;" .null := ((i36_name.ext E39).keep Kq43 (ninS (Nat.ne_of_lt (Nat.lt_of_lt_of_le i36_name.lt (Nat.le_of_eq g39.symm))) nin0))
    have f47 : Fld Z T43.heap b36 "com/example/stubwright/stubwright/idl/Macros$Macro" "parameters" "Ljava/util/List;" .null := ((i36_parameters.ext E39).keep Kq43 (ninS (Nat.ne_of_lt (Nat.lt_of_lt_of_le i36_parameters.lt (Nat.le_of_eq g39.symm))) nin0))
    have f48 : Fld Z T43.heap b36 "com/example/stubwright/stubwright/idl/Macros$Macro" "body" "Ljava/util/List;" .null := ((i36_body.ext E39).keep Kq43 (ninS (Nat.ne_of_lt (Nat.lt_of_lt_of_le i36_body.lt (Nat.le_of_eq g39.symm))) nin0))
    have f49 : Fld Z T43.heap b36 "com/example/stubwright/stubwright/idl/Macros$Macro" "location" "Lcom/example/stubwright/stubwright/idl/Location;" .null := ((i36_location.ext E39).keep Kq43 (ninS (Nat.ne_of_lt (Nat.lt_of_lt_of_le i36_location.lt (Nat.le_of_eq g39.symm))) nin0))
    have ge50 : n0 ≤ b36 := Nat.le_trans (own_old O33) (Nat.le_of_eq g36.symm)
    obtain ⟨_, _, ⟨T51, L51, kk51, nn51⟩, -, X51, ⟨Lc51, hQ51, l51, y51, z51⟩, st51⟩ := X43.specialBack hx (y := (⟨"com/example/stubwright/stubwright/idl/Macros$Macro", "<init>", "(Ljava/lang/String;Ljava/util/List;Ljava/util/List;Lcom/example/stubwright/stubwright/idl/Location;)V"⟩ : MethodName)) rfl hown (mvT hZ (hw _ (List.mem_of_getElem? (i := 89) rfl))) (mvT hZ (hw _ (List.mem_of_getElem? (i := 90) rfl))) (mvT hZ (hw _ (List.mem_of_getElem? (i := 91) rfl))) (by decide) (backOf (W := 1) (macInit0 l Z a0 hw [] wCS wDE kDE G b36 b12 b29 b39 T43.heap n0 O43 (f45 : Exa Z T43.heap b36 "com/example/stubwright/stubwright/idl/Macros$Macro") (f46 : Fld Z T43.heap b36 "com/example/stubwright/stubwright/idl/Macros$Macro" "name" "Ljava/lang/String;" .null) (f47 : Fld Z T43.heap b36 "com/example/stubwright/stubwright/idl/Macros$Macro" "parameters" "Ljava/util/List;" .null) (f48 : Fld Z T43.heap b36 "com/example/stubwright/stubwright/idl/Macros$Macro" "body" "Ljava/util/List;" .null) (f49 : Fld Z T43.heap b36 "com/example/stubwright/stubwright/idl/Macros$Macro" "location" "Lcom/example/stubwright/stubwright/idl/Location;" .null) (ge50 : n0 ≤ b36)) hZ (hw _ (List.mem_of_getElem? (i := 91) rfl)) (hw _ (List.mem_of_getElem? (i := 70) rfl)) (by decide) (by decide)) (g := (mkF m 146 #[iv p1, iv p2, iv p3, iv p4, rv b2, rv b12, rv b1_20, rv b1_23, iv (0 : Int32), .val .null, rv b29, .unset, .unset] [(.ref b39), (.ref b29), .null, (.ref b12), (.ref b36), (.ref b36)])) rfl (by rw [hml]; rfl) (Steps.refl _) (a := b36) (argsL := [(.ref b12), .null, (.ref b29), (.ref b39)]) (rest := [(.ref b36)]) (lenOf pd_15 rfl) rfl (by show 2 * 0 + _ ≤ _; exact Nat.le_of_eq rfl) (hb hby at_146) (fun _ _ => ⟨rfl, rfl, (by decide : 10 + 0 ≤ _), (by decide : 28 + 0 ≤ _)⟩)
    dsimp only [Pt.U, Pt.locs, Pt.cells, Pt.slots] at X51 l51 y51 z51 st51 hQ51
    subst l51 y51 z51
    obtain ⟨rfl, Nq51, Kq51, po51_0, po51_1⟩ := hQ51
    have N51 := Fr.app N43 Nq51
    have O51 := O43.keep Kq51 (allS ge50 all0)
    have k52 : Way p e below S0 T51 (mkF m 149 #[iv p1, iv p2, iv p3, iv p4, rv b2, rv b12, rv b1_20, rv b1_23, iv (0 : Int32), .val .null, rv b29, .unset, .unset] [(.ref b36)]) := fun t k => k44 t (st51.trans k)
    have k53 : Way p e below S0 T51 (mkF m 165 #[iv p1, iv p2, iv p3, iv p4, rv b2, rv b12, rv b1_20, rv b1_23, iv (0 : Int32), .val .null, rv b29, rv b36, iv (0 : Int32)] [(.ref b36)]) := by
      intro t k
      refine k52 t ?_
      refine XS.astore X51.here hx rfl (hb hby at_149) rfl rfl (l' := #[iv p1, iv p2, iv p3, iv p4, rv b2, rv b12, rv b1_20, rv b1_23, iv (0 : Int32), .val .null, rv b29, rv b36, .unset]) rfl ?_
      show Steps p.tables e below (T51.setTop (mkF m 151 #[iv p1, iv p2, iv p3, iv p4, rv b2, rv b12, rv b1_20, rv b1_23, iv (0 : Int32), .val .null, rv b29, rv b36, .unset] [])) _
      refine XS.iload X51.here hx rfl (hb hby at_151) rfl ?_
      show Steps p.tables e below (T51.setTop (mkF m 153 #[iv p1, iv p2, iv p3, iv p4, rv b2, rv b12, rv b1_20, rv b1_23, iv (0 : Int32), .val .null, rv b29, rv b36, .unset] [(.int (0 : Int32))])) _
      refine XS.ifYes X51.here hx rfl (pc0 := 153) (pc' := 160) rfl (hb hby at_153) rfl ((if0 _ _).trans (teq ((by decide) : (0 : Int32) = (0 : Int32))).1) (by decide) (by decide) ?_
      show Steps p.tables e below (T51.setTop (mkF m 160 #[iv p1, iv p2, iv p3, iv p4, rv b2, rv b12, rv b1_20, rv b1_23, iv (0 : Int32), .val .null, rv b29, rv b36, .unset] [])) _
      refine XS.iconst X51.here hx rfl (hb hby at_160) ?_
      show Steps p.tables e below (T51.setTop (mkF m 161 #[iv p1, iv p2, iv p3, iv p4, rv b2, rv b12, rv b1_20, rv b1_23, iv (0 : Int32), .val .null, rv b29, rv b36, .unset] [(.int (0 : Int32))])) _
      refine XS.istore X51.here hx rfl (hb hby at_161) rfl (l' := #[iv p1, iv p2, iv p3, iv p4, rv b2, rv b12, rv b1_20, rv b1_23, iv (0 : Int32), .val .null, rv b29, rv b36, iv (0 : Int32)]) rfl ?_
      show Steps p.tables e below (T51.setTop (mkF m 163 #[iv p1, iv p2, iv p3, iv p4, rv b2, rv b12, rv b1_20, rv b1_23, iv (0 : Int32), .val .null, rv b29, rv b36, iv (0 : Int32)] [])) _
      refine XS.aload X51.here hx rfl (hb hby at_163) rfl rfl ?_
      show Steps p.tables e below (T51.setTop (mkF m 165 #[iv p1, iv p2, iv p3, iv p4, rv b2, rv b12, rv b1_20, rv b1_23, iv (0 : Int32), .val .null, rv b29, rv b36, iv (0 : Int32)] [(.ref b36)])) _
      exact k
    obtain ⟨cq54, kq54, qq54a, qq54b, qq54c⟩ := isOf hZ rfl po51_0
    obtain ⟨_, _, ⟨T54, L54, kk54, nn54⟩, -, X54, ⟨Lc54, hQ54, l54, y54, z54⟩, st54⟩ := X51.virtualBack hx (y := (⟨"com/example/stubwright/stubwright/idl/Macros$Macro", "functionLike", "()Z"⟩ : MethodName)) (z := (⟨"com/example/stubwright/stubwright/idl/Macros$Macro", "functionLike", "()Z"⟩ : MethodName)) hown (mvT hZ (hw _ (List.mem_of_getElem? (i := 101) rfl))) (mvT hZ (hw _ (List.mem_of_getElem? (i := 102) rfl))) (notFace_of_selects (args := #[]) (mvT hZ (hw _ (List.mem_of_getElem? (i := 104) rfl)))) (mvT hZ (hw _ (List.mem_of_getElem? (i := 104) rfl))) (mvT hZ (hw _ (List.mem_of_getElem? (i := 103) rfl))) (by decide) (backOf (W := 0) (fl0 l Z a0 hw [] wCS wDE kDE G b36 T51.heap n0 O51 (po51_1 : Fld Z T51.heap b36 "com/example/stubwright/stubwright/idl/Macros$Macro" "parameters" "Ljava/util/List;" .null)) hZ (hw _ (List.mem_of_getElem? (i := 105) rfl)) (hw _ (List.mem_of_getElem? (i := 70) rfl)) (by decide) (by decide)) qq54a qq54c (g := (mkF m 165 #[iv p1, iv p2, iv p3, iv p4, rv b2, rv b12, rv b1_20, rv b1_23, iv (0 : Int32), .val .null, rv b29, rv b36, iv (0 : Int32)] [(.ref b36)])) rfl (by rw [hml]; rfl) (Steps.refl _) (argsL := []) (rest := []) (lenOf pd_16 rfl) rfl (by show 2 * 0 + _ ≤ _; exact Nat.le_of_eq rfl) (hb hby at_165) (fun _ _ => ⟨rfl, rfl, (by decide : 10 + 0 ≤ _), (by decide : 28 + 0 ≤ _)⟩)
    dsimp only [Pt.U, Pt.locs, Pt.cells, Pt.slots] at X54 l54 y54 z54 st54 hQ54
    subst l54 y54 z54
    obtain ⟨rfl, Nq54, e54⟩ := hQ54
    have N54 := Fr.app N51 Nq54
    have k55 : Way p e below S0 T54 (mkF m 168 #[iv p1, iv p2, iv p3, iv p4, rv b2, rv b12, rv b1_20, rv b1_23, iv (0 : Int32), .val .null, rv b29, rv b36, iv (0 : Int32)] [(.int (0 : Int32))]) := fun t k => k53 t (st54.trans k)
    have k56 : Way p e below S0 T54 (mkF m 178 #[iv p1, iv p2, iv p3, iv p4, rv b2, rv b12, rv b1_20, rv b1_23, iv (0 : Int32), .val .null, rv b29, rv b36, iv (0 : Int32)] [(.int (1 : Int32))]) := by
      intro t k
      refine k55 t ?_
      refine XS.iload X54.here hx rfl (hb hby at_168) rfl ?_
      show Steps p.tables e below (T54.setTop (mkF m 170 #[iv p1, iv p2, iv p3, iv p4, rv b2, rv b12, rv b1_20, rv b1_23, iv (0 : Int32), .val .null, rv b29, rv b36, iv (0 : Int32)] [(.int (0 : Int32)), (.int (0 : Int32))])) _
      refine XS.icmpNo X54.here hx rfl (hb hby at_170) rfl (teq ((by decide) : (0 : Int32) = (0 : Int32))).2 ?_
      show Steps p.tables e below (T54.setTop (mkF m 173 #[iv p1, iv p2, iv p3, iv p4, rv b2, rv b12, rv b1_20, rv b1_23, iv (0 : Int32), .val .null, rv b29, rv b36, iv (0 : Int32)] [])) _
      refine XS.iconst X54.here hx rfl (hb hby at_173) ?_
      show Steps p.tables e below (T54.setTop (mkF m 174 #[iv p1, iv p2, iv p3, iv p4, rv b2, rv b12, rv b1_20, rv b1_23, iv (0 : Int32), .val .null, rv b29, rv b36, iv (0 : Int32)] [(.int (1 : Int32))])) _
      refine XS.goto X54.here hx rfl (pc0 := 174) (pc' := 178) rfl (hb hby at_174) (by decide) (by decide) ?_
      show Steps p.tables e below (T54.setTop (mkF m 178 #[iv p1, iv p2, iv p3, iv p4, rv b2, rv b12, rv b1_20, rv b1_23, iv (0 : Int32), .val .null, rv b29, rv b36, iv (0 : Int32)] [(.int (1 : Int32))])) _
      exact k
    obtain ⟨fs, hr, hrun, hended, hW, hsame⟩ := X54.leave (v := some (.int (1 : Int32))) (fun h => by rw [Bd.returns] at h; cases h)
    refine ⟨_, _, k56 _ (retN X54 hx (t := .boolean) Bd.returns (by simp) (hb hby at_178) hr), hrun, hended, _, _, rfl, ?_, ⟨_, rfl⟩, hW, hsame.mono (by decide) (by decide)⟩
    show Q_law_met Z wCS wDE kDE p1 p2 p3 p4 h0 n0 _ T54.heap _
    rw [e54]
    exact ⟨rfl, N54⟩
  · have k57 : Way p e below S0 T23 (mkF m 70 #[iv p1, iv p2, iv p3, iv p4, rv b2, rv b12, rv b1_20, rv b1_23, iv (1 : Int32), .val .null, .unset, .unset, .unset] []) := by have q := k25; rw [hi26] at q; exact q
    have k58 : Way p e below S0 T23 (mkF m 75 #[iv p1, iv p2, iv p3, iv p4, rv b2, rv b12, rv b1_20, rv b1_23, iv (1 : Int32), .val .null, .unset, .unset, .unset] []) := by
      intro t k
      refine k57 t ?_
      refine XS.iload X23.here hx rfl (hb hby at_70) rfl ?_
      show Steps p.tables e below (T23.setTop (mkF m 72 #[iv p1, iv p2, iv p3, iv p4, rv b2, rv b12, rv b1_20, rv b1_23, iv (1 : Int32), .val .null, .unset, .unset, .unset] [(.int (1 : Int32))])) _
      refine XS.ifNo X23.here hx rfl (hb hby at_72) rfl ((if0 _ _).trans (feq ((by decide) : ¬ ((1 : Int32) = (0 : Int32)))).1) ?_
      show Steps p.tables e below (T23.setTop (mkF m 75 #[iv p1, iv p2, iv p3, iv p4, rv b2, rv b12, rv b1_20, rv b1_23, iv (1 : Int32), .val .null, .unset, .unset, .unset] [])) _
      exact k
    obtain ⟨T59, h59, X59, e59, E59, A59, D59, U59, st59⟩ := newO X23 hx hZ hown (hw _ (List.mem_of_getElem? (i := 44) rfl)) (hw _ (List.mem_of_getElem? (i := 45) rfl)) (hw _ (List.mem_of_getElem? (i := 46) rfl)) rfl (g := (mkF m 75 #[iv p1, iv p2, iv p3, iv p4, rv b2, rv b12, rv b1_20, rv b1_23, iv (1 : Int32), .val .null, .unset, .unset, .unset] [])) rfl (hb hby at_75) (by decide) (by decide)
    obtain ⟨b59, g59⟩ : ∃ z, z = T23.heap.size := ⟨_, rfl⟩
    rw [← g59] at A59 D59 U59 st59
    have O59 := O23.ext E59
    have i59_modCount : Fld Z h59 b59 "java/util/AbstractList" "modCount" "I" (.int (0 : Int32)) := D59 (Or.inl (hw _ (List.mem_of_getElem? (i := 64) rfl))) (ty := .int) (by decide)
    have i59_elementData : Fld Z h59 b59 "java/util/ArrayList" "elementData" "[Ljava/lang/Object;" .null := D59 (Or.inl (hw _ (List.mem_of_getElem? (i := 67) rfl))) (ty := (.array (.object "java/lang/Object"))) (by decide)
    have i59_size : Fld Z h59 b59 "java/util/ArrayList" "size" "I" (.int (0 : Int32)) := D59 (Or.inl (hw _ (List.mem_of_getElem? (i := 114) rfl))) (ty := .int) (by decide)
    have k60 : Way p e below S0 T59 (mkF m 78 #[iv p1, iv p2, iv p3, iv p4, rv b2, rv b12, rv b1_20, rv b1_23, iv (1 : Int32), .val .null, .unset, .unset, .unset] [(.ref b59)]) := fun t k => k58 t (st59 _ k)
    have k61 : Way p e below S0 T59 (mkF m 79 #[iv p1, iv p2, iv p3, iv p4, rv b2, rv b12, rv b1_20, rv b1_23, iv (1 : Int32), .val .null, .unset, .unset, .unset] [(.ref b59), (.ref b59)]) := by
      intro t k
      refine k60 t ?_
      refine XS.dup X59.here hx rfl (hb hby at_78) rfl rfl ?_
      show Steps p.tables e below (T59.setTop (mkF m 79 #[iv p1, iv p2, iv p3, iv p4, rv b2, rv b12, rv b1_20, rv b1_23, iv (1 : Int32), .val .null, .unset, .unset, .unset] [(.ref b59), (.ref b59)])) _
      exact k
    have ge62 : n0 ≤ b59 := Nat.le_trans (own_old O23) (Nat.le_of_eq g59.symm)
    obtain ⟨_, _, ⟨T63, L63, kk63, nn63⟩, -, X63, ⟨Lc63, hQ63, l63, y63, z63⟩, st63⟩ := X59.specialBack hx (y := (⟨"java/util/ArrayList", "<init>", "()V"⟩ : MethodName)) rfl hown (mvT hZ (hw _ (List.mem_of_getElem? (i := 47) rfl))) (mvT hZ (hw _ (List.mem_of_getElem? (i := 48) rfl))) (mvT hZ (hw _ (List.mem_of_getElem? (i := 49) rfl))) (by decide) (backOf (W := 1) (alInit l Z a0 hw [] wCS wDE kDE G b59 h59 n0 O59 (A59 : Exa Z h59 b59 "java/util/ArrayList") (i59_modCount : Fld Z h59 b59 "java/util/AbstractList" "modCount" "I" (.int (0 : Int32))) (i59_elementData : Fld Z h59 b59 "java/util/ArrayList" "elementData" "[Ljava/lang/Object;" .null) (i59_size : Fld Z h59 b59 "java/util/ArrayList" "size" "I" (.int (0 : Int32))) (ge62 : n0 ≤ b59)) hZ (hw _ (List.mem_of_getElem? (i := 49) rfl)) (hw _ (List.mem_of_getElem? (i := 46) rfl)) (by decide) (by decide)) (g := (mkF m 79 #[iv p1, iv p2, iv p3, iv p4, rv b2, rv b12, rv b1_20, rv b1_23, iv (1 : Int32), .val .null, .unset, .unset, .unset] [(.ref b59), (.ref b59)])) rfl (by rw [hml]; rfl) (Steps.refl _) (a := b59) (argsL := []) (rest := [(.ref b59)]) (lenOf pd_7 rfl) rfl (by show 2 * 0 + _ ≤ _; exact Nat.le_of_eq rfl) (hb hby at_79) (fun _ _ => ⟨rfl, e59, (by decide : 8 + 0 ≤ _), (by decide : 21 + 0 ≤ _)⟩)
    dsimp only [Pt.U, Pt.locs, Pt.cells, Pt.slots] at X63 l63 y63 z63 st63 hQ63
    subst l63 y63 z63
    obtain ⟨rfl, Nq63, Kq63, po63_0, po63_1, po63_2, po63_3⟩ := hQ63
    have N63 := Fr.app N23 Nq63
    have O63 := O59.keep Kq63 (allS ge62 all0)
    have k64 : Way p e below S0 T63 (mkF m 82 #[iv p1, iv p2, iv p3, iv p4, rv b2, rv b12, rv b1_20, rv b1_23, iv (1 : Int32), .val .null, .unset, .unset, .unset] [(.ref b59)]) := fun t k => k61 t (st63.trans k)
    have k65 : Way p e below S0 T63 (mkF m 116 #[iv p1, iv p2, iv p3, iv p4, rv b2, rv b12, rv b1_20, rv b1_23, iv (1 : Int32), rv b59, rv b59, .unset, .unset] []) := by
      intro t k
      refine k64 t ?_
      refine XS.astore X63.here hx rfl (hb hby at_82) rfl rfl (l' := #[iv p1, iv p2, iv p3, iv p4, rv b2, rv b12, rv b1_20, rv b1_23, iv (1 : Int32), .val .null, rv b59, .unset, .unset]) rfl ?_
      show Steps p.tables e below (T63.setTop (mkF m 84 #[iv p1, iv p2, iv p3, iv p4, rv b2, rv b12, rv b1_20, rv b1_23, iv (1 : Int32), .val .null, rv b59, .unset, .unset] [])) _
      refine XS.iload X63.here hx rfl (hb hby at_84) rfl ?_
      show Steps p.tables e below (T63.setTop (mkF m 86 #[iv p1, iv p2, iv p3, iv p4, rv b2, rv b12, rv b1_20, rv b1_23, iv (1 : Int32), .val .null, rv b59, .unset, .unset] [(.int (1 : Int32))])) _
      refine XS.iconst X63.here hx rfl (hb hby at_86) ?_
      show Steps p.tables e below (T63.setTop (mkF m 87 #[iv p1, iv p2, iv p3, iv p4, rv b2, rv b12, rv b1_20, rv b1_23, iv (1 : Int32), .val .null, rv b59, .unset, .unset] [(.int (2 : Int32)), (.int (1 : Int32))])) _
      refine XS.icmpYes X63.here hx rfl (pc0 := 87) (pc' := 98) rfl (hb hby at_87) rfl (tlt ((by decide) : (1 : Int32) < (2 : Int32))).1 (by decide) (by decide) ?_
      show Steps p.tables e below (T63.setTop (mkF m 98 #[iv p1, iv p2, iv p3, iv p4, rv b2, rv b12, rv b1_20, rv b1_23, iv (1 : Int32), .val .null, rv b59, .unset, .unset] [])) _
      refine XS.iload X63.here hx rfl (hb hby at_98) rfl ?_
      show Steps p.tables e below (T63.setTop (mkF m 100 #[iv p1, iv p2, iv p3, iv p4, rv b2, rv b12, rv b1_20, rv b1_23, iv (1 : Int32), .val .null, rv b59, .unset, .unset] [(.int (1 : Int32))])) _
      refine XS.iconst X63.here hx rfl (hb hby at_100) ?_
      show Steps p.tables e below (T63.setTop (mkF m 101 #[iv p1, iv p2, iv p3, iv p4, rv b2, rv b12, rv b1_20, rv b1_23, iv (1 : Int32), .val .null, rv b59, .unset, .unset] [(.int (3 : Int32)), (.int (1 : Int32))])) _
      refine XS.icmpYes X63.here hx rfl (pc0 := 101) (pc' := 112) rfl (hb hby at_101) rfl (feq ((by decide) : ¬ ((1 : Int32) = (3 : Int32)))).2 (by decide) (by decide) ?_
      show Steps p.tables e below (T63.setTop (mkF m 112 #[iv p1, iv p2, iv p3, iv p4, rv b2, rv b12, rv b1_20, rv b1_23, iv (1 : Int32), .val .null, rv b59, .unset, .unset] [])) _
      refine XS.aload X63.here hx rfl (hb hby at_112) rfl rfl ?_
      show Steps p.tables e below (T63.setTop (mkF m 114 #[iv p1, iv p2, iv p3, iv p4, rv b2, rv b12, rv b1_20, rv b1_23, iv (1 : Int32), .val .null, rv b59, .unset, .unset] [(.ref b59)])) _
      refine XS.astore X63.here hx rfl (hb hby at_114) rfl rfl (l' := #[iv p1, iv p2, iv p3, iv p4, rv b2, rv b12, rv b1_20, rv b1_23, iv (1 : Int32), rv b59, rv b59, .unset, .unset]) rfl ?_
      show Steps p.tables e below (T63.setTop (mkF m 116 #[iv p1, iv p2, iv p3, iv p4, rv b2, rv b12, rv b1_20, rv b1_23, iv (1 : Int32), rv b59, rv b59, .unset, .unset] [])) _
      exact k
    obtain ⟨T66, h66, X66, e66, E66, A66, D66, U66, st66⟩ := newO X63 hx hZ hown (hw _ (List.mem_of_getElem? (i := 44) rfl)) (hw _ (List.mem_of_getElem? (i := 45) rfl)) (hw _ (List.mem_of_getElem? (i := 46) rfl)) rfl (g := (mkF m 116 #[iv p1, iv p2, iv p3, iv p4, rv b2, rv b12, rv b1_20, rv b1_23, iv (1 : Int32), rv b59, rv b59, .unset, .unset] [])) rfl (hb hby at_116) (by decide) (by decide)
    obtain ⟨b66, g66⟩ : ∃ z, z = T63.heap.size := ⟨_, rfl⟩
    rw [← g66] at A66 D66 U66 st66
    have O66 := O63.ext E66
    have i66_modCount : Fld Z h66 b66 "java/util/AbstractList" "modCount" "I" (.int (0 : Int32)) := D66 (Or.inl (hw _ (List.mem_of_getElem? (i := 64) rfl))) (ty := .int) (by decide)
    have i66_elementData : Fld Z h66 b66 "java/util/ArrayList" "elementData" "[Ljava/lang/Object;" .null := D66 (Or.inl (hw _ (List.mem_of_getElem? (i := 67) rfl))) (ty := (.array (.object "java/lang/Object"))) (by decide)
    have i66_size : Fld Z h66 b66 "java/util/ArrayList" "size" "I" (.int (0 : Int32)) := D66 (Or.inl (hw _ (List.mem_of_getElem? (i := 114) rfl))) (ty := .int) (by decide)
    have k67 : Way p e below S0 T66 (mkF m 119 #[iv p1, iv p2, iv p3, iv p4, rv b2, rv b12, rv b1_20, rv b1_23, iv (1 : Int32), rv b59, rv b59, .unset, .unset] [(.ref b66)]) := fun t k => k65 t (st66 _ k)
    have k68 : Way p e below S0 T66 (mkF m 120 #[iv p1, iv p2, iv p3, iv p4, rv b2, rv b12, rv b1_20, rv b1_23, iv (1 : Int32), rv b59, rv b59, .unset, .unset] [(.ref b66), (.ref b66)]) := by
      intro t k
      refine k67 t ?_
      refine XS.dup X66.here hx rfl (hb hby at_119) rfl rfl ?_
      show Steps p.tables e below (T66.setTop (mkF m 120 #[iv p1, iv p2, iv p3, iv p4, rv b2, rv b12, rv b1_20, rv b1_23, iv (1 : Int32), rv b59, rv b59, .unset, .unset] [(.ref b66), (.ref b66)])) _
      exact k
    have ge69 : n0 ≤ b66 := Nat.le_trans (own_old O63) (Nat.le_of_eq g66.symm)
    obtain ⟨_, _, ⟨T70, L70, kk70, nn70⟩, -, X70, ⟨Lc70, hQ70, l70, y70, z70⟩, st70⟩ := X66.specialBack hx (y := (⟨"java/util/ArrayList", "<init>", "()V"⟩ : MethodName)) rfl hown (mvT hZ (hw _ (List.mem_of_getElem? (i := 47) rfl))) (mvT hZ (hw _ (List.mem_of_getElem? (i := 48) rfl))) (mvT hZ (hw _ (List.mem_of_getElem? (i := 49) rfl))) (by decide) (backOf (W := 1) (alInit l Z a0 hw [] wCS wDE kDE G b66 h66 n0 O66 (A66 : Exa Z h66 b66 "java/util/ArrayList") (i66_modCount : Fld Z h66 b66 "java/util/AbstractList" "modCount" "I" (.int (0 : Int32))) (i66_elementData : Fld Z h66 b66 "java/util/ArrayList" "elementData" "[Ljava/lang/Object;" .null) (i66_size : Fld Z h66 b66 "java/util/ArrayList" "size" "I" (.int (0 : Int32))) (ge69 : n0 ≤ b66)) hZ (hw _ (List.mem_of_getElem? (i := 49) rfl)) (hw _ (List.mem_of_getElem? (i := 46) rfl)) (by decide) (by decide)) (g := (mkF m 120 #[iv p1, iv p2, iv p3, iv p4, rv b2, rv b12, rv b1_20, rv b1_23, iv (1 : Int32), rv b59, rv b59, .unset, .unset] [(.ref b66), (.ref b66)])) rfl (by rw [hml]; rfl) (Steps.refl _) (a := b66) (argsL := []) (rest := [(.ref b66)]) (lenOf pd_7 rfl) rfl (by show 2 * 0 + _ ≤ _; exact Nat.le_of_eq rfl) (hb hby at_120) (fun _ _ => ⟨rfl, e66, (by decide : 9 + 0 ≤ _), (by decide : 24 + 0 ≤ _)⟩)
    dsimp only [Pt.U, Pt.locs, Pt.cells, Pt.slots] at X70 l70 y70 z70 st70 hQ70
    subst l70 y70 z70
    obtain ⟨rfl, Nq70, Kq70, po70_0, po70_1, po70_2, po70_3⟩ := hQ70
    have N70 := Fr.app N63 Nq70
    have O70 := O66.keep Kq70 (allS ge69 all0)
    have k71 : Way p e below S0 T70 (mkF m 123 #[iv p1, iv p2, iv p3, iv p4, rv b2, rv b12, rv b1_20, rv b1_23, iv (1 : Int32), rv b59, rv b59, .unset, .unset] [(.ref b66)]) := fun t k => k68 t (st70.trans k)
    have k72 : Way p e below S0 T70 (mkF m 125 #[iv p1, iv p2, iv p3, iv p4, rv b2, rv b12, rv b1_20, rv b1_23, iv (1 : Int32), rv b59, rv b66, .unset, .unset] []) := by
      intro t k
      refine k71 t ?_
      refine XS.astore X70.here hx rfl (hb hby at_123) rfl rfl (l' := #[iv p1, iv p2, iv p3, iv p4, rv b2, rv b12, rv b1_20, rv b1_23, iv (1 : Int32), rv b59, rv b66, .unset, .unset]) rfl ?_
      show Steps p.tables e below (T70.setTop (mkF m 125 #[iv p1, iv p2, iv p3, iv p4, rv b2, rv b12, rv b1_20, rv b1_23, iv (1 : Int32), rv b59, rv b66, .unset, .unset] [])) _
      exact k
    obtain ⟨T73, h73, X73, e73, E73, A73, D73, U73, st73⟩ := newO X70 hx hZ hown (hw _ (List.mem_of_getElem? (i := 68) rfl)) (hw _ (List.mem_of_getElem? (i := 69) rfl)) (hw _ (List.mem_of_getElem? (i := 70) rfl)) rfl (g := (mkF m 125 #[iv p1, iv p2, iv p3, iv p4, rv b2, rv b12, rv b1_20, rv b1_23, iv (1 : Int32), rv b59, rv b66, .unset, .unset] [])) rfl (hb hby at_125) (by decide) (by decide)
    obtain ⟨b73, g73⟩ : ∃ z, z = T70.heap.size := ⟨_, rfl⟩
    rw [← g73] at A73 D73 U73 st73
    have O73 := O70.ext E73
    have i73_name : Fld Z h73 b73 "com/example/stubwright/stubwright/idl/Macros$Macro" "name" "Ljava/lang/String;" .null := D73 (Or.inr (hw _ (List.mem_of_getElem? (i := 94) rfl))) (ty := (.object "java/lang/String")) (by decide)
    have i73_parameters : Fld Z h73 b73 "com/example/stubwright/stubwright/idl/Macros$Macro" "parameters" "Ljava/util/List;" .null := D73 (Or.inr (hw _ (List.mem_of_getElem? (i := 96) rfl))) (ty := (.object "java/util/List")) (by decide)
    have i73_body : Fld Z h73 b73 "com/example/stubwright/stubwright/idl/Macros$Macro" "body" "Ljava/util/List;" .null := D73 (Or.inr (hw _ (List.mem_of_getElem? (i := 98) rfl))) (ty := (.object "java/util/List")) (by decide)
    have i73_location : Fld Z h73 b73 "com/example/stubwright/stubwright/idl/Macros$Macro" "location" "Lcom/example/stubwright/stubwright/idl/Location;" .null := D73 (Or.inr (hw _ (List.mem_of_getElem? (i := 100) rfl))) (ty := (.object "com/example/stubwright/stubwright/idl/Location")) (by decide)
    have k74 : Way p e below S0 T73 (mkF m 128 #[iv p1, iv p2, iv p3, iv p4, rv b2, rv b12, rv b1_20, rv b1_23, iv (1 : Int32), rv b59, rv b66, .unset, .unset] [(.ref b73)]) := fun t k => k72 t (st73 _ k)
    have k75 : Way p e below S0 T73 (mkF m 135 #[iv p1, iv p2, iv p3, iv p4, rv b2, rv b12, rv b1_20, rv b1_23, iv (1 : Int32), rv b59, rv b66, .unset, .unset] [(.ref b66), (.ref b59), (.ref b12), (.ref b73), (.ref b73)]) := by
      intro t k
      refine k74 t ?_
      refine XS.dup X73.here hx rfl (hb hby at_128) rfl rfl ?_
      show Steps p.tables e below (T73.setTop (mkF m 129 #[iv p1, iv p2, iv p3, iv p4, rv b2, rv b12, rv b1_20, rv b1_23, iv (1 : Int32), rv b59, rv b66, .unset, .unset] [(.ref b73), (.ref b73)])) _
      refine XS.aload X73.here hx rfl (hb hby at_129) rfl rfl ?_
      show Steps p.tables e below (T73.setTop (mkF m 131 #[iv p1, iv p2, iv p3, iv p4, rv b2, rv b12, rv b1_20, rv b1_23, iv (1 : Int32), rv b59, rv b66, .unset, .unset] [(.ref b12), (.ref b73), (.ref b73)])) _
      refine XS.aload X73.here hx rfl (hb hby at_131) rfl rfl ?_
      show Steps p.tables e below (T73.setTop (mkF m 133 #[iv p1, iv p2, iv p3, iv p4, rv b2, rv b12, rv b1_20, rv b1_23, iv (1 : Int32), rv b59, rv b66, .unset, .unset] [(.ref b59), (.ref b12), (.ref b73), (.ref b73)])) _
      refine XS.aload X73.here hx rfl (hb hby at_133) rfl rfl ?_
      show Steps p.tables e below (T73.setTop (mkF m 135 #[iv p1, iv p2, iv p3, iv p4, rv b2, rv b12, rv b1_20, rv b1_23, iv (1 : Int32), rv b59, rv b66, .unset, .unset] [(.ref b66), (.ref b59), (.ref b12), (.ref b73), (.ref b73)])) _
      exact k
    obtain ⟨T76, h76, X76, e76, E76, A76, D76, U76, st76⟩ := newO X73 hx hZ hown (hw _ (List.mem_of_getElem? (i := 71) rfl)) (hw _ (List.mem_of_getElem? (i := 72) rfl)) (hw _ (List.mem_of_getElem? (i := 73) rfl)) e73 (g := (mkF m 135 #[iv p1, iv p2, iv p3, iv p4, rv b2, rv b12, rv b1_20, rv b1_23, iv (1 : Int32), rv b59, rv b66, .unset, .unset] [(.ref b66), (.ref b59), (.ref b12), (.ref b73), (.ref b73)])) rfl (hb hby at_135) (by decide) (by decide)
    obtain ⟨b76, g76⟩ : ∃ z, z = h73.size := ⟨_, rfl⟩
    rw [← g76] at A76 D76 U76 st76
    have O76 := O73.ext E76
    have i76_file : Fld Z h76 b76 "com/example/stubwright/stubwright/idl/Location" "file" "Ljava/lang/String;" .null := D76 (Or.inr (hw _ (List.mem_of_getElem? (i := 84) rfl))) (ty := (.object "java/lang/String")) (by decide)
    have i76_line : Fld Z h76 b76 "com/example/stubwright/stubwright/idl/Location" "line" "I" (.int (0 : Int32)) := D76 (Or.inr (hw _ (List.mem_of_getElem? (i := 86) rfl))) (ty := .int) (by decide)
    have i76_column : Fld Z h76 b76 "com/example/stubwright/stubwright/idl/Location" "column" "I" (.int (0 : Int32)) := D76 (Or.inr (hw _ (List.mem_of_getElem? (i := 88) rfl))) (ty := .int) (by decide)
    have k77 : Way p e below S0 T76 (mkF m 138 #[iv p1, iv p2, iv p3, iv p4, rv b2, rv b12, rv b1_20, rv b1_23, iv (1 : Int32), rv b59, rv b66, .unset, .unset] [(.ref b76), (.ref b66), (.ref b59), (.ref b12), (.ref b73), (.ref b73)]) := fun t k => k75 t (st76 _ k)
    have k78 : Way p e below S0 T76 (mkF m 143 #[iv p1, iv p2, iv p3, iv p4, rv b2, rv b12, rv b1_20, rv b1_23, iv (1 : Int32), rv b59, rv b66, .unset, .unset] [(.int p1), (.int p4), (.ref b12), (.ref b76), (.ref b76), (.ref b66), (.ref b59), (.ref b12), (.ref b73), (.ref b73)]) := by
      intro t k
      refine k77 t ?_
      refine XS.dup X76.here hx rfl (hb hby at_138) rfl rfl ?_
      show Steps p.tables e below (T76.setTop (mkF m 139 #[iv p1, iv p2, iv p3, iv p4, rv b2, rv b12, rv b1_20, rv b1_23, iv (1 : Int32), rv b59, rv b66, .unset, .unset] [(.ref b76), (.ref b76), (.ref b66), (.ref b59), (.ref b12), (.ref b73), (.ref b73)])) _
      refine XS.aload X76.here hx rfl (hb hby at_139) rfl rfl ?_
      show Steps p.tables e below (T76.setTop (mkF m 141 #[iv p1, iv p2, iv p3, iv p4, rv b2, rv b12, rv b1_20, rv b1_23, iv (1 : Int32), rv b59, rv b66, .unset, .unset] [(.ref b12), (.ref b76), (.ref b76), (.ref b66), (.ref b59), (.ref b12), (.ref b73), (.ref b73)])) _
      refine XS.iloadN X76.here hx rfl (hb hby at_141) rfl ?_
      show Steps p.tables e below (T76.setTop (mkF m 142 #[iv p1, iv p2, iv p3, iv p4, rv b2, rv b12, rv b1_20, rv b1_23, iv (1 : Int32), rv b59, rv b66, .unset, .unset] [(.int p4), (.ref b12), (.ref b76), (.ref b76), (.ref b66), (.ref b59), (.ref b12), (.ref b73), (.ref b73)])) _
      refine XS.iloadN X76.here hx rfl (hb hby at_142) rfl ?_
      show Steps p.tables e below (T76.setTop (mkF m 143 #[iv p1, iv p2, iv p3, iv p4, rv b2, rv b12, rv b1_20, rv b1_23, iv (1 : Int32), rv b59, rv b66, .unset, .unset] [(.int p1), (.int p4), (.ref b12), (.ref b76), (.ref b76), (.ref b66), (.ref b59), (.ref b12), (.ref b73), (.ref b73)])) _
      exact k
    have ge79 : n0 ≤ b76 := Nat.le_trans (own_old O73) (Nat.le_of_eq g76.symm)
    obtain ⟨_, _, ⟨T80, L80, kk80, nn80⟩, -, X80, ⟨Lc80, hQ80, l80, y80, z80⟩, st80⟩ := X76.specialBack hx (y := (⟨"com/example/stubwright/stubwright/idl/Location", "<init>", "(Ljava/lang/String;II)V"⟩ : MethodName)) rfl hown (mvT hZ (hw _ (List.mem_of_getElem? (i := 74) rfl))) (mvT hZ (hw _ (List.mem_of_getElem? (i := 75) rfl))) (mvT hZ (hw _ (List.mem_of_getElem? (i := 76) rfl))) (by decide) (backOf (W := 6) (locInit l Z a0 hw [] wCS wDE kDE G b76 b12 p4 p1 h76 n0 O76 (A76 : Exa Z h76 b76 "com/example/stubwright/stubwright/idl/Location") (i76_file : Fld Z h76 b76 "com/example/stubwright/stubwright/idl/Location" "file" "Ljava/lang/String;" .null) (i76_line : Fld Z h76 b76 "com/example/stubwright/stubwright/idl/Location" "line" "I" (.int (0 : Int32))) (i76_column : Fld Z h76 b76 "com/example/stubwright/stubwright/idl/Location" "column" "I" (.int (0 : Int32))) (ge79 : n0 ≤ b76)) hZ (hw _ (List.mem_of_getElem? (i := 76) rfl)) (hw _ (List.mem_of_getElem? (i := 73) rfl)) (by decide) (by decide)) (g := (mkF m 143 #[iv p1, iv p2, iv p3, iv p4, rv b2, rv b12, rv b1_20, rv b1_23, iv (1 : Int32), rv b59, rv b66, .unset, .unset] [(.int p1), (.int p4), (.ref b12), (.ref b76), (.ref b76), (.ref b66), (.ref b59), (.ref b12), (.ref b73), (.ref b73)])) rfl (by rw [hml]; rfl) (Steps.refl _) (a := b76) (argsL := [(.ref b12), (.int p4), (.int p1)]) (rest := [(.ref b76), (.ref b66), (.ref b59), (.ref b12), (.ref b73), (.ref b73)]) (lenOf pd_14 rfl) rfl (by show 2 * 0 + _ ≤ _; exact Nat.le_of_eq rfl) (hb hby at_143) (fun _ _ => ⟨rfl, e76, (by decide : 11 + 0 ≤ _), (by decide : 31 + 0 ≤ _)⟩)
    dsimp only [Pt.U, Pt.locs, Pt.cells, Pt.slots] at X80 l80 y80 z80 st80 hQ80
    subst l80 y80 z80
    obtain ⟨rfl, Nq80, Kq80, po80_0⟩ := hQ80
    have N80 := Fr.app N70 Nq80
    have O80 := O76.keep Kq80 (allS ge79 all0)
    have k81 : Way p e below S0 T80 (mkF m 146 #[iv p1, iv p2, iv p3, iv p4, rv b2, rv b12, rv b1_20, rv b1_23, iv (1 : Int32), rv b59, rv b66, .unset, .unset] [(.ref b76), (.ref b66), (.ref b59), (.ref b12), (.ref b73), (.ref b73)]) := fun t k => k78 t (st80.trans k)
    have f82 : Exa Z T80.heap b73 "com/example/stubwright/stubwright/idl/Macros$Macro" := ((A73.ext E76).keep Kq80)
    have f83 : Fld Z T80.heap b73 "com/example/stubwright/stubwright/idl/Macros$Macro" "name" "Ljava/lang/String;" .null := ((i73_name.ext E76).keep Kq80 (ninS (Nat.ne_of_lt (Nat.lt_of_lt_of_le i73_name.lt (Nat.le_of_eq g76.symm))) nin0))
    have f84 : Fld Z T80.heap b73 "com/example/stubwright/stubwright/idl/Macros$Macro" "parameters" "Ljava/util/List;" .null := ((i73_parameters.ext E76).keep Kq80 (ninS (Nat.ne_of_lt (Nat.lt_of_lt_of_le i73_parameters.lt (Nat.le_of_eq g76.symm))) nin0))
    have f85 : Fld Z T80.heap b73 "com/example/stubwright/stubwright/idl/Macros$Macro" "body" "Ljava/util/List;" .null := ((i73_body.ext E76).keep Kq80 (ninS (Nat.ne_of_lt (Nat.lt_of_lt_of_le i73_body.lt (Nat.le_of_eq g76.symm))) nin0))
    have f86 : Fld Z T80.heap b73 "com/example/stubwright/stubwright/idl/Macros$Macro" "location" "Lcom/example/stubwright/stubwright/idl/Location;" .null := ((i73_location.ext E76).keep Kq80 (ninS (Nat.ne_of_lt (Nat.lt_of_lt_of_le i73_location.lt (Nat.le_of_eq g76.symm))) nin0))
    have ge87 : n0 ≤ b73 := Nat.le_trans (own_old O70) (Nat.le_of_eq g73.symm)
    obtain ⟨_, _, ⟨T88, L88, kk88, nn88⟩, -, X88, ⟨Lc88, hQ88, l88, y88, z88⟩, st88⟩ := X80.specialBack hx (y := (⟨"com/example/stubwright/stubwright/idl/Macros$Macro", "<init>", "(Ljava/lang/String;Ljava/util/List;Ljava/util/List;Lcom/example/stubwright/stubwright/idl/Location;)V"⟩ : MethodName)) rfl hown (mvT hZ (hw _ (List.mem_of_getElem? (i := 89) rfl))) (mvT hZ (hw _ (List.mem_of_getElem? (i := 90) rfl))) (mvT hZ (hw _ (List.mem_of_getElem? (i := 91) rfl))) (by decide) (backOf (W := 1) (macInit1 l Z a0 hw [] wCS wDE kDE G b73 b12 b59 b66 b76 T80.heap n0 O80 (f82 : Exa Z T80.heap b73 "com/example/stubwright/stubwright/idl/Macros$Macro") (f83 : Fld Z T80.heap b73 "com/example/stubwright/stubwright/idl/Macros$Macro" "name" "Ljava/lang/String;" .null) (f84 : Fld Z T80.heap b73 "com/example/stubwright/stubwright/idl/Macros$Macro" "parameters" "Ljava/util/List;" .null) (f85 : Fld Z T80.heap b73 "com/example/stubwright/stubwright/idl/Macros$Macro" "body" "Ljava/util/List;" .null) (f86 : Fld Z T80.heap b73 "com/example/stubwright/stubwright/idl/Macros$Macro" "location" "Lcom/example/stubwright/stubwright/idl/Location;" .null) (ge87 : n0 ≤ b73)) hZ (hw _ (List.mem_of_getElem? (i := 91) rfl)) (hw _ (List.mem_of_getElem? (i := 70) rfl)) (by decide) (by decide)) (g := (mkF m 146 #[iv p1, iv p2, iv p3, iv p4, rv b2, rv b12, rv b1_20, rv b1_23, iv (1 : Int32), rv b59, rv b66, .unset, .unset] [(.ref b76), (.ref b66), (.ref b59), (.ref b12), (.ref b73), (.ref b73)])) rfl (by rw [hml]; rfl) (Steps.refl _) (a := b73) (argsL := [(.ref b12), (.ref b59), (.ref b66), (.ref b76)]) (rest := [(.ref b73)]) (lenOf pd_15 rfl) rfl (by show 2 * 0 + _ ≤ _; exact Nat.le_of_eq rfl) (hb hby at_146) (fun _ _ => ⟨rfl, rfl, (by decide : 11 + 0 ≤ _), (by decide : 31 + 0 ≤ _)⟩)
    dsimp only [Pt.U, Pt.locs, Pt.cells, Pt.slots] at X88 l88 y88 z88 st88 hQ88
    subst l88 y88 z88
    obtain ⟨rfl, Nq88, Kq88, po88_0, po88_1⟩ := hQ88
    have N88 := Fr.app N80 Nq88
    have O88 := O80.keep Kq88 (allS ge87 all0)
    have k89 : Way p e below S0 T88 (mkF m 149 #[iv p1, iv p2, iv p3, iv p4, rv b2, rv b12, rv b1_20, rv b1_23, iv (1 : Int32), rv b59, rv b66, .unset, .unset] [(.ref b73)]) := fun t k => k81 t (st88.trans k)
    have k90 : Way p e below S0 T88 (mkF m 165 #[iv p1, iv p2, iv p3, iv p4, rv b2, rv b12, rv b1_20, rv b1_23, iv (1 : Int32), rv b59, rv b66, rv b73, iv (1 : Int32)] [(.ref b73)]) := by
      intro t k
      refine k89 t ?_
      refine XS.astore X88.here hx rfl (hb hby at_149) rfl rfl (l' := #[iv p1, iv p2, iv p3, iv p4, rv b2, rv b12, rv b1_20, rv b1_23, iv (1 : Int32), rv b59, rv b66, rv b73, .unset]) rfl ?_
      show Steps p.tables e below (T88.setTop (mkF m 151 #[iv p1, iv p2, iv p3, iv p4, rv b2, rv b12, rv b1_20, rv b1_23, iv (1 : Int32), rv b59, rv b66, rv b73, .unset] [])) _
      refine XS.iload X88.here hx rfl (hb hby at_151) rfl ?_
      show Steps p.tables e below (T88.setTop (mkF m 153 #[iv p1, iv p2, iv p3, iv p4, rv b2, rv b12, rv b1_20, rv b1_23, iv (1 : Int32), rv b59, rv b66, rv b73, .unset] [(.int (1 : Int32))])) _
      refine XS.ifNo X88.here hx rfl (hb hby at_153) rfl ((if0 _ _).trans (feq ((by decide) : ¬ ((1 : Int32) = (0 : Int32)))).1) ?_
      show Steps p.tables e below (T88.setTop (mkF m 156 #[iv p1, iv p2, iv p3, iv p4, rv b2, rv b12, rv b1_20, rv b1_23, iv (1 : Int32), rv b59, rv b66, rv b73, .unset] [])) _
      refine XS.iconst X88.here hx rfl (hb hby at_156) ?_
      show Steps p.tables e below (T88.setTop (mkF m 157 #[iv p1, iv p2, iv p3, iv p4, rv b2, rv b12, rv b1_20, rv b1_23, iv (1 : Int32), rv b59, rv b66, rv b73, .unset] [(.int (1 : Int32))])) _
      refine XS.goto X88.here hx rfl (pc0 := 157) (pc' := 161) rfl (hb hby at_157) (by decide) (by decide) ?_
      show Steps p.tables e below (T88.setTop (mkF m 161 #[iv p1, iv p2, iv p3, iv p4, rv b2, rv b12, rv b1_20, rv b1_23, iv (1 : Int32), rv b59, rv b66, rv b73, .unset] [(.int (1 : Int32))])) _
      refine XS.istore X88.here hx rfl (hb hby at_161) rfl (l' := #[iv p1, iv p2, iv p3, iv p4, rv b2, rv b12, rv b1_20, rv b1_23, iv (1 : Int32), rv b59, rv b66, rv b73, iv (1 : Int32)]) rfl ?_
      show Steps p.tables e below (T88.setTop (mkF m 163 #[iv p1, iv p2, iv p3, iv p4, rv b2, rv b12, rv b1_20, rv b1_23, iv (1 : Int32), rv b59, rv b66, rv b73, iv (1 : Int32)] [])) _
      refine XS.aload X88.here hx rfl (hb hby at_163) rfl rfl ?_
      show Steps p.tables e below (T88.setTop (mkF m 165 #[iv p1, iv p2, iv p3, iv p4, rv b2, rv b12, rv b1_20, rv b1_23, iv (1 : Int32), rv b59, rv b66, rv b73, iv (1 : Int32)] [(.ref b73)])) _
      exact k
    obtain ⟨cq91, kq91, qq91a, qq91b, qq91c⟩ := isOf hZ rfl po88_0
    obtain ⟨_, _, ⟨T91, L91, kk91, nn91⟩, -, X91, ⟨Lc91, hQ91, l91, y91, z91⟩, st91⟩ := X88.virtualBack hx (y := (⟨"com/example/stubwright/stubwright/idl/Macros$Macro", "functionLike", "()Z"⟩ : MethodName)) (z := (⟨"com/example/stubwright/stubwright/idl/Macros$Macro", "functionLike", "()Z"⟩ : MethodName)) hown (mvT hZ (hw _ (List.mem_of_getElem? (i := 101) rfl))) (mvT hZ (hw _ (List.mem_of_getElem? (i := 102) rfl))) (notFace_of_selects (args := #[]) (mvT hZ (hw _ (List.mem_of_getElem? (i := 104) rfl)))) (mvT hZ (hw _ (List.mem_of_getElem? (i := 104) rfl))) (mvT hZ (hw _ (List.mem_of_getElem? (i := 103) rfl))) (by decide) (backOf (W := 0) (fl1 l Z a0 hw [] wCS wDE kDE G b73 b59 T88.heap n0 O88 (po88_1 : Fld Z T88.heap b73 "com/example/stubwright/stubwright/idl/Macros$Macro" "parameters" "Ljava/util/List;" (.ref b59))) hZ (hw _ (List.mem_of_getElem? (i := 105) rfl)) (hw _ (List.mem_of_getElem? (i := 70) rfl)) (by decide) (by decide)) qq91a qq91c (g := (mkF m 165 #[iv p1, iv p2, iv p3, iv p4, rv b2, rv b12, rv b1_20, rv b1_23, iv (1 : Int32), rv b59, rv b66, rv b73, iv (1 : Int32)] [(.ref b73)])) rfl (by rw [hml]; rfl) (Steps.refl _) (argsL := []) (rest := []) (lenOf pd_16 rfl) rfl (by show 2 * 0 + _ ≤ _; exact Nat.le_of_eq rfl) (hb hby at_165) (fun _ _ => ⟨rfl, rfl, (by decide : 11 + 0 ≤ _), (by decide : 31 + 0 ≤ _)⟩)
    dsimp only [Pt.U, Pt.locs, Pt.cells, Pt.slots] at X91 l91 y91 z91 st91 hQ91
    subst l91 y91 z91
    obtain ⟨rfl, Nq91, e91⟩ := hQ91
    have N91 := Fr.app N88 Nq91
    have k92 : Way p e below S0 T91 (mkF m 168 #[iv p1, iv p2, iv p3, iv p4, rv b2, rv b12, rv b1_20, rv b1_23, iv (1 : Int32), rv b59, rv b66, rv b73, iv (1 : Int32)] [(.int (1 : Int32))]) := fun t k => k90 t (st91.trans k)
    have k93 : Way p e below S0 T91 (mkF m 178 #[iv p1, iv p2, iv p3, iv p4, rv b2, rv b12, rv b1_20, rv b1_23, iv (1 : Int32), rv b59, rv b66, rv b73, iv (1 : Int32)] [(.int (1 : Int32))]) := by
      intro t k
      refine k92 t ?_
      refine XS.iload X91.here hx rfl (hb hby at_168) rfl ?_
      show Steps p.tables e below (T91.setTop (mkF m 170 #[iv p1, iv p2, iv p3, iv p4, rv b2, rv b12, rv b1_20, rv b1_23, iv (1 : Int32), rv b59, rv b66, rv b73, iv (1 : Int32)] [(.int (1 : Int32)), (.int (1 : Int32))])) _
      refine XS.icmpNo X91.here hx rfl (hb hby at_170) rfl (teq ((by decide) : (1 : Int32) = (1 : Int32))).2 ?_
      show Steps p.tables e below (T91.setTop (mkF m 173 #[iv p1, iv p2, iv p3, iv p4, rv b2, rv b12, rv b1_20, rv b1_23, iv (1 : Int32), rv b59, rv b66, rv b73, iv (1 : Int32)] [])) _
      refine XS.iconst X91.here hx rfl (hb hby at_173) ?_
      show Steps p.tables e below (T91.setTop (mkF m 174 #[iv p1, iv p2, iv p3, iv p4, rv b2, rv b12, rv b1_20, rv b1_23, iv (1 : Int32), rv b59, rv b66, rv b73, iv (1 : Int32)] [(.int (1 : Int32))])) _
      refine XS.goto X91.here hx rfl (pc0 := 174) (pc' := 178) rfl (hb hby at_174) (by decide) (by decide) ?_
      show Steps p.tables e below (T91.setTop (mkF m 178 #[iv p1, iv p2, iv p3, iv p4, rv b2, rv b12, rv b1_20, rv b1_23, iv (1 : Int32), rv b59, rv b66, rv b73, iv (1 : Int32)] [(.int (1 : Int32))])) _
      exact k
    obtain ⟨fs, hr, hrun, hended, hW, hsame⟩ := X91.leave (v := some (.int (1 : Int32))) (fun h => by rw [Bd.returns] at h; cases h)
    refine ⟨_, _, k93 _ (retN X91 hx (t := .boolean) Bd.returns (by simp) (hb hby at_178) hr), hrun, hended, _, _, rfl, ?_, ⟨_, rfl⟩, hW, hsame.mono (by decide) (by decide)⟩
    show Q_law_met Z wCS wDE kDE p1 p2 p3 p4 h0 n0 _ T91.heap _
    rw [e91]
    exact ⟨rfl, N91⟩
  · have k94 : Way p e below S0 T23 (mkF m 70 #[iv p1, iv p2, iv p3, iv p4, rv b2, rv b12, rv b1_20, rv b1_23, iv (2 : Int32), .val .null, .unset, .unset, .unset] []) := by have q := k25; rw [hi26] at q; exact q
    have k95 : Way p e below S0 T23 (mkF m 75 #[iv p1, iv p2, iv p3, iv p4, rv b2, rv b12, rv b1_20, rv b1_23, iv (2 : Int32), .val .null, .unset, .unset, .unset] []) := by
      intro t k
      refine k94 t ?_
      refine XS.iload X23.here hx rfl (hb hby at_70) rfl ?_
      show Steps p.tables e below (T23.setTop (mkF m 72 #[iv p1, iv p2, iv p3, iv p4, rv b2, rv b12, rv b1_20, rv b1_23, iv (2 : Int32), .val .null, .unset, .unset, .unset] [(.int (2 : Int32))])) _
      refine XS.ifNo X23.here hx rfl (hb hby at_72) rfl ((if0 _ _).trans (feq ((by decide) : ¬ ((2 : Int32) = (0 : Int32)))).1) ?_
      show Steps p.tables e below (T23.setTop (mkF m 75 #[iv p1, iv p2, iv p3, iv p4, rv b2, rv b12, rv b1_20, rv b1_23, iv (2 : Int32), .val .null, .unset, .unset, .unset] [])) _
      exact k
    obtain ⟨T96, h96, X96, e96, E96, A96, D96, U96, st96⟩ := newO X23 hx hZ hown (hw _ (List.mem_of_getElem? (i := 44) rfl)) (hw _ (List.mem_of_getElem? (i := 45) rfl)) (hw _ (List.mem_of_getElem? (i := 46) rfl)) rfl (g := (mkF m 75 #[iv p1, iv p2, iv p3, iv p4, rv b2, rv b12, rv b1_20, rv b1_23, iv (2 : Int32), .val .null, .unset, .unset, .unset] [])) rfl (hb hby at_75) (by decide) (by decide)
    obtain ⟨b96, g96⟩ : ∃ z, z = T23.heap.size := ⟨_, rfl⟩
    rw [← g96] at A96 D96 U96 st96
    have O96 := O23.ext E96
    have i96_modCount : Fld Z h96 b96 "java/util/AbstractList" "modCount" "I" (.int (0 : Int32)) := D96 (Or.inl (hw _ (List.mem_of_getElem? (i := 64) rfl))) (ty := .int) (by decide)
    have i96_elementData : Fld Z h96 b96 "java/util/ArrayList" "elementData" "[Ljava/lang/Object;" .null := D96 (Or.inl (hw _ (List.mem_of_getElem? (i := 67) rfl))) (ty := (.array (.object "java/lang/Object"))) (by decide)
    have i96_size : Fld Z h96 b96 "java/util/ArrayList" "size" "I" (.int (0 : Int32)) := D96 (Or.inl (hw _ (List.mem_of_getElem? (i := 114) rfl))) (ty := .int) (by decide)
    have k97 : Way p e below S0 T96 (mkF m 78 #[iv p1, iv p2, iv p3, iv p4, rv b2, rv b12, rv b1_20, rv b1_23, iv (2 : Int32), .val .null, .unset, .unset, .unset] [(.ref b96)]) := fun t k => k95 t (st96 _ k)
    have k98 : Way p e below S0 T96 (mkF m 79 #[iv p1, iv p2, iv p3, iv p4, rv b2, rv b12, rv b1_20, rv b1_23, iv (2 : Int32), .val .null, .unset, .unset, .unset] [(.ref b96), (.ref b96)]) := by
      intro t k
      refine k97 t ?_
      refine XS.dup X96.here hx rfl (hb hby at_78) rfl rfl ?_
      show Steps p.tables e below (T96.setTop (mkF m 79 #[iv p1, iv p2, iv p3, iv p4, rv b2, rv b12, rv b1_20, rv b1_23, iv (2 : Int32), .val .null, .unset, .unset, .unset] [(.ref b96), (.ref b96)])) _
      exact k
    have ge99 : n0 ≤ b96 := Nat.le_trans (own_old O23) (Nat.le_of_eq g96.symm)
    obtain ⟨_, _, ⟨T100, L100, kk100, nn100⟩, -, X100, ⟨Lc100, hQ100, l100, y100, z100⟩, st100⟩ := X96.specialBack hx (y := (⟨"java/util/ArrayList", "<init>", "()V"⟩ : MethodName)) rfl hown (mvT hZ (hw _ (List.mem_of_getElem? (i := 47) rfl))) (mvT hZ (hw _ (List.mem_of_getElem? (i := 48) rfl))) (mvT hZ (hw _ (List.mem_of_getElem? (i := 49) rfl))) (by decide) (backOf (W := 1) (alInit l Z a0 hw [] wCS wDE kDE G b96 h96 n0 O96 (A96 : Exa Z h96 b96 "java/util/ArrayList") (i96_modCount : Fld Z h96 b96 "java/util/AbstractList" "modCount" "I" (.int (0 : Int32))) (i96_elementData : Fld Z h96 b96 "java/util/ArrayList" "elementData" "[Ljava/lang/Object;" .null) (i96_size : Fld Z h96 b96 "java/util/ArrayList" "size" "I" (.int (0 : Int32))) (ge99 : n0 ≤ b96)) hZ (hw _ (List.mem_of_getElem? (i := 49) rfl)) (hw _ (List.mem_of_getElem? (i := 46) rfl)) (by decide) (by decide)) (g := (mkF m 79 #[iv p1, iv p2, iv p3, iv p4, rv b2, rv b12, rv b1_20, rv b1_23, iv (2 : Int32), .val .null, .unset, .unset, .unset] [(.ref b96), (.ref b96)])) rfl (by rw [hml]; rfl) (Steps.refl _) (a := b96) (argsL := []) (rest := [(.ref b96)]) (lenOf pd_7 rfl) rfl (by show 2 * 0 + _ ≤ _; exact Nat.le_of_eq rfl) (hb hby at_79) (fun _ _ => ⟨rfl, e96, (by decide : 8 + 0 ≤ _), (by decide : 21 + 0 ≤ _)⟩)
    dsimp only [Pt.U, Pt.locs, Pt.cells, Pt.slots] at X100 l100 y100 z100 st100 hQ100
    subst l100 y100 z100
    obtain ⟨rfl, Nq100, Kq100, po100_0, po100_1, po100_2, po100_3⟩ := hQ100
    have N100 := Fr.app N23 Nq100
    have O100 := O96.keep Kq100 (allS ge99 all0)
    have k101 : Way p e below S0 T100 (mkF m 82 #[iv p1, iv p2, iv p3, iv p4, rv b2, rv b12, rv b1_20, rv b1_23, iv (2 : Int32), .val .null, .unset, .unset, .unset] [(.ref b96)]) := fun t k => k98 t (st100.trans k)
    have k102 : Way p e below S0 T100 (mkF m 94 #[iv p1, iv p2, iv p3, iv p4, rv b2, rv b12, rv b1_20, rv b1_23, iv (2 : Int32), .val .null, rv b96, .unset, .unset] [(.ref b1_20), (.ref b96)]) := by
      intro t k
      refine k101 t ?_
      refine XS.astore X100.here hx rfl (hb hby at_82) rfl rfl (l' := #[iv p1, iv p2, iv p3, iv p4, rv b2, rv b12, rv b1_20, rv b1_23, iv (2 : Int32), .val .null, rv b96, .unset, .unset]) rfl ?_
      show Steps p.tables e below (T100.setTop (mkF m 84 #[iv p1, iv p2, iv p3, iv p4, rv b2, rv b12, rv b1_20, rv b1_23, iv (2 : Int32), .val .null, rv b96, .unset, .unset] [])) _
      refine XS.iload X100.here hx rfl (hb hby at_84) rfl ?_
      show Steps p.tables e below (T100.setTop (mkF m 86 #[iv p1, iv p2, iv p3, iv p4, rv b2, rv b12, rv b1_20, rv b1_23, iv (2 : Int32), .val .null, rv b96, .unset, .unset] [(.int (2 : Int32))])) _
      refine XS.iconst X100.here hx rfl (hb hby at_86) ?_
      show Steps p.tables e below (T100.setTop (mkF m 87 #[iv p1, iv p2, iv p3, iv p4, rv b2, rv b12, rv b1_20, rv b1_23, iv (2 : Int32), .val .null, rv b96, .unset, .unset] [(.int (2 : Int32)), (.int (2 : Int32))])) _
      refine XS.icmpNo X100.here hx rfl (hb hby at_87) rfl (flt ((by decide) : ¬ ((2 : Int32) < (2 : Int32)))).1 ?_
      show Steps p.tables e below (T100.setTop (mkF m 90 #[iv p1, iv p2, iv p3, iv p4, rv b2, rv b12, rv b1_20, rv b1_23, iv (2 : Int32), .val .null, rv b96, .unset, .unset] [])) _
      refine XS.aload X100.here hx rfl (hb hby at_90) rfl rfl ?_
      show Steps p.tables e below (T100.setTop (mkF m 92 #[iv p1, iv p2, iv p3, iv p4, rv b2, rv b12, rv b1_20, rv b1_23, iv (2 : Int32), .val .null, rv b96, .unset, .unset] [(.ref b96)])) _
      refine XS.aload X100.here hx rfl (hb hby at_92) rfl rfl ?_
      show Steps p.tables e below (T100.setTop (mkF m 94 #[iv p1, iv p2, iv p3, iv p4, rv b2, rv b12, rv b1_20, rv b1_23, iv (2 : Int32), .val .null, rv b96, .unset, .unset] [(.ref b1_20), (.ref b96)])) _
      exact k
    have f103 : Exa Z T100.heap b1_20 "java/lang/String" := (((po20_2.keep Kq23).ext E96).keep Kq100)
    obtain ⟨cq104, kq104, qq104a, qq104b, qq104c⟩ := isOf hZ rfl po100_0
    obtain ⟨_, _, ⟨T104, L104, kk104, nn104⟩, -, X104, ⟨Lc104, hQ104, l104, y104, z104⟩, st104⟩ := X100.virtualBack hx (y := (⟨"java/util/ArrayList", "add", "(Ljava/lang/Object;)Z"⟩ : MethodName)) (z := (⟨"java/util/ArrayList", "add", "(Ljava/lang/Object;)Z"⟩ : MethodName)) hown (mvT hZ (hw _ (List.mem_of_getElem? (i := 106) rfl))) (mvT hZ (hw _ (List.mem_of_getElem? (i := 107) rfl))) (notFace_of_selects (args := #[]) (mvT hZ (hw _ (List.mem_of_getElem? (i := 109) rfl)))) (mvT hZ (hw _ (List.mem_of_getElem? (i := 109) rfl))) (mvT hZ (hw _ (List.mem_of_getElem? (i := 108) rfl))) (by decide) (backOf (W := 0) (addA l Z a0 hw [] wCS wDE kDE G b96 b1_20 T100.heap n0 O100 (po100_0 : Exa Z T100.heap b96 "java/util/ArrayList") (po100_1 : Fld Z T100.heap b96 "java/util/AbstractList" "modCount" "I" (.int (0 : Int32))) (po100_2 : Fld Z T100.heap b96 "java/util/ArrayList" "elementData" "[Ljava/lang/Object;" (.ref wDE)) (po100_3 : Fld Z T100.heap b96 "java/util/ArrayList" "size" "I" (.int (0 : Int32))) (ge99 : n0 ≤ b96) (f103 : Exa Z T100.heap b1_20 "java/lang/String")) hZ (hw _ (List.mem_of_getElem? (i := 110) rfl)) (hw _ (List.mem_of_getElem? (i := 46) rfl)) (by decide) (by decide)) qq104a qq104c (g := (mkF m 94 #[iv p1, iv p2, iv p3, iv p4, rv b2, rv b12, rv b1_20, rv b1_23, iv (2 : Int32), .val .null, rv b96, .unset, .unset] [(.ref b1_20), (.ref b96)])) rfl (by rw [hml]; rfl) (Steps.refl _) (argsL := [(.ref b1_20)]) (rest := []) (lenOf pd_17 rfl) rfl (by show 2 * 0 + _ ≤ _; exact Nat.le_of_eq rfl) (hb hby at_94) (fun _ _ => ⟨rfl, rfl, (by decide : 8 + 1 ≤ _), (by decide : 21 + 10 ≤ _)⟩)
    dsimp only [Pt.U, Pt.locs, Pt.cells, Pt.slots] at X104 l104 y104 z104 st104 hQ104
    subst l104 y104 z104
    obtain ⟨b1_104, kc_104, rfl, Nq104, Kq104, po104_0, po104_1, po104_2, po104_3, po104_4, po104_5, po104_6⟩ := hQ104
    have N104 := Fr.app N100 Nq104
    have O104 := O100.keep Kq104 (allS ge99 all0)
    have k105 : Way p e below S0 T104 (mkF m 97 #[iv p1, iv p2, iv p3, iv p4, rv b2, rv b12, rv b1_20, rv b1_23, iv (2 : Int32), .val .null, rv b96, .unset, .unset] [(.int (1 : Int32))]) := fun t k => k102 t (st104.trans k)
    have k106 : Way p e below S0 T104 (mkF m 116 #[iv p1, iv p2, iv p3, iv p4, rv b2, rv b12, rv b1_20, rv b1_23, iv (2 : Int32), rv b96, rv b96, .unset, .unset] []) := by
      intro t k
      refine k105 t ?_
      refine XS.pop X104.here hx rfl (hb hby at_97) rfl rfl ?_
      show Steps p.tables e below (T104.setTop (mkF m 98 #[iv p1, iv p2, iv p3, iv p4, rv b2, rv b12, rv b1_20, rv b1_23, iv (2 : Int32), .val .null, rv b96, .unset, .unset] [])) _
      refine XS.iload X104.here hx rfl (hb hby at_98) rfl ?_
      show Steps p.tables e below (T104.setTop (mkF m 100 #[iv p1, iv p2, iv p3, iv p4, rv b2, rv b12, rv b1_20, rv b1_23, iv (2 : Int32), .val .null, rv b96, .unset, .unset] [(.int (2 : Int32))])) _
      refine XS.iconst X104.here hx rfl (hb hby at_100) ?_
      show Steps p.tables e below (T104.setTop (mkF m 101 #[iv p1, iv p2, iv p3, iv p4, rv b2, rv b12, rv b1_20, rv b1_23, iv (2 : Int32), .val .null, rv b96, .unset, .unset] [(.int (3 : Int32)), (.int (2 : Int32))])) _
      refine XS.icmpYes X104.here hx rfl (pc0 := 101) (pc' := 112) rfl (hb hby at_101) rfl (feq ((by decide) : ¬ ((2 : Int32) = (3 : Int32)))).2 (by decide) (by decide) ?_
      show Steps p.tables e below (T104.setTop (mkF m 112 #[iv p1, iv p2, iv p3, iv p4, rv b2, rv b12, rv b1_20, rv b1_23, iv (2 : Int32), .val .null, rv b96, .unset, .unset] [])) _
      refine XS.aload X104.here hx rfl (hb hby at_112) rfl rfl ?_
      show Steps p.tables e below (T104.setTop (mkF m 114 #[iv p1, iv p2, iv p3, iv p4, rv b2, rv b12, rv b1_20, rv b1_23, iv (2 : Int32), .val .null, rv b96, .unset, .unset] [(.ref b96)])) _
      refine XS.astore X104.here hx rfl (hb hby at_114) rfl rfl (l' := #[iv p1, iv p2, iv p3, iv p4, rv b2, rv b12, rv b1_20, rv b1_23, iv (2 : Int32), rv b96, rv b96, .unset, .unset]) rfl ?_
      show Steps p.tables e below (T104.setTop (mkF m 116 #[iv p1, iv p2, iv p3, iv p4, rv b2, rv b12, rv b1_20, rv b1_23, iv (2 : Int32), rv b96, rv b96, .unset, .unset] [])) _
      exact k
    obtain ⟨T107, h107, X107, e107, E107, A107, D107, U107, st107⟩ := newO X104 hx hZ hown (hw _ (List.mem_of_getElem? (i := 44) rfl)) (hw _ (List.mem_of_getElem? (i := 45) rfl)) (hw _ (List.mem_of_getElem? (i := 46) rfl)) rfl (g := (mkF m 116 #[iv p1, iv p2, iv p3, iv p4, rv b2, rv b12, rv b1_20, rv b1_23, iv (2 : Int32), rv b96, rv b96, .unset, .unset] [])) rfl (hb hby at_116) (by decide) (by decide)
    obtain ⟨b107, g107⟩ : ∃ z, z = T104.heap.size := ⟨_, rfl⟩
    rw [← g107] at A107 D107 U107 st107
    have O107 := O104.ext E107
    have i107_modCount : Fld Z h107 b107 "java/util/AbstractList" "modCount" "I" (.int (0 : Int32)) := D107 (Or.inl (hw _ (List.mem_of_getElem? (i := 64) rfl))) (ty := .int) (by decide)
    have i107_elementData : Fld Z h107 b107 "java/util/ArrayList" "elementData" "[Ljava/lang/Object;" .null := D107 (Or.inl (hw _ (List.mem_of_getElem? (i := 67) rfl))) (ty := (.array (.object "java/lang/Object"))) (by decide)
    have i107_size : Fld Z h107 b107 "java/util/ArrayList" "size" "I" (.int (0 : Int32)) := D107 (Or.inl (hw _ (List.mem_of_getElem? (i := 114) rfl))) (ty := .int) (by decide)
    have k108 : Way p e below S0 T107 (mkF m 119 #[iv p1, iv p2, iv p3, iv p4, rv b2, rv b12, rv b1_20, rv b1_23, iv (2 : Int32), rv b96, rv b96, .unset, .unset] [(.ref b107)]) := fun t k => k106 t (st107 _ k)
    have k109 : Way p e below S0 T107 (mkF m 120 #[iv p1, iv p2, iv p3, iv p4, rv b2, rv b12, rv b1_20, rv b1_23, iv (2 : Int32), rv b96, rv b96, .unset, .unset] [(.ref b107), (.ref b107)]) := by
      intro t k
      refine k108 t ?_
      refine XS.dup X107.here hx rfl (hb hby at_119) rfl rfl ?_
      show Steps p.tables e below (T107.setTop (mkF m 120 #[iv p1, iv p2, iv p3, iv p4, rv b2, rv b12, rv b1_20, rv b1_23, iv (2 : Int32), rv b96, rv b96, .unset, .unset] [(.ref b107), (.ref b107)])) _
      exact k
    have ge110 : n0 ≤ b107 := Nat.le_trans (own_old O104) (Nat.le_of_eq g107.symm)
    obtain ⟨_, _, ⟨T111, L111, kk111, nn111⟩, -, X111, ⟨Lc111, hQ111, l111, y111, z111⟩, st111⟩ := X107.specialBack hx (y := (⟨"java/util/ArrayList", "<init>", "()V"⟩ : MethodName)) rfl hown (mvT hZ (hw _ (List.mem_of_getElem? (i := 47) rfl))) (mvT hZ (hw _ (List.mem_of_getElem? (i := 48) rfl))) (mvT hZ (hw _ (List.mem_of_getElem? (i := 49) rfl))) (by decide) (backOf (W := 1) (alInit l Z a0 hw [] wCS wDE kDE G b107 h107 n0 O107 (A107 : Exa Z h107 b107 "java/util/ArrayList") (i107_modCount : Fld Z h107 b107 "java/util/AbstractList" "modCount" "I" (.int (0 : Int32))) (i107_elementData : Fld Z h107 b107 "java/util/ArrayList" "elementData" "[Ljava/lang/Object;" .null) (i107_size : Fld Z h107 b107 "java/util/ArrayList" "size" "I" (.int (0 : Int32))) (ge110 : n0 ≤ b107)) hZ (hw _ (List.mem_of_getElem? (i := 49) rfl)) (hw _ (List.mem_of_getElem? (i := 46) rfl)) (by decide) (by decide)) (g := (mkF m 120 #[iv p1, iv p2, iv p3, iv p4, rv b2, rv b12, rv b1_20, rv b1_23, iv (2 : Int32), rv b96, rv b96, .unset, .unset] [(.ref b107), (.ref b107)])) rfl (by rw [hml]; rfl) (Steps.refl _) (a := b107) (argsL := []) (rest := [(.ref b107)]) (lenOf pd_7 rfl) rfl (by show 2 * 0 + _ ≤ _; exact Nat.le_of_eq rfl) (hb hby at_120) (fun _ _ => ⟨rfl, e107, (by decide : 10 + 0 ≤ _), (by decide : 34 + 0 ≤ _)⟩)
    dsimp only [Pt.U, Pt.locs, Pt.cells, Pt.slots] at X111 l111 y111 z111 st111 hQ111
    subst l111 y111 z111
    obtain ⟨rfl, Nq111, Kq111, po111_0, po111_1, po111_2, po111_3⟩ := hQ111
    have N111 := Fr.app N104 Nq111
    have O111 := O107.keep Kq111 (allS ge110 all0)
    have k112 : Way p e below S0 T111 (mkF m 123 #[iv p1, iv p2, iv p3, iv p4, rv b2, rv b12, rv b1_20, rv b1_23, iv (2 : Int32), rv b96, rv b96, .unset, .unset] [(.ref b107)]) := fun t k => k109 t (st111.trans k)
    have k113 : Way p e below S0 T111 (mkF m 125 #[iv p1, iv p2, iv p3, iv p4, rv b2, rv b12, rv b1_20, rv b1_23, iv (2 : Int32), rv b96, rv b107, .unset, .unset] []) := by
      intro t k
      refine k112 t ?_
      refine XS.astore X111.here hx rfl (hb hby at_123) rfl rfl (l' := #[iv p1, iv p2, iv p3, iv p4, rv b2, rv b12, rv b1_20, rv b1_23, iv (2 : Int32), rv b96, rv b107, .unset, .unset]) rfl ?_
      show Steps p.tables e below (T111.setTop (mkF m 125 #[iv p1, iv p2, iv p3, iv p4, rv b2, rv b12, rv b1_20, rv b1_23, iv (2 : Int32), rv b96, rv b107, .unset, .unset] [])) _
      exact k
    obtain ⟨T114, h114, X114, e114, E114, A114, D114, U114, st114⟩ := newO X111 hx hZ hown (hw _ (List.mem_of_getElem? (i := 68) rfl)) (hw _ (List.mem_of_getElem? (i := 69) rfl)) (hw _ (List.mem_of_getElem? (i := 70) rfl)) rfl (g := (mkF m 125 #[iv p1, iv p2, iv p3, iv p4, rv b2, rv b12, rv b1_20, rv b1_23, iv (2 : Int32), rv b96, rv b107, .unset, .unset] [])) rfl (hb hby at_125) (by decide) (by decide)
    obtain ⟨b114, g114⟩ : ∃ z, z = T111.heap.size := ⟨_, rfl⟩
    rw [← g114] at A114 D114 U114 st114
    have O114 := O111.ext E114
    have i114_name : Fld Z h114 b114 "com/example/stubwright/stubwright/idl/Macros$Macro" "name" "Ljava/lang/String;" .null := D114 (Or.inr (hw _ (List.mem_of_getElem? (i := 94) rfl))) (ty := (.object "java/lang/String")) (by decide)
    have i114_parameters : Fld Z h114 b114 "com/example/stubwright/stubwright/idl/Macros$Macro" "parameters" "Ljava/util/List;" .null := D114 (Or.inr (hw _ (List.mem_of_getElem? (i := 96) rfl))) (ty := (.object "java/util/List")) (by decide)
    have i114_body : Fld Z h114 b114 "com/example/stubwright/stubwright/idl/Macros$Macro" "body" "Ljava/util/List;" .null := D114 (Or.inr (hw _ (List.mem_of_getElem? (i := 98) rfl))) (ty := (.object "java/util/List")) (by decide)
    have i114_location : Fld Z h114 b114 "com/example/stubwright/stubwright/idl/Macros$Macro" "location" "Lcom/example/stubwright/stubwright/idl/Location;" .null := D114 (Or.inr (hw _ (List.mem_of_getElem? (i := 100) rfl))) (ty := (.object "com/example/stubwright/stubwright/idl/Location")) (by decide)
    have k115 : Way p e below S0 T114 (mkF m 128 #[iv p1, iv p2, iv p3, iv p4, rv b2, rv b12, rv b1_20, rv b1_23, iv (2 : Int32), rv b96, rv b107, .unset, .unset] [(.ref b114)]) := fun t k => k113 t (st114 _ k)
    have k116 : Way p e below S0 T114 (mkF m 135 #[iv p1, iv p2, iv p3, iv p4, rv b2, rv b12, rv b1_20, rv b1_23, iv (2 : Int32), rv b96, rv b107, .unset, .unset] [(.ref b107), (.ref b96), (.ref b12), (.ref b114), (.ref b114)]) := by
      intro t k
      refine k115 t ?_
      refine XS.dup X114.here hx rfl (hb hby at_128) rfl rfl ?_
      show Steps p.tables e below (T114.setTop (mkF m 129 #[iv p1, iv p2, iv p3, iv p4, rv b2, rv b12, rv b1_20, rv b1_23, iv (2 : Int32), rv b96, rv b107, .unset, .unset] [(.ref b114), (.ref b114)])) _
      refine XS.aload X114.here hx rfl (hb hby at_129) rfl rfl ?_
      show Steps p.tables e below (T114.setTop (mkF m 131 #[iv p1, iv p2, iv p3, iv p4, rv b2, rv b12, rv b1_20, rv b1_23, iv (2 : Int32), rv b96, rv b107, .unset, .unset] [(.ref b12), (.ref b114), (.ref b114)])) _
      refine XS.aload X114.here hx rfl (hb hby at_131) rfl rfl ?_
      show Steps p.tables e below (T114.setTop (mkF m 133 #[iv p1, iv p2, iv p3, iv p4, rv b2, rv b12, rv b1_20, rv b1_23, iv (2 : Int32), rv b96, rv b107, .unset, .unset] [(.ref b96), (.ref b12), (.ref b114), (.ref b114)])) _
      refine XS.aload X114.here hx rfl (hb hby at_133) rfl rfl ?_
      show Steps p.tables e below (T114.setTop (mkF m 135 #[iv p1, iv p2, iv p3, iv p4, rv b2, rv b12, rv b1_20, rv b1_23, iv (2 : Int32), rv b96, rv b107, .unset, .unset] [(.ref b107), (.ref b96), (.ref b12), (.ref b114), (.ref b114)])) _
      exact k
    obtain ⟨T117, h117, X117, e117, E117, A117, D117, U117, st117⟩ := newO X114 hx hZ hown (hw _ (List.mem_of_getElem? (i := 71) rfl)) (hw _ (List.mem_of_getElem? (i := 72) rfl)) (hw _ (List.mem_of_getElem? (i := 73) rfl)) e114 (g := (mkF m 135 #[iv p1, iv p2, iv p3, iv p4, rv b2, rv b12, rv b1_20, rv b1_23, iv (2 : Int32), rv b96, rv b107, .unset, .unset] [(.ref b107), (.ref b96), (.ref b12), (.ref b114), (.ref b114)])) rfl (hb hby at_135) (by decide) (by decide)
    obtain ⟨b117, g117⟩ : ∃ z, z = h114.size := ⟨_, rfl⟩
    rw [← g117] at A117 D117 U117 st117
    have O117 := O114.ext E117
    have i117_file : Fld Z h117 b117 "com/example/stubwright/stubwright/idl/Location" "file" "Ljava/lang/String;" .null := D117 (Or.inr (hw _ (List.mem_of_getElem? (i := 84) rfl))) (ty := (.object "java/lang/String")) (by decide)
    have i117_line : Fld Z h117 b117 "com/example/stubwright/stubwright/idl/Location" "line" "I" (.int (0 : Int32)) := D117 (Or.inr (hw _ (List.mem_of_getElem? (i := 86) rfl))) (ty := .int) (by decide)
    have i117_column : Fld Z h117 b117 "com/example/stubwright/stubwright/idl/Location" "column" "I" (.int (0 : Int32)) := D117 (Or.inr (hw _ (List.mem_of_getElem? (i := 88) rfl))) (ty := .int) (by decide)
    have k118 : Way p e below S0 T117 (mkF m 138 #[iv p1, iv p2, iv p3, iv p4, rv b2, rv b12, rv b1_20, rv b1_23, iv (2 : Int32), rv b96, rv b107, .unset, .unset] [(.ref b117), (.ref b107), (.ref b96), (.ref b12), (.ref b114), (.ref b114)]) := fun t k => k116 t (st117 _ k)
    have k119 : Way p e below S0 T117 (mkF m 143 #[iv p1, iv p2, iv p3, iv p4, rv b2, rv b12, rv b1_20, rv b1_23, iv (2 : Int32), rv b96, rv b107, .unset, .unset] [(.int p1), (.int p4), (.ref b12), (.ref b117), (.ref b117), (.ref b107), (.ref b96), (.ref b12), (.ref b114), (.ref b114)]) := by
      intro t k
      refine k118 t ?_
      refine XS.dup X117.here hx rfl (hb hby at_138) rfl rfl ?_
      show Steps p.tables e below (T117.setTop (mkF m 139 #[iv p1, iv p2, iv p3, iv p4, rv b2, rv b12, rv b1_20, rv b1_23, iv (2 : Int32), rv b96, rv b107, .unset, .unset] [(.ref b117), (.ref b117), (.ref b107), (.ref b96), (.ref b12), (.ref b114), (.ref b114)])) _
      refine XS.aload X117.here hx rfl (hb hby at_139) rfl rfl ?_
      show Steps p.tables e below (T117.setTop (mkF m 141 #[iv p1, iv p2, iv p3, iv p4, rv b2, rv b12, rv b1_20, rv b1_23, iv (2 : Int32), rv b96, rv b107, .unset, .unset] [(.ref b12), (.ref b117), (.ref b117), (.ref b107), (.ref b96), (.ref b12), (.ref b114), (.ref b114)])) _
      refine XS.iloadN X117.here hx rfl (hb hby at_141) rfl ?_
      show Steps p.tables e below (T117.setTop (mkF m 142 #[iv p1, iv p2, iv p3, iv p4, rv b2, rv b12, rv b1_20, rv b1_23, iv (2 : Int32), rv b96, rv b107, .unset, .unset] [(.int p4), (.ref b12), (.ref b117), (.ref b117), (.ref b107), (.ref b96), (.ref b12), (.ref b114), (.ref b114)])) _
      refine XS.iloadN X117.here hx rfl (hb hby at_142) rfl ?_
      show Steps p.tables e below (T117.setTop (mkF m 143 #[iv p1, iv p2, iv p3, iv p4, rv b2, rv b12, rv b1_20, rv b1_23, iv (2 : Int32), rv b96, rv b107, .unset, .unset] [(.int p1), (.int p4), (.ref b12), (.ref b117), (.ref b117), (.ref b107), (.ref b96), (.ref b12), (.ref b114), (.ref b114)])) _
      exact k
    have ge120 : n0 ≤ b117 := Nat.le_trans (own_old O114) (Nat.le_of_eq g117.symm)
    obtain ⟨_, _, ⟨T121, L121, kk121, nn121⟩, -, X121, ⟨Lc121, hQ121, l121, y121, z121⟩, st121⟩ := X117.specialBack hx (y := (⟨"com/example/stubwright/stubwright/idl/Location", "<init>", "(Ljava/lang/String;II)V"⟩ : MethodName)) rfl hown (mvT hZ (hw _ (List.mem_of_getElem? (i := 74) rfl))) (mvT hZ (hw _ (List.mem_of_getElem? (i := 75) rfl))) (mvT hZ (hw _ (List.mem_of_getElem? (i := 76) rfl))) (by decide) (backOf (W := 6) (locInit l Z a0 hw [] wCS wDE kDE G b117 b12 p4 p1 h117 n0 O117 (A117 : Exa Z h117 b117 "com/example/stubwright/stubwright/idl/Location") (i117_file : Fld Z h117 b117 "com/example/stubwright/stubwright/idl/Location" "file" "Ljava/lang/String;" .null) (i117_line : Fld Z h117 b117 "com/example/stubwright/stubwright/idl/Location" "line" "I" (.int (0 : Int32))) (i117_column : Fld Z h117 b117 "com/example/stubwright/stubwright/idl/Location" "column" "I" (.int (0 : Int32))) (ge120 : n0 ≤ b117)) hZ (hw _ (List.mem_of_getElem? (i := 76) rfl)) (hw _ (List.mem_of_getElem? (i := 73) rfl)) (by decide) (by decide)) (g := (mkF m 143 #[iv p1, iv p2, iv p3, iv p4, rv b2, rv b12, rv b1_20, rv b1_23, iv (2 : Int32), rv b96, rv b107, .unset, .unset] [(.int p1), (.int p4), (.ref b12), (.ref b117), (.ref b117), (.ref b107), (.ref b96), (.ref b12), (.ref b114), (.ref b114)])) rfl (by rw [hml]; rfl) (Steps.refl _) (a := b117) (argsL := [(.ref b12), (.int p4), (.int p1)]) (rest := [(.ref b117), (.ref b107), (.ref b96), (.ref b12), (.ref b114), (.ref b114)]) (lenOf pd_14 rfl) rfl (by show 2 * 0 + _ ≤ _; exact Nat.le_of_eq rfl) (hb hby at_143) (fun _ _ => ⟨rfl, e117, (by decide : 12 + 0 ≤ _), (by decide : 41 + 0 ≤ _)⟩)
    dsimp only [Pt.U, Pt.locs, Pt.cells, Pt.slots] at X121 l121 y121 z121 st121 hQ121
    subst l121 y121 z121
    obtain ⟨rfl, Nq121, Kq121, po121_0⟩ := hQ121
    have N121 := Fr.app N111 Nq121
    have O121 := O117.keep Kq121 (allS ge120 all0)
    have k122 : Way p e below S0 T121 (mkF m 146 #[iv p1, iv p2, iv p3, iv p4, rv b2, rv b12, rv b1_20, rv b1_23, iv (2 : Int32), rv b96, rv b107, .unset, .unset] [(.ref b117), (.ref b107), (.ref b96), (.ref b12), (.ref b114), (.ref b114)]) := fun t k => k119 t (st121.trans k)
    have f123 : Exa Z T121.heap b114 "com/example/stubwright/stubwright/idl/Macros$Macro" := ((A114.ext E117).keep Kq121)
    have f124 : Fld Z T121.heap b114 "com/example/stubwright/stubwright/idl/Macros$Macro" "name" "Ljava/lang/String;" .null := ((i114_name.ext E117).keep Kq121 (ninS (Nat.ne_of_lt (Nat.lt_of_lt_of_le i114_name.lt (Nat.le_of_eq g117.symm))) nin0))
    have f125 : Fld Z T121.heap b114 "com/example/stubwright/stubwright/idl/Macros$Macro" "parameters" "Ljava/util/List;" .null := ((i114_parameters.ext E117).keep Kq121 (ninS (Nat.ne_of_lt (Nat.lt_of_lt_of_le i114_parameters.lt (Nat.le_of_eq g117.symm))) nin0))
    have f126 : Fld Z T121.heap b114 "com/example/stubwright/stubwright/idl/Macros$Macro" "body" "Ljava/util/List;" .null := ((i114_body.ext E117).keep Kq121 (ninS (Nat.ne_of_lt (Nat.lt_of_lt_of_le i114_body.lt (Nat.le_of_eq g117.symm))) nin0))
    have f127 : Fld Z T121.heap b114 "com/example/stubwright/stubwright/idl/Macros$Macro" "location" "Lcom/example/stubwright/stubwright/idl/Location;" .null := ((i114_location.ext E117).keep Kq121 (ninS (Nat.ne_of_lt (Nat.lt_of_lt_of_le i114_location.lt (Nat.le_of_eq g117.symm))) nin0))
    have ge128 : n0 ≤ b114 := Nat.le_trans (own_old O111) (Nat.le_of_eq g114.symm)
    obtain ⟨_, _, ⟨T129, L129, kk129, nn129⟩, -, X129, ⟨Lc129, hQ129, l129, y129, z129⟩, st129⟩ := X121.specialBack hx (y := (⟨"com/example/stubwright/stubwright/idl/Macros$Macro", "<init>", "(Ljava/lang/String;Ljava/util/List;Ljava/util/List;Lcom/example/stubwright/stubwright/idl/Location;)V"⟩ : MethodName)) rfl hown (mvT hZ (hw _ (List.mem_of_getElem? (i := 89) rfl))) (mvT hZ (hw _ (List.mem_of_getElem? (i := 90) rfl))) (mvT hZ (hw _ (List.mem_of_getElem? (i := 91) rfl))) (by decide) (backOf (W := 1) (macInit1 l Z a0 hw [] wCS wDE kDE G b114 b12 b96 b107 b117 T121.heap n0 O121 (f123 : Exa Z T121.heap b114 "com/example/stubwright/stubwright/idl/Macros$Macro") (f124 : Fld Z T121.heap b114 "com/example/stubwright/stubwright/idl/Macros$Macro" "name" "Ljava/lang/String;" .null) (f125 : Fld Z T121.heap b114 "com/example/stubwright/stubwright/idl/Macros$Macro" "parameters" "Ljava/util/List;" .null) (f126 : Fld Z T121.heap b114 "com/example/stubwright/stubwright/idl/Macros$Macro" "body" "Ljava/util/List;" .null) (f127 : Fld Z T121.heap b114 "com/example/stubwright/stubwright/idl/Macros$Macro" "location" "Lcom/example/stubwright/stubwright/idl/Location;" .null) (ge128 : n0 ≤ b114)) hZ (hw _ (List.mem_of_getElem? (i := 91) rfl)) (hw _ (List.mem_of_getElem? (i := 70) rfl)) (by decide) (by decide)) (g := (mkF m 146 #[iv p1, iv p2, iv p3, iv p4, rv b2, rv b12, rv b1_20, rv b1_23, iv (2 : Int32), rv b96, rv b107, .unset, .unset] [(.ref b117), (.ref b107), (.ref b96), (.ref b12), (.ref b114), (.ref b114)])) rfl (by rw [hml]; rfl) (Steps.refl _) (a := b114) (argsL := [(.ref b12), (.ref b96), (.ref b107), (.ref b117)]) (rest := [(.ref b114)]) (lenOf pd_15 rfl) rfl (by show 2 * 0 + _ ≤ _; exact Nat.le_of_eq rfl) (hb hby at_146) (fun _ _ => ⟨rfl, rfl, (by decide : 12 + 0 ≤ _), (by decide : 41 + 0 ≤ _)⟩)
    dsimp only [Pt.U, Pt.locs, Pt.cells, Pt.slots] at X129 l129 y129 z129 st129 hQ129
    subst l129 y129 z129
    obtain ⟨rfl, Nq129, Kq129, po129_0, po129_1⟩ := hQ129
    have N129 := Fr.app N121 Nq129
    have O129 := O121.keep Kq129 (allS ge128 all0)
    have k130 : Way p e below S0 T129 (mkF m 149 #[iv p1, iv p2, iv p3, iv p4, rv b2, rv b12, rv b1_20, rv b1_23, iv (2 : Int32), rv b96, rv b107, .unset, .unset] [(.ref b114)]) := fun t k => k122 t (st129.trans k)
    have k131 : Way p e below S0 T129 (mkF m 165 #[iv p1, iv p2, iv p3, iv p4, rv b2, rv b12, rv b1_20, rv b1_23, iv (2 : Int32), rv b96, rv b107, rv b114, iv (1 : Int32)] [(.ref b114)]) := by
      intro t k
      refine k130 t ?_
      refine XS.astore X129.here hx rfl (hb hby at_149) rfl rfl (l' := #[iv p1, iv p2, iv p3, iv p4, rv b2, rv b12, rv b1_20, rv b1_23, iv (2 : Int32), rv b96, rv b107, rv b114, .unset]) rfl ?_
      show Steps p.tables e below (T129.setTop (mkF m 151 #[iv p1, iv p2, iv p3, iv p4, rv b2, rv b12, rv b1_20, rv b1_23, iv (2 : Int32), rv b96, rv b107, rv b114, .unset] [])) _
      refine XS.iload X129.here hx rfl (hb hby at_151) rfl ?_
      show Steps p.tables e below (T129.setTop (mkF m 153 #[iv p1, iv p2, iv p3, iv p4, rv b2, rv b12, rv b1_20, rv b1_23, iv (2 : Int32), rv b96, rv b107, rv b114, .unset] [(.int (2 : Int32))])) _
      refine XS.ifNo X129.here hx rfl (hb hby at_153) rfl ((if0 _ _).trans (feq ((by decide) : ¬ ((2 : Int32) = (0 : Int32)))).1) ?_
      show Steps p.tables e below (T129.setTop (mkF m 156 #[iv p1, iv p2, iv p3, iv p4, rv b2, rv b12, rv b1_20, rv b1_23, iv (2 : Int32), rv b96, rv b107, rv b114, .unset] [])) _
      refine XS.iconst X129.here hx rfl (hb hby at_156) ?_
      show Steps p.tables e below (T129.setTop (mkF m 157 #[iv p1, iv p2, iv p3, iv p4, rv b2, rv b12, rv b1_20, rv b1_23, iv (2 : Int32), rv b96, rv b107, rv b114, .unset] [(.int (1 : Int32))])) _
      refine XS.goto X129.here hx rfl (pc0 := 157) (pc' := 161) rfl (hb hby at_157) (by decide) (by decide) ?_
      show Steps p.tables e below (T129.setTop (mkF m 161 #[iv p1, iv p2, iv p3, iv p4, rv b2, rv b12, rv b1_20, rv b1_23, iv (2 : Int32), rv b96, rv b107, rv b114, .unset] [(.int (1 : Int32))])) _
      refine XS.istore X129.here hx rfl (hb hby at_161) rfl (l' := #[iv p1, iv p2, iv p3, iv p4, rv b2, rv b12, rv b1_20, rv b1_23, iv (2 : Int32), rv b96, rv b107, rv b114, iv (1 : Int32)]) rfl ?_
      show Steps p.tables e below (T129.setTop (mkF m 163 #[iv p1, iv p2, iv p3, iv p4, rv b2, rv b12, rv b1_20, rv b1_23, iv (2 : Int32), rv b96, rv b107, rv b114, iv (1 : Int32)] [])) _
      refine XS.aload X129.here hx rfl (hb hby at_163) rfl rfl ?_
      show Steps p.tables e below (T129.setTop (mkF m 165 #[iv p1, iv p2, iv p3, iv p4, rv b2, rv b12, rv b1_20, rv b1_23, iv (2 : Int32), rv b96, rv b107, rv b114, iv (1 : Int32)] [(.ref b114)])) _
      exact k
    obtain ⟨cq132, kq132, qq132a, qq132b, qq132c⟩ := isOf hZ rfl po129_0
    obtain ⟨_, _, ⟨T132, L132, kk132, nn132⟩, -, X132, ⟨Lc132, hQ132, l132, y132, z132⟩, st132⟩ := X129.virtualBack hx (y := (⟨"com/example/stubwright/stubwright/idl/Macros$Macro", "functionLike", "()Z"⟩ : MethodName)) (z := (⟨"com/example/stubwright/stubwright/idl/Macros$Macro", "functionLike", "()Z"⟩ : MethodName)) hown (mvT hZ (hw _ (List.mem_of_getElem? (i := 101) rfl))) (mvT hZ (hw _ (List.mem_of_getElem? (i := 102) rfl))) (notFace_of_selects (args := #[]) (mvT hZ (hw _ (List.mem_of_getElem? (i := 104) rfl)))) (mvT hZ (hw _ (List.mem_of_getElem? (i := 104) rfl))) (mvT hZ (hw _ (List.mem_of_getElem? (i := 103) rfl))) (by decide) (backOf (W := 0) (fl1 l Z a0 hw [] wCS wDE kDE G b114 b96 T129.heap n0 O129 (po129_1 : Fld Z T129.heap b114 "com/example/stubwright/stubwright/idl/Macros$Macro" "parameters" "Ljava/util/List;" (.ref b96))) hZ (hw _ (List.mem_of_getElem? (i := 105) rfl)) (hw _ (List.mem_of_getElem? (i := 70) rfl)) (by decide) (by decide)) qq132a qq132c (g := (mkF m 165 #[iv p1, iv p2, iv p3, iv p4, rv b2, rv b12, rv b1_20, rv b1_23, iv (2 : Int32), rv b96, rv b107, rv b114, iv (1 : Int32)] [(.ref b114)])) rfl (by rw [hml]; rfl) (Steps.refl _) (argsL := []) (rest := []) (lenOf pd_16 rfl) rfl (by show 2 * 0 + _ ≤ _; exact Nat.le_of_eq rfl) (hb hby at_165) (fun _ _ => ⟨rfl, rfl, (by decide : 12 + 0 ≤ _), (by decide : 41 + 0 ≤ _)⟩)
    dsimp only [Pt.U, Pt.locs, Pt.cells, Pt.slots] at X132 l132 y132 z132 st132 hQ132
    subst l132 y132 z132
    obtain ⟨rfl, Nq132, e132⟩ := hQ132
    have N132 := Fr.app N129 Nq132
    have k133 : Way p e below S0 T132 (mkF m 168 #[iv p1, iv p2, iv p3, iv p4, rv b2, rv b12, rv b1_20, rv b1_23, iv (2 : Int32), rv b96, rv b107, rv b114, iv (1 : Int32)] [(.int (1 : Int32))]) := fun t k => k131 t (st132.trans k)
    have k134 : Way p e below S0 T132 (mkF m 178 #[iv p1, iv p2, iv p3, iv p4, rv b2, rv b12, rv b1_20, rv b1_23, iv (2 : Int32), rv b96, rv b107, rv b114, iv (1 : Int32)] [(.int (1 : Int32))]) := by
      intro t k
      refine k133 t ?_
      refine XS.iload X132.here hx rfl (hb hby at_168) rfl ?_
      show Steps p.tables e below (T132.setTop (mkF m 170 #[iv p1, iv p2, iv p3, iv p4, rv b2, rv b12, rv b1_20, rv b1_23, iv (2 : Int32), rv b96, rv b107, rv b114, iv (1 : Int32)] [(.int (1 : Int32)), (.int (1 : Int32))])) _
      refine XS.icmpNo X132.here hx rfl (hb hby at_170) rfl (teq ((by decide) : (1 : Int32) = (1 : Int32))).2 ?_
      show Steps p.tables e below (T132.setTop (mkF m 173 #[iv p1, iv p2, iv p3, iv p4, rv b2, rv b12, rv b1_20, rv b1_23, iv (2 : Int32), rv b96, rv b107, rv b114, iv (1 : Int32)] [])) _
      refine XS.iconst X132.here hx rfl (hb hby at_173) ?_
      show Steps p.tables e below (T132.setTop (mkF m 174 #[iv p1, iv p2, iv p3, iv p4, rv b2, rv b12, rv b1_20, rv b1_23, iv (2 : Int32), rv b96, rv b107, rv b114, iv (1 : Int32)] [(.int (1 : Int32))])) _
      refine XS.goto X132.here hx rfl (pc0 := 174) (pc' := 178) rfl (hb hby at_174) (by decide) (by decide) ?_
      show Steps p.tables e below (T132.setTop (mkF m 178 #[iv p1, iv p2, iv p3, iv p4, rv b2, rv b12, rv b1_20, rv b1_23, iv (2 : Int32), rv b96, rv b107, rv b114, iv (1 : Int32)] [(.int (1 : Int32))])) _
      exact k
    obtain ⟨fs, hr, hrun, hended, hW, hsame⟩ := X132.leave (v := some (.int (1 : Int32))) (fun h => by rw [Bd.returns] at h; cases h)
    refine ⟨_, _, k134 _ (retN X132 hx (t := .boolean) Bd.returns (by simp) (hb hby at_178) hr), hrun, hended, _, _, rfl, ?_, ⟨_, rfl⟩, hW, hsame.mono (by decide) (by decide)⟩
    show Q_law_met Z wCS wDE kDE p1 p2 p3 p4 h0 n0 _ T132.heap _
    rw [e132]
    exact ⟨rfl, N132⟩
  · have k135 : Way p e below S0 T23 (mkF m 70 #[iv p1, iv p2, iv p3, iv p4, rv b2, rv b12, rv b1_20, rv b1_23, iv (3 : Int32), .val .null, .unset, .unset, .unset] []) := by have q := k25; rw [hi26] at q; exact q
    have k136 : Way p e below S0 T23 (mkF m 75 #[iv p1, iv p2, iv p3, iv p4, rv b2, rv b12, rv b1_20, rv b1_23, iv (3 : Int32), .val .null, .unset, .unset, .unset] []) := by
      intro t k
      refine k135 t ?_
      refine XS.iload X23.here hx rfl (hb hby at_70) rfl ?_
      show Steps p.tables e below (T23.setTop (mkF m 72 #[iv p1, iv p2, iv p3, iv p4, rv b2, rv b12, rv b1_20, rv b1_23, iv (3 : Int32), .val .null, .unset, .unset, .unset] [(.int (3 : Int32))])) _
      refine XS.ifNo X23.here hx rfl (hb hby at_72) rfl ((if0 _ _).trans (feq ((by decide) : ¬ ((3 : Int32) = (0 : Int32)))).1) ?_
      show Steps p.tables e below (T23.setTop (mkF m 75 #[iv p1, iv p2, iv p3, iv p4, rv b2, rv b12, rv b1_20, rv b1_23, iv (3 : Int32), .val .null, .unset, .unset, .unset] [])) _
      exact k
    obtain ⟨T137, h137, X137, e137, E137, A137, D137, U137, st137⟩ := newO X23 hx hZ hown (hw _ (List.mem_of_getElem? (i := 44) rfl)) (hw _ (List.mem_of_getElem? (i := 45) rfl)) (hw _ (List.mem_of_getElem? (i := 46) rfl)) rfl (g := (mkF m 75 #[iv p1, iv p2, iv p3, iv p4, rv b2, rv b12, rv b1_20, rv b1_23, iv (3 : Int32), .val .null, .unset, .unset, .unset] [])) rfl (hb hby at_75) (by decide) (by decide)
    obtain ⟨b137, g137⟩ : ∃ z, z = T23.heap.size := ⟨_, rfl⟩
    rw [← g137] at A137 D137 U137 st137
    have O137 := O23.ext E137
    have i137_modCount : Fld Z h137 b137 "java/util/AbstractList" "modCount" "I" (.int (0 : Int32)) := D137 (Or.inl (hw _ (List.mem_of_getElem? (i := 64) rfl))) (ty := .int) (by decide)
    have i137_elementData : Fld Z h137 b137 "java/util/ArrayList" "elementData" "[Ljava/lang/Object;" .null := D137 (Or.inl (hw _ (List.mem_of_getElem? (i := 67) rfl))) (ty := (.array (.object "java/lang/Object"))) (by decide)
    have i137_size : Fld Z h137 b137 "java/util/ArrayList" "size" "I" (.int (0 : Int32)) := D137 (Or.inl (hw _ (List.mem_of_getElem? (i := 114) rfl))) (ty := .int) (by decide)
    have k138 : Way p e below S0 T137 (mkF m 78 #[iv p1, iv p2, iv p3, iv p4, rv b2, rv b12, rv b1_20, rv b1_23, iv (3 : Int32), .val .null, .unset, .unset, .unset] [(.ref b137)]) := fun t k => k136 t (st137 _ k)
    have k139 : Way p e below S0 T137 (mkF m 79 #[iv p1, iv p2, iv p3, iv p4, rv b2, rv b12, rv b1_20, rv b1_23, iv (3 : Int32), .val .null, .unset, .unset, .unset] [(.ref b137), (.ref b137)]) := by
      intro t k
      refine k138 t ?_
      refine XS.dup X137.here hx rfl (hb hby at_78) rfl rfl ?_
      show Steps p.tables e below (T137.setTop (mkF m 79 #[iv p1, iv p2, iv p3, iv p4, rv b2, rv b12, rv b1_20, rv b1_23, iv (3 : Int32), .val .null, .unset, .unset, .unset] [(.ref b137), (.ref b137)])) _
      exact k
    have ge140 : n0 ≤ b137 := Nat.le_trans (own_old O23) (Nat.le_of_eq g137.symm)
    obtain ⟨_, _, ⟨T141, L141, kk141, nn141⟩, -, X141, ⟨Lc141, hQ141, l141, y141, z141⟩, st141⟩ := X137.specialBack hx (y := (⟨"java/util/ArrayList", "<init>", "()V"⟩ : MethodName)) rfl hown (mvT hZ (hw _ (List.mem_of_getElem? (i := 47) rfl))) (mvT hZ (hw _ (List.mem_of_getElem? (i := 48) rfl))) (mvT hZ (hw _ (List.mem_of_getElem? (i := 49) rfl))) (by decide) (backOf (W := 1) (alInit l Z a0 hw [] wCS wDE kDE G b137 h137 n0 O137 (A137 : Exa Z h137 b137 "java/util/ArrayList") (i137_modCount : Fld Z h137 b137 "java/util/AbstractList" "modCount" "I" (.int (0 : Int32))) (i137_elementData : Fld Z h137 b137 "java/util/ArrayList" "elementData" "[Ljava/lang/Object;" .null) (i137_size : Fld Z h137 b137 "java/util/ArrayList" "size" "I" (.int (0 : Int32))) (ge140 : n0 ≤ b137)) hZ (hw _ (List.mem_of_getElem? (i := 49) rfl)) (hw _ (List.mem_of_getElem? (i := 46) rfl)) (by decide) (by decide)) (g := (mkF m 79 #[iv p1, iv p2, iv p3, iv p4, rv b2, rv b12, rv b1_20, rv b1_23, iv (3 : Int32), .val .null, .unset, .unset, .unset] [(.ref b137), (.ref b137)])) rfl (by rw [hml]; rfl) (Steps.refl _) (a := b137) (argsL := []) (rest := [(.ref b137)]) (lenOf pd_7 rfl) rfl (by show 2 * 0 + _ ≤ _; exact Nat.le_of_eq rfl) (hb hby at_79) (fun _ _ => ⟨rfl, e137, (by decide : 8 + 0 ≤ _), (by decide : 21 + 0 ≤ _)⟩)
    dsimp only [Pt.U, Pt.locs, Pt.cells, Pt.slots] at X141 l141 y141 z141 st141 hQ141
    subst l141 y141 z141
    obtain ⟨rfl, Nq141, Kq141, po141_0, po141_1, po141_2, po141_3⟩ := hQ141
    have N141 := Fr.app N23 Nq141
    have O141 := O137.keep Kq141 (allS ge140 all0)
    have k142 : Way p e below S0 T141 (mkF m 82 #[iv p1, iv p2, iv p3, iv p4, rv b2, rv b12, rv b1_20, rv b1_23, iv (3 : Int32), .val .null, .unset, .unset, .unset] [(.ref b137)]) := fun t k => k139 t (st141.trans k)
    have k143 : Way p e below S0 T141 (mkF m 94 #[iv p1, iv p2, iv p3, iv p4, rv b2, rv b12, rv b1_20, rv b1_23, iv (3 : Int32), .val .null, rv b137, .unset, .unset] [(.ref b1_20), (.ref b137)]) := by
      intro t k
      refine k142 t ?_
      refine XS.astore X141.here hx rfl (hb hby at_82) rfl rfl (l' := #[iv p1, iv p2, iv p3, iv p4, rv b2, rv b12, rv b1_20, rv b1_23, iv (3 : Int32), .val .null, rv b137, .unset, .unset]) rfl ?_
      show Steps p.tables e below (T141.setTop (mkF m 84 #[iv p1, iv p2, iv p3, iv p4, rv b2, rv b12, rv b1_20, rv b1_23, iv (3 : Int32), .val .null, rv b137, .unset, .unset] [])) _
      refine XS.iload X141.here hx rfl (hb hby at_84) rfl ?_
      show Steps p.tables e below (T141.setTop (mkF m 86 #[iv p1, iv p2, iv p3, iv p4, rv b2, rv b12, rv b1_20, rv b1_23, iv (3 : Int32), .val .null, rv b137, .unset, .unset] [(.int (3 : Int32))])) _
      refine XS.iconst X141.here hx rfl (hb hby at_86) ?_
      show Steps p.tables e below (T141.setTop (mkF m 87 #[iv p1, iv p2, iv p3, iv p4, rv b2, rv b12, rv b1_20, rv b1_23, iv (3 : Int32), .val .null, rv b137, .unset, .unset] [(.int (2 : Int32)), (.int (3 : Int32))])) _
      refine XS.icmpNo X141.here hx rfl (hb hby at_87) rfl (flt ((by decide) : ¬ ((3 : Int32) < (2 : Int32)))).1 ?_
      show Steps p.tables e below (T141.setTop (mkF m 90 #[iv p1, iv p2, iv p3, iv p4, rv b2, rv b12, rv b1_20, rv b1_23, iv (3 : Int32), .val .null, rv b137, .unset, .unset] [])) _
      refine XS.aload X141.here hx rfl (hb hby at_90) rfl rfl ?_
      show Steps p.tables e below (T141.setTop (mkF m 92 #[iv p1, iv p2, iv p3, iv p4, rv b2, rv b12, rv b1_20, rv b1_23, iv (3 : Int32), .val .null, rv b137, .unset, .unset] [(.ref b137)])) _
      refine XS.aload X141.here hx rfl (hb hby at_92) rfl rfl ?_
      show Steps p.tables e below (T141.setTop (mkF m 94 #[iv p1, iv p2, iv p3, iv p4, rv b2, rv b12, rv b1_20, rv b1_23, iv (3 : Int32), .val .null, rv b137, .unset, .unset] [(.ref b1_20), (.ref b137)])) _
      exact k
    have f144 : Exa Z T141.heap b1_20 "java/lang/String" := (((po20_2.keep Kq23).ext E137).keep Kq141)
    obtain ⟨cq145, kq145, qq145a, qq145b, qq145c⟩ := isOf hZ rfl po141_0
    obtain ⟨_, _, ⟨T145, L145, kk145, nn145⟩, -, X145, ⟨Lc145, hQ145, l145, y145, z145⟩, st145⟩ := X141.virtualBack hx (y := (⟨"java/util/ArrayList", "add", "(Ljava/lang/Object;)Z"⟩ : MethodName)) (z := (⟨"java/util/ArrayList", "add", "(Ljava/lang/Object;)Z"⟩ : MethodName)) hown (mvT hZ (hw _ (List.mem_of_getElem? (i := 106) rfl))) (mvT hZ (hw _ (List.mem_of_getElem? (i := 107) rfl))) (notFace_of_selects (args := #[]) (mvT hZ (hw _ (List.mem_of_getElem? (i := 109) rfl)))) (mvT hZ (hw _ (List.mem_of_getElem? (i := 109) rfl))) (mvT hZ (hw _ (List.mem_of_getElem? (i := 108) rfl))) (by decide) (backOf (W := 0) (addA l Z a0 hw [] wCS wDE kDE G b137 b1_20 T141.heap n0 O141 (po141_0 : Exa Z T141.heap b137 "java/util/ArrayList") (po141_1 : Fld Z T141.heap b137 "java/util/AbstractList" "modCount" "I" (.int (0 : Int32))) (po141_2 : Fld Z T141.heap b137 "java/util/ArrayList" "elementData" "[Ljava/lang/Object;" (.ref wDE)) (po141_3 : Fld Z T141.heap b137 "java/util/ArrayList" "size" "I" (.int (0 : Int32))) (ge140 : n0 ≤ b137) (f144 : Exa Z T141.heap b1_20 "java/lang/String")) hZ (hw _ (List.mem_of_getElem? (i := 110) rfl)) (hw _ (List.mem_of_getElem? (i := 46) rfl)) (by decide) (by decide)) qq145a qq145c (g := (mkF m 94 #[iv p1, iv p2, iv p3, iv p4, rv b2, rv b12, rv b1_20, rv b1_23, iv (3 : Int32), .val .null, rv b137, .unset, .unset] [(.ref b1_20), (.ref b137)])) rfl (by rw [hml]; rfl) (Steps.refl _) (argsL := [(.ref b1_20)]) (rest := []) (lenOf pd_17 rfl) rfl (by show 2 * 0 + _ ≤ _; exact Nat.le_of_eq rfl) (hb hby at_94) (fun _ _ => ⟨rfl, rfl, (by decide : 8 + 1 ≤ _), (by decide : 21 + 10 ≤ _)⟩)
    dsimp only [Pt.U, Pt.locs, Pt.cells, Pt.slots] at X145 l145 y145 z145 st145 hQ145
    subst l145 y145 z145
    obtain ⟨b1_145, kc_145, rfl, Nq145, Kq145, po145_0, po145_1, po145_2, po145_3, po145_4, po145_5, po145_6⟩ := hQ145
    have N145 := Fr.app N141 Nq145
    have O145 := O141.keep Kq145 (allS ge140 all0)
    have k146 : Way p e below S0 T145 (mkF m 97 #[iv p1, iv p2, iv p3, iv p4, rv b2, rv b12, rv b1_20, rv b1_23, iv (3 : Int32), .val .null, rv b137, .unset, .unset] [(.int (1 : Int32))]) := fun t k => k143 t (st145.trans k)
    have k147 : Way p e below S0 T145 (mkF m 108 #[iv p1, iv p2, iv p3, iv p4, rv b2, rv b12, rv b1_20, rv b1_23, iv (3 : Int32), .val .null, rv b137, .unset, .unset] [(.ref b1_23), (.ref b137)]) := by
      intro t k
      refine k146 t ?_
      refine XS.pop X145.here hx rfl (hb hby at_97) rfl rfl ?_
      show Steps p.tables e below (T145.setTop (mkF m 98 #[iv p1, iv p2, iv p3, iv p4, rv b2, rv b12, rv b1_20, rv b1_23, iv (3 : Int32), .val .null, rv b137, .unset, .unset] [])) _
      refine XS.iload X145.here hx rfl (hb hby at_98) rfl ?_
      show Steps p.tables e below (T145.setTop (mkF m 100 #[iv p1, iv p2, iv p3, iv p4, rv b2, rv b12, rv b1_20, rv b1_23, iv (3 : Int32), .val .null, rv b137, .unset, .unset] [(.int (3 : Int32))])) _
      refine XS.iconst X145.here hx rfl (hb hby at_100) ?_
      show Steps p.tables e below (T145.setTop (mkF m 101 #[iv p1, iv p2, iv p3, iv p4, rv b2, rv b12, rv b1_20, rv b1_23, iv (3 : Int32), .val .null, rv b137, .unset, .unset] [(.int (3 : Int32)), (.int (3 : Int32))])) _
      refine XS.icmpNo X145.here hx rfl (hb hby at_101) rfl (teq ((by decide) : (3 : Int32) = (3 : Int32))).2 ?_
      show Steps p.tables e below (T145.setTop (mkF m 104 #[iv p1, iv p2, iv p3, iv p4, rv b2, rv b12, rv b1_20, rv b1_23, iv (3 : Int32), .val .null, rv b137, .unset, .unset] [])) _
      refine XS.aload X145.here hx rfl (hb hby at_104) rfl rfl ?_
      show Steps p.tables e below (T145.setTop (mkF m 106 #[iv p1, iv p2, iv p3, iv p4, rv b2, rv b12, rv b1_20, rv b1_23, iv (3 : Int32), .val .null, rv b137, .unset, .unset] [(.ref b137)])) _
      refine XS.aload X145.here hx rfl (hb hby at_106) rfl rfl ?_
      show Steps p.tables e below (T145.setTop (mkF m 108 #[iv p1, iv p2, iv p3, iv p4, rv b2, rv b12, rv b1_20, rv b1_23, iv (3 : Int32), .val .null, rv b137, .unset, .unset] [(.ref b1_23), (.ref b137)])) _
      exact k
    have ge148 : n0 ≤ b1_145 := Nat.le_trans (own_old O141) po145_0
    have f149 : Exa Z T145.heap b1_23 "java/lang/String" := (((po23_2.ext E137).keep Kq141).keep Kq145)
    obtain ⟨cq150, kq150, qq150a, qq150b, qq150c⟩ := isOf hZ rfl po145_1
    obtain ⟨_, _, ⟨T150, L150, kk150, nn150⟩, -, X150, ⟨Lc150, hQ150, l150, y150, z150⟩, st150⟩ := X145.virtualBack hx (y := (⟨"java/util/ArrayList", "add", "(Ljava/lang/Object;)Z"⟩ : MethodName)) (z := (⟨"java/util/ArrayList", "add", "(Ljava/lang/Object;)Z"⟩ : MethodName)) hown (mvT hZ (hw _ (List.mem_of_getElem? (i := 106) rfl))) (mvT hZ (hw _ (List.mem_of_getElem? (i := 107) rfl))) (notFace_of_selects (args := #[]) (mvT hZ (hw _ (List.mem_of_getElem? (i := 109) rfl)))) (mvT hZ (hw _ (List.mem_of_getElem? (i := 109) rfl))) (mvT hZ (hw _ (List.mem_of_getElem? (i := 108) rfl))) (by decide) (backOf (W := 0) (addB l Z a0 hw [] wCS wDE kDE G b137 b1_23 b1_145 b1_20 kc_145 T145.heap n0 O145 (po145_1 : Exa Z T145.heap b137 "java/util/ArrayList") (po145_2 : Fld Z T145.heap b137 "java/util/AbstractList" "modCount" "I" (.int (1 : Int32))) (po145_3 : Fld Z T145.heap b137 "java/util/ArrayList" "elementData" "[Ljava/lang/Object;" (.ref b1_145)) (po145_4 : Fld Z T145.heap b137 "java/util/ArrayList" "size" "I" (.int (1 : Int32))) (ge140 : n0 ≤ b137) (ge148 : n0 ≤ b1_145) ((Nat.ne_of_lt (Nat.lt_of_lt_of_le po141_0.lt po145_0)) : b137 ≠ b1_145) (f149 : Exa Z T145.heap b1_23 "java/lang/String") (po145_5 : Arv Z T145.heap b1_145 kc_145 (.object "java/lang/Object") (10 : Int32) [(.ref b1_20), .null, .null, .null, .null, .null, .null, .null, .null, .null] .null) (po145_6 : Ovr Z kc_145 "java/lang/Object")) hZ (hw _ (List.mem_of_getElem? (i := 110) rfl)) (hw _ (List.mem_of_getElem? (i := 46) rfl)) (by decide) (by decide)) qq150a qq150c (g := (mkF m 108 #[iv p1, iv p2, iv p3, iv p4, rv b2, rv b12, rv b1_20, rv b1_23, iv (3 : Int32), .val .null, rv b137, .unset, .unset] [(.ref b1_23), (.ref b137)])) rfl (by rw [hml]; rfl) (Steps.refl _) (argsL := [(.ref b1_23)]) (rest := []) (lenOf pd_17 rfl) rfl (by show 2 * 0 + _ ≤ _; exact Nat.le_of_eq rfl) (hb hby at_108) (fun _ _ => ⟨rfl, rfl, (by decide : 9 + 0 ≤ _), (by decide : 31 + 0 ≤ _)⟩)
    dsimp only [Pt.U, Pt.locs, Pt.cells, Pt.slots] at X150 l150 y150 z150 st150 hQ150
    subst l150 y150 z150
    obtain ⟨rfl, Nq150, Kq150, po150_0⟩ := hQ150
    have N150 := Fr.app N145 Nq150
    have O150 := O145.keep Kq150 (allS ge140 (allS ge148 all0))
    have k151 : Way p e below S0 T150 (mkF m 111 #[iv p1, iv p2, iv p3, iv p4, rv b2, rv b12, rv b1_20, rv b1_23, iv (3 : Int32), .val .null, rv b137, .unset, .unset] [(.int (1 : Int32))]) := fun t k => k147 t (st150.trans k)
    have k152 : Way p e below S0 T150 (mkF m 116 #[iv p1, iv p2, iv p3, iv p4, rv b2, rv b12, rv b1_20, rv b1_23, iv (3 : Int32), rv b137, rv b137, .unset, .unset] []) := by
      intro t k
      refine k151 t ?_
      refine XS.pop X150.here hx rfl (hb hby at_111) rfl rfl ?_
      show Steps p.tables e below (T150.setTop (mkF m 112 #[iv p1, iv p2, iv p3, iv p4, rv b2, rv b12, rv b1_20, rv b1_23, iv (3 : Int32), .val .null, rv b137, .unset, .unset] [])) _
      refine XS.aload X150.here hx rfl (hb hby at_112) rfl rfl ?_
      show Steps p.tables e below (T150.setTop (mkF m 114 #[iv p1, iv p2, iv p3, iv p4, rv b2, rv b12, rv b1_20, rv b1_23, iv (3 : Int32), .val .null, rv b137, .unset, .unset] [(.ref b137)])) _
      refine XS.astore X150.here hx rfl (hb hby at_114) rfl rfl (l' := #[iv p1, iv p2, iv p3, iv p4, rv b2, rv b12, rv b1_20, rv b1_23, iv (3 : Int32), rv b137, rv b137, .unset, .unset]) rfl ?_
      show Steps p.tables e below (T150.setTop (mkF m 116 #[iv p1, iv p2, iv p3, iv p4, rv b2, rv b12, rv b1_20, rv b1_23, iv (3 : Int32), rv b137, rv b137, .unset, .unset] [])) _
      exact k
    obtain ⟨T153, h153, X153, e153, E153, A153, D153, U153, st153⟩ := newO X150 hx hZ hown (hw _ (List.mem_of_getElem? (i := 44) rfl)) (hw _ (List.mem_of_getElem? (i := 45) rfl)) (hw _ (List.mem_of_getElem? (i := 46) rfl)) rfl (g := (mkF m 116 #[iv p1, iv p2, iv p3, iv p4, rv b2, rv b12, rv b1_20, rv b1_23, iv (3 : Int32), rv b137, rv b137, .unset, .unset] [])) rfl (hb hby at_116) (by decide) (by decide)
    obtain ⟨b153, g153⟩ : ∃ z, z = T150.heap.size := ⟨_, rfl⟩
    rw [← g153] at A153 D153 U153 st153
    have O153 := O150.ext E153
    have i153_modCount : Fld Z h153 b153 "java/util/AbstractList" "modCount" "I" (.int (0 : Int32)) := D153 (Or.inl (hw _ (List.mem_of_getElem? (i := 64) rfl))) (ty := .int) (by decide)
    have i153_elementData : Fld Z h153 b153 "java/util/ArrayList" "elementData" "[Ljava/lang/Object;" .null := D153 (Or.inl (hw _ (List.mem_of_getElem? (i := 67) rfl))) (ty := (.array (.object "java/lang/Object"))) (by decide)
    have i153_size : Fld Z h153 b153 "java/util/ArrayList" "size" "I" (.int (0 : Int32)) := D153 (Or.inl (hw _ (List.mem_of_getElem? (i := 114) rfl))) (ty := .int) (by decide)
    have k154 : Way p e below S0 T153 (mkF m 119 #[iv p1, iv p2, iv p3, iv p4, rv b2, rv b12, rv b1_20, rv b1_23, iv (3 : Int32), rv b137, rv b137, .unset, .unset] [(.ref b153)]) := fun t k => k152 t (st153 _ k)
    have k155 : Way p e below S0 T153 (mkF m 120 #[iv p1, iv p2, iv p3, iv p4, rv b2, rv b12, rv b1_20, rv b1_23, iv (3 : Int32), rv b137, rv b137, .unset, .unset] [(.ref b153), (.ref b153)]) := by
      intro t k
      refine k154 t ?_
      refine XS.dup X153.here hx rfl (hb hby at_119) rfl rfl ?_
      show Steps p.tables e below (T153.setTop (mkF m 120 #[iv p1, iv p2, iv p3, iv p4, rv b2, rv b12, rv b1_20, rv b1_23, iv (3 : Int32), rv b137, rv b137, .unset, .unset] [(.ref b153), (.ref b153)])) _
      exact k
    have ge156 : n0 ≤ b153 := Nat.le_trans (own_old O150) (Nat.le_of_eq g153.symm)
    obtain ⟨_, _, ⟨T157, L157, kk157, nn157⟩, -, X157, ⟨Lc157, hQ157, l157, y157, z157⟩, st157⟩ := X153.specialBack hx (y := (⟨"java/util/ArrayList", "<init>", "()V"⟩ : MethodName)) rfl hown (mvT hZ (hw _ (List.mem_of_getElem? (i := 47) rfl))) (mvT hZ (hw _ (List.mem_of_getElem? (i := 48) rfl))) (mvT hZ (hw _ (List.mem_of_getElem? (i := 49) rfl))) (by decide) (backOf (W := 1) (alInit l Z a0 hw [] wCS wDE kDE G b153 h153 n0 O153 (A153 : Exa Z h153 b153 "java/util/ArrayList") (i153_modCount : Fld Z h153 b153 "java/util/AbstractList" "modCount" "I" (.int (0 : Int32))) (i153_elementData : Fld Z h153 b153 "java/util/ArrayList" "elementData" "[Ljava/lang/Object;" .null) (i153_size : Fld Z h153 b153 "java/util/ArrayList" "size" "I" (.int (0 : Int32))) (ge156 : n0 ≤ b153)) hZ (hw _ (List.mem_of_getElem? (i := 49) rfl)) (hw _ (List.mem_of_getElem? (i := 46) rfl)) (by decide) (by decide)) (g := (mkF m 120 #[iv p1, iv p2, iv p3, iv p4, rv b2, rv b12, rv b1_20, rv b1_23, iv (3 : Int32), rv b137, rv b137, .unset, .unset] [(.ref b153), (.ref b153)])) rfl (by rw [hml]; rfl) (Steps.refl _) (a := b153) (argsL := []) (rest := [(.ref b153)]) (lenOf pd_7 rfl) rfl (by show 2 * 0 + _ ≤ _; exact Nat.le_of_eq rfl) (hb hby at_120) (fun _ _ => ⟨rfl, e153, (by decide : 10 + 0 ≤ _), (by decide : 34 + 0 ≤ _)⟩)
    dsimp only [Pt.U, Pt.locs, Pt.cells, Pt.slots] at X157 l157 y157 z157 st157 hQ157
    subst l157 y157 z157
    obtain ⟨rfl, Nq157, Kq157, po157_0, po157_1, po157_2, po157_3⟩ := hQ157
    have N157 := Fr.app N150 Nq157
    have O157 := O153.keep Kq157 (allS ge156 all0)
    have k158 : Way p e below S0 T157 (mkF m 123 #[iv p1, iv p2, iv p3, iv p4, rv b2, rv b12, rv b1_20, rv b1_23, iv (3 : Int32), rv b137, rv b137, .unset, .unset] [(.ref b153)]) := fun t k => k155 t (st157.trans k)
    have k159 : Way p e below S0 T157 (mkF m 125 #[iv p1, iv p2, iv p3, iv p4, rv b2, rv b12, rv b1_20, rv b1_23, iv (3 : Int32), rv b137, rv b153, .unset, .unset] []) := by
      intro t k
      refine k158 t ?_
      refine XS.astore X157.here hx rfl (hb hby at_123) rfl rfl (l' := #[iv p1, iv p2, iv p3, iv p4, rv b2, rv b12, rv b1_20, rv b1_23, iv (3 : Int32), rv b137, rv b153, .unset, .unset]) rfl ?_
      show Steps p.tables e below (T157.setTop (mkF m 125 #[iv p1, iv p2, iv p3, iv p4, rv b2, rv b12, rv b1_20, rv b1_23, iv (3 : Int32), rv b137, rv b153, .unset, .unset] [])) _
      exact k
    obtain ⟨T160, h160, X160, e160, E160, A160, D160, U160, st160⟩ := newO X157 hx hZ hown (hw _ (List.mem_of_getElem? (i := 68) rfl)) (hw _ (List.mem_of_getElem? (i := 69) rfl)) (hw _ (List.mem_of_getElem? (i := 70) rfl)) rfl (g := (mkF m 125 #[iv p1, iv p2, iv p3, iv p4, rv b2, rv b12, rv b1_20, rv b1_23, iv (3 : Int32), rv b137, rv b153, .unset, .unset] [])) rfl (hb hby at_125) (by decide) (by decide)
    obtain ⟨b160, g160⟩ : ∃ z, z = T157.heap.size := ⟨_, rfl⟩
    rw [← g160] at A160 D160 U160 st160
    have O160 := O157.ext E160
    have i160_name : Fld Z h160 b160 "com/example/stubwright/stubwright/idl/Macros$Macro" "name" "Ljava/lang/String;" .null := D160 (Or.inr (hw _ (List.mem_of_getElem? (i := 94) rfl))) (ty := (.object "java/lang/String")) (by decide)
    have i160_parameters : Fld Z h160 b160 "com/example/stubwright/stubwright/idl/Macros$Macro" "parameters" "Ljava/util/List;" .null := D160 (Or.inr (hw _ (List.mem_of_getElem? (i := 96) rfl))) (ty := (.object "java/util/List")) (by decide)
    have i160_body : Fld Z h160 b160 "com/example/stubwright/stubwright/idl/Macros$Macro" "body" "Ljava/util/List;" .null := D160 (Or.inr (hw _ (List.mem_of_getElem? (i := 98) rfl))) (ty := (.object "java/util/List")) (by decide)
    have i160_location : Fld Z h160 b160 "com/example/stubwright/stubwright/idl/Macros$Macro" "location" "Lcom/example/stubwright/stubwright/idl/Location;" .null := D160 (Or.inr (hw _ (List.mem_of_getElem? (i := 100) rfl))) (ty := (.object "com/example/stubwright/stubwright/idl/Location")) (by decide)
    have k161 : Way p e below S0 T160 (mkF m 128 #[iv p1, iv p2, iv p3, iv p4, rv b2, rv b12, rv b1_20, rv b1_23, iv (3 : Int32), rv b137, rv b153, .unset, .unset] [(.ref b160)]) := fun t k => k159 t (st160 _ k)
    have k162 : Way p e below S0 T160 (mkF m 135 #[iv p1, iv p2, iv p3, iv p4, rv b2, rv b12, rv b1_20, rv b1_23, iv (3 : Int32), rv b137, rv b153, .unset, .unset] [(.ref b153), (.ref b137), (.ref b12), (.ref b160), (.ref b160)]) := by
      intro t k
      refine k161 t ?_
      refine XS.dup X160.here hx rfl (hb hby at_128) rfl rfl ?_
      show Steps p.tables e below (T160.setTop (mkF m 129 #[iv p1, iv p2, iv p3, iv p4, rv b2, rv b12, rv b1_20, rv b1_23, iv (3 : Int32), rv b137, rv b153, .unset, .unset] [(.ref b160), (.ref b160)])) _
      refine XS.aload X160.here hx rfl (hb hby at_129) rfl rfl ?_
      show Steps p.tables e below (T160.setTop (mkF m 131 #[iv p1, iv p2, iv p3, iv p4, rv b2, rv b12, rv b1_20, rv b1_23, iv (3 : Int32), rv b137, rv b153, .unset, .unset] [(.ref b12), (.ref b160), (.ref b160)])) _
      refine XS.aload X160.here hx rfl (hb hby at_131) rfl rfl ?_
      show Steps p.tables e below (T160.setTop (mkF m 133 #[iv p1, iv p2, iv p3, iv p4, rv b2, rv b12, rv b1_20, rv b1_23, iv (3 : Int32), rv b137, rv b153, .unset, .unset] [(.ref b137), (.ref b12), (.ref b160), (.ref b160)])) _
      refine XS.aload X160.here hx rfl (hb hby at_133) rfl rfl ?_
      show Steps p.tables e below (T160.setTop (mkF m 135 #[iv p1, iv p2, iv p3, iv p4, rv b2, rv b12, rv b1_20, rv b1_23, iv (3 : Int32), rv b137, rv b153, .unset, .unset] [(.ref b153), (.ref b137), (.ref b12), (.ref b160), (.ref b160)])) _
      exact k
    obtain ⟨T163, h163, X163, e163, E163, A163, D163, U163, st163⟩ := newO X160 hx hZ hown (hw _ (List.mem_of_getElem? (i := 71) rfl)) (hw _ (List.mem_of_getElem? (i := 72) rfl)) (hw _ (List.mem_of_getElem? (i := 73) rfl)) e160 (g := (mkF m 135 #[iv p1, iv p2, iv p3, iv p4, rv b2, rv b12, rv b1_20, rv b1_23, iv (3 : Int32), rv b137, rv b153, .unset, .unset] [(.ref b153), (.ref b137), (.ref b12), (.ref b160), (.ref b160)])) rfl (hb hby at_135) (by decide) (by decide)
    obtain ⟨b163, g163⟩ : ∃ z, z = h160.size := ⟨_, rfl⟩
    rw [← g163] at A163 D163 U163 st163
    have O163 := O160.ext E163
    have i163_file : Fld Z h163 b163 "com/example/stubwright/stubwright/idl/Location" "file" "Ljava/lang/String;" .null := D163 (Or.inr (hw _ (List.mem_of_getElem? (i := 84) rfl))) (ty := (.object "java/lang/String")) (by decide)
    have i163_line : Fld Z h163 b163 "com/example/stubwright/stubwright/idl/Location" "line" "I" (.int (0 : Int32)) := D163 (Or.inr (hw _ (List.mem_of_getElem? (i := 86) rfl))) (ty := .int) (by decide)
    have i163_column : Fld Z h163 b163 "com/example/stubwright/stubwright/idl/Location" "column" "I" (.int (0 : Int32)) := D163 (Or.inr (hw _ (List.mem_of_getElem? (i := 88) rfl))) (ty := .int) (by decide)
    have k164 : Way p e below S0 T163 (mkF m 138 #[iv p1, iv p2, iv p3, iv p4, rv b2, rv b12, rv b1_20, rv b1_23, iv (3 : Int32), rv b137, rv b153, .unset, .unset] [(.ref b163), (.ref b153), (.ref b137), (.ref b12), (.ref b160), (.ref b160)]) := fun t k => k162 t (st163 _ k)
    have k165 : Way p e below S0 T163 (mkF m 143 #[iv p1, iv p2, iv p3, iv p4, rv b2, rv b12, rv b1_20, rv b1_23, iv (3 : Int32), rv b137, rv b153, .unset, .unset] [(.int p1), (.int p4), (.ref b12), (.ref b163), (.ref b163), (.ref b153), (.ref b137), (.ref b12), (.ref b160), (.ref b160)]) := by
      intro t k
      refine k164 t ?_
      refine XS.dup X163.here hx rfl (hb hby at_138) rfl rfl ?_
      show Steps p.tables e below (T163.setTop (mkF m 139 #[iv p1, iv p2, iv p3, iv p4, rv b2, rv b12, rv b1_20, rv b1_23, iv (3 : Int32), rv b137, rv b153, .unset, .unset] [(.ref b163), (.ref b163), (.ref b153), (.ref b137), (.ref b12), (.ref b160), (.ref b160)])) _
      refine XS.aload X163.here hx rfl (hb hby at_139) rfl rfl ?_
      show Steps p.tables e below (T163.setTop (mkF m 141 #[iv p1, iv p2, iv p3, iv p4, rv b2, rv b12, rv b1_20, rv b1_23, iv (3 : Int32), rv b137, rv b153, .unset, .unset] [(.ref b12), (.ref b163), (.ref b163), (.ref b153), (.ref b137), (.ref b12), (.ref b160), (.ref b160)])) _
      refine XS.iloadN X163.here hx rfl (hb hby at_141) rfl ?_
      show Steps p.tables e below (T163.setTop (mkF m 142 #[iv p1, iv p2, iv p3, iv p4, rv b2, rv b12, rv b1_20, rv b1_23, iv (3 : Int32), rv b137, rv b153, .unset, .unset] [(.int p4), (.ref b12), (.ref b163), (.ref b163), (.ref b153), (.ref b137), (.ref b12), (.ref b160), (.ref b160)])) _
      refine XS.iloadN X163.here hx rfl (hb hby at_142) rfl ?_
      show Steps p.tables e below (T163.setTop (mkF m 143 #[iv p1, iv p2, iv p3, iv p4, rv b2, rv b12, rv b1_20, rv b1_23, iv (3 : Int32), rv b137, rv b153, .unset, .unset] [(.int p1), (.int p4), (.ref b12), (.ref b163), (.ref b163), (.ref b153), (.ref b137), (.ref b12), (.ref b160), (.ref b160)])) _
      exact k
    have ge166 : n0 ≤ b163 := Nat.le_trans (own_old O160) (Nat.le_of_eq g163.symm)
    obtain ⟨_, _, ⟨T167, L167, kk167, nn167⟩, -, X167, ⟨Lc167, hQ167, l167, y167, z167⟩, st167⟩ := X163.specialBack hx (y := (⟨"com/example/stubwright/stubwright/idl/Location", "<init>", "(Ljava/lang/String;II)V"⟩ : MethodName)) rfl hown (mvT hZ (hw _ (List.mem_of_getElem? (i := 74) rfl))) (mvT hZ (hw _ (List.mem_of_getElem? (i := 75) rfl))) (mvT hZ (hw _ (List.mem_of_getElem? (i := 76) rfl))) (by decide) (backOf (W := 6) (locInit l Z a0 hw [] wCS wDE kDE G b163 b12 p4 p1 h163 n0 O163 (A163 : Exa Z h163 b163 "com/example/stubwright/stubwright/idl/Location") (i163_file : Fld Z h163 b163 "com/example/stubwright/stubwright/idl/Location" "file" "Ljava/lang/String;" .null) (i163_line : Fld Z h163 b163 "com/example/stubwright/stubwright/idl/Location" "line" "I" (.int (0 : Int32))) (i163_column : Fld Z h163 b163 "com/example/stubwright/stubwright/idl/Location" "column" "I" (.int (0 : Int32))) (ge166 : n0 ≤ b163)) hZ (hw _ (List.mem_of_getElem? (i := 76) rfl)) (hw _ (List.mem_of_getElem? (i := 73) rfl)) (by decide) (by decide)) (g := (mkF m 143 #[iv p1, iv p2, iv p3, iv p4, rv b2, rv b12, rv b1_20, rv b1_23, iv (3 : Int32), rv b137, rv b153, .unset, .unset] [(.int p1), (.int p4), (.ref b12), (.ref b163), (.ref b163), (.ref b153), (.ref b137), (.ref b12), (.ref b160), (.ref b160)])) rfl (by rw [hml]; rfl) (Steps.refl _) (a := b163) (argsL := [(.ref b12), (.int p4), (.int p1)]) (rest := [(.ref b163), (.ref b153), (.ref b137), (.ref b12), (.ref b160), (.ref b160)]) (lenOf pd_14 rfl) rfl (by show 2 * 0 + _ ≤ _; exact Nat.le_of_eq rfl) (hb hby at_143) (fun _ _ => ⟨rfl, e163, (by decide : 12 + 0 ≤ _), (by decide : 41 + 0 ≤ _)⟩)
    dsimp only [Pt.U, Pt.locs, Pt.cells, Pt.slots] at X167 l167 y167 z167 st167 hQ167
    subst l167 y167 z167
    obtain ⟨rfl, Nq167, Kq167, po167_0⟩ := hQ167
    have N167 := Fr.app N157 Nq167
    have O167 := O163.keep Kq167 (allS ge166 all0)
    have k168 : Way p e below S0 T167 (mkF m 146 #[iv p1, iv p2, iv p3, iv p4, rv b2, rv b12, rv b1_20, rv b1_23, iv (3 : Int32), rv b137, rv b153, .unset, .unset] [(.ref b163), (.ref b153), (.ref b137), (.ref b12), (.ref b160), (.ref b160)]) := fun t k => k165 t (st167.trans k)
    have f169 : Exa Z T167.heap b160 "com/example/stubwright/stubwright/idl/Macros$Macro" := ((A160.ext E163).keep Kq167)
    have f170 : Fld Z T167.heap b160 "com/example/stubwright/stubwright/idl/Macros$Macro" "name" "Ljava/lang/String;" .null := ((i160_name.ext E163).keep Kq167 (ninS (Nat.ne_of_lt (Nat.lt_of_lt_of_le i160_name.lt (Nat.le_of_eq g163.symm))) nin0))
    have f171 : Fld Z T167.heap b160 "com/example/stubwright/stubwright/idl/Macros$Macro" "parameters" "Ljava/util/List;" .null := ((i160_parameters.ext E163).keep Kq167 (ninS (Nat.ne_of_lt (Nat.lt_of_lt_of_le i160_parameters.lt (Nat.le_of_eq g163.symm))) nin0))
    have f172 : Fld Z T167.heap b160 "com/example/stubwright/stubwright/idl/Macros$Macro" "body" "Ljava/util/List;" .null := ((i160_body.ext E163).keep Kq167 (ninS (Nat.ne_of_lt (Nat.lt_of_lt_of_le i160_body.lt (Nat.le_of_eq g163.symm))) nin0))
    have f173 : Fld Z T167.heap b160 "com/example/stubwright/stubwright/idl/Macros$Macro" "location" "Lcom/example/stubwright/stubwright/idl/Location;" .null := ((i160_location.ext E163).keep Kq167 (ninS (Nat.ne_of_lt (Nat.lt_of_lt_of_le i160_location.lt (Nat.le_of_eq g163.symm))) nin0))
    have ge174 : n0 ≤ b160 := Nat.le_trans (own_old O157) (Nat.le_of_eq g160.symm)
    obtain ⟨_, _, ⟨T175, L175, kk175, nn175⟩, -, X175, ⟨Lc175, hQ175, l175, y175, z175⟩, st175⟩ := X167.specialBack hx (y := (⟨"com/example/stubwright/stubwright/idl/Macros$Macro", "<init>", "(Ljava/lang/String;Ljava/util/List;Ljava/util/List;Lcom/example/stubwright/stubwright/idl/Location;)V"⟩ : MethodName)) rfl hown (mvT hZ (hw _ (List.mem_of_getElem? (i := 89) rfl))) (mvT hZ (hw _ (List.mem_of_getElem? (i := 90) rfl))) (mvT hZ (hw _ (List.mem_of_getElem? (i := 91) rfl))) (by decide) (backOf (W := 1) (macInit1 l Z a0 hw [] wCS wDE kDE G b160 b12 b137 b153 b163 T167.heap n0 O167 (f169 : Exa Z T167.heap b160 "com/example/stubwright/stubwright/idl/Macros$Macro") (f170 : Fld Z T167.heap b160 "com/example/stubwright/stubwright/idl/Macros$Macro" "name" "Ljava/lang/String;" .null) (f171 : Fld Z T167.heap b160 "com/example/stubwright/stubwright/idl/Macros$Macro" "parameters" "Ljava/util/List;" .null) (f172 : Fld Z T167.heap b160 "com/example/stubwright/stubwright/idl/Macros$Macro" "body" "Ljava/util/List;" .null) (f173 : Fld Z T167.heap b160 "com/example/stubwright/stubwright/idl/Macros$Macro" "location" "Lcom/example/stubwright/stubwright/idl/Location;" .null) (ge174 : n0 ≤ b160)) hZ (hw _ (List.mem_of_getElem? (i := 91) rfl)) (hw _ (List.mem_of_getElem? (i := 70) rfl)) (by decide) (by decide)) (g := (mkF m 146 #[iv p1, iv p2, iv p3, iv p4, rv b2, rv b12, rv b1_20, rv b1_23, iv (3 : Int32), rv b137, rv b153, .unset, .unset] [(.ref b163), (.ref b153), (.ref b137), (.ref b12), (.ref b160), (.ref b160)])) rfl (by rw [hml]; rfl) (Steps.refl _) (a := b160) (argsL := [(.ref b12), (.ref b137), (.ref b153), (.ref b163)]) (rest := [(.ref b160)]) (lenOf pd_15 rfl) rfl (by show 2 * 0 + _ ≤ _; exact Nat.le_of_eq rfl) (hb hby at_146) (fun _ _ => ⟨rfl, rfl, (by decide : 12 + 0 ≤ _), (by decide : 41 + 0 ≤ _)⟩)
    dsimp only [Pt.U, Pt.locs, Pt.cells, Pt.slots] at X175 l175 y175 z175 st175 hQ175
    subst l175 y175 z175
    obtain ⟨rfl, Nq175, Kq175, po175_0, po175_1⟩ := hQ175
    have N175 := Fr.app N167 Nq175
    have O175 := O167.keep Kq175 (allS ge174 all0)
    have k176 : Way p e below S0 T175 (mkF m 149 #[iv p1, iv p2, iv p3, iv p4, rv b2, rv b12, rv b1_20, rv b1_23, iv (3 : Int32), rv b137, rv b153, .unset, .unset] [(.ref b160)]) := fun t k => k168 t (st175.trans k)
    have k177 : Way p e below S0 T175 (mkF m 165 #[iv p1, iv p2, iv p3, iv p4, rv b2, rv b12, rv b1_20, rv b1_23, iv (3 : Int32), rv b137, rv b153, rv b160, iv (1 : Int32)] [(.ref b160)]) := by
      intro t k
      refine k176 t ?_
      refine XS.astore X175.here hx rfl (hb hby at_149) rfl rfl (l' := #[iv p1, iv p2, iv p3, iv p4, rv b2, rv b12, rv b1_20, rv b1_23, iv (3 : Int32), rv b137, rv b153, rv b160, .unset]) rfl ?_
      show Steps p.tables e below (T175.setTop (mkF m 151 #[iv p1, iv p2, iv p3, iv p4, rv b2, rv b12, rv b1_20, rv b1_23, iv (3 : Int32), rv b137, rv b153, rv b160, .unset] [])) _
      refine XS.iload X175.here hx rfl (hb hby at_151) rfl ?_
      show Steps p.tables e below (T175.setTop (mkF m 153 #[iv p1, iv p2, iv p3, iv p4, rv b2, rv b12, rv b1_20, rv b1_23, iv (3 : Int32), rv b137, rv b153, rv b160, .unset] [(.int (3 : Int32))])) _
      refine XS.ifNo X175.here hx rfl (hb hby at_153) rfl ((if0 _ _).trans (feq ((by decide) : ¬ ((3 : Int32) = (0 : Int32)))).1) ?_
      show Steps p.tables e below (T175.setTop (mkF m 156 #[iv p1, iv p2, iv p3, iv p4, rv b2, rv b12, rv b1_20, rv b1_23, iv (3 : Int32), rv b137, rv b153, rv b160, .unset] [])) _
      refine XS.iconst X175.here hx rfl (hb hby at_156) ?_
      show Steps p.tables e below (T175.setTop (mkF m 157 #[iv p1, iv p2, iv p3, iv p4, rv b2, rv b12, rv b1_20, rv b1_23, iv (3 : Int32), rv b137, rv b153, rv b160, .unset] [(.int (1 : Int32))])) _
      refine XS.goto X175.here hx rfl (pc0 := 157) (pc' := 161) rfl (hb hby at_157) (by decide) (by decide) ?_
      show Steps p.tables e below (T175.setTop (mkF m 161 #[iv p1, iv p2, iv p3, iv p4, rv b2, rv b12, rv b1_20, rv b1_23, iv (3 : Int32), rv b137, rv b153, rv b160, .unset] [(.int (1 : Int32))])) _
      refine XS.istore X175.here hx rfl (hb hby at_161) rfl (l' := #[iv p1, iv p2, iv p3, iv p4, rv b2, rv b12, rv b1_20, rv b1_23, iv (3 : Int32), rv b137, rv b153, rv b160, iv (1 : Int32)]) rfl ?_
      show Steps p.tables e below (T175.setTop (mkF m 163 #[iv p1, iv p2, iv p3, iv p4, rv b2, rv b12, rv b1_20, rv b1_23, iv (3 : Int32), rv b137, rv b153, rv b160, iv (1 : Int32)] [])) _
      refine XS.aload X175.here hx rfl (hb hby at_163) rfl rfl ?_
      show Steps p.tables e below (T175.setTop (mkF m 165 #[iv p1, iv p2, iv p3, iv p4, rv b2, rv b12, rv b1_20, rv b1_23, iv (3 : Int32), rv b137, rv b153, rv b160, iv (1 : Int32)] [(.ref b160)])) _
      exact k
    obtain ⟨cq178, kq178, qq178a, qq178b, qq178c⟩ := isOf hZ rfl po175_0
    obtain ⟨_, _, ⟨T178, L178, kk178, nn178⟩, -, X178, ⟨Lc178, hQ178, l178, y178, z178⟩, st178⟩ := X175.virtualBack hx (y := (⟨"com/example/stubwright/stubwright/idl/Macros$Macro", "functionLike", "()Z"⟩ : MethodName)) (z := (⟨"com/example/stubwright/stubwright/idl/Macros$Macro", "functionLike", "()Z"⟩ : MethodName)) hown (mvT hZ (hw _ (List.mem_of_getElem? (i := 101) rfl))) (mvT hZ (hw _ (List.mem_of_getElem? (i := 102) rfl))) (notFace_of_selects (args := #[]) (mvT hZ (hw _ (List.mem_of_getElem? (i := 104) rfl)))) (mvT hZ (hw _ (List.mem_of_getElem? (i := 104) rfl))) (mvT hZ (hw _ (List.mem_of_getElem? (i := 103) rfl))) (by decide) (backOf (W := 0) (fl1 l Z a0 hw [] wCS wDE kDE G b160 b137 T175.heap n0 O175 (po175_1 : Fld Z T175.heap b160 "com/example/stubwright/stubwright/idl/Macros$Macro" "parameters" "Ljava/util/List;" (.ref b137))) hZ (hw _ (List.mem_of_getElem? (i := 105) rfl)) (hw _ (List.mem_of_getElem? (i := 70) rfl)) (by decide) (by decide)) qq178a qq178c (g := (mkF m 165 #[iv p1, iv p2, iv p3, iv p4, rv b2, rv b12, rv b1_20, rv b1_23, iv (3 : Int32), rv b137, rv b153, rv b160, iv (1 : Int32)] [(.ref b160)])) rfl (by rw [hml]; rfl) (Steps.refl _) (argsL := []) (rest := []) (lenOf pd_16 rfl) rfl (by show 2 * 0 + _ ≤ _; exact Nat.le_of_eq rfl) (hb hby at_165) (fun _ _ => ⟨rfl, rfl, (by decide : 12 + 0 ≤ _), (by decide : 41 + 0 ≤ _)⟩)
    dsimp only [Pt.U, Pt.locs, Pt.cells, Pt.slots] at X178 l178 y178 z178 st178 hQ178
    subst l178 y178 z178
    obtain ⟨rfl, Nq178, e178⟩ := hQ178
    have N178 := Fr.app N175 Nq178
    have k179 : Way p e below S0 T178 (mkF m 168 #[iv p1, iv p2, iv p3, iv p4, rv b2, rv b12, rv b1_20, rv b1_23, iv (3 : Int32), rv b137, rv b153, rv b160, iv (1 : Int32)] [(.int (1 : Int32))]) := fun t k => k177 t (st178.trans k)
    have k180 : Way p e below S0 T178 (mkF m 178 #[iv p1, iv p2, iv p3, iv p4, rv b2, rv b12, rv b1_20, rv b1_23, iv (3 : Int32), rv b137, rv b153, rv b160, iv (1 : Int32)] [(.int (1 : Int32))]) := by
      intro t k
      refine k179 t ?_
      refine XS.iload X178.here hx rfl (hb hby at_168) rfl ?_
      show Steps p.tables e below (T178.setTop (mkF m 170 #[iv p1, iv p2, iv p3, iv p4, rv b2, rv b12, rv b1_20, rv b1_23, iv (3 : Int32), rv b137, rv b153, rv b160, iv (1 : Int32)] [(.int (1 : Int32)), (.int (1 : Int32))])) _
      refine XS.icmpNo X178.here hx rfl (hb hby at_170) rfl (teq ((by decide) : (1 : Int32) = (1 : Int32))).2 ?_
      show Steps p.tables e below (T178.setTop (mkF m 173 #[iv p1, iv p2, iv p3, iv p4, rv b2, rv b12, rv b1_20, rv b1_23, iv (3 : Int32), rv b137, rv b153, rv b160, iv (1 : Int32)] [])) _
      refine XS.iconst X178.here hx rfl (hb hby at_173) ?_
      show Steps p.tables e below (T178.setTop (mkF m 174 #[iv p1, iv p2, iv p3, iv p4, rv b2, rv b12, rv b1_20, rv b1_23, iv (3 : Int32), rv b137, rv b153, rv b160, iv (1 : Int32)] [(.int (1 : Int32))])) _
      refine XS.goto X178.here hx rfl (pc0 := 174) (pc' := 178) rfl (hb hby at_174) (by decide) (by decide) ?_
      show Steps p.tables e below (T178.setTop (mkF m 178 #[iv p1, iv p2, iv p3, iv p4, rv b2, rv b12, rv b1_20, rv b1_23, iv (3 : Int32), rv b137, rv b153, rv b160, iv (1 : Int32)] [(.int (1 : Int32))])) _
      exact k
    obtain ⟨fs, hr, hrun, hended, hW, hsame⟩ := X178.leave (v := some (.int (1 : Int32))) (fun h => by rw [Bd.returns] at h; cases h)
    refine ⟨_, _, k180 _ (retN X178 hx (t := .boolean) Bd.returns (by simp) (hb hby at_178) hr), hrun, hended, _, _, rfl, ?_, ⟨_, rfl⟩, hW, hsame.mono (by decide) (by decide)⟩
    show Q_law_met Z wCS wDE kDE p1 p2 p3 p4 h0 n0 _ T178.heap _
    rw [e178]
    exact ⟨rfl, N178⟩
set_option maxRecDepth 65536 in
set_option maxHeartbeats 40000000 in
theorem comes_1 {Post : Tables → Env → Array Value → State → Outcome → State → Prop} (hpost : ∀ tb e args s v u, (limb_1_1.after args s (.returned v) u = true ∧ limb_1_2.after args s (.returned v) u = true ∧ True) → FrameEnd s (.returned v) u (Jvm.fieldLocs frame_1_writes args s ++ Jvm.arrayLocs frame_1_arrays args s ++ Jvm.staticLocs frame_1_statics s) 32 192 → Post tb e args s (.returned v) u) :
    ArmFor flags0 classFile x code maxLocals ret World_1 tables_1 room_1 Calls_1 rest_1 Pre_1 Post := by
  intro l hfl _ _ p e ha hc hk s m args below hf hA hF happ hP
  obtain ⟨hcalls, hrest, hpre⟩ := hP
  obtain ⟨-, -, -, hnamed, -, -, -, hat⟩ := (Spec.applies_iff hf).mp happ
  obtain ⟨hg, hn⟩ := and_e (Cond.before_iff.mp (show (Jvm.Cond.and given_1 narrow_1).before args s = true from hpre))
  obtain ⟨g1a, g1b⟩ := and_e hg
  obtain ⟨g2a, g2b⟩ := and_e g1b
  obtain ⟨g3a, g3b⟩ := and_e g2b
  obtain ⟨g4a, g4b⟩ := and_e g3b
  obtain ⟨w0, w1, w2, w3, rfl⟩ : ∃ w0 w1 w2 w3 : Value, args = #[w0, w1, w2, w3] := by
    have hs : args.size = 4 := by simpa [Cond.value, given_1] using g1a
    obtain ⟨L⟩ := args
    match L, hs with
    | [w0, w1, w2, w3], _ => exact ⟨w0, w1, w2, w3, rfl⟩
  have hw := fun d (hd : d ∈ tables_1) => atoms_spec (ws := Jvm.Cond.code x code maxLocals ret :: tables_1) hat d (List.mem_cons_of_mem _ hd)
  have hfit : Fit s := fun {y c} hc i hi => by
    obtain ⟨ha, rfl⟩ := Array.getElem?_eq_some_iff.mp hc
    have q := List.all_eq_true.mp ((Array.all_eq_true_iff_forall_mem.mp hF) _ (Array.getElem_mem ha)) i (List.mem_range.mpr hi)
    simpa [Array.getElem?_eq_getElem hi] using q
  obtain ⟨hsets, hown0⟩ := atoms_of _ (rest_1_c_eq ▸ (show rest_1_c.before _ s = true from hrest))
  have hr0 := Cond.before_iff.mp hown0
  obtain ⟨i0, ei0⟩ := is_v g2a
  obtain rfl : w0 = (.int i0) := Option.some.inj ei0
  obtain ⟨i1, ei1⟩ := is_v g3a
  obtain rfl : w1 = (.int i1) := Option.some.inj ei1
  obtain ⟨i2, ei2⟩ := is_v g4a
  obtain rfl : w2 = (.int i2) := Option.some.inj ei2
  obtain ⟨i3, ei3⟩ := is_v g4b
  obtain rfl : w3 = (.int i3) := Option.some.inj ei3
  obtain ⟨wCS, ev_CS⟩ := is_v (Cond.before_iff.mp (hsets _ (List.mem_of_getElem? (i := 1) rfl)))
  have S_CS := Sta.start ev_CS (Or.inl (hsets _ (List.mem_of_getElem? (i := 0) rfl)))
  have hCS : ¬ (wCS = (0 : Int32)) := fun q => by subst q; have u := not_v (Cond.before_iff.mp (hsets _ (List.mem_of_getElem? (i := 2) rfl))); exact absurd u (by rw [eq_i ev_CS (Term.int_eval _) rfl]; decide)
  obtain ⟨wDE, ev_DE⟩ := arr_v (Cond.before_iff.mp (hsets _ (List.mem_of_getElem? (i := 15) rfl)))
  have S_DE := Sta.start ev_DE (Or.inr ⟨(hw _ (List.mem_of_getElem? (i := 46) rfl)), (hsets _ (List.mem_of_getElem? (i := 11) rfl))⟩)
  obtain ⟨kDE, V_DE⟩ := own_arv0 (dv := .null) ev_DE (Cond.before_iff.mp (hsets _ (List.mem_of_getElem? (i := 15) rfl))) (Cond.before_iff.mp (hsets _ (List.mem_of_getElem? (i := 17) rfl)))
  have G : Gst s wCS wDE kDE := ⟨S_CS, hCS, S_DE, V_DE⟩
  obtain ⟨n, o, h1, h2, h3, _, L, rfl, ⟨rfl, N⟩, hq⟩ := law_met l s _ hw tables_1 wCS wDE kDE G i0 i1 i2 i3 s.heap s.heap.size (Old.start s)  p e ha hc hk s m _ below hf ((Spec.applies_iff_loose hf).mp happ).1 ⟨rfl, State.Warmed39.refl s, rfl⟩ trivial
  refine ⟨n, _, h1, h2, h3, hpost _ _ _ _ _ _ ⟨Cond.after_iff.mpr rfl, Cond.after_iff.mpr (eq_i res_at (Term.int_eval (1)) rfl), trivial⟩ ⟨hq.1, hq.2.1, (hq.2.2.sift fun y hy => Or.inr (N y hy)).mono (by decide) (by decide)⟩⟩
theorem main_1_1 : Claimed_1_1 := comes_1 fun _ _ _ _ _ _ h hF => ⟨h.1, hF⟩
theorem main_1_2 : Claimed_1_2 := comes_1 fun _ _ _ _ _ _ h hF => ⟨h.2.1, hF⟩
end Jvm.Pilot.@@N@@
namespace Jvm.Pilot.@@N@@
open Jvm Jvm.ClassFile Sem Op Lib Jvm.Free Jvm.Stand Jvm.Pilot.@@N@@.Jvm.D
/-! MADE BY PROGRAM (witnessworld.py) out of the Statement's table words and the real class files: 32 classes; the members and pool entries that the words name. The judged class is class 1, her method 1. -/
namespace start1
open Jvm.ClassFile
def u (s : String) : CpInfo := .utf8 (stringToUtf16 s)
/-- a pool by its gaps: so many unusable entries, then the entry; so many at the end -/
def gap : Nat → List CpInfo → List CpInfo
  | 0, r => r
  | n + 1, r => .unusable :: gap n r
def poolList (es : List (Nat × CpInfo)) (last : Nat) : List CpInfo := es.foldr (fun e r => gap e.1 (e.2 :: r)) (gap last [])
def pool (es : List (Nat × CpInfo)) (last : Nat) : Array CpInfo := ⟨poolList es last⟩
def fileOf (pool : Array CpInfo) (this : Nat) (attrs : Array Attribute := #[]) (ms : Array MethodInfo := #[]) (fl : Nat := 33) (sup : Nat := 0) (ifs : Array Nat := #[]) (fds : Array FieldInfo := #[]) : ClassFile where
  minorVersion := 0
  majorVersion := 65
  constantPool := pool
  accessFlags := fl
  thisClass := this
  superClass := sup
  interfaces := ifs
  fields := fds
  methods := ms
  attributes := attrs
def plain (name : String) (sup : Option ClassId) : Class where
  name := name
  kind := .ordinary
  loader := none
  accessFlags := 33
  super := sup
  interfaces := #[]
  cf := none
  fields := #[]
  methods := #[]
  instanceTypes := #[]
  staticTypes := #[]
  resolved := #[]
  callSites := []
  init := .initialized
  statics := none
  mirror := none

def pool0 : Array CpInfo := pool [(5, u "<init>"), (0, u "()V"), (1, .class_ 10), (1, u "java/lang/Object")] 113

def k0c0 : Code := { maxStack := 0, maxLocals := 1, code := object_method_1_code, exceptionTable := #[], attributes := #[] }
def k0m0 : Method := { name := "<init>", desc := "()V", sig := { parameters := [], returnType := none }, accessFlags := 1, code := some k0c0 }
/-- java/lang/Object -/
def k0 : Class := { plain "java/lang/Object" none with
  accessFlags := 33
  interfaces := #[]
  cf := some (fileOf pool0 8 #[] #[{ accessFlags := 1, nameIndex := 5, descriptorIndex := 6, attributes := #[] }] 33 0 #[] #[])
  fields := #[]
  methods := #[k0m0]
  instanceTypes := #[]
  staticTypes := #[]
  resolved := Array.replicate 124 none
  statics := none }

def pool1 : Array CpInfo := pool [(2, .class_ 4), (0, .nameAndType 5 6), (0, u "java/lang/Object"), (0, u "<init>"), (0, u "()V"), (0, .class_ 8), (0, u "java/lang/String"), (0, .methodref 7 10), (0, .nameAndType 5 11), (0, u "([C)V"), (0, .methodref 7 13), (0, .nameAndType 14 15), (0, u "valueOf"), (0, u "(C)Ljava/lang/String;"), (0, .class_ 17), (0, u "java/util/ArrayList"), (0, .methodref 16 3), (0, .methodref 16 20), (0, .nameAndType 21 22), (0, u "add"), (0, u "(Ljava/lang/Object;)Z"), (0, .class_ 24), (0, u "com/example/stubwright/stubwright/idl/Macros$Macro"), (0, .class_ 26), (0, u "com/example/stubwright/stubwright/idl/Location"), (0, .methodref 25 28), (0, .nameAndType 5 29), (0, u "(Ljava/lang/String;II)V"), (0, .methodref 23 31), (0, .nameAndType 5 32), (0, u "(Ljava/lang/String;Ljava/util/List;Ljava/util/List;Lcom/example/stubwright/stubwright/idl/Location;)V"), (0, .methodref 23 34), (0, .nameAndType 35 36), (0, u "functionLike"), (0, u "()Z"), (0, .class_ 38), (0, u "com/example/stubwright/stubwright/idl/MacroFunctionLikePinLaw"), (2, u "law"), (0, u "(IIII)Z")] 11

def k1m0 : Method := { name := "<init>", desc := "()V", sig := { parameters := [], returnType := none }, accessFlags := 1, code := none }
def k1c1 : Code := { maxStack := 10, maxLocals := 13, code := code, exceptionTable := #[], attributes := #[] }
def k1m1 : Method := { name := "law", desc := "(IIII)Z", sig := { parameters := [.int, .int, .int, .int], returnType := some .boolean }, accessFlags := 9, code := some k1c1 }
/-- com/example/stubwright/stubwright/idl/MacroFunctionLikePinLaw -/
def k1 : Class := { plain "com/example/stubwright/stubwright/idl/MacroFunctionLikePinLaw" (some 0) with
  accessFlags := 49
  interfaces := #[]
  cf := some (fileOf pool1 37 #[] #[{ accessFlags := 1, nameIndex := 5, descriptorIndex := 6, attributes := #[] }, { accessFlags := 9, nameIndex := 41, descriptorIndex := 42, attributes := #[] }] 49 2 #[] #[])
  fields := #[]
  methods := #[k1m0, k1m1]
  instanceTypes := #[]
  staticTypes := #[]
  resolved := Array.replicate 54 none
  statics := none }

def pool2 : Array CpInfo := pool [(1, .class_ 2), (0, u "java/io/Serializable"), (0, .class_ 4), (0, u "java/lang/Object")] 2

/-- java/io/Serializable -/
def k2 : Class := { plain "java/io/Serializable" (some 0) with
  accessFlags := 1537
  interfaces := #[]
  cf := some (fileOf pool2 1 #[] #[] 1537 3 #[] #[])
  fields := #[]
  methods := #[]
  instanceTypes := #[]
  staticTypes := #[]
  resolved := Array.replicate 7 none
  statics := none }

def pool3 : Array CpInfo := pool [(1, .class_ 2), (0, u "java/lang/Comparable"), (0, .class_ 4), (0, u "java/lang/Object")] 7

/-- java/lang/Comparable -/
def k3 : Class := { plain "java/lang/Comparable" (some 0) with
  accessFlags := 1537
  interfaces := #[]
  cf := some (fileOf pool3 1 #[] #[] 1537 3 #[] #[])
  fields := #[]
  methods := #[]
  instanceTypes := #[]
  staticTypes := #[]
  resolved := Array.replicate 12 none
  statics := none }

def pool4 : Array CpInfo := pool [(2, .class_ 4), (1, u "java/lang/CharSequence"), (42, .class_ 48), (0, u "java/lang/CharSequence$1CodePointIterator"), (10, .class_ 60), (0, u "java/lang/CharSequence$1CharIterator"), (5, .class_ 67), (0, u "java/lang/Object")] 63

/-- java/lang/CharSequence -/
def k4 : Class := { plain "java/lang/CharSequence" (some 0) with
  accessFlags := 1537
  interfaces := #[]
  cf := some (fileOf pool4 2 #[.nestMembers #[47, 59]] #[] 1537 66 #[] #[])
  fields := #[]
  methods := #[]
  instanceTypes := #[]
  staticTypes := #[]
  resolved := Array.replicate 131 none
  statics := none }

def pool5 : Array CpInfo := pool [(1, .class_ 2), (0, u "java/lang/constant/Constable"), (0, .class_ 4), (0, u "java/lang/Object")] 6

/-- java/lang/constant/Constable -/
def k5 : Class := { plain "java/lang/constant/Constable" (some 0) with
  accessFlags := 1537
  interfaces := #[]
  cf := some (fileOf pool5 1 #[] #[] 1537 3 #[] #[])
  fields := #[]
  methods := #[]
  instanceTypes := #[]
  staticTypes := #[]
  resolved := Array.replicate 11 none
  statics := none }

def pool6 : Array CpInfo := pool [(1, .class_ 2), (0, u "java/lang/constant/ConstantDesc"), (0, .class_ 4), (0, u "java/lang/Object")] 32

/-- java/lang/constant/ConstantDesc -/
def k6 : Class := { plain "java/lang/constant/ConstantDesc" (some 0) with
  accessFlags := 1537
  interfaces := #[]
  cf := some (fileOf pool6 1 #[] #[] 1537 3 #[] #[])
  fields := #[]
  methods := #[]
  instanceTypes := #[]
  staticTypes := #[]
  resolved := Array.replicate 37 none
  statics := none }

def pool7 : Array CpInfo := pool [(1, .methodref 2 3), (0, .class_ 4), (0, .nameAndType 5 6), (0, u "java/lang/Object"), (0, u "<init>"), (0, u "()V"), (2, .fieldref 10 11), (0, .class_ 12), (0, .nameAndType 13 14), (0, u "java/lang/String"), (0, u "value"), (0, u "[B"), (0, .fieldref 10 16), (0, .nameAndType 17 18), (0, u "coder"), (0, u "B"), (2, u "hash"), (0, u "I"), (2, u "hashIsZero"), (0, u "Z"), (0, .methodref 10 28), (0, .nameAndType 5 29), (0, u "([CIILjava/lang/Void;)V"), (8, .fieldref 10 39), (0, .nameAndType 40 26), (0, u "COMPACT_STRINGS"), (1, .class_ 44), (1, u "java/lang/StringUTF16"), (0, u "compress"), (1, .methodref 42 48), (0, .nameAndType 49 50), (0, u "coderFromArrayLen"), (0, u "([BI)B"), (2, u "toBytes"), (53, .class_ 109), (1, u "java/lang/StringLatin1"), (67, .methodref 42 178), (0, .nameAndType 45 179), (0, u "([CII)[B"), (29, .methodref 10 210), (0, .nameAndType 5 211), (0, u "([BB)V"), (157, u "(C)Z"), (205, .class_ 576), (0, u "java/lang/CharSequence"), (22, u "CASE_INSENSITIVE_ORDER"), (0, u "Ljava/util/Comparator;"), (181, u "valueOf"), (0, u "(C)Ljava/lang/String;"), (226, u "([C)V"), (4, .methodref 107 1016), (0, .nameAndType 1017 369), (0, u "canEncode"), (0, .methodref 107 1019), (0, .nameAndType 53 1020), (0, u "(C)[B"), (80, u "serialPersistentFields"), (0, u "[Ljava/io/ObjectStreamField;"), (0, .class_ 1104), (0, u "java/lang/String$CaseInsensitiveComparator"), (1, .class_ 1107), (0, u "java/io/Serializable"), (0, .class_ 1109), (0, u "java/lang/Comparable"), (0, .class_ 1111), (0, u "java/lang/constant/Constable"), (0, .class_ 1113), (0, u "java/lang/constant/ConstantDesc"), (2, u "serialVersionUID"), (0, u "J"), (3, u "REPL"), (0, u "C"), (2, u "LATIN1"), (1, u "UTF16")] 323

def k7m0 : Method := { name := "<init>", desc := "()V", sig := { parameters := [], returnType := none }, accessFlags := 1, code := none }
def k7c1 : Code := { maxStack := 5, maxLocals := 2, code := jdk_42_method_3_code, exceptionTable := #[], attributes := #[] }
def k7m1 : Method := { name := "<init>", desc := "([C)V", sig := { parameters := [(.array .char)], returnType := none }, accessFlags := 1, code := some k7c1 }
def k7c2 : Code := { maxStack := 4, maxLocals := 1, code := jdk_42_method_139_code, exceptionTable := #[], attributes := #[] }
def k7m2 : Method := { name := "valueOf", desc := "(C)Ljava/lang/String;", sig := { parameters := [.char], returnType := some (.object "java/lang/String") }, accessFlags := 9, code := some k7c2 }
def k7c3 : Code := { maxStack := 4, maxLocals := 6, code := jdk_42_method_149_code, exceptionTable := #[], attributes := #[] }
def k7m3 : Method := { name := "<init>", desc := "([CIILjava/lang/Void;)V", sig := { parameters := [(.array .char), .int, .int, (.object "java/lang/Void")], returnType := none }, accessFlags := 2, code := some k7c3 }
def k7c4 : Code := { maxStack := 2, maxLocals := 3, code := jdk_42_method_151_code, exceptionTable := #[], attributes := #[] }
def k7m4 : Method := { name := "<init>", desc := "([BB)V", sig := { parameters := [(.array .byte), .byte], returnType := none }, accessFlags := 0, code := some k7c4 }
/-- java/lang/String -/
def k7 : Class := { plain "java/lang/String" (some 0) with
  accessFlags := 49
  interfaces := #[2, 3, 4, 5, 6]
  cf := some (fileOf pool7 10 #[.nestMembers #[1103]] #[{ accessFlags := 1, nameIndex := 5, descriptorIndex := 6, attributes := #[] }, { accessFlags := 1, nameIndex := 5, descriptorIndex := 1010, attributes := #[] }, { accessFlags := 9, nameIndex := 782, descriptorIndex := 783, attributes := #[] }, { accessFlags := 2, nameIndex := 5, descriptorIndex := 29, attributes := #[] }, { accessFlags := 0, nameIndex := 5, descriptorIndex := 211, attributes := #[] }] 49 2 #[1106, 1108, 575, 1110, 1112] #[{ accessFlags := 18, nameIndex := 13, descriptorIndex := 14, attributes := #[] }, { accessFlags := 18, nameIndex := 17, descriptorIndex := 18, attributes := #[] }, { accessFlags := 2, nameIndex := 21, descriptorIndex := 22, attributes := #[] }, { accessFlags := 2, nameIndex := 25, descriptorIndex := 26, attributes := #[] }, { accessFlags := 26, nameIndex := 1116, descriptorIndex := 1117, attributes := #[] }, { accessFlags := 24, nameIndex := 40, descriptorIndex := 26, attributes := #[] }, { accessFlags := 26, nameIndex := 1101, descriptorIndex := 1102, attributes := #[] }, { accessFlags := 26, nameIndex := 1121, descriptorIndex := 1122, attributes := #[] }, { accessFlags := 25, nameIndex := 599, descriptorIndex := 600, attributes := #[] }, { accessFlags := 24, nameIndex := 1125, descriptorIndex := 18, attributes := #[] }, { accessFlags := 24, nameIndex := 1127, descriptorIndex := 18, attributes := #[] }])
  fields := #[{ name := "value", type := (.array .byte), accessFlags := 18, slot := 0, constantValue := 0 }, { name := "coder", type := .byte, accessFlags := 18, slot := 1, constantValue := 0 }, { name := "hash", type := .int, accessFlags := 2, slot := 2, constantValue := 0 }, { name := "hashIsZero", type := .boolean, accessFlags := 2, slot := 3, constantValue := 0 }, { name := "serialVersionUID", type := .long, accessFlags := 26, slot := 0, constantValue := 0 }, { name := "COMPACT_STRINGS", type := .boolean, accessFlags := 24, slot := 1, constantValue := 0 }, { name := "serialPersistentFields", type := (.array (.object "java/io/ObjectStreamField")), accessFlags := 26, slot := 2, constantValue := 0 }, { name := "REPL", type := .char, accessFlags := 26, slot := 3, constantValue := 0 }, { name := "CASE_INSENSITIVE_ORDER", type := (.object "java/util/Comparator"), accessFlags := 25, slot := 4, constantValue := 0 }, { name := "LATIN1", type := .byte, accessFlags := 24, slot := 5, constantValue := 0 }, { name := "UTF16", type := .byte, accessFlags := 24, slot := 6, constantValue := 0 }]
  methods := #[k7m0, k7m1, k7m2, k7m3, k7m4]
  instanceTypes := #[(.array .byte), .byte, .int, .boolean]
  staticTypes := #[.long, .boolean, (.array (.object "java/io/ObjectStreamField")), .char, (.object "java/util/Comparator"), .byte, .byte]
  resolved := Array.replicate 1451 none
  statics := some 0 }

def pool8 : Array CpInfo := pool [(6, .class_ 8), (1, u "java/lang/Object"), (0, u "<init>"), (0, u "()V"), (1, .class_ 14), (1, u "java/lang/StringUTF16"), (31, u "$assertionsDisabled"), (0, u "Z"), (13, u "HI_BYTE_SHIFT"), (0, u "I"), (2, u "LO_BYTE_SHIFT"), (49, .methodref 12 116), (0, .nameAndType 117 118), (0, u "compress"), (0, u "([CI[BII)I"), (3, u "([CII)[B"), (138, u "coderFromArrayLen"), (0, u "([BI)B"), (106, .class_ 371), (1, u "java/lang/StringUTF16$LinesSpliterator"), (58, u "MAX_LENGTH"), (196, .class_ 628), (0, u "java/lang/StringUTF16$CodePointsSpliterator"), (0, .class_ 630), (0, u "java/lang/StringUTF16$CharsSpliterator")] 4

def k8m0 : Method := { name := "<init>", desc := "()V", sig := { parameters := [], returnType := none }, accessFlags := 0, code := none }
def k8c1 : Code := { maxStack := 2, maxLocals := 2, code := jdk_52_method_15_code, exceptionTable := #[], attributes := #[] }
def k8m1 : Method := { name := "coderFromArrayLen", desc := "([BI)B", sig := { parameters := [(.array .byte), .int], returnType := some .byte }, accessFlags := 8, code := some k8c1 }
def k8c2 : Code := { maxStack := 5, maxLocals := 6, code := jdk_52_method_16_code, exceptionTable := #[], attributes := #[] }
def k8m2 : Method := { name := "compress", desc := "([CII)[B", sig := { parameters := [(.array .char), .int, .int], returnType := some (.array .byte) }, accessFlags := 9, code := some k8c2 }
def k8c3 : Code := { maxStack := 3, maxLocals := 7, code := jdk_52_method_21_code, exceptionTable := #[], attributes := #[] }
def k8m3 : Method := { name := "compress", desc := "([CI[BII)I", sig := { parameters := [(.array .char), .int, (.array .byte), .int, .int], returnType := some .int }, accessFlags := 9, code := some k8c3 }
/-- java/lang/StringUTF16 -/
def k8 : Class := { plain "java/lang/StringUTF16" (some 0) with
  accessFlags := 48
  interfaces := #[]
  cf := some (fileOf pool8 12 #[.nestMembers #[627, 629, 369]] #[{ accessFlags := 0, nameIndex := 9, descriptorIndex := 10, attributes := #[] }, { accessFlags := 8, nameIndex := 261, descriptorIndex := 262, attributes := #[] }, { accessFlags := 9, nameIndex := 117, descriptorIndex := 122, attributes := #[] }, { accessFlags := 9, nameIndex := 117, descriptorIndex := 118, attributes := #[] }] 48 6 #[] #[{ accessFlags := 26, nameIndex := 61, descriptorIndex := 62, attributes := #[] }, { accessFlags := 26, nameIndex := 65, descriptorIndex := 62, attributes := #[] }, { accessFlags := 24, nameIndex := 430, descriptorIndex := 62, attributes := #[] }, { accessFlags := 4120, nameIndex := 46, descriptorIndex := 47, attributes := #[] }])
  fields := #[{ name := "HI_BYTE_SHIFT", type := .int, accessFlags := 26, slot := 0, constantValue := 0 }, { name := "LO_BYTE_SHIFT", type := .int, accessFlags := 26, slot := 1, constantValue := 0 }, { name := "MAX_LENGTH", type := .int, accessFlags := 24, slot := 2, constantValue := 0 }, { name := "$assertionsDisabled", type := .boolean, accessFlags := 4120, slot := 3, constantValue := 0 }]
  methods := #[k8m0, k8m1, k8m2, k8m3]
  instanceTypes := #[]
  staticTypes := #[.int, .int, .int, .boolean]
  resolved := Array.replicate 635 none
  statics := none }

def pool9 : Array CpInfo := pool [(4, .class_ 6), (1, u "java/lang/Object"), (0, u "<init>"), (0, u "()V"), (5, .class_ 16), (1, u "java/lang/StringLatin1"), (73, u "canEncode"), (14, u "(C)Z"), (15, u "$assertionsDisabled"), (0, u "Z"), (98, .class_ 223), (1, u "java/lang/StringLatin1$LinesSpliterator"), (156, u "toBytes"), (1, u "(C)[B"), (7, .class_ 391), (0, u "java/lang/StringLatin1$CharsSpliterator")] 3

def k9m0 : Method := { name := "<init>", desc := "()V", sig := { parameters := [], returnType := none }, accessFlags := 0, code := none }
def k9c1 : Code := { maxStack := 2, maxLocals := 1, code := jdk_43_method_3_code, exceptionTable := #[], attributes := #[] }
def k9m1 : Method := { name := "canEncode", desc := "(C)Z", sig := { parameters := [.char], returnType := some .boolean }, accessFlags := 9, code := some k9c1 }
def k9c2 : Code := { maxStack := 4, maxLocals := 1, code := jdk_43_method_46_code, exceptionTable := #[], attributes := #[] }
def k9m2 : Method := { name := "toBytes", desc := "(C)[B", sig := { parameters := [.char], returnType := some (.array .byte) }, accessFlags := 9, code := some k9c2 }
/-- java/lang/StringLatin1 -/
def k9 : Class := { plain "java/lang/StringLatin1" (some 0) with
  accessFlags := 48
  interfaces := #[]
  cf := some (fileOf pool9 14 #[.nestMembers #[390, 221]] #[{ accessFlags := 0, nameIndex := 7, descriptorIndex := 8, attributes := #[] }, { accessFlags := 9, nameIndex := 90, descriptorIndex := 105, attributes := #[] }, { accessFlags := 9, nameIndex := 380, descriptorIndex := 382, attributes := #[] }] 48 4 #[] #[{ accessFlags := 4120, nameIndex := 121, descriptorIndex := 122, attributes := #[] }])
  fields := #[{ name := "$assertionsDisabled", type := .boolean, accessFlags := 4120, slot := 0, constantValue := 0 }]
  methods := #[k9m0, k9m1, k9m2]
  instanceTypes := #[]
  staticTypes := #[.boolean]
  resolved := Array.replicate 395 none
  statics := none }

def pool10 : Array CpInfo := pool [(8, .class_ 10), (1, u "java/lang/Iterable"), (24, .class_ 36), (0, u "java/lang/Object")] 25

/-- java/lang/Iterable -/
def k10 : Class := { plain "java/lang/Iterable" (some 0) with
  accessFlags := 1537
  interfaces := #[]
  cf := some (fileOf pool10 8 #[] #[] 1537 35 #[] #[])
  fields := #[]
  methods := #[]
  instanceTypes := #[]
  staticTypes := #[]
  resolved := Array.replicate 62 none
  statics := none }

def pool11 : Array CpInfo := pool [(10, .class_ 12), (1, u "java/util/Collection"), (47, .class_ 61), (0, u "java/lang/Object"), (0, .class_ 63), (0, u "java/lang/Iterable")] 51

/-- java/util/Collection -/
def k11 : Class := { plain "java/util/Collection" (some 0) with
  accessFlags := 1537
  interfaces := #[10]
  cf := some (fileOf pool11 10 #[] #[] 1537 60 #[62] #[])
  fields := #[]
  methods := #[]
  instanceTypes := #[]
  staticTypes := #[]
  resolved := Array.replicate 115 none
  statics := none }

def pool12 : Array CpInfo := pool [(1, .methodref 2 3), (0, .class_ 4), (0, .nameAndType 5 6), (0, u "java/lang/Object"), (0, u "<init>"), (0, u "()V"), (1, .class_ 10), (1, u "java/util/AbstractCollection"), (66, .class_ 78), (0, u "java/util/Collection")] 81

def k12c0 : Code := { maxStack := 1, maxLocals := 1, code := jdk_22_method_1_code, exceptionTable := #[], attributes := #[] }
def k12m0 : Method := { name := "<init>", desc := "()V", sig := { parameters := [], returnType := none }, accessFlags := 4, code := some k12c0 }
/-- java/util/AbstractCollection -/
def k12 : Class := { plain "java/util/AbstractCollection" (some 0) with
  accessFlags := 1057
  interfaces := #[11]
  cf := some (fileOf pool12 8 #[] #[{ accessFlags := 4, nameIndex := 5, descriptorIndex := 6, attributes := #[] }] 1057 2 #[77] #[])
  fields := #[]
  methods := #[k12m0]
  instanceTypes := #[]
  staticTypes := #[]
  resolved := Array.replicate 160 none
  statics := none }

def pool13 : Array CpInfo := pool [(8, .class_ 10), (1, u "java/util/SequencedCollection"), (15, .class_ 27), (0, u "java/lang/Object"), (0, .class_ 29), (0, u "java/util/Collection")] 27

/-- java/util/SequencedCollection -/
def k13 : Class := { plain "java/util/SequencedCollection" (some 0) with
  accessFlags := 1537
  interfaces := #[11]
  cf := some (fileOf pool13 8 #[] #[] 1537 26 #[28] #[])
  fields := #[]
  methods := #[]
  instanceTypes := #[]
  staticTypes := #[]
  resolved := Array.replicate 57 none
  statics := none }

def pool14 : Array CpInfo := pool [(8, .class_ 10), (1, u "java/util/List"), (92, .class_ 104), (0, u "java/lang/Object"), (15, .class_ 121), (0, u "java/util/SequencedCollection")] 129

/-- java/util/List -/
def k14 : Class := { plain "java/util/List" (some 0) with
  accessFlags := 1537
  interfaces := #[13]
  cf := some (fileOf pool14 8 #[] #[] 1537 103 #[120] #[])
  fields := #[]
  methods := #[]
  instanceTypes := #[]
  staticTypes := #[]
  resolved := Array.replicate 251 none
  statics := none }

def pool15 : Array CpInfo := pool [(1, .methodref 2 3), (0, .class_ 4), (0, .nameAndType 5 6), (0, u "java/util/AbstractCollection"), (0, u "<init>"), (0, u "()V"), (0, .fieldref 8 9), (0, .class_ 10), (0, .nameAndType 11 12), (0, u "java/util/AbstractList"), (0, u "modCount"), (0, u "I"), (64, .class_ 78), (0, u "java/util/AbstractList$Itr"), (3, .class_ 83), (0, u "java/util/AbstractList$ListItr"), (9, .class_ 94), (0, u "java/util/AbstractList$RandomAccessSubList"), (3, .class_ 99), (0, u "java/util/AbstractList$SubList"), (33, .class_ 134), (0, u "java/util/List"), (73, .class_ 209), (0, u "java/util/AbstractList$SubList$1"), (0, .class_ 211), (0, u "java/util/AbstractList$RandomAccessSpliterator")] 6

def k15c0 : Code := { maxStack := 2, maxLocals := 1, code := jdk_39_method_1_code, exceptionTable := #[], attributes := #[] }
def k15m0 : Method := { name := "<init>", desc := "()V", sig := { parameters := [], returnType := none }, accessFlags := 4, code := some k15c0 }
/-- java/util/AbstractList -/
def k15 : Class := { plain "java/util/AbstractList" (some 12) with
  accessFlags := 1057
  interfaces := #[14]
  cf := some (fileOf pool15 8 #[.nestMembers #[93, 98, 208, 210, 82, 77]] #[{ accessFlags := 4, nameIndex := 5, descriptorIndex := 6, attributes := #[] }] 1057 2 #[133] #[{ accessFlags := 132, nameIndex := 11, descriptorIndex := 12, attributes := #[] }])
  fields := #[{ name := "modCount", type := .int, accessFlags := 132, slot := 0, constantValue := 0 }]
  methods := #[k15m0]
  instanceTypes := #[.int]
  staticTypes := #[]
  resolved := Array.replicate 218 none
  statics := none }

def pool16 : Array CpInfo := pool [(1, .class_ 2), (0, u "java/util/RandomAccess"), (0, .class_ 4), (0, u "java/lang/Object")] 2

/-- java/util/RandomAccess -/
def k16 : Class := { plain "java/util/RandomAccess" (some 0) with
  accessFlags := 1537
  interfaces := #[]
  cf := some (fileOf pool16 1 #[] #[] 1537 3 #[] #[])
  fields := #[]
  methods := #[]
  instanceTypes := #[]
  staticTypes := #[]
  resolved := Array.replicate 7 none
  statics := none }

def pool17 : Array CpInfo := pool [(1, .class_ 2), (0, u "java/lang/Cloneable"), (0, .class_ 4), (0, u "java/lang/Object")] 2

/-- java/lang/Cloneable -/
def k17 : Class := { plain "java/lang/Cloneable" (some 0) with
  accessFlags := 1537
  interfaces := #[]
  cf := some (fileOf pool17 1 #[] #[] 1537 3 #[] #[])
  fields := #[]
  methods := #[]
  instanceTypes := #[]
  staticTypes := #[]
  resolved := Array.replicate 7 none
  statics := none }

def pool18 : Array CpInfo := pool [(1, .methodref 2 3), (0, .class_ 4), (0, .nameAndType 5 6), (0, u "java/util/AbstractList"), (0, u "<init>"), (0, u "()V"), (0, .class_ 8), (0, u "java/lang/Object"), (0, .fieldref 10 11), (0, .class_ 12), (0, .nameAndType 13 14), (0, u "java/util/ArrayList"), (0, u "elementData"), (0, u "[Ljava/lang/Object;"), (2, u "EMPTY_ELEMENTDATA"), (21, .fieldref 10 40), (0, .nameAndType 41 14), (0, u "DEFAULTCAPACITY_EMPTY_ELEMENTDATA"), (5, u "()[Ljava/lang/Object;"), (0, .fieldref 10 49), (0, .nameAndType 50 51), (0, u "size"), (0, u "I"), (11, .fieldref 10 64), (0, .nameAndType 65 51), (0, u "modCount"), (3, .methodref 10 70), (0, .nameAndType 71 72), (0, u "grow"), (0, u "(I)[Ljava/lang/Object;"), (6, .methodref 80 81), (0, .class_ 82), (0, .nameAndType 83 84), (0, u "java/lang/Math"), (0, u "max"), (0, u "(II)I"), (11, u "(Ljava/lang/Object;)Z"), (32, .methodref 10 130), (0, .nameAndType 71 47), (0, .methodref 10 132), (0, .nameAndType 133 134), (0, u "add"), (0, u "(Ljava/lang/Object;[Ljava/lang/Object;I)V"), (13, .class_ 149), (0, u "java/util/List"), (112, .class_ 263), (0, u "java/util/ArrayList$ListItr"), (3, .class_ 268), (0, u "java/util/ArrayList$Itr"), (7, .class_ 277), (0, u "java/util/ArrayList$SubList"), (12, .class_ 291), (0, u "java/util/ArrayList$ArrayListSpliterator"), (37, .class_ 330), (0, u "java/util/RandomAccess"), (0, .class_ 332), (0, u "java/lang/Cloneable"), (0, .class_ 334), (0, u "java/io/Serializable"), (0, u "serialVersionUID"), (0, u "J"), (3, u "DEFAULT_CAPACITY"), (159, .class_ 501), (0, u "java/util/ArrayList$SubList$2"), (0, .class_ 503), (0, u "java/util/ArrayList$SubList$1")] 5

def k18c0 : Code := { maxStack := 2, maxLocals := 1, code := jdk_38_method_2_code, exceptionTable := #[], attributes := #[] }
def k18m0 : Method := { name := "<init>", desc := "()V", sig := { parameters := [], returnType := none }, accessFlags := 1, code := some k18c0 }
def k18c1 : Code := { maxStack := 4, maxLocals := 4, code := jdk_38_method_6_code, exceptionTable := #[], attributes := #[] }
def k18m1 : Method := { name := "grow", desc := "(I)[Ljava/lang/Object;", sig := { parameters := [.int], returnType := some (.array (.object "java/lang/Object")) }, accessFlags := 2, code := some k18c1 }
def k18c2 : Code := { maxStack := 3, maxLocals := 1, code := jdk_38_method_7_code, exceptionTable := #[], attributes := #[] }
def k18m2 : Method := { name := "grow", desc := "()[Ljava/lang/Object;", sig := { parameters := [], returnType := some (.array (.object "java/lang/Object")) }, accessFlags := 2, code := some k18c2 }
def k18c3 : Code := { maxStack := 3, maxLocals := 4, code := jdk_38_method_24_code, exceptionTable := #[], attributes := #[] }
def k18m3 : Method := { name := "add", desc := "(Ljava/lang/Object;[Ljava/lang/Object;I)V", sig := { parameters := [(.object "java/lang/Object"), (.array (.object "java/lang/Object")), .int], returnType := none }, accessFlags := 2, code := some k18c3 }
def k18c4 : Code := { maxStack := 4, maxLocals := 2, code := jdk_38_method_25_code, exceptionTable := #[], attributes := #[] }
def k18m4 : Method := { name := "add", desc := "(Ljava/lang/Object;)Z", sig := { parameters := [(.object "java/lang/Object")], returnType := some .boolean }, accessFlags := 1, code := some k18c4 }
/-- java/util/ArrayList -/
def k18 : Class := { plain "java/util/ArrayList" (some 15) with
  accessFlags := 33
  interfaces := #[14, 16, 17, 2]
  cf := some (fileOf pool18 10 #[.nestMembers #[290, 276, 500, 502, 262, 267]] #[{ accessFlags := 1, nameIndex := 5, descriptorIndex := 6, attributes := #[] }, { accessFlags := 2, nameIndex := 71, descriptorIndex := 72, attributes := #[] }, { accessFlags := 2, nameIndex := 71, descriptorIndex := 47, attributes := #[] }, { accessFlags := 2, nameIndex := 133, descriptorIndex := 134, attributes := #[] }, { accessFlags := 1, nameIndex := 133, descriptorIndex := 96, attributes := #[] }] 33 2 #[148, 329, 331, 333] #[{ accessFlags := 26, nameIndex := 335, descriptorIndex := 336, attributes := #[] }, { accessFlags := 26, nameIndex := 340, descriptorIndex := 51, attributes := #[] }, { accessFlags := 26, nameIndex := 17, descriptorIndex := 14, attributes := #[] }, { accessFlags := 26, nameIndex := 41, descriptorIndex := 14, attributes := #[] }, { accessFlags := 128, nameIndex := 13, descriptorIndex := 14, attributes := #[] }, { accessFlags := 2, nameIndex := 50, descriptorIndex := 51, attributes := #[] }])
  fields := #[{ name := "serialVersionUID", type := .long, accessFlags := 26, slot := 0, constantValue := 0 }, { name := "DEFAULT_CAPACITY", type := .int, accessFlags := 26, slot := 1, constantValue := 0 }, { name := "EMPTY_ELEMENTDATA", type := (.array (.object "java/lang/Object")), accessFlags := 26, slot := 2, constantValue := 0 }, { name := "DEFAULTCAPACITY_EMPTY_ELEMENTDATA", type := (.array (.object "java/lang/Object")), accessFlags := 26, slot := 3, constantValue := 0 }, { name := "elementData", type := (.array (.object "java/lang/Object")), accessFlags := 128, slot := 1, constantValue := 0 }, { name := "size", type := .int, accessFlags := 2, slot := 2, constantValue := 0 }]
  methods := #[k18m0, k18m1, k18m2, k18m3, k18m4]
  instanceTypes := #[.int, (.array (.object "java/lang/Object")), .int]
  staticTypes := #[.long, .int, (.array (.object "java/lang/Object")), (.array (.object "java/lang/Object"))]
  resolved := Array.replicate 509 none
  statics := some 1 }

def pool19 : Array CpInfo := pool [(1, .methodref 2 3), (0, .class_ 4), (0, .nameAndType 5 6), (0, u "java/lang/Object"), (0, u "<init>"), (0, u "()V"), (0, .class_ 8), (0, u "java/lang/Record")] 13

def k19c0 : Code := { maxStack := 1, maxLocals := 1, code := jdk_30_method_1_code, exceptionTable := #[], attributes := #[] }
def k19m0 : Method := { name := "<init>", desc := "()V", sig := { parameters := [], returnType := none }, accessFlags := 4, code := some k19c0 }
/-- java/lang/Record -/
def k19 : Class := { plain "java/lang/Record" (some 0) with
  accessFlags := 1057
  interfaces := #[]
  cf := some (fileOf pool19 7 #[] #[{ accessFlags := 4, nameIndex := 5, descriptorIndex := 6, attributes := #[] }] 1057 2 #[] #[])
  fields := #[]
  methods := #[k19m0]
  instanceTypes := #[]
  staticTypes := #[]
  resolved := Array.replicate 22 none
  statics := none }

def pool20 : Array CpInfo := pool [(1, .methodref 2 3), (0, .class_ 4), (0, .nameAndType 5 6), (0, u "java/lang/Record"), (0, u "<init>"), (0, u "()V"), (0, .fieldref 8 9), (0, .class_ 10), (0, .nameAndType 11 12), (0, u "com/example/stubwright/stubwright/idl/Macros$Macro"), (0, u "name"), (0, u "Ljava/lang/String;"), (0, .fieldref 8 14), (0, .nameAndType 15 16), (0, u "parameters"), (0, u "Ljava/util/List;"), (0, .fieldref 8 18), (0, .nameAndType 19 16), (0, u "body"), (0, .fieldref 8 21), (0, .nameAndType 22 23), (0, u "location"), (0, u "Lcom/example/stubwright/stubwright/idl/Location;"), (30, u "()Z"), (14, u "(Ljava/lang/String;Ljava/util/List;Ljava/util/List;Lcom/example/stubwright/stubwright/idl/Location;)V"), (4, u "functionLike"), (10, .class_ 86), (0, u "com/example/stubwright/stubwright/idl/Macros")] 22

def k20c0 : Code := { maxStack := 2, maxLocals := 5, code := prog_59_method_1_code, exceptionTable := #[], attributes := #[] }
def k20m0 : Method := { name := "<init>", desc := "(Ljava/lang/String;Ljava/util/List;Ljava/util/List;Lcom/example/stubwright/stubwright/idl/Location;)V", sig := { parameters := [(.object "java/lang/String"), (.object "java/util/List"), (.object "java/util/List"), (.object "com/example/stubwright/stubwright/idl/Location")], returnType := none }, accessFlags := 0, code := some k20c0 }
def k20c1 : Code := { maxStack := 1, maxLocals := 1, code := prog_59_method_2_code, exceptionTable := #[], attributes := #[] }
def k20m1 : Method := { name := "functionLike", desc := "()Z", sig := { parameters := [], returnType := some .boolean }, accessFlags := 0, code := some k20c1 }
/-- com/example/stubwright/stubwright/idl/Macros$Macro -/
def k20 : Class := { plain "com/example/stubwright/stubwright/idl/Macros$Macro" (some 19) with
  accessFlags := 48
  interfaces := #[]
  cf := some (fileOf pool20 8 #[.nestHost 85] #[{ accessFlags := 0, nameIndex := 5, descriptorIndex := 69, attributes := #[] }, { accessFlags := 0, nameIndex := 74, descriptorIndex := 54, attributes := #[] }] 48 2 #[] #[{ accessFlags := 18, nameIndex := 11, descriptorIndex := 12, attributes := #[] }, { accessFlags := 18, nameIndex := 15, descriptorIndex := 16, attributes := #[] }, { accessFlags := 18, nameIndex := 19, descriptorIndex := 16, attributes := #[] }, { accessFlags := 18, nameIndex := 22, descriptorIndex := 23, attributes := #[] }])
  fields := #[{ name := "name", type := (.object "java/lang/String"), accessFlags := 18, slot := 0, constantValue := 0 }, { name := "parameters", type := (.object "java/util/List"), accessFlags := 18, slot := 1, constantValue := 0 }, { name := "body", type := (.object "java/util/List"), accessFlags := 18, slot := 2, constantValue := 0 }, { name := "location", type := (.object "com/example/stubwright/stubwright/idl/Location"), accessFlags := 18, slot := 3, constantValue := 0 }]
  methods := #[k20m0, k20m1]
  instanceTypes := #[(.object "java/lang/String"), (.object "java/util/List"), (.object "java/util/List"), (.object "com/example/stubwright/stubwright/idl/Location")]
  staticTypes := #[]
  resolved := Array.replicate 109 none
  statics := none }

def pool21 : Array CpInfo := pool [(1, .methodref 2 3), (0, .class_ 4), (0, .nameAndType 5 6), (0, u "java/lang/Record"), (0, u "<init>"), (0, u "()V"), (0, .fieldref 8 9), (0, .class_ 10), (0, .nameAndType 11 12), (0, u "com/example/stubwright/stubwright/idl/Location"), (0, u "file"), (0, u "Ljava/lang/String;"), (0, .fieldref 8 14), (0, .nameAndType 15 16), (0, u "line"), (0, u "I"), (0, .fieldref 8 18), (0, .nameAndType 19 16), (0, u "column"), (12, .class_ 33), (0, u "java/io/Serializable"), (0, u "(Ljava/lang/String;II)V")] 37

def k21c0 : Code := { maxStack := 2, maxLocals := 4, code := prog_54_method_1_code, exceptionTable := #[], attributes := #[] }
def k21m0 : Method := { name := "<init>", desc := "(Ljava/lang/String;II)V", sig := { parameters := [(.object "java/lang/String"), .int, .int], returnType := none }, accessFlags := 1, code := some k21c0 }
/-- com/example/stubwright/stubwright/idl/Location -/
def k21 : Class := { plain "com/example/stubwright/stubwright/idl/Location" (some 19) with
  accessFlags := 49
  interfaces := #[2]
  cf := some (fileOf pool21 8 #[] #[{ accessFlags := 1, nameIndex := 5, descriptorIndex := 34, attributes := #[] }] 49 2 #[32] #[{ accessFlags := 18, nameIndex := 11, descriptorIndex := 12, attributes := #[] }, { accessFlags := 18, nameIndex := 15, descriptorIndex := 16, attributes := #[] }, { accessFlags := 18, nameIndex := 19, descriptorIndex := 16, attributes := #[] }])
  fields := #[{ name := "file", type := (.object "java/lang/String"), accessFlags := 18, slot := 0, constantValue := 0 }, { name := "line", type := .int, accessFlags := 18, slot := 1, constantValue := 0 }, { name := "column", type := .int, accessFlags := 18, slot := 2, constantValue := 0 }]
  methods := #[k21m0]
  instanceTypes := #[(.object "java/lang/String"), .int, .int]
  staticTypes := #[]
  resolved := Array.replicate 72 none
  statics := none }

def pool22 : Array CpInfo := pool [(1, .class_ 2), (0, u "java/lang/Math"), (1, .class_ 6), (1, u "java/lang/Object"), (0, u "<init>"), (0, u "()V"), (89, .class_ 100), (1, u "java/lang/Math$RandomNumberGeneratorHolder"), (71, u "negativeZeroFloatBits"), (0, u "J"), (2, u "negativeZeroDoubleBits"), (21, u "max"), (46, u "$assertionsDisabled"), (0, u "Z"), (88, u "(II)I"), (2, u "twoToTheDoubleScaleDown"), (0, u "D"), (4, u "twoToTheDoubleScaleUp"), (9, u "E"), (3, u "PI"), (2, u "TAU"), (2, u "DEGREES_TO_RADIANS"), (0, u "RADIANS_TO_DEGREES")] 94

def k22m0 : Method := { name := "<init>", desc := "()V", sig := { parameters := [], returnType := none }, accessFlags := 2, code := none }
def k22c1 : Code := { maxStack := 2, maxLocals := 2, code := jdk_29_method_65_code, exceptionTable := #[], attributes := #[] }
def k22m1 : Method := { name := "max", desc := "(II)I", sig := { parameters := [.int, .int], returnType := some .int }, accessFlags := 9, code := some k22c1 }
/-- java/lang/Math -/
def k22 : Class := { plain "java/lang/Math" (some 0) with
  accessFlags := 49
  interfaces := #[]
  cf := some (fileOf pool22 1 #[.nestMembers #[98]] #[{ accessFlags := 2, nameIndex := 7, descriptorIndex := 8, attributes := #[] }, { accessFlags := 9, nameIndex := 198, descriptorIndex := 335, attributes := #[] }] 49 4 #[] #[{ accessFlags := 25, nameIndex := 354, descriptorIndex := 339, attributes := #[] }, { accessFlags := 25, nameIndex := 358, descriptorIndex := 339, attributes := #[] }, { accessFlags := 25, nameIndex := 361, descriptorIndex := 339, attributes := #[] }, { accessFlags := 26, nameIndex := 364, descriptorIndex := 339, attributes := #[] }, { accessFlags := 26, nameIndex := 365, descriptorIndex := 339, attributes := #[] }, { accessFlags := 26, nameIndex := 172, descriptorIndex := 173, attributes := #[] }, { accessFlags := 26, nameIndex := 176, descriptorIndex := 173, attributes := #[] }, { accessFlags := 8, nameIndex := 344, descriptorIndex := 339, attributes := #[] }, { accessFlags := 8, nameIndex := 338, descriptorIndex := 339, attributes := #[] }, { accessFlags := 4120, nameIndex := 245, descriptorIndex := 246, attributes := #[] }])
  fields := #[{ name := "E", type := .double, accessFlags := 25, slot := 0, constantValue := 0 }, { name := "PI", type := .double, accessFlags := 25, slot := 1, constantValue := 0 }, { name := "TAU", type := .double, accessFlags := 25, slot := 2, constantValue := 0 }, { name := "DEGREES_TO_RADIANS", type := .double, accessFlags := 26, slot := 3, constantValue := 0 }, { name := "RADIANS_TO_DEGREES", type := .double, accessFlags := 26, slot := 4, constantValue := 0 }, { name := "negativeZeroFloatBits", type := .long, accessFlags := 26, slot := 5, constantValue := 0 }, { name := "negativeZeroDoubleBits", type := .long, accessFlags := 26, slot := 6, constantValue := 0 }, { name := "twoToTheDoubleScaleUp", type := .double, accessFlags := 8, slot := 7, constantValue := 0 }, { name := "twoToTheDoubleScaleDown", type := .double, accessFlags := 8, slot := 8, constantValue := 0 }, { name := "$assertionsDisabled", type := .boolean, accessFlags := 4120, slot := 9, constantValue := 0 }]
  methods := #[k22m0, k22m1]
  instanceTypes := #[]
  staticTypes := #[.double, .double, .double, .double, .double, .long, .long, .double, .double, .boolean]
  resolved := Array.replicate 460 none
  statics := none }

def pool23 : Array CpInfo := pool [(2, .class_ 4), (1, u "java/lang/Object"), (0, u "<init>"), (0, u "()V"), (17, .class_ 26), (1, u "jdk/internal/util/Preconditions"), (28, .class_ 56), (0, u "jdk/internal/util/Preconditions$4"), (57, .class_ 115), (0, u "jdk/internal/util/Preconditions$1"), (7, u "SIOOBE_FORMATTER"), (0, u "Ljava/util/function/BiFunction;"), (0, .class_ 126), (0, u "jdk/internal/util/Preconditions$2"), (3, u "AIOOBE_FORMATTER"), (0, .class_ 132), (0, u "jdk/internal/util/Preconditions$3"), (3, u "IOOBE_FORMATTER")] 57

def k23m0 : Method := { name := "<init>", desc := "()V", sig := { parameters := [], returnType := none }, accessFlags := 1, code := none }
/-- jdk/internal/util/Preconditions -/
def k23 : Class := { plain "jdk/internal/util/Preconditions" (some 0) with
  accessFlags := 33
  interfaces := #[]
  cf := some (fileOf pool23 24 #[.nestMembers #[55, 131, 125, 114]] #[{ accessFlags := 1, nameIndex := 5, descriptorIndex := 6, attributes := #[] }] 33 2 #[] #[{ accessFlags := 25, nameIndex := 123, descriptorIndex := 124, attributes := #[] }, { accessFlags := 25, nameIndex := 130, descriptorIndex := 124, attributes := #[] }, { accessFlags := 25, nameIndex := 136, descriptorIndex := 124, attributes := #[] }])
  fields := #[{ name := "SIOOBE_FORMATTER", type := (.object "java/util/function/BiFunction"), accessFlags := 25, slot := 0, constantValue := 0 }, { name := "AIOOBE_FORMATTER", type := (.object "java/util/function/BiFunction"), accessFlags := 25, slot := 1, constantValue := 0 }, { name := "IOOBE_FORMATTER", type := (.object "java/util/function/BiFunction"), accessFlags := 25, slot := 2, constantValue := 0 }]
  methods := #[k23m0]
  instanceTypes := #[]
  staticTypes := #[(.object "java/util/function/BiFunction"), (.object "java/util/function/BiFunction"), (.object "java/util/function/BiFunction")]
  resolved := Array.replicate 194 none
  statics := some 2 }

def pool24 : Array CpInfo := pool [(9, u "<init>"), (6, .class_ 18), (1, u "java/lang/Object"), (0, u "()V"), (1, .class_ 23), (1, u "jdk/internal/util/ArraysSupport"), (0, u "LOG2_ARRAY_LONG_INDEX_SCALE"), (0, u "I"), (2, u "U"), (0, u "Ljdk/internal/misc/Unsafe;"), (8, u "BIG_ENDIAN"), (0, u "Z"), (8, u "LOG2_BYTE_BIT_SIZE"), (4, u "LOG2_ARRAY_INT_INDEX_SCALE"), (54, u "JLA"), (0, u "Ljdk/internal/access/JavaLangAccess;"), (11, u "LOG2_ARRAY_BOOLEAN_INDEX_SCALE"), (9, u "LOG2_ARRAY_BYTE_INDEX_SCALE"), (5, u "LOG2_ARRAY_CHAR_INDEX_SCALE"), (5, u "LOG2_ARRAY_SHORT_INDEX_SCALE"), (18, u "LOG2_ARRAY_FLOAT_INDEX_SCALE"), (24, u "LOG2_ARRAY_DOUBLE_INDEX_SCALE"), (89, u "T_BOOLEAN"), (2, u "T_CHAR"), (1, u "T_FLOAT"), (1, u "T_DOUBLE"), (1, u "T_BYTE"), (1, u "T_SHORT"), (1, u "T_INT"), (1, u "T_LONG"), (1, u "SOFT_MAX_ARRAY_LENGTH")] 83

def k24m0 : Method := { name := "<init>", desc := "()V", sig := { parameters := [], returnType := none }, accessFlags := 2, code := none }
/-- jdk/internal/util/ArraysSupport -/
def k24 : Class := { plain "jdk/internal/util/ArraysSupport" (some 0) with
  accessFlags := 33
  interfaces := #[]
  cf := some (fileOf pool24 21 #[] #[{ accessFlags := 2, nameIndex := 9, descriptorIndex := 19, attributes := #[] }] 33 16 #[] #[{ accessFlags := 24, nameIndex := 28, descriptorIndex := 29, attributes := #[] }, { accessFlags := 26, nameIndex := 38, descriptorIndex := 39, attributes := #[] }, { accessFlags := 25, nameIndex := 121, descriptorIndex := 25, attributes := #[] }, { accessFlags := 25, nameIndex := 131, descriptorIndex := 25, attributes := #[] }, { accessFlags := 25, nameIndex := 137, descriptorIndex := 25, attributes := #[] }, { accessFlags := 25, nameIndex := 143, descriptorIndex := 25, attributes := #[] }, { accessFlags := 25, nameIndex := 53, descriptorIndex := 25, attributes := #[] }, { accessFlags := 25, nameIndex := 24, descriptorIndex := 25, attributes := #[] }, { accessFlags := 25, nameIndex := 162, descriptorIndex := 25, attributes := #[] }, { accessFlags := 25, nameIndex := 187, descriptorIndex := 25, attributes := #[] }, { accessFlags := 26, nameIndex := 48, descriptorIndex := 25, attributes := #[] }, { accessFlags := 25, nameIndex := 277, descriptorIndex := 25, attributes := #[] }, { accessFlags := 25, nameIndex := 280, descriptorIndex := 25, attributes := #[] }, { accessFlags := 25, nameIndex := 282, descriptorIndex := 25, attributes := #[] }, { accessFlags := 25, nameIndex := 284, descriptorIndex := 25, attributes := #[] }, { accessFlags := 25, nameIndex := 286, descriptorIndex := 25, attributes := #[] }, { accessFlags := 25, nameIndex := 288, descriptorIndex := 25, attributes := #[] }, { accessFlags := 25, nameIndex := 290, descriptorIndex := 25, attributes := #[] }, { accessFlags := 25, nameIndex := 292, descriptorIndex := 25, attributes := #[] }, { accessFlags := 26, nameIndex := 108, descriptorIndex := 109, attributes := #[] }, { accessFlags := 25, nameIndex := 294, descriptorIndex := 25, attributes := #[] }])
  fields := #[{ name := "U", type := (.object "jdk/internal/misc/Unsafe"), accessFlags := 24, slot := 0, constantValue := 0 }, { name := "BIG_ENDIAN", type := .boolean, accessFlags := 26, slot := 1, constantValue := 0 }, { name := "LOG2_ARRAY_BOOLEAN_INDEX_SCALE", type := .int, accessFlags := 25, slot := 2, constantValue := 0 }, { name := "LOG2_ARRAY_BYTE_INDEX_SCALE", type := .int, accessFlags := 25, slot := 3, constantValue := 0 }, { name := "LOG2_ARRAY_CHAR_INDEX_SCALE", type := .int, accessFlags := 25, slot := 4, constantValue := 0 }, { name := "LOG2_ARRAY_SHORT_INDEX_SCALE", type := .int, accessFlags := 25, slot := 5, constantValue := 0 }, { name := "LOG2_ARRAY_INT_INDEX_SCALE", type := .int, accessFlags := 25, slot := 6, constantValue := 0 }, { name := "LOG2_ARRAY_LONG_INDEX_SCALE", type := .int, accessFlags := 25, slot := 7, constantValue := 0 }, { name := "LOG2_ARRAY_FLOAT_INDEX_SCALE", type := .int, accessFlags := 25, slot := 8, constantValue := 0 }, { name := "LOG2_ARRAY_DOUBLE_INDEX_SCALE", type := .int, accessFlags := 25, slot := 9, constantValue := 0 }, { name := "LOG2_BYTE_BIT_SIZE", type := .int, accessFlags := 26, slot := 10, constantValue := 0 }, { name := "T_BOOLEAN", type := .int, accessFlags := 25, slot := 11, constantValue := 0 }, { name := "T_CHAR", type := .int, accessFlags := 25, slot := 12, constantValue := 0 }, { name := "T_FLOAT", type := .int, accessFlags := 25, slot := 13, constantValue := 0 }, { name := "T_DOUBLE", type := .int, accessFlags := 25, slot := 14, constantValue := 0 }, { name := "T_BYTE", type := .int, accessFlags := 25, slot := 15, constantValue := 0 }, { name := "T_SHORT", type := .int, accessFlags := 25, slot := 16, constantValue := 0 }, { name := "T_INT", type := .int, accessFlags := 25, slot := 17, constantValue := 0 }, { name := "T_LONG", type := .int, accessFlags := 25, slot := 18, constantValue := 0 }, { name := "JLA", type := (.object "jdk/internal/access/JavaLangAccess"), accessFlags := 26, slot := 19, constantValue := 0 }, { name := "SOFT_MAX_ARRAY_LENGTH", type := .int, accessFlags := 25, slot := 20, constantValue := 0 }]
  methods := #[k24m0]
  instanceTypes := #[]
  staticTypes := #[(.object "jdk/internal/misc/Unsafe"), .boolean, .int, .int, .int, .int, .int, .int, .int, .int, .int, .int, .int, .int, .int, .int, .int, .int, .int, (.object "jdk/internal/access/JavaLangAccess"), .int]
  resolved := Array.replicate 378 none
  statics := none }

/-- the primitive byte -/
def k25 : Class := { plain "byte" none with kind := .primitive 'B', accessFlags := 0x411 }
/-- [B -/
def k26 : Class := { plain "[B" (some 0) with kind := .array 25 .byte, interfaces := #[17, 2], accessFlags := 1041 }

/-- the primitive char -/
def k27 : Class := { plain "char" none with kind := .primitive 'C', accessFlags := 0x411 }
/-- [C -/
def k28 : Class := { plain "[C" (some 0) with kind := .array 27 .char, interfaces := #[17, 2], accessFlags := 1041 }

/-- the primitive int -/
def k29 : Class := { plain "int" none with kind := .primitive 'I', accessFlags := 0x411 }
/-- [I -/
def k30 : Class := { plain "[I" (some 0) with kind := .array 29 .int, interfaces := #[17, 2], accessFlags := 1041 }

/-- [Ljava/lang/Object; -/
def k31 : Class := { plain "[Ljava/lang/Object;" (some 0) with kind := .array 0 (.object "java/lang/Object"), interfaces := #[17, 2], accessFlags := 1041 }

def heap : Heap := #[{ cls := 7, slots := #[.long 0, .int 1, .null, .int 0, .null, .int 0, .int 0], vm := .statics 7 },
  { cls := 18, slots := #[.long 0, .int 0, .ref 3, .ref 4], vm := .statics 18 },
  { cls := 23, slots := #[.null, .null, .null], vm := .statics 23 },
  { cls := 31, slots := #[], vm := .none },
  { cls := 31, slots := #[], vm := .none }]
def classes : Array Class := #[k0, k1, k2, k3, k4, k5, k6, k7, k8, k9, k10, k11, k12, k13, k14, k15, k16, k17, k18, k19, k20, k21, k22, k23, k24, k25, k26, k27, k28, k29, k30, k31]
def interned : List (Array UInt16 × Addr) := []
def slotsUsed : Nat := 14
def theMethod : MethodId := ⟨1, 1⟩
def args0 : Array Value := #[.int 3, .int 16961, .int 16961, .int 2]
def aboutOver (below : List Frame) : State where
  vm := { classes := classes, interned := interned.toArray }
  heap := heap
  slotsUsed := slotsUsed
  threads := #[{ frames := .invoking theMethod args0 :: below }]
def below0 : List Frame := [.native { method := ⟨0, 0⟩, args := #[] }]
def about1 : State := aboutOver below0
def p0 : Program := .bare "" "" ""
def e0 : Env := launch0.env 0 0 0
theorem w_frames : about1.frames = Frame.invoking theMethod args0 :: below0 := rfl
set_option maxRecDepth 65536 in
theorem w_args : argsFit about1.vm theMethod args0 = true := by decide +kernel
set_option maxRecDepth 65536 in
theorem w_heap : heapFits about1 = true := by decide +kernel
set_option maxRecDepth 65536 in
theorem w_runnable : about1.curStatus? = some .runnable := by decide +kernel
set_option maxRecDepth 65536 in
theorem w_alone : about1.alone = true := by decide +kernel
set_option maxRecDepth 65536 in
theorem w_named : about1.methodNamed? x = some theMethod := by decide +kernel
set_option maxRecDepth 65536 in
theorem w_hears : about1.hears theMethod below0 = true := by decide +kernel
set_option maxRecDepth 65536 in
theorem w_ripe : about1.ripe theMethod args0 below0 = true := by decide +kernel
theorem w_running : about1.status = .running := rfl
set_option maxRecDepth 65536 in
theorem w_room : about1.hasRoom e0.platform room_1 = true :=
  launch0.hasRoom_least _ room_1 (by decide +kernel) (by decide +kernel) (by decide +kernel) (by decide +kernel) (by decide +kernel) (by decide +kernel)
theorem allAtoms_all (ts : List Jvm.Cond) (a : Array Jvm.Value) (st : Jvm.State) : (allAtoms ts).before a st = ts.all (fun c => c.before a st) := by
  induction ts with
  | nil => rfl
  | cons c t ih =>
    show (Jvm.Cond.and c (allAtoms t)).before a st = _
    rw [Jvm.Cond.before_and, ih, List.all_cons]
def words1 : List Jvm.Cond := Jvm.Cond.code x code maxLocals ret :: tables_1
/-- a 'code' word, met by the world's own term for the bytes: nothing is compared byte by byte -/
theorem code_word {y : MethodName} {bytes : ByteArray} {mx : Nat} {rt : Option FieldType} {a : Array Value} {s : State} {m : MethodId} {meth : Method} {c : Code} (h1 : s.methodNamed? y = some m) (h2 : s.vm.method? m = some meth) (h3 : meth.code = some c) (h4 : c.code = bytes)
    (h5 : (c.maxLocals == mx && c.exceptionTable.isEmpty && decide (c.maxStack ≤ mostOperands) && decide (meth.sig.returnType = rt) && !meth.locks && decide (parseMethodDescriptor y.desc = some meth.sig)) = true) : (Jvm.Cond.code y bytes mx rt).before a s = true := by
  simp only [Bool.and_eq_true, beq_iff_eq, Bool.not_eq_true', decide_eq_true_eq] at h5
  obtain ⟨⟨⟨⟨⟨g1, g2⟩, g3⟩, g4⟩, g5⟩, g6⟩ := h5
  simp [Cond.before, Cond.holds, Cond.value, h1, h2, h3, h4, g1, g2, g3, g4, g5, g6]
def isCode : Jvm.Cond → Bool
  | .code _ _ _ _ => true
  | _ => false
theorem all_split {L : List Jvm.Cond} {P : Jvm.Cond → Bool} (h1 : L.all (fun c => isCode c || P c) = true) (h2 : ∀ c ∈ L.filter isCode, P c = true) : L.all P = true := by
  refine List.all_eq_true.mpr fun c hc => ?_
  have h := List.all_eq_true.mp h1 c hc
  rcases Bool.eq_false_or_eq_true (isCode c) with hi | hi
  · exact h2 c (List.mem_filter.mpr ⟨hc, hi⟩)
  · simpa [hi] using h
set_option maxRecDepth 65536 in
theorem w_c0 : (Jvm.Cond.code x code maxLocals ret).before args0 about1 = true := code_word (m := ⟨1, 1⟩) (meth := k1m1) (c := k1c1) (by decide +kernel) rfl rfl rfl (by decide +kernel)
set_option maxRecDepth 65536 in
theorem w_c1 : (Jvm.Cond.code ({ cls := "java/lang/String", name := "<init>", desc := "([C)V" } : Jvm.MethodName) jdk_42_method_3_code (2 : Nat) (Option.none : Option Jvm.ClassFile.FieldType)).before args0 about1 = true := code_word (m := ⟨7, 1⟩) (meth := k7m1) (c := k7c1) (by decide +kernel) rfl rfl rfl (by decide +kernel)
set_option maxRecDepth 65536 in
theorem w_c2 : (Jvm.Cond.code ({ cls := "java/lang/String", name := "<init>", desc := "([CIILjava/lang/Void;)V" } : Jvm.MethodName) jdk_42_method_149_code (6 : Nat) (Option.none : Option Jvm.ClassFile.FieldType)).before args0 about1 = true := code_word (m := ⟨7, 3⟩) (meth := k7m3) (c := k7c3) (by decide +kernel) rfl rfl rfl (by decide +kernel)
set_option maxRecDepth 65536 in
theorem w_c3 : (Jvm.Cond.code ({ cls := "java/lang/Object", name := "<init>", desc := "()V" } : Jvm.MethodName) object_method_1_code (1 : Nat) (Option.none : Option Jvm.ClassFile.FieldType)).before args0 about1 = true := code_word (m := ⟨0, 0⟩) (meth := k0m0) (c := k0c0) (by decide +kernel) rfl rfl rfl (by decide +kernel)
set_option maxRecDepth 65536 in
theorem w_c4 : (Jvm.Cond.code ({ cls := "java/lang/StringUTF16", name := "compress", desc := "([CII)[B" } : Jvm.MethodName) jdk_52_method_16_code (6 : Nat) (Option.some (Jvm.ClassFile.FieldType.array Jvm.ClassFile.FieldType.byte))).before args0 about1 = true := code_word (m := ⟨8, 2⟩) (meth := k8m2) (c := k8c2) (by decide +kernel) rfl rfl rfl (by decide +kernel)
set_option maxRecDepth 65536 in
theorem w_c5 : (Jvm.Cond.code ({ cls := "java/lang/StringUTF16", name := "compress", desc := "([CI[BII)I" } : Jvm.MethodName) jdk_52_method_21_code (7 : Nat) (Option.some Jvm.ClassFile.FieldType.int)).before args0 about1 = true := code_word (m := ⟨8, 3⟩) (meth := k8m3) (c := k8c3) (by decide +kernel) rfl rfl rfl (by decide +kernel)
set_option maxRecDepth 65536 in
theorem w_c6 : (Jvm.Cond.code ({ cls := "java/lang/StringUTF16", name := "coderFromArrayLen", desc := "([BI)B" } : Jvm.MethodName) jdk_52_method_15_code (2 : Nat) (Option.some Jvm.ClassFile.FieldType.byte)).before args0 about1 = true := code_word (m := ⟨8, 1⟩) (meth := k8m1) (c := k8c1) (by decide +kernel) rfl rfl rfl (by decide +kernel)
set_option maxRecDepth 65536 in
theorem w_c7 : (Jvm.Cond.code ({ cls := "java/lang/String", name := "valueOf", desc := "(C)Ljava/lang/String;" } : Jvm.MethodName) jdk_42_method_139_code (1 : Nat) (Option.some (Jvm.ClassFile.FieldType.object "java/lang/String"))).before args0 about1 = true := code_word (m := ⟨7, 2⟩) (meth := k7m2) (c := k7c2) (by decide +kernel) rfl rfl rfl (by decide +kernel)
set_option maxRecDepth 65536 in
theorem w_c8 : (Jvm.Cond.code ({ cls := "java/lang/StringLatin1", name := "canEncode", desc := "(C)Z" } : Jvm.MethodName) jdk_43_method_3_code (1 : Nat) (Option.some Jvm.ClassFile.FieldType.boolean)).before args0 about1 = true := code_word (m := ⟨9, 1⟩) (meth := k9m1) (c := k9c1) (by decide +kernel) rfl rfl rfl (by decide +kernel)
set_option maxRecDepth 65536 in
theorem w_c9 : (Jvm.Cond.code ({ cls := "java/lang/StringLatin1", name := "toBytes", desc := "(C)[B" } : Jvm.MethodName) jdk_43_method_46_code (1 : Nat) (Option.some (Jvm.ClassFile.FieldType.array Jvm.ClassFile.FieldType.byte))).before args0 about1 = true := code_word (m := ⟨9, 2⟩) (meth := k9m2) (c := k9c2) (by decide +kernel) rfl rfl rfl (by decide +kernel)
set_option maxRecDepth 65536 in
theorem w_c10 : (Jvm.Cond.code ({ cls := "java/lang/String", name := "<init>", desc := "([BB)V" } : Jvm.MethodName) jdk_42_method_151_code (3 : Nat) (Option.none : Option Jvm.ClassFile.FieldType)).before args0 about1 = true := code_word (m := ⟨7, 4⟩) (meth := k7m4) (c := k7c4) (by decide +kernel) rfl rfl rfl (by decide +kernel)
set_option maxRecDepth 65536 in
theorem w_c11 : (Jvm.Cond.code ({ cls := "java/util/ArrayList", name := "<init>", desc := "()V" } : Jvm.MethodName) jdk_38_method_2_code (1 : Nat) (Option.none : Option Jvm.ClassFile.FieldType)).before args0 about1 = true := code_word (m := ⟨18, 0⟩) (meth := k18m0) (c := k18c0) (by decide +kernel) rfl rfl rfl (by decide +kernel)
set_option maxRecDepth 65536 in
theorem w_c12 : (Jvm.Cond.code ({ cls := "java/util/AbstractList", name := "<init>", desc := "()V" } : Jvm.MethodName) jdk_39_method_1_code (1 : Nat) (Option.none : Option Jvm.ClassFile.FieldType)).before args0 about1 = true := code_word (m := ⟨15, 0⟩) (meth := k15m0) (c := k15c0) (by decide +kernel) rfl rfl rfl (by decide +kernel)
set_option maxRecDepth 65536 in
theorem w_c13 : (Jvm.Cond.code ({ cls := "java/util/AbstractCollection", name := "<init>", desc := "()V" } : Jvm.MethodName) jdk_22_method_1_code (1 : Nat) (Option.none : Option Jvm.ClassFile.FieldType)).before args0 about1 = true := code_word (m := ⟨12, 0⟩) (meth := k12m0) (c := k12c0) (by decide +kernel) rfl rfl rfl (by decide +kernel)
set_option maxRecDepth 65536 in
theorem w_c14 : (Jvm.Cond.code ({ cls := "com/example/stubwright/stubwright/idl/Location", name := "<init>", desc := "(Ljava/lang/String;II)V" } : Jvm.MethodName) prog_54_method_1_code (4 : Nat) (Option.none : Option Jvm.ClassFile.FieldType)).before args0 about1 = true := code_word (m := ⟨21, 0⟩) (meth := k21m0) (c := k21c0) (by decide +kernel) rfl rfl rfl (by decide +kernel)
set_option maxRecDepth 65536 in
theorem w_c15 : (Jvm.Cond.code ({ cls := "java/lang/Record", name := "<init>", desc := "()V" } : Jvm.MethodName) jdk_30_method_1_code (1 : Nat) (Option.none : Option Jvm.ClassFile.FieldType)).before args0 about1 = true := code_word (m := ⟨19, 0⟩) (meth := k19m0) (c := k19c0) (by decide +kernel) rfl rfl rfl (by decide +kernel)
set_option maxRecDepth 65536 in
theorem w_c16 : (Jvm.Cond.code ({ cls := "com/example/stubwright/stubwright/idl/Macros$Macro", name := "<init>", desc := "(Ljava/lang/String;Ljava/util/List;Ljava/util/List;Lcom/example/stubwright/stubwright/idl/Location;)V" } : Jvm.MethodName) prog_59_method_1_code (5 : Nat) (Option.none : Option Jvm.ClassFile.FieldType)).before args0 about1 = true := code_word (m := ⟨20, 0⟩) (meth := k20m0) (c := k20c0) (by decide +kernel) rfl rfl rfl (by decide +kernel)
set_option maxRecDepth 65536 in
theorem w_c17 : (Jvm.Cond.code ({ cls := "com/example/stubwright/stubwright/idl/Macros$Macro", name := "functionLike", desc := "()Z" } : Jvm.MethodName) prog_59_method_2_code (1 : Nat) (Option.some Jvm.ClassFile.FieldType.boolean)).before args0 about1 = true := code_word (m := ⟨20, 1⟩) (meth := k20m1) (c := k20c1) (by decide +kernel) rfl rfl rfl (by decide +kernel)
set_option maxRecDepth 65536 in
theorem w_c18 : (Jvm.Cond.code ({ cls := "java/util/ArrayList", name := "add", desc := "(Ljava/lang/Object;)Z" } : Jvm.MethodName) jdk_38_method_25_code (2 : Nat) (Option.some Jvm.ClassFile.FieldType.boolean)).before args0 about1 = true := code_word (m := ⟨18, 4⟩) (meth := k18m4) (c := k18c4) (by decide +kernel) rfl rfl rfl (by decide +kernel)
set_option maxRecDepth 65536 in
theorem w_c19 : (Jvm.Cond.code ({ cls := "java/util/ArrayList", name := "add", desc := "(Ljava/lang/Object;[Ljava/lang/Object;I)V" } : Jvm.MethodName) jdk_38_method_24_code (4 : Nat) (Option.none : Option Jvm.ClassFile.FieldType)).before args0 about1 = true := code_word (m := ⟨18, 3⟩) (meth := k18m3) (c := k18c3) (by decide +kernel) rfl rfl rfl (by decide +kernel)
set_option maxRecDepth 65536 in
theorem w_c20 : (Jvm.Cond.code ({ cls := "java/util/ArrayList", name := "grow", desc := "()[Ljava/lang/Object;" } : Jvm.MethodName) jdk_38_method_7_code (1 : Nat) (Option.some (Jvm.ClassFile.FieldType.array (Jvm.ClassFile.FieldType.object "java/lang/Object")))).before args0 about1 = true := code_word (m := ⟨18, 2⟩) (meth := k18m2) (c := k18c2) (by decide +kernel) rfl rfl rfl (by decide +kernel)
set_option maxRecDepth 65536 in
theorem w_c21 : (Jvm.Cond.code ({ cls := "java/util/ArrayList", name := "grow", desc := "(I)[Ljava/lang/Object;" } : Jvm.MethodName) jdk_38_method_6_code (4 : Nat) (Option.some (Jvm.ClassFile.FieldType.array (Jvm.ClassFile.FieldType.object "java/lang/Object")))).before args0 about1 = true := code_word (m := ⟨18, 1⟩) (meth := k18m1) (c := k18c1) (by decide +kernel) rfl rfl rfl (by decide +kernel)
set_option maxRecDepth 65536 in
theorem w_c22 : (Jvm.Cond.code ({ cls := "java/lang/Math", name := "max", desc := "(II)I" } : Jvm.MethodName) jdk_29_method_65_code (2 : Nat) (Option.some Jvm.ClassFile.FieldType.int)).before args0 about1 = true := code_word (m := ⟨22, 1⟩) (meth := k22m1) (c := k22c1) (by decide +kernel) rfl rfl rfl (by decide +kernel)
def codes1 : List Jvm.Cond := [Jvm.Cond.code x code maxLocals ret, Jvm.Cond.code ({ cls := "java/lang/String", name := "<init>", desc := "([C)V" } : Jvm.MethodName) jdk_42_method_3_code (2 : Nat) (Option.none : Option Jvm.ClassFile.FieldType), Jvm.Cond.code ({ cls := "java/lang/String", name := "<init>", desc := "([CIILjava/lang/Void;)V" } : Jvm.MethodName) jdk_42_method_149_code (6 : Nat) (Option.none : Option Jvm.ClassFile.FieldType), Jvm.Cond.code ({ cls := "java/lang/Object", name := "<init>", desc := "()V" } : Jvm.MethodName) object_method_1_code (1 : Nat) (Option.none : Option Jvm.ClassFile.FieldType), Jvm.Cond.code ({ cls := "java/lang/StringUTF16", name := "compress", desc := "([CII)[B" } : Jvm.MethodName) jdk_52_method_16_code (6 : Nat) (Option.some (Jvm.ClassFile.FieldType.array Jvm.ClassFile.FieldType.byte)), Jvm.Cond.code ({ cls := "java/lang/StringUTF16", name := "compress", desc := "([CI[BII)I" } : Jvm.MethodName) jdk_52_method_21_code (7 : Nat) (Option.some Jvm.ClassFile.FieldType.int), Jvm.Cond.code ({ cls := "java/lang/StringUTF16", name := "coderFromArrayLen", desc := "([BI)B" } : Jvm.MethodName) jdk_52_method_15_code (2 : Nat) (Option.some Jvm.ClassFile.FieldType.byte), Jvm.Cond.code ({ cls := "java/lang/String", name := "valueOf", desc := "(C)Ljava/lang/String;" } : Jvm.MethodName) jdk_42_method_139_code (1 : Nat) (Option.some (Jvm.ClassFile.FieldType.object "java/lang/String")), Jvm.Cond.code ({ cls := "java/lang/StringLatin1", name := "canEncode", desc := "(C)Z" } : Jvm.MethodName) jdk_43_method_3_code (1 : Nat) (Option.some Jvm.ClassFile.FieldType.boolean), Jvm.Cond.code ({ cls := "java/lang/StringLatin1", name := "toBytes", desc := "(C)[B" } : Jvm.MethodName) jdk_43_method_46_code (1 : Nat) (Option.some (Jvm.ClassFile.FieldType.array Jvm.ClassFile.FieldType.byte)), Jvm.Cond.code ({ cls := "java/lang/String", name := "<init>", desc := "([BB)V" } : Jvm.MethodName) jdk_42_method_151_code (3 : Nat) (Option.none : Option Jvm.ClassFile.FieldType), Jvm.Cond.code ({ cls := "java/util/ArrayList", name := "<init>", desc := "()V" } : Jvm.MethodName) jdk_38_method_2_code (1 : Nat) (Option.none : Option Jvm.ClassFile.FieldType), Jvm.Cond.code ({ cls := "java/util/AbstractList", name := "<init>", desc := "()V" } : Jvm.MethodName) jdk_39_method_1_code (1 : Nat) (Option.none : Option Jvm.ClassFile.FieldType), Jvm.Cond.code ({ cls := "java/util/AbstractCollection", name := "<init>", desc := "()V" } : Jvm.MethodName) jdk_22_method_1_code (1 : Nat) (Option.none : Option Jvm.ClassFile.FieldType), Jvm.Cond.code ({ cls := "com/example/stubwright/stubwright/idl/Location", name := "<init>", desc := "(Ljava/lang/String;II)V" } : Jvm.MethodName) prog_54_method_1_code (4 : Nat) (Option.none : Option Jvm.ClassFile.FieldType), Jvm.Cond.code ({ cls := "java/lang/Record", name := "<init>", desc := "()V" } : Jvm.MethodName) jdk_30_method_1_code (1 : Nat) (Option.none : Option Jvm.ClassFile.FieldType), Jvm.Cond.code ({ cls := "com/example/stubwright/stubwright/idl/Macros$Macro", name := "<init>", desc := "(Ljava/lang/String;Ljava/util/List;Ljava/util/List;Lcom/example/stubwright/stubwright/idl/Location;)V" } : Jvm.MethodName) prog_59_method_1_code (5 : Nat) (Option.none : Option Jvm.ClassFile.FieldType), Jvm.Cond.code ({ cls := "com/example/stubwright/stubwright/idl/Macros$Macro", name := "functionLike", desc := "()Z" } : Jvm.MethodName) prog_59_method_2_code (1 : Nat) (Option.some Jvm.ClassFile.FieldType.boolean), Jvm.Cond.code ({ cls := "java/util/ArrayList", name := "add", desc := "(Ljava/lang/Object;)Z" } : Jvm.MethodName) jdk_38_method_25_code (2 : Nat) (Option.some Jvm.ClassFile.FieldType.boolean), Jvm.Cond.code ({ cls := "java/util/ArrayList", name := "add", desc := "(Ljava/lang/Object;[Ljava/lang/Object;I)V" } : Jvm.MethodName) jdk_38_method_24_code (4 : Nat) (Option.none : Option Jvm.ClassFile.FieldType), Jvm.Cond.code ({ cls := "java/util/ArrayList", name := "grow", desc := "()[Ljava/lang/Object;" } : Jvm.MethodName) jdk_38_method_7_code (1 : Nat) (Option.some (Jvm.ClassFile.FieldType.array (Jvm.ClassFile.FieldType.object "java/lang/Object"))), Jvm.Cond.code ({ cls := "java/util/ArrayList", name := "grow", desc := "(I)[Ljava/lang/Object;" } : Jvm.MethodName) jdk_38_method_6_code (4 : Nat) (Option.some (Jvm.ClassFile.FieldType.array (Jvm.ClassFile.FieldType.object "java/lang/Object"))), Jvm.Cond.code ({ cls := "java/lang/Math", name := "max", desc := "(II)I" } : Jvm.MethodName) jdk_29_method_65_code (2 : Nat) (Option.some Jvm.ClassFile.FieldType.int)]
set_option maxRecDepth 65536 in
theorem codes_eq : words1.filter isCode = codes1 := rfl
theorem w_codes : ∀ c ∈ words1.filter isCode, c.before args0 about1 = true := by
  rw [codes_eq]
  intro c hc
  simp only [codes1, List.mem_cons, List.not_mem_nil, or_false] at hc
  rcases hc with rfl | rfl | rfl | rfl | rfl | rfl | rfl | rfl | rfl | rfl | rfl | rfl | rfl | rfl | rfl | rfl | rfl | rfl | rfl | rfl | rfl | rfl | rfl
  · exact w_c0
  · exact w_c1
  · exact w_c2
  · exact w_c3
  · exact w_c4
  · exact w_c5
  · exact w_c6
  · exact w_c7
  · exact w_c8
  · exact w_c9
  · exact w_c10
  · exact w_c11
  · exact w_c12
  · exact w_c13
  · exact w_c14
  · exact w_c15
  · exact w_c16
  · exact w_c17
  · exact w_c18
  · exact w_c19
  · exact w_c20
  · exact w_c21
  · exact w_c22
set_option maxRecDepth 65536 in
theorem w_t1 : (words1.take 24).all (fun c => isCode c || c.before args0 about1) = true := by decide +kernel
set_option maxRecDepth 65536 in
theorem w_t2 : ((words1.drop 24).take 24).all (fun c => isCode c || c.before args0 about1) = true := by decide +kernel
set_option maxRecDepth 65536 in
theorem w_t3 : (((words1.drop 24).drop 24).take 24).all (fun c => isCode c || c.before args0 about1) = true := by decide +kernel
set_option maxRecDepth 65536 in
theorem w_t4 : ((((words1.drop 24).drop 24).drop 24).take 24).all (fun c => isCode c || c.before args0 about1) = true := by decide +kernel
set_option maxRecDepth 65536 in
theorem w_t5 : (((((words1.drop 24).drop 24).drop 24).drop 24).take 24).all (fun c => isCode c || c.before args0 about1) = true := by decide +kernel
set_option maxRecDepth 65536 in
theorem w_t6 : (((((words1.drop 24).drop 24).drop 24).drop 24).drop 24).all (fun c => isCode c || c.before args0 about1) = true := by decide +kernel
theorem w_tables : (allAtoms (Jvm.Cond.code x code maxLocals ret :: tables_1)).before args0 about1 = true := by
  rw [allAtoms_all]
  show words1.all (fun c => c.before args0 about1) = true
  refine all_split ?_ w_codes
  rw [← List.take_append_drop 24 words1, List.all_append, w_t1, ← List.take_append_drop 24 (words1.drop 24), List.all_append, w_t2, ← List.take_append_drop 24 ((words1.drop 24).drop 24), List.all_append, w_t3, ← List.take_append_drop 24 (((words1.drop 24).drop 24).drop 24), List.all_append, w_t4, ← List.take_append_drop 24 ((((words1.drop 24).drop 24).drop 24).drop 24), List.all_append, w_t5, w_t6]
  rfl
set_option maxRecDepth 65536 in
theorem w_rest : rest_1_c.before args0 about1 = true := by decide +kernel
set_option maxRecDepth 65536 in
theorem w_case : (Jvm.Cond.and given_1 narrow_1).before args0 about1 = true := by decide +kernel
theorem w_applies : (headSpec (Jvm.Cond.code x code maxLocals ret :: tables_1) room_1).applies x e0.platform about1 = true :=
  (Spec.applies_iff w_frames).mpr ⟨w_running, w_runnable, w_alone, w_named, w_hears, w_ripe, w_room, w_tables⟩
theorem atStart : AtStart classFile x code maxLocals ret World_1 tables_1 room_1 Calls_1 rest_1 Pre_1 launch0 p0 e0 about1 theMethod args0 below0 :=
  ⟨lists_1, trivial, launch0.admits_env _ _ _, launch0.least_env, fairChoices_fair.cas, fairChoices_fair.clock, w_frames, w_args, w_heap, w_applies, trivial, w_rest, w_case⟩
end start1
theorem witness_1 : WitnessClaimed_1 := ⟨start1.p0, start1.e0, start1.about1, start1.theMethod, start1.args0, start1.below0, start1.atStart⟩
end Jvm.Pilot.@@N@@
