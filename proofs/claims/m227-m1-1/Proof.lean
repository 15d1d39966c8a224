import JvmDerived
import JvmDerived.Pilot.@@N@@Statement
import JvmDerived.Pilot.@@N@@Code
set_option linter.unusedVariables false
set_option linter.unusedSimpArgs false
namespace Jvm.Pilot.@@N@@
open Jvm Jvm.ClassFile Sem Op Lib Jvm.Free Jvm.Stand Jvm.LawKit Jvm.RoadKit Bundle Jvm.Pilot.@@N@@.Jvm.D
abbrev Way (p : Program) (e : Env) (below : List Frame) (S0 T : State) (g : JFrame) : Prop := ∀ t, Steps p.tables e below (T.setTop g) t → Steps p.tables e below S0 t
theorem own_old {Z : State} {n0 : Nat} {h : Heap} (O : Old Z n0 h) : n0 ≤ h.size := O.1 ▸ O.2.1
theorem own_strW {a0 : Array Value} {Z : State} (hw : ∀ d ∈ tables_1, d.before a0 Z = true) : ∀ a ∈ Bundle.stringAtoms, a.before a0 Z = true := fun d hd => by
  simp only [Bundle.stringAtoms, List.mem_cons, List.not_mem_nil, or_false] at hd
  rcases hd with rfl | rfl | rfl | rfl | rfl | rfl | rfl
  · exact (hw _ (List.mem_of_getElem? (i := 48) rfl))
  · exact (hw _ (List.mem_of_getElem? (i := 47) rfl))
  · exact (hw _ (List.mem_of_getElem? (i := 59) rfl))
  · exact (hw _ (List.mem_of_getElem? (i := 60) rfl))
  · exact (hw _ (List.mem_of_getElem? (i := 61) rfl))
  · exact (hw _ (List.mem_of_getElem? (i := 62) rfl))
  · exact (hw _ (List.mem_of_getElem? (i := 63) rfl))
theorem own_rw {s t : State} {o : Outcome} {L : List Loc} {k n k' n' : Nat} (h : ReturnedEndW s o t L k n) (hk : k ≤ k') (hn : n ≤ n') : ReturnedEndW s o t L k' n' := ⟨h.1, h.2.1, h.2.2.1, h.2.2.2.mono hk hn⟩
theorem own_hkeep {Z s : State} {n0 : Nat} {h : Heap} (hh : s.heap = h) (O : Old Z n0 h) : ∀ (b : Addr) (cl : Cell), Z.heap[b]? = some cl → s.heap[b]? = some cl := fun b cl q => by rw [hh]; exact O.2.2 b cl q
theorem own_frs {Z s : State} {n0 : Nat} {h : Heap} (hh : s.heap = h) (O : Old Z n0 h) (N : Fr n0 []) : Fr s.heap.size [] := Fr.nil _
theorem own_backI {p : Program} {l : Launch} {e : Env} {R : Room} {s : State} {args : Array Value} {below : List Frame} {Z : State} {a0 : Array Value} {h : Heap} {Ts : List String} {y : MethodName} {bytes : ByteArray} {maxL : Nat} {ret : Option FieldType} {rm : Room} {len W : Nat} {as' : Array Value} {Q : Option Value → Heap → List Loc → Prop}
    (hM : MetFree l y (head1 [Jvm.Cond.code y bytes maxL ret] rm) (fun a U => a = as' ∧ Z.Warmed39 U.vm ∧ U.heap = h ∧ IB Z U.vm Ts) (fun _ _ _ _ _ => True) (fun _ U o U' => ∃ v L, o = .returned v ∧ Q v U'.heap L ∧ ReturnedEndW U o U' L rm.cells rm.slots))
    (hZ : Z.Warmed39 s.vm) (wc : (Jvm.Cond.code y bytes maxL ret).before a0 Z = true) (wz : (Jvm.Cond.initialized y.cls).before a0 Z = true) (hf : rm.frames + 1 ≤ R.frames) (hl : W + (maxL + 11) + rm.locals ≤ R.locals) (I : IB Z s.vm Ts) :
    BackS l R p e below s args y len W (fun A a => a = as' ∧ A.U.heap = h ∧ A.cells + rm.cells ≤ R.cells ∧ A.slots + rm.slots ≤ R.slots)
      (fun A _ v B => ∃ L, Q v B.U.heap L ∧ B.locs = A.locs ++ L ∧ B.cells = A.cells + rm.cells ∧ B.slots = A.slots + rm.slots) :=
  BackS.of_freeW (bytes := bytes) (maxL := maxL) (ret := ret) (E := fun _ _ o t L k n => k = rm.cells ∧ n = rm.slots ∧ ∃ v, o = .returned v ∧ Q v t.heap L) hM hf hl
    (fun m meth c A a Y hp => have hU : Z.Warmed39 A.U.vm := wtrans hZ Y.warmed
      ⟨by show (Jvm.Cond.and _ .tt).before a A.U = true; rw [Cond.before_and, mv hU wc]; rfl, mv hU wc, mv hU wz, hp.2.2.1, hp.2.2.2⟩)
    (fun m meth c A a g mk Y hp => ⟨hp.1, wtrans hZ Y.warmed, hp.2.1, by obtain ⟨more, e1, e2⟩ := I; exact ⟨more, Y.warmed.interned_eq.trans e1, e2⟩⟩) (fun _ _ _ _ _ _ _ _ _ => trivial)
    (fun _ _ _ _ ⟨v, L, h1, h2, h3⟩ => ⟨L, _, _, h3, rfl, rfl, v, h1, h2⟩)
    (fun m meth c A a g mk v t L k n Y hp _ _ ⟨e1, e2, v', e3, e4⟩ => by cases e3; subst e1 e2; exact ⟨L, e4, rfl, rfl, rfl⟩)
theorem own_held {tb : Tables} {e : Env} {a : Array Value} {s : State} (h : Calls_1 tb e a s) : Jvm.Lit.constHeld s "java/lang/String" 7 := h.1 ("java/lang/String", 7) (List.mem_of_getElem? (i := 0) rfl)
theorem own_chr1 (x : Int32) : ¬ ((255 : Int32) < (x &&& (255 : Int32)).toUInt32.toUInt16.toUInt32.toInt32) := by
  have e := i2c_mask x
  rw [e]
  have h := c_and x (255 : Int32) (by decide)
  have h5 : (255 : Int32).toInt = 255 := by decide
  rw [Int32.lt_iff_toInt_lt]
  omega
theorem own_chr (x : Int32) : ¬ ((255 : Int32) < (x &&& (255 : Int32)).toUInt32.toUInt16.toUInt32.toInt32.toUInt32.toUInt16.toUInt32.toInt32) := by
  have e := i2c_mask x
  rw [e, e]
  have h := c_and x (255 : Int32) (by decide)
  have h5 : (255 : Int32).toInt = 255 := by decide
  rw [Int32.lt_iff_toInt_lt]
  omega
theorem own_arv0 {s : State} {args : Array Value} {t : Term} {a : Addr} {ty : FieldType} {dv : Value} (ev : t.eval args s none [] s = some (.ref a)) (h4 : (Jvm.Cond.arrayOf t ty).value args s none s [] = some true) (h6 : (Jvm.Cond.eq (.length t) (.int (0 : Int32))).value args s none s [] = some true) :
    ∃ k, Arv s s.heap a k ty (0 : Int32) [] dv := by
  obtain ⟨cl, A⟩ := Arr.start ev h4
  have hat : s.arrayAt? a = some cl := A.fin (Vm.Alike.refl _)
  have hlen := Cond.eq_int (Cond.before_iff.mpr h6) rfl
  have h31 := SBG.length_lt ev hat hlen
  have hsz : cl.slots.size = 0 := by
    have e := len_f ev hat h31
    have h2 : cl.slots.size.toInt32 = (0 : Int32) := by simpa using Option.some.inj (e.symm.trans hlen)
    have h3 := congrArg Int32.toInt h2
    rw [len_toInt h31] at h3
    have h4 : (0 : Int32).toInt = 0 := by decide
    omega
  exact ⟨cl.cls, cl, A, rfl, by rw [hsz]; rfl, by decide, fun k hk => absurd hk (by omega), fun k hk => absurd hk (by omega)⟩
theorem own_eqF {args : Array Value} {s : State} {t : Term} {x : Addr} {C n d : String} {k : Int32} (ht : t.eval args s none [] s = some (.ref x)) (h : (Jvm.Cond.eq (.field t C n d) (.int k)).value args s none s [] = some true) : s.fieldOf? x C n d = some (.int k) :=
  (fld_at ht).symm.trans (Cond.eq_int (Cond.before_iff.mpr h) rfl)
theorem own_mask3 (x : Int32) : (x &&& (3 : Int32)) = (0 : Int32) ∨ (x &&& (3 : Int32)) = (1 : Int32) ∨ (x &&& (3 : Int32)) = (2 : Int32) ∨ (x &&& (3 : Int32)) = (3 : Int32) := by
  have h1 : (x &&& (3 : Int32)).toInt = x.toInt % (2 ^ 2 : Nat) := c_mask x 3 2 (by decide) (by decide)
  have h3 : (x &&& (3 : Int32)).toInt = 0 ∨ (x &&& (3 : Int32)).toInt = 1 ∨ (x &&& (3 : Int32)).toInt = 2 ∨ (x &&& (3 : Int32)).toInt = 3 := by omega
  rcases h3 with h | h | h | h
  · exact Or.inl (Int32.toInt_inj.mp h)
  · exact Or.inr (Or.inl (Int32.toInt_inj.mp h))
  · exact Or.inr (Or.inr (Or.inl (Int32.toInt_inj.mp h)))
  · exact Or.inr (Or.inr (Or.inr ((Int32.toInt_inj.mp h))))
def Gst (Z : State) (w_EAST : Addr) (w_WEST : Addr) (wCS : Int32) : Prop := (Sta Z Z.heap "com/example/aspectwise/aspectwise/engine/BlockEnd$Side" "EAST" "Lcom/example/aspectwise/aspectwise/engine/BlockEnd$Side;" (.ref w_EAST)) ∧ (Exa Z Z.heap w_EAST "com/example/aspectwise/aspectwise/engine/BlockEnd$Side") ∧ (Fld Z Z.heap w_EAST "java/lang/Enum" "ordinal" "I" (.int (0 : Int32))) ∧ (Sta Z Z.heap "com/example/aspectwise/aspectwise/engine/BlockEnd$Side" "WEST" "Lcom/example/aspectwise/aspectwise/engine/BlockEnd$Side;" (.ref w_WEST)) ∧ (Exa Z Z.heap w_WEST "com/example/aspectwise/aspectwise/engine/BlockEnd$Side") ∧ (Fld Z Z.heap w_WEST "java/lang/Enum" "ordinal" "I" (.int (1 : Int32))) ∧ (Sta Z Z.heap "java/lang/String" "COMPACT_STRINGS" "Z" (.int wCS)) ∧ (¬ (wCS = (0 : Int32)))
theorem d_jdk_52_method_21_code_0 : decode jdk_52_method_21_code 0 = .ok (.iconst 0, 1) := by decide +kernel
theorem d_jdk_52_method_21_code_1 : decode jdk_52_method_21_code 1 = .ok (.istore 5, 2) := by decide +kernel
theorem d_jdk_52_method_21_code_3 : decode jdk_52_method_21_code 3 = .ok (.iload 5, 2) := by decide +kernel
theorem d_jdk_52_method_21_code_5 : decode jdk_52_method_21_code 5 = .ok (.iload 4, 2) := by decide +kernel
theorem d_jdk_52_method_21_code_7 : decode jdk_52_method_21_code 7 = .ok (.if_icmp .ge 37, 3) := by decide +kernel
theorem d_jdk_52_method_21_code_10 : decode jdk_52_method_21_code 10 = .ok (.aload_n 0, 1) := by decide +kernel
theorem d_jdk_52_method_21_code_11 : decode jdk_52_method_21_code 11 = .ok (.iload_n 1, 1) := by decide +kernel
theorem d_jdk_52_method_21_code_12 : decode jdk_52_method_21_code 12 = .ok (.caload, 1) := by decide +kernel
theorem d_jdk_52_method_21_code_13 : decode jdk_52_method_21_code 13 = .ok (.istore 6, 2) := by decide +kernel
theorem d_jdk_52_method_21_code_15 : decode jdk_52_method_21_code 15 = .ok (.iload 6, 2) := by decide +kernel
theorem d_jdk_52_method_21_code_17 : decode jdk_52_method_21_code 17 = .ok (.sipush 255, 3) := by decide +kernel
theorem d_jdk_52_method_21_code_20 : decode jdk_52_method_21_code 20 = .ok (.if_icmp .le 6, 3) := by decide +kernel
theorem d_jdk_52_method_21_code_26 : decode jdk_52_method_21_code 26 = .ok (.aload_n 2, 1) := by decide +kernel
theorem d_jdk_52_method_21_code_27 : decode jdk_52_method_21_code 27 = .ok (.iload_n 3, 1) := by decide +kernel
theorem d_jdk_52_method_21_code_28 : decode jdk_52_method_21_code 28 = .ok (.iload 6, 2) := by decide +kernel
theorem d_jdk_52_method_21_code_30 : decode jdk_52_method_21_code 30 = .ok (.i2b, 1) := by decide +kernel
theorem d_jdk_52_method_21_code_31 : decode jdk_52_method_21_code 31 = .ok (.bastore, 1) := by decide +kernel
theorem d_jdk_52_method_21_code_32 : decode jdk_52_method_21_code 32 = .ok (.iinc 1 1, 3) := by decide +kernel
theorem d_jdk_52_method_21_code_35 : decode jdk_52_method_21_code 35 = .ok (.iinc 3 1, 3) := by decide +kernel
theorem d_jdk_52_method_21_code_38 : decode jdk_52_method_21_code 38 = .ok (.iinc 5 1, 3) := by decide +kernel
theorem d_jdk_52_method_21_code_41 : decode jdk_52_method_21_code 41 = .ok (.goto (-38), 3) := by decide +kernel
theorem d_jdk_52_method_21_code_44 : decode jdk_52_method_21_code 44 = .ok (.iload 4, 2) := by decide +kernel
theorem d_jdk_52_method_21_code_46 : decode jdk_52_method_21_code 46 = .ok (.ireturn, 1) := by decide +kernel
theorem pn_0 : plainName "java/lang/StringUTF16" = true := by first | (simp [plainName, overriddenIn]; done) | decide +kernel
theorem d_jdk_52_method_16_code_0 : decode jdk_52_method_16_code 0 = .ok (.iload_n 2, 1) := by decide +kernel
theorem d_jdk_52_method_16_code_1 : decode jdk_52_method_16_code 1 = .ok (.newarray .byte, 2) := by decide +kernel
theorem d_jdk_52_method_16_code_3 : decode jdk_52_method_16_code 3 = .ok (.astore_n 3, 1) := by decide +kernel
theorem d_jdk_52_method_16_code_4 : decode jdk_52_method_16_code 4 = .ok (.aload_n 0, 1) := by decide +kernel
theorem d_jdk_52_method_16_code_5 : decode jdk_52_method_16_code 5 = .ok (.iload_n 1, 1) := by decide +kernel
theorem d_jdk_52_method_16_code_6 : decode jdk_52_method_16_code 6 = .ok (.aload_n 3, 1) := by decide +kernel
theorem d_jdk_52_method_16_code_7 : decode jdk_52_method_16_code 7 = .ok (.iconst 0, 1) := by decide +kernel
theorem d_jdk_52_method_16_code_8 : decode jdk_52_method_16_code 8 = .ok (.iload_n 2, 1) := by decide +kernel
theorem d_jdk_52_method_16_code_9 : decode jdk_52_method_16_code 9 = .ok (.invokestatic 115, 3) := by decide +kernel
theorem pd_0 : parseMethodDescriptor "([CI[BII)I" = some ⟨[(.array .char), .int, (.array .byte), .int, .int], some .int⟩ := by decide +kernel
theorem d_jdk_52_method_16_code_12 : decode jdk_52_method_16_code 12 = .ok (.istore 4, 2) := by decide +kernel
theorem d_jdk_52_method_16_code_14 : decode jdk_52_method_16_code 14 = .ok (.iload 4, 2) := by decide +kernel
theorem d_jdk_52_method_16_code_16 : decode jdk_52_method_16_code 16 = .ok (.iload_n 2, 1) := by decide +kernel
theorem d_jdk_52_method_16_code_17 : decode jdk_52_method_16_code 17 = .ok (.if_icmp .eq 40, 3) := by decide +kernel
theorem d_jdk_52_method_16_code_57 : decode jdk_52_method_16_code 57 = .ok (.aload_n 3, 1) := by decide +kernel
theorem d_jdk_52_method_16_code_58 : decode jdk_52_method_16_code 58 = .ok (.areturn, 1) := by decide +kernel
theorem d_jdk_52_method_15_code_0 : decode jdk_52_method_15_code 0 = .ok (.iload_n 1, 1) := by decide +kernel
theorem d_jdk_52_method_15_code_1 : decode jdk_52_method_15_code 1 = .ok (.aload_n 0, 1) := by decide +kernel
theorem d_jdk_52_method_15_code_2 : decode jdk_52_method_15_code 2 = .ok (.arraylength, 1) := by decide +kernel
theorem d_jdk_52_method_15_code_3 : decode jdk_52_method_15_code 3 = .ok (.isub, 1) := by decide +kernel
theorem d_jdk_52_method_15_code_4 : decode jdk_52_method_15_code 4 = .ok (.bipush 31, 2) := by decide +kernel
theorem d_jdk_52_method_15_code_6 : decode jdk_52_method_15_code 6 = .ok (.iushr, 1) := by decide +kernel
theorem d_jdk_52_method_15_code_7 : decode jdk_52_method_15_code 7 = .ok (.i2b, 1) := by decide +kernel
theorem d_jdk_52_method_15_code_8 : decode jdk_52_method_15_code 8 = .ok (.ireturn, 1) := by decide +kernel
theorem d_jdk_42_method_149_code_0 : decode jdk_42_method_149_code 0 = .ok (.aload_n 0, 1) := by decide +kernel
theorem d_jdk_42_method_149_code_1 : decode jdk_42_method_149_code 1 = .ok (.invokespecial 1, 3) := by decide +kernel
theorem d_jdk_42_method_149_code_4 : decode jdk_42_method_149_code 4 = .ok (.iload_n 3, 1) := by decide +kernel
theorem d_jdk_42_method_149_code_5 : decode jdk_42_method_149_code 5 = .ok (.ifCond .ne 22, 3) := by decide +kernel
theorem d_jdk_42_method_149_code_27 : decode jdk_42_method_149_code 27 = .ok (.getstatic 38, 3) := by decide +kernel
theorem d_jdk_42_method_149_code_30 : decode jdk_42_method_149_code 30 = .ok (.ifCond .eq 28, 3) := by decide +kernel
theorem d_jdk_42_method_149_code_33 : decode jdk_42_method_149_code 33 = .ok (.aload_n 1, 1) := by decide +kernel
theorem d_jdk_42_method_149_code_34 : decode jdk_42_method_149_code 34 = .ok (.iload_n 2, 1) := by decide +kernel
theorem d_jdk_42_method_149_code_35 : decode jdk_42_method_149_code 35 = .ok (.iload_n 3, 1) := by decide +kernel
theorem d_jdk_42_method_149_code_36 : decode jdk_42_method_149_code 36 = .ok (.invokestatic 177, 3) := by decide +kernel
theorem pd_1 : parseMethodDescriptor "([CII)[B" = some ⟨[(.array .char), .int, .int], some (.array .byte)⟩ := by decide +kernel
theorem d_jdk_42_method_149_code_39 : decode jdk_42_method_149_code 39 = .ok (.astore 5, 2) := by decide +kernel
theorem d_jdk_42_method_149_code_41 : decode jdk_42_method_149_code 41 = .ok (.aload_n 0, 1) := by decide +kernel
theorem d_jdk_42_method_149_code_42 : decode jdk_42_method_149_code 42 = .ok (.aload 5, 2) := by decide +kernel
theorem d_jdk_42_method_149_code_44 : decode jdk_42_method_149_code 44 = .ok (.iload_n 3, 1) := by decide +kernel
theorem d_jdk_42_method_149_code_45 : decode jdk_42_method_149_code 45 = .ok (.invokestatic 47, 3) := by decide +kernel
theorem pd_2 : parseMethodDescriptor "([BI)B" = some ⟨[(.array .byte), .int], some .byte⟩ := by decide +kernel
theorem d_jdk_42_method_149_code_48 : decode jdk_42_method_149_code 48 = .ok (.putfield 15, 3) := by decide +kernel
theorem d_jdk_42_method_149_code_51 : decode jdk_42_method_149_code 51 = .ok (.aload_n 0, 1) := by decide +kernel
theorem d_jdk_42_method_149_code_52 : decode jdk_42_method_149_code 52 = .ok (.aload 5, 2) := by decide +kernel
theorem d_jdk_42_method_149_code_54 : decode jdk_42_method_149_code 54 = .ok (.putfield 9, 3) := by decide +kernel
theorem d_jdk_42_method_149_code_57 : decode jdk_42_method_149_code 57 = .ok (.return_, 1) := by decide +kernel
theorem pn_1 : plainName "java/lang/String" = true := by first | (simp [plainName, overriddenIn]; done) | decide +kernel
theorem d_jdk_42_method_3_code_0 : decode jdk_42_method_3_code 0 = .ok (.aload_n 0, 1) := by decide +kernel
theorem d_jdk_42_method_3_code_1 : decode jdk_42_method_3_code 1 = .ok (.aload_n 1, 1) := by decide +kernel
theorem d_jdk_42_method_3_code_2 : decode jdk_42_method_3_code 2 = .ok (.iconst 0, 1) := by decide +kernel
theorem d_jdk_42_method_3_code_3 : decode jdk_42_method_3_code 3 = .ok (.aload_n 1, 1) := by decide +kernel
theorem d_jdk_42_method_3_code_4 : decode jdk_42_method_3_code 4 = .ok (.arraylength, 1) := by decide +kernel
theorem d_jdk_42_method_3_code_5 : decode jdk_42_method_3_code 5 = .ok (.aconst_null, 1) := by decide +kernel
theorem d_jdk_42_method_3_code_6 : decode jdk_42_method_3_code 6 = .ok (.invokespecial 27, 3) := by decide +kernel
theorem pd_3 : parseMethodDescriptor "([CIILjava/lang/Void;)V" = some ⟨[(.array .char), .int, .int, (.object "java/lang/Void")], none⟩ := by decide +kernel
theorem d_jdk_42_method_3_code_9 : decode jdk_42_method_3_code 9 = .ok (.return_, 1) := by decide +kernel
theorem d_jdk_43_method_3_code_0 : decode jdk_43_method_3_code 0 = .ok (.iload_n 0, 1) := by decide +kernel
theorem d_jdk_43_method_3_code_1 : decode jdk_43_method_3_code 1 = .ok (.sipush 255, 3) := by decide +kernel
theorem d_jdk_43_method_3_code_4 : decode jdk_43_method_3_code 4 = .ok (.if_icmp .gt 7, 3) := by decide +kernel
theorem d_jdk_43_method_3_code_7 : decode jdk_43_method_3_code 7 = .ok (.iconst 1, 1) := by decide +kernel
theorem d_jdk_43_method_3_code_8 : decode jdk_43_method_3_code 8 = .ok (.goto 4, 3) := by decide +kernel
theorem d_jdk_43_method_3_code_12 : decode jdk_43_method_3_code 12 = .ok (.ireturn, 1) := by decide +kernel
theorem pn_2 : plainName "java/lang/StringLatin1" = true := by first | (simp [plainName, overriddenIn]; done) | decide +kernel
theorem d_jdk_43_method_46_code_0 : decode jdk_43_method_46_code 0 = .ok (.iconst 1, 1) := by decide +kernel
theorem d_jdk_43_method_46_code_1 : decode jdk_43_method_46_code 1 = .ok (.newarray .byte, 2) := by decide +kernel
theorem d_jdk_43_method_46_code_3 : decode jdk_43_method_46_code 3 = .ok (.dup, 1) := by decide +kernel
theorem d_jdk_43_method_46_code_4 : decode jdk_43_method_46_code 4 = .ok (.iconst 0, 1) := by decide +kernel
theorem d_jdk_43_method_46_code_5 : decode jdk_43_method_46_code 5 = .ok (.iload_n 0, 1) := by decide +kernel
theorem d_jdk_43_method_46_code_6 : decode jdk_43_method_46_code 6 = .ok (.i2b, 1) := by decide +kernel
theorem d_jdk_43_method_46_code_7 : decode jdk_43_method_46_code 7 = .ok (.bastore, 1) := by decide +kernel
theorem d_jdk_43_method_46_code_8 : decode jdk_43_method_46_code 8 = .ok (.areturn, 1) := by decide +kernel
theorem d_jdk_42_method_151_code_0 : decode jdk_42_method_151_code 0 = .ok (.aload_n 0, 1) := by decide +kernel
theorem d_jdk_42_method_151_code_1 : decode jdk_42_method_151_code 1 = .ok (.invokespecial 1, 3) := by decide +kernel
theorem d_jdk_42_method_151_code_4 : decode jdk_42_method_151_code 4 = .ok (.aload_n 0, 1) := by decide +kernel
theorem d_jdk_42_method_151_code_5 : decode jdk_42_method_151_code 5 = .ok (.aload_n 1, 1) := by decide +kernel
theorem d_jdk_42_method_151_code_6 : decode jdk_42_method_151_code 6 = .ok (.putfield 9, 3) := by decide +kernel
theorem d_jdk_42_method_151_code_9 : decode jdk_42_method_151_code 9 = .ok (.aload_n 0, 1) := by decide +kernel
theorem d_jdk_42_method_151_code_10 : decode jdk_42_method_151_code 10 = .ok (.iload_n 2, 1) := by decide +kernel
theorem d_jdk_42_method_151_code_11 : decode jdk_42_method_151_code 11 = .ok (.putfield 15, 3) := by decide +kernel
theorem d_jdk_42_method_151_code_14 : decode jdk_42_method_151_code 14 = .ok (.return_, 1) := by decide +kernel
theorem d_jdk_42_method_139_code_0 : decode jdk_42_method_139_code 0 = .ok (.getstatic 38, 3) := by decide +kernel
theorem d_jdk_42_method_139_code_3 : decode jdk_42_method_139_code 3 = .ok (.ifCond .eq 23, 3) := by decide +kernel
theorem d_jdk_42_method_139_code_6 : decode jdk_42_method_139_code 6 = .ok (.iload_n 0, 1) := by decide +kernel
theorem d_jdk_42_method_139_code_7 : decode jdk_42_method_139_code 7 = .ok (.invokestatic 1015, 3) := by decide +kernel
theorem pd_4 : parseMethodDescriptor "(C)Z" = some ⟨[.char], some .boolean⟩ := by decide +kernel
theorem d_jdk_42_method_139_code_10 : decode jdk_42_method_139_code 10 = .ok (.ifCond .eq 16, 3) := by decide +kernel
theorem d_jdk_42_method_139_code_13 : decode jdk_42_method_139_code 13 = .ok (.new 10, 3) := by decide +kernel
theorem d_jdk_42_method_139_code_16 : decode jdk_42_method_139_code 16 = .ok (.dup, 1) := by decide +kernel
theorem d_jdk_42_method_139_code_17 : decode jdk_42_method_139_code 17 = .ok (.iload_n 0, 1) := by decide +kernel
theorem d_jdk_42_method_139_code_18 : decode jdk_42_method_139_code 18 = .ok (.invokestatic 1018, 3) := by decide +kernel
theorem pd_5 : parseMethodDescriptor "(C)[B" = some ⟨[.char], some (.array .byte)⟩ := by decide +kernel
theorem d_jdk_42_method_139_code_21 : decode jdk_42_method_139_code 21 = .ok (.iconst 0, 1) := by decide +kernel
theorem d_jdk_42_method_139_code_22 : decode jdk_42_method_139_code 22 = .ok (.invokespecial 209, 3) := by decide +kernel
theorem pd_6 : parseMethodDescriptor "([BB)V" = some ⟨[(.array .byte), .byte], none⟩ := by decide +kernel
theorem d_jdk_42_method_139_code_25 : decode jdk_42_method_139_code 25 = .ok (.areturn, 1) := by decide +kernel
theorem d_jdk_30_method_1_code_0 : decode jdk_30_method_1_code 0 = .ok (.aload_n 0, 1) := by decide +kernel
theorem d_jdk_30_method_1_code_1 : decode jdk_30_method_1_code 1 = .ok (.invokespecial 1, 3) := by decide +kernel
theorem d_jdk_30_method_1_code_4 : decode jdk_30_method_1_code 4 = .ok (.return_, 1) := by decide +kernel
theorem pn_3 : plainName "java/lang/Record" = true := by first | (simp [plainName, overriddenIn]; done) | decide +kernel
theorem d_jdk_42_method_149_code_8 : decode jdk_42_method_149_code 8 = .ok (.aload_n 0, 1) := by decide +kernel
theorem d_jdk_42_method_149_code_9 : decode jdk_42_method_149_code 9 = .ok (.ldc 7, 2) := by decide +kernel
theorem d_jdk_42_method_149_code_11 : decode jdk_42_method_149_code 11 = .ok (.getfield 9, 3) := by decide +kernel
theorem d_jdk_42_method_149_code_14 : decode jdk_42_method_149_code 14 = .ok (.putfield 9, 3) := by decide +kernel
theorem d_jdk_42_method_149_code_17 : decode jdk_42_method_149_code 17 = .ok (.aload_n 0, 1) := by decide +kernel
theorem d_jdk_42_method_149_code_18 : decode jdk_42_method_149_code 18 = .ok (.ldc 7, 2) := by decide +kernel
theorem d_jdk_42_method_149_code_20 : decode jdk_42_method_149_code 20 = .ok (.getfield 15, 3) := by decide +kernel
theorem d_jdk_42_method_149_code_23 : decode jdk_42_method_149_code 23 = .ok (.putfield 15, 3) := by decide +kernel
theorem d_jdk_42_method_149_code_26 : decode jdk_42_method_149_code 26 = .ok (.return_, 1) := by decide +kernel
theorem d_prog_23_method_1_code_0 : decode prog_23_method_1_code 0 = .ok (.aload_n 0, 1) := by decide +kernel
theorem d_prog_23_method_1_code_1 : decode prog_23_method_1_code 1 = .ok (.invokespecial 1, 3) := by decide +kernel
theorem pd_7 : parseMethodDescriptor "()V" = some ⟨[], none⟩ := by decide +kernel
theorem d_prog_23_method_1_code_4 : decode prog_23_method_1_code 4 = .ok (.aload_n 0, 1) := by decide +kernel
theorem d_prog_23_method_1_code_5 : decode prog_23_method_1_code 5 = .ok (.aload_n 1, 1) := by decide +kernel
theorem d_prog_23_method_1_code_6 : decode prog_23_method_1_code 6 = .ok (.putfield 7, 3) := by decide +kernel
theorem d_prog_23_method_1_code_9 : decode prog_23_method_1_code 9 = .ok (.aload_n 0, 1) := by decide +kernel
theorem d_prog_23_method_1_code_10 : decode prog_23_method_1_code 10 = .ok (.aload_n 2, 1) := by decide +kernel
theorem d_prog_23_method_1_code_11 : decode prog_23_method_1_code 11 = .ok (.putfield 13, 3) := by decide +kernel
theorem d_prog_23_method_1_code_14 : decode prog_23_method_1_code 14 = .ok (.return_, 1) := by decide +kernel
theorem pn_4 : plainName "com/example/aspectwise/aspectwise/engine/BlockEnd" = true := by first | (simp [plainName, overriddenIn]; done) | decide +kernel
theorem d_prog_23_method_3_code_0 : decode prog_23_method_3_code 0 = .ok (.new 8, 3) := by decide +kernel
theorem d_prog_23_method_3_code_3 : decode prog_23_method_3_code 3 = .ok (.dup, 1) := by decide +kernel
theorem d_prog_23_method_3_code_4 : decode prog_23_method_3_code 4 = .ok (.aload_n 0, 1) := by decide +kernel
theorem d_prog_23_method_3_code_5 : decode prog_23_method_3_code 5 = .ok (.getfield 7, 3) := by decide +kernel
theorem d_prog_23_method_3_code_8 : decode prog_23_method_3_code 8 = .ok (.aload_n 0, 1) := by decide +kernel
theorem d_prog_23_method_3_code_9 : decode prog_23_method_3_code 9 = .ok (.getfield 13, 3) := by decide +kernel
theorem d_prog_23_method_3_code_12 : decode prog_23_method_3_code 12 = .ok (.getstatic 46, 3) := by decide +kernel
theorem d_prog_23_method_3_code_15 : decode prog_23_method_3_code 15 = .ok (.if_acmp .ne 9, 3) := by decide +kernel
theorem d_prog_23_method_3_code_18 : decode prog_23_method_3_code 18 = .ok (.getstatic 49, 3) := by decide +kernel
theorem d_prog_23_method_3_code_21 : decode prog_23_method_3_code 21 = .ok (.goto 6, 3) := by decide +kernel
theorem d_prog_23_method_3_code_27 : decode prog_23_method_3_code 27 = .ok (.invokespecial 43, 3) := by decide +kernel
theorem pd_8 : parseMethodDescriptor "(Ljava/lang/String;Lcom/example/aspectwise/aspectwise/engine/BlockEnd$Side;)V" = some ⟨[(.object "java/lang/String"), (.object "com/example/aspectwise/aspectwise/engine/BlockEnd$Side")], none⟩ := by decide +kernel
theorem d_prog_23_method_3_code_30 : decode prog_23_method_3_code 30 = .ok (.areturn, 1) := by decide +kernel
theorem d_prog_23_method_3_code_24 : decode prog_23_method_3_code 24 = .ok (.getstatic 46, 3) := by decide +kernel
theorem d_prog_23_method_7_code_0 : decode prog_23_method_7_code 0 = .ok (.aload_n 0, 1) := by decide +kernel
theorem d_prog_23_method_7_code_1 : decode prog_23_method_7_code 1 = .ok (.getfield 7, 3) := by decide +kernel
theorem d_prog_23_method_7_code_4 : decode prog_23_method_7_code 4 = .ok (.areturn, 1) := by decide +kernel
theorem d_prog_23_method_8_code_0 : decode prog_23_method_8_code 0 = .ok (.aload_n 0, 1) := by decide +kernel
theorem d_prog_23_method_8_code_1 : decode prog_23_method_8_code 1 = .ok (.getfield 13, 3) := by decide +kernel
theorem d_prog_23_method_8_code_4 : decode prog_23_method_8_code 4 = .ok (.areturn, 1) := by decide +kernel
theorem d_jdk_42_method_66_code_0 : decode jdk_42_method_66_code 0 = .ok (.aload_n 0, 1) := by decide +kernel
theorem d_jdk_42_method_66_code_1 : decode jdk_42_method_66_code 1 = .ok (.aload_n 1, 1) := by decide +kernel
theorem d_jdk_42_method_66_code_2 : decode jdk_42_method_66_code 2 = .ok (.if_acmp .ne 5, 3) := by decide +kernel
theorem d_jdk_42_method_66_code_5 : decode jdk_42_method_66_code 5 = .ok (.iconst 1, 1) := by decide +kernel
theorem d_jdk_42_method_66_code_6 : decode jdk_42_method_66_code 6 = .ok (.ireturn, 1) := by decide +kernel
theorem d_method_2_code_0 : decode method_2_code 0 = .ok (.aload_n 0, 1) := by decide +kernel
theorem d_method_2_code_1 : decode method_2_code 1 = .ok (.ifnonnull 13, 3) := by decide +kernel
theorem d_method_2_code_4 : decode method_2_code 4 = .ok (.aload_n 1, 1) := by decide +kernel
theorem d_method_2_code_5 : decode method_2_code 5 = .ok (.ifnonnull 7, 3) := by decide +kernel
theorem d_method_2_code_8 : decode method_2_code 8 = .ok (.iconst 1, 1) := by decide +kernel
theorem d_method_2_code_9 : decode method_2_code 9 = .ok (.goto 4, 3) := by decide +kernel
theorem d_method_2_code_13 : decode method_2_code 13 = .ok (.ireturn, 1) := by decide +kernel
theorem pn_5 : plainName "com/example/aspectwise/aspectwise/engine/BlockEndOppositePinLaw" = true := by first | (simp [plainName, overriddenIn]; done) | decide +kernel
theorem d_method_2_code_14 : decode method_2_code 14 = .ok (.aload_n 0, 1) := by decide +kernel
theorem d_method_2_code_15 : decode method_2_code 15 = .ok (.aload_n 1, 1) := by decide +kernel
theorem d_method_2_code_16 : decode method_2_code 16 = .ok (.invokevirtual 7, 3) := by decide +kernel
theorem pd_9 : parseMethodDescriptor "(Ljava/lang/Object;)Z" = some ⟨[(.object "java/lang/Object")], some .boolean⟩ := by decide +kernel
theorem d_method_2_code_19 : decode method_2_code 19 = .ok (.ireturn, 1) := by decide +kernel
theorem pd_10 : parseMethodDescriptor "()Lcom/example/aspectwise/aspectwise/engine/BlockEnd;" = some ⟨[], some (.object "com/example/aspectwise/aspectwise/engine/BlockEnd")⟩ := by decide +kernel
theorem pd_11 : parseMethodDescriptor "()Lcom/example/aspectwise/aspectwise/engine/BlockEnd$Side;" = some ⟨[], some (.object "com/example/aspectwise/aspectwise/engine/BlockEnd$Side")⟩ := by decide +kernel
theorem pd_12 : parseMethodDescriptor "()Ljava/lang/String;" = some ⟨[], some (.object "java/lang/String")⟩ := by decide +kernel
theorem pd_13 : parseMethodDescriptor "(Ljava/lang/String;Ljava/lang/String;)Z" = some ⟨[(.object "java/lang/String"), (.object "java/lang/String")], some .boolean⟩ := by decide +kernel
theorem pd_14 : parseMethodDescriptor "([C)V" = some ⟨[(.array .char)], none⟩ := by decide +kernel
theorem pd_15 : parseMethodDescriptor "(C)Ljava/lang/String;" = some ⟨[.char], some (.object "java/lang/String")⟩ := by decide +kernel
def Q_scomp1_3 (Z : State) (w_EAST : Addr) (w_WEST : Addr) (wCS : Int32) (a1 : Addr) (a2 : Addr) (kc : ClassId) (kb : ClassId) (q0 : Int32) (q1 : Int32) (q2 : Int32) (h0 : Heap) (n0 : Nat) (v : Option Value) (h : Heap) (L : List Loc) : Prop := (v = some (.int (3 : Int32))) ∧ (Fr n0 L) ∧ (Keep h0 h [a2]) ∧ (Arv Z h a2 kb .byte (3 : Int32) [(.int ((q0.toInt8.toInt32).toInt8.toInt32)), (.int ((q1.toInt8.toInt32).toInt8.toInt32)), (.int ((q2.toInt8.toInt32).toInt8.toInt32))] (.int (0 : Int32)))
set_option maxRecDepth 65536 in
set_option maxHeartbeats 40000000 in
theorem scomp1_3 (l : Launch) (Z : State) (a0 : Array Value) (hw : ∀ d ∈ tables_1, d.before a0 Z = true) (ws : List Jvm.Cond) (w_EAST : Addr) (w_WEST : Addr) (wCS : Int32) (G : Gst Z w_EAST w_WEST wCS) (a1 : Addr) (a2 : Addr) (kc : ClassId) (kb : ClassId) (q0 : Int32) (q1 : Int32) (q2 : Int32) (h0 : Heap) (n0 : Nat) (O0 : Old Z n0 h0) (a_0 : Arv Z h0 a1 kc .char (3 : Int32) [(.int q0), (.int q1), (.int q2)] (.int (0 : Int32))) (a_1 : Arv Z h0 a2 kb .byte (3 : Int32) [(.int (0 : Int32)), (.int (0 : Int32)), (.int (0 : Int32))] (.int (0 : Int32))) (hne : a1 ≠ a2) (ga2 : n0 ≤ a2) (hq0 : ¬ ((255 : Int32) < q0)) (hq1 : ¬ ((255 : Int32) < q1)) (hq2 : ¬ ((255 : Int32) < q2)) :
    MetFree l (⟨"java/lang/StringUTF16", "compress", "([CI[BII)I"⟩ : MethodName) (head1 (Jvm.Cond.code (⟨"java/lang/StringUTF16", "compress", "([CI[BII)I"⟩ : MethodName) jdk_52_method_21_code 7 (some .int) :: ws) ({ frames := 0, cells := 0, slots := 0, locals := 0 } : Room)) (fun a U => a = #[(.ref a1), (.int (0 : Int32)), (.ref a2), (.int (0 : Int32)), (.int (3 : Int32))] ∧ Z.Warmed39 U.vm ∧ U.heap = h0) (fun _ _ _ _ _ => True) (fun _ U o U' => ∃ v L, o = .returned v ∧ Q_scomp1_3 Z w_EAST w_WEST wCS a1 a2 kc kb q0 q1 q2 h0 n0 v U'.heap L ∧ FrameEnd U o U' L ({ frames := 0, cells := 0, slots := 0, locals := 0 } : Room).cells ({ frames := 0, cells := 0, slots := 0, locals := 0 } : Room).slots) := by
  refine MetFree.of_bodySF (plainFor_of_name pn_0) hisR ?_
  intro p e s m args below meth c s₁ Bd hml0 hP hK
  obtain ⟨rfl, hZ, hh⟩ := hP
  have hx := Bd.exec
  have hby := Bd.bytes
  have hml : c.maxLocals = 7 := hml0
  have hown : s.vm.findClass "java/lang/StringUTF16" = some m.cls := findClass_of_methodNamed Bd.named
  have hnm := (name_of_methodNamed Bd.named Bd.method).1
  have X0 : Stand p l e ({ frames := 0, cells := 0, slots := 0, locals := 0 } : Room) s m #[(.ref a1), (.int (0 : Int32)), (.ref a2), (.int (0 : Int32)), (.int (3 : Int32))] below meth c s₁ [] 0 0 := Stand.of_body Bd
  have e0 : s₁.heap = h0 := by rw [← hh, Bd.state]; rfl
  have N0 := Fr.nil n0
  obtain ⟨S_w_EAST, E_w_EAST, F_w_EAST_ordinal, S_w_WEST, E_w_WEST, F_w_WEST_ordinal, S_CS, hCS⟩ := id G
  have k0 : Way p e below (s₁.setTop (entryFrame m #[(.ref a1), (.int (0 : Int32)), (.ref a2), (.int (0 : Int32)), (.int (3 : Int32))] 7)) s₁ (mkF m 0 #[rv a1, iv (0 : Int32), rv a2, iv (0 : Int32), iv (3 : Int32), .unset, .unset] []) := fun t k => castTop (by first | (simp [entryFrame, mkF, argsToLocals, Value.category]; done) | rfl) k
  generalize s₁.setTop (entryFrame m #[(.ref a1), (.int (0 : Int32)), (.ref a2), (.int (0 : Int32)), (.int (3 : Int32))] 7) = S0 at k0 ⊢
  have k1 : Way p e below S0 s₁ (mkF m 12 #[rv a1, iv (0 : Int32), rv a2, iv (0 : Int32), iv (3 : Int32), iv (0 : Int32), .unset] [(.int (0 : Int32)), (.ref a1)]) := by
    intro t k
    refine k0 t ?_
    refine XS.iconst X0.here hx rfl (hb hby d_jdk_52_method_21_code_0) ?_
    show Steps p.tables e below (s₁.setTop (mkF m 1 #[rv a1, iv (0 : Int32), rv a2, iv (0 : Int32), iv (3 : Int32), .unset, .unset] [(.int (0 : Int32))])) _
    refine XS.istore X0.here hx rfl (hb hby d_jdk_52_method_21_code_1) rfl (l' := #[rv a1, iv (0 : Int32), rv a2, iv (0 : Int32), iv (3 : Int32), iv (0 : Int32), .unset]) rfl ?_
    show Steps p.tables e below (s₁.setTop (mkF m 3 #[rv a1, iv (0 : Int32), rv a2, iv (0 : Int32), iv (3 : Int32), iv (0 : Int32), .unset] [])) _
    refine XS.iload X0.here hx rfl (hb hby d_jdk_52_method_21_code_3) rfl ?_
    show Steps p.tables e below (s₁.setTop (mkF m 5 #[rv a1, iv (0 : Int32), rv a2, iv (0 : Int32), iv (3 : Int32), iv (0 : Int32), .unset] [(.int (0 : Int32))])) _
    refine XS.iload X0.here hx rfl (hb hby d_jdk_52_method_21_code_5) rfl ?_
    show Steps p.tables e below (s₁.setTop (mkF m 7 #[rv a1, iv (0 : Int32), rv a2, iv (0 : Int32), iv (3 : Int32), iv (0 : Int32), .unset] [(.int (3 : Int32)), (.int (0 : Int32))])) _
    refine XS.icmpNo X0.here hx rfl (hb hby d_jdk_52_method_21_code_7) rfl (tlt ((by decide) : (0 : Int32) < (3 : Int32))).2.1 ?_
    show Steps p.tables e below (s₁.setTop (mkF m 10 #[rv a1, iv (0 : Int32), rv a2, iv (0 : Int32), iv (3 : Int32), iv (0 : Int32), .unset] [])) _
    refine XS.aloadN X0.here hx rfl (hb hby d_jdk_52_method_21_code_10) rfl rfl ?_
    show Steps p.tables e below (s₁.setTop (mkF m 11 #[rv a1, iv (0 : Int32), rv a2, iv (0 : Int32), iv (3 : Int32), iv (0 : Int32), .unset] [(.ref a1)])) _
    refine XS.iloadN X0.here hx rfl (hb hby d_jdk_52_method_21_code_11) rfl ?_
    show Steps p.tables e below (s₁.setTop (mkF m 12 #[rv a1, iv (0 : Int32), rv a2, iv (0 : Int32), iv (3 : Int32), iv (0 : Int32), .unset] [(.int (0 : Int32)), (.ref a1)])) _
    exact k
  obtain ⟨cl2, Ar2, qc2, S2, M2, U2, G2⟩ := id (a_0)
  have hin2 : ¬ ((0 : Int32) < 0 ∨ cl2.slots.size ≤ ((0 : Int32)).toNatClampNeg) := inb_of S2 ⟨by decide, by decide⟩
  have hat2 : cl2.slots[((0 : Int32)).toNatClampNeg]? = some (.int q0) := Has.at U2 hin2 rfl
  have k3 : Way p e below S0 s₁ (mkF m 13 #[rv a1, iv (0 : Int32), rv a2, iv (0 : Int32), iv (3 : Int32), iv (0 : Int32), .unset] [(.int q0)]) := fun t k => k1 t (X0.caload hx (j := (0 : Int32)) (v := (.int q0)) (by rw [e0]; exact Ar2.1) (State.isArrayOf_alike hZ.alike Ar2.2.1) Ar2.2.2 hin2 hat2 (g := (mkF m 12 #[rv a1, iv (0 : Int32), rv a2, iv (0 : Int32), iv (3 : Int32), iv (0 : Int32), .unset] [(.int (0 : Int32)), (.ref a1)])) rfl rfl (hb hby d_jdk_52_method_21_code_12) _ k)
  have k4 : Way p e below S0 s₁ (mkF m 31 #[rv a1, iv (0 : Int32), rv a2, iv (0 : Int32), iv (3 : Int32), iv (0 : Int32), iv q0] [(.int (q0.toInt8.toInt32)), (.int (0 : Int32)), (.ref a2)]) := by
    intro t k
    refine k3 t ?_
    refine XS.istore X0.here hx rfl (hb hby d_jdk_52_method_21_code_13) rfl (l' := #[rv a1, iv (0 : Int32), rv a2, iv (0 : Int32), iv (3 : Int32), iv (0 : Int32), iv q0]) rfl ?_
    show Steps p.tables e below (s₁.setTop (mkF m 15 #[rv a1, iv (0 : Int32), rv a2, iv (0 : Int32), iv (3 : Int32), iv (0 : Int32), iv q0] [])) _
    refine XS.iload X0.here hx rfl (hb hby d_jdk_52_method_21_code_15) rfl ?_
    show Steps p.tables e below (s₁.setTop (mkF m 17 #[rv a1, iv (0 : Int32), rv a2, iv (0 : Int32), iv (3 : Int32), iv (0 : Int32), iv q0] [(.int q0)])) _
    refine XS.sipush X0.here hx rfl (hb hby d_jdk_52_method_21_code_17) ?_
    show Steps p.tables e below (s₁.setTop (mkF m 20 #[rv a1, iv (0 : Int32), rv a2, iv (0 : Int32), iv (3 : Int32), iv (0 : Int32), iv q0] [(.int (255 : Int32)), (.int q0)])) _
    refine XS.icmpYes X0.here hx rfl (pc0 := 20) (pc' := 26) rfl (hb hby d_jdk_52_method_21_code_20) rfl (flt (hq0 : ¬ ((255 : Int32) < q0))).2.2.2 (by decide) (by decide) ?_
    show Steps p.tables e below (s₁.setTop (mkF m 26 #[rv a1, iv (0 : Int32), rv a2, iv (0 : Int32), iv (3 : Int32), iv (0 : Int32), iv q0] [])) _
    refine XS.aloadN X0.here hx rfl (hb hby d_jdk_52_method_21_code_26) rfl rfl ?_
    show Steps p.tables e below (s₁.setTop (mkF m 27 #[rv a1, iv (0 : Int32), rv a2, iv (0 : Int32), iv (3 : Int32), iv (0 : Int32), iv q0] [(.ref a2)])) _
    refine XS.iloadN X0.here hx rfl (hb hby d_jdk_52_method_21_code_27) rfl ?_
    show Steps p.tables e below (s₁.setTop (mkF m 28 #[rv a1, iv (0 : Int32), rv a2, iv (0 : Int32), iv (3 : Int32), iv (0 : Int32), iv q0] [(.int (0 : Int32)), (.ref a2)])) _
    refine XS.iload X0.here hx rfl (hb hby d_jdk_52_method_21_code_28) rfl ?_
    show Steps p.tables e below (s₁.setTop (mkF m 30 #[rv a1, iv (0 : Int32), rv a2, iv (0 : Int32), iv (3 : Int32), iv (0 : Int32), iv q0] [(.int q0), (.int (0 : Int32)), (.ref a2)])) _
    refine XS.i2b X0.here hx rfl (hb hby d_jdk_52_method_21_code_30) rfl ?_
    show Steps p.tables e below (s₁.setTop (mkF m 31 #[rv a1, iv (0 : Int32), rv a2, iv (0 : Int32), iv (3 : Int32), iv (0 : Int32), iv q0] [(.int (q0.toInt8.toInt32)), (.int (0 : Int32)), (.ref a2)])) _
    exact k
  obtain ⟨cl5, Ar5, qc5, S5, M5, U5, G5⟩ := id (a_1)
  have hin5 : ¬ ((0 : Int32) < 0 ∨ cl5.slots.size ≤ ((0 : Int32)).toNatClampNeg) := inb_of S5 ⟨by decide, by decide⟩
  obtain ⟨T5, h5, X5, e5, W5, st5⟩ := stB X0 hx hZ e0 Ar5 (j := (0 : Int32)) hin5 (g := (mkF m 31 #[rv a1, iv (0 : Int32), rv a2, iv (0 : Int32), iv (3 : Int32), iv (0 : Int32), iv q0] [(.int (q0.toInt8.toInt32)), (.int (0 : Int32)), (.ref a2)])) rfl rfl (hb hby d_jdk_52_method_21_code_31)
  have O5 := O0.wr W5 ga2
  have N5 := Fr.snoc X5 N0 ga2
  have K5 : Keep h0 h5 [a2] := (Keep.refl h0 [a2]).wr W5 (Or.inl (List.mem_of_getElem? (i := 0) rfl))
  have va5 : Arv Z h5 a2 kb .byte (3 : Int32) [(.int ((q0.toInt8.toInt32).toInt8.toInt32)), (.int (0 : Int32)), (.int (0 : Int32))] (.int (0 : Int32)) := Arv.set Ar5 qc5 S5 M5 U5 G5 (fits_nar_byte _) W5 0 rfl (Nat.le_of_ble_eq_true rfl)
  have k6 : Way p e below S0 T5 (mkF m 32 #[rv a1, iv (0 : Int32), rv a2, iv (0 : Int32), iv (3 : Int32), iv (0 : Int32), iv q0] []) := fun t k => k4 t (st5 _ k)
  have k7 : Way p e below S0 T5 (mkF m 12 #[rv a1, iv (1 : Int32), rv a2, iv (1 : Int32), iv (3 : Int32), iv (1 : Int32), iv q0] [(.int (1 : Int32)), (.ref a1)]) := by
    intro t k
    refine k6 t ?_
    refine XS.iinc X5.here hx rfl (hb hby d_jdk_52_method_21_code_32) rfl (l' := #[rv a1, iv (1 : Int32), rv a2, iv (0 : Int32), iv (3 : Int32), iv (0 : Int32), iv q0]) rfl ?_
    show Steps p.tables e below (T5.setTop (mkF m 35 #[rv a1, iv (1 : Int32), rv a2, iv (0 : Int32), iv (3 : Int32), iv (0 : Int32), iv q0] [])) _
    refine XS.iinc X5.here hx rfl (hb hby d_jdk_52_method_21_code_35) rfl (l' := #[rv a1, iv (1 : Int32), rv a2, iv (1 : Int32), iv (3 : Int32), iv (0 : Int32), iv q0]) rfl ?_
    show Steps p.tables e below (T5.setTop (mkF m 38 #[rv a1, iv (1 : Int32), rv a2, iv (1 : Int32), iv (3 : Int32), iv (0 : Int32), iv q0] [])) _
    refine XS.iinc X5.here hx rfl (hb hby d_jdk_52_method_21_code_38) rfl (l' := #[rv a1, iv (1 : Int32), rv a2, iv (1 : Int32), iv (3 : Int32), iv (1 : Int32), iv q0]) rfl ?_
    show Steps p.tables e below (T5.setTop (mkF m 41 #[rv a1, iv (1 : Int32), rv a2, iv (1 : Int32), iv (3 : Int32), iv (1 : Int32), iv q0] [])) _
    refine XS.goto X5.here hx rfl (pc0 := 41) (pc' := 3) rfl (hb hby d_jdk_52_method_21_code_41) (by decide) (by decide) ?_
    show Steps p.tables e below (T5.setTop (mkF m 3 #[rv a1, iv (1 : Int32), rv a2, iv (1 : Int32), iv (3 : Int32), iv (1 : Int32), iv q0] [])) _
    refine XS.iload X5.here hx rfl (hb hby d_jdk_52_method_21_code_3) rfl ?_
    show Steps p.tables e below (T5.setTop (mkF m 5 #[rv a1, iv (1 : Int32), rv a2, iv (1 : Int32), iv (3 : Int32), iv (1 : Int32), iv q0] [(.int (1 : Int32))])) _
    refine XS.iload X5.here hx rfl (hb hby d_jdk_52_method_21_code_5) rfl ?_
    show Steps p.tables e below (T5.setTop (mkF m 7 #[rv a1, iv (1 : Int32), rv a2, iv (1 : Int32), iv (3 : Int32), iv (1 : Int32), iv q0] [(.int (3 : Int32)), (.int (1 : Int32))])) _
    refine XS.icmpNo X5.here hx rfl (hb hby d_jdk_52_method_21_code_7) rfl (tlt ((by decide) : (1 : Int32) < (3 : Int32))).2.1 ?_
    show Steps p.tables e below (T5.setTop (mkF m 10 #[rv a1, iv (1 : Int32), rv a2, iv (1 : Int32), iv (3 : Int32), iv (1 : Int32), iv q0] [])) _
    refine XS.aloadN X5.here hx rfl (hb hby d_jdk_52_method_21_code_10) rfl rfl ?_
    show Steps p.tables e below (T5.setTop (mkF m 11 #[rv a1, iv (1 : Int32), rv a2, iv (1 : Int32), iv (3 : Int32), iv (1 : Int32), iv q0] [(.ref a1)])) _
    refine XS.iloadN X5.here hx rfl (hb hby d_jdk_52_method_21_code_11) rfl ?_
    show Steps p.tables e below (T5.setTop (mkF m 12 #[rv a1, iv (1 : Int32), rv a2, iv (1 : Int32), iv (3 : Int32), iv (1 : Int32), iv q0] [(.int (1 : Int32)), (.ref a1)])) _
    exact k
  have f8 : Arv Z h5 a1 kc .char (3 : Int32) [(.int q0), (.int q1), (.int q2)] (.int (0 : Int32)) := (a_0.other W5 hne)
  obtain ⟨cl9, Ar9, qc9, S9, M9, U9, G9⟩ := id (f8)
  have hin9 : ¬ ((1 : Int32) < 0 ∨ cl9.slots.size ≤ ((1 : Int32)).toNatClampNeg) := inb_of S9 ⟨by decide, by decide⟩
  have hat9 : cl9.slots[((1 : Int32)).toNatClampNeg]? = some (.int q1) := Has.at U9 hin9 rfl
  have k10 : Way p e below S0 T5 (mkF m 13 #[rv a1, iv (1 : Int32), rv a2, iv (1 : Int32), iv (3 : Int32), iv (1 : Int32), iv q0] [(.int q1)]) := fun t k => k7 t (X5.caload hx (j := (1 : Int32)) (v := (.int q1)) (by rw [e5]; exact Ar9.1) (State.isArrayOf_alike hZ.alike Ar9.2.1) Ar9.2.2 hin9 hat9 (g := (mkF m 12 #[rv a1, iv (1 : Int32), rv a2, iv (1 : Int32), iv (3 : Int32), iv (1 : Int32), iv q0] [(.int (1 : Int32)), (.ref a1)])) rfl rfl (hb hby d_jdk_52_method_21_code_12) _ k)
  have k11 : Way p e below S0 T5 (mkF m 31 #[rv a1, iv (1 : Int32), rv a2, iv (1 : Int32), iv (3 : Int32), iv (1 : Int32), iv q1] [(.int (q1.toInt8.toInt32)), (.int (1 : Int32)), (.ref a2)]) := by
    intro t k
    refine k10 t ?_
    refine XS.istore X5.here hx rfl (hb hby d_jdk_52_method_21_code_13) rfl (l' := #[rv a1, iv (1 : Int32), rv a2, iv (1 : Int32), iv (3 : Int32), iv (1 : Int32), iv q1]) rfl ?_
    show Steps p.tables e below (T5.setTop (mkF m 15 #[rv a1, iv (1 : Int32), rv a2, iv (1 : Int32), iv (3 : Int32), iv (1 : Int32), iv q1] [])) _
    refine XS.iload X5.here hx rfl (hb hby d_jdk_52_method_21_code_15) rfl ?_
    show Steps p.tables e below (T5.setTop (mkF m 17 #[rv a1, iv (1 : Int32), rv a2, iv (1 : Int32), iv (3 : Int32), iv (1 : Int32), iv q1] [(.int q1)])) _
    refine XS.sipush X5.here hx rfl (hb hby d_jdk_52_method_21_code_17) ?_
    show Steps p.tables e below (T5.setTop (mkF m 20 #[rv a1, iv (1 : Int32), rv a2, iv (1 : Int32), iv (3 : Int32), iv (1 : Int32), iv q1] [(.int (255 : Int32)), (.int q1)])) _
    refine XS.icmpYes X5.here hx rfl (pc0 := 20) (pc' := 26) rfl (hb hby d_jdk_52_method_21_code_20) rfl (flt (hq1 : ¬ ((255 : Int32) < q1))).2.2.2 (by decide) (by decide) ?_
    show Steps p.tables e below (T5.setTop (mkF m 26 #[rv a1, iv (1 : Int32), rv a2, iv (1 : Int32), iv (3 : Int32), iv (1 : Int32), iv q1] [])) _
    refine XS.aloadN X5.here hx rfl (hb hby d_jdk_52_method_21_code_26) rfl rfl ?_
    show Steps p.tables e below (T5.setTop (mkF m 27 #[rv a1, iv (1 : Int32), rv a2, iv (1 : Int32), iv (3 : Int32), iv (1 : Int32), iv q1] [(.ref a2)])) _
    refine XS.iloadN X5.here hx rfl (hb hby d_jdk_52_method_21_code_27) rfl ?_
    show Steps p.tables e below (T5.setTop (mkF m 28 #[rv a1, iv (1 : Int32), rv a2, iv (1 : Int32), iv (3 : Int32), iv (1 : Int32), iv q1] [(.int (1 : Int32)), (.ref a2)])) _
    refine XS.iload X5.here hx rfl (hb hby d_jdk_52_method_21_code_28) rfl ?_
    show Steps p.tables e below (T5.setTop (mkF m 30 #[rv a1, iv (1 : Int32), rv a2, iv (1 : Int32), iv (3 : Int32), iv (1 : Int32), iv q1] [(.int q1), (.int (1 : Int32)), (.ref a2)])) _
    refine XS.i2b X5.here hx rfl (hb hby d_jdk_52_method_21_code_30) rfl ?_
    show Steps p.tables e below (T5.setTop (mkF m 31 #[rv a1, iv (1 : Int32), rv a2, iv (1 : Int32), iv (3 : Int32), iv (1 : Int32), iv q1] [(.int (q1.toInt8.toInt32)), (.int (1 : Int32)), (.ref a2)])) _
    exact k
  obtain ⟨cl12, Ar12, qc12, S12, M12, U12, G12⟩ := id (va5)
  have hin12 : ¬ ((1 : Int32) < 0 ∨ cl12.slots.size ≤ ((1 : Int32)).toNatClampNeg) := inb_of S12 ⟨by decide, by decide⟩
  obtain ⟨T12, h12, X12, e12, W12, st12⟩ := stB X5 hx hZ e5 Ar12 (j := (1 : Int32)) hin12 (g := (mkF m 31 #[rv a1, iv (1 : Int32), rv a2, iv (1 : Int32), iv (3 : Int32), iv (1 : Int32), iv q1] [(.int (q1.toInt8.toInt32)), (.int (1 : Int32)), (.ref a2)])) rfl rfl (hb hby d_jdk_52_method_21_code_31)
  have O12 := O5.wr W12 ga2
  have N12 := Fr.snoc X12 N5 ga2
  have K12 : Keep h0 h12 [a2] := K5.wr W12 (Or.inl (List.mem_of_getElem? (i := 0) rfl))
  have va12 : Arv Z h12 a2 kb .byte (3 : Int32) [(.int ((q0.toInt8.toInt32).toInt8.toInt32)), (.int ((q1.toInt8.toInt32).toInt8.toInt32)), (.int (0 : Int32))] (.int (0 : Int32)) := Arv.set Ar12 qc12 S12 M12 U12 G12 (fits_nar_byte _) W12 1 rfl (Nat.le_of_ble_eq_true rfl)
  have k13 : Way p e below S0 T12 (mkF m 32 #[rv a1, iv (1 : Int32), rv a2, iv (1 : Int32), iv (3 : Int32), iv (1 : Int32), iv q1] []) := fun t k => k11 t (st12 _ k)
  have k14 : Way p e below S0 T12 (mkF m 12 #[rv a1, iv (2 : Int32), rv a2, iv (2 : Int32), iv (3 : Int32), iv (2 : Int32), iv q1] [(.int (2 : Int32)), (.ref a1)]) := by
    intro t k
    refine k13 t ?_
    refine XS.iinc X12.here hx rfl (hb hby d_jdk_52_method_21_code_32) rfl (l' := #[rv a1, iv (2 : Int32), rv a2, iv (1 : Int32), iv (3 : Int32), iv (1 : Int32), iv q1]) rfl ?_
    show Steps p.tables e below (T12.setTop (mkF m 35 #[rv a1, iv (2 : Int32), rv a2, iv (1 : Int32), iv (3 : Int32), iv (1 : Int32), iv q1] [])) _
    refine XS.iinc X12.here hx rfl (hb hby d_jdk_52_method_21_code_35) rfl (l' := #[rv a1, iv (2 : Int32), rv a2, iv (2 : Int32), iv (3 : Int32), iv (1 : Int32), iv q1]) rfl ?_
    show Steps p.tables e below (T12.setTop (mkF m 38 #[rv a1, iv (2 : Int32), rv a2, iv (2 : Int32), iv (3 : Int32), iv (1 : Int32), iv q1] [])) _
    refine XS.iinc X12.here hx rfl (hb hby d_jdk_52_method_21_code_38) rfl (l' := #[rv a1, iv (2 : Int32), rv a2, iv (2 : Int32), iv (3 : Int32), iv (2 : Int32), iv q1]) rfl ?_
    show Steps p.tables e below (T12.setTop (mkF m 41 #[rv a1, iv (2 : Int32), rv a2, iv (2 : Int32), iv (3 : Int32), iv (2 : Int32), iv q1] [])) _
    refine XS.goto X12.here hx rfl (pc0 := 41) (pc' := 3) rfl (hb hby d_jdk_52_method_21_code_41) (by decide) (by decide) ?_
    show Steps p.tables e below (T12.setTop (mkF m 3 #[rv a1, iv (2 : Int32), rv a2, iv (2 : Int32), iv (3 : Int32), iv (2 : Int32), iv q1] [])) _
    refine XS.iload X12.here hx rfl (hb hby d_jdk_52_method_21_code_3) rfl ?_
    show Steps p.tables e below (T12.setTop (mkF m 5 #[rv a1, iv (2 : Int32), rv a2, iv (2 : Int32), iv (3 : Int32), iv (2 : Int32), iv q1] [(.int (2 : Int32))])) _
    refine XS.iload X12.here hx rfl (hb hby d_jdk_52_method_21_code_5) rfl ?_
    show Steps p.tables e below (T12.setTop (mkF m 7 #[rv a1, iv (2 : Int32), rv a2, iv (2 : Int32), iv (3 : Int32), iv (2 : Int32), iv q1] [(.int (3 : Int32)), (.int (2 : Int32))])) _
    refine XS.icmpNo X12.here hx rfl (hb hby d_jdk_52_method_21_code_7) rfl (tlt ((by decide) : (2 : Int32) < (3 : Int32))).2.1 ?_
    show Steps p.tables e below (T12.setTop (mkF m 10 #[rv a1, iv (2 : Int32), rv a2, iv (2 : Int32), iv (3 : Int32), iv (2 : Int32), iv q1] [])) _
    refine XS.aloadN X12.here hx rfl (hb hby d_jdk_52_method_21_code_10) rfl rfl ?_
    show Steps p.tables e below (T12.setTop (mkF m 11 #[rv a1, iv (2 : Int32), rv a2, iv (2 : Int32), iv (3 : Int32), iv (2 : Int32), iv q1] [(.ref a1)])) _
    refine XS.iloadN X12.here hx rfl (hb hby d_jdk_52_method_21_code_11) rfl ?_
    show Steps p.tables e below (T12.setTop (mkF m 12 #[rv a1, iv (2 : Int32), rv a2, iv (2 : Int32), iv (3 : Int32), iv (2 : Int32), iv q1] [(.int (2 : Int32)), (.ref a1)])) _
    exact k
  have f15 : Arv Z h12 a1 kc .char (3 : Int32) [(.int q0), (.int q1), (.int q2)] (.int (0 : Int32)) := (f8.other W12 hne)
  obtain ⟨cl16, Ar16, qc16, S16, M16, U16, G16⟩ := id (f15)
  have hin16 : ¬ ((2 : Int32) < 0 ∨ cl16.slots.size ≤ ((2 : Int32)).toNatClampNeg) := inb_of S16 ⟨by decide, by decide⟩
  have hat16 : cl16.slots[((2 : Int32)).toNatClampNeg]? = some (.int q2) := Has.at U16 hin16 rfl
  have k17 : Way p e below S0 T12 (mkF m 13 #[rv a1, iv (2 : Int32), rv a2, iv (2 : Int32), iv (3 : Int32), iv (2 : Int32), iv q1] [(.int q2)]) := fun t k => k14 t (X12.caload hx (j := (2 : Int32)) (v := (.int q2)) (by rw [e12]; exact Ar16.1) (State.isArrayOf_alike hZ.alike Ar16.2.1) Ar16.2.2 hin16 hat16 (g := (mkF m 12 #[rv a1, iv (2 : Int32), rv a2, iv (2 : Int32), iv (3 : Int32), iv (2 : Int32), iv q1] [(.int (2 : Int32)), (.ref a1)])) rfl rfl (hb hby d_jdk_52_method_21_code_12) _ k)
  have k18 : Way p e below S0 T12 (mkF m 31 #[rv a1, iv (2 : Int32), rv a2, iv (2 : Int32), iv (3 : Int32), iv (2 : Int32), iv q2] [(.int (q2.toInt8.toInt32)), (.int (2 : Int32)), (.ref a2)]) := by
    intro t k
    refine k17 t ?_
    refine XS.istore X12.here hx rfl (hb hby d_jdk_52_method_21_code_13) rfl (l' := #[rv a1, iv (2 : Int32), rv a2, iv (2 : Int32), iv (3 : Int32), iv (2 : Int32), iv q2]) rfl ?_
    show Steps p.tables e below (T12.setTop (mkF m 15 #[rv a1, iv (2 : Int32), rv a2, iv (2 : Int32), iv (3 : Int32), iv (2 : Int32), iv q2] [])) _
    refine XS.iload X12.here hx rfl (hb hby d_jdk_52_method_21_code_15) rfl ?_
    show Steps p.tables e below (T12.setTop (mkF m 17 #[rv a1, iv (2 : Int32), rv a2, iv (2 : Int32), iv (3 : Int32), iv (2 : Int32), iv q2] [(.int q2)])) _
    refine XS.sipush X12.here hx rfl (hb hby d_jdk_52_method_21_code_17) ?_
    show Steps p.tables e below (T12.setTop (mkF m 20 #[rv a1, iv (2 : Int32), rv a2, iv (2 : Int32), iv (3 : Int32), iv (2 : Int32), iv q2] [(.int (255 : Int32)), (.int q2)])) _
    refine XS.icmpYes X12.here hx rfl (pc0 := 20) (pc' := 26) rfl (hb hby d_jdk_52_method_21_code_20) rfl (flt (hq2 : ¬ ((255 : Int32) < q2))).2.2.2 (by decide) (by decide) ?_
    show Steps p.tables e below (T12.setTop (mkF m 26 #[rv a1, iv (2 : Int32), rv a2, iv (2 : Int32), iv (3 : Int32), iv (2 : Int32), iv q2] [])) _
    refine XS.aloadN X12.here hx rfl (hb hby d_jdk_52_method_21_code_26) rfl rfl ?_
    show Steps p.tables e below (T12.setTop (mkF m 27 #[rv a1, iv (2 : Int32), rv a2, iv (2 : Int32), iv (3 : Int32), iv (2 : Int32), iv q2] [(.ref a2)])) _
    refine XS.iloadN X12.here hx rfl (hb hby d_jdk_52_method_21_code_27) rfl ?_
    show Steps p.tables e below (T12.setTop (mkF m 28 #[rv a1, iv (2 : Int32), rv a2, iv (2 : Int32), iv (3 : Int32), iv (2 : Int32), iv q2] [(.int (2 : Int32)), (.ref a2)])) _
    refine XS.iload X12.here hx rfl (hb hby d_jdk_52_method_21_code_28) rfl ?_
    show Steps p.tables e below (T12.setTop (mkF m 30 #[rv a1, iv (2 : Int32), rv a2, iv (2 : Int32), iv (3 : Int32), iv (2 : Int32), iv q2] [(.int q2), (.int (2 : Int32)), (.ref a2)])) _
    refine XS.i2b X12.here hx rfl (hb hby d_jdk_52_method_21_code_30) rfl ?_
    show Steps p.tables e below (T12.setTop (mkF m 31 #[rv a1, iv (2 : Int32), rv a2, iv (2 : Int32), iv (3 : Int32), iv (2 : Int32), iv q2] [(.int (q2.toInt8.toInt32)), (.int (2 : Int32)), (.ref a2)])) _
    exact k
  obtain ⟨cl19, Ar19, qc19, S19, M19, U19, G19⟩ := id (va12)
  have hin19 : ¬ ((2 : Int32) < 0 ∨ cl19.slots.size ≤ ((2 : Int32)).toNatClampNeg) := inb_of S19 ⟨by decide, by decide⟩
  obtain ⟨T19, h19, X19, e19, W19, st19⟩ := stB X12 hx hZ e12 Ar19 (j := (2 : Int32)) hin19 (g := (mkF m 31 #[rv a1, iv (2 : Int32), rv a2, iv (2 : Int32), iv (3 : Int32), iv (2 : Int32), iv q2] [(.int (q2.toInt8.toInt32)), (.int (2 : Int32)), (.ref a2)])) rfl rfl (hb hby d_jdk_52_method_21_code_31)
  have O19 := O12.wr W19 ga2
  have N19 := Fr.snoc X19 N12 ga2
  have K19 : Keep h0 h19 [a2] := K12.wr W19 (Or.inl (List.mem_of_getElem? (i := 0) rfl))
  have va19 : Arv Z h19 a2 kb .byte (3 : Int32) [(.int ((q0.toInt8.toInt32).toInt8.toInt32)), (.int ((q1.toInt8.toInt32).toInt8.toInt32)), (.int ((q2.toInt8.toInt32).toInt8.toInt32))] (.int (0 : Int32)) := Arv.set Ar19 qc19 S19 M19 U19 G19 (fits_nar_byte _) W19 2 rfl (Nat.le_of_ble_eq_true rfl)
  have k20 : Way p e below S0 T19 (mkF m 32 #[rv a1, iv (2 : Int32), rv a2, iv (2 : Int32), iv (3 : Int32), iv (2 : Int32), iv q2] []) := fun t k => k18 t (st19 _ k)
  have k21 : Way p e below S0 T19 (mkF m 46 #[rv a1, iv (3 : Int32), rv a2, iv (3 : Int32), iv (3 : Int32), iv (3 : Int32), iv q2] [(.int (3 : Int32))]) := by
    intro t k
    refine k20 t ?_
    refine XS.iinc X19.here hx rfl (hb hby d_jdk_52_method_21_code_32) rfl (l' := #[rv a1, iv (3 : Int32), rv a2, iv (2 : Int32), iv (3 : Int32), iv (2 : Int32), iv q2]) rfl ?_
    show Steps p.tables e below (T19.setTop (mkF m 35 #[rv a1, iv (3 : Int32), rv a2, iv (2 : Int32), iv (3 : Int32), iv (2 : Int32), iv q2] [])) _
    refine XS.iinc X19.here hx rfl (hb hby d_jdk_52_method_21_code_35) rfl (l' := #[rv a1, iv (3 : Int32), rv a2, iv (3 : Int32), iv (3 : Int32), iv (2 : Int32), iv q2]) rfl ?_
    show Steps p.tables e below (T19.setTop (mkF m 38 #[rv a1, iv (3 : Int32), rv a2, iv (3 : Int32), iv (3 : Int32), iv (2 : Int32), iv q2] [])) _
    refine XS.iinc X19.here hx rfl (hb hby d_jdk_52_method_21_code_38) rfl (l' := #[rv a1, iv (3 : Int32), rv a2, iv (3 : Int32), iv (3 : Int32), iv (3 : Int32), iv q2]) rfl ?_
    show Steps p.tables e below (T19.setTop (mkF m 41 #[rv a1, iv (3 : Int32), rv a2, iv (3 : Int32), iv (3 : Int32), iv (3 : Int32), iv q2] [])) _
    refine XS.goto X19.here hx rfl (pc0 := 41) (pc' := 3) rfl (hb hby d_jdk_52_method_21_code_41) (by decide) (by decide) ?_
    show Steps p.tables e below (T19.setTop (mkF m 3 #[rv a1, iv (3 : Int32), rv a2, iv (3 : Int32), iv (3 : Int32), iv (3 : Int32), iv q2] [])) _
    refine XS.iload X19.here hx rfl (hb hby d_jdk_52_method_21_code_3) rfl ?_
    show Steps p.tables e below (T19.setTop (mkF m 5 #[rv a1, iv (3 : Int32), rv a2, iv (3 : Int32), iv (3 : Int32), iv (3 : Int32), iv q2] [(.int (3 : Int32))])) _
    refine XS.iload X19.here hx rfl (hb hby d_jdk_52_method_21_code_5) rfl ?_
    show Steps p.tables e below (T19.setTop (mkF m 7 #[rv a1, iv (3 : Int32), rv a2, iv (3 : Int32), iv (3 : Int32), iv (3 : Int32), iv q2] [(.int (3 : Int32)), (.int (3 : Int32))])) _
    refine XS.icmpYes X19.here hx rfl (pc0 := 7) (pc' := 44) rfl (hb hby d_jdk_52_method_21_code_7) rfl (flt ((by decide) : ¬ ((3 : Int32) < (3 : Int32)))).2.1 (by decide) (by decide) ?_
    show Steps p.tables e below (T19.setTop (mkF m 44 #[rv a1, iv (3 : Int32), rv a2, iv (3 : Int32), iv (3 : Int32), iv (3 : Int32), iv q2] [])) _
    refine XS.iload X19.here hx rfl (hb hby d_jdk_52_method_21_code_44) rfl ?_
    show Steps p.tables e below (T19.setTop (mkF m 46 #[rv a1, iv (3 : Int32), rv a2, iv (3 : Int32), iv (3 : Int32), iv (3 : Int32), iv q2] [(.int (3 : Int32))])) _
    exact k
  obtain ⟨fs, hr, hrun, hended, hW, hsame⟩ := X19.leave (v := some (.int (3 : Int32))) (fun h => by rw [Bd.returns] at h; cases h)
  refine ⟨_, _, k21 _ (retOut X19 hx Bd.returns rfl (Or.inl ⟨rfl, Or.inl rfl, _, rfl⟩) (hb hby d_jdk_52_method_21_code_46) hr), hrun, hended, _, _, rfl, ?_, ⟨_, rfl⟩, hW, hsame.mono (by decide) (by decide)⟩
  show Q_scomp1_3 Z w_EAST w_WEST wCS a1 a2 kc kb q0 q1 q2 h0 n0 _ T19.heap _
  rw [e19]
  exact ⟨rfl, N19, K19, va19⟩
def Q_scomp_3 (Z : State) (w_EAST : Addr) (w_WEST : Addr) (wCS : Int32) (a1 : Addr) (kc : ClassId) (q0 : Int32) (q1 : Int32) (q2 : Int32) (h0 : Heap) (n0 : Nat) (v : Option Value) (h : Heap) (L : List Loc) : Prop := ∃ b1 : Addr, ∃ kb : ClassId, (v = some (.ref b1)) ∧ (Fr n0 L) ∧ (Keep h0 h []) ∧ (h0.size ≤ b1) ∧ (Arv Z h b1 kb .byte (3 : Int32) [(.int ((q0.toInt8.toInt32).toInt8.toInt32)), (.int ((q1.toInt8.toInt32).toInt8.toInt32)), (.int ((q2.toInt8.toInt32).toInt8.toInt32))] (.int (0 : Int32))) ∧ (Exa Z h b1 "[B")
set_option maxRecDepth 65536 in
set_option maxHeartbeats 40000000 in
theorem scomp_3 (l : Launch) (Z : State) (a0 : Array Value) (hw : ∀ d ∈ tables_1, d.before a0 Z = true) (ws : List Jvm.Cond) (w_EAST : Addr) (w_WEST : Addr) (wCS : Int32) (G : Gst Z w_EAST w_WEST wCS) (a1 : Addr) (kc : ClassId) (q0 : Int32) (q1 : Int32) (q2 : Int32) (h0 : Heap) (n0 : Nat) (O0 : Old Z n0 h0) (a_0 : Arv Z h0 a1 kc .char (3 : Int32) [(.int q0), (.int q1), (.int q2)] (.int (0 : Int32))) (hq0 : ¬ ((255 : Int32) < q0)) (hq1 : ¬ ((255 : Int32) < q1)) (hq2 : ¬ ((255 : Int32) < q2)) :
    MetFree l (⟨"java/lang/StringUTF16", "compress", "([CII)[B"⟩ : MethodName) (head1 (Jvm.Cond.code (⟨"java/lang/StringUTF16", "compress", "([CII)[B"⟩ : MethodName) jdk_52_method_16_code 6 (some (.array .byte)) :: ws) ({ frames := 1, cells := 1, slots := 3, locals := 18 } : Room)) (fun a U => a = #[(.ref a1), (.int (0 : Int32)), (.int (3 : Int32))] ∧ Z.Warmed39 U.vm ∧ U.heap = h0) (fun _ _ _ _ _ => True) (fun _ U o U' => ∃ v L, o = .returned v ∧ Q_scomp_3 Z w_EAST w_WEST wCS a1 kc q0 q1 q2 h0 n0 v U'.heap L ∧ FrameEnd U o U' L ({ frames := 1, cells := 1, slots := 3, locals := 18 } : Room).cells ({ frames := 1, cells := 1, slots := 3, locals := 18 } : Room).slots) := by
  refine MetFree.of_bodySF (plainFor_of_name pn_0) hisR ?_
  intro p e s m args below meth c s₁ Bd hml0 hP hK
  obtain ⟨rfl, hZ, hh⟩ := hP
  have hx := Bd.exec
  have hby := Bd.bytes
  have hml : c.maxLocals = 6 := hml0
  have hown : s.vm.findClass "java/lang/StringUTF16" = some m.cls := findClass_of_methodNamed Bd.named
  have hnm := (name_of_methodNamed Bd.named Bd.method).1
  have X0 : Stand p l e ({ frames := 1, cells := 1, slots := 3, locals := 18 } : Room) s m #[(.ref a1), (.int (0 : Int32)), (.int (3 : Int32))] below meth c s₁ [] 0 0 := Stand.of_body Bd
  have e0 : s₁.heap = h0 := by rw [← hh, Bd.state]; rfl
  have N0 := Fr.nil n0
  obtain ⟨S_w_EAST, E_w_EAST, F_w_EAST_ordinal, S_w_WEST, E_w_WEST, F_w_WEST_ordinal, S_CS, hCS⟩ := id G
  have k0 : Way p e below (s₁.setTop (entryFrame m #[(.ref a1), (.int (0 : Int32)), (.int (3 : Int32))] 6)) s₁ (mkF m 0 #[rv a1, iv (0 : Int32), iv (3 : Int32), .unset, .unset, .unset] []) := fun t k => castTop (by first | (simp [entryFrame, mkF, argsToLocals, Value.category]; done) | rfl) k
  generalize s₁.setTop (entryFrame m #[(.ref a1), (.int (0 : Int32)), (.int (3 : Int32))] 6) = S0 at k0 ⊢
  have k1 : Way p e below S0 s₁ (mkF m 1 #[rv a1, iv (0 : Int32), iv (3 : Int32), .unset, .unset, .unset] [(.int (3 : Int32))]) := by
    intro t k
    refine k0 t ?_
    refine XS.iloadN X0.here hx rfl (hb hby d_jdk_52_method_16_code_0) rfl ?_
    show Steps p.tables e below (s₁.setTop (mkF m 1 #[rv a1, iv (0 : Int32), iv (3 : Int32), .unset, .unset, .unset] [(.int (3 : Int32))])) _
    exact k
  obtain ⟨T2, h2, c2, X2, e2, E2, A2, B2, st2⟩ := newPE X0 hx hZ (hw _ (List.mem_of_getElem? (i := 59) rfl)) e0 (g := (mkF m 1 #[rv a1, iv (0 : Int32), iv (3 : Int32), .unset, .unset, .unset] [(.int (3 : Int32))])) rfl (hb hby d_jdk_52_method_16_code_1) rfl (by decide) (cap := 3) (by decide) (by decide) (by decide) (by decide) (ad := "[B") (by decide)
  obtain ⟨b2, g2⟩ : ∃ z, z = h0.size := ⟨_, rfl⟩
  rw [← g2] at A2 B2 st2
  have O2 := O0.ext E2
  have K2 : Keep h0 h2 [] := (Keep.refl h0 []).ext E2
  have v2 : Arv Z h2 b2 c2 .byte (3 : Int32) [(.int (0 : Int32)), (.int (0 : Int32)), (.int (0 : Int32))] (.int (0 : Int32)) := (Arv.new A2 (by decide)).pad (pad_rep [] (.int (0 : Int32)) 3)
  have k3 : Way p e below S0 T2 (mkF m 3 #[rv a1, iv (0 : Int32), iv (3 : Int32), .unset, .unset, .unset] [(.ref b2)]) := fun t k => k1 t (st2 _ k)
  have k4 : Way p e below S0 T2 (mkF m 9 #[rv a1, iv (0 : Int32), iv (3 : Int32), rv b2, .unset, .unset] [(.int (3 : Int32)), (.int (0 : Int32)), (.ref b2), (.int (0 : Int32)), (.ref a1)]) := by
    intro t k
    refine k3 t ?_
    refine XS.astoreN X2.here hx rfl (hb hby d_jdk_52_method_16_code_3) rfl rfl (l' := #[rv a1, iv (0 : Int32), iv (3 : Int32), rv b2, .unset, .unset]) rfl ?_
    show Steps p.tables e below (T2.setTop (mkF m 4 #[rv a1, iv (0 : Int32), iv (3 : Int32), rv b2, .unset, .unset] [])) _
    refine XS.aloadN X2.here hx rfl (hb hby d_jdk_52_method_16_code_4) rfl rfl ?_
    show Steps p.tables e below (T2.setTop (mkF m 5 #[rv a1, iv (0 : Int32), iv (3 : Int32), rv b2, .unset, .unset] [(.ref a1)])) _
    refine XS.iloadN X2.here hx rfl (hb hby d_jdk_52_method_16_code_5) rfl ?_
    show Steps p.tables e below (T2.setTop (mkF m 6 #[rv a1, iv (0 : Int32), iv (3 : Int32), rv b2, .unset, .unset] [(.int (0 : Int32)), (.ref a1)])) _
    refine XS.aloadN X2.here hx rfl (hb hby d_jdk_52_method_16_code_6) rfl rfl ?_
    show Steps p.tables e below (T2.setTop (mkF m 7 #[rv a1, iv (0 : Int32), iv (3 : Int32), rv b2, .unset, .unset] [(.ref b2), (.int (0 : Int32)), (.ref a1)])) _
    refine XS.iconst X2.here hx rfl (hb hby d_jdk_52_method_16_code_7) ?_
    show Steps p.tables e below (T2.setTop (mkF m 8 #[rv a1, iv (0 : Int32), iv (3 : Int32), rv b2, .unset, .unset] [(.int (0 : Int32)), (.ref b2), (.int (0 : Int32)), (.ref a1)])) _
    refine XS.iloadN X2.here hx rfl (hb hby d_jdk_52_method_16_code_8) rfl ?_
    show Steps p.tables e below (T2.setTop (mkF m 9 #[rv a1, iv (0 : Int32), iv (3 : Int32), rv b2, .unset, .unset] [(.int (3 : Int32)), (.int (0 : Int32)), (.ref b2), (.int (0 : Int32)), (.ref a1)])) _
    exact k
  have f5 : Arv Z h2 a1 kc .char (3 : Int32) [(.int q0), (.int q1), (.int q2)] (.int (0 : Int32)) := (a_0.ext E2)
  have ge6 : n0 ≤ b2 := Nat.le_trans (own_old O0) (Nat.le_of_eq g2.symm)
  obtain ⟨_, _, ⟨T7, L7, kk7, nn7⟩, -, X7, ⟨Lc7, hQ7, l7, y7, z7⟩, st7⟩ := Jvm.LawKit.callS X2 hx (y := (⟨"java/lang/StringUTF16", "compress", "([CI[BII)I"⟩ : MethodName)) hown (mvT hZ (hw _ (List.mem_of_getElem? (i := 90) rfl))) (mvT hZ (hw _ (List.mem_of_getElem? (i := 91) rfl))) (mvT hZ (hw _ (List.mem_of_getElem? (i := 88) rfl))) (mvT hZ (hw _ (List.mem_of_getElem? (i := 92) rfl))) (by decide) (backOf (W := 0) (scomp1_3 l Z a0 hw [] w_EAST w_WEST wCS G a1 b2 kc c2 q0 q1 q2 h2 n0 O2 (f5 : Arv Z h2 a1 kc .char (3 : Int32) [(.int q0), (.int q1), (.int q2)] (.int (0 : Int32))) (v2 : Arv Z h2 b2 c2 .byte (3 : Int32) [(.int (0 : Int32)), (.int (0 : Int32)), (.int (0 : Int32))] (.int (0 : Int32))) ((Nat.ne_of_lt (Nat.lt_of_lt_of_le a_0.lt (Nat.le_of_eq g2.symm))) : a1 ≠ b2) (ge6 : n0 ≤ b2) (by first | assumption | decide | omega : ¬ ((255 : Int32) < q0)) (by first | assumption | decide | omega : ¬ ((255 : Int32) < q1)) (by first | assumption | decide | omega : ¬ ((255 : Int32) < q2))) hZ (hw _ (List.mem_of_getElem? (i := 92) rfl)) (hw _ (List.mem_of_getElem? (i := 88) rfl)) (by decide) (by decide)) (g := (mkF m 9 #[rv a1, iv (0 : Int32), iv (3 : Int32), rv b2, .unset, .unset] [(.int (3 : Int32)), (.int (0 : Int32)), (.ref b2), (.int (0 : Int32)), (.ref a1)])) rfl (by rw [hml]; rfl) (argsL := [(.ref a1), (.int (0 : Int32)), (.ref b2), (.int (0 : Int32)), (.int (3 : Int32))]) (rest := []) (lenOf pd_0 rfl) rfl (by show 2 * 0 + _ ≤ _; exact Nat.le_of_eq rfl) (hb hby d_jdk_52_method_16_code_9) (fun _ _ => ⟨rfl, e2, (by decide : 1 + 0 ≤ _), (by decide : 3 + 0 ≤ _)⟩)
  dsimp only [Pt.U, Pt.locs, Pt.cells, Pt.slots] at X7 l7 y7 z7 st7 hQ7
  subst l7 y7 z7
  obtain ⟨rfl, Nq7, Kq7, po7_0⟩ := hQ7
  have N7 := Fr.app N0 Nq7
  have O7 := O2.keep Kq7 (allS ge6 all0)
  have gz8 : h0.size ≤ b2 := Nat.le_trans (Keep.refl h0 []).1 (Nat.le_of_eq g2.symm)
  have K7 : Keep h0 T7.heap [] := K2.trans Kq7 (allS (Or.inr gz8) all0)
  have k9 : Way p e below S0 T7 (mkF m 12 #[rv a1, iv (0 : Int32), iv (3 : Int32), rv b2, .unset, .unset] [(.int (3 : Int32))]) := fun t k => k4 t (st7 _ k)
  have k10 : Way p e below S0 T7 (mkF m 58 #[rv a1, iv (0 : Int32), iv (3 : Int32), rv b2, iv (3 : Int32), .unset] [(.ref b2)]) := by
    intro t k
    refine k9 t ?_
    refine XS.istore X7.here hx rfl (hb hby d_jdk_52_method_16_code_12) rfl (l' := #[rv a1, iv (0 : Int32), iv (3 : Int32), rv b2, iv (3 : Int32), .unset]) rfl ?_
    show Steps p.tables e below (T7.setTop (mkF m 14 #[rv a1, iv (0 : Int32), iv (3 : Int32), rv b2, iv (3 : Int32), .unset] [])) _
    refine XS.iload X7.here hx rfl (hb hby d_jdk_52_method_16_code_14) rfl ?_
    show Steps p.tables e below (T7.setTop (mkF m 16 #[rv a1, iv (0 : Int32), iv (3 : Int32), rv b2, iv (3 : Int32), .unset] [(.int (3 : Int32))])) _
    refine XS.iloadN X7.here hx rfl (hb hby d_jdk_52_method_16_code_16) rfl ?_
    show Steps p.tables e below (T7.setTop (mkF m 17 #[rv a1, iv (0 : Int32), iv (3 : Int32), rv b2, iv (3 : Int32), .unset] [(.int (3 : Int32)), (.int (3 : Int32))])) _
    refine XS.icmpYes X7.here hx rfl (pc0 := 17) (pc' := 57) rfl (hb hby d_jdk_52_method_16_code_17) rfl (teq ((by decide) : (3 : Int32) = (3 : Int32))).1 (by decide) (by decide) ?_
    show Steps p.tables e below (T7.setTop (mkF m 57 #[rv a1, iv (0 : Int32), iv (3 : Int32), rv b2, iv (3 : Int32), .unset] [])) _
    refine XS.aloadN X7.here hx rfl (hb hby d_jdk_52_method_16_code_57) rfl rfl ?_
    show Steps p.tables e below (T7.setTop (mkF m 58 #[rv a1, iv (0 : Int32), iv (3 : Int32), rv b2, iv (3 : Int32), .unset] [(.ref b2)])) _
    exact k
  obtain ⟨fs, hr, hrun, hended, hW, hsame⟩ := X7.leave (v := some (.ref b2)) (fun h => by rw [Bd.returns] at h; cases h)
  have f11 : Exa Z T7.heap b2 "[B" := (B2.keep Kq7)
  refine ⟨_, _, k10 _ (retOut X7 hx Bd.returns rfl (Or.inr (Or.inr (Or.inr (Or.inr ⟨rfl, rfl, rfl⟩)))) (hb hby d_jdk_52_method_16_code_58) hr), hrun, hended, _, _, rfl, ?_, ⟨_, rfl⟩, hW, hsame.mono (by decide) (by decide)⟩
  show Q_scomp_3 Z w_EAST w_WEST wCS a1 kc q0 q1 q2 h0 n0 _ T7.heap _
  exact ⟨b2, c2, rfl, N7, K7, gz8, po7_0, f11⟩
def Q_scoder_3 (Z : State) (w_EAST : Addr) (w_WEST : Addr) (wCS : Int32) (a1 : Addr) (kb : ClassId) (q0 : Int32) (q1 : Int32) (q2 : Int32) (h0 : Heap) (n0 : Nat) (v : Option Value) (h : Heap) (L : List Loc) : Prop := (v = some (.int (0 : Int32))) ∧ (Fr n0 L) ∧ (h = h0)
set_option maxRecDepth 65536 in
set_option maxHeartbeats 40000000 in
theorem scoder_3 (l : Launch) (Z : State) (a0 : Array Value) (hw : ∀ d ∈ tables_1, d.before a0 Z = true) (ws : List Jvm.Cond) (w_EAST : Addr) (w_WEST : Addr) (wCS : Int32) (G : Gst Z w_EAST w_WEST wCS) (a1 : Addr) (kb : ClassId) (q0 : Int32) (q1 : Int32) (q2 : Int32) (h0 : Heap) (n0 : Nat) (O0 : Old Z n0 h0) (a_0 : Arv Z h0 a1 kb .byte (3 : Int32) [(.int q0), (.int q1), (.int q2)] (.int (0 : Int32))) :
    MetFree l (⟨"java/lang/StringUTF16", "coderFromArrayLen", "([BI)B"⟩ : MethodName) (head1 (Jvm.Cond.code (⟨"java/lang/StringUTF16", "coderFromArrayLen", "([BI)B"⟩ : MethodName) jdk_52_method_15_code 2 (some .byte) :: ws) ({ frames := 0, cells := 0, slots := 0, locals := 0 } : Room)) (fun a U => a = #[(.ref a1), (.int (3 : Int32))] ∧ Z.Warmed39 U.vm ∧ U.heap = h0) (fun _ _ _ _ _ => True) (fun _ U o U' => ∃ v L, o = .returned v ∧ Q_scoder_3 Z w_EAST w_WEST wCS a1 kb q0 q1 q2 h0 n0 v U'.heap L ∧ FrameEnd U o U' L ({ frames := 0, cells := 0, slots := 0, locals := 0 } : Room).cells ({ frames := 0, cells := 0, slots := 0, locals := 0 } : Room).slots) := by
  refine MetFree.of_bodySF (plainFor_of_name pn_0) hisR ?_
  intro p e s m args below meth c s₁ Bd hml0 hP hK
  obtain ⟨rfl, hZ, hh⟩ := hP
  have hx := Bd.exec
  have hby := Bd.bytes
  have hml : c.maxLocals = 2 := hml0
  have hown : s.vm.findClass "java/lang/StringUTF16" = some m.cls := findClass_of_methodNamed Bd.named
  have hnm := (name_of_methodNamed Bd.named Bd.method).1
  have X0 : Stand p l e ({ frames := 0, cells := 0, slots := 0, locals := 0 } : Room) s m #[(.ref a1), (.int (3 : Int32))] below meth c s₁ [] 0 0 := Stand.of_body Bd
  have e0 : s₁.heap = h0 := by rw [← hh, Bd.state]; rfl
  have N0 := Fr.nil n0
  obtain ⟨S_w_EAST, E_w_EAST, F_w_EAST_ordinal, S_w_WEST, E_w_WEST, F_w_WEST_ordinal, S_CS, hCS⟩ := id G
  have k0 : Way p e below (s₁.setTop (entryFrame m #[(.ref a1), (.int (3 : Int32))] 2)) s₁ (mkF m 0 #[rv a1, iv (3 : Int32)] []) := fun t k => castTop (by first | (simp [entryFrame, mkF, argsToLocals, Value.category]; done) | rfl) k
  generalize s₁.setTop (entryFrame m #[(.ref a1), (.int (3 : Int32))] 2) = S0 at k0 ⊢
  have k1 : Way p e below S0 s₁ (mkF m 2 #[rv a1, iv (3 : Int32)] [(.ref a1), (.int (3 : Int32))]) := by
    intro t k
    refine k0 t ?_
    refine XS.iloadN X0.here hx rfl (hb hby d_jdk_52_method_15_code_0) rfl ?_
    show Steps p.tables e below (s₁.setTop (mkF m 1 #[rv a1, iv (3 : Int32)] [(.int (3 : Int32))])) _
    refine XS.aloadN X0.here hx rfl (hb hby d_jdk_52_method_15_code_1) rfl rfl ?_
    show Steps p.tables e below (s₁.setTop (mkF m 2 #[rv a1, iv (3 : Int32)] [(.ref a1), (.int (3 : Int32))])) _
    exact k
  obtain ⟨cl2, Ar2, -, S2, M2, -, -⟩ := id (a_0)
  have k3 : Way p e below S0 s₁ (mkF m 3 #[rv a1, iv (3 : Int32)] [(.int (3 : Int32)), (.int (3 : Int32))]) := fun t k => k1 t (X0.arraylength hx (by rw [e0]; exact Ar2.1) (State.isArrayOf_alike hZ.alike Ar2.2.1) (g := (mkF m 2 #[rv a1, iv (3 : Int32)] [(.ref a1), (.int (3 : Int32))])) rfl rfl (hb hby d_jdk_52_method_15_code_2) _ (by rw [len_of S2 M2]; exact k))
  have k4 : Way p e below S0 s₁ (mkF m 8 #[rv a1, iv (3 : Int32)] [(.int (0 : Int32))]) := by
    intro t k
    refine k3 t ?_
    refine XS.isub X0.here hx rfl (hb hby d_jdk_52_method_15_code_3) rfl ?_
    show Steps p.tables e below (s₁.setTop (mkF m 4 #[rv a1, iv (3 : Int32)] [(.int (0 : Int32))])) _
    refine XS.bipush X0.here hx rfl (hb hby d_jdk_52_method_15_code_4) ?_
    show Steps p.tables e below (s₁.setTop (mkF m 6 #[rv a1, iv (3 : Int32)] [(.int (31 : Int32)), (.int (0 : Int32))])) _
    refine XS.iushr X0.here hx rfl (hb hby d_jdk_52_method_15_code_6) rfl ?_
    show Steps p.tables e below (s₁.setTop (mkF m 7 #[rv a1, iv (3 : Int32)] [(.int (0 : Int32))])) _
    refine XS.i2b X0.here hx rfl (hb hby d_jdk_52_method_15_code_7) rfl ?_
    show Steps p.tables e below (s₁.setTop (mkF m 8 #[rv a1, iv (3 : Int32)] [(.int (0 : Int32))])) _
    exact k
  obtain ⟨fs, hr, hrun, hended, hW, hsame⟩ := X0.leave (v := some (.int (0 : Int32))) (fun h => by rw [Bd.returns] at h; cases h)
  refine ⟨_, _, k4 _ (retN X0 hx (t := .byte) Bd.returns (by simp) (hb hby d_jdk_52_method_15_code_8) hr), hrun, hended, _, _, rfl, ?_, ⟨_, rfl⟩, hW, hsame.mono (by decide) (by decide)⟩
  show Q_scoder_3 Z w_EAST w_WEST wCS a1 kb q0 q1 q2 h0 n0 _ s₁.heap _
  rw [e0]
  exact ⟨rfl, N0, rfl⟩
def Q_sinit4_3 (Z : State) (w_EAST : Addr) (w_WEST : Addr) (wCS : Int32) (a1 : Addr) (a2 : Addr) (kc : ClassId) (q0 : Int32) (q1 : Int32) (q2 : Int32) (h0 : Heap) (n0 : Nat) (v : Option Value) (h : Heap) (L : List Loc) : Prop := ∃ d1 : Addr, ∃ kb : ClassId, (v = none) ∧ (Fr n0 L) ∧ (Keep h0 h [a1]) ∧ (h0.size ≤ d1) ∧ (Exa Z h a1 "java/lang/String") ∧ (Fld Z h a1 "java/lang/String" "value" "[B" (.ref d1)) ∧ (Fld Z h a1 "java/lang/String" "coder" "B" (.int (0 : Int32))) ∧ (Arv Z h d1 kb .byte (3 : Int32) [(.int ((q0.toInt8.toInt32).toInt8.toInt32)), (.int ((q1.toInt8.toInt32).toInt8.toInt32)), (.int ((q2.toInt8.toInt32).toInt8.toInt32))] (.int (0 : Int32))) ∧ (Exa Z h d1 "[B")
set_option maxRecDepth 65536 in
set_option maxHeartbeats 40000000 in
theorem sinit4_3 (l : Launch) (Z : State) (a0 : Array Value) (hw : ∀ d ∈ tables_1, d.before a0 Z = true) (ws : List Jvm.Cond) (w_EAST : Addr) (w_WEST : Addr) (wCS : Int32) (G : Gst Z w_EAST w_WEST wCS) (a1 : Addr) (a2 : Addr) (kc : ClassId) (q0 : Int32) (q1 : Int32) (q2 : Int32) (h0 : Heap) (n0 : Nat) (O0 : Old Z n0 h0) (a_0 : Exa Z h0 a1 "java/lang/String") (a_1 : Fld Z h0 a1 "java/lang/String" "value" "[B" .null) (a_2 : Fld Z h0 a1 "java/lang/String" "coder" "B" (.int (0 : Int32))) (ga1 : n0 ≤ a1) (hne : a1 ≠ a2) (a_5 : Arv Z h0 a2 kc .char (3 : Int32) [(.int q0), (.int q1), (.int q2)] (.int (0 : Int32))) (hq0 : ¬ ((255 : Int32) < q0)) (hq1 : ¬ ((255 : Int32) < q1)) (hq2 : ¬ ((255 : Int32) < q2)) :
    MetFree l (⟨"java/lang/String", "<init>", "([CIILjava/lang/Void;)V"⟩ : MethodName) (head1 (Jvm.Cond.code (⟨"java/lang/String", "<init>", "([CIILjava/lang/Void;)V"⟩ : MethodName) jdk_42_method_149_code 6 none :: ws) ({ frames := 2, cells := 1, slots := 3, locals := 35 } : Room)) (fun a U => a = #[(.ref a1), (.ref a2), (.int (0 : Int32)), (.int (3 : Int32)), .null] ∧ Z.Warmed39 U.vm ∧ U.heap = h0) (fun _ _ _ _ _ => True) (fun _ U o U' => ∃ v L, o = .returned v ∧ Q_sinit4_3 Z w_EAST w_WEST wCS a1 a2 kc q0 q1 q2 h0 n0 v U'.heap L ∧ FrameEnd U o U' L ({ frames := 2, cells := 1, slots := 3, locals := 35 } : Room).cells ({ frames := 2, cells := 1, slots := 3, locals := 35 } : Room).slots) := by
  refine MetFree.of_bodySF (plainFor_of_name pn_1) hisR ?_
  intro p e s m args below meth c s₁ Bd hml0 hP hK
  obtain ⟨rfl, hZ, hh⟩ := hP
  have hx := Bd.exec
  have hby := Bd.bytes
  have hml : c.maxLocals = 6 := hml0
  have hown : s.vm.findClass "java/lang/String" = some m.cls := findClass_of_methodNamed Bd.named
  have hnm := (name_of_methodNamed Bd.named Bd.method).1
  have X0 : Stand p l e ({ frames := 2, cells := 1, slots := 3, locals := 35 } : Room) s m #[(.ref a1), (.ref a2), (.int (0 : Int32)), (.int (3 : Int32)), .null] below meth c s₁ [] 0 0 := Stand.of_body Bd
  have e0 : s₁.heap = h0 := by rw [← hh, Bd.state]; rfl
  have N0 := Fr.nil n0
  obtain ⟨S_w_EAST, E_w_EAST, F_w_EAST_ordinal, S_w_WEST, E_w_WEST, F_w_WEST_ordinal, S_CS, hCS⟩ := id G
  have k0 : Way p e below (s₁.setTop (entryFrame m #[(.ref a1), (.ref a2), (.int (0 : Int32)), (.int (3 : Int32)), .null] 6)) s₁ (mkF m 0 #[rv a1, rv a2, iv (0 : Int32), iv (3 : Int32), .val .null, .unset] []) := fun t k => castTop (by first | (simp [entryFrame, mkF, argsToLocals, Value.category]; done) | rfl) k
  generalize s₁.setTop (entryFrame m #[(.ref a1), (.ref a2), (.int (0 : Int32)), (.int (3 : Int32)), .null] 6) = S0 at k0 ⊢
  have k1 : Way p e below S0 s₁ (mkF m 1 #[rv a1, rv a2, iv (0 : Int32), iv (3 : Int32), .val .null, .unset] [(.ref a1)]) := by
    intro t k
    refine k0 t ?_
    refine XS.aloadN X0.here hx rfl (hb hby d_jdk_42_method_149_code_0) rfl rfl ?_
    show Steps p.tables e below (s₁.setTop (mkF m 1 #[rv a1, rv a2, iv (0 : Int32), iv (3 : Int32), .val .null, .unset] [(.ref a1)])) _
    exact k
  obtain ⟨T2, X2, e2, st2⟩ := initO X0 hx hZ hown (hw _ (List.mem_of_getElem? (i := 57) rfl)) (hw _ (List.mem_of_getElem? (i := 15) rfl)) (hw _ (List.mem_of_getElem? (i := 16) rfl)) e0 (g := (mkF m 1 #[rv a1, rv a2, iv (0 : Int32), iv (3 : Int32), .val .null, .unset] [(.ref a1)])) rfl (by rw [hml]; rfl) rfl (hb hby d_jdk_42_method_149_code_1) (by decide) (W := 0) (by show 2 * 0 + _ ≤ _; exact Nat.le_of_eq rfl) (by decide)
  have k3 : Way p e below S0 T2 (mkF m 4 #[rv a1, rv a2, iv (0 : Int32), iv (3 : Int32), .val .null, .unset] []) := fun t k => k1 t (st2 _ k)
  have k4 : Way p e below S0 T2 (mkF m 27 #[rv a1, rv a2, iv (0 : Int32), iv (3 : Int32), .val .null, .unset] []) := by
    intro t k
    refine k3 t ?_
    refine XS.iloadN X2.here hx rfl (hb hby d_jdk_42_method_149_code_4) rfl ?_
    show Steps p.tables e below (T2.setTop (mkF m 5 #[rv a1, rv a2, iv (0 : Int32), iv (3 : Int32), .val .null, .unset] [(.int (3 : Int32))])) _
    refine XS.ifYes X2.here hx rfl (pc0 := 5) (pc' := 27) rfl (hb hby d_jdk_42_method_149_code_5) rfl ((if0 _ _).trans (feq ((by decide) : ¬ ((3 : Int32) = (0 : Int32)))).2) (by decide) (by decide) ?_
    show Steps p.tables e below (T2.setTop (mkF m 27 #[rv a1, rv a2, iv (0 : Int32), iv (3 : Int32), .val .null, .unset] [])) _
    exact k
  obtain ⟨T5, X5, e5, st5⟩ := getS2 X2 hx hZ hown (host := "") (Or.inl (hw _ (List.mem_of_getElem? (i := 74) rfl))) Via.refl e2 (S_CS.ext O0.2) (g := (mkF m 27 #[rv a1, rv a2, iv (0 : Int32), iv (3 : Int32), .val .null, .unset] [])) rfl (hb hby d_jdk_42_method_149_code_27)
  have k6 : Way p e below S0 T5 (mkF m 30 #[rv a1, rv a2, iv (0 : Int32), iv (3 : Int32), .val .null, .unset] [(.int wCS)]) := fun t k => k4 t (st5 _ k)
  have k7 : Way p e below S0 T5 (mkF m 36 #[rv a1, rv a2, iv (0 : Int32), iv (3 : Int32), .val .null, .unset] [(.int (3 : Int32)), (.int (0 : Int32)), (.ref a2)]) := by
    intro t k
    refine k6 t ?_
    refine XS.ifNo X5.here hx rfl (hb hby d_jdk_42_method_149_code_30) rfl ((if0 _ _).trans (feq (hCS : ¬ (wCS = (0 : Int32)))).1) ?_
    show Steps p.tables e below (T5.setTop (mkF m 33 #[rv a1, rv a2, iv (0 : Int32), iv (3 : Int32), .val .null, .unset] [])) _
    refine XS.aloadN X5.here hx rfl (hb hby d_jdk_42_method_149_code_33) rfl rfl ?_
    show Steps p.tables e below (T5.setTop (mkF m 34 #[rv a1, rv a2, iv (0 : Int32), iv (3 : Int32), .val .null, .unset] [(.ref a2)])) _
    refine XS.iloadN X5.here hx rfl (hb hby d_jdk_42_method_149_code_34) rfl ?_
    show Steps p.tables e below (T5.setTop (mkF m 35 #[rv a1, rv a2, iv (0 : Int32), iv (3 : Int32), .val .null, .unset] [(.int (0 : Int32)), (.ref a2)])) _
    refine XS.iloadN X5.here hx rfl (hb hby d_jdk_42_method_149_code_35) rfl ?_
    show Steps p.tables e below (T5.setTop (mkF m 36 #[rv a1, rv a2, iv (0 : Int32), iv (3 : Int32), .val .null, .unset] [(.int (3 : Int32)), (.int (0 : Int32)), (.ref a2)])) _
    exact k
  obtain ⟨_, _, ⟨T8, L8, kk8, nn8⟩, -, X8, ⟨Lc8, hQ8, l8, y8, z8⟩, st8⟩ := Jvm.LawKit.callS X5 hx (y := (⟨"java/lang/StringUTF16", "compress", "([CII)[B"⟩ : MethodName)) hown (mvT hZ (hw _ (List.mem_of_getElem? (i := 86) rfl))) (mvT hZ (hw _ (List.mem_of_getElem? (i := 87) rfl))) (mvT hZ (hw _ (List.mem_of_getElem? (i := 88) rfl))) (mvT hZ (hw _ (List.mem_of_getElem? (i := 89) rfl))) (by decide) (backOf (W := 0) (scomp_3 l Z a0 hw [] w_EAST w_WEST wCS G a2 kc q0 q1 q2 h0 n0 O0 (a_5 : Arv Z h0 a2 kc .char (3 : Int32) [(.int q0), (.int q1), (.int q2)] (.int (0 : Int32))) (by first | assumption | decide | omega : ¬ ((255 : Int32) < q0)) (by first | assumption | decide | omega : ¬ ((255 : Int32) < q1)) (by first | assumption | decide | omega : ¬ ((255 : Int32) < q2))) hZ (hw _ (List.mem_of_getElem? (i := 89) rfl)) (hw _ (List.mem_of_getElem? (i := 88) rfl)) (by decide) (by decide)) (g := (mkF m 36 #[rv a1, rv a2, iv (0 : Int32), iv (3 : Int32), .val .null, .unset] [(.int (3 : Int32)), (.int (0 : Int32)), (.ref a2)])) rfl (by rw [hml]; rfl) (argsL := [(.ref a2), (.int (0 : Int32)), (.int (3 : Int32))]) (rest := []) (lenOf pd_1 rfl) rfl (by show 2 * 0 + _ ≤ _; exact Nat.le_of_eq rfl) (hb hby d_jdk_42_method_149_code_36) (fun _ _ => ⟨rfl, e5, (by decide : 0 + 1 ≤ _), (by decide : 0 + 3 ≤ _)⟩)
  dsimp only [Pt.U, Pt.locs, Pt.cells, Pt.slots] at X8 l8 y8 z8 st8 hQ8
  subst l8 y8 z8
  obtain ⟨b1_8, kb_8, rfl, Nq8, Kq8, po8_0, po8_1, po8_2⟩ := hQ8
  have N8 := Fr.app N0 Nq8
  have O8 := O0.keep Kq8 all0
  have K8 : Keep h0 T8.heap [a1] := (Keep.refl h0 [a1]).trans Kq8 all0
  have k9 : Way p e below S0 T8 (mkF m 39 #[rv a1, rv a2, iv (0 : Int32), iv (3 : Int32), .val .null, .unset] [(.ref b1_8)]) := fun t k => k7 t (st8 _ k)
  have k10 : Way p e below S0 T8 (mkF m 45 #[rv a1, rv a2, iv (0 : Int32), iv (3 : Int32), .val .null, rv b1_8] [(.int (3 : Int32)), (.ref b1_8), (.ref a1)]) := by
    intro t k
    refine k9 t ?_
    refine XS.astore X8.here hx rfl (hb hby d_jdk_42_method_149_code_39) rfl rfl (l' := #[rv a1, rv a2, iv (0 : Int32), iv (3 : Int32), .val .null, rv b1_8]) rfl ?_
    show Steps p.tables e below (T8.setTop (mkF m 41 #[rv a1, rv a2, iv (0 : Int32), iv (3 : Int32), .val .null, rv b1_8] [])) _
    refine XS.aloadN X8.here hx rfl (hb hby d_jdk_42_method_149_code_41) rfl rfl ?_
    show Steps p.tables e below (T8.setTop (mkF m 42 #[rv a1, rv a2, iv (0 : Int32), iv (3 : Int32), .val .null, rv b1_8] [(.ref a1)])) _
    refine XS.aload X8.here hx rfl (hb hby d_jdk_42_method_149_code_42) rfl rfl ?_
    show Steps p.tables e below (T8.setTop (mkF m 44 #[rv a1, rv a2, iv (0 : Int32), iv (3 : Int32), .val .null, rv b1_8] [(.ref b1_8), (.ref a1)])) _
    refine XS.iloadN X8.here hx rfl (hb hby d_jdk_42_method_149_code_44) rfl ?_
    show Steps p.tables e below (T8.setTop (mkF m 45 #[rv a1, rv a2, iv (0 : Int32), iv (3 : Int32), .val .null, rv b1_8] [(.int (3 : Int32)), (.ref b1_8), (.ref a1)])) _
    exact k
  obtain ⟨_, _, ⟨T11, L11, kk11, nn11⟩, -, X11, ⟨Lc11, hQ11, l11, y11, z11⟩, st11⟩ := Jvm.LawKit.callS X8 hx (y := (⟨"java/lang/StringUTF16", "coderFromArrayLen", "([BI)B"⟩ : MethodName)) hown (mvT hZ (hw _ (List.mem_of_getElem? (i := 93) rfl))) (mvT hZ (hw _ (List.mem_of_getElem? (i := 94) rfl))) (mvT hZ (hw _ (List.mem_of_getElem? (i := 88) rfl))) (mvT hZ (hw _ (List.mem_of_getElem? (i := 95) rfl))) (by decide) (backOf (W := 1) (scoder_3 l Z a0 hw [] w_EAST w_WEST wCS G b1_8 kb_8 ((q0.toInt8.toInt32).toInt8.toInt32) ((q1.toInt8.toInt32).toInt8.toInt32) ((q2.toInt8.toInt32).toInt8.toInt32) T8.heap n0 O8 (po8_1 : Arv Z T8.heap b1_8 kb_8 .byte (3 : Int32) [(.int ((q0.toInt8.toInt32).toInt8.toInt32)), (.int ((q1.toInt8.toInt32).toInt8.toInt32)), (.int ((q2.toInt8.toInt32).toInt8.toInt32))] (.int (0 : Int32)))) hZ (hw _ (List.mem_of_getElem? (i := 95) rfl)) (hw _ (List.mem_of_getElem? (i := 88) rfl)) (by decide) (by decide)) (g := (mkF m 45 #[rv a1, rv a2, iv (0 : Int32), iv (3 : Int32), .val .null, rv b1_8] [(.int (3 : Int32)), (.ref b1_8), (.ref a1)])) rfl (by rw [hml]; rfl) (argsL := [(.ref b1_8), (.int (3 : Int32))]) (rest := [(.ref a1)]) (lenOf pd_2 rfl) rfl (by show 2 * 0 + _ ≤ _; exact Nat.le_of_eq rfl) (hb hby d_jdk_42_method_149_code_45) (fun _ _ => ⟨rfl, rfl, (by decide : 1 + 0 ≤ _), (by decide : 3 + 0 ≤ _)⟩)
  dsimp only [Pt.U, Pt.locs, Pt.cells, Pt.slots] at X11 l11 y11 z11 st11 hQ11
  subst l11 y11 z11
  obtain ⟨rfl, Nq11, e11⟩ := hQ11
  have N11 := Fr.app N8 Nq11
  have k12 : Way p e below S0 T11 (mkF m 48 #[rv a1, rv a2, iv (0 : Int32), iv (3 : Int32), .val .null, rv b1_8] [(.int (0 : Int32)), (.ref a1)]) := fun t k => k10 t (st11 _ k)
  have f13 : Fld Z T8.heap a1 "java/lang/String" "coder" "B" (.int (0 : Int32)) := (a_2.keep Kq8 nin0)
  have f14 : Exa Z T8.heap a1 "java/lang/String" := (a_0.keep Kq8)
  obtain ⟨T15, h15, X15, e15, W15, st15⟩ := putFN X11 hx hZ hown (hw _ (List.mem_of_getElem? (i := 65) rfl)) Via.refl e11 f13 f14 (Or.inr ⟨(hw _ (List.mem_of_getElem? (i := 61) rfl)), rfl, hnm⟩) (hw _ (List.mem_of_getElem? (i := 47) rfl)) (ty := .byte) (v' := (.int (0 : Int32))) (by decide) rfl rfl (g := (mkF m 48 #[rv a1, rv a2, iv (0 : Int32), iv (3 : Int32), .val .null, rv b1_8] [(.int (0 : Int32)), (.ref a1)])) rfl rfl (hb hby d_jdk_42_method_149_code_48)
  have O15 := O8.wr W15 ga1
  have N15 := Fr.snoc X15 N11 ga1
  have K15 : Keep h0 h15 [a1] := K8.wr W15 (Or.inl (List.mem_of_getElem? (i := 0) rfl))
  have fw15 : Fld Z h15 a1 "java/lang/String" "coder" "B" (.int (0 : Int32)) := f13.same W15
  have k16 : Way p e below S0 T15 (mkF m 51 #[rv a1, rv a2, iv (0 : Int32), iv (3 : Int32), .val .null, rv b1_8] []) := fun t k => k12 t (st15 _ k)
  have k17 : Way p e below S0 T15 (mkF m 54 #[rv a1, rv a2, iv (0 : Int32), iv (3 : Int32), .val .null, rv b1_8] [(.ref b1_8), (.ref a1)]) := by
    intro t k
    refine k16 t ?_
    refine XS.aloadN X15.here hx rfl (hb hby d_jdk_42_method_149_code_51) rfl rfl ?_
    show Steps p.tables e below (T15.setTop (mkF m 52 #[rv a1, rv a2, iv (0 : Int32), iv (3 : Int32), .val .null, rv b1_8] [(.ref a1)])) _
    refine XS.aload X15.here hx rfl (hb hby d_jdk_42_method_149_code_52) rfl rfl ?_
    show Steps p.tables e below (T15.setTop (mkF m 54 #[rv a1, rv a2, iv (0 : Int32), iv (3 : Int32), .val .null, rv b1_8] [(.ref b1_8), (.ref a1)])) _
    exact k
  have f18 : Fld Z h15 a1 "java/lang/String" "value" "[B" .null := ((a_1.keep Kq8 nin0).other W15 (Or.inr (slot_ne (Or.inr (hw _ (List.mem_of_getElem? (i := 60) rfl))) (Or.inr (hw _ (List.mem_of_getElem? (i := 61) rfl))) (by decide) (t := (.array .byte)) (t' := .byte) (by decide) (by decide))))
  have f19 : Exa Z h15 a1 "java/lang/String" := (f14.wr W15)
  obtain ⟨T20, h20, X20, e20, W20, st20⟩ := putF X15 hx hZ hown (host := "") (Or.inl (hw _ (List.mem_of_getElem? (i := 64) rfl))) Via.refl e15 f18 f19 (Or.inr ⟨(hw _ (List.mem_of_getElem? (i := 60) rfl)), rfl, hnm⟩) (hw _ (List.mem_of_getElem? (i := 47) rfl)) (ty := (.array .byte)) (by decide) rfl rfl (g := (mkF m 54 #[rv a1, rv a2, iv (0 : Int32), iv (3 : Int32), .val .null, rv b1_8] [(.ref b1_8), (.ref a1)])) rfl rfl (hb hby d_jdk_42_method_149_code_54)
  have O20 := O15.wr W20 ga1
  have N20 := Fr.snoc X20 N15 ga1
  have K20 : Keep h0 h20 [a1] := K15.wr W20 (Or.inl (List.mem_of_getElem? (i := 0) rfl))
  have fw20 : Fld Z h20 a1 "java/lang/String" "value" "[B" (.ref b1_8) := f18.same W20
  have k21 : Way p e below S0 T20 (mkF m 57 #[rv a1, rv a2, iv (0 : Int32), iv (3 : Int32), .val .null, rv b1_8] []) := fun t k => k17 t (st20 _ k)
  obtain ⟨fs, hr, hrun, hended, hW, hsame⟩ := X20.leave (v := none) (fun _ => rfl)
  have gz22 : h0.size ≤ b1_8 := Nat.le_trans (Keep.refl h0 [a1]).1 po8_0
  have f23 : Exa Z h20 a1 "java/lang/String" := (f19.wr W20)
  have f24 : Fld Z h20 a1 "java/lang/String" "coder" "B" (.int (0 : Int32)) := (fw15.other W20 (Or.inr (slot_ne (Or.inr (hw _ (List.mem_of_getElem? (i := 61) rfl))) (Or.inr (hw _ (List.mem_of_getElem? (i := 60) rfl))) (by decide) (t := .byte) (t' := (.array .byte)) (by decide) (by decide))))
  have f25 : Arv Z h20 b1_8 kb_8 .byte (3 : Int32) [(.int ((q0.toInt8.toInt32).toInt8.toInt32)), (.int ((q1.toInt8.toInt32).toInt8.toInt32)), (.int ((q2.toInt8.toInt32).toInt8.toInt32))] (.int (0 : Int32)) := ((po8_1.other W15 (Ne.symm (Nat.ne_of_lt (Nat.lt_of_lt_of_le a_0.lt po8_0)))).other W20 (Ne.symm (Nat.ne_of_lt (Nat.lt_of_lt_of_le a_0.lt po8_0))))
  have f26 : Exa Z h20 b1_8 "[B" := ((po8_2.wr W15).wr W20)
  refine ⟨_, _, k21 _ (X20.returnOut hx Bd.returns (hb hby d_jdk_42_method_149_code_57) hr), hrun, hended, _, _, rfl, ?_, ⟨_, rfl⟩, hW, hsame.mono (by decide) (by decide)⟩
  show Q_sinit4_3 Z w_EAST w_WEST wCS a1 a2 kc q0 q1 q2 h0 n0 _ T20.heap _
  rw [e20]
  exact ⟨b1_8, kb_8, rfl, N20, K20, gz22, f23, fw20, f24, f25, f26⟩
def Q_sinit_3 (Z : State) (w_EAST : Addr) (w_WEST : Addr) (wCS : Int32) (a1 : Addr) (a2 : Addr) (kc : ClassId) (q0 : Int32) (q1 : Int32) (q2 : Int32) (h0 : Heap) (n0 : Nat) (v : Option Value) (h : Heap) (L : List Loc) : Prop := ∃ d1 : Addr, ∃ kb : ClassId, (v = none) ∧ (Fr n0 L) ∧ (Keep h0 h [a1]) ∧ (h0.size ≤ d1) ∧ (Exa Z h a1 "java/lang/String") ∧ (Fld Z h a1 "java/lang/String" "value" "[B" (.ref d1)) ∧ (Fld Z h a1 "java/lang/String" "coder" "B" (.int (0 : Int32))) ∧ (Arv Z h d1 kb .byte (3 : Int32) [(.int ((q0.toInt8.toInt32).toInt8.toInt32)), (.int ((q1.toInt8.toInt32).toInt8.toInt32)), (.int ((q2.toInt8.toInt32).toInt8.toInt32))] (.int (0 : Int32))) ∧ (Exa Z h d1 "[B")
set_option maxRecDepth 65536 in
set_option maxHeartbeats 40000000 in
theorem sinit_3 (l : Launch) (Z : State) (a0 : Array Value) (hw : ∀ d ∈ tables_1, d.before a0 Z = true) (ws : List Jvm.Cond) (w_EAST : Addr) (w_WEST : Addr) (wCS : Int32) (G : Gst Z w_EAST w_WEST wCS) (a1 : Addr) (a2 : Addr) (kc : ClassId) (q0 : Int32) (q1 : Int32) (q2 : Int32) (h0 : Heap) (n0 : Nat) (O0 : Old Z n0 h0) (a_0 : Exa Z h0 a1 "java/lang/String") (a_1 : Fld Z h0 a1 "java/lang/String" "value" "[B" .null) (a_2 : Fld Z h0 a1 "java/lang/String" "coder" "B" (.int (0 : Int32))) (ga1 : n0 ≤ a1) (hne : a1 ≠ a2) (a_5 : Arv Z h0 a2 kc .char (3 : Int32) [(.int q0), (.int q1), (.int q2)] (.int (0 : Int32))) (hq0 : ¬ ((255 : Int32) < q0)) (hq1 : ¬ ((255 : Int32) < q1)) (hq2 : ¬ ((255 : Int32) < q2)) :
    MetFree l (⟨"java/lang/String", "<init>", "([C)V"⟩ : MethodName) (head1 (Jvm.Cond.code (⟨"java/lang/String", "<init>", "([C)V"⟩ : MethodName) jdk_42_method_3_code 2 none :: ws) ({ frames := 3, cells := 1, slots := 3, locals := 52 } : Room)) (fun a U => a = #[(.ref a1), (.ref a2)] ∧ Z.Warmed39 U.vm ∧ U.heap = h0) (fun _ _ _ _ _ => True) (fun _ U o U' => ∃ v L, o = .returned v ∧ Q_sinit_3 Z w_EAST w_WEST wCS a1 a2 kc q0 q1 q2 h0 n0 v U'.heap L ∧ FrameEnd U o U' L ({ frames := 3, cells := 1, slots := 3, locals := 52 } : Room).cells ({ frames := 3, cells := 1, slots := 3, locals := 52 } : Room).slots) := by
  refine MetFree.of_bodySF (plainFor_of_name pn_1) hisR ?_
  intro p e s m args below meth c s₁ Bd hml0 hP hK
  obtain ⟨rfl, hZ, hh⟩ := hP
  have hx := Bd.exec
  have hby := Bd.bytes
  have hml : c.maxLocals = 2 := hml0
  have hown : s.vm.findClass "java/lang/String" = some m.cls := findClass_of_methodNamed Bd.named
  have hnm := (name_of_methodNamed Bd.named Bd.method).1
  have X0 : Stand p l e ({ frames := 3, cells := 1, slots := 3, locals := 52 } : Room) s m #[(.ref a1), (.ref a2)] below meth c s₁ [] 0 0 := Stand.of_body Bd
  have e0 : s₁.heap = h0 := by rw [← hh, Bd.state]; rfl
  have N0 := Fr.nil n0
  obtain ⟨S_w_EAST, E_w_EAST, F_w_EAST_ordinal, S_w_WEST, E_w_WEST, F_w_WEST_ordinal, S_CS, hCS⟩ := id G
  have k0 : Way p e below (s₁.setTop (entryFrame m #[(.ref a1), (.ref a2)] 2)) s₁ (mkF m 0 #[rv a1, rv a2] []) := fun t k => castTop (by first | (simp [entryFrame, mkF, argsToLocals, Value.category]; done) | rfl) k
  generalize s₁.setTop (entryFrame m #[(.ref a1), (.ref a2)] 2) = S0 at k0 ⊢
  have k1 : Way p e below S0 s₁ (mkF m 4 #[rv a1, rv a2] [(.ref a2), (.int (0 : Int32)), (.ref a2), (.ref a1)]) := by
    intro t k
    refine k0 t ?_
    refine XS.aloadN X0.here hx rfl (hb hby d_jdk_42_method_3_code_0) rfl rfl ?_
    show Steps p.tables e below (s₁.setTop (mkF m 1 #[rv a1, rv a2] [(.ref a1)])) _
    refine XS.aloadN X0.here hx rfl (hb hby d_jdk_42_method_3_code_1) rfl rfl ?_
    show Steps p.tables e below (s₁.setTop (mkF m 2 #[rv a1, rv a2] [(.ref a2), (.ref a1)])) _
    refine XS.iconst X0.here hx rfl (hb hby d_jdk_42_method_3_code_2) ?_
    show Steps p.tables e below (s₁.setTop (mkF m 3 #[rv a1, rv a2] [(.int (0 : Int32)), (.ref a2), (.ref a1)])) _
    refine XS.aloadN X0.here hx rfl (hb hby d_jdk_42_method_3_code_3) rfl rfl ?_
    show Steps p.tables e below (s₁.setTop (mkF m 4 #[rv a1, rv a2] [(.ref a2), (.int (0 : Int32)), (.ref a2), (.ref a1)])) _
    exact k
  obtain ⟨cl2, Ar2, -, S2, M2, -, -⟩ := id (a_5)
  have k3 : Way p e below S0 s₁ (mkF m 5 #[rv a1, rv a2] [(.int (3 : Int32)), (.int (0 : Int32)), (.ref a2), (.ref a1)]) := fun t k => k1 t (X0.arraylength hx (by rw [e0]; exact Ar2.1) (State.isArrayOf_alike hZ.alike Ar2.2.1) (g := (mkF m 4 #[rv a1, rv a2] [(.ref a2), (.int (0 : Int32)), (.ref a2), (.ref a1)])) rfl rfl (hb hby d_jdk_42_method_3_code_4) _ (by rw [len_of S2 M2]; exact k))
  have k4 : Way p e below S0 s₁ (mkF m 6 #[rv a1, rv a2] [.null, (.int (3 : Int32)), (.int (0 : Int32)), (.ref a2), (.ref a1)]) := by
    intro t k
    refine k3 t ?_
    refine XS.aconstNull X0.here hx rfl (hb hby d_jdk_42_method_3_code_5) ?_
    show Steps p.tables e below (s₁.setTop (mkF m 6 #[rv a1, rv a2] [.null, (.int (3 : Int32)), (.int (0 : Int32)), (.ref a2), (.ref a1)])) _
    exact k
  obtain ⟨_, _, ⟨T5, L5, kk5, nn5⟩, -, X5, ⟨Lc5, hQ5, l5, y5, z5⟩, st5⟩ := X0.specialBack hx (y := (⟨"java/lang/String", "<init>", "([CIILjava/lang/Void;)V"⟩ : MethodName)) rfl hown (mvT hZ (hw _ (List.mem_of_getElem? (i := 53) rfl))) (mvT hZ (hw _ (List.mem_of_getElem? (i := 54) rfl))) (mvT hZ (hw _ (List.mem_of_getElem? (i := 56) rfl))) (by decide) (backOf (W := 0) (sinit4_3 l Z a0 hw [] w_EAST w_WEST wCS G a1 a2 kc q0 q1 q2 h0 n0 O0 (a_0 : Exa Z h0 a1 "java/lang/String") (a_1 : Fld Z h0 a1 "java/lang/String" "value" "[B" .null) (a_2 : Fld Z h0 a1 "java/lang/String" "coder" "B" (.int (0 : Int32))) (ga1 : n0 ≤ a1) (hne : a1 ≠ a2) (a_5 : Arv Z h0 a2 kc .char (3 : Int32) [(.int q0), (.int q1), (.int q2)] (.int (0 : Int32))) (by first | assumption | decide | omega : ¬ ((255 : Int32) < q0)) (by first | assumption | decide | omega : ¬ ((255 : Int32) < q1)) (by first | assumption | decide | omega : ¬ ((255 : Int32) < q2))) hZ (hw _ (List.mem_of_getElem? (i := 56) rfl)) (hw _ (List.mem_of_getElem? (i := 48) rfl)) (by decide) (by decide)) (g := (mkF m 6 #[rv a1, rv a2] [.null, (.int (3 : Int32)), (.int (0 : Int32)), (.ref a2), (.ref a1)])) rfl (by rw [hml]; rfl) (Steps.refl _) (a := a1) (argsL := [(.ref a2), (.int (0 : Int32)), (.int (3 : Int32)), .null]) (rest := []) (lenOf pd_3 rfl) rfl (by show 2 * 0 + _ ≤ _; exact Nat.le_of_eq rfl) (hb hby d_jdk_42_method_3_code_6) (fun _ _ => ⟨rfl, e0, (by decide : 0 + 1 ≤ _), (by decide : 0 + 3 ≤ _)⟩)
  dsimp only [Pt.U, Pt.locs, Pt.cells, Pt.slots] at X5 l5 y5 z5 st5 hQ5
  subst l5 y5 z5
  obtain ⟨d1_5, kb_5, rfl, Nq5, Kq5, po5_0, po5_1, po5_2, po5_3, po5_4, po5_5⟩ := hQ5
  have N5 := Fr.app N0 Nq5
  have O5 := O0.keep Kq5 (allS ga1 all0)
  have K5 : Keep h0 T5.heap [a1] := (Keep.refl h0 [a1]).trans Kq5 (allS (Or.inl (List.mem_of_getElem? (i := 0) rfl)) all0)
  have k6 : Way p e below S0 T5 (mkF m 9 #[rv a1, rv a2] []) := fun t k => k4 t (st5.trans k)
  obtain ⟨fs, hr, hrun, hended, hW, hsame⟩ := X5.leave (v := none) (fun _ => rfl)
  have gz7 : h0.size ≤ d1_5 := Nat.le_trans (Keep.refl h0 [a1]).1 po5_0
  refine ⟨_, _, k6 _ (X5.returnOut hx Bd.returns (hb hby d_jdk_42_method_3_code_9) hr), hrun, hended, _, _, rfl, ?_, ⟨_, rfl⟩, hW, hsame.mono (by decide) (by decide)⟩
  show Q_sinit_3 Z w_EAST w_WEST wCS a1 a2 kc q0 q1 q2 h0 n0 _ T5.heap _
  exact ⟨d1_5, kb_5, rfl, N5, K5, gz7, po5_1, po5_2, po5_3, po5_4, po5_5⟩
def Q_canEnc (Z : State) (w_EAST : Addr) (w_WEST : Addr) (wCS : Int32) (p1 : Int32) (h0 : Heap) (n0 : Nat) (v : Option Value) (h : Heap) (L : List Loc) : Prop := (v = some (.int (1 : Int32))) ∧ (Fr n0 L) ∧ (h = h0)
set_option maxRecDepth 65536 in
set_option maxHeartbeats 40000000 in
theorem canEnc (l : Launch) (Z : State) (a0 : Array Value) (hw : ∀ d ∈ tables_1, d.before a0 Z = true) (ws : List Jvm.Cond) (w_EAST : Addr) (w_WEST : Addr) (wCS : Int32) (G : Gst Z w_EAST w_WEST wCS) (p1 : Int32) (h0 : Heap) (n0 : Nat) (O0 : Old Z n0 h0) (hq : ¬ ((255 : Int32) < p1)) :
    MetFree l (⟨"java/lang/StringLatin1", "canEncode", "(C)Z"⟩ : MethodName) (head1 (Jvm.Cond.code (⟨"java/lang/StringLatin1", "canEncode", "(C)Z"⟩ : MethodName) jdk_43_method_3_code 1 (some .boolean) :: ws) ({ frames := 0, cells := 0, slots := 0, locals := 0 } : Room)) (fun a U => a = #[(.int p1)] ∧ Z.Warmed39 U.vm ∧ U.heap = h0) (fun _ _ _ _ _ => True) (fun _ U o U' => ∃ v L, o = .returned v ∧ Q_canEnc Z w_EAST w_WEST wCS p1 h0 n0 v U'.heap L ∧ FrameEnd U o U' L ({ frames := 0, cells := 0, slots := 0, locals := 0 } : Room).cells ({ frames := 0, cells := 0, slots := 0, locals := 0 } : Room).slots) := by
  refine MetFree.of_bodySF (plainFor_of_name pn_2) hisR ?_
  intro p e s m args below meth c s₁ Bd hml0 hP hK
  obtain ⟨rfl, hZ, hh⟩ := hP
  have hx := Bd.exec
  have hby := Bd.bytes
  have hml : c.maxLocals = 1 := hml0
  have hown : s.vm.findClass "java/lang/StringLatin1" = some m.cls := findClass_of_methodNamed Bd.named
  have hnm := (name_of_methodNamed Bd.named Bd.method).1
  have X0 : Stand p l e ({ frames := 0, cells := 0, slots := 0, locals := 0 } : Room) s m #[(.int p1)] below meth c s₁ [] 0 0 := Stand.of_body Bd
  have e0 : s₁.heap = h0 := by rw [← hh, Bd.state]; rfl
  have N0 := Fr.nil n0
  obtain ⟨S_w_EAST, E_w_EAST, F_w_EAST_ordinal, S_w_WEST, E_w_WEST, F_w_WEST_ordinal, S_CS, hCS⟩ := id G
  have k0 : Way p e below (s₁.setTop (entryFrame m #[(.int p1)] 1)) s₁ (mkF m 0 #[iv p1] []) := fun t k => castTop (by first | (simp [entryFrame, mkF, argsToLocals, Value.category]; done) | rfl) k
  generalize s₁.setTop (entryFrame m #[(.int p1)] 1) = S0 at k0 ⊢
  have k1 : Way p e below S0 s₁ (mkF m 12 #[iv p1] [(.int (1 : Int32))]) := by
    intro t k
    refine k0 t ?_
    refine XS.iloadN X0.here hx rfl (hb hby d_jdk_43_method_3_code_0) rfl ?_
    show Steps p.tables e below (s₁.setTop (mkF m 1 #[iv p1] [(.int p1)])) _
    refine XS.sipush X0.here hx rfl (hb hby d_jdk_43_method_3_code_1) ?_
    show Steps p.tables e below (s₁.setTop (mkF m 4 #[iv p1] [(.int (255 : Int32)), (.int p1)])) _
    refine XS.icmpNo X0.here hx rfl (hb hby d_jdk_43_method_3_code_4) rfl (flt (hq : ¬ ((255 : Int32) < p1))).2.2.1 ?_
    show Steps p.tables e below (s₁.setTop (mkF m 7 #[iv p1] [])) _
    refine XS.iconst X0.here hx rfl (hb hby d_jdk_43_method_3_code_7) ?_
    show Steps p.tables e below (s₁.setTop (mkF m 8 #[iv p1] [(.int (1 : Int32))])) _
    refine XS.goto X0.here hx rfl (pc0 := 8) (pc' := 12) rfl (hb hby d_jdk_43_method_3_code_8) (by decide) (by decide) ?_
    show Steps p.tables e below (s₁.setTop (mkF m 12 #[iv p1] [(.int (1 : Int32))])) _
    exact k
  obtain ⟨fs, hr, hrun, hended, hW, hsame⟩ := X0.leave (v := some (.int (1 : Int32))) (fun h => by rw [Bd.returns] at h; cases h)
  refine ⟨_, _, k1 _ (retN X0 hx (t := .boolean) Bd.returns (by simp) (hb hby d_jdk_43_method_3_code_12) hr), hrun, hended, _, _, rfl, ?_, ⟨_, rfl⟩, hW, hsame.mono (by decide) (by decide)⟩
  show Q_canEnc Z w_EAST w_WEST wCS p1 h0 n0 _ s₁.heap _
  rw [e0]
  exact ⟨rfl, N0, rfl⟩
def Q_toBytes (Z : State) (w_EAST : Addr) (w_WEST : Addr) (wCS : Int32) (p1 : Int32) (h0 : Heap) (n0 : Nat) (v : Option Value) (h : Heap) (L : List Loc) : Prop := ∃ b1 : Addr, ∃ kb : ClassId, (v = some (.ref b1)) ∧ (Fr n0 L) ∧ (Keep h0 h []) ∧ (h0.size ≤ b1) ∧ (Arv Z h b1 kb .byte (1 : Int32) [(.int ((p1.toInt8.toInt32).toInt8.toInt32))] (.int (0 : Int32))) ∧ (Exa Z h b1 "[B")
set_option maxRecDepth 65536 in
set_option maxHeartbeats 40000000 in
theorem toBytes (l : Launch) (Z : State) (a0 : Array Value) (hw : ∀ d ∈ tables_1, d.before a0 Z = true) (ws : List Jvm.Cond) (w_EAST : Addr) (w_WEST : Addr) (wCS : Int32) (G : Gst Z w_EAST w_WEST wCS) (p1 : Int32) (h0 : Heap) (n0 : Nat) (O0 : Old Z n0 h0) :
    MetFree l (⟨"java/lang/StringLatin1", "toBytes", "(C)[B"⟩ : MethodName) (head1 (Jvm.Cond.code (⟨"java/lang/StringLatin1", "toBytes", "(C)[B"⟩ : MethodName) jdk_43_method_46_code 1 (some (.array .byte)) :: ws) ({ frames := 0, cells := 1, slots := 1, locals := 0 } : Room)) (fun a U => a = #[(.int p1)] ∧ Z.Warmed39 U.vm ∧ U.heap = h0) (fun _ _ _ _ _ => True) (fun _ U o U' => ∃ v L, o = .returned v ∧ Q_toBytes Z w_EAST w_WEST wCS p1 h0 n0 v U'.heap L ∧ FrameEnd U o U' L ({ frames := 0, cells := 1, slots := 1, locals := 0 } : Room).cells ({ frames := 0, cells := 1, slots := 1, locals := 0 } : Room).slots) := by
  refine MetFree.of_bodySF (plainFor_of_name pn_2) hisR ?_
  intro p e s m args below meth c s₁ Bd hml0 hP hK
  obtain ⟨rfl, hZ, hh⟩ := hP
  have hx := Bd.exec
  have hby := Bd.bytes
  have hml : c.maxLocals = 1 := hml0
  have hown : s.vm.findClass "java/lang/StringLatin1" = some m.cls := findClass_of_methodNamed Bd.named
  have hnm := (name_of_methodNamed Bd.named Bd.method).1
  have X0 : Stand p l e ({ frames := 0, cells := 1, slots := 1, locals := 0 } : Room) s m #[(.int p1)] below meth c s₁ [] 0 0 := Stand.of_body Bd
  have e0 : s₁.heap = h0 := by rw [← hh, Bd.state]; rfl
  have N0 := Fr.nil n0
  obtain ⟨S_w_EAST, E_w_EAST, F_w_EAST_ordinal, S_w_WEST, E_w_WEST, F_w_WEST_ordinal, S_CS, hCS⟩ := id G
  have k0 : Way p e below (s₁.setTop (entryFrame m #[(.int p1)] 1)) s₁ (mkF m 0 #[iv p1] []) := fun t k => castTop (by first | (simp [entryFrame, mkF, argsToLocals, Value.category]; done) | rfl) k
  generalize s₁.setTop (entryFrame m #[(.int p1)] 1) = S0 at k0 ⊢
  have k1 : Way p e below S0 s₁ (mkF m 1 #[iv p1] [(.int (1 : Int32))]) := by
    intro t k
    refine k0 t ?_
    refine XS.iconst X0.here hx rfl (hb hby d_jdk_43_method_46_code_0) ?_
    show Steps p.tables e below (s₁.setTop (mkF m 1 #[iv p1] [(.int (1 : Int32))])) _
    exact k
  obtain ⟨T2, h2, c2, X2, e2, E2, A2, B2, st2⟩ := newPE X0 hx hZ (hw _ (List.mem_of_getElem? (i := 59) rfl)) e0 (g := (mkF m 1 #[iv p1] [(.int (1 : Int32))])) rfl (hb hby d_jdk_43_method_46_code_1) rfl (by decide) (cap := 1) (by decide) (by decide) (by decide) (by decide) (ad := "[B") (by decide)
  obtain ⟨b2, g2⟩ : ∃ z, z = h0.size := ⟨_, rfl⟩
  rw [← g2] at A2 B2 st2
  have O2 := O0.ext E2
  have K2 : Keep h0 h2 [] := (Keep.refl h0 []).ext E2
  have v2 : Arv Z h2 b2 c2 .byte (1 : Int32) [(.int (0 : Int32))] (.int (0 : Int32)) := (Arv.new A2 (by decide)).pad (pad_rep [] (.int (0 : Int32)) 1)
  have k3 : Way p e below S0 T2 (mkF m 3 #[iv p1] [(.ref b2)]) := fun t k => k1 t (st2 _ k)
  have k4 : Way p e below S0 T2 (mkF m 7 #[iv p1] [(.int (p1.toInt8.toInt32)), (.int (0 : Int32)), (.ref b2), (.ref b2)]) := by
    intro t k
    refine k3 t ?_
    refine XS.dup X2.here hx rfl (hb hby d_jdk_43_method_46_code_3) rfl rfl ?_
    show Steps p.tables e below (T2.setTop (mkF m 4 #[iv p1] [(.ref b2), (.ref b2)])) _
    refine XS.iconst X2.here hx rfl (hb hby d_jdk_43_method_46_code_4) ?_
    show Steps p.tables e below (T2.setTop (mkF m 5 #[iv p1] [(.int (0 : Int32)), (.ref b2), (.ref b2)])) _
    refine XS.iloadN X2.here hx rfl (hb hby d_jdk_43_method_46_code_5) rfl ?_
    show Steps p.tables e below (T2.setTop (mkF m 6 #[iv p1] [(.int p1), (.int (0 : Int32)), (.ref b2), (.ref b2)])) _
    refine XS.i2b X2.here hx rfl (hb hby d_jdk_43_method_46_code_6) rfl ?_
    show Steps p.tables e below (T2.setTop (mkF m 7 #[iv p1] [(.int (p1.toInt8.toInt32)), (.int (0 : Int32)), (.ref b2), (.ref b2)])) _
    exact k
  obtain ⟨cl5, Ar5, qc5, S5, M5, U5, G5⟩ := id (v2)
  have hin5 : ¬ ((0 : Int32) < 0 ∨ cl5.slots.size ≤ ((0 : Int32)).toNatClampNeg) := inb_of S5 ⟨by decide, by decide⟩
  obtain ⟨T5, h5, X5, e5, W5, st5⟩ := stB X2 hx hZ e2 Ar5 (j := (0 : Int32)) hin5 (g := (mkF m 7 #[iv p1] [(.int (p1.toInt8.toInt32)), (.int (0 : Int32)), (.ref b2), (.ref b2)])) rfl rfl (hb hby d_jdk_43_method_46_code_7)
  have ge6 : n0 ≤ b2 := Nat.le_trans (own_old O0) (Nat.le_of_eq g2.symm)
  have O5 := O2.wr W5 ge6
  have N5 := Fr.snoc X5 N0 ge6
  have gz7 : h0.size ≤ b2 := Nat.le_trans (Keep.refl h0 []).1 (Nat.le_of_eq g2.symm)
  have K5 : Keep h0 h5 [] := K2.wr W5 (Or.inr gz7)
  have va5 : Arv Z h5 b2 c2 .byte (1 : Int32) [(.int ((p1.toInt8.toInt32).toInt8.toInt32))] (.int (0 : Int32)) := Arv.set Ar5 qc5 S5 M5 U5 G5 (fits_nar_byte _) W5 0 rfl (Nat.le_of_ble_eq_true rfl)
  have k8 : Way p e below S0 T5 (mkF m 8 #[iv p1] [(.ref b2)]) := fun t k => k4 t (st5 _ k)
  obtain ⟨fs, hr, hrun, hended, hW, hsame⟩ := X5.leave (v := some (.ref b2)) (fun h => by rw [Bd.returns] at h; cases h)
  have f9 : Exa Z h5 b2 "[B" := (B2.wr W5)
  refine ⟨_, _, k8 _ (retOut X5 hx Bd.returns rfl (Or.inr (Or.inr (Or.inr (Or.inr ⟨rfl, rfl, rfl⟩)))) (hb hby d_jdk_43_method_46_code_8) hr), hrun, hended, _, _, rfl, ?_, ⟨_, rfl⟩, hW, hsame.mono (by decide) (by decide)⟩
  show Q_toBytes Z w_EAST w_WEST wCS p1 h0 n0 _ T5.heap _
  rw [e5]
  exact ⟨b2, c2, rfl, N5, K5, gz7, va5, f9⟩
def Q_sinitB (Z : State) (w_EAST : Addr) (w_WEST : Addr) (wCS : Int32) (a1 : Addr) (a2 : Addr) (h0 : Heap) (n0 : Nat) (v : Option Value) (h : Heap) (L : List Loc) : Prop := (v = none) ∧ (Fr n0 L) ∧ (Keep h0 h [a1]) ∧ (Exa Z h a1 "java/lang/String") ∧ (Fld Z h a1 "java/lang/String" "value" "[B" (.ref a2)) ∧ (Fld Z h a1 "java/lang/String" "coder" "B" (.int (0 : Int32)))
set_option maxRecDepth 65536 in
set_option maxHeartbeats 40000000 in
theorem sinitB (l : Launch) (Z : State) (a0 : Array Value) (hw : ∀ d ∈ tables_1, d.before a0 Z = true) (ws : List Jvm.Cond) (w_EAST : Addr) (w_WEST : Addr) (wCS : Int32) (G : Gst Z w_EAST w_WEST wCS) (a1 : Addr) (a2 : Addr) (h0 : Heap) (n0 : Nat) (O0 : Old Z n0 h0) (a_0 : Exa Z h0 a1 "java/lang/String") (a_1 : Fld Z h0 a1 "java/lang/String" "value" "[B" .null) (a_2 : Fld Z h0 a1 "java/lang/String" "coder" "B" (.int (0 : Int32))) (ga1 : n0 ≤ a1) :
    MetFree l (⟨"java/lang/String", "<init>", "([BB)V"⟩ : MethodName) (head1 (Jvm.Cond.code (⟨"java/lang/String", "<init>", "([BB)V"⟩ : MethodName) jdk_42_method_151_code 3 none :: ws) ({ frames := 1, cells := 0, slots := 0, locals := 12 } : Room)) (fun a U => a = #[(.ref a1), (.ref a2), (.int (0 : Int32))] ∧ Z.Warmed39 U.vm ∧ U.heap = h0) (fun _ _ _ _ _ => True) (fun _ U o U' => ∃ v L, o = .returned v ∧ Q_sinitB Z w_EAST w_WEST wCS a1 a2 h0 n0 v U'.heap L ∧ FrameEnd U o U' L ({ frames := 1, cells := 0, slots := 0, locals := 12 } : Room).cells ({ frames := 1, cells := 0, slots := 0, locals := 12 } : Room).slots) := by
  refine MetFree.of_bodySF (plainFor_of_name pn_1) hisR ?_
  intro p e s m args below meth c s₁ Bd hml0 hP hK
  obtain ⟨rfl, hZ, hh⟩ := hP
  have hx := Bd.exec
  have hby := Bd.bytes
  have hml : c.maxLocals = 3 := hml0
  have hown : s.vm.findClass "java/lang/String" = some m.cls := findClass_of_methodNamed Bd.named
  have hnm := (name_of_methodNamed Bd.named Bd.method).1
  have X0 : Stand p l e ({ frames := 1, cells := 0, slots := 0, locals := 12 } : Room) s m #[(.ref a1), (.ref a2), (.int (0 : Int32))] below meth c s₁ [] 0 0 := Stand.of_body Bd
  have e0 : s₁.heap = h0 := by rw [← hh, Bd.state]; rfl
  have N0 := Fr.nil n0
  obtain ⟨S_w_EAST, E_w_EAST, F_w_EAST_ordinal, S_w_WEST, E_w_WEST, F_w_WEST_ordinal, S_CS, hCS⟩ := id G
  have k0 : Way p e below (s₁.setTop (entryFrame m #[(.ref a1), (.ref a2), (.int (0 : Int32))] 3)) s₁ (mkF m 0 #[rv a1, rv a2, iv (0 : Int32)] []) := fun t k => castTop (by first | (simp [entryFrame, mkF, argsToLocals, Value.category]; done) | rfl) k
  generalize s₁.setTop (entryFrame m #[(.ref a1), (.ref a2), (.int (0 : Int32))] 3) = S0 at k0 ⊢
  have k1 : Way p e below S0 s₁ (mkF m 1 #[rv a1, rv a2, iv (0 : Int32)] [(.ref a1)]) := by
    intro t k
    refine k0 t ?_
    refine XS.aloadN X0.here hx rfl (hb hby d_jdk_42_method_151_code_0) rfl rfl ?_
    show Steps p.tables e below (s₁.setTop (mkF m 1 #[rv a1, rv a2, iv (0 : Int32)] [(.ref a1)])) _
    exact k
  obtain ⟨T2, X2, e2, st2⟩ := initO X0 hx hZ hown (hw _ (List.mem_of_getElem? (i := 57) rfl)) (hw _ (List.mem_of_getElem? (i := 15) rfl)) (hw _ (List.mem_of_getElem? (i := 16) rfl)) e0 (g := (mkF m 1 #[rv a1, rv a2, iv (0 : Int32)] [(.ref a1)])) rfl (by rw [hml]; rfl) rfl (hb hby d_jdk_42_method_151_code_1) (by decide) (W := 0) (by show 2 * 0 + _ ≤ _; exact Nat.le_of_eq rfl) (by decide)
  have k3 : Way p e below S0 T2 (mkF m 4 #[rv a1, rv a2, iv (0 : Int32)] []) := fun t k => k1 t (st2 _ k)
  have k4 : Way p e below S0 T2 (mkF m 6 #[rv a1, rv a2, iv (0 : Int32)] [(.ref a2), (.ref a1)]) := by
    intro t k
    refine k3 t ?_
    refine XS.aloadN X2.here hx rfl (hb hby d_jdk_42_method_151_code_4) rfl rfl ?_
    show Steps p.tables e below (T2.setTop (mkF m 5 #[rv a1, rv a2, iv (0 : Int32)] [(.ref a1)])) _
    refine XS.aloadN X2.here hx rfl (hb hby d_jdk_42_method_151_code_5) rfl rfl ?_
    show Steps p.tables e below (T2.setTop (mkF m 6 #[rv a1, rv a2, iv (0 : Int32)] [(.ref a2), (.ref a1)])) _
    exact k
  obtain ⟨T5, h5, X5, e5, W5, st5⟩ := putF X2 hx hZ hown (host := "") (Or.inl (hw _ (List.mem_of_getElem? (i := 64) rfl))) Via.refl e2 a_1 a_0 (Or.inr ⟨(hw _ (List.mem_of_getElem? (i := 60) rfl)), rfl, hnm⟩) (hw _ (List.mem_of_getElem? (i := 47) rfl)) (ty := (.array .byte)) (by decide) rfl rfl (g := (mkF m 6 #[rv a1, rv a2, iv (0 : Int32)] [(.ref a2), (.ref a1)])) rfl rfl (hb hby d_jdk_42_method_151_code_6)
  have O5 := O0.wr W5 ga1
  have N5 := Fr.snoc X5 N0 ga1
  have K5 : Keep h0 h5 [a1] := (Keep.refl h0 [a1]).wr W5 (Or.inl (List.mem_of_getElem? (i := 0) rfl))
  have fw5 : Fld Z h5 a1 "java/lang/String" "value" "[B" (.ref a2) := a_1.same W5
  have k6 : Way p e below S0 T5 (mkF m 9 #[rv a1, rv a2, iv (0 : Int32)] []) := fun t k => k4 t (st5 _ k)
  have k7 : Way p e below S0 T5 (mkF m 11 #[rv a1, rv a2, iv (0 : Int32)] [(.int (0 : Int32)), (.ref a1)]) := by
    intro t k
    refine k6 t ?_
    refine XS.aloadN X5.here hx rfl (hb hby d_jdk_42_method_151_code_9) rfl rfl ?_
    show Steps p.tables e below (T5.setTop (mkF m 10 #[rv a1, rv a2, iv (0 : Int32)] [(.ref a1)])) _
    refine XS.iloadN X5.here hx rfl (hb hby d_jdk_42_method_151_code_10) rfl ?_
    show Steps p.tables e below (T5.setTop (mkF m 11 #[rv a1, rv a2, iv (0 : Int32)] [(.int (0 : Int32)), (.ref a1)])) _
    exact k
  have f8 : Fld Z h5 a1 "java/lang/String" "coder" "B" (.int (0 : Int32)) := (a_2.other W5 (Or.inr (slot_ne (Or.inr (hw _ (List.mem_of_getElem? (i := 61) rfl))) (Or.inr (hw _ (List.mem_of_getElem? (i := 60) rfl))) (by decide) (t := .byte) (t' := (.array .byte)) (by decide) (by decide))))
  have f9 : Exa Z h5 a1 "java/lang/String" := (a_0.wr W5)
  obtain ⟨T10, h10, X10, e10, W10, st10⟩ := putFN X5 hx hZ hown (hw _ (List.mem_of_getElem? (i := 65) rfl)) Via.refl e5 f8 f9 (Or.inr ⟨(hw _ (List.mem_of_getElem? (i := 61) rfl)), rfl, hnm⟩) (hw _ (List.mem_of_getElem? (i := 47) rfl)) (ty := .byte) (v' := (.int (0 : Int32))) (by decide) rfl rfl (g := (mkF m 11 #[rv a1, rv a2, iv (0 : Int32)] [(.int (0 : Int32)), (.ref a1)])) rfl rfl (hb hby d_jdk_42_method_151_code_11)
  have O10 := O5.wr W10 ga1
  have N10 := Fr.snoc X10 N5 ga1
  have K10 : Keep h0 h10 [a1] := K5.wr W10 (Or.inl (List.mem_of_getElem? (i := 0) rfl))
  have fw10 : Fld Z h10 a1 "java/lang/String" "coder" "B" (.int (0 : Int32)) := f8.same W10
  have k11 : Way p e below S0 T10 (mkF m 14 #[rv a1, rv a2, iv (0 : Int32)] []) := fun t k => k7 t (st10 _ k)
  obtain ⟨fs, hr, hrun, hended, hW, hsame⟩ := X10.leave (v := none) (fun _ => rfl)
  have f12 : Exa Z h10 a1 "java/lang/String" := (f9.wr W10)
  have f13 : Fld Z h10 a1 "java/lang/String" "value" "[B" (.ref a2) := (fw5.other W10 (Or.inr (slot_ne (Or.inr (hw _ (List.mem_of_getElem? (i := 60) rfl))) (Or.inr (hw _ (List.mem_of_getElem? (i := 61) rfl))) (by decide) (t := (.array .byte)) (t' := .byte) (by decide) (by decide))))
  refine ⟨_, _, k11 _ (X10.returnOut hx Bd.returns (hb hby d_jdk_42_method_151_code_14) hr), hrun, hended, _, _, rfl, ?_, ⟨_, rfl⟩, hW, hsame.mono (by decide) (by decide)⟩
  show Q_sinitB Z w_EAST w_WEST wCS a1 a2 h0 n0 _ T10.heap _
  rw [e10]
  exact ⟨rfl, N10, K10, f12, f13, fw10⟩
def Q_svalueOf (Z : State) (w_EAST : Addr) (w_WEST : Addr) (wCS : Int32) (p1 : Int32) (h0 : Heap) (n0 : Nat) (v : Option Value) (h : Heap) (L : List Loc) : Prop := ∃ b1 : Addr, ∃ d1 : Addr, ∃ kb : ClassId, (v = some (.ref b1)) ∧ (Fr n0 L) ∧ (Keep h0 h []) ∧ (h0.size ≤ b1) ∧ (h0.size ≤ d1) ∧ (Exa Z h b1 "java/lang/String") ∧ (Fld Z h b1 "java/lang/String" "value" "[B" (.ref d1)) ∧ (Fld Z h b1 "java/lang/String" "coder" "B" (.int (0 : Int32))) ∧ (Arv Z h d1 kb .byte (1 : Int32) [(.int ((p1.toInt8.toInt32).toInt8.toInt32))] (.int (0 : Int32))) ∧ (Exa Z h d1 "[B")
set_option maxRecDepth 65536 in
set_option maxHeartbeats 40000000 in
theorem svalueOf (l : Launch) (Z : State) (a0 : Array Value) (hw : ∀ d ∈ tables_1, d.before a0 Z = true) (ws : List Jvm.Cond) (w_EAST : Addr) (w_WEST : Addr) (wCS : Int32) (G : Gst Z w_EAST w_WEST wCS) (p1 : Int32) (h0 : Heap) (n0 : Nat) (O0 : Old Z n0 h0) (hq : ¬ ((255 : Int32) < p1)) :
    MetFree l (⟨"java/lang/String", "valueOf", "(C)Ljava/lang/String;"⟩ : MethodName) (head1 (Jvm.Cond.code (⟨"java/lang/String", "valueOf", "(C)Ljava/lang/String;"⟩ : MethodName) jdk_42_method_139_code 1 (some (.object "java/lang/String")) :: ws) ({ frames := 2, cells := 2, slots := 5, locals := 27 } : Room)) (fun a U => a = #[(.int p1)] ∧ Z.Warmed39 U.vm ∧ U.heap = h0) (fun _ _ _ _ _ => True) (fun _ U o U' => ∃ v L, o = .returned v ∧ Q_svalueOf Z w_EAST w_WEST wCS p1 h0 n0 v U'.heap L ∧ FrameEnd U o U' L ({ frames := 2, cells := 2, slots := 5, locals := 27 } : Room).cells ({ frames := 2, cells := 2, slots := 5, locals := 27 } : Room).slots) := by
  refine MetFree.of_bodySF (plainFor_of_name pn_1) hisR ?_
  intro p e s m args below meth c s₁ Bd hml0 hP hK
  obtain ⟨rfl, hZ, hh⟩ := hP
  have hx := Bd.exec
  have hby := Bd.bytes
  have hml : c.maxLocals = 1 := hml0
  have hown : s.vm.findClass "java/lang/String" = some m.cls := findClass_of_methodNamed Bd.named
  have hnm := (name_of_methodNamed Bd.named Bd.method).1
  have X0 : Stand p l e ({ frames := 2, cells := 2, slots := 5, locals := 27 } : Room) s m #[(.int p1)] below meth c s₁ [] 0 0 := Stand.of_body Bd
  have e0 : s₁.heap = h0 := by rw [← hh, Bd.state]; rfl
  have N0 := Fr.nil n0
  obtain ⟨S_w_EAST, E_w_EAST, F_w_EAST_ordinal, S_w_WEST, E_w_WEST, F_w_WEST_ordinal, S_CS, hCS⟩ := id G
  have k0 : Way p e below (s₁.setTop (entryFrame m #[(.int p1)] 1)) s₁ (mkF m 0 #[iv p1] []) := fun t k => castTop (by first | (simp [entryFrame, mkF, argsToLocals, Value.category]; done) | rfl) k
  generalize s₁.setTop (entryFrame m #[(.int p1)] 1) = S0 at k0 ⊢
  obtain ⟨T1, X1, e1, st1⟩ := getS2 X0 hx hZ hown (host := "") (Or.inl (hw _ (List.mem_of_getElem? (i := 74) rfl))) Via.refl e0 (S_CS.ext O0.2) (g := (mkF m 0 #[iv p1] [])) rfl (hb hby d_jdk_42_method_139_code_0)
  have k2 : Way p e below S0 T1 (mkF m 3 #[iv p1] [(.int wCS)]) := fun t k => k0 t (st1 _ k)
  have k3 : Way p e below S0 T1 (mkF m 7 #[iv p1] [(.int p1)]) := by
    intro t k
    refine k2 t ?_
    refine XS.ifNo X1.here hx rfl (hb hby d_jdk_42_method_139_code_3) rfl ((if0 _ _).trans (feq (hCS : ¬ (wCS = (0 : Int32)))).1) ?_
    show Steps p.tables e below (T1.setTop (mkF m 6 #[iv p1] [])) _
    refine XS.iloadN X1.here hx rfl (hb hby d_jdk_42_method_139_code_6) rfl ?_
    show Steps p.tables e below (T1.setTop (mkF m 7 #[iv p1] [(.int p1)])) _
    exact k
  obtain ⟨_, _, ⟨T4, L4, kk4, nn4⟩, -, X4, ⟨Lc4, hQ4, l4, y4, z4⟩, st4⟩ := Jvm.LawKit.callS X1 hx (y := (⟨"java/lang/StringLatin1", "canEncode", "(C)Z"⟩ : MethodName)) hown (mvT hZ (hw _ (List.mem_of_getElem? (i := 75) rfl))) (mvT hZ (hw _ (List.mem_of_getElem? (i := 76) rfl))) (mvT hZ (hw _ (List.mem_of_getElem? (i := 77) rfl))) (mvT hZ (hw _ (List.mem_of_getElem? (i := 78) rfl))) (by decide) (backOf (W := 0) (canEnc l Z a0 hw [] w_EAST w_WEST wCS G p1 h0 n0 O0 (by first | assumption | decide | omega : ¬ ((255 : Int32) < p1))) hZ (hw _ (List.mem_of_getElem? (i := 78) rfl)) (hw _ (List.mem_of_getElem? (i := 77) rfl)) (by decide) (by decide)) (g := (mkF m 7 #[iv p1] [(.int p1)])) rfl (by rw [hml]; rfl) (argsL := [(.int p1)]) (rest := []) (lenOf pd_4 rfl) rfl (by show 2 * 0 + _ ≤ _; exact Nat.le_of_eq rfl) (hb hby d_jdk_42_method_139_code_7) (fun _ _ => ⟨rfl, e1, (by decide : 0 + 0 ≤ _), (by decide : 0 + 0 ≤ _)⟩)
  dsimp only [Pt.U, Pt.locs, Pt.cells, Pt.slots] at X4 l4 y4 z4 st4 hQ4
  subst l4 y4 z4
  obtain ⟨rfl, Nq4, e4⟩ := hQ4
  have N4 := Fr.app N0 Nq4
  have k5 : Way p e below S0 T4 (mkF m 10 #[iv p1] [(.int (1 : Int32))]) := fun t k => k3 t (st4 _ k)
  have k6 : Way p e below S0 T4 (mkF m 13 #[iv p1] []) := by
    intro t k
    refine k5 t ?_
    refine XS.ifNo X4.here hx rfl (hb hby d_jdk_42_method_139_code_10) rfl ((if0 _ _).trans (feq ((by decide) : ¬ ((1 : Int32) = (0 : Int32)))).1) ?_
    show Steps p.tables e below (T4.setTop (mkF m 13 #[iv p1] [])) _
    exact k
  obtain ⟨T7, h7, X7, e7, E7, A7, D7, U7, st7⟩ := newO X4 hx hZ hown (hw _ (List.mem_of_getElem? (i := 79) rfl)) (hw _ (List.mem_of_getElem? (i := 47) rfl)) (hw _ (List.mem_of_getElem? (i := 48) rfl)) e4 (g := (mkF m 13 #[iv p1] [])) rfl (hb hby d_jdk_42_method_139_code_13) (by decide) (by decide)
  obtain ⟨b7, g7⟩ : ∃ z, z = h0.size := ⟨_, rfl⟩
  rw [← g7] at A7 D7 U7 st7
  have O7 := O0.ext E7
  have K7 : Keep h0 h7 [] := (Keep.refl h0 []).ext E7
  have i7_value : Fld Z h7 b7 "java/lang/String" "value" "[B" .null := D7 (Or.inr (hw _ (List.mem_of_getElem? (i := 60) rfl))) (ty := (.array .byte)) (by decide)
  have i7_coder : Fld Z h7 b7 "java/lang/String" "coder" "B" (.int (0 : Int32)) := D7 (Or.inr (hw _ (List.mem_of_getElem? (i := 61) rfl))) (ty := .byte) (by decide)
  have k8 : Way p e below S0 T7 (mkF m 16 #[iv p1] [(.ref b7)]) := fun t k => k6 t (st7 _ k)
  have k9 : Way p e below S0 T7 (mkF m 18 #[iv p1] [(.int p1), (.ref b7), (.ref b7)]) := by
    intro t k
    refine k8 t ?_
    refine XS.dup X7.here hx rfl (hb hby d_jdk_42_method_139_code_16) rfl rfl ?_
    show Steps p.tables e below (T7.setTop (mkF m 17 #[iv p1] [(.ref b7), (.ref b7)])) _
    refine XS.iloadN X7.here hx rfl (hb hby d_jdk_42_method_139_code_17) rfl ?_
    show Steps p.tables e below (T7.setTop (mkF m 18 #[iv p1] [(.int p1), (.ref b7), (.ref b7)])) _
    exact k
  obtain ⟨_, _, ⟨T10, L10, kk10, nn10⟩, -, X10, ⟨Lc10, hQ10, l10, y10, z10⟩, st10⟩ := Jvm.LawKit.callS X7 hx (y := (⟨"java/lang/StringLatin1", "toBytes", "(C)[B"⟩ : MethodName)) hown (mvT hZ (hw _ (List.mem_of_getElem? (i := 80) rfl))) (mvT hZ (hw _ (List.mem_of_getElem? (i := 81) rfl))) (mvT hZ (hw _ (List.mem_of_getElem? (i := 77) rfl))) (mvT hZ (hw _ (List.mem_of_getElem? (i := 82) rfl))) (by decide) (backOf (W := 2) (toBytes l Z a0 hw [] w_EAST w_WEST wCS G p1 h7 n0 O7 ) hZ (hw _ (List.mem_of_getElem? (i := 82) rfl)) (hw _ (List.mem_of_getElem? (i := 77) rfl)) (by decide) (by decide)) (g := (mkF m 18 #[iv p1] [(.int p1), (.ref b7), (.ref b7)])) rfl (by rw [hml]; rfl) (argsL := [(.int p1)]) (rest := [(.ref b7), (.ref b7)]) (lenOf pd_5 rfl) rfl (by show 2 * 0 + _ ≤ _; exact Nat.le_of_eq rfl) (hb hby d_jdk_42_method_139_code_18) (fun _ _ => ⟨rfl, e7, (by decide : 1 + 1 ≤ _), (by decide : 4 + 1 ≤ _)⟩)
  dsimp only [Pt.U, Pt.locs, Pt.cells, Pt.slots] at X10 l10 y10 z10 st10 hQ10
  subst l10 y10 z10
  obtain ⟨b1_10, kb_10, rfl, Nq10, Kq10, po10_0, po10_1, po10_2⟩ := hQ10
  have N10 := Fr.app N4 Nq10
  have O10 := O7.keep Kq10 all0
  have K10 : Keep h0 T10.heap [] := K7.trans Kq10 all0
  have k11 : Way p e below S0 T10 (mkF m 21 #[iv p1] [(.ref b1_10), (.ref b7), (.ref b7)]) := fun t k => k9 t (st10 _ k)
  have k12 : Way p e below S0 T10 (mkF m 22 #[iv p1] [(.int (0 : Int32)), (.ref b1_10), (.ref b7), (.ref b7)]) := by
    intro t k
    refine k11 t ?_
    refine XS.iconst X10.here hx rfl (hb hby d_jdk_42_method_139_code_21) ?_
    show Steps p.tables e below (T10.setTop (mkF m 22 #[iv p1] [(.int (0 : Int32)), (.ref b1_10), (.ref b7), (.ref b7)])) _
    exact k
  have f13 : Exa Z T10.heap b7 "java/lang/String" := (A7.keep Kq10)
  have f14 : Fld Z T10.heap b7 "java/lang/String" "value" "[B" .null := (i7_value.keep Kq10 nin0)
  have f15 : Fld Z T10.heap b7 "java/lang/String" "coder" "B" (.int (0 : Int32)) := (i7_coder.keep Kq10 nin0)
  have ge16 : n0 ≤ b7 := Nat.le_trans (own_old O0) (Nat.le_of_eq g7.symm)
  obtain ⟨_, _, ⟨T17, L17, kk17, nn17⟩, -, X17, ⟨Lc17, hQ17, l17, y17, z17⟩, st17⟩ := X10.specialBack hx (y := (⟨"java/lang/String", "<init>", "([BB)V"⟩ : MethodName)) rfl hown (mvT hZ (hw _ (List.mem_of_getElem? (i := 83) rfl))) (mvT hZ (hw _ (List.mem_of_getElem? (i := 84) rfl))) (mvT hZ (hw _ (List.mem_of_getElem? (i := 85) rfl))) (by decide) (backOf (W := 1) (sinitB l Z a0 hw [] w_EAST w_WEST wCS G b7 b1_10 T10.heap n0 O10 (f13 : Exa Z T10.heap b7 "java/lang/String") (f14 : Fld Z T10.heap b7 "java/lang/String" "value" "[B" .null) (f15 : Fld Z T10.heap b7 "java/lang/String" "coder" "B" (.int (0 : Int32))) (ge16 : n0 ≤ b7)) hZ (hw _ (List.mem_of_getElem? (i := 85) rfl)) (hw _ (List.mem_of_getElem? (i := 48) rfl)) (by decide) (by decide)) (g := (mkF m 22 #[iv p1] [(.int (0 : Int32)), (.ref b1_10), (.ref b7), (.ref b7)])) rfl (by rw [hml]; rfl) (Steps.refl _) (a := b7) (argsL := [(.ref b1_10), (.int (0 : Int32))]) (rest := [(.ref b7)]) (lenOf pd_6 rfl) rfl (by show 2 * 0 + _ ≤ _; exact Nat.le_of_eq rfl) (hb hby d_jdk_42_method_139_code_22) (fun _ _ => ⟨rfl, rfl, (by decide : 2 + 0 ≤ _), (by decide : 5 + 0 ≤ _)⟩)
  dsimp only [Pt.U, Pt.locs, Pt.cells, Pt.slots] at X17 l17 y17 z17 st17 hQ17
  subst l17 y17 z17
  obtain ⟨rfl, Nq17, Kq17, po17_0, po17_1, po17_2⟩ := hQ17
  have N17 := Fr.app N10 Nq17
  have O17 := O10.keep Kq17 (allS ge16 all0)
  have gz18 : h0.size ≤ b7 := Nat.le_trans (Keep.refl h0 []).1 (Nat.le_of_eq g7.symm)
  have K17 : Keep h0 T17.heap [] := K10.trans Kq17 (allS (Or.inr gz18) all0)
  have k19 : Way p e below S0 T17 (mkF m 25 #[iv p1] [(.ref b7)]) := fun t k => k12 t (st17.trans k)
  obtain ⟨fs, hr, hrun, hended, hW, hsame⟩ := X17.leave (v := some (.ref b7)) (fun h => by rw [Bd.returns] at h; cases h)
  have gz20 : h0.size ≤ b1_10 := Nat.le_trans K7.1 po10_0
  have f21 : Arv Z T17.heap b1_10 kb_10 .byte (1 : Int32) [(.int ((p1.toInt8.toInt32).toInt8.toInt32))] (.int (0 : Int32)) := (po10_1.keep Kq17 (ninS (Ne.symm (Nat.ne_of_lt (Nat.lt_of_lt_of_le A7.lt po10_0))) nin0))
  have f22 : Exa Z T17.heap b1_10 "[B" := (po10_2.keep Kq17)
  refine ⟨_, _, k19 _ (retOut X17 hx Bd.returns rfl (Or.inr (Or.inr (Or.inr (Or.inr ⟨rfl, rfl, rfl⟩)))) (hb hby d_jdk_42_method_139_code_25) hr), hrun, hended, _, _, rfl, ?_, ⟨_, rfl⟩, hW, hsame.mono (by decide) (by decide)⟩
  show Q_svalueOf Z w_EAST w_WEST wCS p1 h0 n0 _ T17.heap _
  exact ⟨b7, b1_10, kb_10, rfl, N17, K17, gz18, gz20, po17_0, po17_1, po17_2, f21, f22⟩
def Q_recInit (Z : State) (w_EAST : Addr) (w_WEST : Addr) (wCS : Int32) (a1 : Addr) (h0 : Heap) (n0 : Nat) (v : Option Value) (h : Heap) (L : List Loc) : Prop := (v = none) ∧ (Fr n0 L) ∧ (h = h0)
set_option maxRecDepth 65536 in
set_option maxHeartbeats 40000000 in
theorem recInit (l : Launch) (Z : State) (a0 : Array Value) (hw : ∀ d ∈ tables_1, d.before a0 Z = true) (ws : List Jvm.Cond) (w_EAST : Addr) (w_WEST : Addr) (wCS : Int32) (G : Gst Z w_EAST w_WEST wCS) (a1 : Addr) (h0 : Heap) (n0 : Nat) (O0 : Old Z n0 h0) :
    MetFree l (⟨"java/lang/Record", "<init>", "()V"⟩ : MethodName) (head1 (Jvm.Cond.code (⟨"java/lang/Record", "<init>", "()V"⟩ : MethodName) jdk_30_method_1_code 1 none :: ws) ({ frames := 1, cells := 0, slots := 0, locals := 12 } : Room)) (fun a U => a = #[(.ref a1)] ∧ Z.Warmed39 U.vm ∧ U.heap = h0) (fun _ _ _ _ _ => True) (fun _ U o U' => ∃ v L, o = .returned v ∧ Q_recInit Z w_EAST w_WEST wCS a1 h0 n0 v U'.heap L ∧ FrameEnd U o U' L ({ frames := 1, cells := 0, slots := 0, locals := 12 } : Room).cells ({ frames := 1, cells := 0, slots := 0, locals := 12 } : Room).slots) := by
  refine MetFree.of_bodySF (plainFor_of_name pn_3) hisR ?_
  intro p e s m args below meth c s₁ Bd hml0 hP hK
  obtain ⟨rfl, hZ, hh⟩ := hP
  have hx := Bd.exec
  have hby := Bd.bytes
  have hml : c.maxLocals = 1 := hml0
  have hown : s.vm.findClass "java/lang/Record" = some m.cls := findClass_of_methodNamed Bd.named
  have hnm := (name_of_methodNamed Bd.named Bd.method).1
  have X0 : Stand p l e ({ frames := 1, cells := 0, slots := 0, locals := 12 } : Room) s m #[(.ref a1)] below meth c s₁ [] 0 0 := Stand.of_body Bd
  have e0 : s₁.heap = h0 := by rw [← hh, Bd.state]; rfl
  have N0 := Fr.nil n0
  obtain ⟨S_w_EAST, E_w_EAST, F_w_EAST_ordinal, S_w_WEST, E_w_WEST, F_w_WEST_ordinal, S_CS, hCS⟩ := id G
  have k0 : Way p e below (s₁.setTop (entryFrame m #[(.ref a1)] 1)) s₁ (mkF m 0 #[rv a1] []) := fun t k => castTop (by first | (simp [entryFrame, mkF, argsToLocals, Value.category]; done) | rfl) k
  generalize s₁.setTop (entryFrame m #[(.ref a1)] 1) = S0 at k0 ⊢
  have k1 : Way p e below S0 s₁ (mkF m 1 #[rv a1] [(.ref a1)]) := by
    intro t k
    refine k0 t ?_
    refine XS.aloadN X0.here hx rfl (hb hby d_jdk_30_method_1_code_0) rfl rfl ?_
    show Steps p.tables e below (s₁.setTop (mkF m 1 #[rv a1] [(.ref a1)])) _
    exact k
  obtain ⟨T2, X2, e2, st2⟩ := initO X0 hx hZ hown (hw _ (List.mem_of_getElem? (i := 14) rfl)) (hw _ (List.mem_of_getElem? (i := 15) rfl)) (hw _ (List.mem_of_getElem? (i := 16) rfl)) e0 (g := (mkF m 1 #[rv a1] [(.ref a1)])) rfl (by rw [hml]; rfl) rfl (hb hby d_jdk_30_method_1_code_1) (by decide) (W := 0) (by show 2 * 0 + _ ≤ _; exact Nat.le_of_eq rfl) (by decide)
  have k3 : Way p e below S0 T2 (mkF m 4 #[rv a1] []) := fun t k => k1 t (st2 _ k)
  obtain ⟨fs, hr, hrun, hended, hW, hsame⟩ := X2.leave (v := none) (fun _ => rfl)
  refine ⟨_, _, k3 _ (X2.returnOut hx Bd.returns (hb hby d_jdk_30_method_1_code_4) hr), hrun, hended, _, _, rfl, ?_, ⟨_, rfl⟩, hW, hsame.mono (by decide) (by decide)⟩
  show Q_recInit Z w_EAST w_WEST wCS a1 h0 n0 _ T2.heap _
  rw [e2]
  exact ⟨rfl, N0, rfl⟩
def Q_einit4 (Z : State) (w_EAST : Addr) (w_WEST : Addr) (wCS : Int32) (a1 : Addr) (a2 : Addr) (kc : ClassId) (h0 : Heap) (n0 : Nat) (v : Option Value) (h : Heap) (L : List Loc) : Prop := (v = none) ∧ (Fr n0 L) ∧ (Keep h0 h [a1]) ∧ (Exa Z h a1 "java/lang/String")
set_option maxRecDepth 65536 in
set_option maxHeartbeats 40000000 in
theorem einit4 (l : Launch) (Z : State) (a0 : Array Value) (hw : ∀ d ∈ tables_1, d.before a0 Z = true) (ws : List Jvm.Cond) (w_EAST : Addr) (w_WEST : Addr) (wCS : Int32) (G : Gst Z w_EAST w_WEST wCS) (a1 : Addr) (a2 : Addr) (kc : ClassId) (h0 : Heap) (n0 : Nat) (O0 : Old Z n0 h0) (a_0 : Exa Z h0 a1 "java/lang/String") (a_1 : Fld Z h0 a1 "java/lang/String" "value" "[B" .null) (a_2 : Fld Z h0 a1 "java/lang/String" "coder" "B" (.int (0 : Int32))) (ga1 : n0 ≤ a1) (a_4 : Arv Z h0 a2 kc .char (0 : Int32) [] (.int (0 : Int32))) (hh7 : Jvm.Lit.constHeld Z "java/lang/String" 7) (hcw : Jvm.Lit.compactW.before a0 Z = true) :
    MetFree l (⟨"java/lang/String", "<init>", "([CIILjava/lang/Void;)V"⟩ : MethodName) (head1 (Jvm.Cond.code (⟨"java/lang/String", "<init>", "([CIILjava/lang/Void;)V"⟩ : MethodName) jdk_42_method_149_code 6 none :: ws) ({ frames := 1, cells := 2, slots := 4, locals := 12 } : Room)) (fun a U => a = #[(.ref a1), (.ref a2), (.int (0 : Int32)), (.int (0 : Int32)), .null] ∧ Z.Warmed39 U.vm ∧ U.heap = h0 ∧ IB Z U.vm []) (fun _ _ _ _ _ => True) (fun _ U o U' => ∃ v L, o = .returned v ∧ Q_einit4 Z w_EAST w_WEST wCS a1 a2 kc h0 n0 v U'.heap L ∧ ReturnedEndW U o U' L ({ frames := 1, cells := 2, slots := 4, locals := 12 } : Room).cells ({ frames := 1, cells := 2, slots := 4, locals := 12 } : Room).slots) := by
  refine MetFree.of_bodySF (plainFor_of_name pn_1) hisR ?_
  intro p e s m args below meth c s₁ Bd hml0 hP hK
  obtain ⟨rfl, hZ, hh, I0⟩ := hP
  have hx := Bd.exec
  have hby := Bd.bytes
  have hml : c.maxLocals = 6 := hml0
  have hown : s.vm.findClass "java/lang/String" = some m.cls := findClass_of_methodNamed Bd.named
  have hnm := (name_of_methodNamed Bd.named Bd.method).1
  have X0 : Stand p l e ({ frames := 1, cells := 2, slots := 4, locals := 12 } : Room) s m #[(.ref a1), (.ref a2), (.int (0 : Int32)), (.int (0 : Int32)), .null] below meth c s₁ [] 0 0 := Stand.of_body Bd
  have e0 : s₁.heap = h0 := by rw [← hh, Bd.state]; rfl
  have N0 := Fr.nil n0
  have X0 : Stand p l e ({ frames := 1, cells := 2, slots := 4, locals := 12 } : Room) (s.setVm s.vm) m #[(.ref a1), (.ref a2), (.int (0 : Int32)), (.int (0 : Int32)), .null] below meth c s₁ [] 0 0 := X0
  have hS0 : s.Since s.vm 0 := (State.WarmedH.refl s).since 0
  obtain ⟨S_w_EAST, E_w_EAST, F_w_EAST_ordinal, S_w_WEST, E_w_WEST, F_w_WEST_ordinal, S_CS, hCS⟩ := id G
  have k0 : Way p e below (s₁.setTop (entryFrame m #[(.ref a1), (.ref a2), (.int (0 : Int32)), (.int (0 : Int32)), .null] 6)) s₁ (mkF m 0 #[rv a1, rv a2, iv (0 : Int32), iv (0 : Int32), .val .null, .unset] []) := fun t k => castTop (by first | (simp [entryFrame, mkF, argsToLocals, Value.category]; done) | rfl) k
  generalize s₁.setTop (entryFrame m #[(.ref a1), (.ref a2), (.int (0 : Int32)), (.int (0 : Int32)), .null] 6) = S0 at k0 ⊢
  have k1 : Way p e below S0 s₁ (mkF m 1 #[rv a1, rv a2, iv (0 : Int32), iv (0 : Int32), .val .null, .unset] [(.ref a1)]) := by
    intro t k
    refine k0 t ?_
    refine XS.aloadN X0.here hx rfl (hb hby d_jdk_42_method_149_code_0) rfl rfl ?_
    show Steps p.tables e below (s₁.setTop (mkF m 1 #[rv a1, rv a2, iv (0 : Int32), iv (0 : Int32), .val .null, .unset] [(.ref a1)])) _
    exact k
  obtain ⟨T2, X2, e2, st2⟩ := initO X0 hx hZ hown (hw _ (List.mem_of_getElem? (i := 57) rfl)) (hw _ (List.mem_of_getElem? (i := 15) rfl)) (hw _ (List.mem_of_getElem? (i := 16) rfl)) e0 (g := (mkF m 1 #[rv a1, rv a2, iv (0 : Int32), iv (0 : Int32), .val .null, .unset] [(.ref a1)])) rfl (by rw [hml]; rfl) rfl (hb hby d_jdk_42_method_149_code_1) (by decide) (W := 0) (by show 2 * 0 + _ ≤ _; exact Nat.le_of_eq rfl) (by decide)
  have k3 : Way p e below S0 T2 (mkF m 4 #[rv a1, rv a2, iv (0 : Int32), iv (0 : Int32), .val .null, .unset] []) := fun t k => k1 t (st2 _ k)
  have k4 : Way p e below S0 T2 (mkF m 9 #[rv a1, rv a2, iv (0 : Int32), iv (0 : Int32), .val .null, .unset] [(.ref a1)]) := by
    intro t k
    refine k3 t ?_
    refine XS.iloadN X2.here hx rfl (hb hby d_jdk_42_method_149_code_4) rfl ?_
    show Steps p.tables e below (T2.setTop (mkF m 5 #[rv a1, rv a2, iv (0 : Int32), iv (0 : Int32), .val .null, .unset] [(.int (0 : Int32))])) _
    refine XS.ifNo X2.here hx rfl (hb hby d_jdk_42_method_149_code_5) rfl ((if0 _ _).trans (teq ((by decide) : (0 : Int32) = (0 : Int32))).2) ?_
    show Steps p.tables e below (T2.setTop (mkF m 8 #[rv a1, rv a2, iv (0 : Int32), iv (0 : Int32), .val .null, .unset] [])) _
    refine XS.aloadN X2.here hx rfl (hb hby d_jdk_42_method_149_code_8) rfl rfl ?_
    show Steps p.tables e below (T2.setTop (mkF m 9 #[rv a1, rv a2, iv (0 : Int32), iv (0 : Int32), .val .null, .unset] [(.ref a1)])) _
    exact k
  obtain ⟨la5, T5, h5, ks5, lb5, lk5, X5, e5, E5, hS5, hk5, hZ5, ho5, Fe5, Fc5, Fv5, Va5, -, -, -, Li, st5⟩ := ldcSVL (s := s) (vm0 := s.vm) X2 hx hZ hown (hw _ (List.mem_of_getElem? (i := 58) rfl)) (own_strW hw) e2 hS0 (Nat.zero_le _) (own_frs hh O0 N0) (own_hkeep hh O0) I0 (by decide) hh7 hcw (vs := []) (z := (0 : Int32)) ⟨by decide, by decide⟩ (by decide) (by decide) (g := (mkF m 9 #[rv a1, rv a2, iv (0 : Int32), iv (0 : Int32), .val .null, .unset] [(.ref a1)])) rfl (hb hby d_jdk_42_method_149_code_9) (n := 0) (by decide) (by decide) (by decide) (by decide)
  have hZ := hZ5
  have hown := ho5
  have O5 := O0.ext E5
  have K5 : Keep h0 h5 [a1] := (Keep.refl h0 [a1]).ext E5
  have f6 : Fld Z h5 a1 "java/lang/String" "value" "[B" .null := (a_1.ext E5)
  have nel : la5 ≠ a1 := Fld.ne Fv5 f6 (fun q => nomatch q)
  have k7 : Way p e below S0 T5 (mkF m 11 #[rv a1, rv a2, iv (0 : Int32), iv (0 : Int32), .val .null, .unset] [(.ref la5), (.ref a1)]) := fun t k => k4 t (st5 _ k)
  obtain ⟨T8, X8, e8, st8⟩ := getF X5 hx hZ hown (host := "") (Or.inl (hw _ (List.mem_of_getElem? (i := 64) rfl))) Via.refl e5 Fv5 (g := (mkF m 11 #[rv a1, rv a2, iv (0 : Int32), iv (0 : Int32), .val .null, .unset] [(.ref la5), (.ref a1)])) rfl rfl (hb hby d_jdk_42_method_149_code_11)
  have k9 : Way p e below S0 T8 (mkF m 14 #[rv a1, rv a2, iv (0 : Int32), iv (0 : Int32), .val .null, .unset] [(.ref lb5), (.ref a1)]) := fun t k => k7 t (st8 _ k)
  have f10 : Exa Z h5 a1 "java/lang/String" := (a_0.ext E5)
  obtain ⟨T11, h11, X11, e11, W11, st11⟩ := putF X8 hx hZ hown (host := "") (Or.inl (hw _ (List.mem_of_getElem? (i := 64) rfl))) Via.refl e8 f6 f10 (Or.inr ⟨(hw _ (List.mem_of_getElem? (i := 60) rfl)), rfl, hnm⟩) (hw _ (List.mem_of_getElem? (i := 47) rfl)) (ty := (.array .byte)) (by decide) rfl rfl (g := (mkF m 14 #[rv a1, rv a2, iv (0 : Int32), iv (0 : Int32), .val .null, .unset] [(.ref lb5), (.ref a1)])) rfl rfl (hb hby d_jdk_42_method_149_code_14)
  have O11 := O5.wr W11 ga1
  have N11 := Fr.snoc X11 N0 ga1
  have K11 : Keep h0 h11 [a1] := K5.wr W11 (Or.inl (List.mem_of_getElem? (i := 0) rfl))
  have fw11 : Fld Z h11 a1 "java/lang/String" "value" "[B" (.ref lb5) := f6.same W11
  have k12 : Way p e below S0 T11 (mkF m 17 #[rv a1, rv a2, iv (0 : Int32), iv (0 : Int32), .val .null, .unset] []) := fun t k => k9 t (st11 _ k)
  have k13 : Way p e below S0 T11 (mkF m 18 #[rv a1, rv a2, iv (0 : Int32), iv (0 : Int32), .val .null, .unset] [(.ref a1)]) := by
    intro t k
    refine k12 t ?_
    refine XS.aloadN X11.here hx rfl (hb hby d_jdk_42_method_149_code_17) rfl rfl ?_
    show Steps p.tables e below (T11.setTop (mkF m 18 #[rv a1, rv a2, iv (0 : Int32), iv (0 : Int32), .val .null, .unset] [(.ref a1)])) _
    exact k
  have st14 := ldcAgain (s := s) (vm0 := T5.vm) X11 hx hZ hown (hw _ (List.mem_of_getElem? (i := 58) rfl)) Li (g := (mkF m 18 #[rv a1, rv a2, iv (0 : Int32), iv (0 : Int32), .val .null, .unset] [(.ref a1)])) rfl (hb hby d_jdk_42_method_149_code_18)
  have k15 : Way p e below S0 T11 (mkF m 20 #[rv a1, rv a2, iv (0 : Int32), iv (0 : Int32), .val .null, .unset] [(.ref la5), (.ref a1)]) := fun t k => k13 t (st14 _ k)
  have f16 : Fld Z h11 la5 "java/lang/String" "coder" "B" (.int (0 : Int32)) := (Fc5.other W11 (Or.inl nel))
  obtain ⟨T17, X17, e17, st17⟩ := getF X11 hx hZ hown (host := "") (Or.inl (hw _ (List.mem_of_getElem? (i := 65) rfl))) Via.refl e11 f16 (g := (mkF m 20 #[rv a1, rv a2, iv (0 : Int32), iv (0 : Int32), .val .null, .unset] [(.ref la5), (.ref a1)])) rfl rfl (hb hby d_jdk_42_method_149_code_20)
  have k18 : Way p e below S0 T17 (mkF m 23 #[rv a1, rv a2, iv (0 : Int32), iv (0 : Int32), .val .null, .unset] [(.int (0 : Int32)), (.ref a1)]) := fun t k => k15 t (st17 _ k)
  have f19 : Fld Z h11 a1 "java/lang/String" "coder" "B" (.int (0 : Int32)) := ((a_2.ext E5).other W11 (Or.inr (slot_ne (Or.inr (hw _ (List.mem_of_getElem? (i := 61) rfl))) (Or.inr (hw _ (List.mem_of_getElem? (i := 60) rfl))) (by decide) (t := .byte) (t' := (.array .byte)) (by decide) (by decide))))
  have f20 : Exa Z h11 a1 "java/lang/String" := (f10.wr W11)
  obtain ⟨T21, h21, X21, e21, W21, st21⟩ := putFN X17 hx hZ hown (hw _ (List.mem_of_getElem? (i := 65) rfl)) Via.refl e17 f19 f20 (Or.inr ⟨(hw _ (List.mem_of_getElem? (i := 61) rfl)), rfl, hnm⟩) (hw _ (List.mem_of_getElem? (i := 47) rfl)) (ty := .byte) (v' := (.int (0 : Int32))) (by decide) rfl rfl (g := (mkF m 23 #[rv a1, rv a2, iv (0 : Int32), iv (0 : Int32), .val .null, .unset] [(.int (0 : Int32)), (.ref a1)])) rfl rfl (hb hby d_jdk_42_method_149_code_23)
  have O21 := O11.wr W21 ga1
  have N21 := Fr.snoc X21 N11 ga1
  have K21 : Keep h0 h21 [a1] := K11.wr W21 (Or.inl (List.mem_of_getElem? (i := 0) rfl))
  have fw21 : Fld Z h21 a1 "java/lang/String" "coder" "B" (.int (0 : Int32)) := f19.same W21
  have k22 : Way p e below S0 T21 (mkF m 26 #[rv a1, rv a2, iv (0 : Int32), iv (0 : Int32), .val .null, .unset] []) := fun t k => k18 t (st21 _ k)
  obtain ⟨fs, hr, hrun, hended, hRW⟩ := Stand.leaveW (s := s) (vm₁ := T5.vm) X21 hS5 (by rw [e21]; exact (Nat.le_trans hk5 (Nat.le_trans (Keep.of_wr W11).1 (Keep.of_wr W21).1))) (v := none) (fun _ => rfl)
  have f23 : Exa Z h21 a1 "java/lang/String" := (f20.wr W21)
  refine ⟨_, _, k22 _ (X21.returnOut hx Bd.returns (hb hby d_jdk_42_method_149_code_26) hr), hrun, hended, _, _, rfl, ?_, own_rw hRW (by decide) (by decide)⟩
  show Q_einit4 Z w_EAST w_WEST wCS a1 a2 kc h0 n0 _ T21.heap _
  rw [e21]
  exact ⟨rfl, N21, K21, f23⟩
def Q_einit (Z : State) (w_EAST : Addr) (w_WEST : Addr) (wCS : Int32) (a1 : Addr) (a2 : Addr) (kc : ClassId) (h0 : Heap) (n0 : Nat) (v : Option Value) (h : Heap) (L : List Loc) : Prop := (v = none) ∧ (Fr n0 L) ∧ (Keep h0 h [a1]) ∧ (Exa Z h a1 "java/lang/String")
set_option maxRecDepth 65536 in
set_option maxHeartbeats 40000000 in
theorem einit (l : Launch) (Z : State) (a0 : Array Value) (hw : ∀ d ∈ tables_1, d.before a0 Z = true) (ws : List Jvm.Cond) (w_EAST : Addr) (w_WEST : Addr) (wCS : Int32) (G : Gst Z w_EAST w_WEST wCS) (a1 : Addr) (a2 : Addr) (kc : ClassId) (h0 : Heap) (n0 : Nat) (O0 : Old Z n0 h0) (a_0 : Exa Z h0 a1 "java/lang/String") (a_1 : Fld Z h0 a1 "java/lang/String" "value" "[B" .null) (a_2 : Fld Z h0 a1 "java/lang/String" "coder" "B" (.int (0 : Int32))) (ga1 : n0 ≤ a1) (a_4 : Arv Z h0 a2 kc .char (0 : Int32) [] (.int (0 : Int32))) (hh7 : Jvm.Lit.constHeld Z "java/lang/String" 7) (hcw : Jvm.Lit.compactW.before a0 Z = true) :
    MetFree l (⟨"java/lang/String", "<init>", "([C)V"⟩ : MethodName) (head1 (Jvm.Cond.code (⟨"java/lang/String", "<init>", "([C)V"⟩ : MethodName) jdk_42_method_3_code 2 none :: ws) ({ frames := 2, cells := 2, slots := 4, locals := 29 } : Room)) (fun a U => a = #[(.ref a1), (.ref a2)] ∧ Z.Warmed39 U.vm ∧ U.heap = h0 ∧ IB Z U.vm []) (fun _ _ _ _ _ => True) (fun _ U o U' => ∃ v L, o = .returned v ∧ Q_einit Z w_EAST w_WEST wCS a1 a2 kc h0 n0 v U'.heap L ∧ ReturnedEndW U o U' L ({ frames := 2, cells := 2, slots := 4, locals := 29 } : Room).cells ({ frames := 2, cells := 2, slots := 4, locals := 29 } : Room).slots) := by
  refine MetFree.of_bodySF (plainFor_of_name pn_1) hisR ?_
  intro p e s m args below meth c s₁ Bd hml0 hP hK
  obtain ⟨rfl, hZ, hh, I0⟩ := hP
  have hx := Bd.exec
  have hby := Bd.bytes
  have hml : c.maxLocals = 2 := hml0
  have hown : s.vm.findClass "java/lang/String" = some m.cls := findClass_of_methodNamed Bd.named
  have hnm := (name_of_methodNamed Bd.named Bd.method).1
  have X0 : Stand p l e ({ frames := 2, cells := 2, slots := 4, locals := 29 } : Room) s m #[(.ref a1), (.ref a2)] below meth c s₁ [] 0 0 := Stand.of_body Bd
  have e0 : s₁.heap = h0 := by rw [← hh, Bd.state]; rfl
  have N0 := Fr.nil n0
  have X0 : Stand p l e ({ frames := 2, cells := 2, slots := 4, locals := 29 } : Room) (s.setVm s.vm) m #[(.ref a1), (.ref a2)] below meth c s₁ [] 0 0 := X0
  have hS0 : s.Since s.vm 0 := (State.WarmedH.refl s).since 0
  obtain ⟨S_w_EAST, E_w_EAST, F_w_EAST_ordinal, S_w_WEST, E_w_WEST, F_w_WEST_ordinal, S_CS, hCS⟩ := id G
  have k0 : Way p e below (s₁.setTop (entryFrame m #[(.ref a1), (.ref a2)] 2)) s₁ (mkF m 0 #[rv a1, rv a2] []) := fun t k => castTop (by first | (simp [entryFrame, mkF, argsToLocals, Value.category]; done) | rfl) k
  generalize s₁.setTop (entryFrame m #[(.ref a1), (.ref a2)] 2) = S0 at k0 ⊢
  have k1 : Way p e below S0 s₁ (mkF m 4 #[rv a1, rv a2] [(.ref a2), (.int (0 : Int32)), (.ref a2), (.ref a1)]) := by
    intro t k
    refine k0 t ?_
    refine XS.aloadN X0.here hx rfl (hb hby d_jdk_42_method_3_code_0) rfl rfl ?_
    show Steps p.tables e below (s₁.setTop (mkF m 1 #[rv a1, rv a2] [(.ref a1)])) _
    refine XS.aloadN X0.here hx rfl (hb hby d_jdk_42_method_3_code_1) rfl rfl ?_
    show Steps p.tables e below (s₁.setTop (mkF m 2 #[rv a1, rv a2] [(.ref a2), (.ref a1)])) _
    refine XS.iconst X0.here hx rfl (hb hby d_jdk_42_method_3_code_2) ?_
    show Steps p.tables e below (s₁.setTop (mkF m 3 #[rv a1, rv a2] [(.int (0 : Int32)), (.ref a2), (.ref a1)])) _
    refine XS.aloadN X0.here hx rfl (hb hby d_jdk_42_method_3_code_3) rfl rfl ?_
    show Steps p.tables e below (s₁.setTop (mkF m 4 #[rv a1, rv a2] [(.ref a2), (.int (0 : Int32)), (.ref a2), (.ref a1)])) _
    exact k
  obtain ⟨cl2, Ar2, -, S2, M2, -, -⟩ := id (a_4)
  have k3 : Way p e below S0 s₁ (mkF m 5 #[rv a1, rv a2] [(.int (0 : Int32)), (.int (0 : Int32)), (.ref a2), (.ref a1)]) := fun t k => k1 t (X0.arraylength hx (by rw [e0]; exact Ar2.1) (State.isArrayOf_alike hZ.alike Ar2.2.1) (g := (mkF m 4 #[rv a1, rv a2] [(.ref a2), (.int (0 : Int32)), (.ref a2), (.ref a1)])) rfl rfl (hb hby d_jdk_42_method_3_code_4) _ (by rw [len_of S2 M2]; exact k))
  have k4 : Way p e below S0 s₁ (mkF m 6 #[rv a1, rv a2] [.null, (.int (0 : Int32)), (.int (0 : Int32)), (.ref a2), (.ref a1)]) := by
    intro t k
    refine k3 t ?_
    refine XS.aconstNull X0.here hx rfl (hb hby d_jdk_42_method_3_code_5) ?_
    show Steps p.tables e below (s₁.setTop (mkF m 6 #[rv a1, rv a2] [.null, (.int (0 : Int32)), (.int (0 : Int32)), (.ref a2), (.ref a1)])) _
    exact k
  obtain ⟨_, _, ⟨T5, L5, kk5, nn5⟩, -, Xr5, hSr5, hgr5, ⟨Lc5, hQ5, l5, y5, z5⟩, st5⟩ := X0.specialBackS hx (y := (⟨"java/lang/String", "<init>", "([CIILjava/lang/Void;)V"⟩ : MethodName)) rfl hown (mvT hZ (hw _ (List.mem_of_getElem? (i := 53) rfl))) (mvT hZ (hw _ (List.mem_of_getElem? (i := 54) rfl))) (mvT hZ (hw _ (List.mem_of_getElem? (i := 56) rfl))) (by decide) (own_backI (W := 0) (einit4 l Z a0 hw [] w_EAST w_WEST wCS G a1 a2 kc h0 n0 O0 (a_0 : Exa Z h0 a1 "java/lang/String") (a_1 : Fld Z h0 a1 "java/lang/String" "value" "[B" .null) (a_2 : Fld Z h0 a1 "java/lang/String" "coder" "B" (.int (0 : Int32))) (ga1 : n0 ≤ a1) (a_4 : Arv Z h0 a2 kc .char (0 : Int32) [] (.int (0 : Int32))) (hh7 : Jvm.Lit.constHeld Z "java/lang/String" 7) (hcw : Jvm.Lit.compactW.before a0 Z = true)) hZ (hw _ (List.mem_of_getElem? (i := 56) rfl)) (hw _ (List.mem_of_getElem? (i := 48) rfl)) (by decide) (by decide) I0) (g := (mkF m 6 #[rv a1, rv a2] [.null, (.int (0 : Int32)), (.int (0 : Int32)), (.ref a2), (.ref a1)])) rfl (by rw [hml]; rfl) (Steps.refl _) (a := a1) (argsL := [(.ref a2), (.int (0 : Int32)), (.int (0 : Int32)), .null]) (rest := []) (lenOf pd_3 rfl) rfl (by show 2 * 0 + _ ≤ _; exact Nat.le_of_eq rfl) (hb hby d_jdk_42_method_3_code_6) (fun _ _ => ⟨rfl, e0, (by decide : 0 + 2 ≤ _), (by decide : 0 + 4 ≤ _)⟩)
  dsimp only [Pt.U, Pt.locs, Pt.cells, Pt.slots] at Xr5 hSr5 hgr5 l5 y5 z5 st5 hQ5
  subst l5 y5 z5
  obtain ⟨X5, hS5, hZ5, ho5⟩ := rebS (s := s) (vm0 := s.vm) hS0 (by rw [e0]; exact (Nat.zero_le _)) Xr5 hSr5 hgr5 hZ hown
  have hZ := hZ5
  have hown := ho5
  obtain ⟨rfl, Nq5, Kq5, po5_0⟩ := hQ5
  have N5 := Fr.app N0 Nq5
  have O5 := O0.keep Kq5 (allS ga1 all0)
  have K5 : Keep h0 T5.heap [a1] := (Keep.refl h0 [a1]).trans Kq5 (allS (Or.inl (List.mem_of_getElem? (i := 0) rfl)) all0)
  have k6 : Way p e below S0 T5 (mkF m 9 #[rv a1, rv a2] []) := fun t k => k4 t (st5.trans k)
  obtain ⟨fs, hr, hrun, hended, hRW⟩ := Stand.leaveW (s := s) (vm₁ := T5.vm) X5 hS5 (Nat.le_trans (Nat.le_refl _) (Nat.le_refl _)) (v := none) (fun _ => rfl)
  refine ⟨_, _, k6 _ (X5.returnOut hx Bd.returns (hb hby d_jdk_42_method_3_code_9) hr), hrun, hended, _, _, rfl, ?_, own_rw hRW (by decide) (by decide)⟩
  show Q_einit Z w_EAST w_WEST wCS a1 a2 kc h0 n0 _ T5.heap _
  exact ⟨rfl, N5, K5, po5_0⟩
def Q_bi0 (Z : State) (w_EAST : Addr) (w_WEST : Addr) (wCS : Int32) (a1 : Addr) (a3 : Addr) (h0 : Heap) (n0 : Nat) (v : Option Value) (h : Heap) (L : List Loc) : Prop := (v = none) ∧ (Fr n0 L) ∧ (Keep h0 h [a1]) ∧ (Exa Z h a1 "com/example/aspectwise/aspectwise/engine/BlockEnd") ∧ (Fld Z h a1 "com/example/aspectwise/aspectwise/engine/BlockEnd" "block" "Ljava/lang/String;" .null) ∧ (Fld Z h a1 "com/example/aspectwise/aspectwise/engine/BlockEnd" "side" "Lcom/example/aspectwise/aspectwise/engine/BlockEnd$Side;" (.ref a3))
set_option maxRecDepth 65536 in
set_option maxHeartbeats 40000000 in
theorem bi0 (l : Launch) (Z : State) (a0 : Array Value) (hw : ∀ d ∈ tables_1, d.before a0 Z = true) (ws : List Jvm.Cond) (w_EAST : Addr) (w_WEST : Addr) (wCS : Int32) (G : Gst Z w_EAST w_WEST wCS) (a1 : Addr) (a3 : Addr) (h0 : Heap) (n0 : Nat) (O0 : Old Z n0 h0) (a_0 : Exa Z h0 a1 "com/example/aspectwise/aspectwise/engine/BlockEnd") (a_1 : Fld Z h0 a1 "com/example/aspectwise/aspectwise/engine/BlockEnd" "block" "Ljava/lang/String;" .null) (a_2 : Fld Z h0 a1 "com/example/aspectwise/aspectwise/engine/BlockEnd" "side" "Lcom/example/aspectwise/aspectwise/engine/BlockEnd$Side;" .null) (ga1 : n0 ≤ a1) :
    MetFree l (⟨"com/example/aspectwise/aspectwise/engine/BlockEnd", "<init>", "(Ljava/lang/String;Lcom/example/aspectwise/aspectwise/engine/BlockEnd$Side;)V"⟩ : MethodName) (head1 (Jvm.Cond.code (⟨"com/example/aspectwise/aspectwise/engine/BlockEnd", "<init>", "(Ljava/lang/String;Lcom/example/aspectwise/aspectwise/engine/BlockEnd$Side;)V"⟩ : MethodName) prog_23_method_1_code 3 none :: ws) ({ frames := 2, cells := 0, slots := 0, locals := 24 } : Room)) (fun a U => a = #[(.ref a1), .null, (.ref a3)] ∧ Z.Warmed39 U.vm ∧ U.heap = h0) (fun _ _ _ _ _ => True) (fun _ U o U' => ∃ v L, o = .returned v ∧ Q_bi0 Z w_EAST w_WEST wCS a1 a3 h0 n0 v U'.heap L ∧ FrameEnd U o U' L ({ frames := 2, cells := 0, slots := 0, locals := 24 } : Room).cells ({ frames := 2, cells := 0, slots := 0, locals := 24 } : Room).slots) := by
  refine MetFree.of_bodySF (plainFor_of_name pn_4) hisR ?_
  intro p e s m args below meth c s₁ Bd hml0 hP hK
  obtain ⟨rfl, hZ, hh⟩ := hP
  have hx := Bd.exec
  have hby := Bd.bytes
  have hml : c.maxLocals = 3 := hml0
  have hown : s.vm.findClass "com/example/aspectwise/aspectwise/engine/BlockEnd" = some m.cls := findClass_of_methodNamed Bd.named
  have hnm := (name_of_methodNamed Bd.named Bd.method).1
  have X0 : Stand p l e ({ frames := 2, cells := 0, slots := 0, locals := 24 } : Room) s m #[(.ref a1), .null, (.ref a3)] below meth c s₁ [] 0 0 := Stand.of_body Bd
  have e0 : s₁.heap = h0 := by rw [← hh, Bd.state]; rfl
  have N0 := Fr.nil n0
  obtain ⟨S_w_EAST, E_w_EAST, F_w_EAST_ordinal, S_w_WEST, E_w_WEST, F_w_WEST_ordinal, S_CS, hCS⟩ := id G
  have k0 : Way p e below (s₁.setTop (entryFrame m #[(.ref a1), .null, (.ref a3)] 3)) s₁ (mkF m 0 #[rv a1, .val .null, rv a3] []) := fun t k => castTop (by first | (simp [entryFrame, mkF, argsToLocals, Value.category]; done) | rfl) k
  generalize s₁.setTop (entryFrame m #[(.ref a1), .null, (.ref a3)] 3) = S0 at k0 ⊢
  have k1 : Way p e below S0 s₁ (mkF m 1 #[rv a1, .val .null, rv a3] [(.ref a1)]) := by
    intro t k
    refine k0 t ?_
    refine XS.aloadN X0.here hx rfl (hb hby d_prog_23_method_1_code_0) rfl rfl ?_
    show Steps p.tables e below (s₁.setTop (mkF m 1 #[rv a1, .val .null, rv a3] [(.ref a1)])) _
    exact k
  obtain ⟨_, _, ⟨T2, L2, kk2, nn2⟩, -, X2, ⟨Lc2, hQ2, l2, y2, z2⟩, st2⟩ := X0.specialBack hx (y := (⟨"java/lang/Record", "<init>", "()V"⟩ : MethodName)) rfl hown (mvT hZ (hw _ (List.mem_of_getElem? (i := 9) rfl))) (mvT hZ (hw _ (List.mem_of_getElem? (i := 10) rfl))) (mvT hZ (hw _ (List.mem_of_getElem? (i := 13) rfl))) (by decide) (backOf (W := 0) (recInit l Z a0 hw [] w_EAST w_WEST wCS G a1 h0 n0 O0 ) hZ (hw _ (List.mem_of_getElem? (i := 13) rfl)) (hw _ (List.mem_of_getElem? (i := 12) rfl)) (by decide) (by decide)) (g := (mkF m 1 #[rv a1, .val .null, rv a3] [(.ref a1)])) rfl (by rw [hml]; rfl) (Steps.refl _) (a := a1) (argsL := []) (rest := []) (lenOf pd_7 rfl) rfl (by show 2 * 0 + _ ≤ _; exact Nat.le_of_eq rfl) (hb hby d_prog_23_method_1_code_1) (fun _ _ => ⟨rfl, e0, (by decide : 0 + 0 ≤ _), (by decide : 0 + 0 ≤ _)⟩)
  dsimp only [Pt.U, Pt.locs, Pt.cells, Pt.slots] at X2 l2 y2 z2 st2 hQ2
  subst l2 y2 z2
  obtain ⟨rfl, Nq2, e2⟩ := hQ2
  have N2 := Fr.app N0 Nq2
  have k3 : Way p e below S0 T2 (mkF m 4 #[rv a1, .val .null, rv a3] []) := fun t k => k1 t (st2.trans k)
  have k4 : Way p e below S0 T2 (mkF m 6 #[rv a1, .val .null, rv a3] [.null, (.ref a1)]) := by
    intro t k
    refine k3 t ?_
    refine XS.aloadN X2.here hx rfl (hb hby d_prog_23_method_1_code_4) rfl rfl ?_
    show Steps p.tables e below (T2.setTop (mkF m 5 #[rv a1, .val .null, rv a3] [(.ref a1)])) _
    refine XS.aloadN X2.here hx rfl (hb hby d_prog_23_method_1_code_5) rfl rfl ?_
    show Steps p.tables e below (T2.setTop (mkF m 6 #[rv a1, .val .null, rv a3] [.null, (.ref a1)])) _
    exact k
  obtain ⟨T5, h5, X5, e5, W5, st5⟩ := putF X2 hx hZ hown (host := "") (Or.inl (hw _ (List.mem_of_getElem? (i := 17) rfl))) Via.refl e2 a_1 a_0 (Or.inr ⟨(hw _ (List.mem_of_getElem? (i := 18) rfl)), rfl, hnm⟩) (hw _ (List.mem_of_getElem? (i := 4) rfl)) (ty := (.object "java/lang/String")) (by decide) rfl rfl (g := (mkF m 6 #[rv a1, .val .null, rv a3] [.null, (.ref a1)])) rfl rfl (hb hby d_prog_23_method_1_code_6)
  have O5 := O0.wr W5 ga1
  have N5 := Fr.snoc X5 N2 ga1
  have K5 : Keep h0 h5 [a1] := (Keep.refl h0 [a1]).wr W5 (Or.inl (List.mem_of_getElem? (i := 0) rfl))
  have fw5 : Fld Z h5 a1 "com/example/aspectwise/aspectwise/engine/BlockEnd" "block" "Ljava/lang/String;" .null := a_1.same W5
  have k6 : Way p e below S0 T5 (mkF m 9 #[rv a1, .val .null, rv a3] []) := fun t k => k4 t (st5 _ k)
  have k7 : Way p e below S0 T5 (mkF m 11 #[rv a1, .val .null, rv a3] [(.ref a3), (.ref a1)]) := by
    intro t k
    refine k6 t ?_
    refine XS.aloadN X5.here hx rfl (hb hby d_prog_23_method_1_code_9) rfl rfl ?_
    show Steps p.tables e below (T5.setTop (mkF m 10 #[rv a1, .val .null, rv a3] [(.ref a1)])) _
    refine XS.aloadN X5.here hx rfl (hb hby d_prog_23_method_1_code_10) rfl rfl ?_
    show Steps p.tables e below (T5.setTop (mkF m 11 #[rv a1, .val .null, rv a3] [(.ref a3), (.ref a1)])) _
    exact k
  have f8 : Fld Z h5 a1 "com/example/aspectwise/aspectwise/engine/BlockEnd" "side" "Lcom/example/aspectwise/aspectwise/engine/BlockEnd$Side;" .null := (a_2.other W5 (Or.inr (slot_ne (Or.inr (hw _ (List.mem_of_getElem? (i := 20) rfl))) (Or.inr (hw _ (List.mem_of_getElem? (i := 18) rfl))) (by decide) (t := (.object "com/example/aspectwise/aspectwise/engine/BlockEnd$Side")) (t' := (.object "java/lang/String")) (by decide) (by decide))))
  have f9 : Exa Z h5 a1 "com/example/aspectwise/aspectwise/engine/BlockEnd" := (a_0.wr W5)
  obtain ⟨T10, h10, X10, e10, W10, st10⟩ := putF X5 hx hZ hown (host := "") (Or.inl (hw _ (List.mem_of_getElem? (i := 19) rfl))) Via.refl e5 f8 f9 (Or.inr ⟨(hw _ (List.mem_of_getElem? (i := 20) rfl)), rfl, hnm⟩) (hw _ (List.mem_of_getElem? (i := 4) rfl)) (ty := (.object "com/example/aspectwise/aspectwise/engine/BlockEnd$Side")) (by decide) rfl rfl (g := (mkF m 11 #[rv a1, .val .null, rv a3] [(.ref a3), (.ref a1)])) rfl rfl (hb hby d_prog_23_method_1_code_11)
  have O10 := O5.wr W10 ga1
  have N10 := Fr.snoc X10 N5 ga1
  have K10 : Keep h0 h10 [a1] := K5.wr W10 (Or.inl (List.mem_of_getElem? (i := 0) rfl))
  have fw10 : Fld Z h10 a1 "com/example/aspectwise/aspectwise/engine/BlockEnd" "side" "Lcom/example/aspectwise/aspectwise/engine/BlockEnd$Side;" (.ref a3) := f8.same W10
  have k11 : Way p e below S0 T10 (mkF m 14 #[rv a1, .val .null, rv a3] []) := fun t k => k7 t (st10 _ k)
  obtain ⟨fs, hr, hrun, hended, hW, hsame⟩ := X10.leave (v := none) (fun _ => rfl)
  have f12 : Exa Z h10 a1 "com/example/aspectwise/aspectwise/engine/BlockEnd" := (f9.wr W10)
  have f13 : Fld Z h10 a1 "com/example/aspectwise/aspectwise/engine/BlockEnd" "block" "Ljava/lang/String;" .null := (fw5.other W10 (Or.inr (slot_ne (Or.inr (hw _ (List.mem_of_getElem? (i := 18) rfl))) (Or.inr (hw _ (List.mem_of_getElem? (i := 20) rfl))) (by decide) (t := (.object "java/lang/String")) (t' := (.object "com/example/aspectwise/aspectwise/engine/BlockEnd$Side")) (by decide) (by decide))))
  refine ⟨_, _, k11 _ (X10.returnOut hx Bd.returns (hb hby d_prog_23_method_1_code_14) hr), hrun, hended, _, _, rfl, ?_, ⟨_, rfl⟩, hW, hsame.mono (by decide) (by decide)⟩
  show Q_bi0 Z w_EAST w_WEST wCS a1 a3 h0 n0 _ T10.heap _
  rw [e10]
  exact ⟨rfl, N10, K10, f12, f13, fw10⟩
def Q_bi1 (Z : State) (w_EAST : Addr) (w_WEST : Addr) (wCS : Int32) (a1 : Addr) (a2 : Addr) (a3 : Addr) (h0 : Heap) (n0 : Nat) (v : Option Value) (h : Heap) (L : List Loc) : Prop := (v = none) ∧ (Fr n0 L) ∧ (Keep h0 h [a1]) ∧ (Exa Z h a1 "com/example/aspectwise/aspectwise/engine/BlockEnd") ∧ (Fld Z h a1 "com/example/aspectwise/aspectwise/engine/BlockEnd" "block" "Ljava/lang/String;" (.ref a2)) ∧ (Fld Z h a1 "com/example/aspectwise/aspectwise/engine/BlockEnd" "side" "Lcom/example/aspectwise/aspectwise/engine/BlockEnd$Side;" (.ref a3))
set_option maxRecDepth 65536 in
set_option maxHeartbeats 40000000 in
theorem bi1 (l : Launch) (Z : State) (a0 : Array Value) (hw : ∀ d ∈ tables_1, d.before a0 Z = true) (ws : List Jvm.Cond) (w_EAST : Addr) (w_WEST : Addr) (wCS : Int32) (G : Gst Z w_EAST w_WEST wCS) (a1 : Addr) (a2 : Addr) (a3 : Addr) (h0 : Heap) (n0 : Nat) (O0 : Old Z n0 h0) (a_0 : Exa Z h0 a1 "com/example/aspectwise/aspectwise/engine/BlockEnd") (a_1 : Fld Z h0 a1 "com/example/aspectwise/aspectwise/engine/BlockEnd" "block" "Ljava/lang/String;" .null) (a_2 : Fld Z h0 a1 "com/example/aspectwise/aspectwise/engine/BlockEnd" "side" "Lcom/example/aspectwise/aspectwise/engine/BlockEnd$Side;" .null) (ga1 : n0 ≤ a1) :
    MetFree l (⟨"com/example/aspectwise/aspectwise/engine/BlockEnd", "<init>", "(Ljava/lang/String;Lcom/example/aspectwise/aspectwise/engine/BlockEnd$Side;)V"⟩ : MethodName) (head1 (Jvm.Cond.code (⟨"com/example/aspectwise/aspectwise/engine/BlockEnd", "<init>", "(Ljava/lang/String;Lcom/example/aspectwise/aspectwise/engine/BlockEnd$Side;)V"⟩ : MethodName) prog_23_method_1_code 3 none :: ws) ({ frames := 2, cells := 0, slots := 0, locals := 24 } : Room)) (fun a U => a = #[(.ref a1), (.ref a2), (.ref a3)] ∧ Z.Warmed39 U.vm ∧ U.heap = h0) (fun _ _ _ _ _ => True) (fun _ U o U' => ∃ v L, o = .returned v ∧ Q_bi1 Z w_EAST w_WEST wCS a1 a2 a3 h0 n0 v U'.heap L ∧ FrameEnd U o U' L ({ frames := 2, cells := 0, slots := 0, locals := 24 } : Room).cells ({ frames := 2, cells := 0, slots := 0, locals := 24 } : Room).slots) := by
  refine MetFree.of_bodySF (plainFor_of_name pn_4) hisR ?_
  intro p e s m args below meth c s₁ Bd hml0 hP hK
  obtain ⟨rfl, hZ, hh⟩ := hP
  have hx := Bd.exec
  have hby := Bd.bytes
  have hml : c.maxLocals = 3 := hml0
  have hown : s.vm.findClass "com/example/aspectwise/aspectwise/engine/BlockEnd" = some m.cls := findClass_of_methodNamed Bd.named
  have hnm := (name_of_methodNamed Bd.named Bd.method).1
  have X0 : Stand p l e ({ frames := 2, cells := 0, slots := 0, locals := 24 } : Room) s m #[(.ref a1), (.ref a2), (.ref a3)] below meth c s₁ [] 0 0 := Stand.of_body Bd
  have e0 : s₁.heap = h0 := by rw [← hh, Bd.state]; rfl
  have N0 := Fr.nil n0
  obtain ⟨S_w_EAST, E_w_EAST, F_w_EAST_ordinal, S_w_WEST, E_w_WEST, F_w_WEST_ordinal, S_CS, hCS⟩ := id G
  have k0 : Way p e below (s₁.setTop (entryFrame m #[(.ref a1), (.ref a2), (.ref a3)] 3)) s₁ (mkF m 0 #[rv a1, rv a2, rv a3] []) := fun t k => castTop (by first | (simp [entryFrame, mkF, argsToLocals, Value.category]; done) | rfl) k
  generalize s₁.setTop (entryFrame m #[(.ref a1), (.ref a2), (.ref a3)] 3) = S0 at k0 ⊢
  have k1 : Way p e below S0 s₁ (mkF m 1 #[rv a1, rv a2, rv a3] [(.ref a1)]) := by
    intro t k
    refine k0 t ?_
    refine XS.aloadN X0.here hx rfl (hb hby d_prog_23_method_1_code_0) rfl rfl ?_
    show Steps p.tables e below (s₁.setTop (mkF m 1 #[rv a1, rv a2, rv a3] [(.ref a1)])) _
    exact k
  obtain ⟨_, _, ⟨T2, L2, kk2, nn2⟩, -, X2, ⟨Lc2, hQ2, l2, y2, z2⟩, st2⟩ := X0.specialBack hx (y := (⟨"java/lang/Record", "<init>", "()V"⟩ : MethodName)) rfl hown (mvT hZ (hw _ (List.mem_of_getElem? (i := 9) rfl))) (mvT hZ (hw _ (List.mem_of_getElem? (i := 10) rfl))) (mvT hZ (hw _ (List.mem_of_getElem? (i := 13) rfl))) (by decide) (backOf (W := 0) (recInit l Z a0 hw [] w_EAST w_WEST wCS G a1 h0 n0 O0 ) hZ (hw _ (List.mem_of_getElem? (i := 13) rfl)) (hw _ (List.mem_of_getElem? (i := 12) rfl)) (by decide) (by decide)) (g := (mkF m 1 #[rv a1, rv a2, rv a3] [(.ref a1)])) rfl (by rw [hml]; rfl) (Steps.refl _) (a := a1) (argsL := []) (rest := []) (lenOf pd_7 rfl) rfl (by show 2 * 0 + _ ≤ _; exact Nat.le_of_eq rfl) (hb hby d_prog_23_method_1_code_1) (fun _ _ => ⟨rfl, e0, (by decide : 0 + 0 ≤ _), (by decide : 0 + 0 ≤ _)⟩)
  dsimp only [Pt.U, Pt.locs, Pt.cells, Pt.slots] at X2 l2 y2 z2 st2 hQ2
  subst l2 y2 z2
  obtain ⟨rfl, Nq2, e2⟩ := hQ2
  have N2 := Fr.app N0 Nq2
  have k3 : Way p e below S0 T2 (mkF m 4 #[rv a1, rv a2, rv a3] []) := fun t k => k1 t (st2.trans k)
  have k4 : Way p e below S0 T2 (mkF m 6 #[rv a1, rv a2, rv a3] [(.ref a2), (.ref a1)]) := by
    intro t k
    refine k3 t ?_
    refine XS.aloadN X2.here hx rfl (hb hby d_prog_23_method_1_code_4) rfl rfl ?_
    show Steps p.tables e below (T2.setTop (mkF m 5 #[rv a1, rv a2, rv a3] [(.ref a1)])) _
    refine XS.aloadN X2.here hx rfl (hb hby d_prog_23_method_1_code_5) rfl rfl ?_
    show Steps p.tables e below (T2.setTop (mkF m 6 #[rv a1, rv a2, rv a3] [(.ref a2), (.ref a1)])) _
    exact k
  obtain ⟨T5, h5, X5, e5, W5, st5⟩ := putF X2 hx hZ hown (host := "") (Or.inl (hw _ (List.mem_of_getElem? (i := 17) rfl))) Via.refl e2 a_1 a_0 (Or.inr ⟨(hw _ (List.mem_of_getElem? (i := 18) rfl)), rfl, hnm⟩) (hw _ (List.mem_of_getElem? (i := 4) rfl)) (ty := (.object "java/lang/String")) (by decide) rfl rfl (g := (mkF m 6 #[rv a1, rv a2, rv a3] [(.ref a2), (.ref a1)])) rfl rfl (hb hby d_prog_23_method_1_code_6)
  have O5 := O0.wr W5 ga1
  have N5 := Fr.snoc X5 N2 ga1
  have K5 : Keep h0 h5 [a1] := (Keep.refl h0 [a1]).wr W5 (Or.inl (List.mem_of_getElem? (i := 0) rfl))
  have fw5 : Fld Z h5 a1 "com/example/aspectwise/aspectwise/engine/BlockEnd" "block" "Ljava/lang/String;" (.ref a2) := a_1.same W5
  have k6 : Way p e below S0 T5 (mkF m 9 #[rv a1, rv a2, rv a3] []) := fun t k => k4 t (st5 _ k)
  have k7 : Way p e below S0 T5 (mkF m 11 #[rv a1, rv a2, rv a3] [(.ref a3), (.ref a1)]) := by
    intro t k
    refine k6 t ?_
    refine XS.aloadN X5.here hx rfl (hb hby d_prog_23_method_1_code_9) rfl rfl ?_
    show Steps p.tables e below (T5.setTop (mkF m 10 #[rv a1, rv a2, rv a3] [(.ref a1)])) _
    refine XS.aloadN X5.here hx rfl (hb hby d_prog_23_method_1_code_10) rfl rfl ?_
    show Steps p.tables e below (T5.setTop (mkF m 11 #[rv a1, rv a2, rv a3] [(.ref a3), (.ref a1)])) _
    exact k
  have f8 : Fld Z h5 a1 "com/example/aspectwise/aspectwise/engine/BlockEnd" "side" "Lcom/example/aspectwise/aspectwise/engine/BlockEnd$Side;" .null := (a_2.other W5 (Or.inr (slot_ne (Or.inr (hw _ (List.mem_of_getElem? (i := 20) rfl))) (Or.inr (hw _ (List.mem_of_getElem? (i := 18) rfl))) (by decide) (t := (.object "com/example/aspectwise/aspectwise/engine/BlockEnd$Side")) (t' := (.object "java/lang/String")) (by decide) (by decide))))
  have f9 : Exa Z h5 a1 "com/example/aspectwise/aspectwise/engine/BlockEnd" := (a_0.wr W5)
  obtain ⟨T10, h10, X10, e10, W10, st10⟩ := putF X5 hx hZ hown (host := "") (Or.inl (hw _ (List.mem_of_getElem? (i := 19) rfl))) Via.refl e5 f8 f9 (Or.inr ⟨(hw _ (List.mem_of_getElem? (i := 20) rfl)), rfl, hnm⟩) (hw _ (List.mem_of_getElem? (i := 4) rfl)) (ty := (.object "com/example/aspectwise/aspectwise/engine/BlockEnd$Side")) (by decide) rfl rfl (g := (mkF m 11 #[rv a1, rv a2, rv a3] [(.ref a3), (.ref a1)])) rfl rfl (hb hby d_prog_23_method_1_code_11)
  have O10 := O5.wr W10 ga1
  have N10 := Fr.snoc X10 N5 ga1
  have K10 : Keep h0 h10 [a1] := K5.wr W10 (Or.inl (List.mem_of_getElem? (i := 0) rfl))
  have fw10 : Fld Z h10 a1 "com/example/aspectwise/aspectwise/engine/BlockEnd" "side" "Lcom/example/aspectwise/aspectwise/engine/BlockEnd$Side;" (.ref a3) := f8.same W10
  have k11 : Way p e below S0 T10 (mkF m 14 #[rv a1, rv a2, rv a3] []) := fun t k => k7 t (st10 _ k)
  obtain ⟨fs, hr, hrun, hended, hW, hsame⟩ := X10.leave (v := none) (fun _ => rfl)
  have f12 : Exa Z h10 a1 "com/example/aspectwise/aspectwise/engine/BlockEnd" := (f9.wr W10)
  have f13 : Fld Z h10 a1 "com/example/aspectwise/aspectwise/engine/BlockEnd" "block" "Ljava/lang/String;" (.ref a2) := (fw5.other W10 (Or.inr (slot_ne (Or.inr (hw _ (List.mem_of_getElem? (i := 18) rfl))) (Or.inr (hw _ (List.mem_of_getElem? (i := 20) rfl))) (by decide) (t := (.object "java/lang/String")) (t' := (.object "com/example/aspectwise/aspectwise/engine/BlockEnd$Side")) (by decide) (by decide))))
  refine ⟨_, _, k11 _ (X10.returnOut hx Bd.returns (hb hby d_prog_23_method_1_code_14) hr), hrun, hended, _, _, rfl, ?_, ⟨_, rfl⟩, hW, hsame.mono (by decide) (by decide)⟩
  show Q_bi1 Z w_EAST w_WEST wCS a1 a2 a3 h0 n0 _ T10.heap _
  rw [e10]
  exact ⟨rfl, N10, K10, f12, f13, fw10⟩
def Q_opp1EAST (Z : State) (w_EAST : Addr) (w_WEST : Addr) (wCS : Int32) (a1 : Addr) (h0 : Heap) (n0 : Nat) (v : Option Value) (h : Heap) (L : List Loc) : Prop := ∃ b1 : Addr, (v = some (.ref b1)) ∧ (Fr n0 L) ∧ (Keep h0 h []) ∧ (h0.size ≤ b1) ∧ (Exa Z h b1 "com/example/aspectwise/aspectwise/engine/BlockEnd") ∧ (Fld Z h b1 "com/example/aspectwise/aspectwise/engine/BlockEnd" "block" "Ljava/lang/String;" .null) ∧ (Fld Z h b1 "com/example/aspectwise/aspectwise/engine/BlockEnd" "side" "Lcom/example/aspectwise/aspectwise/engine/BlockEnd$Side;" (.ref w_WEST))
set_option maxRecDepth 65536 in
set_option maxHeartbeats 40000000 in
theorem opp1EAST (l : Launch) (Z : State) (a0 : Array Value) (hw : ∀ d ∈ tables_1, d.before a0 Z = true) (ws : List Jvm.Cond) (w_EAST : Addr) (w_WEST : Addr) (wCS : Int32) (G : Gst Z w_EAST w_WEST wCS) (a1 : Addr) (h0 : Heap) (n0 : Nat) (O0 : Old Z n0 h0) (a_0 : Fld Z h0 a1 "com/example/aspectwise/aspectwise/engine/BlockEnd" "block" "Ljava/lang/String;" .null) (a_1 : Fld Z h0 a1 "com/example/aspectwise/aspectwise/engine/BlockEnd" "side" "Lcom/example/aspectwise/aspectwise/engine/BlockEnd$Side;" (.ref w_EAST)) :
    MetFree l (⟨"com/example/aspectwise/aspectwise/engine/BlockEnd", "opposite", "()Lcom/example/aspectwise/aspectwise/engine/BlockEnd;"⟩ : MethodName) (head1 (Jvm.Cond.code (⟨"com/example/aspectwise/aspectwise/engine/BlockEnd", "opposite", "()Lcom/example/aspectwise/aspectwise/engine/BlockEnd;"⟩ : MethodName) prog_23_method_3_code 1 (some (.object "com/example/aspectwise/aspectwise/engine/BlockEnd")) :: ws) ({ frames := 3, cells := 1, slots := 2, locals := 39 } : Room)) (fun a U => a = #[(.ref a1)] ∧ Z.Warmed39 U.vm ∧ U.heap = h0) (fun _ _ _ _ _ => True) (fun _ U o U' => ∃ v L, o = .returned v ∧ Q_opp1EAST Z w_EAST w_WEST wCS a1 h0 n0 v U'.heap L ∧ FrameEnd U o U' L ({ frames := 3, cells := 1, slots := 2, locals := 39 } : Room).cells ({ frames := 3, cells := 1, slots := 2, locals := 39 } : Room).slots) := by
  refine MetFree.of_bodySF (plainFor_of_name pn_4) hisR ?_
  intro p e s m args below meth c s₁ Bd hml0 hP hK
  obtain ⟨rfl, hZ, hh⟩ := hP
  have hx := Bd.exec
  have hby := Bd.bytes
  have hml : c.maxLocals = 1 := hml0
  have hown : s.vm.findClass "com/example/aspectwise/aspectwise/engine/BlockEnd" = some m.cls := findClass_of_methodNamed Bd.named
  have hnm := (name_of_methodNamed Bd.named Bd.method).1
  have X0 : Stand p l e ({ frames := 3, cells := 1, slots := 2, locals := 39 } : Room) s m #[(.ref a1)] below meth c s₁ [] 0 0 := Stand.of_body Bd
  have e0 : s₁.heap = h0 := by rw [← hh, Bd.state]; rfl
  have N0 := Fr.nil n0
  obtain ⟨S_w_EAST, E_w_EAST, F_w_EAST_ordinal, S_w_WEST, E_w_WEST, F_w_WEST_ordinal, S_CS, hCS⟩ := id G
  have k0 : Way p e below (s₁.setTop (entryFrame m #[(.ref a1)] 1)) s₁ (mkF m 0 #[rv a1] []) := fun t k => castTop (by first | (simp [entryFrame, mkF, argsToLocals, Value.category]; done) | rfl) k
  generalize s₁.setTop (entryFrame m #[(.ref a1)] 1) = S0 at k0 ⊢
  obtain ⟨T1, h1, X1, e1, E1, A1, D1, U1, st1⟩ := newO X0 hx hZ hown (hw _ (List.mem_of_getElem? (i := 26) rfl)) (hw _ (List.mem_of_getElem? (i := 4) rfl)) (hw _ (List.mem_of_getElem? (i := 5) rfl)) e0 (g := (mkF m 0 #[rv a1] [])) rfl (hb hby d_prog_23_method_3_code_0) (by decide) (by decide)
  obtain ⟨b1, g1⟩ : ∃ z, z = h0.size := ⟨_, rfl⟩
  rw [← g1] at A1 D1 U1 st1
  have O1 := O0.ext E1
  have K1 : Keep h0 h1 [] := (Keep.refl h0 []).ext E1
  have i1_block : Fld Z h1 b1 "com/example/aspectwise/aspectwise/engine/BlockEnd" "block" "Ljava/lang/String;" .null := D1 (Or.inr (hw _ (List.mem_of_getElem? (i := 18) rfl))) (ty := (.object "java/lang/String")) (by decide)
  have i1_side : Fld Z h1 b1 "com/example/aspectwise/aspectwise/engine/BlockEnd" "side" "Lcom/example/aspectwise/aspectwise/engine/BlockEnd$Side;" .null := D1 (Or.inr (hw _ (List.mem_of_getElem? (i := 20) rfl))) (ty := (.object "com/example/aspectwise/aspectwise/engine/BlockEnd$Side")) (by decide)
  have k2 : Way p e below S0 T1 (mkF m 3 #[rv a1] [(.ref b1)]) := fun t k => k0 t (st1 _ k)
  have k3 : Way p e below S0 T1 (mkF m 5 #[rv a1] [(.ref a1), (.ref b1), (.ref b1)]) := by
    intro t k
    refine k2 t ?_
    refine XS.dup X1.here hx rfl (hb hby d_prog_23_method_3_code_3) rfl rfl ?_
    show Steps p.tables e below (T1.setTop (mkF m 4 #[rv a1] [(.ref b1), (.ref b1)])) _
    refine XS.aloadN X1.here hx rfl (hb hby d_prog_23_method_3_code_4) rfl rfl ?_
    show Steps p.tables e below (T1.setTop (mkF m 5 #[rv a1] [(.ref a1), (.ref b1), (.ref b1)])) _
    exact k
  have f4 : Fld Z h1 a1 "com/example/aspectwise/aspectwise/engine/BlockEnd" "block" "Ljava/lang/String;" .null := (a_0.ext E1)
  obtain ⟨T5, X5, e5, st5⟩ := getF X1 hx hZ hown (host := "") (Or.inl (hw _ (List.mem_of_getElem? (i := 17) rfl))) Via.refl e1 f4 (g := (mkF m 5 #[rv a1] [(.ref a1), (.ref b1), (.ref b1)])) rfl rfl (hb hby d_prog_23_method_3_code_5)
  have k6 : Way p e below S0 T5 (mkF m 8 #[rv a1] [.null, (.ref b1), (.ref b1)]) := fun t k => k3 t (st5 _ k)
  have k7 : Way p e below S0 T5 (mkF m 9 #[rv a1] [(.ref a1), .null, (.ref b1), (.ref b1)]) := by
    intro t k
    refine k6 t ?_
    refine XS.aloadN X5.here hx rfl (hb hby d_prog_23_method_3_code_8) rfl rfl ?_
    show Steps p.tables e below (T5.setTop (mkF m 9 #[rv a1] [(.ref a1), .null, (.ref b1), (.ref b1)])) _
    exact k
  have f8 : Fld Z h1 a1 "com/example/aspectwise/aspectwise/engine/BlockEnd" "side" "Lcom/example/aspectwise/aspectwise/engine/BlockEnd$Side;" (.ref w_EAST) := (a_1.ext E1)
  obtain ⟨T9, X9, e9, st9⟩ := getF X5 hx hZ hown (host := "") (Or.inl (hw _ (List.mem_of_getElem? (i := 19) rfl))) Via.refl e5 f8 (g := (mkF m 9 #[rv a1] [(.ref a1), .null, (.ref b1), (.ref b1)])) rfl rfl (hb hby d_prog_23_method_3_code_9)
  have k10 : Way p e below S0 T9 (mkF m 12 #[rv a1] [(.ref w_EAST), .null, (.ref b1), (.ref b1)]) := fun t k => k7 t (st9 _ k)
  obtain ⟨T11, X11, e11, st11⟩ := getS2 X9 hx hZ hown (host := "") (Or.inl (hw _ (List.mem_of_getElem? (i := 27) rfl))) Via.refl e9 (S_w_EAST.ext O1.2) (g := (mkF m 12 #[rv a1] [(.ref w_EAST), .null, (.ref b1), (.ref b1)])) rfl (hb hby d_prog_23_method_3_code_12)
  have k12 : Way p e below S0 T11 (mkF m 15 #[rv a1] [(.ref w_EAST), (.ref w_EAST), .null, (.ref b1), (.ref b1)]) := fun t k => k10 t (st11 _ k)
  have k13 : Way p e below S0 T11 (mkF m 18 #[rv a1] [.null, (.ref b1), (.ref b1)]) := by
    intro t k
    refine k12 t ?_
    refine Jvm.RoadKit.acmp (g := (mkF m 15 #[rv a1] [(.ref w_EAST), (.ref w_EAST), .null, (.ref b1), (.ref b1)])) X11 hx rfl rfl rfl (pc0 := 15) (pc' := 18) (same := true) rfl (hb hby d_prog_23_method_3_code_15) rfl (decide_eq_true rfl) (by decide) (by decide) ?_
    show Steps p.tables e below (T11.setTop (mkF m 18 #[rv a1] [.null, (.ref b1), (.ref b1)])) _
    exact k
  obtain ⟨T14, X14, e14, st14⟩ := getS2 X11 hx hZ hown (host := "") (Or.inl (hw _ (List.mem_of_getElem? (i := 28) rfl))) Via.refl e11 (S_w_WEST.ext O1.2) (g := (mkF m 18 #[rv a1] [.null, (.ref b1), (.ref b1)])) rfl (hb hby d_prog_23_method_3_code_18)
  have k15 : Way p e below S0 T14 (mkF m 21 #[rv a1] [(.ref w_WEST), .null, (.ref b1), (.ref b1)]) := fun t k => k13 t (st14 _ k)
  have k16 : Way p e below S0 T14 (mkF m 27 #[rv a1] [(.ref w_WEST), .null, (.ref b1), (.ref b1)]) := by
    intro t k
    refine k15 t ?_
    refine XS.goto X14.here hx rfl (pc0 := 21) (pc' := 27) rfl (hb hby d_prog_23_method_3_code_21) (by decide) (by decide) ?_
    show Steps p.tables e below (T14.setTop (mkF m 27 #[rv a1] [(.ref w_WEST), .null, (.ref b1), (.ref b1)])) _
    exact k
  have ge17 : n0 ≤ b1 := Nat.le_trans (own_old O0) (Nat.le_of_eq g1.symm)
  obtain ⟨_, _, ⟨T18, L18, kk18, nn18⟩, -, X18, ⟨Lc18, hQ18, l18, y18, z18⟩, st18⟩ := X14.specialBack hx (y := (⟨"com/example/aspectwise/aspectwise/engine/BlockEnd", "<init>", "(Ljava/lang/String;Lcom/example/aspectwise/aspectwise/engine/BlockEnd$Side;)V"⟩ : MethodName)) rfl hown (mvT hZ (hw _ (List.mem_of_getElem? (i := 30) rfl))) (mvT hZ (hw _ (List.mem_of_getElem? (i := 7) rfl))) (mvT hZ (hw _ (List.mem_of_getElem? (i := 8) rfl))) (by decide) (backOf (W := 1) (bi0 l Z a0 hw [] w_EAST w_WEST wCS G b1 w_WEST h1 n0 O1 (A1 : Exa Z h1 b1 "com/example/aspectwise/aspectwise/engine/BlockEnd") (i1_block : Fld Z h1 b1 "com/example/aspectwise/aspectwise/engine/BlockEnd" "block" "Ljava/lang/String;" .null) (i1_side : Fld Z h1 b1 "com/example/aspectwise/aspectwise/engine/BlockEnd" "side" "Lcom/example/aspectwise/aspectwise/engine/BlockEnd$Side;" .null) (ge17 : n0 ≤ b1)) hZ (hw _ (List.mem_of_getElem? (i := 8) rfl)) (hw _ (List.mem_of_getElem? (i := 5) rfl)) (by decide) (by decide)) (g := (mkF m 27 #[rv a1] [(.ref w_WEST), .null, (.ref b1), (.ref b1)])) rfl (by rw [hml]; rfl) (Steps.refl _) (a := b1) (argsL := [.null, (.ref w_WEST)]) (rest := [(.ref b1)]) (lenOf pd_8 rfl) rfl (by show 2 * 0 + _ ≤ _; exact Nat.le_of_eq rfl) (hb hby d_prog_23_method_3_code_27) (fun _ _ => ⟨rfl, e14, (by decide : 1 + 0 ≤ _), (by decide : 2 + 0 ≤ _)⟩)
  dsimp only [Pt.U, Pt.locs, Pt.cells, Pt.slots] at X18 l18 y18 z18 st18 hQ18
  subst l18 y18 z18
  obtain ⟨rfl, Nq18, Kq18, po18_0, po18_1, po18_2⟩ := hQ18
  have N18 := Fr.app N0 Nq18
  have O18 := O1.keep Kq18 (allS ge17 all0)
  have gz19 : h0.size ≤ b1 := Nat.le_trans (Keep.refl h0 []).1 (Nat.le_of_eq g1.symm)
  have K18 : Keep h0 T18.heap [] := K1.trans Kq18 (allS (Or.inr gz19) all0)
  have k20 : Way p e below S0 T18 (mkF m 30 #[rv a1] [(.ref b1)]) := fun t k => k16 t (st18.trans k)
  obtain ⟨fs, hr, hrun, hended, hW, hsame⟩ := X18.leave (v := some (.ref b1)) (fun h => by rw [Bd.returns] at h; cases h)
  refine ⟨_, _, k20 _ (retOut X18 hx Bd.returns rfl (Or.inr (Or.inr (Or.inr (Or.inr ⟨rfl, rfl, rfl⟩)))) (hb hby d_prog_23_method_3_code_30) hr), hrun, hended, _, _, rfl, ?_, ⟨_, rfl⟩, hW, hsame.mono (by decide) (by decide)⟩
  show Q_opp1EAST Z w_EAST w_WEST wCS a1 h0 n0 _ T18.heap _
  exact ⟨b1, rfl, N18, K18, gz19, po18_0, po18_1, po18_2⟩
def Q_opp1WEST (Z : State) (w_EAST : Addr) (w_WEST : Addr) (wCS : Int32) (a1 : Addr) (h0 : Heap) (n0 : Nat) (v : Option Value) (h : Heap) (L : List Loc) : Prop := ∃ b1 : Addr, (v = some (.ref b1)) ∧ (Fr n0 L) ∧ (Keep h0 h []) ∧ (h0.size ≤ b1) ∧ (Exa Z h b1 "com/example/aspectwise/aspectwise/engine/BlockEnd") ∧ (Fld Z h b1 "com/example/aspectwise/aspectwise/engine/BlockEnd" "block" "Ljava/lang/String;" .null) ∧ (Fld Z h b1 "com/example/aspectwise/aspectwise/engine/BlockEnd" "side" "Lcom/example/aspectwise/aspectwise/engine/BlockEnd$Side;" (.ref w_EAST))
set_option maxRecDepth 65536 in
set_option maxHeartbeats 40000000 in
theorem opp1WEST (l : Launch) (Z : State) (a0 : Array Value) (hw : ∀ d ∈ tables_1, d.before a0 Z = true) (ws : List Jvm.Cond) (w_EAST : Addr) (w_WEST : Addr) (wCS : Int32) (G : Gst Z w_EAST w_WEST wCS) (a1 : Addr) (h0 : Heap) (n0 : Nat) (O0 : Old Z n0 h0) (a_0 : Fld Z h0 a1 "com/example/aspectwise/aspectwise/engine/BlockEnd" "block" "Ljava/lang/String;" .null) (a_1 : Fld Z h0 a1 "com/example/aspectwise/aspectwise/engine/BlockEnd" "side" "Lcom/example/aspectwise/aspectwise/engine/BlockEnd$Side;" (.ref w_WEST)) :
    MetFree l (⟨"com/example/aspectwise/aspectwise/engine/BlockEnd", "opposite", "()Lcom/example/aspectwise/aspectwise/engine/BlockEnd;"⟩ : MethodName) (head1 (Jvm.Cond.code (⟨"com/example/aspectwise/aspectwise/engine/BlockEnd", "opposite", "()Lcom/example/aspectwise/aspectwise/engine/BlockEnd;"⟩ : MethodName) prog_23_method_3_code 1 (some (.object "com/example/aspectwise/aspectwise/engine/BlockEnd")) :: ws) ({ frames := 3, cells := 1, slots := 2, locals := 39 } : Room)) (fun a U => a = #[(.ref a1)] ∧ Z.Warmed39 U.vm ∧ U.heap = h0) (fun _ _ _ _ _ => True) (fun _ U o U' => ∃ v L, o = .returned v ∧ Q_opp1WEST Z w_EAST w_WEST wCS a1 h0 n0 v U'.heap L ∧ FrameEnd U o U' L ({ frames := 3, cells := 1, slots := 2, locals := 39 } : Room).cells ({ frames := 3, cells := 1, slots := 2, locals := 39 } : Room).slots) := by
  refine MetFree.of_bodySF (plainFor_of_name pn_4) hisR ?_
  intro p e s m args below meth c s₁ Bd hml0 hP hK
  obtain ⟨rfl, hZ, hh⟩ := hP
  have hx := Bd.exec
  have hby := Bd.bytes
  have hml : c.maxLocals = 1 := hml0
  have hown : s.vm.findClass "com/example/aspectwise/aspectwise/engine/BlockEnd" = some m.cls := findClass_of_methodNamed Bd.named
  have hnm := (name_of_methodNamed Bd.named Bd.method).1
  have X0 : Stand p l e ({ frames := 3, cells := 1, slots := 2, locals := 39 } : Room) s m #[(.ref a1)] below meth c s₁ [] 0 0 := Stand.of_body Bd
  have e0 : s₁.heap = h0 := by rw [← hh, Bd.state]; rfl
  have N0 := Fr.nil n0
  obtain ⟨S_w_EAST, E_w_EAST, F_w_EAST_ordinal, S_w_WEST, E_w_WEST, F_w_WEST_ordinal, S_CS, hCS⟩ := id G
  have k0 : Way p e below (s₁.setTop (entryFrame m #[(.ref a1)] 1)) s₁ (mkF m 0 #[rv a1] []) := fun t k => castTop (by first | (simp [entryFrame, mkF, argsToLocals, Value.category]; done) | rfl) k
  generalize s₁.setTop (entryFrame m #[(.ref a1)] 1) = S0 at k0 ⊢
  obtain ⟨T1, h1, X1, e1, E1, A1, D1, U1, st1⟩ := newO X0 hx hZ hown (hw _ (List.mem_of_getElem? (i := 26) rfl)) (hw _ (List.mem_of_getElem? (i := 4) rfl)) (hw _ (List.mem_of_getElem? (i := 5) rfl)) e0 (g := (mkF m 0 #[rv a1] [])) rfl (hb hby d_prog_23_method_3_code_0) (by decide) (by decide)
  obtain ⟨b1, g1⟩ : ∃ z, z = h0.size := ⟨_, rfl⟩
  rw [← g1] at A1 D1 U1 st1
  have O1 := O0.ext E1
  have K1 : Keep h0 h1 [] := (Keep.refl h0 []).ext E1
  have i1_block : Fld Z h1 b1 "com/example/aspectwise/aspectwise/engine/BlockEnd" "block" "Ljava/lang/String;" .null := D1 (Or.inr (hw _ (List.mem_of_getElem? (i := 18) rfl))) (ty := (.object "java/lang/String")) (by decide)
  have i1_side : Fld Z h1 b1 "com/example/aspectwise/aspectwise/engine/BlockEnd" "side" "Lcom/example/aspectwise/aspectwise/engine/BlockEnd$Side;" .null := D1 (Or.inr (hw _ (List.mem_of_getElem? (i := 20) rfl))) (ty := (.object "com/example/aspectwise/aspectwise/engine/BlockEnd$Side")) (by decide)
  have k2 : Way p e below S0 T1 (mkF m 3 #[rv a1] [(.ref b1)]) := fun t k => k0 t (st1 _ k)
  have k3 : Way p e below S0 T1 (mkF m 5 #[rv a1] [(.ref a1), (.ref b1), (.ref b1)]) := by
    intro t k
    refine k2 t ?_
    refine XS.dup X1.here hx rfl (hb hby d_prog_23_method_3_code_3) rfl rfl ?_
    show Steps p.tables e below (T1.setTop (mkF m 4 #[rv a1] [(.ref b1), (.ref b1)])) _
    refine XS.aloadN X1.here hx rfl (hb hby d_prog_23_method_3_code_4) rfl rfl ?_
    show Steps p.tables e below (T1.setTop (mkF m 5 #[rv a1] [(.ref a1), (.ref b1), (.ref b1)])) _
    exact k
  have f4 : Fld Z h1 a1 "com/example/aspectwise/aspectwise/engine/BlockEnd" "block" "Ljava/lang/String;" .null := (a_0.ext E1)
  obtain ⟨T5, X5, e5, st5⟩ := getF X1 hx hZ hown (host := "") (Or.inl (hw _ (List.mem_of_getElem? (i := 17) rfl))) Via.refl e1 f4 (g := (mkF m 5 #[rv a1] [(.ref a1), (.ref b1), (.ref b1)])) rfl rfl (hb hby d_prog_23_method_3_code_5)
  have k6 : Way p e below S0 T5 (mkF m 8 #[rv a1] [.null, (.ref b1), (.ref b1)]) := fun t k => k3 t (st5 _ k)
  have k7 : Way p e below S0 T5 (mkF m 9 #[rv a1] [(.ref a1), .null, (.ref b1), (.ref b1)]) := by
    intro t k
    refine k6 t ?_
    refine XS.aloadN X5.here hx rfl (hb hby d_prog_23_method_3_code_8) rfl rfl ?_
    show Steps p.tables e below (T5.setTop (mkF m 9 #[rv a1] [(.ref a1), .null, (.ref b1), (.ref b1)])) _
    exact k
  have f8 : Fld Z h1 a1 "com/example/aspectwise/aspectwise/engine/BlockEnd" "side" "Lcom/example/aspectwise/aspectwise/engine/BlockEnd$Side;" (.ref w_WEST) := (a_1.ext E1)
  obtain ⟨T9, X9, e9, st9⟩ := getF X5 hx hZ hown (host := "") (Or.inl (hw _ (List.mem_of_getElem? (i := 19) rfl))) Via.refl e5 f8 (g := (mkF m 9 #[rv a1] [(.ref a1), .null, (.ref b1), (.ref b1)])) rfl rfl (hb hby d_prog_23_method_3_code_9)
  have k10 : Way p e below S0 T9 (mkF m 12 #[rv a1] [(.ref w_WEST), .null, (.ref b1), (.ref b1)]) := fun t k => k7 t (st9 _ k)
  obtain ⟨T11, X11, e11, st11⟩ := getS2 X9 hx hZ hown (host := "") (Or.inl (hw _ (List.mem_of_getElem? (i := 27) rfl))) Via.refl e9 (S_w_EAST.ext O1.2) (g := (mkF m 12 #[rv a1] [(.ref w_WEST), .null, (.ref b1), (.ref b1)])) rfl (hb hby d_prog_23_method_3_code_12)
  have k12 : Way p e below S0 T11 (mkF m 15 #[rv a1] [(.ref w_EAST), (.ref w_WEST), .null, (.ref b1), (.ref b1)]) := fun t k => k10 t (st11 _ k)
  have k13 : Way p e below S0 T11 (mkF m 24 #[rv a1] [.null, (.ref b1), (.ref b1)]) := by
    intro t k
    refine k12 t ?_
    refine Jvm.RoadKit.acmp (g := (mkF m 15 #[rv a1] [(.ref w_EAST), (.ref w_WEST), .null, (.ref b1), (.ref b1)])) X11 hx rfl rfl rfl (pc0 := 15) (pc' := 24) (same := false) rfl (hb hby d_prog_23_method_3_code_15) rfl (decide_eq_false fun q => absurd (Value.ref.inj q) (F_w_WEST_ordinal.ne F_w_EAST_ordinal (by decide))) (by decide) (by decide) ?_
    show Steps p.tables e below (T11.setTop (mkF m 24 #[rv a1] [.null, (.ref b1), (.ref b1)])) _
    exact k
  obtain ⟨T14, X14, e14, st14⟩ := getS2 X11 hx hZ hown (host := "") (Or.inl (hw _ (List.mem_of_getElem? (i := 27) rfl))) Via.refl e11 (S_w_EAST.ext O1.2) (g := (mkF m 24 #[rv a1] [.null, (.ref b1), (.ref b1)])) rfl (hb hby d_prog_23_method_3_code_24)
  have k15 : Way p e below S0 T14 (mkF m 27 #[rv a1] [(.ref w_EAST), .null, (.ref b1), (.ref b1)]) := fun t k => k13 t (st14 _ k)
  have ge16 : n0 ≤ b1 := Nat.le_trans (own_old O0) (Nat.le_of_eq g1.symm)
  obtain ⟨_, _, ⟨T17, L17, kk17, nn17⟩, -, X17, ⟨Lc17, hQ17, l17, y17, z17⟩, st17⟩ := X14.specialBack hx (y := (⟨"com/example/aspectwise/aspectwise/engine/BlockEnd", "<init>", "(Ljava/lang/String;Lcom/example/aspectwise/aspectwise/engine/BlockEnd$Side;)V"⟩ : MethodName)) rfl hown (mvT hZ (hw _ (List.mem_of_getElem? (i := 30) rfl))) (mvT hZ (hw _ (List.mem_of_getElem? (i := 7) rfl))) (mvT hZ (hw _ (List.mem_of_getElem? (i := 8) rfl))) (by decide) (backOf (W := 1) (bi0 l Z a0 hw [] w_EAST w_WEST wCS G b1 w_EAST h1 n0 O1 (A1 : Exa Z h1 b1 "com/example/aspectwise/aspectwise/engine/BlockEnd") (i1_block : Fld Z h1 b1 "com/example/aspectwise/aspectwise/engine/BlockEnd" "block" "Ljava/lang/String;" .null) (i1_side : Fld Z h1 b1 "com/example/aspectwise/aspectwise/engine/BlockEnd" "side" "Lcom/example/aspectwise/aspectwise/engine/BlockEnd$Side;" .null) (ge16 : n0 ≤ b1)) hZ (hw _ (List.mem_of_getElem? (i := 8) rfl)) (hw _ (List.mem_of_getElem? (i := 5) rfl)) (by decide) (by decide)) (g := (mkF m 27 #[rv a1] [(.ref w_EAST), .null, (.ref b1), (.ref b1)])) rfl (by rw [hml]; rfl) (Steps.refl _) (a := b1) (argsL := [.null, (.ref w_EAST)]) (rest := [(.ref b1)]) (lenOf pd_8 rfl) rfl (by show 2 * 0 + _ ≤ _; exact Nat.le_of_eq rfl) (hb hby d_prog_23_method_3_code_27) (fun _ _ => ⟨rfl, e14, (by decide : 1 + 0 ≤ _), (by decide : 2 + 0 ≤ _)⟩)
  dsimp only [Pt.U, Pt.locs, Pt.cells, Pt.slots] at X17 l17 y17 z17 st17 hQ17
  subst l17 y17 z17
  obtain ⟨rfl, Nq17, Kq17, po17_0, po17_1, po17_2⟩ := hQ17
  have N17 := Fr.app N0 Nq17
  have O17 := O1.keep Kq17 (allS ge16 all0)
  have gz18 : h0.size ≤ b1 := Nat.le_trans (Keep.refl h0 []).1 (Nat.le_of_eq g1.symm)
  have K17 : Keep h0 T17.heap [] := K1.trans Kq17 (allS (Or.inr gz18) all0)
  have k19 : Way p e below S0 T17 (mkF m 30 #[rv a1] [(.ref b1)]) := fun t k => k15 t (st17.trans k)
  obtain ⟨fs, hr, hrun, hended, hW, hsame⟩ := X17.leave (v := some (.ref b1)) (fun h => by rw [Bd.returns] at h; cases h)
  refine ⟨_, _, k19 _ (retOut X17 hx Bd.returns rfl (Or.inr (Or.inr (Or.inr (Or.inr ⟨rfl, rfl, rfl⟩)))) (hb hby d_prog_23_method_3_code_30) hr), hrun, hended, _, _, rfl, ?_, ⟨_, rfl⟩, hW, hsame.mono (by decide) (by decide)⟩
  show Q_opp1WEST Z w_EAST w_WEST wCS a1 h0 n0 _ T17.heap _
  exact ⟨b1, rfl, N17, K17, gz18, po17_0, po17_1, po17_2⟩
def Q_opp0EAST (Z : State) (w_EAST : Addr) (w_WEST : Addr) (wCS : Int32) (a1 : Addr) (a2 : Addr) (h0 : Heap) (n0 : Nat) (v : Option Value) (h : Heap) (L : List Loc) : Prop := ∃ b1 : Addr, (v = some (.ref b1)) ∧ (Fr n0 L) ∧ (Keep h0 h []) ∧ (h0.size ≤ b1) ∧ (Exa Z h b1 "com/example/aspectwise/aspectwise/engine/BlockEnd") ∧ (Fld Z h b1 "com/example/aspectwise/aspectwise/engine/BlockEnd" "block" "Ljava/lang/String;" (.ref a2)) ∧ (Fld Z h b1 "com/example/aspectwise/aspectwise/engine/BlockEnd" "side" "Lcom/example/aspectwise/aspectwise/engine/BlockEnd$Side;" (.ref w_WEST))
set_option maxRecDepth 65536 in
set_option maxHeartbeats 40000000 in
theorem opp0EAST (l : Launch) (Z : State) (a0 : Array Value) (hw : ∀ d ∈ tables_1, d.before a0 Z = true) (ws : List Jvm.Cond) (w_EAST : Addr) (w_WEST : Addr) (wCS : Int32) (G : Gst Z w_EAST w_WEST wCS) (a1 : Addr) (a2 : Addr) (h0 : Heap) (n0 : Nat) (O0 : Old Z n0 h0) (a_0 : Fld Z h0 a1 "com/example/aspectwise/aspectwise/engine/BlockEnd" "block" "Ljava/lang/String;" (.ref a2)) (a_1 : Fld Z h0 a1 "com/example/aspectwise/aspectwise/engine/BlockEnd" "side" "Lcom/example/aspectwise/aspectwise/engine/BlockEnd$Side;" (.ref w_EAST)) :
    MetFree l (⟨"com/example/aspectwise/aspectwise/engine/BlockEnd", "opposite", "()Lcom/example/aspectwise/aspectwise/engine/BlockEnd;"⟩ : MethodName) (head1 (Jvm.Cond.code (⟨"com/example/aspectwise/aspectwise/engine/BlockEnd", "opposite", "()Lcom/example/aspectwise/aspectwise/engine/BlockEnd;"⟩ : MethodName) prog_23_method_3_code 1 (some (.object "com/example/aspectwise/aspectwise/engine/BlockEnd")) :: ws) ({ frames := 3, cells := 1, slots := 2, locals := 39 } : Room)) (fun a U => a = #[(.ref a1)] ∧ Z.Warmed39 U.vm ∧ U.heap = h0) (fun _ _ _ _ _ => True) (fun _ U o U' => ∃ v L, o = .returned v ∧ Q_opp0EAST Z w_EAST w_WEST wCS a1 a2 h0 n0 v U'.heap L ∧ FrameEnd U o U' L ({ frames := 3, cells := 1, slots := 2, locals := 39 } : Room).cells ({ frames := 3, cells := 1, slots := 2, locals := 39 } : Room).slots) := by
  refine MetFree.of_bodySF (plainFor_of_name pn_4) hisR ?_
  intro p e s m args below meth c s₁ Bd hml0 hP hK
  obtain ⟨rfl, hZ, hh⟩ := hP
  have hx := Bd.exec
  have hby := Bd.bytes
  have hml : c.maxLocals = 1 := hml0
  have hown : s.vm.findClass "com/example/aspectwise/aspectwise/engine/BlockEnd" = some m.cls := findClass_of_methodNamed Bd.named
  have hnm := (name_of_methodNamed Bd.named Bd.method).1
  have X0 : Stand p l e ({ frames := 3, cells := 1, slots := 2, locals := 39 } : Room) s m #[(.ref a1)] below meth c s₁ [] 0 0 := Stand.of_body Bd
  have e0 : s₁.heap = h0 := by rw [← hh, Bd.state]; rfl
  have N0 := Fr.nil n0
  obtain ⟨S_w_EAST, E_w_EAST, F_w_EAST_ordinal, S_w_WEST, E_w_WEST, F_w_WEST_ordinal, S_CS, hCS⟩ := id G
  have k0 : Way p e below (s₁.setTop (entryFrame m #[(.ref a1)] 1)) s₁ (mkF m 0 #[rv a1] []) := fun t k => castTop (by first | (simp [entryFrame, mkF, argsToLocals, Value.category]; done) | rfl) k
  generalize s₁.setTop (entryFrame m #[(.ref a1)] 1) = S0 at k0 ⊢
  obtain ⟨T1, h1, X1, e1, E1, A1, D1, U1, st1⟩ := newO X0 hx hZ hown (hw _ (List.mem_of_getElem? (i := 26) rfl)) (hw _ (List.mem_of_getElem? (i := 4) rfl)) (hw _ (List.mem_of_getElem? (i := 5) rfl)) e0 (g := (mkF m 0 #[rv a1] [])) rfl (hb hby d_prog_23_method_3_code_0) (by decide) (by decide)
  obtain ⟨b1, g1⟩ : ∃ z, z = h0.size := ⟨_, rfl⟩
  rw [← g1] at A1 D1 U1 st1
  have O1 := O0.ext E1
  have K1 : Keep h0 h1 [] := (Keep.refl h0 []).ext E1
  have i1_block : Fld Z h1 b1 "com/example/aspectwise/aspectwise/engine/BlockEnd" "block" "Ljava/lang/String;" .null := D1 (Or.inr (hw _ (List.mem_of_getElem? (i := 18) rfl))) (ty := (.object "java/lang/String")) (by decide)
  have i1_side : Fld Z h1 b1 "com/example/aspectwise/aspectwise/engine/BlockEnd" "side" "Lcom/example/aspectwise/aspectwise/engine/BlockEnd$Side;" .null := D1 (Or.inr (hw _ (List.mem_of_getElem? (i := 20) rfl))) (ty := (.object "com/example/aspectwise/aspectwise/engine/BlockEnd$Side")) (by decide)
  have k2 : Way p e below S0 T1 (mkF m 3 #[rv a1] [(.ref b1)]) := fun t k => k0 t (st1 _ k)
  have k3 : Way p e below S0 T1 (mkF m 5 #[rv a1] [(.ref a1), (.ref b1), (.ref b1)]) := by
    intro t k
    refine k2 t ?_
    refine XS.dup X1.here hx rfl (hb hby d_prog_23_method_3_code_3) rfl rfl ?_
    show Steps p.tables e below (T1.setTop (mkF m 4 #[rv a1] [(.ref b1), (.ref b1)])) _
    refine XS.aloadN X1.here hx rfl (hb hby d_prog_23_method_3_code_4) rfl rfl ?_
    show Steps p.tables e below (T1.setTop (mkF m 5 #[rv a1] [(.ref a1), (.ref b1), (.ref b1)])) _
    exact k
  have f4 : Fld Z h1 a1 "com/example/aspectwise/aspectwise/engine/BlockEnd" "block" "Ljava/lang/String;" (.ref a2) := (a_0.ext E1)
  obtain ⟨T5, X5, e5, st5⟩ := getF X1 hx hZ hown (host := "") (Or.inl (hw _ (List.mem_of_getElem? (i := 17) rfl))) Via.refl e1 f4 (g := (mkF m 5 #[rv a1] [(.ref a1), (.ref b1), (.ref b1)])) rfl rfl (hb hby d_prog_23_method_3_code_5)
  have k6 : Way p e below S0 T5 (mkF m 8 #[rv a1] [(.ref a2), (.ref b1), (.ref b1)]) := fun t k => k3 t (st5 _ k)
  have k7 : Way p e below S0 T5 (mkF m 9 #[rv a1] [(.ref a1), (.ref a2), (.ref b1), (.ref b1)]) := by
    intro t k
    refine k6 t ?_
    refine XS.aloadN X5.here hx rfl (hb hby d_prog_23_method_3_code_8) rfl rfl ?_
    show Steps p.tables e below (T5.setTop (mkF m 9 #[rv a1] [(.ref a1), (.ref a2), (.ref b1), (.ref b1)])) _
    exact k
  have f8 : Fld Z h1 a1 "com/example/aspectwise/aspectwise/engine/BlockEnd" "side" "Lcom/example/aspectwise/aspectwise/engine/BlockEnd$Side;" (.ref w_EAST) := (a_1.ext E1)
  obtain ⟨T9, X9, e9, st9⟩ := getF X5 hx hZ hown (host := "") (Or.inl (hw _ (List.mem_of_getElem? (i := 19) rfl))) Via.refl e5 f8 (g := (mkF m 9 #[rv a1] [(.ref a1), (.ref a2), (.ref b1), (.ref b1)])) rfl rfl (hb hby d_prog_23_method_3_code_9)
  have k10 : Way p e below S0 T9 (mkF m 12 #[rv a1] [(.ref w_EAST), (.ref a2), (.ref b1), (.ref b1)]) := fun t k => k7 t (st9 _ k)
  obtain ⟨T11, X11, e11, st11⟩ := getS2 X9 hx hZ hown (host := "") (Or.inl (hw _ (List.mem_of_getElem? (i := 27) rfl))) Via.refl e9 (S_w_EAST.ext O1.2) (g := (mkF m 12 #[rv a1] [(.ref w_EAST), (.ref a2), (.ref b1), (.ref b1)])) rfl (hb hby d_prog_23_method_3_code_12)
  have k12 : Way p e below S0 T11 (mkF m 15 #[rv a1] [(.ref w_EAST), (.ref w_EAST), (.ref a2), (.ref b1), (.ref b1)]) := fun t k => k10 t (st11 _ k)
  have k13 : Way p e below S0 T11 (mkF m 18 #[rv a1] [(.ref a2), (.ref b1), (.ref b1)]) := by
    intro t k
    refine k12 t ?_
    refine Jvm.RoadKit.acmp (g := (mkF m 15 #[rv a1] [(.ref w_EAST), (.ref w_EAST), (.ref a2), (.ref b1), (.ref b1)])) X11 hx rfl rfl rfl (pc0 := 15) (pc' := 18) (same := true) rfl (hb hby d_prog_23_method_3_code_15) rfl (decide_eq_true rfl) (by decide) (by decide) ?_
    show Steps p.tables e below (T11.setTop (mkF m 18 #[rv a1] [(.ref a2), (.ref b1), (.ref b1)])) _
    exact k
  obtain ⟨T14, X14, e14, st14⟩ := getS2 X11 hx hZ hown (host := "") (Or.inl (hw _ (List.mem_of_getElem? (i := 28) rfl))) Via.refl e11 (S_w_WEST.ext O1.2) (g := (mkF m 18 #[rv a1] [(.ref a2), (.ref b1), (.ref b1)])) rfl (hb hby d_prog_23_method_3_code_18)
  have k15 : Way p e below S0 T14 (mkF m 21 #[rv a1] [(.ref w_WEST), (.ref a2), (.ref b1), (.ref b1)]) := fun t k => k13 t (st14 _ k)
  have k16 : Way p e below S0 T14 (mkF m 27 #[rv a1] [(.ref w_WEST), (.ref a2), (.ref b1), (.ref b1)]) := by
    intro t k
    refine k15 t ?_
    refine XS.goto X14.here hx rfl (pc0 := 21) (pc' := 27) rfl (hb hby d_prog_23_method_3_code_21) (by decide) (by decide) ?_
    show Steps p.tables e below (T14.setTop (mkF m 27 #[rv a1] [(.ref w_WEST), (.ref a2), (.ref b1), (.ref b1)])) _
    exact k
  have ge17 : n0 ≤ b1 := Nat.le_trans (own_old O0) (Nat.le_of_eq g1.symm)
  obtain ⟨_, _, ⟨T18, L18, kk18, nn18⟩, -, X18, ⟨Lc18, hQ18, l18, y18, z18⟩, st18⟩ := X14.specialBack hx (y := (⟨"com/example/aspectwise/aspectwise/engine/BlockEnd", "<init>", "(Ljava/lang/String;Lcom/example/aspectwise/aspectwise/engine/BlockEnd$Side;)V"⟩ : MethodName)) rfl hown (mvT hZ (hw _ (List.mem_of_getElem? (i := 30) rfl))) (mvT hZ (hw _ (List.mem_of_getElem? (i := 7) rfl))) (mvT hZ (hw _ (List.mem_of_getElem? (i := 8) rfl))) (by decide) (backOf (W := 1) (bi1 l Z a0 hw [] w_EAST w_WEST wCS G b1 a2 w_WEST h1 n0 O1 (A1 : Exa Z h1 b1 "com/example/aspectwise/aspectwise/engine/BlockEnd") (i1_block : Fld Z h1 b1 "com/example/aspectwise/aspectwise/engine/BlockEnd" "block" "Ljava/lang/String;" .null) (i1_side : Fld Z h1 b1 "com/example/aspectwise/aspectwise/engine/BlockEnd" "side" "Lcom/example/aspectwise/aspectwise/engine/BlockEnd$Side;" .null) (ge17 : n0 ≤ b1)) hZ (hw _ (List.mem_of_getElem? (i := 8) rfl)) (hw _ (List.mem_of_getElem? (i := 5) rfl)) (by decide) (by decide)) (g := (mkF m 27 #[rv a1] [(.ref w_WEST), (.ref a2), (.ref b1), (.ref b1)])) rfl (by rw [hml]; rfl) (Steps.refl _) (a := b1) (argsL := [(.ref a2), (.ref w_WEST)]) (rest := [(.ref b1)]) (lenOf pd_8 rfl) rfl (by show 2 * 0 + _ ≤ _; exact Nat.le_of_eq rfl) (hb hby d_prog_23_method_3_code_27) (fun _ _ => ⟨rfl, e14, (by decide : 1 + 0 ≤ _), (by decide : 2 + 0 ≤ _)⟩)
  dsimp only [Pt.U, Pt.locs, Pt.cells, Pt.slots] at X18 l18 y18 z18 st18 hQ18
  subst l18 y18 z18
  obtain ⟨rfl, Nq18, Kq18, po18_0, po18_1, po18_2⟩ := hQ18
  have N18 := Fr.app N0 Nq18
  have O18 := O1.keep Kq18 (allS ge17 all0)
  have gz19 : h0.size ≤ b1 := Nat.le_trans (Keep.refl h0 []).1 (Nat.le_of_eq g1.symm)
  have K18 : Keep h0 T18.heap [] := K1.trans Kq18 (allS (Or.inr gz19) all0)
  have k20 : Way p e below S0 T18 (mkF m 30 #[rv a1] [(.ref b1)]) := fun t k => k16 t (st18.trans k)
  obtain ⟨fs, hr, hrun, hended, hW, hsame⟩ := X18.leave (v := some (.ref b1)) (fun h => by rw [Bd.returns] at h; cases h)
  refine ⟨_, _, k20 _ (retOut X18 hx Bd.returns rfl (Or.inr (Or.inr (Or.inr (Or.inr ⟨rfl, rfl, rfl⟩)))) (hb hby d_prog_23_method_3_code_30) hr), hrun, hended, _, _, rfl, ?_, ⟨_, rfl⟩, hW, hsame.mono (by decide) (by decide)⟩
  show Q_opp0EAST Z w_EAST w_WEST wCS a1 a2 h0 n0 _ T18.heap _
  exact ⟨b1, rfl, N18, K18, gz19, po18_0, po18_1, po18_2⟩
def Q_opp0WEST (Z : State) (w_EAST : Addr) (w_WEST : Addr) (wCS : Int32) (a1 : Addr) (a2 : Addr) (h0 : Heap) (n0 : Nat) (v : Option Value) (h : Heap) (L : List Loc) : Prop := ∃ b1 : Addr, (v = some (.ref b1)) ∧ (Fr n0 L) ∧ (Keep h0 h []) ∧ (h0.size ≤ b1) ∧ (Exa Z h b1 "com/example/aspectwise/aspectwise/engine/BlockEnd") ∧ (Fld Z h b1 "com/example/aspectwise/aspectwise/engine/BlockEnd" "block" "Ljava/lang/String;" (.ref a2)) ∧ (Fld Z h b1 "com/example/aspectwise/aspectwise/engine/BlockEnd" "side" "Lcom/example/aspectwise/aspectwise/engine/BlockEnd$Side;" (.ref w_EAST))
set_option maxRecDepth 65536 in
set_option maxHeartbeats 40000000 in
theorem opp0WEST (l : Launch) (Z : State) (a0 : Array Value) (hw : ∀ d ∈ tables_1, d.before a0 Z = true) (ws : List Jvm.Cond) (w_EAST : Addr) (w_WEST : Addr) (wCS : Int32) (G : Gst Z w_EAST w_WEST wCS) (a1 : Addr) (a2 : Addr) (h0 : Heap) (n0 : Nat) (O0 : Old Z n0 h0) (a_0 : Fld Z h0 a1 "com/example/aspectwise/aspectwise/engine/BlockEnd" "block" "Ljava/lang/String;" (.ref a2)) (a_1 : Fld Z h0 a1 "com/example/aspectwise/aspectwise/engine/BlockEnd" "side" "Lcom/example/aspectwise/aspectwise/engine/BlockEnd$Side;" (.ref w_WEST)) :
    MetFree l (⟨"com/example/aspectwise/aspectwise/engine/BlockEnd", "opposite", "()Lcom/example/aspectwise/aspectwise/engine/BlockEnd;"⟩ : MethodName) (head1 (Jvm.Cond.code (⟨"com/example/aspectwise/aspectwise/engine/BlockEnd", "opposite", "()Lcom/example/aspectwise/aspectwise/engine/BlockEnd;"⟩ : MethodName) prog_23_method_3_code 1 (some (.object "com/example/aspectwise/aspectwise/engine/BlockEnd")) :: ws) ({ frames := 3, cells := 1, slots := 2, locals := 39 } : Room)) (fun a U => a = #[(.ref a1)] ∧ Z.Warmed39 U.vm ∧ U.heap = h0) (fun _ _ _ _ _ => True) (fun _ U o U' => ∃ v L, o = .returned v ∧ Q_opp0WEST Z w_EAST w_WEST wCS a1 a2 h0 n0 v U'.heap L ∧ FrameEnd U o U' L ({ frames := 3, cells := 1, slots := 2, locals := 39 } : Room).cells ({ frames := 3, cells := 1, slots := 2, locals := 39 } : Room).slots) := by
  refine MetFree.of_bodySF (plainFor_of_name pn_4) hisR ?_
  intro p e s m args below meth c s₁ Bd hml0 hP hK
  obtain ⟨rfl, hZ, hh⟩ := hP
  have hx := Bd.exec
  have hby := Bd.bytes
  have hml : c.maxLocals = 1 := hml0
  have hown : s.vm.findClass "com/example/aspectwise/aspectwise/engine/BlockEnd" = some m.cls := findClass_of_methodNamed Bd.named
  have hnm := (name_of_methodNamed Bd.named Bd.method).1
  have X0 : Stand p l e ({ frames := 3, cells := 1, slots := 2, locals := 39 } : Room) s m #[(.ref a1)] below meth c s₁ [] 0 0 := Stand.of_body Bd
  have e0 : s₁.heap = h0 := by rw [← hh, Bd.state]; rfl
  have N0 := Fr.nil n0
  obtain ⟨S_w_EAST, E_w_EAST, F_w_EAST_ordinal, S_w_WEST, E_w_WEST, F_w_WEST_ordinal, S_CS, hCS⟩ := id G
  have k0 : Way p e below (s₁.setTop (entryFrame m #[(.ref a1)] 1)) s₁ (mkF m 0 #[rv a1] []) := fun t k => castTop (by first | (simp [entryFrame, mkF, argsToLocals, Value.category]; done) | rfl) k
  generalize s₁.setTop (entryFrame m #[(.ref a1)] 1) = S0 at k0 ⊢
  obtain ⟨T1, h1, X1, e1, E1, A1, D1, U1, st1⟩ := newO X0 hx hZ hown (hw _ (List.mem_of_getElem? (i := 26) rfl)) (hw _ (List.mem_of_getElem? (i := 4) rfl)) (hw _ (List.mem_of_getElem? (i := 5) rfl)) e0 (g := (mkF m 0 #[rv a1] [])) rfl (hb hby d_prog_23_method_3_code_0) (by decide) (by decide)
  obtain ⟨b1, g1⟩ : ∃ z, z = h0.size := ⟨_, rfl⟩
  rw [← g1] at A1 D1 U1 st1
  have O1 := O0.ext E1
  have K1 : Keep h0 h1 [] := (Keep.refl h0 []).ext E1
  have i1_block : Fld Z h1 b1 "com/example/aspectwise/aspectwise/engine/BlockEnd" "block" "Ljava/lang/String;" .null := D1 (Or.inr (hw _ (List.mem_of_getElem? (i := 18) rfl))) (ty := (.object "java/lang/String")) (by decide)
  have i1_side : Fld Z h1 b1 "com/example/aspectwise/aspectwise/engine/BlockEnd" "side" "Lcom/example/aspectwise/aspectwise/engine/BlockEnd$Side;" .null := D1 (Or.inr (hw _ (List.mem_of_getElem? (i := 20) rfl))) (ty := (.object "com/example/aspectwise/aspectwise/engine/BlockEnd$Side")) (by decide)
  have k2 : Way p e below S0 T1 (mkF m 3 #[rv a1] [(.ref b1)]) := fun t k => k0 t (st1 _ k)
  have k3 : Way p e below S0 T1 (mkF m 5 #[rv a1] [(.ref a1), (.ref b1), (.ref b1)]) := by
    intro t k
    refine k2 t ?_
    refine XS.dup X1.here hx rfl (hb hby d_prog_23_method_3_code_3) rfl rfl ?_
    show Steps p.tables e below (T1.setTop (mkF m 4 #[rv a1] [(.ref b1), (.ref b1)])) _
    refine XS.aloadN X1.here hx rfl (hb hby d_prog_23_method_3_code_4) rfl rfl ?_
    show Steps p.tables e below (T1.setTop (mkF m 5 #[rv a1] [(.ref a1), (.ref b1), (.ref b1)])) _
    exact k
  have f4 : Fld Z h1 a1 "com/example/aspectwise/aspectwise/engine/BlockEnd" "block" "Ljava/lang/String;" (.ref a2) := (a_0.ext E1)
  obtain ⟨T5, X5, e5, st5⟩ := getF X1 hx hZ hown (host := "") (Or.inl (hw _ (List.mem_of_getElem? (i := 17) rfl))) Via.refl e1 f4 (g := (mkF m 5 #[rv a1] [(.ref a1), (.ref b1), (.ref b1)])) rfl rfl (hb hby d_prog_23_method_3_code_5)
  have k6 : Way p e below S0 T5 (mkF m 8 #[rv a1] [(.ref a2), (.ref b1), (.ref b1)]) := fun t k => k3 t (st5 _ k)
  have k7 : Way p e below S0 T5 (mkF m 9 #[rv a1] [(.ref a1), (.ref a2), (.ref b1), (.ref b1)]) := by
    intro t k
    refine k6 t ?_
    refine XS.aloadN X5.here hx rfl (hb hby d_prog_23_method_3_code_8) rfl rfl ?_
    show Steps p.tables e below (T5.setTop (mkF m 9 #[rv a1] [(.ref a1), (.ref a2), (.ref b1), (.ref b1)])) _
    exact k
  have f8 : Fld Z h1 a1 "com/example/aspectwise/aspectwise/engine/BlockEnd" "side" "Lcom/example/aspectwise/aspectwise/engine/BlockEnd$Side;" (.ref w_WEST) := (a_1.ext E1)
  obtain ⟨T9, X9, e9, st9⟩ := getF X5 hx hZ hown (host := "") (Or.inl (hw _ (List.mem_of_getElem? (i := 19) rfl))) Via.refl e5 f8 (g := (mkF m 9 #[rv a1] [(.ref a1), (.ref a2), (.ref b1), (.ref b1)])) rfl rfl (hb hby d_prog_23_method_3_code_9)
  have k10 : Way p e below S0 T9 (mkF m 12 #[rv a1] [(.ref w_WEST), (.ref a2), (.ref b1), (.ref b1)]) := fun t k => k7 t (st9 _ k)
  obtain ⟨T11, X11, e11, st11⟩ := getS2 X9 hx hZ hown (host := "") (Or.inl (hw _ (List.mem_of_getElem? (i := 27) rfl))) Via.refl e9 (S_w_EAST.ext O1.2) (g := (mkF m 12 #[rv a1] [(.ref w_WEST), (.ref a2), (.ref b1), (.ref b1)])) rfl (hb hby d_prog_23_method_3_code_12)
  have k12 : Way p e below S0 T11 (mkF m 15 #[rv a1] [(.ref w_EAST), (.ref w_WEST), (.ref a2), (.ref b1), (.ref b1)]) := fun t k => k10 t (st11 _ k)
  have k13 : Way p e below S0 T11 (mkF m 24 #[rv a1] [(.ref a2), (.ref b1), (.ref b1)]) := by
    intro t k
    refine k12 t ?_
    refine Jvm.RoadKit.acmp (g := (mkF m 15 #[rv a1] [(.ref w_EAST), (.ref w_WEST), (.ref a2), (.ref b1), (.ref b1)])) X11 hx rfl rfl rfl (pc0 := 15) (pc' := 24) (same := false) rfl (hb hby d_prog_23_method_3_code_15) rfl (decide_eq_false fun q => absurd (Value.ref.inj q) (F_w_WEST_ordinal.ne F_w_EAST_ordinal (by decide))) (by decide) (by decide) ?_
    show Steps p.tables e below (T11.setTop (mkF m 24 #[rv a1] [(.ref a2), (.ref b1), (.ref b1)])) _
    exact k
  obtain ⟨T14, X14, e14, st14⟩ := getS2 X11 hx hZ hown (host := "") (Or.inl (hw _ (List.mem_of_getElem? (i := 27) rfl))) Via.refl e11 (S_w_EAST.ext O1.2) (g := (mkF m 24 #[rv a1] [(.ref a2), (.ref b1), (.ref b1)])) rfl (hb hby d_prog_23_method_3_code_24)
  have k15 : Way p e below S0 T14 (mkF m 27 #[rv a1] [(.ref w_EAST), (.ref a2), (.ref b1), (.ref b1)]) := fun t k => k13 t (st14 _ k)
  have ge16 : n0 ≤ b1 := Nat.le_trans (own_old O0) (Nat.le_of_eq g1.symm)
  obtain ⟨_, _, ⟨T17, L17, kk17, nn17⟩, -, X17, ⟨Lc17, hQ17, l17, y17, z17⟩, st17⟩ := X14.specialBack hx (y := (⟨"com/example/aspectwise/aspectwise/engine/BlockEnd", "<init>", "(Ljava/lang/String;Lcom/example/aspectwise/aspectwise/engine/BlockEnd$Side;)V"⟩ : MethodName)) rfl hown (mvT hZ (hw _ (List.mem_of_getElem? (i := 30) rfl))) (mvT hZ (hw _ (List.mem_of_getElem? (i := 7) rfl))) (mvT hZ (hw _ (List.mem_of_getElem? (i := 8) rfl))) (by decide) (backOf (W := 1) (bi1 l Z a0 hw [] w_EAST w_WEST wCS G b1 a2 w_EAST h1 n0 O1 (A1 : Exa Z h1 b1 "com/example/aspectwise/aspectwise/engine/BlockEnd") (i1_block : Fld Z h1 b1 "com/example/aspectwise/aspectwise/engine/BlockEnd" "block" "Ljava/lang/String;" .null) (i1_side : Fld Z h1 b1 "com/example/aspectwise/aspectwise/engine/BlockEnd" "side" "Lcom/example/aspectwise/aspectwise/engine/BlockEnd$Side;" .null) (ge16 : n0 ≤ b1)) hZ (hw _ (List.mem_of_getElem? (i := 8) rfl)) (hw _ (List.mem_of_getElem? (i := 5) rfl)) (by decide) (by decide)) (g := (mkF m 27 #[rv a1] [(.ref w_EAST), (.ref a2), (.ref b1), (.ref b1)])) rfl (by rw [hml]; rfl) (Steps.refl _) (a := b1) (argsL := [(.ref a2), (.ref w_EAST)]) (rest := [(.ref b1)]) (lenOf pd_8 rfl) rfl (by show 2 * 0 + _ ≤ _; exact Nat.le_of_eq rfl) (hb hby d_prog_23_method_3_code_27) (fun _ _ => ⟨rfl, e14, (by decide : 1 + 0 ≤ _), (by decide : 2 + 0 ≤ _)⟩)
  dsimp only [Pt.U, Pt.locs, Pt.cells, Pt.slots] at X17 l17 y17 z17 st17 hQ17
  subst l17 y17 z17
  obtain ⟨rfl, Nq17, Kq17, po17_0, po17_1, po17_2⟩ := hQ17
  have N17 := Fr.app N0 Nq17
  have O17 := O1.keep Kq17 (allS ge16 all0)
  have gz18 : h0.size ≤ b1 := Nat.le_trans (Keep.refl h0 []).1 (Nat.le_of_eq g1.symm)
  have K17 : Keep h0 T17.heap [] := K1.trans Kq17 (allS (Or.inr gz18) all0)
  have k19 : Way p e below S0 T17 (mkF m 30 #[rv a1] [(.ref b1)]) := fun t k => k15 t (st17.trans k)
  obtain ⟨fs, hr, hrun, hended, hW, hsame⟩ := X17.leave (v := some (.ref b1)) (fun h => by rw [Bd.returns] at h; cases h)
  refine ⟨_, _, k19 _ (retOut X17 hx Bd.returns rfl (Or.inr (Or.inr (Or.inr (Or.inr ⟨rfl, rfl, rfl⟩)))) (hb hby d_prog_23_method_3_code_30) hr), hrun, hended, _, _, rfl, ?_, ⟨_, rfl⟩, hW, hsame.mono (by decide) (by decide)⟩
  show Q_opp0WEST Z w_EAST w_WEST wCS a1 a2 h0 n0 _ T17.heap _
  exact ⟨b1, rfl, N17, K17, gz18, po17_0, po17_1, po17_2⟩
def Q_blk1 (Z : State) (w_EAST : Addr) (w_WEST : Addr) (wCS : Int32) (a1 : Addr) (h0 : Heap) (n0 : Nat) (v : Option Value) (h : Heap) (L : List Loc) : Prop := (v = some .null) ∧ (Fr n0 L) ∧ (h = h0)
set_option maxRecDepth 65536 in
set_option maxHeartbeats 40000000 in
theorem blk1 (l : Launch) (Z : State) (a0 : Array Value) (hw : ∀ d ∈ tables_1, d.before a0 Z = true) (ws : List Jvm.Cond) (w_EAST : Addr) (w_WEST : Addr) (wCS : Int32) (G : Gst Z w_EAST w_WEST wCS) (a1 : Addr) (h0 : Heap) (n0 : Nat) (O0 : Old Z n0 h0) (a_0 : Fld Z h0 a1 "com/example/aspectwise/aspectwise/engine/BlockEnd" "block" "Ljava/lang/String;" .null) :
    MetFree l (⟨"com/example/aspectwise/aspectwise/engine/BlockEnd", "block", "()Ljava/lang/String;"⟩ : MethodName) (head1 (Jvm.Cond.code (⟨"com/example/aspectwise/aspectwise/engine/BlockEnd", "block", "()Ljava/lang/String;"⟩ : MethodName) prog_23_method_7_code 1 (some (.object "java/lang/String")) :: ws) ({ frames := 0, cells := 0, slots := 0, locals := 0 } : Room)) (fun a U => a = #[(.ref a1)] ∧ Z.Warmed39 U.vm ∧ U.heap = h0) (fun _ _ _ _ _ => True) (fun _ U o U' => ∃ v L, o = .returned v ∧ Q_blk1 Z w_EAST w_WEST wCS a1 h0 n0 v U'.heap L ∧ FrameEnd U o U' L ({ frames := 0, cells := 0, slots := 0, locals := 0 } : Room).cells ({ frames := 0, cells := 0, slots := 0, locals := 0 } : Room).slots) := by
  refine MetFree.of_bodySF (plainFor_of_name pn_4) hisR ?_
  intro p e s m args below meth c s₁ Bd hml0 hP hK
  obtain ⟨rfl, hZ, hh⟩ := hP
  have hx := Bd.exec
  have hby := Bd.bytes
  have hml : c.maxLocals = 1 := hml0
  have hown : s.vm.findClass "com/example/aspectwise/aspectwise/engine/BlockEnd" = some m.cls := findClass_of_methodNamed Bd.named
  have hnm := (name_of_methodNamed Bd.named Bd.method).1
  have X0 : Stand p l e ({ frames := 0, cells := 0, slots := 0, locals := 0 } : Room) s m #[(.ref a1)] below meth c s₁ [] 0 0 := Stand.of_body Bd
  have e0 : s₁.heap = h0 := by rw [← hh, Bd.state]; rfl
  have N0 := Fr.nil n0
  obtain ⟨S_w_EAST, E_w_EAST, F_w_EAST_ordinal, S_w_WEST, E_w_WEST, F_w_WEST_ordinal, S_CS, hCS⟩ := id G
  have k0 : Way p e below (s₁.setTop (entryFrame m #[(.ref a1)] 1)) s₁ (mkF m 0 #[rv a1] []) := fun t k => castTop (by first | (simp [entryFrame, mkF, argsToLocals, Value.category]; done) | rfl) k
  generalize s₁.setTop (entryFrame m #[(.ref a1)] 1) = S0 at k0 ⊢
  have k1 : Way p e below S0 s₁ (mkF m 1 #[rv a1] [(.ref a1)]) := by
    intro t k
    refine k0 t ?_
    refine XS.aloadN X0.here hx rfl (hb hby d_prog_23_method_7_code_0) rfl rfl ?_
    show Steps p.tables e below (s₁.setTop (mkF m 1 #[rv a1] [(.ref a1)])) _
    exact k
  obtain ⟨T2, X2, e2, st2⟩ := getF X0 hx hZ hown (host := "") (Or.inl (hw _ (List.mem_of_getElem? (i := 17) rfl))) Via.refl e0 a_0 (g := (mkF m 1 #[rv a1] [(.ref a1)])) rfl rfl (hb hby d_prog_23_method_7_code_1)
  have k3 : Way p e below S0 T2 (mkF m 4 #[rv a1] [.null]) := fun t k => k1 t (st2 _ k)
  obtain ⟨fs, hr, hrun, hended, hW, hsame⟩ := X2.leave (v := some .null) (fun h => by rw [Bd.returns] at h; cases h)
  refine ⟨_, _, k3 _ (retOut X2 hx Bd.returns rfl (Or.inr (Or.inr (Or.inr (Or.inr ⟨rfl, rfl, rfl⟩)))) (hb hby d_prog_23_method_7_code_4) hr), hrun, hended, _, _, rfl, ?_, ⟨_, rfl⟩, hW, hsame.mono (by decide) (by decide)⟩
  show Q_blk1 Z w_EAST w_WEST wCS a1 h0 n0 _ T2.heap _
  rw [e2]
  exact ⟨rfl, N0, rfl⟩
def Q_blk0 (Z : State) (w_EAST : Addr) (w_WEST : Addr) (wCS : Int32) (a1 : Addr) (a2 : Addr) (h0 : Heap) (n0 : Nat) (v : Option Value) (h : Heap) (L : List Loc) : Prop := (v = some (.ref a2)) ∧ (Fr n0 L) ∧ (h = h0)
set_option maxRecDepth 65536 in
set_option maxHeartbeats 40000000 in
theorem blk0 (l : Launch) (Z : State) (a0 : Array Value) (hw : ∀ d ∈ tables_1, d.before a0 Z = true) (ws : List Jvm.Cond) (w_EAST : Addr) (w_WEST : Addr) (wCS : Int32) (G : Gst Z w_EAST w_WEST wCS) (a1 : Addr) (a2 : Addr) (h0 : Heap) (n0 : Nat) (O0 : Old Z n0 h0) (a_0 : Fld Z h0 a1 "com/example/aspectwise/aspectwise/engine/BlockEnd" "block" "Ljava/lang/String;" (.ref a2)) :
    MetFree l (⟨"com/example/aspectwise/aspectwise/engine/BlockEnd", "block", "()Ljava/lang/String;"⟩ : MethodName) (head1 (Jvm.Cond.code (⟨"com/example/aspectwise/aspectwise/engine/BlockEnd", "block", "()Ljava/lang/String;"⟩ : MethodName) prog_23_method_7_code 1 (some (.object "java/lang/String")) :: ws) ({ frames := 0, cells := 0, slots := 0, locals := 0 } : Room)) (fun a U => a = #[(.ref a1)] ∧ Z.Warmed39 U.vm ∧ U.heap = h0) (fun _ _ _ _ _ => True) (fun _ U o U' => ∃ v L, o = .returned v ∧ Q_blk0 Z w_EAST w_WEST wCS a1 a2 h0 n0 v U'.heap L ∧ FrameEnd U o U' L ({ frames := 0, cells := 0, slots := 0, locals := 0 } : Room).cells ({ frames := 0, cells := 0, slots := 0, locals := 0 } : Room).slots) := by
  refine MetFree.of_bodySF (plainFor_of_name pn_4) hisR ?_
  intro p e s m args below meth c s₁ Bd hml0 hP hK
  obtain ⟨rfl, hZ, hh⟩ := hP
  have hx := Bd.exec
  have hby := Bd.bytes
  have hml : c.maxLocals = 1 := hml0
  have hown : s.vm.findClass "com/example/aspectwise/aspectwise/engine/BlockEnd" = some m.cls := findClass_of_methodNamed Bd.named
  have hnm := (name_of_methodNamed Bd.named Bd.method).1
  have X0 : Stand p l e ({ frames := 0, cells := 0, slots := 0, locals := 0 } : Room) s m #[(.ref a1)] below meth c s₁ [] 0 0 := Stand.of_body Bd
  have e0 : s₁.heap = h0 := by rw [← hh, Bd.state]; rfl
  have N0 := Fr.nil n0
  obtain ⟨S_w_EAST, E_w_EAST, F_w_EAST_ordinal, S_w_WEST, E_w_WEST, F_w_WEST_ordinal, S_CS, hCS⟩ := id G
  have k0 : Way p e below (s₁.setTop (entryFrame m #[(.ref a1)] 1)) s₁ (mkF m 0 #[rv a1] []) := fun t k => castTop (by first | (simp [entryFrame, mkF, argsToLocals, Value.category]; done) | rfl) k
  generalize s₁.setTop (entryFrame m #[(.ref a1)] 1) = S0 at k0 ⊢
  have k1 : Way p e below S0 s₁ (mkF m 1 #[rv a1] [(.ref a1)]) := by
    intro t k
    refine k0 t ?_
    refine XS.aloadN X0.here hx rfl (hb hby d_prog_23_method_7_code_0) rfl rfl ?_
    show Steps p.tables e below (s₁.setTop (mkF m 1 #[rv a1] [(.ref a1)])) _
    exact k
  obtain ⟨T2, X2, e2, st2⟩ := getF X0 hx hZ hown (host := "") (Or.inl (hw _ (List.mem_of_getElem? (i := 17) rfl))) Via.refl e0 a_0 (g := (mkF m 1 #[rv a1] [(.ref a1)])) rfl rfl (hb hby d_prog_23_method_7_code_1)
  have k3 : Way p e below S0 T2 (mkF m 4 #[rv a1] [(.ref a2)]) := fun t k => k1 t (st2 _ k)
  obtain ⟨fs, hr, hrun, hended, hW, hsame⟩ := X2.leave (v := some (.ref a2)) (fun h => by rw [Bd.returns] at h; cases h)
  refine ⟨_, _, k3 _ (retOut X2 hx Bd.returns rfl (Or.inr (Or.inr (Or.inr (Or.inr ⟨rfl, rfl, rfl⟩)))) (hb hby d_prog_23_method_7_code_4) hr), hrun, hended, _, _, rfl, ?_, ⟨_, rfl⟩, hW, hsame.mono (by decide) (by decide)⟩
  show Q_blk0 Z w_EAST w_WEST wCS a1 a2 h0 n0 _ T2.heap _
  rw [e2]
  exact ⟨rfl, N0, rfl⟩
def Q_sid (Z : State) (w_EAST : Addr) (w_WEST : Addr) (wCS : Int32) (a1 : Addr) (a2 : Addr) (h0 : Heap) (n0 : Nat) (v : Option Value) (h : Heap) (L : List Loc) : Prop := (v = some (.ref a2)) ∧ (Fr n0 L) ∧ (h = h0)
set_option maxRecDepth 65536 in
set_option maxHeartbeats 40000000 in
theorem sid (l : Launch) (Z : State) (a0 : Array Value) (hw : ∀ d ∈ tables_1, d.before a0 Z = true) (ws : List Jvm.Cond) (w_EAST : Addr) (w_WEST : Addr) (wCS : Int32) (G : Gst Z w_EAST w_WEST wCS) (a1 : Addr) (a2 : Addr) (h0 : Heap) (n0 : Nat) (O0 : Old Z n0 h0) (a_0 : Fld Z h0 a1 "com/example/aspectwise/aspectwise/engine/BlockEnd" "side" "Lcom/example/aspectwise/aspectwise/engine/BlockEnd$Side;" (.ref a2)) :
    MetFree l (⟨"com/example/aspectwise/aspectwise/engine/BlockEnd", "side", "()Lcom/example/aspectwise/aspectwise/engine/BlockEnd$Side;"⟩ : MethodName) (head1 (Jvm.Cond.code (⟨"com/example/aspectwise/aspectwise/engine/BlockEnd", "side", "()Lcom/example/aspectwise/aspectwise/engine/BlockEnd$Side;"⟩ : MethodName) prog_23_method_8_code 1 (some (.object "com/example/aspectwise/aspectwise/engine/BlockEnd$Side")) :: ws) ({ frames := 0, cells := 0, slots := 0, locals := 0 } : Room)) (fun a U => a = #[(.ref a1)] ∧ Z.Warmed39 U.vm ∧ U.heap = h0) (fun _ _ _ _ _ => True) (fun _ U o U' => ∃ v L, o = .returned v ∧ Q_sid Z w_EAST w_WEST wCS a1 a2 h0 n0 v U'.heap L ∧ FrameEnd U o U' L ({ frames := 0, cells := 0, slots := 0, locals := 0 } : Room).cells ({ frames := 0, cells := 0, slots := 0, locals := 0 } : Room).slots) := by
  refine MetFree.of_bodySF (plainFor_of_name pn_4) hisR ?_
  intro p e s m args below meth c s₁ Bd hml0 hP hK
  obtain ⟨rfl, hZ, hh⟩ := hP
  have hx := Bd.exec
  have hby := Bd.bytes
  have hml : c.maxLocals = 1 := hml0
  have hown : s.vm.findClass "com/example/aspectwise/aspectwise/engine/BlockEnd" = some m.cls := findClass_of_methodNamed Bd.named
  have hnm := (name_of_methodNamed Bd.named Bd.method).1
  have X0 : Stand p l e ({ frames := 0, cells := 0, slots := 0, locals := 0 } : Room) s m #[(.ref a1)] below meth c s₁ [] 0 0 := Stand.of_body Bd
  have e0 : s₁.heap = h0 := by rw [← hh, Bd.state]; rfl
  have N0 := Fr.nil n0
  obtain ⟨S_w_EAST, E_w_EAST, F_w_EAST_ordinal, S_w_WEST, E_w_WEST, F_w_WEST_ordinal, S_CS, hCS⟩ := id G
  have k0 : Way p e below (s₁.setTop (entryFrame m #[(.ref a1)] 1)) s₁ (mkF m 0 #[rv a1] []) := fun t k => castTop (by first | (simp [entryFrame, mkF, argsToLocals, Value.category]; done) | rfl) k
  generalize s₁.setTop (entryFrame m #[(.ref a1)] 1) = S0 at k0 ⊢
  have k1 : Way p e below S0 s₁ (mkF m 1 #[rv a1] [(.ref a1)]) := by
    intro t k
    refine k0 t ?_
    refine XS.aloadN X0.here hx rfl (hb hby d_prog_23_method_8_code_0) rfl rfl ?_
    show Steps p.tables e below (s₁.setTop (mkF m 1 #[rv a1] [(.ref a1)])) _
    exact k
  obtain ⟨T2, X2, e2, st2⟩ := getF X0 hx hZ hown (host := "") (Or.inl (hw _ (List.mem_of_getElem? (i := 19) rfl))) Via.refl e0 a_0 (g := (mkF m 1 #[rv a1] [(.ref a1)])) rfl rfl (hb hby d_prog_23_method_8_code_1)
  have k3 : Way p e below S0 T2 (mkF m 4 #[rv a1] [(.ref a2)]) := fun t k => k1 t (st2 _ k)
  obtain ⟨fs, hr, hrun, hended, hW, hsame⟩ := X2.leave (v := some (.ref a2)) (fun h => by rw [Bd.returns] at h; cases h)
  refine ⟨_, _, k3 _ (retOut X2 hx Bd.returns rfl (Or.inr (Or.inr (Or.inr (Or.inr ⟨rfl, rfl, rfl⟩)))) (hb hby d_prog_23_method_8_code_4) hr), hrun, hended, _, _, rfl, ?_, ⟨_, rfl⟩, hW, hsame.mono (by decide) (by decide)⟩
  show Q_sid Z w_EAST w_WEST wCS a1 a2 h0 n0 _ T2.heap _
  rw [e2]
  exact ⟨rfl, N0, rfl⟩
def Q_seq (Z : State) (w_EAST : Addr) (w_WEST : Addr) (wCS : Int32) (a1 : Addr) (h0 : Heap) (n0 : Nat) (v : Option Value) (h : Heap) (L : List Loc) : Prop := (v = some (.int (1 : Int32))) ∧ (Fr n0 L) ∧ (h = h0)
set_option maxRecDepth 65536 in
set_option maxHeartbeats 40000000 in
theorem seq (l : Launch) (Z : State) (a0 : Array Value) (hw : ∀ d ∈ tables_1, d.before a0 Z = true) (ws : List Jvm.Cond) (w_EAST : Addr) (w_WEST : Addr) (wCS : Int32) (G : Gst Z w_EAST w_WEST wCS) (a1 : Addr) (h0 : Heap) (n0 : Nat) (O0 : Old Z n0 h0) :
    MetFree l (⟨"java/lang/String", "equals", "(Ljava/lang/Object;)Z"⟩ : MethodName) (head1 (Jvm.Cond.code (⟨"java/lang/String", "equals", "(Ljava/lang/Object;)Z"⟩ : MethodName) jdk_42_method_66_code 3 (some .boolean) :: ws) ({ frames := 0, cells := 0, slots := 0, locals := 0 } : Room)) (fun a U => a = #[(.ref a1), (.ref a1)] ∧ Z.Warmed39 U.vm ∧ U.heap = h0) (fun _ _ _ _ _ => True) (fun _ U o U' => ∃ v L, o = .returned v ∧ Q_seq Z w_EAST w_WEST wCS a1 h0 n0 v U'.heap L ∧ FrameEnd U o U' L ({ frames := 0, cells := 0, slots := 0, locals := 0 } : Room).cells ({ frames := 0, cells := 0, slots := 0, locals := 0 } : Room).slots) := by
  refine MetFree.of_bodySF (plainFor_of_name pn_1) hisR ?_
  intro p e s m args below meth c s₁ Bd hml0 hP hK
  obtain ⟨rfl, hZ, hh⟩ := hP
  have hx := Bd.exec
  have hby := Bd.bytes
  have hml : c.maxLocals = 3 := hml0
  have hown : s.vm.findClass "java/lang/String" = some m.cls := findClass_of_methodNamed Bd.named
  have hnm := (name_of_methodNamed Bd.named Bd.method).1
  have X0 : Stand p l e ({ frames := 0, cells := 0, slots := 0, locals := 0 } : Room) s m #[(.ref a1), (.ref a1)] below meth c s₁ [] 0 0 := Stand.of_body Bd
  have e0 : s₁.heap = h0 := by rw [← hh, Bd.state]; rfl
  have N0 := Fr.nil n0
  obtain ⟨S_w_EAST, E_w_EAST, F_w_EAST_ordinal, S_w_WEST, E_w_WEST, F_w_WEST_ordinal, S_CS, hCS⟩ := id G
  have k0 : Way p e below (s₁.setTop (entryFrame m #[(.ref a1), (.ref a1)] 3)) s₁ (mkF m 0 #[rv a1, rv a1, .unset] []) := fun t k => castTop (by first | (simp [entryFrame, mkF, argsToLocals, Value.category]; done) | rfl) k
  generalize s₁.setTop (entryFrame m #[(.ref a1), (.ref a1)] 3) = S0 at k0 ⊢
  have k1 : Way p e below S0 s₁ (mkF m 6 #[rv a1, rv a1, .unset] [(.int (1 : Int32))]) := by
    intro t k
    refine k0 t ?_
    refine XS.aloadN X0.here hx rfl (hb hby d_jdk_42_method_66_code_0) rfl rfl ?_
    show Steps p.tables e below (s₁.setTop (mkF m 1 #[rv a1, rv a1, .unset] [(.ref a1)])) _
    refine XS.aloadN X0.here hx rfl (hb hby d_jdk_42_method_66_code_1) rfl rfl ?_
    show Steps p.tables e below (s₁.setTop (mkF m 2 #[rv a1, rv a1, .unset] [(.ref a1), (.ref a1)])) _
    refine Jvm.RoadKit.acmp (g := (mkF m 2 #[rv a1, rv a1, .unset] [(.ref a1), (.ref a1)])) X0 hx rfl rfl rfl (pc0 := 2) (pc' := 5) (same := true) rfl (hb hby d_jdk_42_method_66_code_2) rfl (decide_eq_true rfl) (by decide) (by decide) ?_
    show Steps p.tables e below (s₁.setTop (mkF m 5 #[rv a1, rv a1, .unset] [])) _
    refine XS.iconst X0.here hx rfl (hb hby d_jdk_42_method_66_code_5) ?_
    show Steps p.tables e below (s₁.setTop (mkF m 6 #[rv a1, rv a1, .unset] [(.int (1 : Int32))])) _
    exact k
  obtain ⟨fs, hr, hrun, hended, hW, hsame⟩ := X0.leave (v := some (.int (1 : Int32))) (fun h => by rw [Bd.returns] at h; cases h)
  refine ⟨_, _, k1 _ (retN X0 hx (t := .boolean) Bd.returns (by simp) (hb hby d_jdk_42_method_66_code_6) hr), hrun, hended, _, _, rfl, ?_, ⟨_, rfl⟩, hW, hsame.mono (by decide) (by decide)⟩
  show Q_seq Z w_EAST w_WEST wCS a1 h0 n0 _ s₁.heap _
  rw [e0]
  exact ⟨rfl, N0, rfl⟩
def Q_sb0 (Z : State) (w_EAST : Addr) (w_WEST : Addr) (wCS : Int32)  (h0 : Heap) (n0 : Nat) (v : Option Value) (h : Heap) (L : List Loc) : Prop := (v = some (.int (1 : Int32))) ∧ (Fr n0 L) ∧ (h = h0)
set_option maxRecDepth 65536 in
set_option maxHeartbeats 40000000 in
theorem sb0 (l : Launch) (Z : State) (a0 : Array Value) (hw : ∀ d ∈ tables_1, d.before a0 Z = true) (ws : List Jvm.Cond) (w_EAST : Addr) (w_WEST : Addr) (wCS : Int32) (G : Gst Z w_EAST w_WEST wCS)  (h0 : Heap) (n0 : Nat) (O0 : Old Z n0 h0) :
    MetFree l (⟨"com/example/aspectwise/aspectwise/engine/BlockEndOppositePinLaw", "sameBlock", "(Ljava/lang/String;Ljava/lang/String;)Z"⟩ : MethodName) (head1 (Jvm.Cond.code (⟨"com/example/aspectwise/aspectwise/engine/BlockEndOppositePinLaw", "sameBlock", "(Ljava/lang/String;Ljava/lang/String;)Z"⟩ : MethodName) method_2_code 2 (some .boolean) :: ws) ({ frames := 0, cells := 0, slots := 0, locals := 0 } : Room)) (fun a U => a = #[.null, .null] ∧ Z.Warmed39 U.vm ∧ U.heap = h0) (fun _ _ _ _ _ => True) (fun _ U o U' => ∃ v L, o = .returned v ∧ Q_sb0 Z w_EAST w_WEST wCS  h0 n0 v U'.heap L ∧ FrameEnd U o U' L ({ frames := 0, cells := 0, slots := 0, locals := 0 } : Room).cells ({ frames := 0, cells := 0, slots := 0, locals := 0 } : Room).slots) := by
  refine MetFree.of_bodySF (plainFor_of_name pn_5) hisR ?_
  intro p e s m args below meth c s₁ Bd hml0 hP hK
  obtain ⟨rfl, hZ, hh⟩ := hP
  have hx := Bd.exec
  have hby := Bd.bytes
  have hml : c.maxLocals = 2 := hml0
  have hown : s.vm.findClass "com/example/aspectwise/aspectwise/engine/BlockEndOppositePinLaw" = some m.cls := findClass_of_methodNamed Bd.named
  have hnm := (name_of_methodNamed Bd.named Bd.method).1
  have X0 : Stand p l e ({ frames := 0, cells := 0, slots := 0, locals := 0 } : Room) s m #[.null, .null] below meth c s₁ [] 0 0 := Stand.of_body Bd
  have e0 : s₁.heap = h0 := by rw [← hh, Bd.state]; rfl
  have N0 := Fr.nil n0
  obtain ⟨S_w_EAST, E_w_EAST, F_w_EAST_ordinal, S_w_WEST, E_w_WEST, F_w_WEST_ordinal, S_CS, hCS⟩ := id G
  have k0 : Way p e below (s₁.setTop (entryFrame m #[.null, .null] 2)) s₁ (mkF m 0 #[.val .null, .val .null] []) := fun t k => castTop (by first | (simp [entryFrame, mkF, argsToLocals, Value.category]; done) | rfl) k
  generalize s₁.setTop (entryFrame m #[.null, .null] 2) = S0 at k0 ⊢
  have k1 : Way p e below S0 s₁ (mkF m 13 #[.val .null, .val .null] [(.int (1 : Int32))]) := by
    intro t k
    refine k0 t ?_
    refine XS.aloadN X0.here hx rfl (hb hby d_method_2_code_0) rfl rfl ?_
    show Steps p.tables e below (s₁.setTop (mkF m 1 #[.val .null, .val .null] [.null])) _
    refine XS.ifnonnullNo X0.here hx rfl (hb hby d_method_2_code_1) rfl ?_
    show Steps p.tables e below (s₁.setTop (mkF m 4 #[.val .null, .val .null] [])) _
    refine XS.aloadN X0.here hx rfl (hb hby d_method_2_code_4) rfl rfl ?_
    show Steps p.tables e below (s₁.setTop (mkF m 5 #[.val .null, .val .null] [.null])) _
    refine XS.ifnonnullNo X0.here hx rfl (hb hby d_method_2_code_5) rfl ?_
    show Steps p.tables e below (s₁.setTop (mkF m 8 #[.val .null, .val .null] [])) _
    refine XS.iconst X0.here hx rfl (hb hby d_method_2_code_8) ?_
    show Steps p.tables e below (s₁.setTop (mkF m 9 #[.val .null, .val .null] [(.int (1 : Int32))])) _
    refine XS.goto X0.here hx rfl (pc0 := 9) (pc' := 13) rfl (hb hby d_method_2_code_9) (by decide) (by decide) ?_
    show Steps p.tables e below (s₁.setTop (mkF m 13 #[.val .null, .val .null] [(.int (1 : Int32))])) _
    exact k
  obtain ⟨fs, hr, hrun, hended, hW, hsame⟩ := X0.leave (v := some (.int (1 : Int32))) (fun h => by rw [Bd.returns] at h; cases h)
  refine ⟨_, _, k1 _ (retN X0 hx (t := .boolean) Bd.returns (by simp) (hb hby d_method_2_code_13) hr), hrun, hended, _, _, rfl, ?_, ⟨_, rfl⟩, hW, hsame.mono (by decide) (by decide)⟩
  show Q_sb0 Z w_EAST w_WEST wCS  h0 n0 _ s₁.heap _
  rw [e0]
  exact ⟨rfl, N0, rfl⟩
def Q_sb1 (Z : State) (w_EAST : Addr) (w_WEST : Addr) (wCS : Int32) (a1 : Addr) (h0 : Heap) (n0 : Nat) (v : Option Value) (h : Heap) (L : List Loc) : Prop := (v = some (.int (1 : Int32))) ∧ (Fr n0 L) ∧ (h = h0)
set_option maxRecDepth 65536 in
set_option maxHeartbeats 40000000 in
theorem sb1 (l : Launch) (Z : State) (a0 : Array Value) (hw : ∀ d ∈ tables_1, d.before a0 Z = true) (ws : List Jvm.Cond) (w_EAST : Addr) (w_WEST : Addr) (wCS : Int32) (G : Gst Z w_EAST w_WEST wCS) (a1 : Addr) (h0 : Heap) (n0 : Nat) (O0 : Old Z n0 h0) (a_0 : Exa Z h0 a1 "java/lang/String") :
    MetFree l (⟨"com/example/aspectwise/aspectwise/engine/BlockEndOppositePinLaw", "sameBlock", "(Ljava/lang/String;Ljava/lang/String;)Z"⟩ : MethodName) (head1 (Jvm.Cond.code (⟨"com/example/aspectwise/aspectwise/engine/BlockEndOppositePinLaw", "sameBlock", "(Ljava/lang/String;Ljava/lang/String;)Z"⟩ : MethodName) method_2_code 2 (some .boolean) :: ws) ({ frames := 1, cells := 0, slots := 0, locals := 14 } : Room)) (fun a U => a = #[(.ref a1), (.ref a1)] ∧ Z.Warmed39 U.vm ∧ U.heap = h0) (fun _ _ _ _ _ => True) (fun _ U o U' => ∃ v L, o = .returned v ∧ Q_sb1 Z w_EAST w_WEST wCS a1 h0 n0 v U'.heap L ∧ FrameEnd U o U' L ({ frames := 1, cells := 0, slots := 0, locals := 14 } : Room).cells ({ frames := 1, cells := 0, slots := 0, locals := 14 } : Room).slots) := by
  refine MetFree.of_bodySF (plainFor_of_name pn_5) hisR ?_
  intro p e s m args below meth c s₁ Bd hml0 hP hK
  obtain ⟨rfl, hZ, hh⟩ := hP
  have hx := Bd.exec
  have hby := Bd.bytes
  have hml : c.maxLocals = 2 := hml0
  have hown : s.vm.findClass "com/example/aspectwise/aspectwise/engine/BlockEndOppositePinLaw" = some m.cls := findClass_of_methodNamed Bd.named
  have hnm := (name_of_methodNamed Bd.named Bd.method).1
  have X0 : Stand p l e ({ frames := 1, cells := 0, slots := 0, locals := 14 } : Room) s m #[(.ref a1), (.ref a1)] below meth c s₁ [] 0 0 := Stand.of_body Bd
  have e0 : s₁.heap = h0 := by rw [← hh, Bd.state]; rfl
  have N0 := Fr.nil n0
  obtain ⟨S_w_EAST, E_w_EAST, F_w_EAST_ordinal, S_w_WEST, E_w_WEST, F_w_WEST_ordinal, S_CS, hCS⟩ := id G
  have k0 : Way p e below (s₁.setTop (entryFrame m #[(.ref a1), (.ref a1)] 2)) s₁ (mkF m 0 #[rv a1, rv a1] []) := fun t k => castTop (by first | (simp [entryFrame, mkF, argsToLocals, Value.category]; done) | rfl) k
  generalize s₁.setTop (entryFrame m #[(.ref a1), (.ref a1)] 2) = S0 at k0 ⊢
  have k1 : Way p e below S0 s₁ (mkF m 16 #[rv a1, rv a1] [(.ref a1), (.ref a1)]) := by
    intro t k
    refine k0 t ?_
    refine XS.aloadN X0.here hx rfl (hb hby d_method_2_code_0) rfl rfl ?_
    show Steps p.tables e below (s₁.setTop (mkF m 1 #[rv a1, rv a1] [(.ref a1)])) _
    refine XS.ifnonnullYes X0.here hx rfl (pc0 := 1) (pc' := 14) rfl (hb hby d_method_2_code_1) rfl (by decide) (by decide) ?_
    show Steps p.tables e below (s₁.setTop (mkF m 14 #[rv a1, rv a1] [])) _
    refine XS.aloadN X0.here hx rfl (hb hby d_method_2_code_14) rfl rfl ?_
    show Steps p.tables e below (s₁.setTop (mkF m 15 #[rv a1, rv a1] [(.ref a1)])) _
    refine XS.aloadN X0.here hx rfl (hb hby d_method_2_code_15) rfl rfl ?_
    show Steps p.tables e below (s₁.setTop (mkF m 16 #[rv a1, rv a1] [(.ref a1), (.ref a1)])) _
    exact k
  obtain ⟨cq2, kq2, qq2a, qq2b, qq2c⟩ := isOf hZ e0 a_0
  obtain ⟨_, _, ⟨T2, L2, kk2, nn2⟩, -, X2, ⟨Lc2, hQ2, l2, y2, z2⟩, st2⟩ := X0.virtualBack hx (y := (⟨"java/lang/String", "equals", "(Ljava/lang/Object;)Z"⟩ : MethodName)) (z := (⟨"java/lang/String", "equals", "(Ljava/lang/Object;)Z"⟩ : MethodName)) hown (mvT hZ (hw _ (List.mem_of_getElem? (i := 66) rfl))) (mvT hZ (hw _ (List.mem_of_getElem? (i := 67) rfl))) (notFace_of_selects (args := #[]) (mvT hZ (hw _ (List.mem_of_getElem? (i := 69) rfl)))) (mvT hZ (hw _ (List.mem_of_getElem? (i := 69) rfl))) (mvT hZ (hw _ (List.mem_of_getElem? (i := 68) rfl))) (by decide) (backOf (W := 0) (seq l Z a0 hw [] w_EAST w_WEST wCS G a1 h0 n0 O0 ) hZ (hw _ (List.mem_of_getElem? (i := 70) rfl)) (hw _ (List.mem_of_getElem? (i := 48) rfl)) (by decide) (by decide)) qq2a qq2c (g := (mkF m 16 #[rv a1, rv a1] [(.ref a1), (.ref a1)])) rfl (by rw [hml]; rfl) (Steps.refl _) (argsL := [(.ref a1)]) (rest := []) (lenOf pd_9 rfl) rfl (by show 2 * 0 + _ ≤ _; exact Nat.le_of_eq rfl) (hb hby d_method_2_code_16) (fun _ _ => ⟨rfl, e0, (by decide : 0 + 0 ≤ _), (by decide : 0 + 0 ≤ _)⟩)
  dsimp only [Pt.U, Pt.locs, Pt.cells, Pt.slots] at X2 l2 y2 z2 st2 hQ2
  subst l2 y2 z2
  obtain ⟨rfl, Nq2, e2⟩ := hQ2
  have N2 := Fr.app N0 Nq2
  have k3 : Way p e below S0 T2 (mkF m 19 #[rv a1, rv a1] [(.int (1 : Int32))]) := fun t k => k1 t (st2.trans k)
  obtain ⟨fs, hr, hrun, hended, hW, hsame⟩ := X2.leave (v := some (.int (1 : Int32))) (fun h => by rw [Bd.returns] at h; cases h)
  refine ⟨_, _, k3 _ (retN X2 hx (t := .boolean) Bd.returns (by simp) (hb hby d_method_2_code_19) hr), hrun, hended, _, _, rfl, ?_, ⟨_, rfl⟩, hW, hsame.mono (by decide) (by decide)⟩
  show Q_sb1 Z w_EAST w_WEST wCS a1 h0 n0 _ T2.heap _
  rw [e2]
  exact ⟨rfl, N2, rfl⟩
def Q_law_met (Z : State) (w_EAST : Addr) (w_WEST : Addr) (wCS : Int32) (p1 : Int32) (p2 : Int32) (p3 : Int32) (p4 : Int32) (h0 : Heap) (n0 : Nat) (v : Option Value) (h : Heap) (L : List Loc) : Prop := (v = some (.int (1 : Int32))) ∧ (Fr n0 L)
set_option maxRecDepth 65536 in
set_option maxHeartbeats 40000000 in
theorem law_met (l : Launch) (Z : State) (a0 : Array Value) (hw : ∀ d ∈ tables_1, d.before a0 Z = true) (ws : List Jvm.Cond) (w_EAST : Addr) (w_WEST : Addr) (wCS : Int32) (G : Gst Z w_EAST w_WEST wCS) (p1 : Int32) (p2 : Int32) (p3 : Int32) (p4 : Int32) (h0 : Heap) (n0 : Nat) (O0 : Old Z n0 h0) (hh7 : Jvm.Lit.constHeld Z "java/lang/String" 7) (hcw : Jvm.Lit.compactW.before a0 Z = true) :
    MetFree l x (head1 (Jvm.Cond.code x code maxLocals ret :: ws) room_1) (fun a U => a = #[(.int p1), (.int p2), (.int p3), (.int p4)] ∧ Z.Warmed39 U.vm ∧ U.heap = h0 ∧ IB Z U.vm []) (fun _ _ _ _ _ => True) (fun _ U o U' => ∃ v L, o = .returned v ∧ Q_law_met Z w_EAST w_WEST wCS p1 p2 p3 p4 h0 n0 v U'.heap L ∧ ReturnedEndW U o U' L 24 1152) := by
  refine MetFree.of_bodySF (plainFor_of_name pn_5) hisR ?_
  intro p e s m args below meth c s₁ Bd hml0 hP hK
  obtain ⟨rfl, hZ, hh, I0⟩ := hP
  have hx := Bd.exec
  have hby := Bd.bytes
  have hml : c.maxLocals = 11 := hml0
  have hown : s.vm.findClass "com/example/aspectwise/aspectwise/engine/BlockEndOppositePinLaw" = some m.cls := findClass_of_methodNamed Bd.named
  have hnm := (name_of_methodNamed Bd.named Bd.method).1
  have X0 : Stand p l e room_1 s m #[(.int p1), (.int p2), (.int p3), (.int p4)] below meth c s₁ [] 0 0 := Stand.of_body Bd
  have e0 : s₁.heap = h0 := by rw [← hh, Bd.state]; rfl
  have N0 := Fr.nil n0
  have X0 : Stand p l e room_1 (s.setVm s.vm) m #[(.int p1), (.int p2), (.int p3), (.int p4)] below meth c s₁ [] 0 0 := X0
  have hS0 : s.Since s.vm 0 := (State.WarmedH.refl s).since 0
  obtain ⟨S_w_EAST, E_w_EAST, F_w_EAST_ordinal, S_w_WEST, E_w_WEST, F_w_WEST_ordinal, S_CS, hCS⟩ := id G
  have k0 : Way p e below (s₁.setTop (entryFrame m #[(.int p1), (.int p2), (.int p3), (.int p4)] maxLocals)) s₁ (mkF m 0 #[iv p1, iv p2, iv p3, iv p4, .unset, .unset, .unset, .unset, .unset, .unset, .unset] []) := fun t k => castTop (by first | (simp [entryFrame, mkF, argsToLocals, Value.category, maxLocals]; done) | rfl) k
  generalize s₁.setTop (entryFrame m #[(.int p1), (.int p2), (.int p3), (.int p4)] maxLocals) = S0 at k0 ⊢
  have k2 : Way p e below S0 s₁ (mkF m 3 #[iv p1, iv p2, iv p3, iv p4, .unset, .unset, .unset, .unset, .unset, .unset, .unset] [(.int (p4 &&& (1 : Int32)))]) := by
    intro t k
    refine k0 t ?_
    refine XS.iloadN X0.here hx rfl (hb hby at_0) rfl ?_
    show Steps p.tables e below (s₁.setTop (mkF m 1 #[iv p1, iv p2, iv p3, iv p4, .unset, .unset, .unset, .unset, .unset, .unset, .unset] [(.int p4)])) _
    refine XS.iconst X0.here hx rfl (hb hby at_1) ?_
    show Steps p.tables e below (s₁.setTop (mkF m 2 #[iv p1, iv p2, iv p3, iv p4, .unset, .unset, .unset, .unset, .unset, .unset, .unset] [(.int (1 : Int32)), (.int p4)])) _
    refine XS.iand X0.here hx rfl (hb hby at_2) rfl ?_
    show Steps p.tables e below (s₁.setTop (mkF m 3 #[iv p1, iv p2, iv p3, iv p4, .unset, .unset, .unset, .unset, .unset, .unset, .unset] [(.int (p4 &&& (1 : Int32)))])) _
    exact k
  by_cases hc1 : (p4 &&& (1 : Int32)) = (0 : Int32)
  · have k3 : Way p e below S0 s₁ (mkF m 12 #[iv p1, iv p2, iv p3, iv p4, .unset, .unset, .unset, .unset, .unset, .unset, .unset] []) := by
      intro t k
      refine k2 t ?_
      refine XS.ifYes X0.here hx rfl (pc0 := 3) (pc' := 12) rfl (hb hby at_3) rfl ((if0 _ _).trans (teq (hc1 : (p4 &&& (1 : Int32)) = (0 : Int32))).1) (by decide) (by decide) ?_
      show Steps p.tables e below (s₁.setTop (mkF m 12 #[iv p1, iv p2, iv p3, iv p4, .unset, .unset, .unset, .unset, .unset, .unset, .unset] [])) _
      exact k
    obtain ⟨T4, X4, e4, st4⟩ := getS2 X0 hx hZ hown (host := "") (Or.inl (hw _ (List.mem_of_getElem? (i := 31) rfl))) Via.refl e0 (S_w_WEST.ext O0.2) (g := (mkF m 12 #[iv p1, iv p2, iv p3, iv p4, .unset, .unset, .unset, .unset, .unset, .unset, .unset] [])) rfl (hb hby at_12)
    have k5 : Way p e below S0 T4 (mkF m 15 #[iv p1, iv p2, iv p3, iv p4, .unset, .unset, .unset, .unset, .unset, .unset, .unset] [(.ref w_WEST)]) := fun t k => k3 t (st4 _ k)
    have k6 : Way p e below S0 T4 (mkF m 24 #[iv p1, iv p2, iv p3, iv p4, rv w_WEST, iv (((p4.toUInt32 >>> ((1 : Int32) &&& 31).toUInt32).toInt32) &&& (3 : Int32)), .unset, .unset, .unset, .unset, .unset] []) := by
      intro t k
      refine k5 t ?_
      refine XS.astore X4.here hx rfl (hb hby at_15) rfl rfl (l' := #[iv p1, iv p2, iv p3, iv p4, rv w_WEST, .unset, .unset, .unset, .unset, .unset, .unset]) rfl ?_
      show Steps p.tables e below (T4.setTop (mkF m 17 #[iv p1, iv p2, iv p3, iv p4, rv w_WEST, .unset, .unset, .unset, .unset, .unset, .unset] [])) _
      refine XS.iloadN X4.here hx rfl (hb hby at_17) rfl ?_
      show Steps p.tables e below (T4.setTop (mkF m 18 #[iv p1, iv p2, iv p3, iv p4, rv w_WEST, .unset, .unset, .unset, .unset, .unset, .unset] [(.int p4)])) _
      refine XS.iconst X4.here hx rfl (hb hby at_18) ?_
      show Steps p.tables e below (T4.setTop (mkF m 19 #[iv p1, iv p2, iv p3, iv p4, rv w_WEST, .unset, .unset, .unset, .unset, .unset, .unset] [(.int (1 : Int32)), (.int p4)])) _
      refine XS.iushr X4.here hx rfl (hb hby at_19) rfl ?_
      show Steps p.tables e below (T4.setTop (mkF m 20 #[iv p1, iv p2, iv p3, iv p4, rv w_WEST, .unset, .unset, .unset, .unset, .unset, .unset] [(.int ((p4.toUInt32 >>> ((1 : Int32) &&& 31).toUInt32).toInt32))])) _
      refine XS.iconst X4.here hx rfl (hb hby at_20) ?_
      show Steps p.tables e below (T4.setTop (mkF m 21 #[iv p1, iv p2, iv p3, iv p4, rv w_WEST, .unset, .unset, .unset, .unset, .unset, .unset] [(.int (3 : Int32)), (.int ((p4.toUInt32 >>> ((1 : Int32) &&& 31).toUInt32).toInt32))])) _
      refine XS.iand X4.here hx rfl (hb hby at_21) rfl ?_
      show Steps p.tables e below (T4.setTop (mkF m 22 #[iv p1, iv p2, iv p3, iv p4, rv w_WEST, .unset, .unset, .unset, .unset, .unset, .unset] [(.int (((p4.toUInt32 >>> ((1 : Int32) &&& 31).toUInt32).toInt32) &&& (3 : Int32)))])) _
      refine XS.istore X4.here hx rfl (hb hby at_22) rfl (l' := #[iv p1, iv p2, iv p3, iv p4, rv w_WEST, iv (((p4.toUInt32 >>> ((1 : Int32) &&& 31).toUInt32).toInt32) &&& (3 : Int32)), .unset, .unset, .unset, .unset, .unset]) rfl ?_
      show Steps p.tables e below (T4.setTop (mkF m 24 #[iv p1, iv p2, iv p3, iv p4, rv w_WEST, iv (((p4.toUInt32 >>> ((1 : Int32) &&& 31).toUInt32).toInt32) &&& (3 : Int32)), .unset, .unset, .unset, .unset, .unset] [])) _
      exact k
    have hr7 : (((p4.toUInt32 >>> ((1 : Int32) &&& 31).toUInt32).toInt32) &&& (3 : Int32)) = (0 : Int32) ∨ (((p4.toUInt32 >>> ((1 : Int32) &&& 31).toUInt32).toInt32) &&& (3 : Int32)) = (1 : Int32) ∨ (((p4.toUInt32 >>> ((1 : Int32) &&& 31).toUInt32).toInt32) &&& (3 : Int32)) = (2 : Int32) ∨ (((p4.toUInt32 >>> ((1 : Int32) &&& 31).toUInt32).toInt32) &&& (3 : Int32)) = (3 : Int32) := own_mask3 _
    rcases hr7 with hi7 | hi7 | hi7 | hi7
    · have k8 : Way p e below S0 T4 (mkF m 24 #[iv p1, iv p2, iv p3, iv p4, rv w_WEST, iv (0 : Int32), .unset, .unset, .unset, .unset, .unset] []) := by have q := k6; rw [hi7] at q; exact q
      have k9 : Way p e below S0 T4 (mkF m 122 #[iv p1, iv p2, iv p3, iv p4, rv w_WEST, iv (0 : Int32), .val .null, .unset, .unset, .unset, .unset] []) := by
        intro t k
        refine k8 t ?_
        refine XS.iload X4.here hx rfl (hb hby at_24) rfl ?_
        show Steps p.tables e below (T4.setTop (mkF m 26 #[iv p1, iv p2, iv p3, iv p4, rv w_WEST, iv (0 : Int32), .unset, .unset, .unset, .unset, .unset] [(.int (0 : Int32))])) _
        refine XS.ifNo X4.here hx rfl (hb hby at_26) rfl ((if0 _ _).trans (teq ((by decide) : (0 : Int32) = (0 : Int32))).2) ?_
        show Steps p.tables e below (T4.setTop (mkF m 29 #[iv p1, iv p2, iv p3, iv p4, rv w_WEST, iv (0 : Int32), .unset, .unset, .unset, .unset, .unset] [])) _
        refine XS.aconstNull X4.here hx rfl (hb hby at_29) ?_
        show Steps p.tables e below (T4.setTop (mkF m 30 #[iv p1, iv p2, iv p3, iv p4, rv w_WEST, iv (0 : Int32), .unset, .unset, .unset, .unset, .unset] [.null])) _
        refine XS.astore X4.here hx rfl (hb hby at_30) rfl rfl (l' := #[iv p1, iv p2, iv p3, iv p4, rv w_WEST, iv (0 : Int32), .val .null, .unset, .unset, .unset, .unset]) rfl ?_
        show Steps p.tables e below (T4.setTop (mkF m 32 #[iv p1, iv p2, iv p3, iv p4, rv w_WEST, iv (0 : Int32), .val .null, .unset, .unset, .unset, .unset] [])) _
        refine XS.goto X4.here hx rfl (pc0 := 32) (pc' := 122) rfl (hb hby at_32) (by decide) (by decide) ?_
        show Steps p.tables e below (T4.setTop (mkF m 122 #[iv p1, iv p2, iv p3, iv p4, rv w_WEST, iv (0 : Int32), .val .null, .unset, .unset, .unset, .unset] [])) _
        exact k
      obtain ⟨T10, h10, X10, e10, E10, A10, D10, U10, st10⟩ := newO X4 hx hZ hown (hw _ (List.mem_of_getElem? (i := 3) rfl)) (hw _ (List.mem_of_getElem? (i := 4) rfl)) (hw _ (List.mem_of_getElem? (i := 5) rfl)) e4 (g := (mkF m 122 #[iv p1, iv p2, iv p3, iv p4, rv w_WEST, iv (0 : Int32), .val .null, .unset, .unset, .unset, .unset] [])) rfl (hb hby at_122) (by decide) (by decide)
      obtain ⟨b10, g10⟩ : ∃ z, z = h0.size := ⟨_, rfl⟩
      rw [← g10] at A10 D10 U10 st10
      have O10 := O0.ext E10
      have i10_block : Fld Z h10 b10 "com/example/aspectwise/aspectwise/engine/BlockEnd" "block" "Ljava/lang/String;" .null := D10 (Or.inr (hw _ (List.mem_of_getElem? (i := 18) rfl))) (ty := (.object "java/lang/String")) (by decide)
      have i10_side : Fld Z h10 b10 "com/example/aspectwise/aspectwise/engine/BlockEnd" "side" "Lcom/example/aspectwise/aspectwise/engine/BlockEnd$Side;" .null := D10 (Or.inr (hw _ (List.mem_of_getElem? (i := 20) rfl))) (ty := (.object "com/example/aspectwise/aspectwise/engine/BlockEnd$Side")) (by decide)
      have k11 : Way p e below S0 T10 (mkF m 125 #[iv p1, iv p2, iv p3, iv p4, rv w_WEST, iv (0 : Int32), .val .null, .unset, .unset, .unset, .unset] [(.ref b10)]) := fun t k => k9 t (st10 _ k)
      have k12 : Way p e below S0 T10 (mkF m 130 #[iv p1, iv p2, iv p3, iv p4, rv w_WEST, iv (0 : Int32), .val .null, .unset, .unset, .unset, .unset] [(.ref w_WEST), .null, (.ref b10), (.ref b10)]) := by
        intro t k
        refine k11 t ?_
        refine XS.dup X10.here hx rfl (hb hby at_125) rfl rfl ?_
        show Steps p.tables e below (T10.setTop (mkF m 126 #[iv p1, iv p2, iv p3, iv p4, rv w_WEST, iv (0 : Int32), .val .null, .unset, .unset, .unset, .unset] [(.ref b10), (.ref b10)])) _
        refine XS.aload X10.here hx rfl (hb hby at_126) rfl rfl ?_
        show Steps p.tables e below (T10.setTop (mkF m 128 #[iv p1, iv p2, iv p3, iv p4, rv w_WEST, iv (0 : Int32), .val .null, .unset, .unset, .unset, .unset] [.null, (.ref b10), (.ref b10)])) _
        refine XS.aload X10.here hx rfl (hb hby at_128) rfl rfl ?_
        show Steps p.tables e below (T10.setTop (mkF m 130 #[iv p1, iv p2, iv p3, iv p4, rv w_WEST, iv (0 : Int32), .val .null, .unset, .unset, .unset, .unset] [(.ref w_WEST), .null, (.ref b10), (.ref b10)])) _
        exact k
      have ge13 : n0 ≤ b10 := Nat.le_trans (own_old O0) (Nat.le_of_eq g10.symm)
      obtain ⟨_, _, ⟨T14, L14, kk14, nn14⟩, -, X14, ⟨Lc14, hQ14, l14, y14, z14⟩, st14⟩ := X10.specialBack hx (y := (⟨"com/example/aspectwise/aspectwise/engine/BlockEnd", "<init>", "(Ljava/lang/String;Lcom/example/aspectwise/aspectwise/engine/BlockEnd$Side;)V"⟩ : MethodName)) rfl hown (mvT hZ (hw _ (List.mem_of_getElem? (i := 6) rfl))) (mvT hZ (hw _ (List.mem_of_getElem? (i := 7) rfl))) (mvT hZ (hw _ (List.mem_of_getElem? (i := 8) rfl))) (by decide) (backOf (W := 1) (bi0 l Z a0 hw [] w_EAST w_WEST wCS G b10 w_WEST h10 n0 O10 (A10 : Exa Z h10 b10 "com/example/aspectwise/aspectwise/engine/BlockEnd") (i10_block : Fld Z h10 b10 "com/example/aspectwise/aspectwise/engine/BlockEnd" "block" "Ljava/lang/String;" .null) (i10_side : Fld Z h10 b10 "com/example/aspectwise/aspectwise/engine/BlockEnd" "side" "Lcom/example/aspectwise/aspectwise/engine/BlockEnd$Side;" .null) (ge13 : n0 ≤ b10)) hZ (hw _ (List.mem_of_getElem? (i := 8) rfl)) (hw _ (List.mem_of_getElem? (i := 5) rfl)) (by decide) (by decide)) (g := (mkF m 130 #[iv p1, iv p2, iv p3, iv p4, rv w_WEST, iv (0 : Int32), .val .null, .unset, .unset, .unset, .unset] [(.ref w_WEST), .null, (.ref b10), (.ref b10)])) rfl (by rw [hml]; rfl) (Steps.refl _) (a := b10) (argsL := [.null, (.ref w_WEST)]) (rest := [(.ref b10)]) (lenOf pd_8 rfl) rfl (by show 2 * 0 + _ ≤ _; exact Nat.le_of_eq rfl) (hb hby at_130) (fun _ _ => ⟨rfl, e10, (by decide : 1 + 0 ≤ _), (by decide : 2 + 0 ≤ _)⟩)
      dsimp only [Pt.U, Pt.locs, Pt.cells, Pt.slots] at X14 l14 y14 z14 st14 hQ14
      subst l14 y14 z14
      obtain ⟨rfl, Nq14, Kq14, po14_0, po14_1, po14_2⟩ := hQ14
      have N14 := Fr.app N0 Nq14
      have O14 := O10.keep Kq14 (allS ge13 all0)
      have k15 : Way p e below S0 T14 (mkF m 133 #[iv p1, iv p2, iv p3, iv p4, rv w_WEST, iv (0 : Int32), .val .null, .unset, .unset, .unset, .unset] [(.ref b10)]) := fun t k => k12 t (st14.trans k)
      have k16 : Way p e below S0 T14 (mkF m 137 #[iv p1, iv p2, iv p3, iv p4, rv w_WEST, iv (0 : Int32), .val .null, rv b10, .unset, .unset, .unset] [(.ref b10)]) := by
        intro t k
        refine k15 t ?_
        refine XS.astore X14.here hx rfl (hb hby at_133) rfl rfl (l' := #[iv p1, iv p2, iv p3, iv p4, rv w_WEST, iv (0 : Int32), .val .null, rv b10, .unset, .unset, .unset]) rfl ?_
        show Steps p.tables e below (T14.setTop (mkF m 135 #[iv p1, iv p2, iv p3, iv p4, rv w_WEST, iv (0 : Int32), .val .null, rv b10, .unset, .unset, .unset] [])) _
        refine XS.aload X14.here hx rfl (hb hby at_135) rfl rfl ?_
        show Steps p.tables e below (T14.setTop (mkF m 137 #[iv p1, iv p2, iv p3, iv p4, rv w_WEST, iv (0 : Int32), .val .null, rv b10, .unset, .unset, .unset] [(.ref b10)])) _
        exact k
      obtain ⟨cq17, kq17, qq17a, qq17b, qq17c⟩ := isOf hZ rfl po14_0
      obtain ⟨_, _, ⟨T17, L17, kk17, nn17⟩, -, X17, ⟨Lc17, hQ17, l17, y17, z17⟩, st17⟩ := X14.virtualBack hx (y := (⟨"com/example/aspectwise/aspectwise/engine/BlockEnd", "opposite", "()Lcom/example/aspectwise/aspectwise/engine/BlockEnd;"⟩ : MethodName)) (z := (⟨"com/example/aspectwise/aspectwise/engine/BlockEnd", "opposite", "()Lcom/example/aspectwise/aspectwise/engine/BlockEnd;"⟩ : MethodName)) hown (mvT hZ (hw _ (List.mem_of_getElem? (i := 21) rfl))) (mvT hZ (hw _ (List.mem_of_getElem? (i := 22) rfl))) (notFace_of_selects (args := #[]) (mvT hZ (hw _ (List.mem_of_getElem? (i := 24) rfl)))) (mvT hZ (hw _ (List.mem_of_getElem? (i := 24) rfl))) (mvT hZ (hw _ (List.mem_of_getElem? (i := 23) rfl))) (by decide) (backOf (W := 0) (opp1WEST l Z a0 hw [] w_EAST w_WEST wCS G b10 T14.heap n0 O14 (po14_1 : Fld Z T14.heap b10 "com/example/aspectwise/aspectwise/engine/BlockEnd" "block" "Ljava/lang/String;" .null) (po14_2 : Fld Z T14.heap b10 "com/example/aspectwise/aspectwise/engine/BlockEnd" "side" "Lcom/example/aspectwise/aspectwise/engine/BlockEnd$Side;" (.ref w_WEST))) hZ (hw _ (List.mem_of_getElem? (i := 25) rfl)) (hw _ (List.mem_of_getElem? (i := 5) rfl)) (by decide) (by decide)) qq17a qq17c (g := (mkF m 137 #[iv p1, iv p2, iv p3, iv p4, rv w_WEST, iv (0 : Int32), .val .null, rv b10, .unset, .unset, .unset] [(.ref b10)])) rfl (by rw [hml]; rfl) (Steps.refl _) (argsL := []) (rest := []) (lenOf pd_10 rfl) rfl (by show 2 * 0 + _ ≤ _; exact Nat.le_of_eq rfl) (hb hby at_137) (fun _ _ => ⟨rfl, rfl, (by decide : 1 + 1 ≤ _), (by decide : 2 + 2 ≤ _)⟩)
      dsimp only [Pt.U, Pt.locs, Pt.cells, Pt.slots] at X17 l17 y17 z17 st17 hQ17
      subst l17 y17 z17
      obtain ⟨b1_17, rfl, Nq17, Kq17, po17_0, po17_1, po17_2, po17_3⟩ := hQ17
      have N17 := Fr.app N14 Nq17
      have O17 := O14.keep Kq17 all0
      have k18 : Way p e below S0 T17 (mkF m 140 #[iv p1, iv p2, iv p3, iv p4, rv w_WEST, iv (0 : Int32), .val .null, rv b10, .unset, .unset, .unset] [(.ref b1_17)]) := fun t k => k16 t (st17.trans k)
      have k19 : Way p e below S0 T17 (mkF m 151 #[iv p1, iv p2, iv p3, iv p4, rv w_WEST, iv (0 : Int32), .val .null, rv b10, rv b1_17, .unset, .unset] [(.ref w_WEST)]) := by
        intro t k
        refine k18 t ?_
        refine XS.astore X17.here hx rfl (hb hby at_140) rfl rfl (l' := #[iv p1, iv p2, iv p3, iv p4, rv w_WEST, iv (0 : Int32), .val .null, rv b10, rv b1_17, .unset, .unset]) rfl ?_
        show Steps p.tables e below (T17.setTop (mkF m 142 #[iv p1, iv p2, iv p3, iv p4, rv w_WEST, iv (0 : Int32), .val .null, rv b10, rv b1_17, .unset, .unset] [])) _
        refine XS.aload X17.here hx rfl (hb hby at_142) rfl rfl ?_
        show Steps p.tables e below (T17.setTop (mkF m 144 #[iv p1, iv p2, iv p3, iv p4, rv w_WEST, iv (0 : Int32), .val .null, rv b10, rv b1_17, .unset, .unset] [(.ref b1_17)])) _
        refine XS.ifnonnullYes X17.here hx rfl (pc0 := 144) (pc' := 149) rfl (hb hby at_144) rfl (by decide) (by decide) ?_
        show Steps p.tables e below (T17.setTop (mkF m 149 #[iv p1, iv p2, iv p3, iv p4, rv w_WEST, iv (0 : Int32), .val .null, rv b10, rv b1_17, .unset, .unset] [])) _
        refine XS.aload X17.here hx rfl (hb hby at_149) rfl rfl ?_
        show Steps p.tables e below (T17.setTop (mkF m 151 #[iv p1, iv p2, iv p3, iv p4, rv w_WEST, iv (0 : Int32), .val .null, rv b10, rv b1_17, .unset, .unset] [(.ref w_WEST)])) _
        exact k
      obtain ⟨T20, X20, e20, st20⟩ := getS2 X17 hx hZ hown (host := "") (Or.inl (hw _ (List.mem_of_getElem? (i := 0) rfl))) Via.refl rfl (S_w_EAST.ext O17.2) (g := (mkF m 151 #[iv p1, iv p2, iv p3, iv p4, rv w_WEST, iv (0 : Int32), .val .null, rv b10, rv b1_17, .unset, .unset] [(.ref w_WEST)])) rfl (hb hby at_151)
      have k21 : Way p e below S0 T20 (mkF m 154 #[iv p1, iv p2, iv p3, iv p4, rv w_WEST, iv (0 : Int32), .val .null, rv b10, rv b1_17, .unset, .unset] [(.ref w_EAST), (.ref w_WEST)]) := fun t k => k19 t (st20 _ k)
      have k22 : Way p e below S0 T20 (mkF m 165 #[iv p1, iv p2, iv p3, iv p4, rv w_WEST, iv (0 : Int32), .val .null, rv b10, rv b1_17, .unset, .unset] []) := by
        intro t k
        refine k21 t ?_
        refine Jvm.RoadKit.acmp (g := (mkF m 154 #[iv p1, iv p2, iv p3, iv p4, rv w_WEST, iv (0 : Int32), .val .null, rv b10, rv b1_17, .unset, .unset] [(.ref w_EAST), (.ref w_WEST)])) X20 hx rfl rfl rfl (pc0 := 154) (pc' := 165) (same := false) rfl (hb hby at_154) rfl (decide_eq_false fun q => absurd (Value.ref.inj q) (F_w_WEST_ordinal.ne F_w_EAST_ordinal (by decide))) (by decide) (by decide) ?_
        show Steps p.tables e below (T20.setTop (mkF m 165 #[iv p1, iv p2, iv p3, iv p4, rv w_WEST, iv (0 : Int32), .val .null, rv b10, rv b1_17, .unset, .unset] [])) _
        exact k
      obtain ⟨T23, X23, e23, st23⟩ := getS2 X20 hx hZ hown (host := "") (Or.inl (hw _ (List.mem_of_getElem? (i := 0) rfl))) Via.refl e20 (S_w_EAST.ext O17.2) (g := (mkF m 165 #[iv p1, iv p2, iv p3, iv p4, rv w_WEST, iv (0 : Int32), .val .null, rv b10, rv b1_17, .unset, .unset] [])) rfl (hb hby at_165)
      have k24 : Way p e below S0 T23 (mkF m 168 #[iv p1, iv p2, iv p3, iv p4, rv w_WEST, iv (0 : Int32), .val .null, rv b10, rv b1_17, .unset, .unset] [(.ref w_EAST)]) := fun t k => k22 t (st23 _ k)
      have k25 : Way p e below S0 T23 (mkF m 172 #[iv p1, iv p2, iv p3, iv p4, rv w_WEST, iv (0 : Int32), .val .null, rv b10, rv b1_17, rv w_EAST, .unset] [(.ref b1_17)]) := by
        intro t k
        refine k24 t ?_
        refine XS.astore X23.here hx rfl (hb hby at_168) rfl rfl (l' := #[iv p1, iv p2, iv p3, iv p4, rv w_WEST, iv (0 : Int32), .val .null, rv b10, rv b1_17, rv w_EAST, .unset]) rfl ?_
        show Steps p.tables e below (T23.setTop (mkF m 170 #[iv p1, iv p2, iv p3, iv p4, rv w_WEST, iv (0 : Int32), .val .null, rv b10, rv b1_17, rv w_EAST, .unset] [])) _
        refine XS.aload X23.here hx rfl (hb hby at_170) rfl rfl ?_
        show Steps p.tables e below (T23.setTop (mkF m 172 #[iv p1, iv p2, iv p3, iv p4, rv w_WEST, iv (0 : Int32), .val .null, rv b10, rv b1_17, rv w_EAST, .unset] [(.ref b1_17)])) _
        exact k
      obtain ⟨cq26, kq26, qq26a, qq26b, qq26c⟩ := isOf hZ e23 po17_1
      obtain ⟨_, _, ⟨T26, L26, kk26, nn26⟩, -, X26, ⟨Lc26, hQ26, l26, y26, z26⟩, st26⟩ := X23.virtualBack hx (y := (⟨"com/example/aspectwise/aspectwise/engine/BlockEnd", "side", "()Lcom/example/aspectwise/aspectwise/engine/BlockEnd$Side;"⟩ : MethodName)) (z := (⟨"com/example/aspectwise/aspectwise/engine/BlockEnd", "side", "()Lcom/example/aspectwise/aspectwise/engine/BlockEnd$Side;"⟩ : MethodName)) hown (mvT hZ (hw _ (List.mem_of_getElem? (i := 32) rfl))) (mvT hZ (hw _ (List.mem_of_getElem? (i := 33) rfl))) (notFace_of_selects (args := #[]) (mvT hZ (hw _ (List.mem_of_getElem? (i := 35) rfl)))) (mvT hZ (hw _ (List.mem_of_getElem? (i := 35) rfl))) (mvT hZ (hw _ (List.mem_of_getElem? (i := 34) rfl))) (by decide) (backOf (W := 0) (sid l Z a0 hw [] w_EAST w_WEST wCS G b1_17 w_EAST T17.heap n0 O17 (po17_3 : Fld Z T17.heap b1_17 "com/example/aspectwise/aspectwise/engine/BlockEnd" "side" "Lcom/example/aspectwise/aspectwise/engine/BlockEnd$Side;" (.ref w_EAST))) hZ (hw _ (List.mem_of_getElem? (i := 36) rfl)) (hw _ (List.mem_of_getElem? (i := 5) rfl)) (by decide) (by decide)) qq26a qq26c (g := (mkF m 172 #[iv p1, iv p2, iv p3, iv p4, rv w_WEST, iv (0 : Int32), .val .null, rv b10, rv b1_17, rv w_EAST, .unset] [(.ref b1_17)])) rfl (by rw [hml]; rfl) (Steps.refl _) (argsL := []) (rest := []) (lenOf pd_11 rfl) rfl (by show 2 * 0 + _ ≤ _; exact Nat.le_of_eq rfl) (hb hby at_172) (fun _ _ => ⟨rfl, e23, (by decide : 2 + 0 ≤ _), (by decide : 4 + 0 ≤ _)⟩)
      dsimp only [Pt.U, Pt.locs, Pt.cells, Pt.slots] at X26 l26 y26 z26 st26 hQ26
      subst l26 y26 z26
      obtain ⟨rfl, Nq26, e26⟩ := hQ26
      have N26 := Fr.app N17 Nq26
      have k27 : Way p e below S0 T26 (mkF m 175 #[iv p1, iv p2, iv p3, iv p4, rv w_WEST, iv (0 : Int32), .val .null, rv b10, rv b1_17, rv w_EAST, .unset] [(.ref w_EAST)]) := fun t k => k25 t (st26.trans k)
      have k28 : Way p e below S0 T26 (mkF m 186 #[iv p1, iv p2, iv p3, iv p4, rv w_WEST, iv (0 : Int32), .val .null, rv b10, rv b1_17, rv w_EAST, .unset] [(.ref b1_17), .null]) := by
        intro t k
        refine k27 t ?_
        refine XS.aload X26.here hx rfl (hb hby at_175) rfl rfl ?_
        show Steps p.tables e below (T26.setTop (mkF m 177 #[iv p1, iv p2, iv p3, iv p4, rv w_WEST, iv (0 : Int32), .val .null, rv b10, rv b1_17, rv w_EAST, .unset] [(.ref w_EAST), (.ref w_EAST)])) _
        refine Jvm.RoadKit.acmp (g := (mkF m 177 #[iv p1, iv p2, iv p3, iv p4, rv w_WEST, iv (0 : Int32), .val .null, rv b10, rv b1_17, rv w_EAST, .unset] [(.ref w_EAST), (.ref w_EAST)])) X26 hx rfl rfl rfl (pc0 := 177) (pc' := 182) (same := true) rfl (hb hby at_177) rfl (decide_eq_true rfl) (by decide) (by decide) ?_
        show Steps p.tables e below (T26.setTop (mkF m 182 #[iv p1, iv p2, iv p3, iv p4, rv w_WEST, iv (0 : Int32), .val .null, rv b10, rv b1_17, rv w_EAST, .unset] [])) _
        refine XS.aload X26.here hx rfl (hb hby at_182) rfl rfl ?_
        show Steps p.tables e below (T26.setTop (mkF m 184 #[iv p1, iv p2, iv p3, iv p4, rv w_WEST, iv (0 : Int32), .val .null, rv b10, rv b1_17, rv w_EAST, .unset] [.null])) _
        refine XS.aload X26.here hx rfl (hb hby at_184) rfl rfl ?_
        show Steps p.tables e below (T26.setTop (mkF m 186 #[iv p1, iv p2, iv p3, iv p4, rv w_WEST, iv (0 : Int32), .val .null, rv b10, rv b1_17, rv w_EAST, .unset] [(.ref b1_17), .null])) _
        exact k
      obtain ⟨cq29, kq29, qq29a, qq29b, qq29c⟩ := isOf hZ e26 po17_1
      obtain ⟨_, _, ⟨T29, L29, kk29, nn29⟩, -, X29, ⟨Lc29, hQ29, l29, y29, z29⟩, st29⟩ := X26.virtualBack hx (y := (⟨"com/example/aspectwise/aspectwise/engine/BlockEnd", "block", "()Ljava/lang/String;"⟩ : MethodName)) (z := (⟨"com/example/aspectwise/aspectwise/engine/BlockEnd", "block", "()Ljava/lang/String;"⟩ : MethodName)) hown (mvT hZ (hw _ (List.mem_of_getElem? (i := 37) rfl))) (mvT hZ (hw _ (List.mem_of_getElem? (i := 38) rfl))) (notFace_of_selects (args := #[]) (mvT hZ (hw _ (List.mem_of_getElem? (i := 40) rfl)))) (mvT hZ (hw _ (List.mem_of_getElem? (i := 40) rfl))) (mvT hZ (hw _ (List.mem_of_getElem? (i := 39) rfl))) (by decide) (backOf (W := 1) (blk1 l Z a0 hw [] w_EAST w_WEST wCS G b1_17 T17.heap n0 O17 (po17_2 : Fld Z T17.heap b1_17 "com/example/aspectwise/aspectwise/engine/BlockEnd" "block" "Ljava/lang/String;" .null)) hZ (hw _ (List.mem_of_getElem? (i := 41) rfl)) (hw _ (List.mem_of_getElem? (i := 5) rfl)) (by decide) (by decide)) qq29a qq29c (g := (mkF m 186 #[iv p1, iv p2, iv p3, iv p4, rv w_WEST, iv (0 : Int32), .val .null, rv b10, rv b1_17, rv w_EAST, .unset] [(.ref b1_17), .null])) rfl (by rw [hml]; rfl) (Steps.refl _) (argsL := []) (rest := [.null]) (lenOf pd_12 rfl) rfl (by show 2 * 0 + _ ≤ _; exact Nat.le_of_eq rfl) (hb hby at_186) (fun _ _ => ⟨rfl, e26, (by decide : 2 + 0 ≤ _), (by decide : 4 + 0 ≤ _)⟩)
      dsimp only [Pt.U, Pt.locs, Pt.cells, Pt.slots] at X29 l29 y29 z29 st29 hQ29
      subst l29 y29 z29
      obtain ⟨rfl, Nq29, e29⟩ := hQ29
      have N29 := Fr.app N26 Nq29
      have k30 : Way p e below S0 T29 (mkF m 189 #[iv p1, iv p2, iv p3, iv p4, rv w_WEST, iv (0 : Int32), .val .null, rv b10, rv b1_17, rv w_EAST, .unset] [.null, .null]) := fun t k => k28 t (st29.trans k)
      obtain ⟨_, _, ⟨T31, L31, kk31, nn31⟩, -, X31, ⟨Lc31, hQ31, l31, y31, z31⟩, st31⟩ := Jvm.LawKit.callS X29 hx (y := (⟨"com/example/aspectwise/aspectwise/engine/BlockEndOppositePinLaw", "sameBlock", "(Ljava/lang/String;Ljava/lang/String;)Z"⟩ : MethodName)) hown (mvT hZ (hw _ (List.mem_of_getElem? (i := 42) rfl))) (mvT hZ (hw _ (List.mem_of_getElem? (i := 43) rfl))) (mvT hZ (hw _ (List.mem_of_getElem? (i := 44) rfl))) (mvT hZ (hw _ (List.mem_of_getElem? (i := 45) rfl))) (by decide) (backOf (W := 0) (sb0 l Z a0 hw [] w_EAST w_WEST wCS G  T17.heap n0 O17 ) hZ (hw _ (List.mem_of_getElem? (i := 45) rfl)) (hw _ (List.mem_of_getElem? (i := 44) rfl)) (by decide) (by decide)) (g := (mkF m 189 #[iv p1, iv p2, iv p3, iv p4, rv w_WEST, iv (0 : Int32), .val .null, rv b10, rv b1_17, rv w_EAST, .unset] [.null, .null])) rfl (by rw [hml]; rfl) (argsL := [.null, .null]) (rest := []) (lenOf pd_13 rfl) rfl (by show 2 * 0 + _ ≤ _; exact Nat.le_of_eq rfl) (hb hby at_189) (fun _ _ => ⟨rfl, e29, (by decide : 2 + 0 ≤ _), (by decide : 4 + 0 ≤ _)⟩)
      dsimp only [Pt.U, Pt.locs, Pt.cells, Pt.slots] at X31 l31 y31 z31 st31 hQ31
      subst l31 y31 z31
      obtain ⟨rfl, Nq31, e31⟩ := hQ31
      have N31 := Fr.app N29 Nq31
      have k32 : Way p e below S0 T31 (mkF m 192 #[iv p1, iv p2, iv p3, iv p4, rv w_WEST, iv (0 : Int32), .val .null, rv b10, rv b1_17, rv w_EAST, .unset] [(.int (1 : Int32))]) := fun t k => k30 t (st31 _ k)
      have k33 : Way p e below S0 T31 (mkF m 199 #[iv p1, iv p2, iv p3, iv p4, rv w_WEST, iv (0 : Int32), .val .null, rv b10, rv b1_17, rv w_EAST, .unset] [(.ref b1_17)]) := by
        intro t k
        refine k32 t ?_
        refine XS.ifYes X31.here hx rfl (pc0 := 192) (pc' := 197) rfl (hb hby at_192) rfl ((if0 _ _).trans (feq ((by decide) : ¬ ((1 : Int32) = (0 : Int32)))).2) (by decide) (by decide) ?_
        show Steps p.tables e below (T31.setTop (mkF m 197 #[iv p1, iv p2, iv p3, iv p4, rv w_WEST, iv (0 : Int32), .val .null, rv b10, rv b1_17, rv w_EAST, .unset] [])) _
        refine XS.aload X31.here hx rfl (hb hby at_197) rfl rfl ?_
        show Steps p.tables e below (T31.setTop (mkF m 199 #[iv p1, iv p2, iv p3, iv p4, rv w_WEST, iv (0 : Int32), .val .null, rv b10, rv b1_17, rv w_EAST, .unset] [(.ref b1_17)])) _
        exact k
      obtain ⟨cq34, kq34, qq34a, qq34b, qq34c⟩ := isOf hZ e31 po17_1
      obtain ⟨_, _, ⟨T34, L34, kk34, nn34⟩, -, X34, ⟨Lc34, hQ34, l34, y34, z34⟩, st34⟩ := X31.virtualBack hx (y := (⟨"com/example/aspectwise/aspectwise/engine/BlockEnd", "opposite", "()Lcom/example/aspectwise/aspectwise/engine/BlockEnd;"⟩ : MethodName)) (z := (⟨"com/example/aspectwise/aspectwise/engine/BlockEnd", "opposite", "()Lcom/example/aspectwise/aspectwise/engine/BlockEnd;"⟩ : MethodName)) hown (mvT hZ (hw _ (List.mem_of_getElem? (i := 21) rfl))) (mvT hZ (hw _ (List.mem_of_getElem? (i := 22) rfl))) (notFace_of_selects (args := #[]) (mvT hZ (hw _ (List.mem_of_getElem? (i := 24) rfl)))) (mvT hZ (hw _ (List.mem_of_getElem? (i := 24) rfl))) (mvT hZ (hw _ (List.mem_of_getElem? (i := 23) rfl))) (by decide) (backOf (W := 0) (opp1EAST l Z a0 hw [] w_EAST w_WEST wCS G b1_17 T17.heap n0 O17 (po17_2 : Fld Z T17.heap b1_17 "com/example/aspectwise/aspectwise/engine/BlockEnd" "block" "Ljava/lang/String;" .null) (po17_3 : Fld Z T17.heap b1_17 "com/example/aspectwise/aspectwise/engine/BlockEnd" "side" "Lcom/example/aspectwise/aspectwise/engine/BlockEnd$Side;" (.ref w_EAST))) hZ (hw _ (List.mem_of_getElem? (i := 25) rfl)) (hw _ (List.mem_of_getElem? (i := 5) rfl)) (by decide) (by decide)) qq34a qq34c (g := (mkF m 199 #[iv p1, iv p2, iv p3, iv p4, rv w_WEST, iv (0 : Int32), .val .null, rv b10, rv b1_17, rv w_EAST, .unset] [(.ref b1_17)])) rfl (by rw [hml]; rfl) (Steps.refl _) (argsL := []) (rest := []) (lenOf pd_10 rfl) rfl (by show 2 * 0 + _ ≤ _; exact Nat.le_of_eq rfl) (hb hby at_199) (fun _ _ => ⟨rfl, e31, (by decide : 2 + 1 ≤ _), (by decide : 4 + 2 ≤ _)⟩)
      dsimp only [Pt.U, Pt.locs, Pt.cells, Pt.slots] at X34 l34 y34 z34 st34 hQ34
      subst l34 y34 z34
      obtain ⟨b1_34, rfl, Nq34, Kq34, po34_0, po34_1, po34_2, po34_3⟩ := hQ34
      have N34 := Fr.app N31 Nq34
      have O34 := O17.keep Kq34 all0
      have k35 : Way p e below S0 T34 (mkF m 202 #[iv p1, iv p2, iv p3, iv p4, rv w_WEST, iv (0 : Int32), .val .null, rv b10, rv b1_17, rv w_EAST, .unset] [(.ref b1_34)]) := fun t k => k33 t (st34.trans k)
      have k36 : Way p e below S0 T34 (mkF m 213 #[iv p1, iv p2, iv p3, iv p4, rv w_WEST, iv (0 : Int32), .val .null, rv b10, rv b1_17, rv w_EAST, rv b1_34] [(.ref b1_34)]) := by
        intro t k
        refine k35 t ?_
        refine XS.astore X34.here hx rfl (hb hby at_202) rfl rfl (l' := #[iv p1, iv p2, iv p3, iv p4, rv w_WEST, iv (0 : Int32), .val .null, rv b10, rv b1_17, rv w_EAST, rv b1_34]) rfl ?_
        show Steps p.tables e below (T34.setTop (mkF m 204 #[iv p1, iv p2, iv p3, iv p4, rv w_WEST, iv (0 : Int32), .val .null, rv b10, rv b1_17, rv w_EAST, rv b1_34] [])) _
        refine XS.aload X34.here hx rfl (hb hby at_204) rfl rfl ?_
        show Steps p.tables e below (T34.setTop (mkF m 206 #[iv p1, iv p2, iv p3, iv p4, rv w_WEST, iv (0 : Int32), .val .null, rv b10, rv b1_17, rv w_EAST, rv b1_34] [(.ref b1_34)])) _
        refine XS.ifnonnullYes X34.here hx rfl (pc0 := 206) (pc' := 211) rfl (hb hby at_206) rfl (by decide) (by decide) ?_
        show Steps p.tables e below (T34.setTop (mkF m 211 #[iv p1, iv p2, iv p3, iv p4, rv w_WEST, iv (0 : Int32), .val .null, rv b10, rv b1_17, rv w_EAST, rv b1_34] [])) _
        refine XS.aload X34.here hx rfl (hb hby at_211) rfl rfl ?_
        show Steps p.tables e below (T34.setTop (mkF m 213 #[iv p1, iv p2, iv p3, iv p4, rv w_WEST, iv (0 : Int32), .val .null, rv b10, rv b1_17, rv w_EAST, rv b1_34] [(.ref b1_34)])) _
        exact k
      obtain ⟨cq37, kq37, qq37a, qq37b, qq37c⟩ := isOf hZ rfl po34_1
      obtain ⟨_, _, ⟨T37, L37, kk37, nn37⟩, -, X37, ⟨Lc37, hQ37, l37, y37, z37⟩, st37⟩ := X34.virtualBack hx (y := (⟨"com/example/aspectwise/aspectwise/engine/BlockEnd", "side", "()Lcom/example/aspectwise/aspectwise/engine/BlockEnd$Side;"⟩ : MethodName)) (z := (⟨"com/example/aspectwise/aspectwise/engine/BlockEnd", "side", "()Lcom/example/aspectwise/aspectwise/engine/BlockEnd$Side;"⟩ : MethodName)) hown (mvT hZ (hw _ (List.mem_of_getElem? (i := 32) rfl))) (mvT hZ (hw _ (List.mem_of_getElem? (i := 33) rfl))) (notFace_of_selects (args := #[]) (mvT hZ (hw _ (List.mem_of_getElem? (i := 35) rfl)))) (mvT hZ (hw _ (List.mem_of_getElem? (i := 35) rfl))) (mvT hZ (hw _ (List.mem_of_getElem? (i := 34) rfl))) (by decide) (backOf (W := 0) (sid l Z a0 hw [] w_EAST w_WEST wCS G b1_34 w_WEST T34.heap n0 O34 (po34_3 : Fld Z T34.heap b1_34 "com/example/aspectwise/aspectwise/engine/BlockEnd" "side" "Lcom/example/aspectwise/aspectwise/engine/BlockEnd$Side;" (.ref w_WEST))) hZ (hw _ (List.mem_of_getElem? (i := 36) rfl)) (hw _ (List.mem_of_getElem? (i := 5) rfl)) (by decide) (by decide)) qq37a qq37c (g := (mkF m 213 #[iv p1, iv p2, iv p3, iv p4, rv w_WEST, iv (0 : Int32), .val .null, rv b10, rv b1_17, rv w_EAST, rv b1_34] [(.ref b1_34)])) rfl (by rw [hml]; rfl) (Steps.refl _) (argsL := []) (rest := []) (lenOf pd_11 rfl) rfl (by show 2 * 0 + _ ≤ _; exact Nat.le_of_eq rfl) (hb hby at_213) (fun _ _ => ⟨rfl, rfl, (by decide : 3 + 0 ≤ _), (by decide : 6 + 0 ≤ _)⟩)
      dsimp only [Pt.U, Pt.locs, Pt.cells, Pt.slots] at X37 l37 y37 z37 st37 hQ37
      subst l37 y37 z37
      obtain ⟨rfl, Nq37, e37⟩ := hQ37
      have N37 := Fr.app N34 Nq37
      have k38 : Way p e below S0 T37 (mkF m 216 #[iv p1, iv p2, iv p3, iv p4, rv w_WEST, iv (0 : Int32), .val .null, rv b10, rv b1_17, rv w_EAST, rv b1_34] [(.ref w_WEST)]) := fun t k => k36 t (st37.trans k)
      have k39 : Way p e below S0 T37 (mkF m 225 #[iv p1, iv p2, iv p3, iv p4, rv w_WEST, iv (0 : Int32), .val .null, rv b10, rv b1_17, rv w_EAST, rv b1_34] [(.ref b1_34), .null]) := by
        intro t k
        refine k38 t ?_
        refine XS.aload X37.here hx rfl (hb hby at_216) rfl rfl ?_
        show Steps p.tables e below (T37.setTop (mkF m 218 #[iv p1, iv p2, iv p3, iv p4, rv w_WEST, iv (0 : Int32), .val .null, rv b10, rv b1_17, rv w_EAST, rv b1_34] [(.ref w_WEST), (.ref w_WEST)])) _
        refine Jvm.RoadKit.acmp (g := (mkF m 218 #[iv p1, iv p2, iv p3, iv p4, rv w_WEST, iv (0 : Int32), .val .null, rv b10, rv b1_17, rv w_EAST, rv b1_34] [(.ref w_WEST), (.ref w_WEST)])) X37 hx rfl rfl rfl (pc0 := 218) (pc' := 221) (same := true) rfl (hb hby at_218) rfl (decide_eq_true rfl) (by decide) (by decide) ?_
        show Steps p.tables e below (T37.setTop (mkF m 221 #[iv p1, iv p2, iv p3, iv p4, rv w_WEST, iv (0 : Int32), .val .null, rv b10, rv b1_17, rv w_EAST, rv b1_34] [])) _
        refine XS.aload X37.here hx rfl (hb hby at_221) rfl rfl ?_
        show Steps p.tables e below (T37.setTop (mkF m 223 #[iv p1, iv p2, iv p3, iv p4, rv w_WEST, iv (0 : Int32), .val .null, rv b10, rv b1_17, rv w_EAST, rv b1_34] [.null])) _
        refine XS.aload X37.here hx rfl (hb hby at_223) rfl rfl ?_
        show Steps p.tables e below (T37.setTop (mkF m 225 #[iv p1, iv p2, iv p3, iv p4, rv w_WEST, iv (0 : Int32), .val .null, rv b10, rv b1_17, rv w_EAST, rv b1_34] [(.ref b1_34), .null])) _
        exact k
      obtain ⟨cq40, kq40, qq40a, qq40b, qq40c⟩ := isOf hZ e37 po34_1
      obtain ⟨_, _, ⟨T40, L40, kk40, nn40⟩, -, X40, ⟨Lc40, hQ40, l40, y40, z40⟩, st40⟩ := X37.virtualBack hx (y := (⟨"com/example/aspectwise/aspectwise/engine/BlockEnd", "block", "()Ljava/lang/String;"⟩ : MethodName)) (z := (⟨"com/example/aspectwise/aspectwise/engine/BlockEnd", "block", "()Ljava/lang/String;"⟩ : MethodName)) hown (mvT hZ (hw _ (List.mem_of_getElem? (i := 37) rfl))) (mvT hZ (hw _ (List.mem_of_getElem? (i := 38) rfl))) (notFace_of_selects (args := #[]) (mvT hZ (hw _ (List.mem_of_getElem? (i := 40) rfl)))) (mvT hZ (hw _ (List.mem_of_getElem? (i := 40) rfl))) (mvT hZ (hw _ (List.mem_of_getElem? (i := 39) rfl))) (by decide) (backOf (W := 1) (blk1 l Z a0 hw [] w_EAST w_WEST wCS G b1_34 T34.heap n0 O34 (po34_2 : Fld Z T34.heap b1_34 "com/example/aspectwise/aspectwise/engine/BlockEnd" "block" "Ljava/lang/String;" .null)) hZ (hw _ (List.mem_of_getElem? (i := 41) rfl)) (hw _ (List.mem_of_getElem? (i := 5) rfl)) (by decide) (by decide)) qq40a qq40c (g := (mkF m 225 #[iv p1, iv p2, iv p3, iv p4, rv w_WEST, iv (0 : Int32), .val .null, rv b10, rv b1_17, rv w_EAST, rv b1_34] [(.ref b1_34), .null])) rfl (by rw [hml]; rfl) (Steps.refl _) (argsL := []) (rest := [.null]) (lenOf pd_12 rfl) rfl (by show 2 * 0 + _ ≤ _; exact Nat.le_of_eq rfl) (hb hby at_225) (fun _ _ => ⟨rfl, e37, (by decide : 3 + 0 ≤ _), (by decide : 6 + 0 ≤ _)⟩)
      dsimp only [Pt.U, Pt.locs, Pt.cells, Pt.slots] at X40 l40 y40 z40 st40 hQ40
      subst l40 y40 z40
      obtain ⟨rfl, Nq40, e40⟩ := hQ40
      have N40 := Fr.app N37 Nq40
      have k41 : Way p e below S0 T40 (mkF m 228 #[iv p1, iv p2, iv p3, iv p4, rv w_WEST, iv (0 : Int32), .val .null, rv b10, rv b1_17, rv w_EAST, rv b1_34] [.null, .null]) := fun t k => k39 t (st40.trans k)
      obtain ⟨_, _, ⟨T42, L42, kk42, nn42⟩, -, X42, ⟨Lc42, hQ42, l42, y42, z42⟩, st42⟩ := Jvm.LawKit.callS X40 hx (y := (⟨"com/example/aspectwise/aspectwise/engine/BlockEndOppositePinLaw", "sameBlock", "(Ljava/lang/String;Ljava/lang/String;)Z"⟩ : MethodName)) hown (mvT hZ (hw _ (List.mem_of_getElem? (i := 42) rfl))) (mvT hZ (hw _ (List.mem_of_getElem? (i := 43) rfl))) (mvT hZ (hw _ (List.mem_of_getElem? (i := 44) rfl))) (mvT hZ (hw _ (List.mem_of_getElem? (i := 45) rfl))) (by decide) (backOf (W := 0) (sb0 l Z a0 hw [] w_EAST w_WEST wCS G  T34.heap n0 O34 ) hZ (hw _ (List.mem_of_getElem? (i := 45) rfl)) (hw _ (List.mem_of_getElem? (i := 44) rfl)) (by decide) (by decide)) (g := (mkF m 228 #[iv p1, iv p2, iv p3, iv p4, rv w_WEST, iv (0 : Int32), .val .null, rv b10, rv b1_17, rv w_EAST, rv b1_34] [.null, .null])) rfl (by rw [hml]; rfl) (argsL := [.null, .null]) (rest := []) (lenOf pd_13 rfl) rfl (by show 2 * 0 + _ ≤ _; exact Nat.le_of_eq rfl) (hb hby at_228) (fun _ _ => ⟨rfl, e40, (by decide : 3 + 0 ≤ _), (by decide : 6 + 0 ≤ _)⟩)
      dsimp only [Pt.U, Pt.locs, Pt.cells, Pt.slots] at X42 l42 y42 z42 st42 hQ42
      subst l42 y42 z42
      obtain ⟨rfl, Nq42, e42⟩ := hQ42
      have N42 := Fr.app N40 Nq42
      have k43 : Way p e below S0 T42 (mkF m 231 #[iv p1, iv p2, iv p3, iv p4, rv w_WEST, iv (0 : Int32), .val .null, rv b10, rv b1_17, rv w_EAST, rv b1_34] [(.int (1 : Int32))]) := fun t k => k41 t (st42 _ k)
      have k44 : Way p e below S0 T42 (mkF m 239 #[iv p1, iv p2, iv p3, iv p4, rv w_WEST, iv (0 : Int32), .val .null, rv b10, rv b1_17, rv w_EAST, rv b1_34] [(.int (1 : Int32))]) := by
        intro t k
        refine k43 t ?_
        refine XS.ifNo X42.here hx rfl (hb hby at_231) rfl ((if0 _ _).trans (feq ((by decide) : ¬ ((1 : Int32) = (0 : Int32)))).1) ?_
        show Steps p.tables e below (T42.setTop (mkF m 234 #[iv p1, iv p2, iv p3, iv p4, rv w_WEST, iv (0 : Int32), .val .null, rv b10, rv b1_17, rv w_EAST, rv b1_34] [])) _
        refine XS.iconst X42.here hx rfl (hb hby at_234) ?_
        show Steps p.tables e below (T42.setTop (mkF m 235 #[iv p1, iv p2, iv p3, iv p4, rv w_WEST, iv (0 : Int32), .val .null, rv b10, rv b1_17, rv w_EAST, rv b1_34] [(.int (1 : Int32))])) _
        refine XS.goto X42.here hx rfl (pc0 := 235) (pc' := 239) rfl (hb hby at_235) (by decide) (by decide) ?_
        show Steps p.tables e below (T42.setTop (mkF m 239 #[iv p1, iv p2, iv p3, iv p4, rv w_WEST, iv (0 : Int32), .val .null, rv b10, rv b1_17, rv w_EAST, rv b1_34] [(.int (1 : Int32))])) _
        exact k
      obtain ⟨fs, hr, hrun, hended, hRW⟩ := Stand.leaveW (s := s) (vm₁ := s.vm) X42 hS0 (by rw [e42]; exact (Nat.zero_le _)) (v := some (.int (1 : Int32))) (fun h => by rw [Bd.returns] at h; cases h)
      refine ⟨_, _, k44 _ (retN X42 hx (t := .boolean) Bd.returns (by simp) (hb hby at_239) hr), hrun, hended, _, _, rfl, ?_, own_rw hRW (by decide) (by decide)⟩
      show Q_law_met Z w_EAST w_WEST wCS p1 p2 p3 p4 h0 n0 _ T42.heap _
      rw [e42]
      exact ⟨rfl, N42⟩
    · have k45 : Way p e below S0 T4 (mkF m 24 #[iv p1, iv p2, iv p3, iv p4, rv w_WEST, iv (1 : Int32), .unset, .unset, .unset, .unset, .unset] []) := by have q := k6; rw [hi7] at q; exact q
      have k46 : Way p e below S0 T4 (mkF m 41 #[iv p1, iv p2, iv p3, iv p4, rv w_WEST, iv (1 : Int32), .unset, .unset, .unset, .unset, .unset] []) := by
        intro t k
        refine k45 t ?_
        refine XS.iload X4.here hx rfl (hb hby at_24) rfl ?_
        show Steps p.tables e below (T4.setTop (mkF m 26 #[iv p1, iv p2, iv p3, iv p4, rv w_WEST, iv (1 : Int32), .unset, .unset, .unset, .unset, .unset] [(.int (1 : Int32))])) _
        refine XS.ifYes X4.here hx rfl (pc0 := 26) (pc' := 35) rfl (hb hby at_26) rfl ((if0 _ _).trans (feq ((by decide) : ¬ ((1 : Int32) = (0 : Int32)))).2) (by decide) (by decide) ?_
        show Steps p.tables e below (T4.setTop (mkF m 35 #[iv p1, iv p2, iv p3, iv p4, rv w_WEST, iv (1 : Int32), .unset, .unset, .unset, .unset, .unset] [])) _
        refine XS.iload X4.here hx rfl (hb hby at_35) rfl ?_
        show Steps p.tables e below (T4.setTop (mkF m 37 #[iv p1, iv p2, iv p3, iv p4, rv w_WEST, iv (1 : Int32), .unset, .unset, .unset, .unset, .unset] [(.int (1 : Int32))])) _
        refine XS.iconst X4.here hx rfl (hb hby at_37) ?_
        show Steps p.tables e below (T4.setTop (mkF m 38 #[iv p1, iv p2, iv p3, iv p4, rv w_WEST, iv (1 : Int32), .unset, .unset, .unset, .unset, .unset] [(.int (1 : Int32)), (.int (1 : Int32))])) _
        refine XS.icmpNo X4.here hx rfl (hb hby at_38) rfl (teq ((by decide) : (1 : Int32) = (1 : Int32))).2 ?_
        show Steps p.tables e below (T4.setTop (mkF m 41 #[iv p1, iv p2, iv p3, iv p4, rv w_WEST, iv (1 : Int32), .unset, .unset, .unset, .unset, .unset] [])) _
        exact k
      obtain ⟨T47, h47, X47, e47, E47, A47, D47, U47, st47⟩ := newO X4 hx hZ hown (hw _ (List.mem_of_getElem? (i := 46) rfl)) (hw _ (List.mem_of_getElem? (i := 47) rfl)) (hw _ (List.mem_of_getElem? (i := 48) rfl)) e4 (g := (mkF m 41 #[iv p1, iv p2, iv p3, iv p4, rv w_WEST, iv (1 : Int32), .unset, .unset, .unset, .unset, .unset] [])) rfl (hb hby at_41) (by decide) (by decide)
      obtain ⟨b47, g47⟩ : ∃ z, z = h0.size := ⟨_, rfl⟩
      rw [← g47] at A47 D47 U47 st47
      have O47 := O0.ext E47
      have i47_value : Fld Z h47 b47 "java/lang/String" "value" "[B" .null := D47 (Or.inr (hw _ (List.mem_of_getElem? (i := 60) rfl))) (ty := (.array .byte)) (by decide)
      have i47_coder : Fld Z h47 b47 "java/lang/String" "coder" "B" (.int (0 : Int32)) := D47 (Or.inr (hw _ (List.mem_of_getElem? (i := 61) rfl))) (ty := .byte) (by decide)
      have k48 : Way p e below S0 T47 (mkF m 44 #[iv p1, iv p2, iv p3, iv p4, rv w_WEST, iv (1 : Int32), .unset, .unset, .unset, .unset, .unset] [(.ref b47)]) := fun t k => k46 t (st47 _ k)
      have k49 : Way p e below S0 T47 (mkF m 46 #[iv p1, iv p2, iv p3, iv p4, rv w_WEST, iv (1 : Int32), .unset, .unset, .unset, .unset, .unset] [(.int (0 : Int32)), (.ref b47), (.ref b47)]) := by
        intro t k
        refine k48 t ?_
        refine XS.dup X47.here hx rfl (hb hby at_44) rfl rfl ?_
        show Steps p.tables e below (T47.setTop (mkF m 45 #[iv p1, iv p2, iv p3, iv p4, rv w_WEST, iv (1 : Int32), .unset, .unset, .unset, .unset, .unset] [(.ref b47), (.ref b47)])) _
        refine XS.iconst X47.here hx rfl (hb hby at_45) ?_
        show Steps p.tables e below (T47.setTop (mkF m 46 #[iv p1, iv p2, iv p3, iv p4, rv w_WEST, iv (1 : Int32), .unset, .unset, .unset, .unset, .unset] [(.int (0 : Int32)), (.ref b47), (.ref b47)])) _
        exact k
      obtain ⟨T50, h50, c50, X50, e50, E50, A50, B50, st50⟩ := newPE X47 hx hZ (hw _ (List.mem_of_getElem? (i := 49) rfl)) e47 (g := (mkF m 46 #[iv p1, iv p2, iv p3, iv p4, rv w_WEST, iv (1 : Int32), .unset, .unset, .unset, .unset, .unset] [(.int (0 : Int32)), (.ref b47), (.ref b47)])) rfl (hb hby at_46) rfl (by decide) (cap := 0) (by decide) (by decide) (by decide) (by decide) (ad := "[C") (by decide)
      obtain ⟨b50, g50⟩ : ∃ z, z = h47.size := ⟨_, rfl⟩
      rw [← g50] at A50 B50 st50
      have O50 := O47.ext E50
      have v50 : Arv Z h50 b50 c50 .char (0 : Int32) [] (.int (0 : Int32)) := (Arv.new A50 (by decide)).pad (pad_rep [] (.int (0 : Int32)) 0)
      have k51 : Way p e below S0 T50 (mkF m 48 #[iv p1, iv p2, iv p3, iv p4, rv w_WEST, iv (1 : Int32), .unset, .unset, .unset, .unset, .unset] [(.ref b50), (.ref b47), (.ref b47)]) := fun t k => k49 t (st50 _ k)
      have f52 : Exa Z h50 b47 "java/lang/String" := (A47.ext E50)
      have f53 : Fld Z h50 b47 "java/lang/String" "value" "[B" .null := (i47_value.ext E50)
      have f54 : Fld Z h50 b47 "java/lang/String" "coder" "B" (.int (0 : Int32)) := (i47_coder.ext E50)
      have ge55 : n0 ≤ b47 := Nat.le_trans (own_old O0) (Nat.le_of_eq g47.symm)
      obtain ⟨_, _, ⟨T56, L56, kk56, nn56⟩, -, Xr56, hSr56, hgr56, ⟨Lc56, hQ56, l56, y56, z56⟩, st56⟩ := X50.specialBackS hx (y := (⟨"java/lang/String", "<init>", "([C)V"⟩ : MethodName)) rfl hown (mvT hZ (hw _ (List.mem_of_getElem? (i := 50) rfl))) (mvT hZ (hw _ (List.mem_of_getElem? (i := 51) rfl))) (mvT hZ (hw _ (List.mem_of_getElem? (i := 52) rfl))) (by decide) (own_backI (W := 1) (einit l Z a0 hw [] w_EAST w_WEST wCS G b47 b50 c50 h50 n0 O50 (f52 : Exa Z h50 b47 "java/lang/String") (f53 : Fld Z h50 b47 "java/lang/String" "value" "[B" .null) (f54 : Fld Z h50 b47 "java/lang/String" "coder" "B" (.int (0 : Int32))) (ge55 : n0 ≤ b47) (v50 : Arv Z h50 b50 c50 .char (0 : Int32) [] (.int (0 : Int32))) (hh7 : Jvm.Lit.constHeld Z "java/lang/String" 7) (hcw : Jvm.Lit.compactW.before a0 Z = true)) hZ (hw _ (List.mem_of_getElem? (i := 52) rfl)) (hw _ (List.mem_of_getElem? (i := 48) rfl)) (by decide) (by decide) I0) (g := (mkF m 48 #[iv p1, iv p2, iv p3, iv p4, rv w_WEST, iv (1 : Int32), .unset, .unset, .unset, .unset, .unset] [(.ref b50), (.ref b47), (.ref b47)])) rfl (by rw [hml]; rfl) (Steps.refl _) (a := b47) (argsL := [(.ref b50)]) (rest := [(.ref b47)]) (lenOf pd_14 rfl) rfl (by show 2 * 0 + _ ≤ _; exact Nat.le_of_eq rfl) (hb hby at_48) (fun _ _ => ⟨rfl, e50, (by decide : 2 + 2 ≤ _), (by decide : 4 + 4 ≤ _)⟩)
      dsimp only [Pt.U, Pt.locs, Pt.cells, Pt.slots] at Xr56 hSr56 hgr56 l56 y56 z56 st56 hQ56
      subst l56 y56 z56
      obtain ⟨X56, hS56, hZ56, ho56⟩ := rebS (s := s) (vm0 := s.vm) hS0 (by rw [e50]; exact (Nat.zero_le _)) Xr56 hSr56 hgr56 hZ hown
      have hZ := hZ56
      have hown := ho56
      obtain ⟨rfl, Nq56, Kq56, po56_0⟩ := hQ56
      have N56 := Fr.app N0 Nq56
      have O56 := O50.keep Kq56 (allS ge55 all0)
      have k57 : Way p e below S0 T56 (mkF m 51 #[iv p1, iv p2, iv p3, iv p4, rv w_WEST, iv (1 : Int32), .unset, .unset, .unset, .unset, .unset] [(.ref b47)]) := fun t k => k51 t (st56.trans k)
      have k58 : Way p e below S0 T56 (mkF m 122 #[iv p1, iv p2, iv p3, iv p4, rv w_WEST, iv (1 : Int32), rv b47, .unset, .unset, .unset, .unset] []) := by
        intro t k
        refine k57 t ?_
        refine XS.astore X56.here hx rfl (hb hby at_51) rfl rfl (l' := #[iv p1, iv p2, iv p3, iv p4, rv w_WEST, iv (1 : Int32), rv b47, .unset, .unset, .unset, .unset]) rfl ?_
        show Steps p.tables e below (T56.setTop (mkF m 53 #[iv p1, iv p2, iv p3, iv p4, rv w_WEST, iv (1 : Int32), rv b47, .unset, .unset, .unset, .unset] [])) _
        refine XS.goto X56.here hx rfl (pc0 := 53) (pc' := 122) rfl (hb hby at_53) (by decide) (by decide) ?_
        show Steps p.tables e below (T56.setTop (mkF m 122 #[iv p1, iv p2, iv p3, iv p4, rv w_WEST, iv (1 : Int32), rv b47, .unset, .unset, .unset, .unset] [])) _
        exact k
      obtain ⟨T59, h59, X59, e59, E59, A59, D59, U59, st59⟩ := newO X56 hx hZ hown (hw _ (List.mem_of_getElem? (i := 3) rfl)) (hw _ (List.mem_of_getElem? (i := 4) rfl)) (hw _ (List.mem_of_getElem? (i := 5) rfl)) rfl (g := (mkF m 122 #[iv p1, iv p2, iv p3, iv p4, rv w_WEST, iv (1 : Int32), rv b47, .unset, .unset, .unset, .unset] [])) rfl (hb hby at_122) (by decide) (by decide)
      obtain ⟨b59, g59⟩ : ∃ z, z = T56.heap.size := ⟨_, rfl⟩
      rw [← g59] at A59 D59 U59 st59
      have O59 := O56.ext E59
      have i59_block : Fld Z h59 b59 "com/example/aspectwise/aspectwise/engine/BlockEnd" "block" "Ljava/lang/String;" .null := D59 (Or.inr (hw _ (List.mem_of_getElem? (i := 18) rfl))) (ty := (.object "java/lang/String")) (by decide)
      have i59_side : Fld Z h59 b59 "com/example/aspectwise/aspectwise/engine/BlockEnd" "side" "Lcom/example/aspectwise/aspectwise/engine/BlockEnd$Side;" .null := D59 (Or.inr (hw _ (List.mem_of_getElem? (i := 20) rfl))) (ty := (.object "com/example/aspectwise/aspectwise/engine/BlockEnd$Side")) (by decide)
      have k60 : Way p e below S0 T59 (mkF m 125 #[iv p1, iv p2, iv p3, iv p4, rv w_WEST, iv (1 : Int32), rv b47, .unset, .unset, .unset, .unset] [(.ref b59)]) := fun t k => k58 t (st59 _ k)
      have k61 : Way p e below S0 T59 (mkF m 130 #[iv p1, iv p2, iv p3, iv p4, rv w_WEST, iv (1 : Int32), rv b47, .unset, .unset, .unset, .unset] [(.ref w_WEST), (.ref b47), (.ref b59), (.ref b59)]) := by
        intro t k
        refine k60 t ?_
        refine XS.dup X59.here hx rfl (hb hby at_125) rfl rfl ?_
        show Steps p.tables e below (T59.setTop (mkF m 126 #[iv p1, iv p2, iv p3, iv p4, rv w_WEST, iv (1 : Int32), rv b47, .unset, .unset, .unset, .unset] [(.ref b59), (.ref b59)])) _
        refine XS.aload X59.here hx rfl (hb hby at_126) rfl rfl ?_
        show Steps p.tables e below (T59.setTop (mkF m 128 #[iv p1, iv p2, iv p3, iv p4, rv w_WEST, iv (1 : Int32), rv b47, .unset, .unset, .unset, .unset] [(.ref b47), (.ref b59), (.ref b59)])) _
        refine XS.aload X59.here hx rfl (hb hby at_128) rfl rfl ?_
        show Steps p.tables e below (T59.setTop (mkF m 130 #[iv p1, iv p2, iv p3, iv p4, rv w_WEST, iv (1 : Int32), rv b47, .unset, .unset, .unset, .unset] [(.ref w_WEST), (.ref b47), (.ref b59), (.ref b59)])) _
        exact k
      have ge62 : n0 ≤ b59 := Nat.le_trans (own_old O56) (Nat.le_of_eq g59.symm)
      obtain ⟨_, _, ⟨T63, L63, kk63, nn63⟩, -, X63, ⟨Lc63, hQ63, l63, y63, z63⟩, st63⟩ := X59.specialBack hx (y := (⟨"com/example/aspectwise/aspectwise/engine/BlockEnd", "<init>", "(Ljava/lang/String;Lcom/example/aspectwise/aspectwise/engine/BlockEnd$Side;)V"⟩ : MethodName)) rfl hown (mvT hZ (hw _ (List.mem_of_getElem? (i := 6) rfl))) (mvT hZ (hw _ (List.mem_of_getElem? (i := 7) rfl))) (mvT hZ (hw _ (List.mem_of_getElem? (i := 8) rfl))) (by decide) (backOf (W := 1) (bi1 l Z a0 hw [] w_EAST w_WEST wCS G b59 b47 w_WEST h59 n0 O59 (A59 : Exa Z h59 b59 "com/example/aspectwise/aspectwise/engine/BlockEnd") (i59_block : Fld Z h59 b59 "com/example/aspectwise/aspectwise/engine/BlockEnd" "block" "Ljava/lang/String;" .null) (i59_side : Fld Z h59 b59 "com/example/aspectwise/aspectwise/engine/BlockEnd" "side" "Lcom/example/aspectwise/aspectwise/engine/BlockEnd$Side;" .null) (ge62 : n0 ≤ b59)) hZ (hw _ (List.mem_of_getElem? (i := 8) rfl)) (hw _ (List.mem_of_getElem? (i := 5) rfl)) (by decide) (by decide)) (g := (mkF m 130 #[iv p1, iv p2, iv p3, iv p4, rv w_WEST, iv (1 : Int32), rv b47, .unset, .unset, .unset, .unset] [(.ref w_WEST), (.ref b47), (.ref b59), (.ref b59)])) rfl (by rw [hml]; rfl) (Steps.refl _) (a := b59) (argsL := [(.ref b47), (.ref w_WEST)]) (rest := [(.ref b59)]) (lenOf pd_8 rfl) rfl (by show 2 * 0 + _ ≤ _; exact Nat.le_of_eq rfl) (hb hby at_130) (fun _ _ => ⟨rfl, e59, (by decide : 5 + 0 ≤ _), (by decide : 10 + 0 ≤ _)⟩)
      dsimp only [Pt.U, Pt.locs, Pt.cells, Pt.slots] at X63 l63 y63 z63 st63 hQ63
      subst l63 y63 z63
      obtain ⟨rfl, Nq63, Kq63, po63_0, po63_1, po63_2⟩ := hQ63
      have N63 := Fr.app N56 Nq63
      have O63 := O59.keep Kq63 (allS ge62 all0)
      have k64 : Way p e below S0 T63 (mkF m 133 #[iv p1, iv p2, iv p3, iv p4, rv w_WEST, iv (1 : Int32), rv b47, .unset, .unset, .unset, .unset] [(.ref b59)]) := fun t k => k61 t (st63.trans k)
      have k65 : Way p e below S0 T63 (mkF m 137 #[iv p1, iv p2, iv p3, iv p4, rv w_WEST, iv (1 : Int32), rv b47, rv b59, .unset, .unset, .unset] [(.ref b59)]) := by
        intro t k
        refine k64 t ?_
        refine XS.astore X63.here hx rfl (hb hby at_133) rfl rfl (l' := #[iv p1, iv p2, iv p3, iv p4, rv w_WEST, iv (1 : Int32), rv b47, rv b59, .unset, .unset, .unset]) rfl ?_
        show Steps p.tables e below (T63.setTop (mkF m 135 #[iv p1, iv p2, iv p3, iv p4, rv w_WEST, iv (1 : Int32), rv b47, rv b59, .unset, .unset, .unset] [])) _
        refine XS.aload X63.here hx rfl (hb hby at_135) rfl rfl ?_
        show Steps p.tables e below (T63.setTop (mkF m 137 #[iv p1, iv p2, iv p3, iv p4, rv w_WEST, iv (1 : Int32), rv b47, rv b59, .unset, .unset, .unset] [(.ref b59)])) _
        exact k
      obtain ⟨cq66, kq66, qq66a, qq66b, qq66c⟩ := isOf hZ rfl po63_0
      obtain ⟨_, _, ⟨T66, L66, kk66, nn66⟩, -, X66, ⟨Lc66, hQ66, l66, y66, z66⟩, st66⟩ := X63.virtualBack hx (y := (⟨"com/example/aspectwise/aspectwise/engine/BlockEnd", "opposite", "()Lcom/example/aspectwise/aspectwise/engine/BlockEnd;"⟩ : MethodName)) (z := (⟨"com/example/aspectwise/aspectwise/engine/BlockEnd", "opposite", "()Lcom/example/aspectwise/aspectwise/engine/BlockEnd;"⟩ : MethodName)) hown (mvT hZ (hw _ (List.mem_of_getElem? (i := 21) rfl))) (mvT hZ (hw _ (List.mem_of_getElem? (i := 22) rfl))) (notFace_of_selects (args := #[]) (mvT hZ (hw _ (List.mem_of_getElem? (i := 24) rfl)))) (mvT hZ (hw _ (List.mem_of_getElem? (i := 24) rfl))) (mvT hZ (hw _ (List.mem_of_getElem? (i := 23) rfl))) (by decide) (backOf (W := 0) (opp0WEST l Z a0 hw [] w_EAST w_WEST wCS G b59 b47 T63.heap n0 O63 (po63_1 : Fld Z T63.heap b59 "com/example/aspectwise/aspectwise/engine/BlockEnd" "block" "Ljava/lang/String;" (.ref b47)) (po63_2 : Fld Z T63.heap b59 "com/example/aspectwise/aspectwise/engine/BlockEnd" "side" "Lcom/example/aspectwise/aspectwise/engine/BlockEnd$Side;" (.ref w_WEST))) hZ (hw _ (List.mem_of_getElem? (i := 25) rfl)) (hw _ (List.mem_of_getElem? (i := 5) rfl)) (by decide) (by decide)) qq66a qq66c (g := (mkF m 137 #[iv p1, iv p2, iv p3, iv p4, rv w_WEST, iv (1 : Int32), rv b47, rv b59, .unset, .unset, .unset] [(.ref b59)])) rfl (by rw [hml]; rfl) (Steps.refl _) (argsL := []) (rest := []) (lenOf pd_10 rfl) rfl (by show 2 * 0 + _ ≤ _; exact Nat.le_of_eq rfl) (hb hby at_137) (fun _ _ => ⟨rfl, rfl, (by decide : 5 + 1 ≤ _), (by decide : 10 + 2 ≤ _)⟩)
      dsimp only [Pt.U, Pt.locs, Pt.cells, Pt.slots] at X66 l66 y66 z66 st66 hQ66
      subst l66 y66 z66
      obtain ⟨b1_66, rfl, Nq66, Kq66, po66_0, po66_1, po66_2, po66_3⟩ := hQ66
      have N66 := Fr.app N63 Nq66
      have O66 := O63.keep Kq66 all0
      have k67 : Way p e below S0 T66 (mkF m 140 #[iv p1, iv p2, iv p3, iv p4, rv w_WEST, iv (1 : Int32), rv b47, rv b59, .unset, .unset, .unset] [(.ref b1_66)]) := fun t k => k65 t (st66.trans k)
      have k68 : Way p e below S0 T66 (mkF m 151 #[iv p1, iv p2, iv p3, iv p4, rv w_WEST, iv (1 : Int32), rv b47, rv b59, rv b1_66, .unset, .unset] [(.ref w_WEST)]) := by
        intro t k
        refine k67 t ?_
        refine XS.astore X66.here hx rfl (hb hby at_140) rfl rfl (l' := #[iv p1, iv p2, iv p3, iv p4, rv w_WEST, iv (1 : Int32), rv b47, rv b59, rv b1_66, .unset, .unset]) rfl ?_
        show Steps p.tables e below (T66.setTop (mkF m 142 #[iv p1, iv p2, iv p3, iv p4, rv w_WEST, iv (1 : Int32), rv b47, rv b59, rv b1_66, .unset, .unset] [])) _
        refine XS.aload X66.here hx rfl (hb hby at_142) rfl rfl ?_
        show Steps p.tables e below (T66.setTop (mkF m 144 #[iv p1, iv p2, iv p3, iv p4, rv w_WEST, iv (1 : Int32), rv b47, rv b59, rv b1_66, .unset, .unset] [(.ref b1_66)])) _
        refine XS.ifnonnullYes X66.here hx rfl (pc0 := 144) (pc' := 149) rfl (hb hby at_144) rfl (by decide) (by decide) ?_
        show Steps p.tables e below (T66.setTop (mkF m 149 #[iv p1, iv p2, iv p3, iv p4, rv w_WEST, iv (1 : Int32), rv b47, rv b59, rv b1_66, .unset, .unset] [])) _
        refine XS.aload X66.here hx rfl (hb hby at_149) rfl rfl ?_
        show Steps p.tables e below (T66.setTop (mkF m 151 #[iv p1, iv p2, iv p3, iv p4, rv w_WEST, iv (1 : Int32), rv b47, rv b59, rv b1_66, .unset, .unset] [(.ref w_WEST)])) _
        exact k
      obtain ⟨T69, X69, e69, st69⟩ := getS2 X66 hx hZ hown (host := "") (Or.inl (hw _ (List.mem_of_getElem? (i := 0) rfl))) Via.refl rfl (S_w_EAST.ext O66.2) (g := (mkF m 151 #[iv p1, iv p2, iv p3, iv p4, rv w_WEST, iv (1 : Int32), rv b47, rv b59, rv b1_66, .unset, .unset] [(.ref w_WEST)])) rfl (hb hby at_151)
      have k70 : Way p e below S0 T69 (mkF m 154 #[iv p1, iv p2, iv p3, iv p4, rv w_WEST, iv (1 : Int32), rv b47, rv b59, rv b1_66, .unset, .unset] [(.ref w_EAST), (.ref w_WEST)]) := fun t k => k68 t (st69 _ k)
      have k71 : Way p e below S0 T69 (mkF m 165 #[iv p1, iv p2, iv p3, iv p4, rv w_WEST, iv (1 : Int32), rv b47, rv b59, rv b1_66, .unset, .unset] []) := by
        intro t k
        refine k70 t ?_
        refine Jvm.RoadKit.acmp (g := (mkF m 154 #[iv p1, iv p2, iv p3, iv p4, rv w_WEST, iv (1 : Int32), rv b47, rv b59, rv b1_66, .unset, .unset] [(.ref w_EAST), (.ref w_WEST)])) X69 hx rfl rfl rfl (pc0 := 154) (pc' := 165) (same := false) rfl (hb hby at_154) rfl (decide_eq_false fun q => absurd (Value.ref.inj q) (F_w_WEST_ordinal.ne F_w_EAST_ordinal (by decide))) (by decide) (by decide) ?_
        show Steps p.tables e below (T69.setTop (mkF m 165 #[iv p1, iv p2, iv p3, iv p4, rv w_WEST, iv (1 : Int32), rv b47, rv b59, rv b1_66, .unset, .unset] [])) _
        exact k
      obtain ⟨T72, X72, e72, st72⟩ := getS2 X69 hx hZ hown (host := "") (Or.inl (hw _ (List.mem_of_getElem? (i := 0) rfl))) Via.refl e69 (S_w_EAST.ext O66.2) (g := (mkF m 165 #[iv p1, iv p2, iv p3, iv p4, rv w_WEST, iv (1 : Int32), rv b47, rv b59, rv b1_66, .unset, .unset] [])) rfl (hb hby at_165)
      have k73 : Way p e below S0 T72 (mkF m 168 #[iv p1, iv p2, iv p3, iv p4, rv w_WEST, iv (1 : Int32), rv b47, rv b59, rv b1_66, .unset, .unset] [(.ref w_EAST)]) := fun t k => k71 t (st72 _ k)
      have k74 : Way p e below S0 T72 (mkF m 172 #[iv p1, iv p2, iv p3, iv p4, rv w_WEST, iv (1 : Int32), rv b47, rv b59, rv b1_66, rv w_EAST, .unset] [(.ref b1_66)]) := by
        intro t k
        refine k73 t ?_
        refine XS.astore X72.here hx rfl (hb hby at_168) rfl rfl (l' := #[iv p1, iv p2, iv p3, iv p4, rv w_WEST, iv (1 : Int32), rv b47, rv b59, rv b1_66, rv w_EAST, .unset]) rfl ?_
        show Steps p.tables e below (T72.setTop (mkF m 170 #[iv p1, iv p2, iv p3, iv p4, rv w_WEST, iv (1 : Int32), rv b47, rv b59, rv b1_66, rv w_EAST, .unset] [])) _
        refine XS.aload X72.here hx rfl (hb hby at_170) rfl rfl ?_
        show Steps p.tables e below (T72.setTop (mkF m 172 #[iv p1, iv p2, iv p3, iv p4, rv w_WEST, iv (1 : Int32), rv b47, rv b59, rv b1_66, rv w_EAST, .unset] [(.ref b1_66)])) _
        exact k
      obtain ⟨cq75, kq75, qq75a, qq75b, qq75c⟩ := isOf hZ e72 po66_1
      obtain ⟨_, _, ⟨T75, L75, kk75, nn75⟩, -, X75, ⟨Lc75, hQ75, l75, y75, z75⟩, st75⟩ := X72.virtualBack hx (y := (⟨"com/example/aspectwise/aspectwise/engine/BlockEnd", "side", "()Lcom/example/aspectwise/aspectwise/engine/BlockEnd$Side;"⟩ : MethodName)) (z := (⟨"com/example/aspectwise/aspectwise/engine/BlockEnd", "side", "()Lcom/example/aspectwise/aspectwise/engine/BlockEnd$Side;"⟩ : MethodName)) hown (mvT hZ (hw _ (List.mem_of_getElem? (i := 32) rfl))) (mvT hZ (hw _ (List.mem_of_getElem? (i := 33) rfl))) (notFace_of_selects (args := #[]) (mvT hZ (hw _ (List.mem_of_getElem? (i := 35) rfl)))) (mvT hZ (hw _ (List.mem_of_getElem? (i := 35) rfl))) (mvT hZ (hw _ (List.mem_of_getElem? (i := 34) rfl))) (by decide) (backOf (W := 0) (sid l Z a0 hw [] w_EAST w_WEST wCS G b1_66 w_EAST T66.heap n0 O66 (po66_3 : Fld Z T66.heap b1_66 "com/example/aspectwise/aspectwise/engine/BlockEnd" "side" "Lcom/example/aspectwise/aspectwise/engine/BlockEnd$Side;" (.ref w_EAST))) hZ (hw _ (List.mem_of_getElem? (i := 36) rfl)) (hw _ (List.mem_of_getElem? (i := 5) rfl)) (by decide) (by decide)) qq75a qq75c (g := (mkF m 172 #[iv p1, iv p2, iv p3, iv p4, rv w_WEST, iv (1 : Int32), rv b47, rv b59, rv b1_66, rv w_EAST, .unset] [(.ref b1_66)])) rfl (by rw [hml]; rfl) (Steps.refl _) (argsL := []) (rest := []) (lenOf pd_11 rfl) rfl (by show 2 * 0 + _ ≤ _; exact Nat.le_of_eq rfl) (hb hby at_172) (fun _ _ => ⟨rfl, e72, (by decide : 6 + 0 ≤ _), (by decide : 12 + 0 ≤ _)⟩)
      dsimp only [Pt.U, Pt.locs, Pt.cells, Pt.slots] at X75 l75 y75 z75 st75 hQ75
      subst l75 y75 z75
      obtain ⟨rfl, Nq75, e75⟩ := hQ75
      have N75 := Fr.app N66 Nq75
      have k76 : Way p e below S0 T75 (mkF m 175 #[iv p1, iv p2, iv p3, iv p4, rv w_WEST, iv (1 : Int32), rv b47, rv b59, rv b1_66, rv w_EAST, .unset] [(.ref w_EAST)]) := fun t k => k74 t (st75.trans k)
      have k77 : Way p e below S0 T75 (mkF m 186 #[iv p1, iv p2, iv p3, iv p4, rv w_WEST, iv (1 : Int32), rv b47, rv b59, rv b1_66, rv w_EAST, .unset] [(.ref b1_66), (.ref b47)]) := by
        intro t k
        refine k76 t ?_
        refine XS.aload X75.here hx rfl (hb hby at_175) rfl rfl ?_
        show Steps p.tables e below (T75.setTop (mkF m 177 #[iv p1, iv p2, iv p3, iv p4, rv w_WEST, iv (1 : Int32), rv b47, rv b59, rv b1_66, rv w_EAST, .unset] [(.ref w_EAST), (.ref w_EAST)])) _
        refine Jvm.RoadKit.acmp (g := (mkF m 177 #[iv p1, iv p2, iv p3, iv p4, rv w_WEST, iv (1 : Int32), rv b47, rv b59, rv b1_66, rv w_EAST, .unset] [(.ref w_EAST), (.ref w_EAST)])) X75 hx rfl rfl rfl (pc0 := 177) (pc' := 182) (same := true) rfl (hb hby at_177) rfl (decide_eq_true rfl) (by decide) (by decide) ?_
        show Steps p.tables e below (T75.setTop (mkF m 182 #[iv p1, iv p2, iv p3, iv p4, rv w_WEST, iv (1 : Int32), rv b47, rv b59, rv b1_66, rv w_EAST, .unset] [])) _
        refine XS.aload X75.here hx rfl (hb hby at_182) rfl rfl ?_
        show Steps p.tables e below (T75.setTop (mkF m 184 #[iv p1, iv p2, iv p3, iv p4, rv w_WEST, iv (1 : Int32), rv b47, rv b59, rv b1_66, rv w_EAST, .unset] [(.ref b47)])) _
        refine XS.aload X75.here hx rfl (hb hby at_184) rfl rfl ?_
        show Steps p.tables e below (T75.setTop (mkF m 186 #[iv p1, iv p2, iv p3, iv p4, rv w_WEST, iv (1 : Int32), rv b47, rv b59, rv b1_66, rv w_EAST, .unset] [(.ref b1_66), (.ref b47)])) _
        exact k
      obtain ⟨cq78, kq78, qq78a, qq78b, qq78c⟩ := isOf hZ e75 po66_1
      obtain ⟨_, _, ⟨T78, L78, kk78, nn78⟩, -, X78, ⟨Lc78, hQ78, l78, y78, z78⟩, st78⟩ := X75.virtualBack hx (y := (⟨"com/example/aspectwise/aspectwise/engine/BlockEnd", "block", "()Ljava/lang/String;"⟩ : MethodName)) (z := (⟨"com/example/aspectwise/aspectwise/engine/BlockEnd", "block", "()Ljava/lang/String;"⟩ : MethodName)) hown (mvT hZ (hw _ (List.mem_of_getElem? (i := 37) rfl))) (mvT hZ (hw _ (List.mem_of_getElem? (i := 38) rfl))) (notFace_of_selects (args := #[]) (mvT hZ (hw _ (List.mem_of_getElem? (i := 40) rfl)))) (mvT hZ (hw _ (List.mem_of_getElem? (i := 40) rfl))) (mvT hZ (hw _ (List.mem_of_getElem? (i := 39) rfl))) (by decide) (backOf (W := 1) (blk0 l Z a0 hw [] w_EAST w_WEST wCS G b1_66 b47 T66.heap n0 O66 (po66_2 : Fld Z T66.heap b1_66 "com/example/aspectwise/aspectwise/engine/BlockEnd" "block" "Ljava/lang/String;" (.ref b47))) hZ (hw _ (List.mem_of_getElem? (i := 41) rfl)) (hw _ (List.mem_of_getElem? (i := 5) rfl)) (by decide) (by decide)) qq78a qq78c (g := (mkF m 186 #[iv p1, iv p2, iv p3, iv p4, rv w_WEST, iv (1 : Int32), rv b47, rv b59, rv b1_66, rv w_EAST, .unset] [(.ref b1_66), (.ref b47)])) rfl (by rw [hml]; rfl) (Steps.refl _) (argsL := []) (rest := [(.ref b47)]) (lenOf pd_12 rfl) rfl (by show 2 * 0 + _ ≤ _; exact Nat.le_of_eq rfl) (hb hby at_186) (fun _ _ => ⟨rfl, e75, (by decide : 6 + 0 ≤ _), (by decide : 12 + 0 ≤ _)⟩)
      dsimp only [Pt.U, Pt.locs, Pt.cells, Pt.slots] at X78 l78 y78 z78 st78 hQ78
      subst l78 y78 z78
      obtain ⟨rfl, Nq78, e78⟩ := hQ78
      have N78 := Fr.app N75 Nq78
      have k79 : Way p e below S0 T78 (mkF m 189 #[iv p1, iv p2, iv p3, iv p4, rv w_WEST, iv (1 : Int32), rv b47, rv b59, rv b1_66, rv w_EAST, .unset] [(.ref b47), (.ref b47)]) := fun t k => k77 t (st78.trans k)
      have f80 : Exa Z T66.heap b47 "java/lang/String" := (((po56_0.ext E59).keep Kq63).keep Kq66)
      obtain ⟨_, _, ⟨T81, L81, kk81, nn81⟩, -, X81, ⟨Lc81, hQ81, l81, y81, z81⟩, st81⟩ := Jvm.LawKit.callS X78 hx (y := (⟨"com/example/aspectwise/aspectwise/engine/BlockEndOppositePinLaw", "sameBlock", "(Ljava/lang/String;Ljava/lang/String;)Z"⟩ : MethodName)) hown (mvT hZ (hw _ (List.mem_of_getElem? (i := 42) rfl))) (mvT hZ (hw _ (List.mem_of_getElem? (i := 43) rfl))) (mvT hZ (hw _ (List.mem_of_getElem? (i := 44) rfl))) (mvT hZ (hw _ (List.mem_of_getElem? (i := 45) rfl))) (by decide) (backOf (W := 0) (sb1 l Z a0 hw [] w_EAST w_WEST wCS G b47 T66.heap n0 O66 (f80 : Exa Z T66.heap b47 "java/lang/String")) hZ (hw _ (List.mem_of_getElem? (i := 45) rfl)) (hw _ (List.mem_of_getElem? (i := 44) rfl)) (by decide) (by decide)) (g := (mkF m 189 #[iv p1, iv p2, iv p3, iv p4, rv w_WEST, iv (1 : Int32), rv b47, rv b59, rv b1_66, rv w_EAST, .unset] [(.ref b47), (.ref b47)])) rfl (by rw [hml]; rfl) (argsL := [(.ref b47), (.ref b47)]) (rest := []) (lenOf pd_13 rfl) rfl (by show 2 * 0 + _ ≤ _; exact Nat.le_of_eq rfl) (hb hby at_189) (fun _ _ => ⟨rfl, e78, (by decide : 6 + 0 ≤ _), (by decide : 12 + 0 ≤ _)⟩)
      dsimp only [Pt.U, Pt.locs, Pt.cells, Pt.slots] at X81 l81 y81 z81 st81 hQ81
      subst l81 y81 z81
      obtain ⟨rfl, Nq81, e81⟩ := hQ81
      have N81 := Fr.app N78 Nq81
      have k82 : Way p e below S0 T81 (mkF m 192 #[iv p1, iv p2, iv p3, iv p4, rv w_WEST, iv (1 : Int32), rv b47, rv b59, rv b1_66, rv w_EAST, .unset] [(.int (1 : Int32))]) := fun t k => k79 t (st81 _ k)
      have k83 : Way p e below S0 T81 (mkF m 199 #[iv p1, iv p2, iv p3, iv p4, rv w_WEST, iv (1 : Int32), rv b47, rv b59, rv b1_66, rv w_EAST, .unset] [(.ref b1_66)]) := by
        intro t k
        refine k82 t ?_
        refine XS.ifYes X81.here hx rfl (pc0 := 192) (pc' := 197) rfl (hb hby at_192) rfl ((if0 _ _).trans (feq ((by decide) : ¬ ((1 : Int32) = (0 : Int32)))).2) (by decide) (by decide) ?_
        show Steps p.tables e below (T81.setTop (mkF m 197 #[iv p1, iv p2, iv p3, iv p4, rv w_WEST, iv (1 : Int32), rv b47, rv b59, rv b1_66, rv w_EAST, .unset] [])) _
        refine XS.aload X81.here hx rfl (hb hby at_197) rfl rfl ?_
        show Steps p.tables e below (T81.setTop (mkF m 199 #[iv p1, iv p2, iv p3, iv p4, rv w_WEST, iv (1 : Int32), rv b47, rv b59, rv b1_66, rv w_EAST, .unset] [(.ref b1_66)])) _
        exact k
      obtain ⟨cq84, kq84, qq84a, qq84b, qq84c⟩ := isOf hZ e81 po66_1
      obtain ⟨_, _, ⟨T84, L84, kk84, nn84⟩, -, X84, ⟨Lc84, hQ84, l84, y84, z84⟩, st84⟩ := X81.virtualBack hx (y := (⟨"com/example/aspectwise/aspectwise/engine/BlockEnd", "opposite", "()Lcom/example/aspectwise/aspectwise/engine/BlockEnd;"⟩ : MethodName)) (z := (⟨"com/example/aspectwise/aspectwise/engine/BlockEnd", "opposite", "()Lcom/example/aspectwise/aspectwise/engine/BlockEnd;"⟩ : MethodName)) hown (mvT hZ (hw _ (List.mem_of_getElem? (i := 21) rfl))) (mvT hZ (hw _ (List.mem_of_getElem? (i := 22) rfl))) (notFace_of_selects (args := #[]) (mvT hZ (hw _ (List.mem_of_getElem? (i := 24) rfl)))) (mvT hZ (hw _ (List.mem_of_getElem? (i := 24) rfl))) (mvT hZ (hw _ (List.mem_of_getElem? (i := 23) rfl))) (by decide) (backOf (W := 0) (opp0EAST l Z a0 hw [] w_EAST w_WEST wCS G b1_66 b47 T66.heap n0 O66 (po66_2 : Fld Z T66.heap b1_66 "com/example/aspectwise/aspectwise/engine/BlockEnd" "block" "Ljava/lang/String;" (.ref b47)) (po66_3 : Fld Z T66.heap b1_66 "com/example/aspectwise/aspectwise/engine/BlockEnd" "side" "Lcom/example/aspectwise/aspectwise/engine/BlockEnd$Side;" (.ref w_EAST))) hZ (hw _ (List.mem_of_getElem? (i := 25) rfl)) (hw _ (List.mem_of_getElem? (i := 5) rfl)) (by decide) (by decide)) qq84a qq84c (g := (mkF m 199 #[iv p1, iv p2, iv p3, iv p4, rv w_WEST, iv (1 : Int32), rv b47, rv b59, rv b1_66, rv w_EAST, .unset] [(.ref b1_66)])) rfl (by rw [hml]; rfl) (Steps.refl _) (argsL := []) (rest := []) (lenOf pd_10 rfl) rfl (by show 2 * 0 + _ ≤ _; exact Nat.le_of_eq rfl) (hb hby at_199) (fun _ _ => ⟨rfl, e81, (by decide : 6 + 1 ≤ _), (by decide : 12 + 2 ≤ _)⟩)
      dsimp only [Pt.U, Pt.locs, Pt.cells, Pt.slots] at X84 l84 y84 z84 st84 hQ84
      subst l84 y84 z84
      obtain ⟨b1_84, rfl, Nq84, Kq84, po84_0, po84_1, po84_2, po84_3⟩ := hQ84
      have N84 := Fr.app N81 Nq84
      have O84 := O66.keep Kq84 all0
      have k85 : Way p e below S0 T84 (mkF m 202 #[iv p1, iv p2, iv p3, iv p4, rv w_WEST, iv (1 : Int32), rv b47, rv b59, rv b1_66, rv w_EAST, .unset] [(.ref b1_84)]) := fun t k => k83 t (st84.trans k)
      have k86 : Way p e below S0 T84 (mkF m 213 #[iv p1, iv p2, iv p3, iv p4, rv w_WEST, iv (1 : Int32), rv b47, rv b59, rv b1_66, rv w_EAST, rv b1_84] [(.ref b1_84)]) := by
        intro t k
        refine k85 t ?_
        refine XS.astore X84.here hx rfl (hb hby at_202) rfl rfl (l' := #[iv p1, iv p2, iv p3, iv p4, rv w_WEST, iv (1 : Int32), rv b47, rv b59, rv b1_66, rv w_EAST, rv b1_84]) rfl ?_
        show Steps p.tables e below (T84.setTop (mkF m 204 #[iv p1, iv p2, iv p3, iv p4, rv w_WEST, iv (1 : Int32), rv b47, rv b59, rv b1_66, rv w_EAST, rv b1_84] [])) _
        refine XS.aload X84.here hx rfl (hb hby at_204) rfl rfl ?_
        show Steps p.tables e below (T84.setTop (mkF m 206 #[iv p1, iv p2, iv p3, iv p4, rv w_WEST, iv (1 : Int32), rv b47, rv b59, rv b1_66, rv w_EAST, rv b1_84] [(.ref b1_84)])) _
        refine XS.ifnonnullYes X84.here hx rfl (pc0 := 206) (pc' := 211) rfl (hb hby at_206) rfl (by decide) (by decide) ?_
        show Steps p.tables e below (T84.setTop (mkF m 211 #[iv p1, iv p2, iv p3, iv p4, rv w_WEST, iv (1 : Int32), rv b47, rv b59, rv b1_66, rv w_EAST, rv b1_84] [])) _
        refine XS.aload X84.here hx rfl (hb hby at_211) rfl rfl ?_
        show Steps p.tables e below (T84.setTop (mkF m 213 #[iv p1, iv p2, iv p3, iv p4, rv w_WEST, iv (1 : Int32), rv b47, rv b59, rv b1_66, rv w_EAST, rv b1_84] [(.ref b1_84)])) _
        exact k
      obtain ⟨cq87, kq87, qq87a, qq87b, qq87c⟩ := isOf hZ rfl po84_1
      obtain ⟨_, _, ⟨T87, L87, kk87, nn87⟩, -, X87, ⟨Lc87, hQ87, l87, y87, z87⟩, st87⟩ := X84.virtualBack hx (y := (⟨"com/example/aspectwise/aspectwise/engine/BlockEnd", "side", "()Lcom/example/aspectwise/aspectwise/engine/BlockEnd$Side;"⟩ : MethodName)) (z := (⟨"com/example/aspectwise/aspectwise/engine/BlockEnd", "side", "()Lcom/example/aspectwise/aspectwise/engine/BlockEnd$Side;"⟩ : MethodName)) hown (mvT hZ (hw _ (List.mem_of_getElem? (i := 32) rfl))) (mvT hZ (hw _ (List.mem_of_getElem? (i := 33) rfl))) (notFace_of_selects (args := #[]) (mvT hZ (hw _ (List.mem_of_getElem? (i := 35) rfl)))) (mvT hZ (hw _ (List.mem_of_getElem? (i := 35) rfl))) (mvT hZ (hw _ (List.mem_of_getElem? (i := 34) rfl))) (by decide) (backOf (W := 0) (sid l Z a0 hw [] w_EAST w_WEST wCS G b1_84 w_WEST T84.heap n0 O84 (po84_3 : Fld Z T84.heap b1_84 "com/example/aspectwise/aspectwise/engine/BlockEnd" "side" "Lcom/example/aspectwise/aspectwise/engine/BlockEnd$Side;" (.ref w_WEST))) hZ (hw _ (List.mem_of_getElem? (i := 36) rfl)) (hw _ (List.mem_of_getElem? (i := 5) rfl)) (by decide) (by decide)) qq87a qq87c (g := (mkF m 213 #[iv p1, iv p2, iv p3, iv p4, rv w_WEST, iv (1 : Int32), rv b47, rv b59, rv b1_66, rv w_EAST, rv b1_84] [(.ref b1_84)])) rfl (by rw [hml]; rfl) (Steps.refl _) (argsL := []) (rest := []) (lenOf pd_11 rfl) rfl (by show 2 * 0 + _ ≤ _; exact Nat.le_of_eq rfl) (hb hby at_213) (fun _ _ => ⟨rfl, rfl, (by decide : 7 + 0 ≤ _), (by decide : 14 + 0 ≤ _)⟩)
      dsimp only [Pt.U, Pt.locs, Pt.cells, Pt.slots] at X87 l87 y87 z87 st87 hQ87
      subst l87 y87 z87
      obtain ⟨rfl, Nq87, e87⟩ := hQ87
      have N87 := Fr.app N84 Nq87
      have k88 : Way p e below S0 T87 (mkF m 216 #[iv p1, iv p2, iv p3, iv p4, rv w_WEST, iv (1 : Int32), rv b47, rv b59, rv b1_66, rv w_EAST, rv b1_84] [(.ref w_WEST)]) := fun t k => k86 t (st87.trans k)
      have k89 : Way p e below S0 T87 (mkF m 225 #[iv p1, iv p2, iv p3, iv p4, rv w_WEST, iv (1 : Int32), rv b47, rv b59, rv b1_66, rv w_EAST, rv b1_84] [(.ref b1_84), (.ref b47)]) := by
        intro t k
        refine k88 t ?_
        refine XS.aload X87.here hx rfl (hb hby at_216) rfl rfl ?_
        show Steps p.tables e below (T87.setTop (mkF m 218 #[iv p1, iv p2, iv p3, iv p4, rv w_WEST, iv (1 : Int32), rv b47, rv b59, rv b1_66, rv w_EAST, rv b1_84] [(.ref w_WEST), (.ref w_WEST)])) _
        refine Jvm.RoadKit.acmp (g := (mkF m 218 #[iv p1, iv p2, iv p3, iv p4, rv w_WEST, iv (1 : Int32), rv b47, rv b59, rv b1_66, rv w_EAST, rv b1_84] [(.ref w_WEST), (.ref w_WEST)])) X87 hx rfl rfl rfl (pc0 := 218) (pc' := 221) (same := true) rfl (hb hby at_218) rfl (decide_eq_true rfl) (by decide) (by decide) ?_
        show Steps p.tables e below (T87.setTop (mkF m 221 #[iv p1, iv p2, iv p3, iv p4, rv w_WEST, iv (1 : Int32), rv b47, rv b59, rv b1_66, rv w_EAST, rv b1_84] [])) _
        refine XS.aload X87.here hx rfl (hb hby at_221) rfl rfl ?_
        show Steps p.tables e below (T87.setTop (mkF m 223 #[iv p1, iv p2, iv p3, iv p4, rv w_WEST, iv (1 : Int32), rv b47, rv b59, rv b1_66, rv w_EAST, rv b1_84] [(.ref b47)])) _
        refine XS.aload X87.here hx rfl (hb hby at_223) rfl rfl ?_
        show Steps p.tables e below (T87.setTop (mkF m 225 #[iv p1, iv p2, iv p3, iv p4, rv w_WEST, iv (1 : Int32), rv b47, rv b59, rv b1_66, rv w_EAST, rv b1_84] [(.ref b1_84), (.ref b47)])) _
        exact k
      obtain ⟨cq90, kq90, qq90a, qq90b, qq90c⟩ := isOf hZ e87 po84_1
      obtain ⟨_, _, ⟨T90, L90, kk90, nn90⟩, -, X90, ⟨Lc90, hQ90, l90, y90, z90⟩, st90⟩ := X87.virtualBack hx (y := (⟨"com/example/aspectwise/aspectwise/engine/BlockEnd", "block", "()Ljava/lang/String;"⟩ : MethodName)) (z := (⟨"com/example/aspectwise/aspectwise/engine/BlockEnd", "block", "()Ljava/lang/String;"⟩ : MethodName)) hown (mvT hZ (hw _ (List.mem_of_getElem? (i := 37) rfl))) (mvT hZ (hw _ (List.mem_of_getElem? (i := 38) rfl))) (notFace_of_selects (args := #[]) (mvT hZ (hw _ (List.mem_of_getElem? (i := 40) rfl)))) (mvT hZ (hw _ (List.mem_of_getElem? (i := 40) rfl))) (mvT hZ (hw _ (List.mem_of_getElem? (i := 39) rfl))) (by decide) (backOf (W := 1) (blk0 l Z a0 hw [] w_EAST w_WEST wCS G b1_84 b47 T84.heap n0 O84 (po84_2 : Fld Z T84.heap b1_84 "com/example/aspectwise/aspectwise/engine/BlockEnd" "block" "Ljava/lang/String;" (.ref b47))) hZ (hw _ (List.mem_of_getElem? (i := 41) rfl)) (hw _ (List.mem_of_getElem? (i := 5) rfl)) (by decide) (by decide)) qq90a qq90c (g := (mkF m 225 #[iv p1, iv p2, iv p3, iv p4, rv w_WEST, iv (1 : Int32), rv b47, rv b59, rv b1_66, rv w_EAST, rv b1_84] [(.ref b1_84), (.ref b47)])) rfl (by rw [hml]; rfl) (Steps.refl _) (argsL := []) (rest := [(.ref b47)]) (lenOf pd_12 rfl) rfl (by show 2 * 0 + _ ≤ _; exact Nat.le_of_eq rfl) (hb hby at_225) (fun _ _ => ⟨rfl, e87, (by decide : 7 + 0 ≤ _), (by decide : 14 + 0 ≤ _)⟩)
      dsimp only [Pt.U, Pt.locs, Pt.cells, Pt.slots] at X90 l90 y90 z90 st90 hQ90
      subst l90 y90 z90
      obtain ⟨rfl, Nq90, e90⟩ := hQ90
      have N90 := Fr.app N87 Nq90
      have k91 : Way p e below S0 T90 (mkF m 228 #[iv p1, iv p2, iv p3, iv p4, rv w_WEST, iv (1 : Int32), rv b47, rv b59, rv b1_66, rv w_EAST, rv b1_84] [(.ref b47), (.ref b47)]) := fun t k => k89 t (st90.trans k)
      have f92 : Exa Z T84.heap b47 "java/lang/String" := (f80.keep Kq84)
      obtain ⟨_, _, ⟨T93, L93, kk93, nn93⟩, -, X93, ⟨Lc93, hQ93, l93, y93, z93⟩, st93⟩ := Jvm.LawKit.callS X90 hx (y := (⟨"com/example/aspectwise/aspectwise/engine/BlockEndOppositePinLaw", "sameBlock", "(Ljava/lang/String;Ljava/lang/String;)Z"⟩ : MethodName)) hown (mvT hZ (hw _ (List.mem_of_getElem? (i := 42) rfl))) (mvT hZ (hw _ (List.mem_of_getElem? (i := 43) rfl))) (mvT hZ (hw _ (List.mem_of_getElem? (i := 44) rfl))) (mvT hZ (hw _ (List.mem_of_getElem? (i := 45) rfl))) (by decide) (backOf (W := 0) (sb1 l Z a0 hw [] w_EAST w_WEST wCS G b47 T84.heap n0 O84 (f92 : Exa Z T84.heap b47 "java/lang/String")) hZ (hw _ (List.mem_of_getElem? (i := 45) rfl)) (hw _ (List.mem_of_getElem? (i := 44) rfl)) (by decide) (by decide)) (g := (mkF m 228 #[iv p1, iv p2, iv p3, iv p4, rv w_WEST, iv (1 : Int32), rv b47, rv b59, rv b1_66, rv w_EAST, rv b1_84] [(.ref b47), (.ref b47)])) rfl (by rw [hml]; rfl) (argsL := [(.ref b47), (.ref b47)]) (rest := []) (lenOf pd_13 rfl) rfl (by show 2 * 0 + _ ≤ _; exact Nat.le_of_eq rfl) (hb hby at_228) (fun _ _ => ⟨rfl, e90, (by decide : 7 + 0 ≤ _), (by decide : 14 + 0 ≤ _)⟩)
      dsimp only [Pt.U, Pt.locs, Pt.cells, Pt.slots] at X93 l93 y93 z93 st93 hQ93
      subst l93 y93 z93
      obtain ⟨rfl, Nq93, e93⟩ := hQ93
      have N93 := Fr.app N90 Nq93
      have k94 : Way p e below S0 T93 (mkF m 231 #[iv p1, iv p2, iv p3, iv p4, rv w_WEST, iv (1 : Int32), rv b47, rv b59, rv b1_66, rv w_EAST, rv b1_84] [(.int (1 : Int32))]) := fun t k => k91 t (st93 _ k)
      have k95 : Way p e below S0 T93 (mkF m 239 #[iv p1, iv p2, iv p3, iv p4, rv w_WEST, iv (1 : Int32), rv b47, rv b59, rv b1_66, rv w_EAST, rv b1_84] [(.int (1 : Int32))]) := by
        intro t k
        refine k94 t ?_
        refine XS.ifNo X93.here hx rfl (hb hby at_231) rfl ((if0 _ _).trans (feq ((by decide) : ¬ ((1 : Int32) = (0 : Int32)))).1) ?_
        show Steps p.tables e below (T93.setTop (mkF m 234 #[iv p1, iv p2, iv p3, iv p4, rv w_WEST, iv (1 : Int32), rv b47, rv b59, rv b1_66, rv w_EAST, rv b1_84] [])) _
        refine XS.iconst X93.here hx rfl (hb hby at_234) ?_
        show Steps p.tables e below (T93.setTop (mkF m 235 #[iv p1, iv p2, iv p3, iv p4, rv w_WEST, iv (1 : Int32), rv b47, rv b59, rv b1_66, rv w_EAST, rv b1_84] [(.int (1 : Int32))])) _
        refine XS.goto X93.here hx rfl (pc0 := 235) (pc' := 239) rfl (hb hby at_235) (by decide) (by decide) ?_
        show Steps p.tables e below (T93.setTop (mkF m 239 #[iv p1, iv p2, iv p3, iv p4, rv w_WEST, iv (1 : Int32), rv b47, rv b59, rv b1_66, rv w_EAST, rv b1_84] [(.int (1 : Int32))])) _
        exact k
      obtain ⟨fs, hr, hrun, hended, hRW⟩ := Stand.leaveW (s := s) (vm₁ := T56.vm) X93 hS56 (by rw [e93]; exact (Nat.le_trans (Nat.le_refl _) (Nat.le_trans (Nat.le_trans (Nat.le_trans E59.1 Kq63.1) Kq66.1) Kq84.1))) (v := some (.int (1 : Int32))) (fun h => by rw [Bd.returns] at h; cases h)
      refine ⟨_, _, k95 _ (retN X93 hx (t := .boolean) Bd.returns (by simp) (hb hby at_239) hr), hrun, hended, _, _, rfl, ?_, own_rw hRW (by decide) (by decide)⟩
      show Q_law_met Z w_EAST w_WEST wCS p1 p2 p3 p4 h0 n0 _ T93.heap _
      rw [e93]
      exact ⟨rfl, N93⟩
    · have k96 : Way p e below S0 T4 (mkF m 24 #[iv p1, iv p2, iv p3, iv p4, rv w_WEST, iv (2 : Int32), .unset, .unset, .unset, .unset, .unset] []) := by have q := k6; rw [hi7] at q; exact q
      have k97 : Way p e below S0 T4 (mkF m 68 #[iv p1, iv p2, iv p3, iv p4, rv w_WEST, iv (2 : Int32), .unset, .unset, .unset, .unset, .unset] [(.int ((p1 &&& (255 : Int32)).toUInt32.toUInt16.toUInt32.toInt32))]) := by
        intro t k
        refine k96 t ?_
        refine XS.iload X4.here hx rfl (hb hby at_24) rfl ?_
        show Steps p.tables e below (T4.setTop (mkF m 26 #[iv p1, iv p2, iv p3, iv p4, rv w_WEST, iv (2 : Int32), .unset, .unset, .unset, .unset, .unset] [(.int (2 : Int32))])) _
        refine XS.ifYes X4.here hx rfl (pc0 := 26) (pc' := 35) rfl (hb hby at_26) rfl ((if0 _ _).trans (feq ((by decide) : ¬ ((2 : Int32) = (0 : Int32)))).2) (by decide) (by decide) ?_
        show Steps p.tables e below (T4.setTop (mkF m 35 #[iv p1, iv p2, iv p3, iv p4, rv w_WEST, iv (2 : Int32), .unset, .unset, .unset, .unset, .unset] [])) _
        refine XS.iload X4.here hx rfl (hb hby at_35) rfl ?_
        show Steps p.tables e below (T4.setTop (mkF m 37 #[iv p1, iv p2, iv p3, iv p4, rv w_WEST, iv (2 : Int32), .unset, .unset, .unset, .unset, .unset] [(.int (2 : Int32))])) _
        refine XS.iconst X4.here hx rfl (hb hby at_37) ?_
        show Steps p.tables e below (T4.setTop (mkF m 38 #[iv p1, iv p2, iv p3, iv p4, rv w_WEST, iv (2 : Int32), .unset, .unset, .unset, .unset, .unset] [(.int (1 : Int32)), (.int (2 : Int32))])) _
        refine XS.icmpYes X4.here hx rfl (pc0 := 38) (pc' := 56) rfl (hb hby at_38) rfl (feq ((by decide) : ¬ ((2 : Int32) = (1 : Int32)))).2 (by decide) (by decide) ?_
        show Steps p.tables e below (T4.setTop (mkF m 56 #[iv p1, iv p2, iv p3, iv p4, rv w_WEST, iv (2 : Int32), .unset, .unset, .unset, .unset, .unset] [])) _
        refine XS.iload X4.here hx rfl (hb hby at_56) rfl ?_
        show Steps p.tables e below (T4.setTop (mkF m 58 #[iv p1, iv p2, iv p3, iv p4, rv w_WEST, iv (2 : Int32), .unset, .unset, .unset, .unset, .unset] [(.int (2 : Int32))])) _
        refine XS.iconst X4.here hx rfl (hb hby at_58) ?_
        show Steps p.tables e below (T4.setTop (mkF m 59 #[iv p1, iv p2, iv p3, iv p4, rv w_WEST, iv (2 : Int32), .unset, .unset, .unset, .unset, .unset] [(.int (2 : Int32)), (.int (2 : Int32))])) _
        refine XS.icmpNo X4.here hx rfl (hb hby at_59) rfl (teq ((by decide) : (2 : Int32) = (2 : Int32))).2 ?_
        show Steps p.tables e below (T4.setTop (mkF m 62 #[iv p1, iv p2, iv p3, iv p4, rv w_WEST, iv (2 : Int32), .unset, .unset, .unset, .unset, .unset] [])) _
        refine XS.iloadN X4.here hx rfl (hb hby at_62) rfl ?_
        show Steps p.tables e below (T4.setTop (mkF m 63 #[iv p1, iv p2, iv p3, iv p4, rv w_WEST, iv (2 : Int32), .unset, .unset, .unset, .unset, .unset] [(.int p1)])) _
        refine XS.sipush X4.here hx rfl (hb hby at_63) ?_
        show Steps p.tables e below (T4.setTop (mkF m 66 #[iv p1, iv p2, iv p3, iv p4, rv w_WEST, iv (2 : Int32), .unset, .unset, .unset, .unset, .unset] [(.int (255 : Int32)), (.int p1)])) _
        refine XS.iand X4.here hx rfl (hb hby at_66) rfl ?_
        show Steps p.tables e below (T4.setTop (mkF m 67 #[iv p1, iv p2, iv p3, iv p4, rv w_WEST, iv (2 : Int32), .unset, .unset, .unset, .unset, .unset] [(.int (p1 &&& (255 : Int32)))])) _
        refine XS.i2c X4.here hx rfl (hb hby at_67) rfl ?_
        show Steps p.tables e below (T4.setTop (mkF m 68 #[iv p1, iv p2, iv p3, iv p4, rv w_WEST, iv (2 : Int32), .unset, .unset, .unset, .unset, .unset] [(.int ((p1 &&& (255 : Int32)).toUInt32.toUInt16.toUInt32.toInt32))])) _
        exact k
      obtain ⟨_, _, ⟨T98, L98, kk98, nn98⟩, -, X98, ⟨Lc98, hQ98, l98, y98, z98⟩, st98⟩ := Jvm.LawKit.callS X4 hx (y := (⟨"java/lang/String", "valueOf", "(C)Ljava/lang/String;"⟩ : MethodName)) hown (mvT hZ (hw _ (List.mem_of_getElem? (i := 71) rfl))) (mvT hZ (hw _ (List.mem_of_getElem? (i := 72) rfl))) (mvT hZ (hw _ (List.mem_of_getElem? (i := 48) rfl))) (mvT hZ (hw _ (List.mem_of_getElem? (i := 73) rfl))) (by decide) (backOf (W := 0) (svalueOf l Z a0 hw [] w_EAST w_WEST wCS G ((p1 &&& (255 : Int32)).toUInt32.toUInt16.toUInt32.toInt32) h0 n0 O0 (own_chr1 _ : ¬ ((255 : Int32) < ((p1 &&& (255 : Int32)).toUInt32.toUInt16.toUInt32.toInt32)))) hZ (hw _ (List.mem_of_getElem? (i := 73) rfl)) (hw _ (List.mem_of_getElem? (i := 48) rfl)) (by decide) (by decide)) (g := (mkF m 68 #[iv p1, iv p2, iv p3, iv p4, rv w_WEST, iv (2 : Int32), .unset, .unset, .unset, .unset, .unset] [(.int ((p1 &&& (255 : Int32)).toUInt32.toUInt16.toUInt32.toInt32))])) rfl (by rw [hml]; rfl) (argsL := [(.int ((p1 &&& (255 : Int32)).toUInt32.toUInt16.toUInt32.toInt32))]) (rest := []) (lenOf pd_15 rfl) rfl (by show 2 * 0 + _ ≤ _; exact Nat.le_of_eq rfl) (hb hby at_68) (fun _ _ => ⟨rfl, e4, (by decide : 0 + 2 ≤ _), (by decide : 0 + 5 ≤ _)⟩)
      dsimp only [Pt.U, Pt.locs, Pt.cells, Pt.slots] at X98 l98 y98 z98 st98 hQ98
      subst l98 y98 z98
      obtain ⟨b1_98, d1_98, kb_98, rfl, Nq98, Kq98, po98_0, po98_1, po98_2, po98_3, po98_4, po98_5, po98_6⟩ := hQ98
      have N98 := Fr.app N0 Nq98
      have O98 := O0.keep Kq98 all0
      have k99 : Way p e below S0 T98 (mkF m 71 #[iv p1, iv p2, iv p3, iv p4, rv w_WEST, iv (2 : Int32), .unset, .unset, .unset, .unset, .unset] [(.ref b1_98)]) := fun t k => k97 t (st98 _ k)
      have k100 : Way p e below S0 T98 (mkF m 122 #[iv p1, iv p2, iv p3, iv p4, rv w_WEST, iv (2 : Int32), rv b1_98, .unset, .unset, .unset, .unset] []) := by
        intro t k
        refine k99 t ?_
        refine XS.astore X98.here hx rfl (hb hby at_71) rfl rfl (l' := #[iv p1, iv p2, iv p3, iv p4, rv w_WEST, iv (2 : Int32), rv b1_98, .unset, .unset, .unset, .unset]) rfl ?_
        show Steps p.tables e below (T98.setTop (mkF m 73 #[iv p1, iv p2, iv p3, iv p4, rv w_WEST, iv (2 : Int32), rv b1_98, .unset, .unset, .unset, .unset] [])) _
        refine XS.goto X98.here hx rfl (pc0 := 73) (pc' := 122) rfl (hb hby at_73) (by decide) (by decide) ?_
        show Steps p.tables e below (T98.setTop (mkF m 122 #[iv p1, iv p2, iv p3, iv p4, rv w_WEST, iv (2 : Int32), rv b1_98, .unset, .unset, .unset, .unset] [])) _
        exact k
      obtain ⟨T101, h101, X101, e101, E101, A101, D101, U101, st101⟩ := newO X98 hx hZ hown (hw _ (List.mem_of_getElem? (i := 3) rfl)) (hw _ (List.mem_of_getElem? (i := 4) rfl)) (hw _ (List.mem_of_getElem? (i := 5) rfl)) rfl (g := (mkF m 122 #[iv p1, iv p2, iv p3, iv p4, rv w_WEST, iv (2 : Int32), rv b1_98, .unset, .unset, .unset, .unset] [])) rfl (hb hby at_122) (by decide) (by decide)
      obtain ⟨b101, g101⟩ : ∃ z, z = T98.heap.size := ⟨_, rfl⟩
      rw [← g101] at A101 D101 U101 st101
      have O101 := O98.ext E101
      have i101_block : Fld Z h101 b101 "com/example/aspectwise/aspectwise/engine/BlockEnd" "block" "Ljava/lang/String;" .null := D101 (Or.inr (hw _ (List.mem_of_getElem? (i := 18) rfl))) (ty := (.object "java/lang/String")) (by decide)
      have i101_side : Fld Z h101 b101 "com/example/aspectwise/aspectwise/engine/BlockEnd" "side" "Lcom/example/aspectwise/aspectwise/engine/BlockEnd$Side;" .null := D101 (Or.inr (hw _ (List.mem_of_getElem? (i := 20) rfl))) (ty := (.object "com/example/aspectwise/aspectwise/engine/BlockEnd$Side")) (by decide)
      have k102 : Way p e below S0 T101 (mkF m 125 #[iv p1, iv p2, iv p3, iv p4, rv w_WEST, iv (2 : Int32), rv b1_98, .unset, .unset, .unset, .unset] [(.ref b101)]) := fun t k => k100 t (st101 _ k)
      have k103 : Way p e below S0 T101 (mkF m 130 #[iv p1, iv p2, iv p3, iv p4, rv w_WEST, iv (2 : Int32), rv b1_98, .unset, .unset, .unset, .unset] [(.ref w_WEST), (.ref b1_98), (.ref b101), (.ref b101)]) := by
        intro t k
        refine k102 t ?_
        refine XS.dup X101.here hx rfl (hb hby at_125) rfl rfl ?_
        show Steps p.tables e below (T101.setTop (mkF m 126 #[iv p1, iv p2, iv p3, iv p4, rv w_WEST, iv (2 : Int32), rv b1_98, .unset, .unset, .unset, .unset] [(.ref b101), (.ref b101)])) _
        refine XS.aload X101.here hx rfl (hb hby at_126) rfl rfl ?_
        show Steps p.tables e below (T101.setTop (mkF m 128 #[iv p1, iv p2, iv p3, iv p4, rv w_WEST, iv (2 : Int32), rv b1_98, .unset, .unset, .unset, .unset] [(.ref b1_98), (.ref b101), (.ref b101)])) _
        refine XS.aload X101.here hx rfl (hb hby at_128) rfl rfl ?_
        show Steps p.tables e below (T101.setTop (mkF m 130 #[iv p1, iv p2, iv p3, iv p4, rv w_WEST, iv (2 : Int32), rv b1_98, .unset, .unset, .unset, .unset] [(.ref w_WEST), (.ref b1_98), (.ref b101), (.ref b101)])) _
        exact k
      have ge104 : n0 ≤ b101 := Nat.le_trans (own_old O98) (Nat.le_of_eq g101.symm)
      obtain ⟨_, _, ⟨T105, L105, kk105, nn105⟩, -, X105, ⟨Lc105, hQ105, l105, y105, z105⟩, st105⟩ := X101.specialBack hx (y := (⟨"com/example/aspectwise/aspectwise/engine/BlockEnd", "<init>", "(Ljava/lang/String;Lcom/example/aspectwise/aspectwise/engine/BlockEnd$Side;)V"⟩ : MethodName)) rfl hown (mvT hZ (hw _ (List.mem_of_getElem? (i := 6) rfl))) (mvT hZ (hw _ (List.mem_of_getElem? (i := 7) rfl))) (mvT hZ (hw _ (List.mem_of_getElem? (i := 8) rfl))) (by decide) (backOf (W := 1) (bi1 l Z a0 hw [] w_EAST w_WEST wCS G b101 b1_98 w_WEST h101 n0 O101 (A101 : Exa Z h101 b101 "com/example/aspectwise/aspectwise/engine/BlockEnd") (i101_block : Fld Z h101 b101 "com/example/aspectwise/aspectwise/engine/BlockEnd" "block" "Ljava/lang/String;" .null) (i101_side : Fld Z h101 b101 "com/example/aspectwise/aspectwise/engine/BlockEnd" "side" "Lcom/example/aspectwise/aspectwise/engine/BlockEnd$Side;" .null) (ge104 : n0 ≤ b101)) hZ (hw _ (List.mem_of_getElem? (i := 8) rfl)) (hw _ (List.mem_of_getElem? (i := 5) rfl)) (by decide) (by decide)) (g := (mkF m 130 #[iv p1, iv p2, iv p3, iv p4, rv w_WEST, iv (2 : Int32), rv b1_98, .unset, .unset, .unset, .unset] [(.ref w_WEST), (.ref b1_98), (.ref b101), (.ref b101)])) rfl (by rw [hml]; rfl) (Steps.refl _) (a := b101) (argsL := [(.ref b1_98), (.ref w_WEST)]) (rest := [(.ref b101)]) (lenOf pd_8 rfl) rfl (by show 2 * 0 + _ ≤ _; exact Nat.le_of_eq rfl) (hb hby at_130) (fun _ _ => ⟨rfl, e101, (by decide : 3 + 0 ≤ _), (by decide : 7 + 0 ≤ _)⟩)
      dsimp only [Pt.U, Pt.locs, Pt.cells, Pt.slots] at X105 l105 y105 z105 st105 hQ105
      subst l105 y105 z105
      obtain ⟨rfl, Nq105, Kq105, po105_0, po105_1, po105_2⟩ := hQ105
      have N105 := Fr.app N98 Nq105
      have O105 := O101.keep Kq105 (allS ge104 all0)
      have k106 : Way p e below S0 T105 (mkF m 133 #[iv p1, iv p2, iv p3, iv p4, rv w_WEST, iv (2 : Int32), rv b1_98, .unset, .unset, .unset, .unset] [(.ref b101)]) := fun t k => k103 t (st105.trans k)
      have k107 : Way p e below S0 T105 (mkF m 137 #[iv p1, iv p2, iv p3, iv p4, rv w_WEST, iv (2 : Int32), rv b1_98, rv b101, .unset, .unset, .unset] [(.ref b101)]) := by
        intro t k
        refine k106 t ?_
        refine XS.astore X105.here hx rfl (hb hby at_133) rfl rfl (l' := #[iv p1, iv p2, iv p3, iv p4, rv w_WEST, iv (2 : Int32), rv b1_98, rv b101, .unset, .unset, .unset]) rfl ?_
        show Steps p.tables e below (T105.setTop (mkF m 135 #[iv p1, iv p2, iv p3, iv p4, rv w_WEST, iv (2 : Int32), rv b1_98, rv b101, .unset, .unset, .unset] [])) _
        refine XS.aload X105.here hx rfl (hb hby at_135) rfl rfl ?_
        show Steps p.tables e below (T105.setTop (mkF m 137 #[iv p1, iv p2, iv p3, iv p4, rv w_WEST, iv (2 : Int32), rv b1_98, rv b101, .unset, .unset, .unset] [(.ref b101)])) _
        exact k
      obtain ⟨cq108, kq108, qq108a, qq108b, qq108c⟩ := isOf hZ rfl po105_0
      obtain ⟨_, _, ⟨T108, L108, kk108, nn108⟩, -, X108, ⟨Lc108, hQ108, l108, y108, z108⟩, st108⟩ := X105.virtualBack hx (y := (⟨"com/example/aspectwise/aspectwise/engine/BlockEnd", "opposite", "()Lcom/example/aspectwise/aspectwise/engine/BlockEnd;"⟩ : MethodName)) (z := (⟨"com/example/aspectwise/aspectwise/engine/BlockEnd", "opposite", "()Lcom/example/aspectwise/aspectwise/engine/BlockEnd;"⟩ : MethodName)) hown (mvT hZ (hw _ (List.mem_of_getElem? (i := 21) rfl))) (mvT hZ (hw _ (List.mem_of_getElem? (i := 22) rfl))) (notFace_of_selects (args := #[]) (mvT hZ (hw _ (List.mem_of_getElem? (i := 24) rfl)))) (mvT hZ (hw _ (List.mem_of_getElem? (i := 24) rfl))) (mvT hZ (hw _ (List.mem_of_getElem? (i := 23) rfl))) (by decide) (backOf (W := 0) (opp0WEST l Z a0 hw [] w_EAST w_WEST wCS G b101 b1_98 T105.heap n0 O105 (po105_1 : Fld Z T105.heap b101 "com/example/aspectwise/aspectwise/engine/BlockEnd" "block" "Ljava/lang/String;" (.ref b1_98)) (po105_2 : Fld Z T105.heap b101 "com/example/aspectwise/aspectwise/engine/BlockEnd" "side" "Lcom/example/aspectwise/aspectwise/engine/BlockEnd$Side;" (.ref w_WEST))) hZ (hw _ (List.mem_of_getElem? (i := 25) rfl)) (hw _ (List.mem_of_getElem? (i := 5) rfl)) (by decide) (by decide)) qq108a qq108c (g := (mkF m 137 #[iv p1, iv p2, iv p3, iv p4, rv w_WEST, iv (2 : Int32), rv b1_98, rv b101, .unset, .unset, .unset] [(.ref b101)])) rfl (by rw [hml]; rfl) (Steps.refl _) (argsL := []) (rest := []) (lenOf pd_10 rfl) rfl (by show 2 * 0 + _ ≤ _; exact Nat.le_of_eq rfl) (hb hby at_137) (fun _ _ => ⟨rfl, rfl, (by decide : 3 + 1 ≤ _), (by decide : 7 + 2 ≤ _)⟩)
      dsimp only [Pt.U, Pt.locs, Pt.cells, Pt.slots] at X108 l108 y108 z108 st108 hQ108
      subst l108 y108 z108
      obtain ⟨b1_108, rfl, Nq108, Kq108, po108_0, po108_1, po108_2, po108_3⟩ := hQ108
      have N108 := Fr.app N105 Nq108
      have O108 := O105.keep Kq108 all0
      have k109 : Way p e below S0 T108 (mkF m 140 #[iv p1, iv p2, iv p3, iv p4, rv w_WEST, iv (2 : Int32), rv b1_98, rv b101, .unset, .unset, .unset] [(.ref b1_108)]) := fun t k => k107 t (st108.trans k)
      have k110 : Way p e below S0 T108 (mkF m 151 #[iv p1, iv p2, iv p3, iv p4, rv w_WEST, iv (2 : Int32), rv b1_98, rv b101, rv b1_108, .unset, .unset] [(.ref w_WEST)]) := by
        intro t k
        refine k109 t ?_
        refine XS.astore X108.here hx rfl (hb hby at_140) rfl rfl (l' := #[iv p1, iv p2, iv p3, iv p4, rv w_WEST, iv (2 : Int32), rv b1_98, rv b101, rv b1_108, .unset, .unset]) rfl ?_
        show Steps p.tables e below (T108.setTop (mkF m 142 #[iv p1, iv p2, iv p3, iv p4, rv w_WEST, iv (2 : Int32), rv b1_98, rv b101, rv b1_108, .unset, .unset] [])) _
        refine XS.aload X108.here hx rfl (hb hby at_142) rfl rfl ?_
        show Steps p.tables e below (T108.setTop (mkF m 144 #[iv p1, iv p2, iv p3, iv p4, rv w_WEST, iv (2 : Int32), rv b1_98, rv b101, rv b1_108, .unset, .unset] [(.ref b1_108)])) _
        refine XS.ifnonnullYes X108.here hx rfl (pc0 := 144) (pc' := 149) rfl (hb hby at_144) rfl (by decide) (by decide) ?_
        show Steps p.tables e below (T108.setTop (mkF m 149 #[iv p1, iv p2, iv p3, iv p4, rv w_WEST, iv (2 : Int32), rv b1_98, rv b101, rv b1_108, .unset, .unset] [])) _
        refine XS.aload X108.here hx rfl (hb hby at_149) rfl rfl ?_
        show Steps p.tables e below (T108.setTop (mkF m 151 #[iv p1, iv p2, iv p3, iv p4, rv w_WEST, iv (2 : Int32), rv b1_98, rv b101, rv b1_108, .unset, .unset] [(.ref w_WEST)])) _
        exact k
      obtain ⟨T111, X111, e111, st111⟩ := getS2 X108 hx hZ hown (host := "") (Or.inl (hw _ (List.mem_of_getElem? (i := 0) rfl))) Via.refl rfl (S_w_EAST.ext O108.2) (g := (mkF m 151 #[iv p1, iv p2, iv p3, iv p4, rv w_WEST, iv (2 : Int32), rv b1_98, rv b101, rv b1_108, .unset, .unset] [(.ref w_WEST)])) rfl (hb hby at_151)
      have k112 : Way p e below S0 T111 (mkF m 154 #[iv p1, iv p2, iv p3, iv p4, rv w_WEST, iv (2 : Int32), rv b1_98, rv b101, rv b1_108, .unset, .unset] [(.ref w_EAST), (.ref w_WEST)]) := fun t k => k110 t (st111 _ k)
      have k113 : Way p e below S0 T111 (mkF m 165 #[iv p1, iv p2, iv p3, iv p4, rv w_WEST, iv (2 : Int32), rv b1_98, rv b101, rv b1_108, .unset, .unset] []) := by
        intro t k
        refine k112 t ?_
        refine Jvm.RoadKit.acmp (g := (mkF m 154 #[iv p1, iv p2, iv p3, iv p4, rv w_WEST, iv (2 : Int32), rv b1_98, rv b101, rv b1_108, .unset, .unset] [(.ref w_EAST), (.ref w_WEST)])) X111 hx rfl rfl rfl (pc0 := 154) (pc' := 165) (same := false) rfl (hb hby at_154) rfl (decide_eq_false fun q => absurd (Value.ref.inj q) (F_w_WEST_ordinal.ne F_w_EAST_ordinal (by decide))) (by decide) (by decide) ?_
        show Steps p.tables e below (T111.setTop (mkF m 165 #[iv p1, iv p2, iv p3, iv p4, rv w_WEST, iv (2 : Int32), rv b1_98, rv b101, rv b1_108, .unset, .unset] [])) _
        exact k
      obtain ⟨T114, X114, e114, st114⟩ := getS2 X111 hx hZ hown (host := "") (Or.inl (hw _ (List.mem_of_getElem? (i := 0) rfl))) Via.refl e111 (S_w_EAST.ext O108.2) (g := (mkF m 165 #[iv p1, iv p2, iv p3, iv p4, rv w_WEST, iv (2 : Int32), rv b1_98, rv b101, rv b1_108, .unset, .unset] [])) rfl (hb hby at_165)
      have k115 : Way p e below S0 T114 (mkF m 168 #[iv p1, iv p2, iv p3, iv p4, rv w_WEST, iv (2 : Int32), rv b1_98, rv b101, rv b1_108, .unset, .unset] [(.ref w_EAST)]) := fun t k => k113 t (st114 _ k)
      have k116 : Way p e below S0 T114 (mkF m 172 #[iv p1, iv p2, iv p3, iv p4, rv w_WEST, iv (2 : Int32), rv b1_98, rv b101, rv b1_108, rv w_EAST, .unset] [(.ref b1_108)]) := by
        intro t k
        refine k115 t ?_
        refine XS.astore X114.here hx rfl (hb hby at_168) rfl rfl (l' := #[iv p1, iv p2, iv p3, iv p4, rv w_WEST, iv (2 : Int32), rv b1_98, rv b101, rv b1_108, rv w_EAST, .unset]) rfl ?_
        show Steps p.tables e below (T114.setTop (mkF m 170 #[iv p1, iv p2, iv p3, iv p4, rv w_WEST, iv (2 : Int32), rv b1_98, rv b101, rv b1_108, rv w_EAST, .unset] [])) _
        refine XS.aload X114.here hx rfl (hb hby at_170) rfl rfl ?_
        show Steps p.tables e below (T114.setTop (mkF m 172 #[iv p1, iv p2, iv p3, iv p4, rv w_WEST, iv (2 : Int32), rv b1_98, rv b101, rv b1_108, rv w_EAST, .unset] [(.ref b1_108)])) _
        exact k
      obtain ⟨cq117, kq117, qq117a, qq117b, qq117c⟩ := isOf hZ e114 po108_1
      obtain ⟨_, _, ⟨T117, L117, kk117, nn117⟩, -, X117, ⟨Lc117, hQ117, l117, y117, z117⟩, st117⟩ := X114.virtualBack hx (y := (⟨"com/example/aspectwise/aspectwise/engine/BlockEnd", "side", "()Lcom/example/aspectwise/aspectwise/engine/BlockEnd$Side;"⟩ : MethodName)) (z := (⟨"com/example/aspectwise/aspectwise/engine/BlockEnd", "side", "()Lcom/example/aspectwise/aspectwise/engine/BlockEnd$Side;"⟩ : MethodName)) hown (mvT hZ (hw _ (List.mem_of_getElem? (i := 32) rfl))) (mvT hZ (hw _ (List.mem_of_getElem? (i := 33) rfl))) (notFace_of_selects (args := #[]) (mvT hZ (hw _ (List.mem_of_getElem? (i := 35) rfl)))) (mvT hZ (hw _ (List.mem_of_getElem? (i := 35) rfl))) (mvT hZ (hw _ (List.mem_of_getElem? (i := 34) rfl))) (by decide) (backOf (W := 0) (sid l Z a0 hw [] w_EAST w_WEST wCS G b1_108 w_EAST T108.heap n0 O108 (po108_3 : Fld Z T108.heap b1_108 "com/example/aspectwise/aspectwise/engine/BlockEnd" "side" "Lcom/example/aspectwise/aspectwise/engine/BlockEnd$Side;" (.ref w_EAST))) hZ (hw _ (List.mem_of_getElem? (i := 36) rfl)) (hw _ (List.mem_of_getElem? (i := 5) rfl)) (by decide) (by decide)) qq117a qq117c (g := (mkF m 172 #[iv p1, iv p2, iv p3, iv p4, rv w_WEST, iv (2 : Int32), rv b1_98, rv b101, rv b1_108, rv w_EAST, .unset] [(.ref b1_108)])) rfl (by rw [hml]; rfl) (Steps.refl _) (argsL := []) (rest := []) (lenOf pd_11 rfl) rfl (by show 2 * 0 + _ ≤ _; exact Nat.le_of_eq rfl) (hb hby at_172) (fun _ _ => ⟨rfl, e114, (by decide : 4 + 0 ≤ _), (by decide : 9 + 0 ≤ _)⟩)
      dsimp only [Pt.U, Pt.locs, Pt.cells, Pt.slots] at X117 l117 y117 z117 st117 hQ117
      subst l117 y117 z117
      obtain ⟨rfl, Nq117, e117⟩ := hQ117
      have N117 := Fr.app N108 Nq117
      have k118 : Way p e below S0 T117 (mkF m 175 #[iv p1, iv p2, iv p3, iv p4, rv w_WEST, iv (2 : Int32), rv b1_98, rv b101, rv b1_108, rv w_EAST, .unset] [(.ref w_EAST)]) := fun t k => k116 t (st117.trans k)
      have k119 : Way p e below S0 T117 (mkF m 186 #[iv p1, iv p2, iv p3, iv p4, rv w_WEST, iv (2 : Int32), rv b1_98, rv b101, rv b1_108, rv w_EAST, .unset] [(.ref b1_108), (.ref b1_98)]) := by
        intro t k
        refine k118 t ?_
        refine XS.aload X117.here hx rfl (hb hby at_175) rfl rfl ?_
        show Steps p.tables e below (T117.setTop (mkF m 177 #[iv p1, iv p2, iv p3, iv p4, rv w_WEST, iv (2 : Int32), rv b1_98, rv b101, rv b1_108, rv w_EAST, .unset] [(.ref w_EAST), (.ref w_EAST)])) _
        refine Jvm.RoadKit.acmp (g := (mkF m 177 #[iv p1, iv p2, iv p3, iv p4, rv w_WEST, iv (2 : Int32), rv b1_98, rv b101, rv b1_108, rv w_EAST, .unset] [(.ref w_EAST), (.ref w_EAST)])) X117 hx rfl rfl rfl (pc0 := 177) (pc' := 182) (same := true) rfl (hb hby at_177) rfl (decide_eq_true rfl) (by decide) (by decide) ?_
        show Steps p.tables e below (T117.setTop (mkF m 182 #[iv p1, iv p2, iv p3, iv p4, rv w_WEST, iv (2 : Int32), rv b1_98, rv b101, rv b1_108, rv w_EAST, .unset] [])) _
        refine XS.aload X117.here hx rfl (hb hby at_182) rfl rfl ?_
        show Steps p.tables e below (T117.setTop (mkF m 184 #[iv p1, iv p2, iv p3, iv p4, rv w_WEST, iv (2 : Int32), rv b1_98, rv b101, rv b1_108, rv w_EAST, .unset] [(.ref b1_98)])) _
        refine XS.aload X117.here hx rfl (hb hby at_184) rfl rfl ?_
        show Steps p.tables e below (T117.setTop (mkF m 186 #[iv p1, iv p2, iv p3, iv p4, rv w_WEST, iv (2 : Int32), rv b1_98, rv b101, rv b1_108, rv w_EAST, .unset] [(.ref b1_108), (.ref b1_98)])) _
        exact k
      obtain ⟨cq120, kq120, qq120a, qq120b, qq120c⟩ := isOf hZ e117 po108_1
      obtain ⟨_, _, ⟨T120, L120, kk120, nn120⟩, -, X120, ⟨Lc120, hQ120, l120, y120, z120⟩, st120⟩ := X117.virtualBack hx (y := (⟨"com/example/aspectwise/aspectwise/engine/BlockEnd", "block", "()Ljava/lang/String;"⟩ : MethodName)) (z := (⟨"com/example/aspectwise/aspectwise/engine/BlockEnd", "block", "()Ljava/lang/String;"⟩ : MethodName)) hown (mvT hZ (hw _ (List.mem_of_getElem? (i := 37) rfl))) (mvT hZ (hw _ (List.mem_of_getElem? (i := 38) rfl))) (notFace_of_selects (args := #[]) (mvT hZ (hw _ (List.mem_of_getElem? (i := 40) rfl)))) (mvT hZ (hw _ (List.mem_of_getElem? (i := 40) rfl))) (mvT hZ (hw _ (List.mem_of_getElem? (i := 39) rfl))) (by decide) (backOf (W := 1) (blk0 l Z a0 hw [] w_EAST w_WEST wCS G b1_108 b1_98 T108.heap n0 O108 (po108_2 : Fld Z T108.heap b1_108 "com/example/aspectwise/aspectwise/engine/BlockEnd" "block" "Ljava/lang/String;" (.ref b1_98))) hZ (hw _ (List.mem_of_getElem? (i := 41) rfl)) (hw _ (List.mem_of_getElem? (i := 5) rfl)) (by decide) (by decide)) qq120a qq120c (g := (mkF m 186 #[iv p1, iv p2, iv p3, iv p4, rv w_WEST, iv (2 : Int32), rv b1_98, rv b101, rv b1_108, rv w_EAST, .unset] [(.ref b1_108), (.ref b1_98)])) rfl (by rw [hml]; rfl) (Steps.refl _) (argsL := []) (rest := [(.ref b1_98)]) (lenOf pd_12 rfl) rfl (by show 2 * 0 + _ ≤ _; exact Nat.le_of_eq rfl) (hb hby at_186) (fun _ _ => ⟨rfl, e117, (by decide : 4 + 0 ≤ _), (by decide : 9 + 0 ≤ _)⟩)
      dsimp only [Pt.U, Pt.locs, Pt.cells, Pt.slots] at X120 l120 y120 z120 st120 hQ120
      subst l120 y120 z120
      obtain ⟨rfl, Nq120, e120⟩ := hQ120
      have N120 := Fr.app N117 Nq120
      have k121 : Way p e below S0 T120 (mkF m 189 #[iv p1, iv p2, iv p3, iv p4, rv w_WEST, iv (2 : Int32), rv b1_98, rv b101, rv b1_108, rv w_EAST, .unset] [(.ref b1_98), (.ref b1_98)]) := fun t k => k119 t (st120.trans k)
      have f122 : Exa Z T108.heap b1_98 "java/lang/String" := (((po98_2.ext E101).keep Kq105).keep Kq108)
      obtain ⟨_, _, ⟨T123, L123, kk123, nn123⟩, -, X123, ⟨Lc123, hQ123, l123, y123, z123⟩, st123⟩ := Jvm.LawKit.callS X120 hx (y := (⟨"com/example/aspectwise/aspectwise/engine/BlockEndOppositePinLaw", "sameBlock", "(Ljava/lang/String;Ljava/lang/String;)Z"⟩ : MethodName)) hown (mvT hZ (hw _ (List.mem_of_getElem? (i := 42) rfl))) (mvT hZ (hw _ (List.mem_of_getElem? (i := 43) rfl))) (mvT hZ (hw _ (List.mem_of_getElem? (i := 44) rfl))) (mvT hZ (hw _ (List.mem_of_getElem? (i := 45) rfl))) (by decide) (backOf (W := 0) (sb1 l Z a0 hw [] w_EAST w_WEST wCS G b1_98 T108.heap n0 O108 (f122 : Exa Z T108.heap b1_98 "java/lang/String")) hZ (hw _ (List.mem_of_getElem? (i := 45) rfl)) (hw _ (List.mem_of_getElem? (i := 44) rfl)) (by decide) (by decide)) (g := (mkF m 189 #[iv p1, iv p2, iv p3, iv p4, rv w_WEST, iv (2 : Int32), rv b1_98, rv b101, rv b1_108, rv w_EAST, .unset] [(.ref b1_98), (.ref b1_98)])) rfl (by rw [hml]; rfl) (argsL := [(.ref b1_98), (.ref b1_98)]) (rest := []) (lenOf pd_13 rfl) rfl (by show 2 * 0 + _ ≤ _; exact Nat.le_of_eq rfl) (hb hby at_189) (fun _ _ => ⟨rfl, e120, (by decide : 4 + 0 ≤ _), (by decide : 9 + 0 ≤ _)⟩)
      dsimp only [Pt.U, Pt.locs, Pt.cells, Pt.slots] at X123 l123 y123 z123 st123 hQ123
      subst l123 y123 z123
      obtain ⟨rfl, Nq123, e123⟩ := hQ123
      have N123 := Fr.app N120 Nq123
      have k124 : Way p e below S0 T123 (mkF m 192 #[iv p1, iv p2, iv p3, iv p4, rv w_WEST, iv (2 : Int32), rv b1_98, rv b101, rv b1_108, rv w_EAST, .unset] [(.int (1 : Int32))]) := fun t k => k121 t (st123 _ k)
      have k125 : Way p e below S0 T123 (mkF m 199 #[iv p1, iv p2, iv p3, iv p4, rv w_WEST, iv (2 : Int32), rv b1_98, rv b101, rv b1_108, rv w_EAST, .unset] [(.ref b1_108)]) := by
        intro t k
        refine k124 t ?_
        refine XS.ifYes X123.here hx rfl (pc0 := 192) (pc' := 197) rfl (hb hby at_192) rfl ((if0 _ _).trans (feq ((by decide) : ¬ ((1 : Int32) = (0 : Int32)))).2) (by decide) (by decide) ?_
        show Steps p.tables e below (T123.setTop (mkF m 197 #[iv p1, iv p2, iv p3, iv p4, rv w_WEST, iv (2 : Int32), rv b1_98, rv b101, rv b1_108, rv w_EAST, .unset] [])) _
        refine XS.aload X123.here hx rfl (hb hby at_197) rfl rfl ?_
        show Steps p.tables e below (T123.setTop (mkF m 199 #[iv p1, iv p2, iv p3, iv p4, rv w_WEST, iv (2 : Int32), rv b1_98, rv b101, rv b1_108, rv w_EAST, .unset] [(.ref b1_108)])) _
        exact k
      obtain ⟨cq126, kq126, qq126a, qq126b, qq126c⟩ := isOf hZ e123 po108_1
      obtain ⟨_, _, ⟨T126, L126, kk126, nn126⟩, -, X126, ⟨Lc126, hQ126, l126, y126, z126⟩, st126⟩ := X123.virtualBack hx (y := (⟨"com/example/aspectwise/aspectwise/engine/BlockEnd", "opposite", "()Lcom/example/aspectwise/aspectwise/engine/BlockEnd;"⟩ : MethodName)) (z := (⟨"com/example/aspectwise/aspectwise/engine/BlockEnd", "opposite", "()Lcom/example/aspectwise/aspectwise/engine/BlockEnd;"⟩ : MethodName)) hown (mvT hZ (hw _ (List.mem_of_getElem? (i := 21) rfl))) (mvT hZ (hw _ (List.mem_of_getElem? (i := 22) rfl))) (notFace_of_selects (args := #[]) (mvT hZ (hw _ (List.mem_of_getElem? (i := 24) rfl)))) (mvT hZ (hw _ (List.mem_of_getElem? (i := 24) rfl))) (mvT hZ (hw _ (List.mem_of_getElem? (i := 23) rfl))) (by decide) (backOf (W := 0) (opp0EAST l Z a0 hw [] w_EAST w_WEST wCS G b1_108 b1_98 T108.heap n0 O108 (po108_2 : Fld Z T108.heap b1_108 "com/example/aspectwise/aspectwise/engine/BlockEnd" "block" "Ljava/lang/String;" (.ref b1_98)) (po108_3 : Fld Z T108.heap b1_108 "com/example/aspectwise/aspectwise/engine/BlockEnd" "side" "Lcom/example/aspectwise/aspectwise/engine/BlockEnd$Side;" (.ref w_EAST))) hZ (hw _ (List.mem_of_getElem? (i := 25) rfl)) (hw _ (List.mem_of_getElem? (i := 5) rfl)) (by decide) (by decide)) qq126a qq126c (g := (mkF m 199 #[iv p1, iv p2, iv p3, iv p4, rv w_WEST, iv (2 : Int32), rv b1_98, rv b101, rv b1_108, rv w_EAST, .unset] [(.ref b1_108)])) rfl (by rw [hml]; rfl) (Steps.refl _) (argsL := []) (rest := []) (lenOf pd_10 rfl) rfl (by show 2 * 0 + _ ≤ _; exact Nat.le_of_eq rfl) (hb hby at_199) (fun _ _ => ⟨rfl, e123, (by decide : 4 + 1 ≤ _), (by decide : 9 + 2 ≤ _)⟩)
      dsimp only [Pt.U, Pt.locs, Pt.cells, Pt.slots] at X126 l126 y126 z126 st126 hQ126
      subst l126 y126 z126
      obtain ⟨b1_126, rfl, Nq126, Kq126, po126_0, po126_1, po126_2, po126_3⟩ := hQ126
      have N126 := Fr.app N123 Nq126
      have O126 := O108.keep Kq126 all0
      have k127 : Way p e below S0 T126 (mkF m 202 #[iv p1, iv p2, iv p3, iv p4, rv w_WEST, iv (2 : Int32), rv b1_98, rv b101, rv b1_108, rv w_EAST, .unset] [(.ref b1_126)]) := fun t k => k125 t (st126.trans k)
      have k128 : Way p e below S0 T126 (mkF m 213 #[iv p1, iv p2, iv p3, iv p4, rv w_WEST, iv (2 : Int32), rv b1_98, rv b101, rv b1_108, rv w_EAST, rv b1_126] [(.ref b1_126)]) := by
        intro t k
        refine k127 t ?_
        refine XS.astore X126.here hx rfl (hb hby at_202) rfl rfl (l' := #[iv p1, iv p2, iv p3, iv p4, rv w_WEST, iv (2 : Int32), rv b1_98, rv b101, rv b1_108, rv w_EAST, rv b1_126]) rfl ?_
        show Steps p.tables e below (T126.setTop (mkF m 204 #[iv p1, iv p2, iv p3, iv p4, rv w_WEST, iv (2 : Int32), rv b1_98, rv b101, rv b1_108, rv w_EAST, rv b1_126] [])) _
        refine XS.aload X126.here hx rfl (hb hby at_204) rfl rfl ?_
        show Steps p.tables e below (T126.setTop (mkF m 206 #[iv p1, iv p2, iv p3, iv p4, rv w_WEST, iv (2 : Int32), rv b1_98, rv b101, rv b1_108, rv w_EAST, rv b1_126] [(.ref b1_126)])) _
        refine XS.ifnonnullYes X126.here hx rfl (pc0 := 206) (pc' := 211) rfl (hb hby at_206) rfl (by decide) (by decide) ?_
        show Steps p.tables e below (T126.setTop (mkF m 211 #[iv p1, iv p2, iv p3, iv p4, rv w_WEST, iv (2 : Int32), rv b1_98, rv b101, rv b1_108, rv w_EAST, rv b1_126] [])) _
        refine XS.aload X126.here hx rfl (hb hby at_211) rfl rfl ?_
        show Steps p.tables e below (T126.setTop (mkF m 213 #[iv p1, iv p2, iv p3, iv p4, rv w_WEST, iv (2 : Int32), rv b1_98, rv b101, rv b1_108, rv w_EAST, rv b1_126] [(.ref b1_126)])) _
        exact k
      obtain ⟨cq129, kq129, qq129a, qq129b, qq129c⟩ := isOf hZ rfl po126_1
      obtain ⟨_, _, ⟨T129, L129, kk129, nn129⟩, -, X129, ⟨Lc129, hQ129, l129, y129, z129⟩, st129⟩ := X126.virtualBack hx (y := (⟨"com/example/aspectwise/aspectwise/engine/BlockEnd", "side", "()Lcom/example/aspectwise/aspectwise/engine/BlockEnd$Side;"⟩ : MethodName)) (z := (⟨"com/example/aspectwise/aspectwise/engine/BlockEnd", "side", "()Lcom/example/aspectwise/aspectwise/engine/BlockEnd$Side;"⟩ : MethodName)) hown (mvT hZ (hw _ (List.mem_of_getElem? (i := 32) rfl))) (mvT hZ (hw _ (List.mem_of_getElem? (i := 33) rfl))) (notFace_of_selects (args := #[]) (mvT hZ (hw _ (List.mem_of_getElem? (i := 35) rfl)))) (mvT hZ (hw _ (List.mem_of_getElem? (i := 35) rfl))) (mvT hZ (hw _ (List.mem_of_getElem? (i := 34) rfl))) (by decide) (backOf (W := 0) (sid l Z a0 hw [] w_EAST w_WEST wCS G b1_126 w_WEST T126.heap n0 O126 (po126_3 : Fld Z T126.heap b1_126 "com/example/aspectwise/aspectwise/engine/BlockEnd" "side" "Lcom/example/aspectwise/aspectwise/engine/BlockEnd$Side;" (.ref w_WEST))) hZ (hw _ (List.mem_of_getElem? (i := 36) rfl)) (hw _ (List.mem_of_getElem? (i := 5) rfl)) (by decide) (by decide)) qq129a qq129c (g := (mkF m 213 #[iv p1, iv p2, iv p3, iv p4, rv w_WEST, iv (2 : Int32), rv b1_98, rv b101, rv b1_108, rv w_EAST, rv b1_126] [(.ref b1_126)])) rfl (by rw [hml]; rfl) (Steps.refl _) (argsL := []) (rest := []) (lenOf pd_11 rfl) rfl (by show 2 * 0 + _ ≤ _; exact Nat.le_of_eq rfl) (hb hby at_213) (fun _ _ => ⟨rfl, rfl, (by decide : 5 + 0 ≤ _), (by decide : 11 + 0 ≤ _)⟩)
      dsimp only [Pt.U, Pt.locs, Pt.cells, Pt.slots] at X129 l129 y129 z129 st129 hQ129
      subst l129 y129 z129
      obtain ⟨rfl, Nq129, e129⟩ := hQ129
      have N129 := Fr.app N126 Nq129
      have k130 : Way p e below S0 T129 (mkF m 216 #[iv p1, iv p2, iv p3, iv p4, rv w_WEST, iv (2 : Int32), rv b1_98, rv b101, rv b1_108, rv w_EAST, rv b1_126] [(.ref w_WEST)]) := fun t k => k128 t (st129.trans k)
      have k131 : Way p e below S0 T129 (mkF m 225 #[iv p1, iv p2, iv p3, iv p4, rv w_WEST, iv (2 : Int32), rv b1_98, rv b101, rv b1_108, rv w_EAST, rv b1_126] [(.ref b1_126), (.ref b1_98)]) := by
        intro t k
        refine k130 t ?_
        refine XS.aload X129.here hx rfl (hb hby at_216) rfl rfl ?_
        show Steps p.tables e below (T129.setTop (mkF m 218 #[iv p1, iv p2, iv p3, iv p4, rv w_WEST, iv (2 : Int32), rv b1_98, rv b101, rv b1_108, rv w_EAST, rv b1_126] [(.ref w_WEST), (.ref w_WEST)])) _
        refine Jvm.RoadKit.acmp (g := (mkF m 218 #[iv p1, iv p2, iv p3, iv p4, rv w_WEST, iv (2 : Int32), rv b1_98, rv b101, rv b1_108, rv w_EAST, rv b1_126] [(.ref w_WEST), (.ref w_WEST)])) X129 hx rfl rfl rfl (pc0 := 218) (pc' := 221) (same := true) rfl (hb hby at_218) rfl (decide_eq_true rfl) (by decide) (by decide) ?_
        show Steps p.tables e below (T129.setTop (mkF m 221 #[iv p1, iv p2, iv p3, iv p4, rv w_WEST, iv (2 : Int32), rv b1_98, rv b101, rv b1_108, rv w_EAST, rv b1_126] [])) _
        refine XS.aload X129.here hx rfl (hb hby at_221) rfl rfl ?_
        show Steps p.tables e below (T129.setTop (mkF m 223 #[iv p1, iv p2, iv p3, iv p4, rv w_WEST, iv (2 : Int32), rv b1_98, rv b101, rv b1_108, rv w_EAST, rv b1_126] [(.ref b1_98)])) _
        refine XS.aload X129.here hx rfl (hb hby at_223) rfl rfl ?_
        show Steps p.tables e below (T129.setTop (mkF m 225 #[iv p1, iv p2, iv p3, iv p4, rv w_WEST, iv (2 : Int32), rv b1_98, rv b101, rv b1_108, rv w_EAST, rv b1_126] [(.ref b1_126), (.ref b1_98)])) _
        exact k
      obtain ⟨cq132, kq132, qq132a, qq132b, qq132c⟩ := isOf hZ e129 po126_1
      obtain ⟨_, _, ⟨T132, L132, kk132, nn132⟩, -, X132, ⟨Lc132, hQ132, l132, y132, z132⟩, st132⟩ := X129.virtualBack hx (y := (⟨"com/example/aspectwise/aspectwise/engine/BlockEnd", "block", "()Ljava/lang/String;"⟩ : MethodName)) (z := (⟨"com/example/aspectwise/aspectwise/engine/BlockEnd", "block", "()Ljava/lang/String;"⟩ : MethodName)) hown (mvT hZ (hw _ (List.mem_of_getElem? (i := 37) rfl))) (mvT hZ (hw _ (List.mem_of_getElem? (i := 38) rfl))) (notFace_of_selects (args := #[]) (mvT hZ (hw _ (List.mem_of_getElem? (i := 40) rfl)))) (mvT hZ (hw _ (List.mem_of_getElem? (i := 40) rfl))) (mvT hZ (hw _ (List.mem_of_getElem? (i := 39) rfl))) (by decide) (backOf (W := 1) (blk0 l Z a0 hw [] w_EAST w_WEST wCS G b1_126 b1_98 T126.heap n0 O126 (po126_2 : Fld Z T126.heap b1_126 "com/example/aspectwise/aspectwise/engine/BlockEnd" "block" "Ljava/lang/String;" (.ref b1_98))) hZ (hw _ (List.mem_of_getElem? (i := 41) rfl)) (hw _ (List.mem_of_getElem? (i := 5) rfl)) (by decide) (by decide)) qq132a qq132c (g := (mkF m 225 #[iv p1, iv p2, iv p3, iv p4, rv w_WEST, iv (2 : Int32), rv b1_98, rv b101, rv b1_108, rv w_EAST, rv b1_126] [(.ref b1_126), (.ref b1_98)])) rfl (by rw [hml]; rfl) (Steps.refl _) (argsL := []) (rest := [(.ref b1_98)]) (lenOf pd_12 rfl) rfl (by show 2 * 0 + _ ≤ _; exact Nat.le_of_eq rfl) (hb hby at_225) (fun _ _ => ⟨rfl, e129, (by decide : 5 + 0 ≤ _), (by decide : 11 + 0 ≤ _)⟩)
      dsimp only [Pt.U, Pt.locs, Pt.cells, Pt.slots] at X132 l132 y132 z132 st132 hQ132
      subst l132 y132 z132
      obtain ⟨rfl, Nq132, e132⟩ := hQ132
      have N132 := Fr.app N129 Nq132
      have k133 : Way p e below S0 T132 (mkF m 228 #[iv p1, iv p2, iv p3, iv p4, rv w_WEST, iv (2 : Int32), rv b1_98, rv b101, rv b1_108, rv w_EAST, rv b1_126] [(.ref b1_98), (.ref b1_98)]) := fun t k => k131 t (st132.trans k)
      have f134 : Exa Z T126.heap b1_98 "java/lang/String" := (f122.keep Kq126)
      obtain ⟨_, _, ⟨T135, L135, kk135, nn135⟩, -, X135, ⟨Lc135, hQ135, l135, y135, z135⟩, st135⟩ := Jvm.LawKit.callS X132 hx (y := (⟨"com/example/aspectwise/aspectwise/engine/BlockEndOppositePinLaw", "sameBlock", "(Ljava/lang/String;Ljava/lang/String;)Z"⟩ : MethodName)) hown (mvT hZ (hw _ (List.mem_of_getElem? (i := 42) rfl))) (mvT hZ (hw _ (List.mem_of_getElem? (i := 43) rfl))) (mvT hZ (hw _ (List.mem_of_getElem? (i := 44) rfl))) (mvT hZ (hw _ (List.mem_of_getElem? (i := 45) rfl))) (by decide) (backOf (W := 0) (sb1 l Z a0 hw [] w_EAST w_WEST wCS G b1_98 T126.heap n0 O126 (f134 : Exa Z T126.heap b1_98 "java/lang/String")) hZ (hw _ (List.mem_of_getElem? (i := 45) rfl)) (hw _ (List.mem_of_getElem? (i := 44) rfl)) (by decide) (by decide)) (g := (mkF m 228 #[iv p1, iv p2, iv p3, iv p4, rv w_WEST, iv (2 : Int32), rv b1_98, rv b101, rv b1_108, rv w_EAST, rv b1_126] [(.ref b1_98), (.ref b1_98)])) rfl (by rw [hml]; rfl) (argsL := [(.ref b1_98), (.ref b1_98)]) (rest := []) (lenOf pd_13 rfl) rfl (by show 2 * 0 + _ ≤ _; exact Nat.le_of_eq rfl) (hb hby at_228) (fun _ _ => ⟨rfl, e132, (by decide : 5 + 0 ≤ _), (by decide : 11 + 0 ≤ _)⟩)
      dsimp only [Pt.U, Pt.locs, Pt.cells, Pt.slots] at X135 l135 y135 z135 st135 hQ135
      subst l135 y135 z135
      obtain ⟨rfl, Nq135, e135⟩ := hQ135
      have N135 := Fr.app N132 Nq135
      have k136 : Way p e below S0 T135 (mkF m 231 #[iv p1, iv p2, iv p3, iv p4, rv w_WEST, iv (2 : Int32), rv b1_98, rv b101, rv b1_108, rv w_EAST, rv b1_126] [(.int (1 : Int32))]) := fun t k => k133 t (st135 _ k)
      have k137 : Way p e below S0 T135 (mkF m 239 #[iv p1, iv p2, iv p3, iv p4, rv w_WEST, iv (2 : Int32), rv b1_98, rv b101, rv b1_108, rv w_EAST, rv b1_126] [(.int (1 : Int32))]) := by
        intro t k
        refine k136 t ?_
        refine XS.ifNo X135.here hx rfl (hb hby at_231) rfl ((if0 _ _).trans (feq ((by decide) : ¬ ((1 : Int32) = (0 : Int32)))).1) ?_
        show Steps p.tables e below (T135.setTop (mkF m 234 #[iv p1, iv p2, iv p3, iv p4, rv w_WEST, iv (2 : Int32), rv b1_98, rv b101, rv b1_108, rv w_EAST, rv b1_126] [])) _
        refine XS.iconst X135.here hx rfl (hb hby at_234) ?_
        show Steps p.tables e below (T135.setTop (mkF m 235 #[iv p1, iv p2, iv p3, iv p4, rv w_WEST, iv (2 : Int32), rv b1_98, rv b101, rv b1_108, rv w_EAST, rv b1_126] [(.int (1 : Int32))])) _
        refine XS.goto X135.here hx rfl (pc0 := 235) (pc' := 239) rfl (hb hby at_235) (by decide) (by decide) ?_
        show Steps p.tables e below (T135.setTop (mkF m 239 #[iv p1, iv p2, iv p3, iv p4, rv w_WEST, iv (2 : Int32), rv b1_98, rv b101, rv b1_108, rv w_EAST, rv b1_126] [(.int (1 : Int32))])) _
        exact k
      obtain ⟨fs, hr, hrun, hended, hRW⟩ := Stand.leaveW (s := s) (vm₁ := s.vm) X135 hS0 (by rw [e135]; exact (Nat.zero_le _)) (v := some (.int (1 : Int32))) (fun h => by rw [Bd.returns] at h; cases h)
      refine ⟨_, _, k137 _ (retN X135 hx (t := .boolean) Bd.returns (by simp) (hb hby at_239) hr), hrun, hended, _, _, rfl, ?_, own_rw hRW (by decide) (by decide)⟩
      show Q_law_met Z w_EAST w_WEST wCS p1 p2 p3 p4 h0 n0 _ T135.heap _
      rw [e135]
      exact ⟨rfl, N135⟩
    · have k138 : Way p e below S0 T4 (mkF m 24 #[iv p1, iv p2, iv p3, iv p4, rv w_WEST, iv (3 : Int32), .unset, .unset, .unset, .unset, .unset] []) := by have q := k6; rw [hi7] at q; exact q
      have k139 : Way p e below S0 T4 (mkF m 77 #[iv p1, iv p2, iv p3, iv p4, rv w_WEST, iv (3 : Int32), .unset, .unset, .unset, .unset, .unset] [(.int (3 : Int32))]) := by
        intro t k
        refine k138 t ?_
        refine XS.iload X4.here hx rfl (hb hby at_24) rfl ?_
        show Steps p.tables e below (T4.setTop (mkF m 26 #[iv p1, iv p2, iv p3, iv p4, rv w_WEST, iv (3 : Int32), .unset, .unset, .unset, .unset, .unset] [(.int (3 : Int32))])) _
        refine XS.ifYes X4.here hx rfl (pc0 := 26) (pc' := 35) rfl (hb hby at_26) rfl ((if0 _ _).trans (feq ((by decide) : ¬ ((3 : Int32) = (0 : Int32)))).2) (by decide) (by decide) ?_
        show Steps p.tables e below (T4.setTop (mkF m 35 #[iv p1, iv p2, iv p3, iv p4, rv w_WEST, iv (3 : Int32), .unset, .unset, .unset, .unset, .unset] [])) _
        refine XS.iload X4.here hx rfl (hb hby at_35) rfl ?_
        show Steps p.tables e below (T4.setTop (mkF m 37 #[iv p1, iv p2, iv p3, iv p4, rv w_WEST, iv (3 : Int32), .unset, .unset, .unset, .unset, .unset] [(.int (3 : Int32))])) _
        refine XS.iconst X4.here hx rfl (hb hby at_37) ?_
        show Steps p.tables e below (T4.setTop (mkF m 38 #[iv p1, iv p2, iv p3, iv p4, rv w_WEST, iv (3 : Int32), .unset, .unset, .unset, .unset, .unset] [(.int (1 : Int32)), (.int (3 : Int32))])) _
        refine XS.icmpYes X4.here hx rfl (pc0 := 38) (pc' := 56) rfl (hb hby at_38) rfl (feq ((by decide) : ¬ ((3 : Int32) = (1 : Int32)))).2 (by decide) (by decide) ?_
        show Steps p.tables e below (T4.setTop (mkF m 56 #[iv p1, iv p2, iv p3, iv p4, rv w_WEST, iv (3 : Int32), .unset, .unset, .unset, .unset, .unset] [])) _
        refine XS.iload X4.here hx rfl (hb hby at_56) rfl ?_
        show Steps p.tables e below (T4.setTop (mkF m 58 #[iv p1, iv p2, iv p3, iv p4, rv w_WEST, iv (3 : Int32), .unset, .unset, .unset, .unset, .unset] [(.int (3 : Int32))])) _
        refine XS.iconst X4.here hx rfl (hb hby at_58) ?_
        show Steps p.tables e below (T4.setTop (mkF m 59 #[iv p1, iv p2, iv p3, iv p4, rv w_WEST, iv (3 : Int32), .unset, .unset, .unset, .unset, .unset] [(.int (2 : Int32)), (.int (3 : Int32))])) _
        refine XS.icmpYes X4.here hx rfl (pc0 := 59) (pc' := 76) rfl (hb hby at_59) rfl (feq ((by decide) : ¬ ((3 : Int32) = (2 : Int32)))).2 (by decide) (by decide) ?_
        show Steps p.tables e below (T4.setTop (mkF m 76 #[iv p1, iv p2, iv p3, iv p4, rv w_WEST, iv (3 : Int32), .unset, .unset, .unset, .unset, .unset] [])) _
        refine XS.iconst X4.here hx rfl (hb hby at_76) ?_
        show Steps p.tables e below (T4.setTop (mkF m 77 #[iv p1, iv p2, iv p3, iv p4, rv w_WEST, iv (3 : Int32), .unset, .unset, .unset, .unset, .unset] [(.int (3 : Int32))])) _
        exact k
      obtain ⟨T140, h140, c140, X140, e140, E140, A140, B140, st140⟩ := newPE X4 hx hZ (hw _ (List.mem_of_getElem? (i := 49) rfl)) e4 (g := (mkF m 77 #[iv p1, iv p2, iv p3, iv p4, rv w_WEST, iv (3 : Int32), .unset, .unset, .unset, .unset, .unset] [(.int (3 : Int32))])) rfl (hb hby at_77) rfl (by decide) (cap := 3) (by decide) (by decide) (by decide) (by decide) (ad := "[C") (by decide)
      obtain ⟨b140, g140⟩ : ∃ z, z = h0.size := ⟨_, rfl⟩
      rw [← g140] at A140 B140 st140
      have O140 := O0.ext E140
      have v140 : Arv Z h140 b140 c140 .char (3 : Int32) [(.int (0 : Int32)), (.int (0 : Int32)), (.int (0 : Int32))] (.int (0 : Int32)) := (Arv.new A140 (by decide)).pad (pad_rep [] (.int (0 : Int32)) 3)
      have k141 : Way p e below S0 T140 (mkF m 79 #[iv p1, iv p2, iv p3, iv p4, rv w_WEST, iv (3 : Int32), .unset, .unset, .unset, .unset, .unset] [(.ref b140)]) := fun t k => k139 t (st140 _ k)
      have k142 : Way p e below S0 T140 (mkF m 90 #[iv p1, iv p2, iv p3, iv p4, rv w_WEST, iv (3 : Int32), .unset, rv b140, .unset, .unset, .unset] [(.int ((p1 &&& (255 : Int32)).toUInt32.toUInt16.toUInt32.toInt32)), (.int (0 : Int32)), (.ref b140)]) := by
        intro t k
        refine k141 t ?_
        refine XS.astore X140.here hx rfl (hb hby at_79) rfl rfl (l' := #[iv p1, iv p2, iv p3, iv p4, rv w_WEST, iv (3 : Int32), .unset, rv b140, .unset, .unset, .unset]) rfl ?_
        show Steps p.tables e below (T140.setTop (mkF m 81 #[iv p1, iv p2, iv p3, iv p4, rv w_WEST, iv (3 : Int32), .unset, rv b140, .unset, .unset, .unset] [])) _
        refine XS.aload X140.here hx rfl (hb hby at_81) rfl rfl ?_
        show Steps p.tables e below (T140.setTop (mkF m 83 #[iv p1, iv p2, iv p3, iv p4, rv w_WEST, iv (3 : Int32), .unset, rv b140, .unset, .unset, .unset] [(.ref b140)])) _
        refine XS.iconst X140.here hx rfl (hb hby at_83) ?_
        show Steps p.tables e below (T140.setTop (mkF m 84 #[iv p1, iv p2, iv p3, iv p4, rv w_WEST, iv (3 : Int32), .unset, rv b140, .unset, .unset, .unset] [(.int (0 : Int32)), (.ref b140)])) _
        refine XS.iloadN X140.here hx rfl (hb hby at_84) rfl ?_
        show Steps p.tables e below (T140.setTop (mkF m 85 #[iv p1, iv p2, iv p3, iv p4, rv w_WEST, iv (3 : Int32), .unset, rv b140, .unset, .unset, .unset] [(.int p1), (.int (0 : Int32)), (.ref b140)])) _
        refine XS.sipush X140.here hx rfl (hb hby at_85) ?_
        show Steps p.tables e below (T140.setTop (mkF m 88 #[iv p1, iv p2, iv p3, iv p4, rv w_WEST, iv (3 : Int32), .unset, rv b140, .unset, .unset, .unset] [(.int (255 : Int32)), (.int p1), (.int (0 : Int32)), (.ref b140)])) _
        refine XS.iand X140.here hx rfl (hb hby at_88) rfl ?_
        show Steps p.tables e below (T140.setTop (mkF m 89 #[iv p1, iv p2, iv p3, iv p4, rv w_WEST, iv (3 : Int32), .unset, rv b140, .unset, .unset, .unset] [(.int (p1 &&& (255 : Int32))), (.int (0 : Int32)), (.ref b140)])) _
        refine XS.i2c X140.here hx rfl (hb hby at_89) rfl ?_
        show Steps p.tables e below (T140.setTop (mkF m 90 #[iv p1, iv p2, iv p3, iv p4, rv w_WEST, iv (3 : Int32), .unset, rv b140, .unset, .unset, .unset] [(.int ((p1 &&& (255 : Int32)).toUInt32.toUInt16.toUInt32.toInt32)), (.int (0 : Int32)), (.ref b140)])) _
        exact k
      obtain ⟨cl143, Ar143, qc143, S143, M143, U143, G143⟩ := id (v140)
      have hin143 : ¬ ((0 : Int32) < 0 ∨ cl143.slots.size ≤ ((0 : Int32)).toNatClampNeg) := inb_of S143 ⟨by decide, by decide⟩
      obtain ⟨T143, h143, X143, e143, W143, st143⟩ := stC X140 hx hZ e140 Ar143 (j := (0 : Int32)) hin143 (g := (mkF m 90 #[iv p1, iv p2, iv p3, iv p4, rv w_WEST, iv (3 : Int32), .unset, rv b140, .unset, .unset, .unset] [(.int ((p1 &&& (255 : Int32)).toUInt32.toUInt16.toUInt32.toInt32)), (.int (0 : Int32)), (.ref b140)])) rfl rfl (hb hby at_90)
      have ge144 : n0 ≤ b140 := Nat.le_trans (own_old O0) (Nat.le_of_eq g140.symm)
      have O143 := O140.wr W143 ge144
      have N143 := Fr.snoc X143 N0 ge144
      have va143 : Arv Z h143 b140 c140 .char (3 : Int32) [(.int (((p1 &&& (255 : Int32)).toUInt32.toUInt16.toUInt32.toInt32).toUInt32.toUInt16.toUInt32.toInt32)), (.int (0 : Int32)), (.int (0 : Int32))] (.int (0 : Int32)) := Arv.set Ar143 qc143 S143 M143 U143 G143 (fits_nar_char _) W143 0 rfl (Nat.le_of_ble_eq_true rfl)
      have k145 : Way p e below S0 T143 (mkF m 91 #[iv p1, iv p2, iv p3, iv p4, rv w_WEST, iv (3 : Int32), .unset, rv b140, .unset, .unset, .unset] []) := fun t k => k142 t (st143 _ k)
      have k146 : Way p e below S0 T143 (mkF m 100 #[iv p1, iv p2, iv p3, iv p4, rv w_WEST, iv (3 : Int32), .unset, rv b140, .unset, .unset, .unset] [(.int ((p2 &&& (255 : Int32)).toUInt32.toUInt16.toUInt32.toInt32)), (.int (1 : Int32)), (.ref b140)]) := by
        intro t k
        refine k145 t ?_
        refine XS.aload X143.here hx rfl (hb hby at_91) rfl rfl ?_
        show Steps p.tables e below (T143.setTop (mkF m 93 #[iv p1, iv p2, iv p3, iv p4, rv w_WEST, iv (3 : Int32), .unset, rv b140, .unset, .unset, .unset] [(.ref b140)])) _
        refine XS.iconst X143.here hx rfl (hb hby at_93) ?_
        show Steps p.tables e below (T143.setTop (mkF m 94 #[iv p1, iv p2, iv p3, iv p4, rv w_WEST, iv (3 : Int32), .unset, rv b140, .unset, .unset, .unset] [(.int (1 : Int32)), (.ref b140)])) _
        refine XS.iloadN X143.here hx rfl (hb hby at_94) rfl ?_
        show Steps p.tables e below (T143.setTop (mkF m 95 #[iv p1, iv p2, iv p3, iv p4, rv w_WEST, iv (3 : Int32), .unset, rv b140, .unset, .unset, .unset] [(.int p2), (.int (1 : Int32)), (.ref b140)])) _
        refine XS.sipush X143.here hx rfl (hb hby at_95) ?_
        show Steps p.tables e below (T143.setTop (mkF m 98 #[iv p1, iv p2, iv p3, iv p4, rv w_WEST, iv (3 : Int32), .unset, rv b140, .unset, .unset, .unset] [(.int (255 : Int32)), (.int p2), (.int (1 : Int32)), (.ref b140)])) _
        refine XS.iand X143.here hx rfl (hb hby at_98) rfl ?_
        show Steps p.tables e below (T143.setTop (mkF m 99 #[iv p1, iv p2, iv p3, iv p4, rv w_WEST, iv (3 : Int32), .unset, rv b140, .unset, .unset, .unset] [(.int (p2 &&& (255 : Int32))), (.int (1 : Int32)), (.ref b140)])) _
        refine XS.i2c X143.here hx rfl (hb hby at_99) rfl ?_
        show Steps p.tables e below (T143.setTop (mkF m 100 #[iv p1, iv p2, iv p3, iv p4, rv w_WEST, iv (3 : Int32), .unset, rv b140, .unset, .unset, .unset] [(.int ((p2 &&& (255 : Int32)).toUInt32.toUInt16.toUInt32.toInt32)), (.int (1 : Int32)), (.ref b140)])) _
        exact k
      obtain ⟨cl147, Ar147, qc147, S147, M147, U147, G147⟩ := id (va143)
      have hin147 : ¬ ((1 : Int32) < 0 ∨ cl147.slots.size ≤ ((1 : Int32)).toNatClampNeg) := inb_of S147 ⟨by decide, by decide⟩
      obtain ⟨T147, h147, X147, e147, W147, st147⟩ := stC X143 hx hZ e143 Ar147 (j := (1 : Int32)) hin147 (g := (mkF m 100 #[iv p1, iv p2, iv p3, iv p4, rv w_WEST, iv (3 : Int32), .unset, rv b140, .unset, .unset, .unset] [(.int ((p2 &&& (255 : Int32)).toUInt32.toUInt16.toUInt32.toInt32)), (.int (1 : Int32)), (.ref b140)])) rfl rfl (hb hby at_100)
      have O147 := O143.wr W147 ge144
      have N147 := Fr.snoc X147 N143 ge144
      have va147 : Arv Z h147 b140 c140 .char (3 : Int32) [(.int (((p1 &&& (255 : Int32)).toUInt32.toUInt16.toUInt32.toInt32).toUInt32.toUInt16.toUInt32.toInt32)), (.int (((p2 &&& (255 : Int32)).toUInt32.toUInt16.toUInt32.toInt32).toUInt32.toUInt16.toUInt32.toInt32)), (.int (0 : Int32))] (.int (0 : Int32)) := Arv.set Ar147 qc147 S147 M147 U147 G147 (fits_nar_char _) W147 1 rfl (Nat.le_of_ble_eq_true rfl)
      have k148 : Way p e below S0 T147 (mkF m 101 #[iv p1, iv p2, iv p3, iv p4, rv w_WEST, iv (3 : Int32), .unset, rv b140, .unset, .unset, .unset] []) := fun t k => k146 t (st147 _ k)
      have k149 : Way p e below S0 T147 (mkF m 110 #[iv p1, iv p2, iv p3, iv p4, rv w_WEST, iv (3 : Int32), .unset, rv b140, .unset, .unset, .unset] [(.int ((p3 &&& (255 : Int32)).toUInt32.toUInt16.toUInt32.toInt32)), (.int (2 : Int32)), (.ref b140)]) := by
        intro t k
        refine k148 t ?_
        refine XS.aload X147.here hx rfl (hb hby at_101) rfl rfl ?_
        show Steps p.tables e below (T147.setTop (mkF m 103 #[iv p1, iv p2, iv p3, iv p4, rv w_WEST, iv (3 : Int32), .unset, rv b140, .unset, .unset, .unset] [(.ref b140)])) _
        refine XS.iconst X147.here hx rfl (hb hby at_103) ?_
        show Steps p.tables e below (T147.setTop (mkF m 104 #[iv p1, iv p2, iv p3, iv p4, rv w_WEST, iv (3 : Int32), .unset, rv b140, .unset, .unset, .unset] [(.int (2 : Int32)), (.ref b140)])) _
        refine XS.iloadN X147.here hx rfl (hb hby at_104) rfl ?_
        show Steps p.tables e below (T147.setTop (mkF m 105 #[iv p1, iv p2, iv p3, iv p4, rv w_WEST, iv (3 : Int32), .unset, rv b140, .unset, .unset, .unset] [(.int p3), (.int (2 : Int32)), (.ref b140)])) _
        refine XS.sipush X147.here hx rfl (hb hby at_105) ?_
        show Steps p.tables e below (T147.setTop (mkF m 108 #[iv p1, iv p2, iv p3, iv p4, rv w_WEST, iv (3 : Int32), .unset, rv b140, .unset, .unset, .unset] [(.int (255 : Int32)), (.int p3), (.int (2 : Int32)), (.ref b140)])) _
        refine XS.iand X147.here hx rfl (hb hby at_108) rfl ?_
        show Steps p.tables e below (T147.setTop (mkF m 109 #[iv p1, iv p2, iv p3, iv p4, rv w_WEST, iv (3 : Int32), .unset, rv b140, .unset, .unset, .unset] [(.int (p3 &&& (255 : Int32))), (.int (2 : Int32)), (.ref b140)])) _
        refine XS.i2c X147.here hx rfl (hb hby at_109) rfl ?_
        show Steps p.tables e below (T147.setTop (mkF m 110 #[iv p1, iv p2, iv p3, iv p4, rv w_WEST, iv (3 : Int32), .unset, rv b140, .unset, .unset, .unset] [(.int ((p3 &&& (255 : Int32)).toUInt32.toUInt16.toUInt32.toInt32)), (.int (2 : Int32)), (.ref b140)])) _
        exact k
      obtain ⟨cl150, Ar150, qc150, S150, M150, U150, G150⟩ := id (va147)
      have hin150 : ¬ ((2 : Int32) < 0 ∨ cl150.slots.size ≤ ((2 : Int32)).toNatClampNeg) := inb_of S150 ⟨by decide, by decide⟩
      obtain ⟨T150, h150, X150, e150, W150, st150⟩ := stC X147 hx hZ e147 Ar150 (j := (2 : Int32)) hin150 (g := (mkF m 110 #[iv p1, iv p2, iv p3, iv p4, rv w_WEST, iv (3 : Int32), .unset, rv b140, .unset, .unset, .unset] [(.int ((p3 &&& (255 : Int32)).toUInt32.toUInt16.toUInt32.toInt32)), (.int (2 : Int32)), (.ref b140)])) rfl rfl (hb hby at_110)
      have O150 := O147.wr W150 ge144
      have N150 := Fr.snoc X150 N147 ge144
      have va150 : Arv Z h150 b140 c140 .char (3 : Int32) [(.int (((p1 &&& (255 : Int32)).toUInt32.toUInt16.toUInt32.toInt32).toUInt32.toUInt16.toUInt32.toInt32)), (.int (((p2 &&& (255 : Int32)).toUInt32.toUInt16.toUInt32.toInt32).toUInt32.toUInt16.toUInt32.toInt32)), (.int (((p3 &&& (255 : Int32)).toUInt32.toUInt16.toUInt32.toInt32).toUInt32.toUInt16.toUInt32.toInt32))] (.int (0 : Int32)) := Arv.set Ar150 qc150 S150 M150 U150 G150 (fits_nar_char _) W150 2 rfl (Nat.le_of_ble_eq_true rfl)
      have k151 : Way p e below S0 T150 (mkF m 111 #[iv p1, iv p2, iv p3, iv p4, rv w_WEST, iv (3 : Int32), .unset, rv b140, .unset, .unset, .unset] []) := fun t k => k149 t (st150 _ k)
      obtain ⟨T152, h152, X152, e152, E152, A152, D152, U152, st152⟩ := newO X150 hx hZ hown (hw _ (List.mem_of_getElem? (i := 46) rfl)) (hw _ (List.mem_of_getElem? (i := 47) rfl)) (hw _ (List.mem_of_getElem? (i := 48) rfl)) e150 (g := (mkF m 111 #[iv p1, iv p2, iv p3, iv p4, rv w_WEST, iv (3 : Int32), .unset, rv b140, .unset, .unset, .unset] [])) rfl (hb hby at_111) (by decide) (by decide)
      obtain ⟨b152, g152⟩ : ∃ z, z = h150.size := ⟨_, rfl⟩
      rw [← g152] at A152 D152 U152 st152
      have O152 := O150.ext E152
      have i152_value : Fld Z h152 b152 "java/lang/String" "value" "[B" .null := D152 (Or.inr (hw _ (List.mem_of_getElem? (i := 60) rfl))) (ty := (.array .byte)) (by decide)
      have i152_coder : Fld Z h152 b152 "java/lang/String" "coder" "B" (.int (0 : Int32)) := D152 (Or.inr (hw _ (List.mem_of_getElem? (i := 61) rfl))) (ty := .byte) (by decide)
      have k153 : Way p e below S0 T152 (mkF m 114 #[iv p1, iv p2, iv p3, iv p4, rv w_WEST, iv (3 : Int32), .unset, rv b140, .unset, .unset, .unset] [(.ref b152)]) := fun t k => k151 t (st152 _ k)
      have k154 : Way p e below S0 T152 (mkF m 117 #[iv p1, iv p2, iv p3, iv p4, rv w_WEST, iv (3 : Int32), .unset, rv b140, .unset, .unset, .unset] [(.ref b140), (.ref b152), (.ref b152)]) := by
        intro t k
        refine k153 t ?_
        refine XS.dup X152.here hx rfl (hb hby at_114) rfl rfl ?_
        show Steps p.tables e below (T152.setTop (mkF m 115 #[iv p1, iv p2, iv p3, iv p4, rv w_WEST, iv (3 : Int32), .unset, rv b140, .unset, .unset, .unset] [(.ref b152), (.ref b152)])) _
        refine XS.aload X152.here hx rfl (hb hby at_115) rfl rfl ?_
        show Steps p.tables e below (T152.setTop (mkF m 117 #[iv p1, iv p2, iv p3, iv p4, rv w_WEST, iv (3 : Int32), .unset, rv b140, .unset, .unset, .unset] [(.ref b140), (.ref b152), (.ref b152)])) _
        exact k
      have ge155 : n0 ≤ b152 := Nat.le_trans (own_old O150) (Nat.le_of_eq g152.symm)
      have f156 : Arv Z h152 b140 c140 .char (3 : Int32) [(.int (((p1 &&& (255 : Int32)).toUInt32.toUInt16.toUInt32.toInt32).toUInt32.toUInt16.toUInt32.toInt32)), (.int (((p2 &&& (255 : Int32)).toUInt32.toUInt16.toUInt32.toInt32).toUInt32.toUInt16.toUInt32.toInt32)), (.int (((p3 &&& (255 : Int32)).toUInt32.toUInt16.toUInt32.toInt32).toUInt32.toUInt16.toUInt32.toInt32))] (.int (0 : Int32)) := (va150.ext E152)
      obtain ⟨_, _, ⟨T157, L157, kk157, nn157⟩, -, X157, ⟨Lc157, hQ157, l157, y157, z157⟩, st157⟩ := X152.specialBack hx (y := (⟨"java/lang/String", "<init>", "([C)V"⟩ : MethodName)) rfl hown (mvT hZ (hw _ (List.mem_of_getElem? (i := 50) rfl))) (mvT hZ (hw _ (List.mem_of_getElem? (i := 51) rfl))) (mvT hZ (hw _ (List.mem_of_getElem? (i := 52) rfl))) (by decide) (backOf (W := 1) (sinit_3 l Z a0 hw [] w_EAST w_WEST wCS G b152 b140 c140 (((p1 &&& (255 : Int32)).toUInt32.toUInt16.toUInt32.toInt32).toUInt32.toUInt16.toUInt32.toInt32) (((p2 &&& (255 : Int32)).toUInt32.toUInt16.toUInt32.toInt32).toUInt32.toUInt16.toUInt32.toInt32) (((p3 &&& (255 : Int32)).toUInt32.toUInt16.toUInt32.toInt32).toUInt32.toUInt16.toUInt32.toInt32) h152 n0 O152 (A152 : Exa Z h152 b152 "java/lang/String") (i152_value : Fld Z h152 b152 "java/lang/String" "value" "[B" .null) (i152_coder : Fld Z h152 b152 "java/lang/String" "coder" "B" (.int (0 : Int32))) (ge155 : n0 ≤ b152) ((Ne.symm (Nat.ne_of_lt (Nat.lt_of_lt_of_le (((B140.wr W143).wr W147).wr W150).lt (Nat.le_of_eq g152.symm)))) : b152 ≠ b140) (f156 : Arv Z h152 b140 c140 .char (3 : Int32) [(.int (((p1 &&& (255 : Int32)).toUInt32.toUInt16.toUInt32.toInt32).toUInt32.toUInt16.toUInt32.toInt32)), (.int (((p2 &&& (255 : Int32)).toUInt32.toUInt16.toUInt32.toInt32).toUInt32.toUInt16.toUInt32.toInt32)), (.int (((p3 &&& (255 : Int32)).toUInt32.toUInt16.toUInt32.toInt32).toUInt32.toUInt16.toUInt32.toInt32))] (.int (0 : Int32))) (own_chr _ : ¬ ((255 : Int32) < (((p1 &&& (255 : Int32)).toUInt32.toUInt16.toUInt32.toInt32).toUInt32.toUInt16.toUInt32.toInt32))) (own_chr _ : ¬ ((255 : Int32) < (((p2 &&& (255 : Int32)).toUInt32.toUInt16.toUInt32.toInt32).toUInt32.toUInt16.toUInt32.toInt32))) (own_chr _ : ¬ ((255 : Int32) < (((p3 &&& (255 : Int32)).toUInt32.toUInt16.toUInt32.toInt32).toUInt32.toUInt16.toUInt32.toInt32)))) hZ (hw _ (List.mem_of_getElem? (i := 52) rfl)) (hw _ (List.mem_of_getElem? (i := 48) rfl)) (by decide) (by decide)) (g := (mkF m 117 #[iv p1, iv p2, iv p3, iv p4, rv w_WEST, iv (3 : Int32), .unset, rv b140, .unset, .unset, .unset] [(.ref b140), (.ref b152), (.ref b152)])) rfl (by rw [hml]; rfl) (Steps.refl _) (a := b152) (argsL := [(.ref b140)]) (rest := [(.ref b152)]) (lenOf pd_14 rfl) rfl (by show 2 * 0 + _ ≤ _; exact Nat.le_of_eq rfl) (hb hby at_117) (fun _ _ => ⟨rfl, e152, (by decide : 2 + 1 ≤ _), (by decide : 7 + 3 ≤ _)⟩)
      dsimp only [Pt.U, Pt.locs, Pt.cells, Pt.slots] at X157 l157 y157 z157 st157 hQ157
      subst l157 y157 z157
      obtain ⟨d1_157, kb_157, rfl, Nq157, Kq157, po157_0, po157_1, po157_2, po157_3, po157_4, po157_5⟩ := hQ157
      have N157 := Fr.app N150 Nq157
      have O157 := O152.keep Kq157 (allS ge155 all0)
      have k158 : Way p e below S0 T157 (mkF m 120 #[iv p1, iv p2, iv p3, iv p4, rv w_WEST, iv (3 : Int32), .unset, rv b140, .unset, .unset, .unset] [(.ref b152)]) := fun t k => k154 t (st157.trans k)
      have k159 : Way p e below S0 T157 (mkF m 122 #[iv p1, iv p2, iv p3, iv p4, rv w_WEST, iv (3 : Int32), rv b152, rv b140, .unset, .unset, .unset] []) := by
        intro t k
        refine k158 t ?_
        refine XS.astore X157.here hx rfl (hb hby at_120) rfl rfl (l' := #[iv p1, iv p2, iv p3, iv p4, rv w_WEST, iv (3 : Int32), rv b152, rv b140, .unset, .unset, .unset]) rfl ?_
        show Steps p.tables e below (T157.setTop (mkF m 122 #[iv p1, iv p2, iv p3, iv p4, rv w_WEST, iv (3 : Int32), rv b152, rv b140, .unset, .unset, .unset] [])) _
        exact k
      obtain ⟨T160, h160, X160, e160, E160, A160, D160, U160, st160⟩ := newO X157 hx hZ hown (hw _ (List.mem_of_getElem? (i := 3) rfl)) (hw _ (List.mem_of_getElem? (i := 4) rfl)) (hw _ (List.mem_of_getElem? (i := 5) rfl)) rfl (g := (mkF m 122 #[iv p1, iv p2, iv p3, iv p4, rv w_WEST, iv (3 : Int32), rv b152, rv b140, .unset, .unset, .unset] [])) rfl (hb hby at_122) (by decide) (by decide)
      obtain ⟨b160, g160⟩ : ∃ z, z = T157.heap.size := ⟨_, rfl⟩
      rw [← g160] at A160 D160 U160 st160
      have O160 := O157.ext E160
      have i160_block : Fld Z h160 b160 "com/example/aspectwise/aspectwise/engine/BlockEnd" "block" "Ljava/lang/String;" .null := D160 (Or.inr (hw _ (List.mem_of_getElem? (i := 18) rfl))) (ty := (.object "java/lang/String")) (by decide)
      have i160_side : Fld Z h160 b160 "com/example/aspectwise/aspectwise/engine/BlockEnd" "side" "Lcom/example/aspectwise/aspectwise/engine/BlockEnd$Side;" .null := D160 (Or.inr (hw _ (List.mem_of_getElem? (i := 20) rfl))) (ty := (.object "com/example/aspectwise/aspectwise/engine/BlockEnd$Side")) (by decide)
      have k161 : Way p e below S0 T160 (mkF m 125 #[iv p1, iv p2, iv p3, iv p4, rv w_WEST, iv (3 : Int32), rv b152, rv b140, .unset, .unset, .unset] [(.ref b160)]) := fun t k => k159 t (st160 _ k)
      have k162 : Way p e below S0 T160 (mkF m 130 #[iv p1, iv p2, iv p3, iv p4, rv w_WEST, iv (3 : Int32), rv b152, rv b140, .unset, .unset, .unset] [(.ref w_WEST), (.ref b152), (.ref b160), (.ref b160)]) := by
        intro t k
        refine k161 t ?_
        refine XS.dup X160.here hx rfl (hb hby at_125) rfl rfl ?_
        show Steps p.tables e below (T160.setTop (mkF m 126 #[iv p1, iv p2, iv p3, iv p4, rv w_WEST, iv (3 : Int32), rv b152, rv b140, .unset, .unset, .unset] [(.ref b160), (.ref b160)])) _
        refine XS.aload X160.here hx rfl (hb hby at_126) rfl rfl ?_
        show Steps p.tables e below (T160.setTop (mkF m 128 #[iv p1, iv p2, iv p3, iv p4, rv w_WEST, iv (3 : Int32), rv b152, rv b140, .unset, .unset, .unset] [(.ref b152), (.ref b160), (.ref b160)])) _
        refine XS.aload X160.here hx rfl (hb hby at_128) rfl rfl ?_
        show Steps p.tables e below (T160.setTop (mkF m 130 #[iv p1, iv p2, iv p3, iv p4, rv w_WEST, iv (3 : Int32), rv b152, rv b140, .unset, .unset, .unset] [(.ref w_WEST), (.ref b152), (.ref b160), (.ref b160)])) _
        exact k
      have ge163 : n0 ≤ b160 := Nat.le_trans (own_old O157) (Nat.le_of_eq g160.symm)
      obtain ⟨_, _, ⟨T164, L164, kk164, nn164⟩, -, X164, ⟨Lc164, hQ164, l164, y164, z164⟩, st164⟩ := X160.specialBack hx (y := (⟨"com/example/aspectwise/aspectwise/engine/BlockEnd", "<init>", "(Ljava/lang/String;Lcom/example/aspectwise/aspectwise/engine/BlockEnd$Side;)V"⟩ : MethodName)) rfl hown (mvT hZ (hw _ (List.mem_of_getElem? (i := 6) rfl))) (mvT hZ (hw _ (List.mem_of_getElem? (i := 7) rfl))) (mvT hZ (hw _ (List.mem_of_getElem? (i := 8) rfl))) (by decide) (backOf (W := 1) (bi1 l Z a0 hw [] w_EAST w_WEST wCS G b160 b152 w_WEST h160 n0 O160 (A160 : Exa Z h160 b160 "com/example/aspectwise/aspectwise/engine/BlockEnd") (i160_block : Fld Z h160 b160 "com/example/aspectwise/aspectwise/engine/BlockEnd" "block" "Ljava/lang/String;" .null) (i160_side : Fld Z h160 b160 "com/example/aspectwise/aspectwise/engine/BlockEnd" "side" "Lcom/example/aspectwise/aspectwise/engine/BlockEnd$Side;" .null) (ge163 : n0 ≤ b160)) hZ (hw _ (List.mem_of_getElem? (i := 8) rfl)) (hw _ (List.mem_of_getElem? (i := 5) rfl)) (by decide) (by decide)) (g := (mkF m 130 #[iv p1, iv p2, iv p3, iv p4, rv w_WEST, iv (3 : Int32), rv b152, rv b140, .unset, .unset, .unset] [(.ref w_WEST), (.ref b152), (.ref b160), (.ref b160)])) rfl (by rw [hml]; rfl) (Steps.refl _) (a := b160) (argsL := [(.ref b152), (.ref w_WEST)]) (rest := [(.ref b160)]) (lenOf pd_8 rfl) rfl (by show 2 * 0 + _ ≤ _; exact Nat.le_of_eq rfl) (hb hby at_130) (fun _ _ => ⟨rfl, e160, (by decide : 4 + 0 ≤ _), (by decide : 12 + 0 ≤ _)⟩)
      dsimp only [Pt.U, Pt.locs, Pt.cells, Pt.slots] at X164 l164 y164 z164 st164 hQ164
      subst l164 y164 z164
      obtain ⟨rfl, Nq164, Kq164, po164_0, po164_1, po164_2⟩ := hQ164
      have N164 := Fr.app N157 Nq164
      have O164 := O160.keep Kq164 (allS ge163 all0)
      have k165 : Way p e below S0 T164 (mkF m 133 #[iv p1, iv p2, iv p3, iv p4, rv w_WEST, iv (3 : Int32), rv b152, rv b140, .unset, .unset, .unset] [(.ref b160)]) := fun t k => k162 t (st164.trans k)
      have k166 : Way p e below S0 T164 (mkF m 137 #[iv p1, iv p2, iv p3, iv p4, rv w_WEST, iv (3 : Int32), rv b152, rv b160, .unset, .unset, .unset] [(.ref b160)]) := by
        intro t k
        refine k165 t ?_
        refine XS.astore X164.here hx rfl (hb hby at_133) rfl rfl (l' := #[iv p1, iv p2, iv p3, iv p4, rv w_WEST, iv (3 : Int32), rv b152, rv b160, .unset, .unset, .unset]) rfl ?_
        show Steps p.tables e below (T164.setTop (mkF m 135 #[iv p1, iv p2, iv p3, iv p4, rv w_WEST, iv (3 : Int32), rv b152, rv b160, .unset, .unset, .unset] [])) _
        refine XS.aload X164.here hx rfl (hb hby at_135) rfl rfl ?_
        show Steps p.tables e below (T164.setTop (mkF m 137 #[iv p1, iv p2, iv p3, iv p4, rv w_WEST, iv (3 : Int32), rv b152, rv b160, .unset, .unset, .unset] [(.ref b160)])) _
        exact k
      obtain ⟨cq167, kq167, qq167a, qq167b, qq167c⟩ := isOf hZ rfl po164_0
      obtain ⟨_, _, ⟨T167, L167, kk167, nn167⟩, -, X167, ⟨Lc167, hQ167, l167, y167, z167⟩, st167⟩ := X164.virtualBack hx (y := (⟨"com/example/aspectwise/aspectwise/engine/BlockEnd", "opposite", "()Lcom/example/aspectwise/aspectwise/engine/BlockEnd;"⟩ : MethodName)) (z := (⟨"com/example/aspectwise/aspectwise/engine/BlockEnd", "opposite", "()Lcom/example/aspectwise/aspectwise/engine/BlockEnd;"⟩ : MethodName)) hown (mvT hZ (hw _ (List.mem_of_getElem? (i := 21) rfl))) (mvT hZ (hw _ (List.mem_of_getElem? (i := 22) rfl))) (notFace_of_selects (args := #[]) (mvT hZ (hw _ (List.mem_of_getElem? (i := 24) rfl)))) (mvT hZ (hw _ (List.mem_of_getElem? (i := 24) rfl))) (mvT hZ (hw _ (List.mem_of_getElem? (i := 23) rfl))) (by decide) (backOf (W := 0) (opp0WEST l Z a0 hw [] w_EAST w_WEST wCS G b160 b152 T164.heap n0 O164 (po164_1 : Fld Z T164.heap b160 "com/example/aspectwise/aspectwise/engine/BlockEnd" "block" "Ljava/lang/String;" (.ref b152)) (po164_2 : Fld Z T164.heap b160 "com/example/aspectwise/aspectwise/engine/BlockEnd" "side" "Lcom/example/aspectwise/aspectwise/engine/BlockEnd$Side;" (.ref w_WEST))) hZ (hw _ (List.mem_of_getElem? (i := 25) rfl)) (hw _ (List.mem_of_getElem? (i := 5) rfl)) (by decide) (by decide)) qq167a qq167c (g := (mkF m 137 #[iv p1, iv p2, iv p3, iv p4, rv w_WEST, iv (3 : Int32), rv b152, rv b160, .unset, .unset, .unset] [(.ref b160)])) rfl (by rw [hml]; rfl) (Steps.refl _) (argsL := []) (rest := []) (lenOf pd_10 rfl) rfl (by show 2 * 0 + _ ≤ _; exact Nat.le_of_eq rfl) (hb hby at_137) (fun _ _ => ⟨rfl, rfl, (by decide : 4 + 1 ≤ _), (by decide : 12 + 2 ≤ _)⟩)
      dsimp only [Pt.U, Pt.locs, Pt.cells, Pt.slots] at X167 l167 y167 z167 st167 hQ167
      subst l167 y167 z167
      obtain ⟨b1_167, rfl, Nq167, Kq167, po167_0, po167_1, po167_2, po167_3⟩ := hQ167
      have N167 := Fr.app N164 Nq167
      have O167 := O164.keep Kq167 all0
      have k168 : Way p e below S0 T167 (mkF m 140 #[iv p1, iv p2, iv p3, iv p4, rv w_WEST, iv (3 : Int32), rv b152, rv b160, .unset, .unset, .unset] [(.ref b1_167)]) := fun t k => k166 t (st167.trans k)
      have k169 : Way p e below S0 T167 (mkF m 151 #[iv p1, iv p2, iv p3, iv p4, rv w_WEST, iv (3 : Int32), rv b152, rv b160, rv b1_167, .unset, .unset] [(.ref w_WEST)]) := by
        intro t k
        refine k168 t ?_
        refine XS.astore X167.here hx rfl (hb hby at_140) rfl rfl (l' := #[iv p1, iv p2, iv p3, iv p4, rv w_WEST, iv (3 : Int32), rv b152, rv b160, rv b1_167, .unset, .unset]) rfl ?_
        show Steps p.tables e below (T167.setTop (mkF m 142 #[iv p1, iv p2, iv p3, iv p4, rv w_WEST, iv (3 : Int32), rv b152, rv b160, rv b1_167, .unset, .unset] [])) _
        refine XS.aload X167.here hx rfl (hb hby at_142) rfl rfl ?_
        show Steps p.tables e below (T167.setTop (mkF m 144 #[iv p1, iv p2, iv p3, iv p4, rv w_WEST, iv (3 : Int32), rv b152, rv b160, rv b1_167, .unset, .unset] [(.ref b1_167)])) _
        refine XS.ifnonnullYes X167.here hx rfl (pc0 := 144) (pc' := 149) rfl (hb hby at_144) rfl (by decide) (by decide) ?_
        show Steps p.tables e below (T167.setTop (mkF m 149 #[iv p1, iv p2, iv p3, iv p4, rv w_WEST, iv (3 : Int32), rv b152, rv b160, rv b1_167, .unset, .unset] [])) _
        refine XS.aload X167.here hx rfl (hb hby at_149) rfl rfl ?_
        show Steps p.tables e below (T167.setTop (mkF m 151 #[iv p1, iv p2, iv p3, iv p4, rv w_WEST, iv (3 : Int32), rv b152, rv b160, rv b1_167, .unset, .unset] [(.ref w_WEST)])) _
        exact k
      obtain ⟨T170, X170, e170, st170⟩ := getS2 X167 hx hZ hown (host := "") (Or.inl (hw _ (List.mem_of_getElem? (i := 0) rfl))) Via.refl rfl (S_w_EAST.ext O167.2) (g := (mkF m 151 #[iv p1, iv p2, iv p3, iv p4, rv w_WEST, iv (3 : Int32), rv b152, rv b160, rv b1_167, .unset, .unset] [(.ref w_WEST)])) rfl (hb hby at_151)
      have k171 : Way p e below S0 T170 (mkF m 154 #[iv p1, iv p2, iv p3, iv p4, rv w_WEST, iv (3 : Int32), rv b152, rv b160, rv b1_167, .unset, .unset] [(.ref w_EAST), (.ref w_WEST)]) := fun t k => k169 t (st170 _ k)
      have k172 : Way p e below S0 T170 (mkF m 165 #[iv p1, iv p2, iv p3, iv p4, rv w_WEST, iv (3 : Int32), rv b152, rv b160, rv b1_167, .unset, .unset] []) := by
        intro t k
        refine k171 t ?_
        refine Jvm.RoadKit.acmp (g := (mkF m 154 #[iv p1, iv p2, iv p3, iv p4, rv w_WEST, iv (3 : Int32), rv b152, rv b160, rv b1_167, .unset, .unset] [(.ref w_EAST), (.ref w_WEST)])) X170 hx rfl rfl rfl (pc0 := 154) (pc' := 165) (same := false) rfl (hb hby at_154) rfl (decide_eq_false fun q => absurd (Value.ref.inj q) (F_w_WEST_ordinal.ne F_w_EAST_ordinal (by decide))) (by decide) (by decide) ?_
        show Steps p.tables e below (T170.setTop (mkF m 165 #[iv p1, iv p2, iv p3, iv p4, rv w_WEST, iv (3 : Int32), rv b152, rv b160, rv b1_167, .unset, .unset] [])) _
        exact k
      obtain ⟨T173, X173, e173, st173⟩ := getS2 X170 hx hZ hown (host := "") (Or.inl (hw _ (List.mem_of_getElem? (i := 0) rfl))) Via.refl e170 (S_w_EAST.ext O167.2) (g := (mkF m 165 #[iv p1, iv p2, iv p3, iv p4, rv w_WEST, iv (3 : Int32), rv b152, rv b160, rv b1_167, .unset, .unset] [])) rfl (hb hby at_165)
      have k174 : Way p e below S0 T173 (mkF m 168 #[iv p1, iv p2, iv p3, iv p4, rv w_WEST, iv (3 : Int32), rv b152, rv b160, rv b1_167, .unset, .unset] [(.ref w_EAST)]) := fun t k => k172 t (st173 _ k)
      have k175 : Way p e below S0 T173 (mkF m 172 #[iv p1, iv p2, iv p3, iv p4, rv w_WEST, iv (3 : Int32), rv b152, rv b160, rv b1_167, rv w_EAST, .unset] [(.ref b1_167)]) := by
        intro t k
        refine k174 t ?_
        refine XS.astore X173.here hx rfl (hb hby at_168) rfl rfl (l' := #[iv p1, iv p2, iv p3, iv p4, rv w_WEST, iv (3 : Int32), rv b152, rv b160, rv b1_167, rv w_EAST, .unset]) rfl ?_
        show Steps p.tables e below (T173.setTop (mkF m 170 #[iv p1, iv p2, iv p3, iv p4, rv w_WEST, iv (3 : Int32), rv b152, rv b160, rv b1_167, rv w_EAST, .unset] [])) _
        refine XS.aload X173.here hx rfl (hb hby at_170) rfl rfl ?_
        show Steps p.tables e below (T173.setTop (mkF m 172 #[iv p1, iv p2, iv p3, iv p4, rv w_WEST, iv (3 : Int32), rv b152, rv b160, rv b1_167, rv w_EAST, .unset] [(.ref b1_167)])) _
        exact k
      obtain ⟨cq176, kq176, qq176a, qq176b, qq176c⟩ := isOf hZ e173 po167_1
      obtain ⟨_, _, ⟨T176, L176, kk176, nn176⟩, -, X176, ⟨Lc176, hQ176, l176, y176, z176⟩, st176⟩ := X173.virtualBack hx (y := (⟨"com/example/aspectwise/aspectwise/engine/BlockEnd", "side", "()Lcom/example/aspectwise/aspectwise/engine/BlockEnd$Side;"⟩ : MethodName)) (z := (⟨"com/example/aspectwise/aspectwise/engine/BlockEnd", "side", "()Lcom/example/aspectwise/aspectwise/engine/BlockEnd$Side;"⟩ : MethodName)) hown (mvT hZ (hw _ (List.mem_of_getElem? (i := 32) rfl))) (mvT hZ (hw _ (List.mem_of_getElem? (i := 33) rfl))) (notFace_of_selects (args := #[]) (mvT hZ (hw _ (List.mem_of_getElem? (i := 35) rfl)))) (mvT hZ (hw _ (List.mem_of_getElem? (i := 35) rfl))) (mvT hZ (hw _ (List.mem_of_getElem? (i := 34) rfl))) (by decide) (backOf (W := 0) (sid l Z a0 hw [] w_EAST w_WEST wCS G b1_167 w_EAST T167.heap n0 O167 (po167_3 : Fld Z T167.heap b1_167 "com/example/aspectwise/aspectwise/engine/BlockEnd" "side" "Lcom/example/aspectwise/aspectwise/engine/BlockEnd$Side;" (.ref w_EAST))) hZ (hw _ (List.mem_of_getElem? (i := 36) rfl)) (hw _ (List.mem_of_getElem? (i := 5) rfl)) (by decide) (by decide)) qq176a qq176c (g := (mkF m 172 #[iv p1, iv p2, iv p3, iv p4, rv w_WEST, iv (3 : Int32), rv b152, rv b160, rv b1_167, rv w_EAST, .unset] [(.ref b1_167)])) rfl (by rw [hml]; rfl) (Steps.refl _) (argsL := []) (rest := []) (lenOf pd_11 rfl) rfl (by show 2 * 0 + _ ≤ _; exact Nat.le_of_eq rfl) (hb hby at_172) (fun _ _ => ⟨rfl, e173, (by decide : 5 + 0 ≤ _), (by decide : 14 + 0 ≤ _)⟩)
      dsimp only [Pt.U, Pt.locs, Pt.cells, Pt.slots] at X176 l176 y176 z176 st176 hQ176
      subst l176 y176 z176
      obtain ⟨rfl, Nq176, e176⟩ := hQ176
      have N176 := Fr.app N167 Nq176
      have k177 : Way p e below S0 T176 (mkF m 175 #[iv p1, iv p2, iv p3, iv p4, rv w_WEST, iv (3 : Int32), rv b152, rv b160, rv b1_167, rv w_EAST, .unset] [(.ref w_EAST)]) := fun t k => k175 t (st176.trans k)
      have k178 : Way p e below S0 T176 (mkF m 186 #[iv p1, iv p2, iv p3, iv p4, rv w_WEST, iv (3 : Int32), rv b152, rv b160, rv b1_167, rv w_EAST, .unset] [(.ref b1_167), (.ref b152)]) := by
        intro t k
        refine k177 t ?_
        refine XS.aload X176.here hx rfl (hb hby at_175) rfl rfl ?_
        show Steps p.tables e below (T176.setTop (mkF m 177 #[iv p1, iv p2, iv p3, iv p4, rv w_WEST, iv (3 : Int32), rv b152, rv b160, rv b1_167, rv w_EAST, .unset] [(.ref w_EAST), (.ref w_EAST)])) _
        refine Jvm.RoadKit.acmp (g := (mkF m 177 #[iv p1, iv p2, iv p3, iv p4, rv w_WEST, iv (3 : Int32), rv b152, rv b160, rv b1_167, rv w_EAST, .unset] [(.ref w_EAST), (.ref w_EAST)])) X176 hx rfl rfl rfl (pc0 := 177) (pc' := 182) (same := true) rfl (hb hby at_177) rfl (decide_eq_true rfl) (by decide) (by decide) ?_
        show Steps p.tables e below (T176.setTop (mkF m 182 #[iv p1, iv p2, iv p3, iv p4, rv w_WEST, iv (3 : Int32), rv b152, rv b160, rv b1_167, rv w_EAST, .unset] [])) _
        refine XS.aload X176.here hx rfl (hb hby at_182) rfl rfl ?_
        show Steps p.tables e below (T176.setTop (mkF m 184 #[iv p1, iv p2, iv p3, iv p4, rv w_WEST, iv (3 : Int32), rv b152, rv b160, rv b1_167, rv w_EAST, .unset] [(.ref b152)])) _
        refine XS.aload X176.here hx rfl (hb hby at_184) rfl rfl ?_
        show Steps p.tables e below (T176.setTop (mkF m 186 #[iv p1, iv p2, iv p3, iv p4, rv w_WEST, iv (3 : Int32), rv b152, rv b160, rv b1_167, rv w_EAST, .unset] [(.ref b1_167), (.ref b152)])) _
        exact k
      obtain ⟨cq179, kq179, qq179a, qq179b, qq179c⟩ := isOf hZ e176 po167_1
      obtain ⟨_, _, ⟨T179, L179, kk179, nn179⟩, -, X179, ⟨Lc179, hQ179, l179, y179, z179⟩, st179⟩ := X176.virtualBack hx (y := (⟨"com/example/aspectwise/aspectwise/engine/BlockEnd", "block", "()Ljava/lang/String;"⟩ : MethodName)) (z := (⟨"com/example/aspectwise/aspectwise/engine/BlockEnd", "block", "()Ljava/lang/String;"⟩ : MethodName)) hown (mvT hZ (hw _ (List.mem_of_getElem? (i := 37) rfl))) (mvT hZ (hw _ (List.mem_of_getElem? (i := 38) rfl))) (notFace_of_selects (args := #[]) (mvT hZ (hw _ (List.mem_of_getElem? (i := 40) rfl)))) (mvT hZ (hw _ (List.mem_of_getElem? (i := 40) rfl))) (mvT hZ (hw _ (List.mem_of_getElem? (i := 39) rfl))) (by decide) (backOf (W := 1) (blk0 l Z a0 hw [] w_EAST w_WEST wCS G b1_167 b152 T167.heap n0 O167 (po167_2 : Fld Z T167.heap b1_167 "com/example/aspectwise/aspectwise/engine/BlockEnd" "block" "Ljava/lang/String;" (.ref b152))) hZ (hw _ (List.mem_of_getElem? (i := 41) rfl)) (hw _ (List.mem_of_getElem? (i := 5) rfl)) (by decide) (by decide)) qq179a qq179c (g := (mkF m 186 #[iv p1, iv p2, iv p3, iv p4, rv w_WEST, iv (3 : Int32), rv b152, rv b160, rv b1_167, rv w_EAST, .unset] [(.ref b1_167), (.ref b152)])) rfl (by rw [hml]; rfl) (Steps.refl _) (argsL := []) (rest := [(.ref b152)]) (lenOf pd_12 rfl) rfl (by show 2 * 0 + _ ≤ _; exact Nat.le_of_eq rfl) (hb hby at_186) (fun _ _ => ⟨rfl, e176, (by decide : 5 + 0 ≤ _), (by decide : 14 + 0 ≤ _)⟩)
      dsimp only [Pt.U, Pt.locs, Pt.cells, Pt.slots] at X179 l179 y179 z179 st179 hQ179
      subst l179 y179 z179
      obtain ⟨rfl, Nq179, e179⟩ := hQ179
      have N179 := Fr.app N176 Nq179
      have k180 : Way p e below S0 T179 (mkF m 189 #[iv p1, iv p2, iv p3, iv p4, rv w_WEST, iv (3 : Int32), rv b152, rv b160, rv b1_167, rv w_EAST, .unset] [(.ref b152), (.ref b152)]) := fun t k => k178 t (st179.trans k)
      have f181 : Exa Z T167.heap b152 "java/lang/String" := (((po157_1.ext E160).keep Kq164).keep Kq167)
      obtain ⟨_, _, ⟨T182, L182, kk182, nn182⟩, -, X182, ⟨Lc182, hQ182, l182, y182, z182⟩, st182⟩ := Jvm.LawKit.callS X179 hx (y := (⟨"com/example/aspectwise/aspectwise/engine/BlockEndOppositePinLaw", "sameBlock", "(Ljava/lang/String;Ljava/lang/String;)Z"⟩ : MethodName)) hown (mvT hZ (hw _ (List.mem_of_getElem? (i := 42) rfl))) (mvT hZ (hw _ (List.mem_of_getElem? (i := 43) rfl))) (mvT hZ (hw _ (List.mem_of_getElem? (i := 44) rfl))) (mvT hZ (hw _ (List.mem_of_getElem? (i := 45) rfl))) (by decide) (backOf (W := 0) (sb1 l Z a0 hw [] w_EAST w_WEST wCS G b152 T167.heap n0 O167 (f181 : Exa Z T167.heap b152 "java/lang/String")) hZ (hw _ (List.mem_of_getElem? (i := 45) rfl)) (hw _ (List.mem_of_getElem? (i := 44) rfl)) (by decide) (by decide)) (g := (mkF m 189 #[iv p1, iv p2, iv p3, iv p4, rv w_WEST, iv (3 : Int32), rv b152, rv b160, rv b1_167, rv w_EAST, .unset] [(.ref b152), (.ref b152)])) rfl (by rw [hml]; rfl) (argsL := [(.ref b152), (.ref b152)]) (rest := []) (lenOf pd_13 rfl) rfl (by show 2 * 0 + _ ≤ _; exact Nat.le_of_eq rfl) (hb hby at_189) (fun _ _ => ⟨rfl, e179, (by decide : 5 + 0 ≤ _), (by decide : 14 + 0 ≤ _)⟩)
      dsimp only [Pt.U, Pt.locs, Pt.cells, Pt.slots] at X182 l182 y182 z182 st182 hQ182
      subst l182 y182 z182
      obtain ⟨rfl, Nq182, e182⟩ := hQ182
      have N182 := Fr.app N179 Nq182
      have k183 : Way p e below S0 T182 (mkF m 192 #[iv p1, iv p2, iv p3, iv p4, rv w_WEST, iv (3 : Int32), rv b152, rv b160, rv b1_167, rv w_EAST, .unset] [(.int (1 : Int32))]) := fun t k => k180 t (st182 _ k)
      have k184 : Way p e below S0 T182 (mkF m 199 #[iv p1, iv p2, iv p3, iv p4, rv w_WEST, iv (3 : Int32), rv b152, rv b160, rv b1_167, rv w_EAST, .unset] [(.ref b1_167)]) := by
        intro t k
        refine k183 t ?_
        refine XS.ifYes X182.here hx rfl (pc0 := 192) (pc' := 197) rfl (hb hby at_192) rfl ((if0 _ _).trans (feq ((by decide) : ¬ ((1 : Int32) = (0 : Int32)))).2) (by decide) (by decide) ?_
        show Steps p.tables e below (T182.setTop (mkF m 197 #[iv p1, iv p2, iv p3, iv p4, rv w_WEST, iv (3 : Int32), rv b152, rv b160, rv b1_167, rv w_EAST, .unset] [])) _
        refine XS.aload X182.here hx rfl (hb hby at_197) rfl rfl ?_
        show Steps p.tables e below (T182.setTop (mkF m 199 #[iv p1, iv p2, iv p3, iv p4, rv w_WEST, iv (3 : Int32), rv b152, rv b160, rv b1_167, rv w_EAST, .unset] [(.ref b1_167)])) _
        exact k
      obtain ⟨cq185, kq185, qq185a, qq185b, qq185c⟩ := isOf hZ e182 po167_1
      obtain ⟨_, _, ⟨T185, L185, kk185, nn185⟩, -, X185, ⟨Lc185, hQ185, l185, y185, z185⟩, st185⟩ := X182.virtualBack hx (y := (⟨"com/example/aspectwise/aspectwise/engine/BlockEnd", "opposite", "()Lcom/example/aspectwise/aspectwise/engine/BlockEnd;"⟩ : MethodName)) (z := (⟨"com/example/aspectwise/aspectwise/engine/BlockEnd", "opposite", "()Lcom/example/aspectwise/aspectwise/engine/BlockEnd;"⟩ : MethodName)) hown (mvT hZ (hw _ (List.mem_of_getElem? (i := 21) rfl))) (mvT hZ (hw _ (List.mem_of_getElem? (i := 22) rfl))) (notFace_of_selects (args := #[]) (mvT hZ (hw _ (List.mem_of_getElem? (i := 24) rfl)))) (mvT hZ (hw _ (List.mem_of_getElem? (i := 24) rfl))) (mvT hZ (hw _ (List.mem_of_getElem? (i := 23) rfl))) (by decide) (backOf (W := 0) (opp0EAST l Z a0 hw [] w_EAST w_WEST wCS G b1_167 b152 T167.heap n0 O167 (po167_2 : Fld Z T167.heap b1_167 "com/example/aspectwise/aspectwise/engine/BlockEnd" "block" "Ljava/lang/String;" (.ref b152)) (po167_3 : Fld Z T167.heap b1_167 "com/example/aspectwise/aspectwise/engine/BlockEnd" "side" "Lcom/example/aspectwise/aspectwise/engine/BlockEnd$Side;" (.ref w_EAST))) hZ (hw _ (List.mem_of_getElem? (i := 25) rfl)) (hw _ (List.mem_of_getElem? (i := 5) rfl)) (by decide) (by decide)) qq185a qq185c (g := (mkF m 199 #[iv p1, iv p2, iv p3, iv p4, rv w_WEST, iv (3 : Int32), rv b152, rv b160, rv b1_167, rv w_EAST, .unset] [(.ref b1_167)])) rfl (by rw [hml]; rfl) (Steps.refl _) (argsL := []) (rest := []) (lenOf pd_10 rfl) rfl (by show 2 * 0 + _ ≤ _; exact Nat.le_of_eq rfl) (hb hby at_199) (fun _ _ => ⟨rfl, e182, (by decide : 5 + 1 ≤ _), (by decide : 14 + 2 ≤ _)⟩)
      dsimp only [Pt.U, Pt.locs, Pt.cells, Pt.slots] at X185 l185 y185 z185 st185 hQ185
      subst l185 y185 z185
      obtain ⟨b1_185, rfl, Nq185, Kq185, po185_0, po185_1, po185_2, po185_3⟩ := hQ185
      have N185 := Fr.app N182 Nq185
      have O185 := O167.keep Kq185 all0
      have k186 : Way p e below S0 T185 (mkF m 202 #[iv p1, iv p2, iv p3, iv p4, rv w_WEST, iv (3 : Int32), rv b152, rv b160, rv b1_167, rv w_EAST, .unset] [(.ref b1_185)]) := fun t k => k184 t (st185.trans k)
      have k187 : Way p e below S0 T185 (mkF m 213 #[iv p1, iv p2, iv p3, iv p4, rv w_WEST, iv (3 : Int32), rv b152, rv b160, rv b1_167, rv w_EAST, rv b1_185] [(.ref b1_185)]) := by
        intro t k
        refine k186 t ?_
        refine XS.astore X185.here hx rfl (hb hby at_202) rfl rfl (l' := #[iv p1, iv p2, iv p3, iv p4, rv w_WEST, iv (3 : Int32), rv b152, rv b160, rv b1_167, rv w_EAST, rv b1_185]) rfl ?_
        show Steps p.tables e below (T185.setTop (mkF m 204 #[iv p1, iv p2, iv p3, iv p4, rv w_WEST, iv (3 : Int32), rv b152, rv b160, rv b1_167, rv w_EAST, rv b1_185] [])) _
        refine XS.aload X185.here hx rfl (hb hby at_204) rfl rfl ?_
        show Steps p.tables e below (T185.setTop (mkF m 206 #[iv p1, iv p2, iv p3, iv p4, rv w_WEST, iv (3 : Int32), rv b152, rv b160, rv b1_167, rv w_EAST, rv b1_185] [(.ref b1_185)])) _
        refine XS.ifnonnullYes X185.here hx rfl (pc0 := 206) (pc' := 211) rfl (hb hby at_206) rfl (by decide) (by decide) ?_
        show Steps p.tables e below (T185.setTop (mkF m 211 #[iv p1, iv p2, iv p3, iv p4, rv w_WEST, iv (3 : Int32), rv b152, rv b160, rv b1_167, rv w_EAST, rv b1_185] [])) _
        refine XS.aload X185.here hx rfl (hb hby at_211) rfl rfl ?_
        show Steps p.tables e below (T185.setTop (mkF m 213 #[iv p1, iv p2, iv p3, iv p4, rv w_WEST, iv (3 : Int32), rv b152, rv b160, rv b1_167, rv w_EAST, rv b1_185] [(.ref b1_185)])) _
        exact k
      obtain ⟨cq188, kq188, qq188a, qq188b, qq188c⟩ := isOf hZ rfl po185_1
      obtain ⟨_, _, ⟨T188, L188, kk188, nn188⟩, -, X188, ⟨Lc188, hQ188, l188, y188, z188⟩, st188⟩ := X185.virtualBack hx (y := (⟨"com/example/aspectwise/aspectwise/engine/BlockEnd", "side", "()Lcom/example/aspectwise/aspectwise/engine/BlockEnd$Side;"⟩ : MethodName)) (z := (⟨"com/example/aspectwise/aspectwise/engine/BlockEnd", "side", "()Lcom/example/aspectwise/aspectwise/engine/BlockEnd$Side;"⟩ : MethodName)) hown (mvT hZ (hw _ (List.mem_of_getElem? (i := 32) rfl))) (mvT hZ (hw _ (List.mem_of_getElem? (i := 33) rfl))) (notFace_of_selects (args := #[]) (mvT hZ (hw _ (List.mem_of_getElem? (i := 35) rfl)))) (mvT hZ (hw _ (List.mem_of_getElem? (i := 35) rfl))) (mvT hZ (hw _ (List.mem_of_getElem? (i := 34) rfl))) (by decide) (backOf (W := 0) (sid l Z a0 hw [] w_EAST w_WEST wCS G b1_185 w_WEST T185.heap n0 O185 (po185_3 : Fld Z T185.heap b1_185 "com/example/aspectwise/aspectwise/engine/BlockEnd" "side" "Lcom/example/aspectwise/aspectwise/engine/BlockEnd$Side;" (.ref w_WEST))) hZ (hw _ (List.mem_of_getElem? (i := 36) rfl)) (hw _ (List.mem_of_getElem? (i := 5) rfl)) (by decide) (by decide)) qq188a qq188c (g := (mkF m 213 #[iv p1, iv p2, iv p3, iv p4, rv w_WEST, iv (3 : Int32), rv b152, rv b160, rv b1_167, rv w_EAST, rv b1_185] [(.ref b1_185)])) rfl (by rw [hml]; rfl) (Steps.refl _) (argsL := []) (rest := []) (lenOf pd_11 rfl) rfl (by show 2 * 0 + _ ≤ _; exact Nat.le_of_eq rfl) (hb hby at_213) (fun _ _ => ⟨rfl, rfl, (by decide : 6 + 0 ≤ _), (by decide : 16 + 0 ≤ _)⟩)
      dsimp only [Pt.U, Pt.locs, Pt.cells, Pt.slots] at X188 l188 y188 z188 st188 hQ188
      subst l188 y188 z188
      obtain ⟨rfl, Nq188, e188⟩ := hQ188
      have N188 := Fr.app N185 Nq188
      have k189 : Way p e below S0 T188 (mkF m 216 #[iv p1, iv p2, iv p3, iv p4, rv w_WEST, iv (3 : Int32), rv b152, rv b160, rv b1_167, rv w_EAST, rv b1_185] [(.ref w_WEST)]) := fun t k => k187 t (st188.trans k)
      have k190 : Way p e below S0 T188 (mkF m 225 #[iv p1, iv p2, iv p3, iv p4, rv w_WEST, iv (3 : Int32), rv b152, rv b160, rv b1_167, rv w_EAST, rv b1_185] [(.ref b1_185), (.ref b152)]) := by
        intro t k
        refine k189 t ?_
        refine XS.aload X188.here hx rfl (hb hby at_216) rfl rfl ?_
        show Steps p.tables e below (T188.setTop (mkF m 218 #[iv p1, iv p2, iv p3, iv p4, rv w_WEST, iv (3 : Int32), rv b152, rv b160, rv b1_167, rv w_EAST, rv b1_185] [(.ref w_WEST), (.ref w_WEST)])) _
        refine Jvm.RoadKit.acmp (g := (mkF m 218 #[iv p1, iv p2, iv p3, iv p4, rv w_WEST, iv (3 : Int32), rv b152, rv b160, rv b1_167, rv w_EAST, rv b1_185] [(.ref w_WEST), (.ref w_WEST)])) X188 hx rfl rfl rfl (pc0 := 218) (pc' := 221) (same := true) rfl (hb hby at_218) rfl (decide_eq_true rfl) (by decide) (by decide) ?_
        show Steps p.tables e below (T188.setTop (mkF m 221 #[iv p1, iv p2, iv p3, iv p4, rv w_WEST, iv (3 : Int32), rv b152, rv b160, rv b1_167, rv w_EAST, rv b1_185] [])) _
        refine XS.aload X188.here hx rfl (hb hby at_221) rfl rfl ?_
        show Steps p.tables e below (T188.setTop (mkF m 223 #[iv p1, iv p2, iv p3, iv p4, rv w_WEST, iv (3 : Int32), rv b152, rv b160, rv b1_167, rv w_EAST, rv b1_185] [(.ref b152)])) _
        refine XS.aload X188.here hx rfl (hb hby at_223) rfl rfl ?_
        show Steps p.tables e below (T188.setTop (mkF m 225 #[iv p1, iv p2, iv p3, iv p4, rv w_WEST, iv (3 : Int32), rv b152, rv b160, rv b1_167, rv w_EAST, rv b1_185] [(.ref b1_185), (.ref b152)])) _
        exact k
      obtain ⟨cq191, kq191, qq191a, qq191b, qq191c⟩ := isOf hZ e188 po185_1
      obtain ⟨_, _, ⟨T191, L191, kk191, nn191⟩, -, X191, ⟨Lc191, hQ191, l191, y191, z191⟩, st191⟩ := X188.virtualBack hx (y := (⟨"com/example/aspectwise/aspectwise/engine/BlockEnd", "block", "()Ljava/lang/String;"⟩ : MethodName)) (z := (⟨"com/example/aspectwise/aspectwise/engine/BlockEnd", "block", "()Ljava/lang/String;"⟩ : MethodName)) hown (mvT hZ (hw _ (List.mem_of_getElem? (i := 37) rfl))) (mvT hZ (hw _ (List.mem_of_getElem? (i := 38) rfl))) (notFace_of_selects (args := #[]) (mvT hZ (hw _ (List.mem_of_getElem? (i := 40) rfl)))) (mvT hZ (hw _ (List.mem_of_getElem? (i := 40) rfl))) (mvT hZ (hw _ (List.mem_of_getElem? (i := 39) rfl))) (by decide) (backOf (W := 1) (blk0 l Z a0 hw [] w_EAST w_WEST wCS G b1_185 b152 T185.heap n0 O185 (po185_2 : Fld Z T185.heap b1_185 "com/example/aspectwise/aspectwise/engine/BlockEnd" "block" "Ljava/lang/String;" (.ref b152))) hZ (hw _ (List.mem_of_getElem? (i := 41) rfl)) (hw _ (List.mem_of_getElem? (i := 5) rfl)) (by decide) (by decide)) qq191a qq191c (g := (mkF m 225 #[iv p1, iv p2, iv p3, iv p4, rv w_WEST, iv (3 : Int32), rv b152, rv b160, rv b1_167, rv w_EAST, rv b1_185] [(.ref b1_185), (.ref b152)])) rfl (by rw [hml]; rfl) (Steps.refl _) (argsL := []) (rest := [(.ref b152)]) (lenOf pd_12 rfl) rfl (by show 2 * 0 + _ ≤ _; exact Nat.le_of_eq rfl) (hb hby at_225) (fun _ _ => ⟨rfl, e188, (by decide : 6 + 0 ≤ _), (by decide : 16 + 0 ≤ _)⟩)
      dsimp only [Pt.U, Pt.locs, Pt.cells, Pt.slots] at X191 l191 y191 z191 st191 hQ191
      subst l191 y191 z191
      obtain ⟨rfl, Nq191, e191⟩ := hQ191
      have N191 := Fr.app N188 Nq191
      have k192 : Way p e below S0 T191 (mkF m 228 #[iv p1, iv p2, iv p3, iv p4, rv w_WEST, iv (3 : Int32), rv b152, rv b160, rv b1_167, rv w_EAST, rv b1_185] [(.ref b152), (.ref b152)]) := fun t k => k190 t (st191.trans k)
      have f193 : Exa Z T185.heap b152 "java/lang/String" := (f181.keep Kq185)
      obtain ⟨_, _, ⟨T194, L194, kk194, nn194⟩, -, X194, ⟨Lc194, hQ194, l194, y194, z194⟩, st194⟩ := Jvm.LawKit.callS X191 hx (y := (⟨"com/example/aspectwise/aspectwise/engine/BlockEndOppositePinLaw", "sameBlock", "(Ljava/lang/String;Ljava/lang/String;)Z"⟩ : MethodName)) hown (mvT hZ (hw _ (List.mem_of_getElem? (i := 42) rfl))) (mvT hZ (hw _ (List.mem_of_getElem? (i := 43) rfl))) (mvT hZ (hw _ (List.mem_of_getElem? (i := 44) rfl))) (mvT hZ (hw _ (List.mem_of_getElem? (i := 45) rfl))) (by decide) (backOf (W := 0) (sb1 l Z a0 hw [] w_EAST w_WEST wCS G b152 T185.heap n0 O185 (f193 : Exa Z T185.heap b152 "java/lang/String")) hZ (hw _ (List.mem_of_getElem? (i := 45) rfl)) (hw _ (List.mem_of_getElem? (i := 44) rfl)) (by decide) (by decide)) (g := (mkF m 228 #[iv p1, iv p2, iv p3, iv p4, rv w_WEST, iv (3 : Int32), rv b152, rv b160, rv b1_167, rv w_EAST, rv b1_185] [(.ref b152), (.ref b152)])) rfl (by rw [hml]; rfl) (argsL := [(.ref b152), (.ref b152)]) (rest := []) (lenOf pd_13 rfl) rfl (by show 2 * 0 + _ ≤ _; exact Nat.le_of_eq rfl) (hb hby at_228) (fun _ _ => ⟨rfl, e191, (by decide : 6 + 0 ≤ _), (by decide : 16 + 0 ≤ _)⟩)
      dsimp only [Pt.U, Pt.locs, Pt.cells, Pt.slots] at X194 l194 y194 z194 st194 hQ194
      subst l194 y194 z194
      obtain ⟨rfl, Nq194, e194⟩ := hQ194
      have N194 := Fr.app N191 Nq194
      have k195 : Way p e below S0 T194 (mkF m 231 #[iv p1, iv p2, iv p3, iv p4, rv w_WEST, iv (3 : Int32), rv b152, rv b160, rv b1_167, rv w_EAST, rv b1_185] [(.int (1 : Int32))]) := fun t k => k192 t (st194 _ k)
      have k196 : Way p e below S0 T194 (mkF m 239 #[iv p1, iv p2, iv p3, iv p4, rv w_WEST, iv (3 : Int32), rv b152, rv b160, rv b1_167, rv w_EAST, rv b1_185] [(.int (1 : Int32))]) := by
        intro t k
        refine k195 t ?_
        refine XS.ifNo X194.here hx rfl (hb hby at_231) rfl ((if0 _ _).trans (feq ((by decide) : ¬ ((1 : Int32) = (0 : Int32)))).1) ?_
        show Steps p.tables e below (T194.setTop (mkF m 234 #[iv p1, iv p2, iv p3, iv p4, rv w_WEST, iv (3 : Int32), rv b152, rv b160, rv b1_167, rv w_EAST, rv b1_185] [])) _
        refine XS.iconst X194.here hx rfl (hb hby at_234) ?_
        show Steps p.tables e below (T194.setTop (mkF m 235 #[iv p1, iv p2, iv p3, iv p4, rv w_WEST, iv (3 : Int32), rv b152, rv b160, rv b1_167, rv w_EAST, rv b1_185] [(.int (1 : Int32))])) _
        refine XS.goto X194.here hx rfl (pc0 := 235) (pc' := 239) rfl (hb hby at_235) (by decide) (by decide) ?_
        show Steps p.tables e below (T194.setTop (mkF m 239 #[iv p1, iv p2, iv p3, iv p4, rv w_WEST, iv (3 : Int32), rv b152, rv b160, rv b1_167, rv w_EAST, rv b1_185] [(.int (1 : Int32))])) _
        exact k
      obtain ⟨fs, hr, hrun, hended, hRW⟩ := Stand.leaveW (s := s) (vm₁ := s.vm) X194 hS0 (by rw [e194]; exact (Nat.zero_le _)) (v := some (.int (1 : Int32))) (fun h => by rw [Bd.returns] at h; cases h)
      refine ⟨_, _, k196 _ (retN X194 hx (t := .boolean) Bd.returns (by simp) (hb hby at_239) hr), hrun, hended, _, _, rfl, ?_, own_rw hRW (by decide) (by decide)⟩
      show Q_law_met Z w_EAST w_WEST wCS p1 p2 p3 p4 h0 n0 _ T194.heap _
      rw [e194]
      exact ⟨rfl, N194⟩
  · have k197 : Way p e below S0 s₁ (mkF m 6 #[iv p1, iv p2, iv p3, iv p4, .unset, .unset, .unset, .unset, .unset, .unset, .unset] []) := by
      intro t k
      refine k2 t ?_
      refine XS.ifNo X0.here hx rfl (hb hby at_3) rfl ((if0 _ _).trans (feq (hc1 : ¬ ((p4 &&& (1 : Int32)) = (0 : Int32)))).1) ?_
      show Steps p.tables e below (s₁.setTop (mkF m 6 #[iv p1, iv p2, iv p3, iv p4, .unset, .unset, .unset, .unset, .unset, .unset, .unset] [])) _
      exact k
    obtain ⟨T198, X198, e198, st198⟩ := getS2 X0 hx hZ hown (host := "") (Or.inl (hw _ (List.mem_of_getElem? (i := 0) rfl))) Via.refl e0 (S_w_EAST.ext O0.2) (g := (mkF m 6 #[iv p1, iv p2, iv p3, iv p4, .unset, .unset, .unset, .unset, .unset, .unset, .unset] [])) rfl (hb hby at_6)
    have k199 : Way p e below S0 T198 (mkF m 9 #[iv p1, iv p2, iv p3, iv p4, .unset, .unset, .unset, .unset, .unset, .unset, .unset] [(.ref w_EAST)]) := fun t k => k197 t (st198 _ k)
    have k200 : Way p e below S0 T198 (mkF m 24 #[iv p1, iv p2, iv p3, iv p4, rv w_EAST, iv (((p4.toUInt32 >>> ((1 : Int32) &&& 31).toUInt32).toInt32) &&& (3 : Int32)), .unset, .unset, .unset, .unset, .unset] []) := by
      intro t k
      refine k199 t ?_
      refine XS.goto X198.here hx rfl (pc0 := 9) (pc' := 15) rfl (hb hby at_9) (by decide) (by decide) ?_
      show Steps p.tables e below (T198.setTop (mkF m 15 #[iv p1, iv p2, iv p3, iv p4, .unset, .unset, .unset, .unset, .unset, .unset, .unset] [(.ref w_EAST)])) _
      refine XS.astore X198.here hx rfl (hb hby at_15) rfl rfl (l' := #[iv p1, iv p2, iv p3, iv p4, rv w_EAST, .unset, .unset, .unset, .unset, .unset, .unset]) rfl ?_
      show Steps p.tables e below (T198.setTop (mkF m 17 #[iv p1, iv p2, iv p3, iv p4, rv w_EAST, .unset, .unset, .unset, .unset, .unset, .unset] [])) _
      refine XS.iloadN X198.here hx rfl (hb hby at_17) rfl ?_
      show Steps p.tables e below (T198.setTop (mkF m 18 #[iv p1, iv p2, iv p3, iv p4, rv w_EAST, .unset, .unset, .unset, .unset, .unset, .unset] [(.int p4)])) _
      refine XS.iconst X198.here hx rfl (hb hby at_18) ?_
      show Steps p.tables e below (T198.setTop (mkF m 19 #[iv p1, iv p2, iv p3, iv p4, rv w_EAST, .unset, .unset, .unset, .unset, .unset, .unset] [(.int (1 : Int32)), (.int p4)])) _
      refine XS.iushr X198.here hx rfl (hb hby at_19) rfl ?_
      show Steps p.tables e below (T198.setTop (mkF m 20 #[iv p1, iv p2, iv p3, iv p4, rv w_EAST, .unset, .unset, .unset, .unset, .unset, .unset] [(.int ((p4.toUInt32 >>> ((1 : Int32) &&& 31).toUInt32).toInt32))])) _
      refine XS.iconst X198.here hx rfl (hb hby at_20) ?_
      show Steps p.tables e below (T198.setTop (mkF m 21 #[iv p1, iv p2, iv p3, iv p4, rv w_EAST, .unset, .unset, .unset, .unset, .unset, .unset] [(.int (3 : Int32)), (.int ((p4.toUInt32 >>> ((1 : Int32) &&& 31).toUInt32).toInt32))])) _
      refine XS.iand X198.here hx rfl (hb hby at_21) rfl ?_
      show Steps p.tables e below (T198.setTop (mkF m 22 #[iv p1, iv p2, iv p3, iv p4, rv w_EAST, .unset, .unset, .unset, .unset, .unset, .unset] [(.int (((p4.toUInt32 >>> ((1 : Int32) &&& 31).toUInt32).toInt32) &&& (3 : Int32)))])) _
      refine XS.istore X198.here hx rfl (hb hby at_22) rfl (l' := #[iv p1, iv p2, iv p3, iv p4, rv w_EAST, iv (((p4.toUInt32 >>> ((1 : Int32) &&& 31).toUInt32).toInt32) &&& (3 : Int32)), .unset, .unset, .unset, .unset, .unset]) rfl ?_
      show Steps p.tables e below (T198.setTop (mkF m 24 #[iv p1, iv p2, iv p3, iv p4, rv w_EAST, iv (((p4.toUInt32 >>> ((1 : Int32) &&& 31).toUInt32).toInt32) &&& (3 : Int32)), .unset, .unset, .unset, .unset, .unset] [])) _
      exact k
    have hr201 : (((p4.toUInt32 >>> ((1 : Int32) &&& 31).toUInt32).toInt32) &&& (3 : Int32)) = (0 : Int32) ∨ (((p4.toUInt32 >>> ((1 : Int32) &&& 31).toUInt32).toInt32) &&& (3 : Int32)) = (1 : Int32) ∨ (((p4.toUInt32 >>> ((1 : Int32) &&& 31).toUInt32).toInt32) &&& (3 : Int32)) = (2 : Int32) ∨ (((p4.toUInt32 >>> ((1 : Int32) &&& 31).toUInt32).toInt32) &&& (3 : Int32)) = (3 : Int32) := own_mask3 _
    rcases hr201 with hi201 | hi201 | hi201 | hi201
    · have k202 : Way p e below S0 T198 (mkF m 24 #[iv p1, iv p2, iv p3, iv p4, rv w_EAST, iv (0 : Int32), .unset, .unset, .unset, .unset, .unset] []) := by have q := k200; rw [hi201] at q; exact q
      have k203 : Way p e below S0 T198 (mkF m 122 #[iv p1, iv p2, iv p3, iv p4, rv w_EAST, iv (0 : Int32), .val .null, .unset, .unset, .unset, .unset] []) := by
        intro t k
        refine k202 t ?_
        refine XS.iload X198.here hx rfl (hb hby at_24) rfl ?_
        show Steps p.tables e below (T198.setTop (mkF m 26 #[iv p1, iv p2, iv p3, iv p4, rv w_EAST, iv (0 : Int32), .unset, .unset, .unset, .unset, .unset] [(.int (0 : Int32))])) _
        refine XS.ifNo X198.here hx rfl (hb hby at_26) rfl ((if0 _ _).trans (teq ((by decide) : (0 : Int32) = (0 : Int32))).2) ?_
        show Steps p.tables e below (T198.setTop (mkF m 29 #[iv p1, iv p2, iv p3, iv p4, rv w_EAST, iv (0 : Int32), .unset, .unset, .unset, .unset, .unset] [])) _
        refine XS.aconstNull X198.here hx rfl (hb hby at_29) ?_
        show Steps p.tables e below (T198.setTop (mkF m 30 #[iv p1, iv p2, iv p3, iv p4, rv w_EAST, iv (0 : Int32), .unset, .unset, .unset, .unset, .unset] [.null])) _
        refine XS.astore X198.here hx rfl (hb hby at_30) rfl rfl (l' := #[iv p1, iv p2, iv p3, iv p4, rv w_EAST, iv (0 : Int32), .val .null, .unset, .unset, .unset, .unset]) rfl ?_
        show Steps p.tables e below (T198.setTop (mkF m 32 #[iv p1, iv p2, iv p3, iv p4, rv w_EAST, iv (0 : Int32), .val .null, .unset, .unset, .unset, .unset] [])) _
        refine XS.goto X198.here hx rfl (pc0 := 32) (pc' := 122) rfl (hb hby at_32) (by decide) (by decide) ?_
        show Steps p.tables e below (T198.setTop (mkF m 122 #[iv p1, iv p2, iv p3, iv p4, rv w_EAST, iv (0 : Int32), .val .null, .unset, .unset, .unset, .unset] [])) _
        exact k
      obtain ⟨T204, h204, X204, e204, E204, A204, D204, U204, st204⟩ := newO X198 hx hZ hown (hw _ (List.mem_of_getElem? (i := 3) rfl)) (hw _ (List.mem_of_getElem? (i := 4) rfl)) (hw _ (List.mem_of_getElem? (i := 5) rfl)) e198 (g := (mkF m 122 #[iv p1, iv p2, iv p3, iv p4, rv w_EAST, iv (0 : Int32), .val .null, .unset, .unset, .unset, .unset] [])) rfl (hb hby at_122) (by decide) (by decide)
      obtain ⟨b204, g204⟩ : ∃ z, z = h0.size := ⟨_, rfl⟩
      rw [← g204] at A204 D204 U204 st204
      have O204 := O0.ext E204
      have i204_block : Fld Z h204 b204 "com/example/aspectwise/aspectwise/engine/BlockEnd" "block" "Ljava/lang/String;" .null := D204 (Or.inr (hw _ (List.mem_of_getElem? (i := 18) rfl))) (ty := (.object "java/lang/String")) (by decide)
      have i204_side : Fld Z h204 b204 "com/example/aspectwise/aspectwise/engine/BlockEnd" "side" "Lcom/example/aspectwise/aspectwise/engine/BlockEnd$Side;" .null := D204 (Or.inr (hw _ (List.mem_of_getElem? (i := 20) rfl))) (ty := (.object "com/example/aspectwise/aspectwise/engine/BlockEnd$Side")) (by decide)
      have k205 : Way p e below S0 T204 (mkF m 125 #[iv p1, iv p2, iv p3, iv p4, rv w_EAST, iv (0 : Int32), .val .null, .unset, .unset, .unset, .unset] [(.ref b204)]) := fun t k => k203 t (st204 _ k)
      have k206 : Way p e below S0 T204 (mkF m 130 #[iv p1, iv p2, iv p3, iv p4, rv w_EAST, iv (0 : Int32), .val .null, .unset, .unset, .unset, .unset] [(.ref w_EAST), .null, (.ref b204), (.ref b204)]) := by
        intro t k
        refine k205 t ?_
        refine XS.dup X204.here hx rfl (hb hby at_125) rfl rfl ?_
        show Steps p.tables e below (T204.setTop (mkF m 126 #[iv p1, iv p2, iv p3, iv p4, rv w_EAST, iv (0 : Int32), .val .null, .unset, .unset, .unset, .unset] [(.ref b204), (.ref b204)])) _
        refine XS.aload X204.here hx rfl (hb hby at_126) rfl rfl ?_
        show Steps p.tables e below (T204.setTop (mkF m 128 #[iv p1, iv p2, iv p3, iv p4, rv w_EAST, iv (0 : Int32), .val .null, .unset, .unset, .unset, .unset] [.null, (.ref b204), (.ref b204)])) _
        refine XS.aload X204.here hx rfl (hb hby at_128) rfl rfl ?_
        show Steps p.tables e below (T204.setTop (mkF m 130 #[iv p1, iv p2, iv p3, iv p4, rv w_EAST, iv (0 : Int32), .val .null, .unset, .unset, .unset, .unset] [(.ref w_EAST), .null, (.ref b204), (.ref b204)])) _
        exact k
      have ge207 : n0 ≤ b204 := Nat.le_trans (own_old O0) (Nat.le_of_eq g204.symm)
      obtain ⟨_, _, ⟨T208, L208, kk208, nn208⟩, -, X208, ⟨Lc208, hQ208, l208, y208, z208⟩, st208⟩ := X204.specialBack hx (y := (⟨"com/example/aspectwise/aspectwise/engine/BlockEnd", "<init>", "(Ljava/lang/String;Lcom/example/aspectwise/aspectwise/engine/BlockEnd$Side;)V"⟩ : MethodName)) rfl hown (mvT hZ (hw _ (List.mem_of_getElem? (i := 6) rfl))) (mvT hZ (hw _ (List.mem_of_getElem? (i := 7) rfl))) (mvT hZ (hw _ (List.mem_of_getElem? (i := 8) rfl))) (by decide) (backOf (W := 1) (bi0 l Z a0 hw [] w_EAST w_WEST wCS G b204 w_EAST h204 n0 O204 (A204 : Exa Z h204 b204 "com/example/aspectwise/aspectwise/engine/BlockEnd") (i204_block : Fld Z h204 b204 "com/example/aspectwise/aspectwise/engine/BlockEnd" "block" "Ljava/lang/String;" .null) (i204_side : Fld Z h204 b204 "com/example/aspectwise/aspectwise/engine/BlockEnd" "side" "Lcom/example/aspectwise/aspectwise/engine/BlockEnd$Side;" .null) (ge207 : n0 ≤ b204)) hZ (hw _ (List.mem_of_getElem? (i := 8) rfl)) (hw _ (List.mem_of_getElem? (i := 5) rfl)) (by decide) (by decide)) (g := (mkF m 130 #[iv p1, iv p2, iv p3, iv p4, rv w_EAST, iv (0 : Int32), .val .null, .unset, .unset, .unset, .unset] [(.ref w_EAST), .null, (.ref b204), (.ref b204)])) rfl (by rw [hml]; rfl) (Steps.refl _) (a := b204) (argsL := [.null, (.ref w_EAST)]) (rest := [(.ref b204)]) (lenOf pd_8 rfl) rfl (by show 2 * 0 + _ ≤ _; exact Nat.le_of_eq rfl) (hb hby at_130) (fun _ _ => ⟨rfl, e204, (by decide : 1 + 0 ≤ _), (by decide : 2 + 0 ≤ _)⟩)
      dsimp only [Pt.U, Pt.locs, Pt.cells, Pt.slots] at X208 l208 y208 z208 st208 hQ208
      subst l208 y208 z208
      obtain ⟨rfl, Nq208, Kq208, po208_0, po208_1, po208_2⟩ := hQ208
      have N208 := Fr.app N0 Nq208
      have O208 := O204.keep Kq208 (allS ge207 all0)
      have k209 : Way p e below S0 T208 (mkF m 133 #[iv p1, iv p2, iv p3, iv p4, rv w_EAST, iv (0 : Int32), .val .null, .unset, .unset, .unset, .unset] [(.ref b204)]) := fun t k => k206 t (st208.trans k)
      have k210 : Way p e below S0 T208 (mkF m 137 #[iv p1, iv p2, iv p3, iv p4, rv w_EAST, iv (0 : Int32), .val .null, rv b204, .unset, .unset, .unset] [(.ref b204)]) := by
        intro t k
        refine k209 t ?_
        refine XS.astore X208.here hx rfl (hb hby at_133) rfl rfl (l' := #[iv p1, iv p2, iv p3, iv p4, rv w_EAST, iv (0 : Int32), .val .null, rv b204, .unset, .unset, .unset]) rfl ?_
        show Steps p.tables e below (T208.setTop (mkF m 135 #[iv p1, iv p2, iv p3, iv p4, rv w_EAST, iv (0 : Int32), .val .null, rv b204, .unset, .unset, .unset] [])) _
        refine XS.aload X208.here hx rfl (hb hby at_135) rfl rfl ?_
        show Steps p.tables e below (T208.setTop (mkF m 137 #[iv p1, iv p2, iv p3, iv p4, rv w_EAST, iv (0 : Int32), .val .null, rv b204, .unset, .unset, .unset] [(.ref b204)])) _
        exact k
      obtain ⟨cq211, kq211, qq211a, qq211b, qq211c⟩ := isOf hZ rfl po208_0
      obtain ⟨_, _, ⟨T211, L211, kk211, nn211⟩, -, X211, ⟨Lc211, hQ211, l211, y211, z211⟩, st211⟩ := X208.virtualBack hx (y := (⟨"com/example/aspectwise/aspectwise/engine/BlockEnd", "opposite", "()Lcom/example/aspectwise/aspectwise/engine/BlockEnd;"⟩ : MethodName)) (z := (⟨"com/example/aspectwise/aspectwise/engine/BlockEnd", "opposite", "()Lcom/example/aspectwise/aspectwise/engine/BlockEnd;"⟩ : MethodName)) hown (mvT hZ (hw _ (List.mem_of_getElem? (i := 21) rfl))) (mvT hZ (hw _ (List.mem_of_getElem? (i := 22) rfl))) (notFace_of_selects (args := #[]) (mvT hZ (hw _ (List.mem_of_getElem? (i := 24) rfl)))) (mvT hZ (hw _ (List.mem_of_getElem? (i := 24) rfl))) (mvT hZ (hw _ (List.mem_of_getElem? (i := 23) rfl))) (by decide) (backOf (W := 0) (opp1EAST l Z a0 hw [] w_EAST w_WEST wCS G b204 T208.heap n0 O208 (po208_1 : Fld Z T208.heap b204 "com/example/aspectwise/aspectwise/engine/BlockEnd" "block" "Ljava/lang/String;" .null) (po208_2 : Fld Z T208.heap b204 "com/example/aspectwise/aspectwise/engine/BlockEnd" "side" "Lcom/example/aspectwise/aspectwise/engine/BlockEnd$Side;" (.ref w_EAST))) hZ (hw _ (List.mem_of_getElem? (i := 25) rfl)) (hw _ (List.mem_of_getElem? (i := 5) rfl)) (by decide) (by decide)) qq211a qq211c (g := (mkF m 137 #[iv p1, iv p2, iv p3, iv p4, rv w_EAST, iv (0 : Int32), .val .null, rv b204, .unset, .unset, .unset] [(.ref b204)])) rfl (by rw [hml]; rfl) (Steps.refl _) (argsL := []) (rest := []) (lenOf pd_10 rfl) rfl (by show 2 * 0 + _ ≤ _; exact Nat.le_of_eq rfl) (hb hby at_137) (fun _ _ => ⟨rfl, rfl, (by decide : 1 + 1 ≤ _), (by decide : 2 + 2 ≤ _)⟩)
      dsimp only [Pt.U, Pt.locs, Pt.cells, Pt.slots] at X211 l211 y211 z211 st211 hQ211
      subst l211 y211 z211
      obtain ⟨b1_211, rfl, Nq211, Kq211, po211_0, po211_1, po211_2, po211_3⟩ := hQ211
      have N211 := Fr.app N208 Nq211
      have O211 := O208.keep Kq211 all0
      have k212 : Way p e below S0 T211 (mkF m 140 #[iv p1, iv p2, iv p3, iv p4, rv w_EAST, iv (0 : Int32), .val .null, rv b204, .unset, .unset, .unset] [(.ref b1_211)]) := fun t k => k210 t (st211.trans k)
      have k213 : Way p e below S0 T211 (mkF m 151 #[iv p1, iv p2, iv p3, iv p4, rv w_EAST, iv (0 : Int32), .val .null, rv b204, rv b1_211, .unset, .unset] [(.ref w_EAST)]) := by
        intro t k
        refine k212 t ?_
        refine XS.astore X211.here hx rfl (hb hby at_140) rfl rfl (l' := #[iv p1, iv p2, iv p3, iv p4, rv w_EAST, iv (0 : Int32), .val .null, rv b204, rv b1_211, .unset, .unset]) rfl ?_
        show Steps p.tables e below (T211.setTop (mkF m 142 #[iv p1, iv p2, iv p3, iv p4, rv w_EAST, iv (0 : Int32), .val .null, rv b204, rv b1_211, .unset, .unset] [])) _
        refine XS.aload X211.here hx rfl (hb hby at_142) rfl rfl ?_
        show Steps p.tables e below (T211.setTop (mkF m 144 #[iv p1, iv p2, iv p3, iv p4, rv w_EAST, iv (0 : Int32), .val .null, rv b204, rv b1_211, .unset, .unset] [(.ref b1_211)])) _
        refine XS.ifnonnullYes X211.here hx rfl (pc0 := 144) (pc' := 149) rfl (hb hby at_144) rfl (by decide) (by decide) ?_
        show Steps p.tables e below (T211.setTop (mkF m 149 #[iv p1, iv p2, iv p3, iv p4, rv w_EAST, iv (0 : Int32), .val .null, rv b204, rv b1_211, .unset, .unset] [])) _
        refine XS.aload X211.here hx rfl (hb hby at_149) rfl rfl ?_
        show Steps p.tables e below (T211.setTop (mkF m 151 #[iv p1, iv p2, iv p3, iv p4, rv w_EAST, iv (0 : Int32), .val .null, rv b204, rv b1_211, .unset, .unset] [(.ref w_EAST)])) _
        exact k
      obtain ⟨T214, X214, e214, st214⟩ := getS2 X211 hx hZ hown (host := "") (Or.inl (hw _ (List.mem_of_getElem? (i := 0) rfl))) Via.refl rfl (S_w_EAST.ext O211.2) (g := (mkF m 151 #[iv p1, iv p2, iv p3, iv p4, rv w_EAST, iv (0 : Int32), .val .null, rv b204, rv b1_211, .unset, .unset] [(.ref w_EAST)])) rfl (hb hby at_151)
      have k215 : Way p e below S0 T214 (mkF m 154 #[iv p1, iv p2, iv p3, iv p4, rv w_EAST, iv (0 : Int32), .val .null, rv b204, rv b1_211, .unset, .unset] [(.ref w_EAST), (.ref w_EAST)]) := fun t k => k213 t (st214 _ k)
      have k216 : Way p e below S0 T214 (mkF m 157 #[iv p1, iv p2, iv p3, iv p4, rv w_EAST, iv (0 : Int32), .val .null, rv b204, rv b1_211, .unset, .unset] []) := by
        intro t k
        refine k215 t ?_
        refine Jvm.RoadKit.acmp (g := (mkF m 154 #[iv p1, iv p2, iv p3, iv p4, rv w_EAST, iv (0 : Int32), .val .null, rv b204, rv b1_211, .unset, .unset] [(.ref w_EAST), (.ref w_EAST)])) X214 hx rfl rfl rfl (pc0 := 154) (pc' := 157) (same := true) rfl (hb hby at_154) rfl (decide_eq_true rfl) (by decide) (by decide) ?_
        show Steps p.tables e below (T214.setTop (mkF m 157 #[iv p1, iv p2, iv p3, iv p4, rv w_EAST, iv (0 : Int32), .val .null, rv b204, rv b1_211, .unset, .unset] [])) _
        exact k
      obtain ⟨T217, X217, e217, st217⟩ := getS2 X214 hx hZ hown (host := "") (Or.inl (hw _ (List.mem_of_getElem? (i := 31) rfl))) Via.refl e214 (S_w_WEST.ext O211.2) (g := (mkF m 157 #[iv p1, iv p2, iv p3, iv p4, rv w_EAST, iv (0 : Int32), .val .null, rv b204, rv b1_211, .unset, .unset] [])) rfl (hb hby at_157)
      have k218 : Way p e below S0 T217 (mkF m 160 #[iv p1, iv p2, iv p3, iv p4, rv w_EAST, iv (0 : Int32), .val .null, rv b204, rv b1_211, .unset, .unset] [(.ref w_WEST)]) := fun t k => k216 t (st217 _ k)
      have k219 : Way p e below S0 T217 (mkF m 172 #[iv p1, iv p2, iv p3, iv p4, rv w_EAST, iv (0 : Int32), .val .null, rv b204, rv b1_211, rv w_WEST, .unset] [(.ref b1_211)]) := by
        intro t k
        refine k218 t ?_
        refine XS.astore X217.here hx rfl (hb hby at_160) rfl rfl (l' := #[iv p1, iv p2, iv p3, iv p4, rv w_EAST, iv (0 : Int32), .val .null, rv b204, rv b1_211, rv w_WEST, .unset]) rfl ?_
        show Steps p.tables e below (T217.setTop (mkF m 162 #[iv p1, iv p2, iv p3, iv p4, rv w_EAST, iv (0 : Int32), .val .null, rv b204, rv b1_211, rv w_WEST, .unset] [])) _
        refine XS.goto X217.here hx rfl (pc0 := 162) (pc' := 170) rfl (hb hby at_162) (by decide) (by decide) ?_
        show Steps p.tables e below (T217.setTop (mkF m 170 #[iv p1, iv p2, iv p3, iv p4, rv w_EAST, iv (0 : Int32), .val .null, rv b204, rv b1_211, rv w_WEST, .unset] [])) _
        refine XS.aload X217.here hx rfl (hb hby at_170) rfl rfl ?_
        show Steps p.tables e below (T217.setTop (mkF m 172 #[iv p1, iv p2, iv p3, iv p4, rv w_EAST, iv (0 : Int32), .val .null, rv b204, rv b1_211, rv w_WEST, .unset] [(.ref b1_211)])) _
        exact k
      obtain ⟨cq220, kq220, qq220a, qq220b, qq220c⟩ := isOf hZ e217 po211_1
      obtain ⟨_, _, ⟨T220, L220, kk220, nn220⟩, -, X220, ⟨Lc220, hQ220, l220, y220, z220⟩, st220⟩ := X217.virtualBack hx (y := (⟨"com/example/aspectwise/aspectwise/engine/BlockEnd", "side", "()Lcom/example/aspectwise/aspectwise/engine/BlockEnd$Side;"⟩ : MethodName)) (z := (⟨"com/example/aspectwise/aspectwise/engine/BlockEnd", "side", "()Lcom/example/aspectwise/aspectwise/engine/BlockEnd$Side;"⟩ : MethodName)) hown (mvT hZ (hw _ (List.mem_of_getElem? (i := 32) rfl))) (mvT hZ (hw _ (List.mem_of_getElem? (i := 33) rfl))) (notFace_of_selects (args := #[]) (mvT hZ (hw _ (List.mem_of_getElem? (i := 35) rfl)))) (mvT hZ (hw _ (List.mem_of_getElem? (i := 35) rfl))) (mvT hZ (hw _ (List.mem_of_getElem? (i := 34) rfl))) (by decide) (backOf (W := 0) (sid l Z a0 hw [] w_EAST w_WEST wCS G b1_211 w_WEST T211.heap n0 O211 (po211_3 : Fld Z T211.heap b1_211 "com/example/aspectwise/aspectwise/engine/BlockEnd" "side" "Lcom/example/aspectwise/aspectwise/engine/BlockEnd$Side;" (.ref w_WEST))) hZ (hw _ (List.mem_of_getElem? (i := 36) rfl)) (hw _ (List.mem_of_getElem? (i := 5) rfl)) (by decide) (by decide)) qq220a qq220c (g := (mkF m 172 #[iv p1, iv p2, iv p3, iv p4, rv w_EAST, iv (0 : Int32), .val .null, rv b204, rv b1_211, rv w_WEST, .unset] [(.ref b1_211)])) rfl (by rw [hml]; rfl) (Steps.refl _) (argsL := []) (rest := []) (lenOf pd_11 rfl) rfl (by show 2 * 0 + _ ≤ _; exact Nat.le_of_eq rfl) (hb hby at_172) (fun _ _ => ⟨rfl, e217, (by decide : 2 + 0 ≤ _), (by decide : 4 + 0 ≤ _)⟩)
      dsimp only [Pt.U, Pt.locs, Pt.cells, Pt.slots] at X220 l220 y220 z220 st220 hQ220
      subst l220 y220 z220
      obtain ⟨rfl, Nq220, e220⟩ := hQ220
      have N220 := Fr.app N211 Nq220
      have k221 : Way p e below S0 T220 (mkF m 175 #[iv p1, iv p2, iv p3, iv p4, rv w_EAST, iv (0 : Int32), .val .null, rv b204, rv b1_211, rv w_WEST, .unset] [(.ref w_WEST)]) := fun t k => k219 t (st220.trans k)
      have k222 : Way p e below S0 T220 (mkF m 186 #[iv p1, iv p2, iv p3, iv p4, rv w_EAST, iv (0 : Int32), .val .null, rv b204, rv b1_211, rv w_WEST, .unset] [(.ref b1_211), .null]) := by
        intro t k
        refine k221 t ?_
        refine XS.aload X220.here hx rfl (hb hby at_175) rfl rfl ?_
        show Steps p.tables e below (T220.setTop (mkF m 177 #[iv p1, iv p2, iv p3, iv p4, rv w_EAST, iv (0 : Int32), .val .null, rv b204, rv b1_211, rv w_WEST, .unset] [(.ref w_WEST), (.ref w_WEST)])) _
        refine Jvm.RoadKit.acmp (g := (mkF m 177 #[iv p1, iv p2, iv p3, iv p4, rv w_EAST, iv (0 : Int32), .val .null, rv b204, rv b1_211, rv w_WEST, .unset] [(.ref w_WEST), (.ref w_WEST)])) X220 hx rfl rfl rfl (pc0 := 177) (pc' := 182) (same := true) rfl (hb hby at_177) rfl (decide_eq_true rfl) (by decide) (by decide) ?_
        show Steps p.tables e below (T220.setTop (mkF m 182 #[iv p1, iv p2, iv p3, iv p4, rv w_EAST, iv (0 : Int32), .val .null, rv b204, rv b1_211, rv w_WEST, .unset] [])) _
        refine XS.aload X220.here hx rfl (hb hby at_182) rfl rfl ?_
        show Steps p.tables e below (T220.setTop (mkF m 184 #[iv p1, iv p2, iv p3, iv p4, rv w_EAST, iv (0 : Int32), .val .null, rv b204, rv b1_211, rv w_WEST, .unset] [.null])) _
        refine XS.aload X220.here hx rfl (hb hby at_184) rfl rfl ?_
        show Steps p.tables e below (T220.setTop (mkF m 186 #[iv p1, iv p2, iv p3, iv p4, rv w_EAST, iv (0 : Int32), .val .null, rv b204, rv b1_211, rv w_WEST, .unset] [(.ref b1_211), .null])) _
        exact k
      obtain ⟨cq223, kq223, qq223a, qq223b, qq223c⟩ := isOf hZ e220 po211_1
      obtain ⟨_, _, ⟨T223, L223, kk223, nn223⟩, -, X223, ⟨Lc223, hQ223, l223, y223, z223⟩, st223⟩ := X220.virtualBack hx (y := (⟨"com/example/aspectwise/aspectwise/engine/BlockEnd", "block", "()Ljava/lang/String;"⟩ : MethodName)) (z := (⟨"com/example/aspectwise/aspectwise/engine/BlockEnd", "block", "()Ljava/lang/String;"⟩ : MethodName)) hown (mvT hZ (hw _ (List.mem_of_getElem? (i := 37) rfl))) (mvT hZ (hw _ (List.mem_of_getElem? (i := 38) rfl))) (notFace_of_selects (args := #[]) (mvT hZ (hw _ (List.mem_of_getElem? (i := 40) rfl)))) (mvT hZ (hw _ (List.mem_of_getElem? (i := 40) rfl))) (mvT hZ (hw _ (List.mem_of_getElem? (i := 39) rfl))) (by decide) (backOf (W := 1) (blk1 l Z a0 hw [] w_EAST w_WEST wCS G b1_211 T211.heap n0 O211 (po211_2 : Fld Z T211.heap b1_211 "com/example/aspectwise/aspectwise/engine/BlockEnd" "block" "Ljava/lang/String;" .null)) hZ (hw _ (List.mem_of_getElem? (i := 41) rfl)) (hw _ (List.mem_of_getElem? (i := 5) rfl)) (by decide) (by decide)) qq223a qq223c (g := (mkF m 186 #[iv p1, iv p2, iv p3, iv p4, rv w_EAST, iv (0 : Int32), .val .null, rv b204, rv b1_211, rv w_WEST, .unset] [(.ref b1_211), .null])) rfl (by rw [hml]; rfl) (Steps.refl _) (argsL := []) (rest := [.null]) (lenOf pd_12 rfl) rfl (by show 2 * 0 + _ ≤ _; exact Nat.le_of_eq rfl) (hb hby at_186) (fun _ _ => ⟨rfl, e220, (by decide : 2 + 0 ≤ _), (by decide : 4 + 0 ≤ _)⟩)
      dsimp only [Pt.U, Pt.locs, Pt.cells, Pt.slots] at X223 l223 y223 z223 st223 hQ223
      subst l223 y223 z223
      obtain ⟨rfl, Nq223, e223⟩ := hQ223
      have N223 := Fr.app N220 Nq223
      have k224 : Way p e below S0 T223 (mkF m 189 #[iv p1, iv p2, iv p3, iv p4, rv w_EAST, iv (0 : Int32), .val .null, rv b204, rv b1_211, rv w_WEST, .unset] [.null, .null]) := fun t k => k222 t (st223.trans k)
      obtain ⟨_, _, ⟨T225, L225, kk225, nn225⟩, -, X225, ⟨Lc225, hQ225, l225, y225, z225⟩, st225⟩ := Jvm.LawKit.callS X223 hx (y := (⟨"com/example/aspectwise/aspectwise/engine/BlockEndOppositePinLaw", "sameBlock", "(Ljava/lang/String;Ljava/lang/String;)Z"⟩ : MethodName)) hown (mvT hZ (hw _ (List.mem_of_getElem? (i := 42) rfl))) (mvT hZ (hw _ (List.mem_of_getElem? (i := 43) rfl))) (mvT hZ (hw _ (List.mem_of_getElem? (i := 44) rfl))) (mvT hZ (hw _ (List.mem_of_getElem? (i := 45) rfl))) (by decide) (backOf (W := 0) (sb0 l Z a0 hw [] w_EAST w_WEST wCS G  T211.heap n0 O211 ) hZ (hw _ (List.mem_of_getElem? (i := 45) rfl)) (hw _ (List.mem_of_getElem? (i := 44) rfl)) (by decide) (by decide)) (g := (mkF m 189 #[iv p1, iv p2, iv p3, iv p4, rv w_EAST, iv (0 : Int32), .val .null, rv b204, rv b1_211, rv w_WEST, .unset] [.null, .null])) rfl (by rw [hml]; rfl) (argsL := [.null, .null]) (rest := []) (lenOf pd_13 rfl) rfl (by show 2 * 0 + _ ≤ _; exact Nat.le_of_eq rfl) (hb hby at_189) (fun _ _ => ⟨rfl, e223, (by decide : 2 + 0 ≤ _), (by decide : 4 + 0 ≤ _)⟩)
      dsimp only [Pt.U, Pt.locs, Pt.cells, Pt.slots] at X225 l225 y225 z225 st225 hQ225
      subst l225 y225 z225
      obtain ⟨rfl, Nq225, e225⟩ := hQ225
      have N225 := Fr.app N223 Nq225
      have k226 : Way p e below S0 T225 (mkF m 192 #[iv p1, iv p2, iv p3, iv p4, rv w_EAST, iv (0 : Int32), .val .null, rv b204, rv b1_211, rv w_WEST, .unset] [(.int (1 : Int32))]) := fun t k => k224 t (st225 _ k)
      have k227 : Way p e below S0 T225 (mkF m 199 #[iv p1, iv p2, iv p3, iv p4, rv w_EAST, iv (0 : Int32), .val .null, rv b204, rv b1_211, rv w_WEST, .unset] [(.ref b1_211)]) := by
        intro t k
        refine k226 t ?_
        refine XS.ifYes X225.here hx rfl (pc0 := 192) (pc' := 197) rfl (hb hby at_192) rfl ((if0 _ _).trans (feq ((by decide) : ¬ ((1 : Int32) = (0 : Int32)))).2) (by decide) (by decide) ?_
        show Steps p.tables e below (T225.setTop (mkF m 197 #[iv p1, iv p2, iv p3, iv p4, rv w_EAST, iv (0 : Int32), .val .null, rv b204, rv b1_211, rv w_WEST, .unset] [])) _
        refine XS.aload X225.here hx rfl (hb hby at_197) rfl rfl ?_
        show Steps p.tables e below (T225.setTop (mkF m 199 #[iv p1, iv p2, iv p3, iv p4, rv w_EAST, iv (0 : Int32), .val .null, rv b204, rv b1_211, rv w_WEST, .unset] [(.ref b1_211)])) _
        exact k
      obtain ⟨cq228, kq228, qq228a, qq228b, qq228c⟩ := isOf hZ e225 po211_1
      obtain ⟨_, _, ⟨T228, L228, kk228, nn228⟩, -, X228, ⟨Lc228, hQ228, l228, y228, z228⟩, st228⟩ := X225.virtualBack hx (y := (⟨"com/example/aspectwise/aspectwise/engine/BlockEnd", "opposite", "()Lcom/example/aspectwise/aspectwise/engine/BlockEnd;"⟩ : MethodName)) (z := (⟨"com/example/aspectwise/aspectwise/engine/BlockEnd", "opposite", "()Lcom/example/aspectwise/aspectwise/engine/BlockEnd;"⟩ : MethodName)) hown (mvT hZ (hw _ (List.mem_of_getElem? (i := 21) rfl))) (mvT hZ (hw _ (List.mem_of_getElem? (i := 22) rfl))) (notFace_of_selects (args := #[]) (mvT hZ (hw _ (List.mem_of_getElem? (i := 24) rfl)))) (mvT hZ (hw _ (List.mem_of_getElem? (i := 24) rfl))) (mvT hZ (hw _ (List.mem_of_getElem? (i := 23) rfl))) (by decide) (backOf (W := 0) (opp1WEST l Z a0 hw [] w_EAST w_WEST wCS G b1_211 T211.heap n0 O211 (po211_2 : Fld Z T211.heap b1_211 "com/example/aspectwise/aspectwise/engine/BlockEnd" "block" "Ljava/lang/String;" .null) (po211_3 : Fld Z T211.heap b1_211 "com/example/aspectwise/aspectwise/engine/BlockEnd" "side" "Lcom/example/aspectwise/aspectwise/engine/BlockEnd$Side;" (.ref w_WEST))) hZ (hw _ (List.mem_of_getElem? (i := 25) rfl)) (hw _ (List.mem_of_getElem? (i := 5) rfl)) (by decide) (by decide)) qq228a qq228c (g := (mkF m 199 #[iv p1, iv p2, iv p3, iv p4, rv w_EAST, iv (0 : Int32), .val .null, rv b204, rv b1_211, rv w_WEST, .unset] [(.ref b1_211)])) rfl (by rw [hml]; rfl) (Steps.refl _) (argsL := []) (rest := []) (lenOf pd_10 rfl) rfl (by show 2 * 0 + _ ≤ _; exact Nat.le_of_eq rfl) (hb hby at_199) (fun _ _ => ⟨rfl, e225, (by decide : 2 + 1 ≤ _), (by decide : 4 + 2 ≤ _)⟩)
      dsimp only [Pt.U, Pt.locs, Pt.cells, Pt.slots] at X228 l228 y228 z228 st228 hQ228
      subst l228 y228 z228
      obtain ⟨b1_228, rfl, Nq228, Kq228, po228_0, po228_1, po228_2, po228_3⟩ := hQ228
      have N228 := Fr.app N225 Nq228
      have O228 := O211.keep Kq228 all0
      have k229 : Way p e below S0 T228 (mkF m 202 #[iv p1, iv p2, iv p3, iv p4, rv w_EAST, iv (0 : Int32), .val .null, rv b204, rv b1_211, rv w_WEST, .unset] [(.ref b1_228)]) := fun t k => k227 t (st228.trans k)
      have k230 : Way p e below S0 T228 (mkF m 213 #[iv p1, iv p2, iv p3, iv p4, rv w_EAST, iv (0 : Int32), .val .null, rv b204, rv b1_211, rv w_WEST, rv b1_228] [(.ref b1_228)]) := by
        intro t k
        refine k229 t ?_
        refine XS.astore X228.here hx rfl (hb hby at_202) rfl rfl (l' := #[iv p1, iv p2, iv p3, iv p4, rv w_EAST, iv (0 : Int32), .val .null, rv b204, rv b1_211, rv w_WEST, rv b1_228]) rfl ?_
        show Steps p.tables e below (T228.setTop (mkF m 204 #[iv p1, iv p2, iv p3, iv p4, rv w_EAST, iv (0 : Int32), .val .null, rv b204, rv b1_211, rv w_WEST, rv b1_228] [])) _
        refine XS.aload X228.here hx rfl (hb hby at_204) rfl rfl ?_
        show Steps p.tables e below (T228.setTop (mkF m 206 #[iv p1, iv p2, iv p3, iv p4, rv w_EAST, iv (0 : Int32), .val .null, rv b204, rv b1_211, rv w_WEST, rv b1_228] [(.ref b1_228)])) _
        refine XS.ifnonnullYes X228.here hx rfl (pc0 := 206) (pc' := 211) rfl (hb hby at_206) rfl (by decide) (by decide) ?_
        show Steps p.tables e below (T228.setTop (mkF m 211 #[iv p1, iv p2, iv p3, iv p4, rv w_EAST, iv (0 : Int32), .val .null, rv b204, rv b1_211, rv w_WEST, rv b1_228] [])) _
        refine XS.aload X228.here hx rfl (hb hby at_211) rfl rfl ?_
        show Steps p.tables e below (T228.setTop (mkF m 213 #[iv p1, iv p2, iv p3, iv p4, rv w_EAST, iv (0 : Int32), .val .null, rv b204, rv b1_211, rv w_WEST, rv b1_228] [(.ref b1_228)])) _
        exact k
      obtain ⟨cq231, kq231, qq231a, qq231b, qq231c⟩ := isOf hZ rfl po228_1
      obtain ⟨_, _, ⟨T231, L231, kk231, nn231⟩, -, X231, ⟨Lc231, hQ231, l231, y231, z231⟩, st231⟩ := X228.virtualBack hx (y := (⟨"com/example/aspectwise/aspectwise/engine/BlockEnd", "side", "()Lcom/example/aspectwise/aspectwise/engine/BlockEnd$Side;"⟩ : MethodName)) (z := (⟨"com/example/aspectwise/aspectwise/engine/BlockEnd", "side", "()Lcom/example/aspectwise/aspectwise/engine/BlockEnd$Side;"⟩ : MethodName)) hown (mvT hZ (hw _ (List.mem_of_getElem? (i := 32) rfl))) (mvT hZ (hw _ (List.mem_of_getElem? (i := 33) rfl))) (notFace_of_selects (args := #[]) (mvT hZ (hw _ (List.mem_of_getElem? (i := 35) rfl)))) (mvT hZ (hw _ (List.mem_of_getElem? (i := 35) rfl))) (mvT hZ (hw _ (List.mem_of_getElem? (i := 34) rfl))) (by decide) (backOf (W := 0) (sid l Z a0 hw [] w_EAST w_WEST wCS G b1_228 w_EAST T228.heap n0 O228 (po228_3 : Fld Z T228.heap b1_228 "com/example/aspectwise/aspectwise/engine/BlockEnd" "side" "Lcom/example/aspectwise/aspectwise/engine/BlockEnd$Side;" (.ref w_EAST))) hZ (hw _ (List.mem_of_getElem? (i := 36) rfl)) (hw _ (List.mem_of_getElem? (i := 5) rfl)) (by decide) (by decide)) qq231a qq231c (g := (mkF m 213 #[iv p1, iv p2, iv p3, iv p4, rv w_EAST, iv (0 : Int32), .val .null, rv b204, rv b1_211, rv w_WEST, rv b1_228] [(.ref b1_228)])) rfl (by rw [hml]; rfl) (Steps.refl _) (argsL := []) (rest := []) (lenOf pd_11 rfl) rfl (by show 2 * 0 + _ ≤ _; exact Nat.le_of_eq rfl) (hb hby at_213) (fun _ _ => ⟨rfl, rfl, (by decide : 3 + 0 ≤ _), (by decide : 6 + 0 ≤ _)⟩)
      dsimp only [Pt.U, Pt.locs, Pt.cells, Pt.slots] at X231 l231 y231 z231 st231 hQ231
      subst l231 y231 z231
      obtain ⟨rfl, Nq231, e231⟩ := hQ231
      have N231 := Fr.app N228 Nq231
      have k232 : Way p e below S0 T231 (mkF m 216 #[iv p1, iv p2, iv p3, iv p4, rv w_EAST, iv (0 : Int32), .val .null, rv b204, rv b1_211, rv w_WEST, rv b1_228] [(.ref w_EAST)]) := fun t k => k230 t (st231.trans k)
      have k233 : Way p e below S0 T231 (mkF m 225 #[iv p1, iv p2, iv p3, iv p4, rv w_EAST, iv (0 : Int32), .val .null, rv b204, rv b1_211, rv w_WEST, rv b1_228] [(.ref b1_228), .null]) := by
        intro t k
        refine k232 t ?_
        refine XS.aload X231.here hx rfl (hb hby at_216) rfl rfl ?_
        show Steps p.tables e below (T231.setTop (mkF m 218 #[iv p1, iv p2, iv p3, iv p4, rv w_EAST, iv (0 : Int32), .val .null, rv b204, rv b1_211, rv w_WEST, rv b1_228] [(.ref w_EAST), (.ref w_EAST)])) _
        refine Jvm.RoadKit.acmp (g := (mkF m 218 #[iv p1, iv p2, iv p3, iv p4, rv w_EAST, iv (0 : Int32), .val .null, rv b204, rv b1_211, rv w_WEST, rv b1_228] [(.ref w_EAST), (.ref w_EAST)])) X231 hx rfl rfl rfl (pc0 := 218) (pc' := 221) (same := true) rfl (hb hby at_218) rfl (decide_eq_true rfl) (by decide) (by decide) ?_
        show Steps p.tables e below (T231.setTop (mkF m 221 #[iv p1, iv p2, iv p3, iv p4, rv w_EAST, iv (0 : Int32), .val .null, rv b204, rv b1_211, rv w_WEST, rv b1_228] [])) _
        refine XS.aload X231.here hx rfl (hb hby at_221) rfl rfl ?_
        show Steps p.tables e below (T231.setTop (mkF m 223 #[iv p1, iv p2, iv p3, iv p4, rv w_EAST, iv (0 : Int32), .val .null, rv b204, rv b1_211, rv w_WEST, rv b1_228] [.null])) _
        refine XS.aload X231.here hx rfl (hb hby at_223) rfl rfl ?_
        show Steps p.tables e below (T231.setTop (mkF m 225 #[iv p1, iv p2, iv p3, iv p4, rv w_EAST, iv (0 : Int32), .val .null, rv b204, rv b1_211, rv w_WEST, rv b1_228] [(.ref b1_228), .null])) _
        exact k
      obtain ⟨cq234, kq234, qq234a, qq234b, qq234c⟩ := isOf hZ e231 po228_1
      obtain ⟨_, _, ⟨T234, L234, kk234, nn234⟩, -, X234, ⟨Lc234, hQ234, l234, y234, z234⟩, st234⟩ := X231.virtualBack hx (y := (⟨"com/example/aspectwise/aspectwise/engine/BlockEnd", "block", "()Ljava/lang/String;"⟩ : MethodName)) (z := (⟨"com/example/aspectwise/aspectwise/engine/BlockEnd", "block", "()Ljava/lang/String;"⟩ : MethodName)) hown (mvT hZ (hw _ (List.mem_of_getElem? (i := 37) rfl))) (mvT hZ (hw _ (List.mem_of_getElem? (i := 38) rfl))) (notFace_of_selects (args := #[]) (mvT hZ (hw _ (List.mem_of_getElem? (i := 40) rfl)))) (mvT hZ (hw _ (List.mem_of_getElem? (i := 40) rfl))) (mvT hZ (hw _ (List.mem_of_getElem? (i := 39) rfl))) (by decide) (backOf (W := 1) (blk1 l Z a0 hw [] w_EAST w_WEST wCS G b1_228 T228.heap n0 O228 (po228_2 : Fld Z T228.heap b1_228 "com/example/aspectwise/aspectwise/engine/BlockEnd" "block" "Ljava/lang/String;" .null)) hZ (hw _ (List.mem_of_getElem? (i := 41) rfl)) (hw _ (List.mem_of_getElem? (i := 5) rfl)) (by decide) (by decide)) qq234a qq234c (g := (mkF m 225 #[iv p1, iv p2, iv p3, iv p4, rv w_EAST, iv (0 : Int32), .val .null, rv b204, rv b1_211, rv w_WEST, rv b1_228] [(.ref b1_228), .null])) rfl (by rw [hml]; rfl) (Steps.refl _) (argsL := []) (rest := [.null]) (lenOf pd_12 rfl) rfl (by show 2 * 0 + _ ≤ _; exact Nat.le_of_eq rfl) (hb hby at_225) (fun _ _ => ⟨rfl, e231, (by decide : 3 + 0 ≤ _), (by decide : 6 + 0 ≤ _)⟩)
      dsimp only [Pt.U, Pt.locs, Pt.cells, Pt.slots] at X234 l234 y234 z234 st234 hQ234
      subst l234 y234 z234
      obtain ⟨rfl, Nq234, e234⟩ := hQ234
      have N234 := Fr.app N231 Nq234
      have k235 : Way p e below S0 T234 (mkF m 228 #[iv p1, iv p2, iv p3, iv p4, rv w_EAST, iv (0 : Int32), .val .null, rv b204, rv b1_211, rv w_WEST, rv b1_228] [.null, .null]) := fun t k => k233 t (st234.trans k)
      obtain ⟨_, _, ⟨T236, L236, kk236, nn236⟩, -, X236, ⟨Lc236, hQ236, l236, y236, z236⟩, st236⟩ := Jvm.LawKit.callS X234 hx (y := (⟨"com/example/aspectwise/aspectwise/engine/BlockEndOppositePinLaw", "sameBlock", "(Ljava/lang/String;Ljava/lang/String;)Z"⟩ : MethodName)) hown (mvT hZ (hw _ (List.mem_of_getElem? (i := 42) rfl))) (mvT hZ (hw _ (List.mem_of_getElem? (i := 43) rfl))) (mvT hZ (hw _ (List.mem_of_getElem? (i := 44) rfl))) (mvT hZ (hw _ (List.mem_of_getElem? (i := 45) rfl))) (by decide) (backOf (W := 0) (sb0 l Z a0 hw [] w_EAST w_WEST wCS G  T228.heap n0 O228 ) hZ (hw _ (List.mem_of_getElem? (i := 45) rfl)) (hw _ (List.mem_of_getElem? (i := 44) rfl)) (by decide) (by decide)) (g := (mkF m 228 #[iv p1, iv p2, iv p3, iv p4, rv w_EAST, iv (0 : Int32), .val .null, rv b204, rv b1_211, rv w_WEST, rv b1_228] [.null, .null])) rfl (by rw [hml]; rfl) (argsL := [.null, .null]) (rest := []) (lenOf pd_13 rfl) rfl (by show 2 * 0 + _ ≤ _; exact Nat.le_of_eq rfl) (hb hby at_228) (fun _ _ => ⟨rfl, e234, (by decide : 3 + 0 ≤ _), (by decide : 6 + 0 ≤ _)⟩)
      dsimp only [Pt.U, Pt.locs, Pt.cells, Pt.slots] at X236 l236 y236 z236 st236 hQ236
      subst l236 y236 z236
      obtain ⟨rfl, Nq236, e236⟩ := hQ236
      have N236 := Fr.app N234 Nq236
      have k237 : Way p e below S0 T236 (mkF m 231 #[iv p1, iv p2, iv p3, iv p4, rv w_EAST, iv (0 : Int32), .val .null, rv b204, rv b1_211, rv w_WEST, rv b1_228] [(.int (1 : Int32))]) := fun t k => k235 t (st236 _ k)
      have k238 : Way p e below S0 T236 (mkF m 239 #[iv p1, iv p2, iv p3, iv p4, rv w_EAST, iv (0 : Int32), .val .null, rv b204, rv b1_211, rv w_WEST, rv b1_228] [(.int (1 : Int32))]) := by
        intro t k
        refine k237 t ?_
        refine XS.ifNo X236.here hx rfl (hb hby at_231) rfl ((if0 _ _).trans (feq ((by decide) : ¬ ((1 : Int32) = (0 : Int32)))).1) ?_
        show Steps p.tables e below (T236.setTop (mkF m 234 #[iv p1, iv p2, iv p3, iv p4, rv w_EAST, iv (0 : Int32), .val .null, rv b204, rv b1_211, rv w_WEST, rv b1_228] [])) _
        refine XS.iconst X236.here hx rfl (hb hby at_234) ?_
        show Steps p.tables e below (T236.setTop (mkF m 235 #[iv p1, iv p2, iv p3, iv p4, rv w_EAST, iv (0 : Int32), .val .null, rv b204, rv b1_211, rv w_WEST, rv b1_228] [(.int (1 : Int32))])) _
        refine XS.goto X236.here hx rfl (pc0 := 235) (pc' := 239) rfl (hb hby at_235) (by decide) (by decide) ?_
        show Steps p.tables e below (T236.setTop (mkF m 239 #[iv p1, iv p2, iv p3, iv p4, rv w_EAST, iv (0 : Int32), .val .null, rv b204, rv b1_211, rv w_WEST, rv b1_228] [(.int (1 : Int32))])) _
        exact k
      obtain ⟨fs, hr, hrun, hended, hRW⟩ := Stand.leaveW (s := s) (vm₁ := s.vm) X236 hS0 (by rw [e236]; exact (Nat.zero_le _)) (v := some (.int (1 : Int32))) (fun h => by rw [Bd.returns] at h; cases h)
      refine ⟨_, _, k238 _ (retN X236 hx (t := .boolean) Bd.returns (by simp) (hb hby at_239) hr), hrun, hended, _, _, rfl, ?_, own_rw hRW (by decide) (by decide)⟩
      show Q_law_met Z w_EAST w_WEST wCS p1 p2 p3 p4 h0 n0 _ T236.heap _
      rw [e236]
      exact ⟨rfl, N236⟩
    · have k239 : Way p e below S0 T198 (mkF m 24 #[iv p1, iv p2, iv p3, iv p4, rv w_EAST, iv (1 : Int32), .unset, .unset, .unset, .unset, .unset] []) := by have q := k200; rw [hi201] at q; exact q
      have k240 : Way p e below S0 T198 (mkF m 41 #[iv p1, iv p2, iv p3, iv p4, rv w_EAST, iv (1 : Int32), .unset, .unset, .unset, .unset, .unset] []) := by
        intro t k
        refine k239 t ?_
        refine XS.iload X198.here hx rfl (hb hby at_24) rfl ?_
        show Steps p.tables e below (T198.setTop (mkF m 26 #[iv p1, iv p2, iv p3, iv p4, rv w_EAST, iv (1 : Int32), .unset, .unset, .unset, .unset, .unset] [(.int (1 : Int32))])) _
        refine XS.ifYes X198.here hx rfl (pc0 := 26) (pc' := 35) rfl (hb hby at_26) rfl ((if0 _ _).trans (feq ((by decide) : ¬ ((1 : Int32) = (0 : Int32)))).2) (by decide) (by decide) ?_
        show Steps p.tables e below (T198.setTop (mkF m 35 #[iv p1, iv p2, iv p3, iv p4, rv w_EAST, iv (1 : Int32), .unset, .unset, .unset, .unset, .unset] [])) _
        refine XS.iload X198.here hx rfl (hb hby at_35) rfl ?_
        show Steps p.tables e below (T198.setTop (mkF m 37 #[iv p1, iv p2, iv p3, iv p4, rv w_EAST, iv (1 : Int32), .unset, .unset, .unset, .unset, .unset] [(.int (1 : Int32))])) _
        refine XS.iconst X198.here hx rfl (hb hby at_37) ?_
        show Steps p.tables e below (T198.setTop (mkF m 38 #[iv p1, iv p2, iv p3, iv p4, rv w_EAST, iv (1 : Int32), .unset, .unset, .unset, .unset, .unset] [(.int (1 : Int32)), (.int (1 : Int32))])) _
        refine XS.icmpNo X198.here hx rfl (hb hby at_38) rfl (teq ((by decide) : (1 : Int32) = (1 : Int32))).2 ?_
        show Steps p.tables e below (T198.setTop (mkF m 41 #[iv p1, iv p2, iv p3, iv p4, rv w_EAST, iv (1 : Int32), .unset, .unset, .unset, .unset, .unset] [])) _
        exact k
      obtain ⟨T241, h241, X241, e241, E241, A241, D241, U241, st241⟩ := newO X198 hx hZ hown (hw _ (List.mem_of_getElem? (i := 46) rfl)) (hw _ (List.mem_of_getElem? (i := 47) rfl)) (hw _ (List.mem_of_getElem? (i := 48) rfl)) e198 (g := (mkF m 41 #[iv p1, iv p2, iv p3, iv p4, rv w_EAST, iv (1 : Int32), .unset, .unset, .unset, .unset, .unset] [])) rfl (hb hby at_41) (by decide) (by decide)
      obtain ⟨b241, g241⟩ : ∃ z, z = h0.size := ⟨_, rfl⟩
      rw [← g241] at A241 D241 U241 st241
      have O241 := O0.ext E241
      have i241_value : Fld Z h241 b241 "java/lang/String" "value" "[B" .null := D241 (Or.inr (hw _ (List.mem_of_getElem? (i := 60) rfl))) (ty := (.array .byte)) (by decide)
      have i241_coder : Fld Z h241 b241 "java/lang/String" "coder" "B" (.int (0 : Int32)) := D241 (Or.inr (hw _ (List.mem_of_getElem? (i := 61) rfl))) (ty := .byte) (by decide)
      have k242 : Way p e below S0 T241 (mkF m 44 #[iv p1, iv p2, iv p3, iv p4, rv w_EAST, iv (1 : Int32), .unset, .unset, .unset, .unset, .unset] [(.ref b241)]) := fun t k => k240 t (st241 _ k)
      have k243 : Way p e below S0 T241 (mkF m 46 #[iv p1, iv p2, iv p3, iv p4, rv w_EAST, iv (1 : Int32), .unset, .unset, .unset, .unset, .unset] [(.int (0 : Int32)), (.ref b241), (.ref b241)]) := by
        intro t k
        refine k242 t ?_
        refine XS.dup X241.here hx rfl (hb hby at_44) rfl rfl ?_
        show Steps p.tables e below (T241.setTop (mkF m 45 #[iv p1, iv p2, iv p3, iv p4, rv w_EAST, iv (1 : Int32), .unset, .unset, .unset, .unset, .unset] [(.ref b241), (.ref b241)])) _
        refine XS.iconst X241.here hx rfl (hb hby at_45) ?_
        show Steps p.tables e below (T241.setTop (mkF m 46 #[iv p1, iv p2, iv p3, iv p4, rv w_EAST, iv (1 : Int32), .unset, .unset, .unset, .unset, .unset] [(.int (0 : Int32)), (.ref b241), (.ref b241)])) _
        exact k
      obtain ⟨T244, h244, c244, X244, e244, E244, A244, B244, st244⟩ := newPE X241 hx hZ (hw _ (List.mem_of_getElem? (i := 49) rfl)) e241 (g := (mkF m 46 #[iv p1, iv p2, iv p3, iv p4, rv w_EAST, iv (1 : Int32), .unset, .unset, .unset, .unset, .unset] [(.int (0 : Int32)), (.ref b241), (.ref b241)])) rfl (hb hby at_46) rfl (by decide) (cap := 0) (by decide) (by decide) (by decide) (by decide) (ad := "[C") (by decide)
      obtain ⟨b244, g244⟩ : ∃ z, z = h241.size := ⟨_, rfl⟩
      rw [← g244] at A244 B244 st244
      have O244 := O241.ext E244
      have v244 : Arv Z h244 b244 c244 .char (0 : Int32) [] (.int (0 : Int32)) := (Arv.new A244 (by decide)).pad (pad_rep [] (.int (0 : Int32)) 0)
      have k245 : Way p e below S0 T244 (mkF m 48 #[iv p1, iv p2, iv p3, iv p4, rv w_EAST, iv (1 : Int32), .unset, .unset, .unset, .unset, .unset] [(.ref b244), (.ref b241), (.ref b241)]) := fun t k => k243 t (st244 _ k)
      have f246 : Exa Z h244 b241 "java/lang/String" := (A241.ext E244)
      have f247 : Fld Z h244 b241 "java/lang/String" "value" "[B" .null := (i241_value.ext E244)
      have f248 : Fld Z h244 b241 "java/lang/String" "coder" "B" (.int (0 : Int32)) := (i241_coder.ext E244)
      have ge249 : n0 ≤ b241 := Nat.le_trans (own_old O0) (Nat.le_of_eq g241.symm)
      obtain ⟨_, _, ⟨T250, L250, kk250, nn250⟩, -, Xr250, hSr250, hgr250, ⟨Lc250, hQ250, l250, y250, z250⟩, st250⟩ := X244.specialBackS hx (y := (⟨"java/lang/String", "<init>", "([C)V"⟩ : MethodName)) rfl hown (mvT hZ (hw _ (List.mem_of_getElem? (i := 50) rfl))) (mvT hZ (hw _ (List.mem_of_getElem? (i := 51) rfl))) (mvT hZ (hw _ (List.mem_of_getElem? (i := 52) rfl))) (by decide) (own_backI (W := 1) (einit l Z a0 hw [] w_EAST w_WEST wCS G b241 b244 c244 h244 n0 O244 (f246 : Exa Z h244 b241 "java/lang/String") (f247 : Fld Z h244 b241 "java/lang/String" "value" "[B" .null) (f248 : Fld Z h244 b241 "java/lang/String" "coder" "B" (.int (0 : Int32))) (ge249 : n0 ≤ b241) (v244 : Arv Z h244 b244 c244 .char (0 : Int32) [] (.int (0 : Int32))) (hh7 : Jvm.Lit.constHeld Z "java/lang/String" 7) (hcw : Jvm.Lit.compactW.before a0 Z = true)) hZ (hw _ (List.mem_of_getElem? (i := 52) rfl)) (hw _ (List.mem_of_getElem? (i := 48) rfl)) (by decide) (by decide) I0) (g := (mkF m 48 #[iv p1, iv p2, iv p3, iv p4, rv w_EAST, iv (1 : Int32), .unset, .unset, .unset, .unset, .unset] [(.ref b244), (.ref b241), (.ref b241)])) rfl (by rw [hml]; rfl) (Steps.refl _) (a := b241) (argsL := [(.ref b244)]) (rest := [(.ref b241)]) (lenOf pd_14 rfl) rfl (by show 2 * 0 + _ ≤ _; exact Nat.le_of_eq rfl) (hb hby at_48) (fun _ _ => ⟨rfl, e244, (by decide : 2 + 2 ≤ _), (by decide : 4 + 4 ≤ _)⟩)
      dsimp only [Pt.U, Pt.locs, Pt.cells, Pt.slots] at Xr250 hSr250 hgr250 l250 y250 z250 st250 hQ250
      subst l250 y250 z250
      obtain ⟨X250, hS250, hZ250, ho250⟩ := rebS (s := s) (vm0 := s.vm) hS0 (by rw [e244]; exact (Nat.zero_le _)) Xr250 hSr250 hgr250 hZ hown
      have hZ := hZ250
      have hown := ho250
      obtain ⟨rfl, Nq250, Kq250, po250_0⟩ := hQ250
      have N250 := Fr.app N0 Nq250
      have O250 := O244.keep Kq250 (allS ge249 all0)
      have k251 : Way p e below S0 T250 (mkF m 51 #[iv p1, iv p2, iv p3, iv p4, rv w_EAST, iv (1 : Int32), .unset, .unset, .unset, .unset, .unset] [(.ref b241)]) := fun t k => k245 t (st250.trans k)
      have k252 : Way p e below S0 T250 (mkF m 122 #[iv p1, iv p2, iv p3, iv p4, rv w_EAST, iv (1 : Int32), rv b241, .unset, .unset, .unset, .unset] []) := by
        intro t k
        refine k251 t ?_
        refine XS.astore X250.here hx rfl (hb hby at_51) rfl rfl (l' := #[iv p1, iv p2, iv p3, iv p4, rv w_EAST, iv (1 : Int32), rv b241, .unset, .unset, .unset, .unset]) rfl ?_
        show Steps p.tables e below (T250.setTop (mkF m 53 #[iv p1, iv p2, iv p3, iv p4, rv w_EAST, iv (1 : Int32), rv b241, .unset, .unset, .unset, .unset] [])) _
        refine XS.goto X250.here hx rfl (pc0 := 53) (pc' := 122) rfl (hb hby at_53) (by decide) (by decide) ?_
        show Steps p.tables e below (T250.setTop (mkF m 122 #[iv p1, iv p2, iv p3, iv p4, rv w_EAST, iv (1 : Int32), rv b241, .unset, .unset, .unset, .unset] [])) _
        exact k
      obtain ⟨T253, h253, X253, e253, E253, A253, D253, U253, st253⟩ := newO X250 hx hZ hown (hw _ (List.mem_of_getElem? (i := 3) rfl)) (hw _ (List.mem_of_getElem? (i := 4) rfl)) (hw _ (List.mem_of_getElem? (i := 5) rfl)) rfl (g := (mkF m 122 #[iv p1, iv p2, iv p3, iv p4, rv w_EAST, iv (1 : Int32), rv b241, .unset, .unset, .unset, .unset] [])) rfl (hb hby at_122) (by decide) (by decide)
      obtain ⟨b253, g253⟩ : ∃ z, z = T250.heap.size := ⟨_, rfl⟩
      rw [← g253] at A253 D253 U253 st253
      have O253 := O250.ext E253
      have i253_block : Fld Z h253 b253 "com/example/aspectwise/aspectwise/engine/BlockEnd" "block" "Ljava/lang/String;" .null := D253 (Or.inr (hw _ (List.mem_of_getElem? (i := 18) rfl))) (ty := (.object "java/lang/String")) (by decide)
      have i253_side : Fld Z h253 b253 "com/example/aspectwise/aspectwise/engine/BlockEnd" "side" "Lcom/example/aspectwise/aspectwise/engine/BlockEnd$Side;" .null := D253 (Or.inr (hw _ (List.mem_of_getElem? (i := 20) rfl))) (ty := (.object "com/example/aspectwise/aspectwise/engine/BlockEnd$Side")) (by decide)
      have k254 : Way p e below S0 T253 (mkF m 125 #[iv p1, iv p2, iv p3, iv p4, rv w_EAST, iv (1 : Int32), rv b241, .unset, .unset, .unset, .unset] [(.ref b253)]) := fun t k => k252 t (st253 _ k)
      have k255 : Way p e below S0 T253 (mkF m 130 #[iv p1, iv p2, iv p3, iv p4, rv w_EAST, iv (1 : Int32), rv b241, .unset, .unset, .unset, .unset] [(.ref w_EAST), (.ref b241), (.ref b253), (.ref b253)]) := by
        intro t k
        refine k254 t ?_
        refine XS.dup X253.here hx rfl (hb hby at_125) rfl rfl ?_
        show Steps p.tables e below (T253.setTop (mkF m 126 #[iv p1, iv p2, iv p3, iv p4, rv w_EAST, iv (1 : Int32), rv b241, .unset, .unset, .unset, .unset] [(.ref b253), (.ref b253)])) _
        refine XS.aload X253.here hx rfl (hb hby at_126) rfl rfl ?_
        show Steps p.tables e below (T253.setTop (mkF m 128 #[iv p1, iv p2, iv p3, iv p4, rv w_EAST, iv (1 : Int32), rv b241, .unset, .unset, .unset, .unset] [(.ref b241), (.ref b253), (.ref b253)])) _
        refine XS.aload X253.here hx rfl (hb hby at_128) rfl rfl ?_
        show Steps p.tables e below (T253.setTop (mkF m 130 #[iv p1, iv p2, iv p3, iv p4, rv w_EAST, iv (1 : Int32), rv b241, .unset, .unset, .unset, .unset] [(.ref w_EAST), (.ref b241), (.ref b253), (.ref b253)])) _
        exact k
      have ge256 : n0 ≤ b253 := Nat.le_trans (own_old O250) (Nat.le_of_eq g253.symm)
      obtain ⟨_, _, ⟨T257, L257, kk257, nn257⟩, -, X257, ⟨Lc257, hQ257, l257, y257, z257⟩, st257⟩ := X253.specialBack hx (y := (⟨"com/example/aspectwise/aspectwise/engine/BlockEnd", "<init>", "(Ljava/lang/String;Lcom/example/aspectwise/aspectwise/engine/BlockEnd$Side;)V"⟩ : MethodName)) rfl hown (mvT hZ (hw _ (List.mem_of_getElem? (i := 6) rfl))) (mvT hZ (hw _ (List.mem_of_getElem? (i := 7) rfl))) (mvT hZ (hw _ (List.mem_of_getElem? (i := 8) rfl))) (by decide) (backOf (W := 1) (bi1 l Z a0 hw [] w_EAST w_WEST wCS G b253 b241 w_EAST h253 n0 O253 (A253 : Exa Z h253 b253 "com/example/aspectwise/aspectwise/engine/BlockEnd") (i253_block : Fld Z h253 b253 "com/example/aspectwise/aspectwise/engine/BlockEnd" "block" "Ljava/lang/String;" .null) (i253_side : Fld Z h253 b253 "com/example/aspectwise/aspectwise/engine/BlockEnd" "side" "Lcom/example/aspectwise/aspectwise/engine/BlockEnd$Side;" .null) (ge256 : n0 ≤ b253)) hZ (hw _ (List.mem_of_getElem? (i := 8) rfl)) (hw _ (List.mem_of_getElem? (i := 5) rfl)) (by decide) (by decide)) (g := (mkF m 130 #[iv p1, iv p2, iv p3, iv p4, rv w_EAST, iv (1 : Int32), rv b241, .unset, .unset, .unset, .unset] [(.ref w_EAST), (.ref b241), (.ref b253), (.ref b253)])) rfl (by rw [hml]; rfl) (Steps.refl _) (a := b253) (argsL := [(.ref b241), (.ref w_EAST)]) (rest := [(.ref b253)]) (lenOf pd_8 rfl) rfl (by show 2 * 0 + _ ≤ _; exact Nat.le_of_eq rfl) (hb hby at_130) (fun _ _ => ⟨rfl, e253, (by decide : 5 + 0 ≤ _), (by decide : 10 + 0 ≤ _)⟩)
      dsimp only [Pt.U, Pt.locs, Pt.cells, Pt.slots] at X257 l257 y257 z257 st257 hQ257
      subst l257 y257 z257
      obtain ⟨rfl, Nq257, Kq257, po257_0, po257_1, po257_2⟩ := hQ257
      have N257 := Fr.app N250 Nq257
      have O257 := O253.keep Kq257 (allS ge256 all0)
      have k258 : Way p e below S0 T257 (mkF m 133 #[iv p1, iv p2, iv p3, iv p4, rv w_EAST, iv (1 : Int32), rv b241, .unset, .unset, .unset, .unset] [(.ref b253)]) := fun t k => k255 t (st257.trans k)
      have k259 : Way p e below S0 T257 (mkF m 137 #[iv p1, iv p2, iv p3, iv p4, rv w_EAST, iv (1 : Int32), rv b241, rv b253, .unset, .unset, .unset] [(.ref b253)]) := by
        intro t k
        refine k258 t ?_
        refine XS.astore X257.here hx rfl (hb hby at_133) rfl rfl (l' := #[iv p1, iv p2, iv p3, iv p4, rv w_EAST, iv (1 : Int32), rv b241, rv b253, .unset, .unset, .unset]) rfl ?_
        show Steps p.tables e below (T257.setTop (mkF m 135 #[iv p1, iv p2, iv p3, iv p4, rv w_EAST, iv (1 : Int32), rv b241, rv b253, .unset, .unset, .unset] [])) _
        refine XS.aload X257.here hx rfl (hb hby at_135) rfl rfl ?_
        show Steps p.tables e below (T257.setTop (mkF m 137 #[iv p1, iv p2, iv p3, iv p4, rv w_EAST, iv (1 : Int32), rv b241, rv b253, .unset, .unset, .unset] [(.ref b253)])) _
        exact k
      obtain ⟨cq260, kq260, qq260a, qq260b, qq260c⟩ := isOf hZ rfl po257_0
      obtain ⟨_, _, ⟨T260, L260, kk260, nn260⟩, -, X260, ⟨Lc260, hQ260, l260, y260, z260⟩, st260⟩ := X257.virtualBack hx (y := (⟨"com/example/aspectwise/aspectwise/engine/BlockEnd", "opposite", "()Lcom/example/aspectwise/aspectwise/engine/BlockEnd;"⟩ : MethodName)) (z := (⟨"com/example/aspectwise/aspectwise/engine/BlockEnd", "opposite", "()Lcom/example/aspectwise/aspectwise/engine/BlockEnd;"⟩ : MethodName)) hown (mvT hZ (hw _ (List.mem_of_getElem? (i := 21) rfl))) (mvT hZ (hw _ (List.mem_of_getElem? (i := 22) rfl))) (notFace_of_selects (args := #[]) (mvT hZ (hw _ (List.mem_of_getElem? (i := 24) rfl)))) (mvT hZ (hw _ (List.mem_of_getElem? (i := 24) rfl))) (mvT hZ (hw _ (List.mem_of_getElem? (i := 23) rfl))) (by decide) (backOf (W := 0) (opp0EAST l Z a0 hw [] w_EAST w_WEST wCS G b253 b241 T257.heap n0 O257 (po257_1 : Fld Z T257.heap b253 "com/example/aspectwise/aspectwise/engine/BlockEnd" "block" "Ljava/lang/String;" (.ref b241)) (po257_2 : Fld Z T257.heap b253 "com/example/aspectwise/aspectwise/engine/BlockEnd" "side" "Lcom/example/aspectwise/aspectwise/engine/BlockEnd$Side;" (.ref w_EAST))) hZ (hw _ (List.mem_of_getElem? (i := 25) rfl)) (hw _ (List.mem_of_getElem? (i := 5) rfl)) (by decide) (by decide)) qq260a qq260c (g := (mkF m 137 #[iv p1, iv p2, iv p3, iv p4, rv w_EAST, iv (1 : Int32), rv b241, rv b253, .unset, .unset, .unset] [(.ref b253)])) rfl (by rw [hml]; rfl) (Steps.refl _) (argsL := []) (rest := []) (lenOf pd_10 rfl) rfl (by show 2 * 0 + _ ≤ _; exact Nat.le_of_eq rfl) (hb hby at_137) (fun _ _ => ⟨rfl, rfl, (by decide : 5 + 1 ≤ _), (by decide : 10 + 2 ≤ _)⟩)
      dsimp only [Pt.U, Pt.locs, Pt.cells, Pt.slots] at X260 l260 y260 z260 st260 hQ260
      subst l260 y260 z260
      obtain ⟨b1_260, rfl, Nq260, Kq260, po260_0, po260_1, po260_2, po260_3⟩ := hQ260
      have N260 := Fr.app N257 Nq260
      have O260 := O257.keep Kq260 all0
      have k261 : Way p e below S0 T260 (mkF m 140 #[iv p1, iv p2, iv p3, iv p4, rv w_EAST, iv (1 : Int32), rv b241, rv b253, .unset, .unset, .unset] [(.ref b1_260)]) := fun t k => k259 t (st260.trans k)
      have k262 : Way p e below S0 T260 (mkF m 151 #[iv p1, iv p2, iv p3, iv p4, rv w_EAST, iv (1 : Int32), rv b241, rv b253, rv b1_260, .unset, .unset] [(.ref w_EAST)]) := by
        intro t k
        refine k261 t ?_
        refine XS.astore X260.here hx rfl (hb hby at_140) rfl rfl (l' := #[iv p1, iv p2, iv p3, iv p4, rv w_EAST, iv (1 : Int32), rv b241, rv b253, rv b1_260, .unset, .unset]) rfl ?_
        show Steps p.tables e below (T260.setTop (mkF m 142 #[iv p1, iv p2, iv p3, iv p4, rv w_EAST, iv (1 : Int32), rv b241, rv b253, rv b1_260, .unset, .unset] [])) _
        refine XS.aload X260.here hx rfl (hb hby at_142) rfl rfl ?_
        show Steps p.tables e below (T260.setTop (mkF m 144 #[iv p1, iv p2, iv p3, iv p4, rv w_EAST, iv (1 : Int32), rv b241, rv b253, rv b1_260, .unset, .unset] [(.ref b1_260)])) _
        refine XS.ifnonnullYes X260.here hx rfl (pc0 := 144) (pc' := 149) rfl (hb hby at_144) rfl (by decide) (by decide) ?_
        show Steps p.tables e below (T260.setTop (mkF m 149 #[iv p1, iv p2, iv p3, iv p4, rv w_EAST, iv (1 : Int32), rv b241, rv b253, rv b1_260, .unset, .unset] [])) _
        refine XS.aload X260.here hx rfl (hb hby at_149) rfl rfl ?_
        show Steps p.tables e below (T260.setTop (mkF m 151 #[iv p1, iv p2, iv p3, iv p4, rv w_EAST, iv (1 : Int32), rv b241, rv b253, rv b1_260, .unset, .unset] [(.ref w_EAST)])) _
        exact k
      obtain ⟨T263, X263, e263, st263⟩ := getS2 X260 hx hZ hown (host := "") (Or.inl (hw _ (List.mem_of_getElem? (i := 0) rfl))) Via.refl rfl (S_w_EAST.ext O260.2) (g := (mkF m 151 #[iv p1, iv p2, iv p3, iv p4, rv w_EAST, iv (1 : Int32), rv b241, rv b253, rv b1_260, .unset, .unset] [(.ref w_EAST)])) rfl (hb hby at_151)
      have k264 : Way p e below S0 T263 (mkF m 154 #[iv p1, iv p2, iv p3, iv p4, rv w_EAST, iv (1 : Int32), rv b241, rv b253, rv b1_260, .unset, .unset] [(.ref w_EAST), (.ref w_EAST)]) := fun t k => k262 t (st263 _ k)
      have k265 : Way p e below S0 T263 (mkF m 157 #[iv p1, iv p2, iv p3, iv p4, rv w_EAST, iv (1 : Int32), rv b241, rv b253, rv b1_260, .unset, .unset] []) := by
        intro t k
        refine k264 t ?_
        refine Jvm.RoadKit.acmp (g := (mkF m 154 #[iv p1, iv p2, iv p3, iv p4, rv w_EAST, iv (1 : Int32), rv b241, rv b253, rv b1_260, .unset, .unset] [(.ref w_EAST), (.ref w_EAST)])) X263 hx rfl rfl rfl (pc0 := 154) (pc' := 157) (same := true) rfl (hb hby at_154) rfl (decide_eq_true rfl) (by decide) (by decide) ?_
        show Steps p.tables e below (T263.setTop (mkF m 157 #[iv p1, iv p2, iv p3, iv p4, rv w_EAST, iv (1 : Int32), rv b241, rv b253, rv b1_260, .unset, .unset] [])) _
        exact k
      obtain ⟨T266, X266, e266, st266⟩ := getS2 X263 hx hZ hown (host := "") (Or.inl (hw _ (List.mem_of_getElem? (i := 31) rfl))) Via.refl e263 (S_w_WEST.ext O260.2) (g := (mkF m 157 #[iv p1, iv p2, iv p3, iv p4, rv w_EAST, iv (1 : Int32), rv b241, rv b253, rv b1_260, .unset, .unset] [])) rfl (hb hby at_157)
      have k267 : Way p e below S0 T266 (mkF m 160 #[iv p1, iv p2, iv p3, iv p4, rv w_EAST, iv (1 : Int32), rv b241, rv b253, rv b1_260, .unset, .unset] [(.ref w_WEST)]) := fun t k => k265 t (st266 _ k)
      have k268 : Way p e below S0 T266 (mkF m 172 #[iv p1, iv p2, iv p3, iv p4, rv w_EAST, iv (1 : Int32), rv b241, rv b253, rv b1_260, rv w_WEST, .unset] [(.ref b1_260)]) := by
        intro t k
        refine k267 t ?_
        refine XS.astore X266.here hx rfl (hb hby at_160) rfl rfl (l' := #[iv p1, iv p2, iv p3, iv p4, rv w_EAST, iv (1 : Int32), rv b241, rv b253, rv b1_260, rv w_WEST, .unset]) rfl ?_
        show Steps p.tables e below (T266.setTop (mkF m 162 #[iv p1, iv p2, iv p3, iv p4, rv w_EAST, iv (1 : Int32), rv b241, rv b253, rv b1_260, rv w_WEST, .unset] [])) _
        refine XS.goto X266.here hx rfl (pc0 := 162) (pc' := 170) rfl (hb hby at_162) (by decide) (by decide) ?_
        show Steps p.tables e below (T266.setTop (mkF m 170 #[iv p1, iv p2, iv p3, iv p4, rv w_EAST, iv (1 : Int32), rv b241, rv b253, rv b1_260, rv w_WEST, .unset] [])) _
        refine XS.aload X266.here hx rfl (hb hby at_170) rfl rfl ?_
        show Steps p.tables e below (T266.setTop (mkF m 172 #[iv p1, iv p2, iv p3, iv p4, rv w_EAST, iv (1 : Int32), rv b241, rv b253, rv b1_260, rv w_WEST, .unset] [(.ref b1_260)])) _
        exact k
      obtain ⟨cq269, kq269, qq269a, qq269b, qq269c⟩ := isOf hZ e266 po260_1
      obtain ⟨_, _, ⟨T269, L269, kk269, nn269⟩, -, X269, ⟨Lc269, hQ269, l269, y269, z269⟩, st269⟩ := X266.virtualBack hx (y := (⟨"com/example/aspectwise/aspectwise/engine/BlockEnd", "side", "()Lcom/example/aspectwise/aspectwise/engine/BlockEnd$Side;"⟩ : MethodName)) (z := (⟨"com/example/aspectwise/aspectwise/engine/BlockEnd", "side", "()Lcom/example/aspectwise/aspectwise/engine/BlockEnd$Side;"⟩ : MethodName)) hown (mvT hZ (hw _ (List.mem_of_getElem? (i := 32) rfl))) (mvT hZ (hw _ (List.mem_of_getElem? (i := 33) rfl))) (notFace_of_selects (args := #[]) (mvT hZ (hw _ (List.mem_of_getElem? (i := 35) rfl)))) (mvT hZ (hw _ (List.mem_of_getElem? (i := 35) rfl))) (mvT hZ (hw _ (List.mem_of_getElem? (i := 34) rfl))) (by decide) (backOf (W := 0) (sid l Z a0 hw [] w_EAST w_WEST wCS G b1_260 w_WEST T260.heap n0 O260 (po260_3 : Fld Z T260.heap b1_260 "com/example/aspectwise/aspectwise/engine/BlockEnd" "side" "Lcom/example/aspectwise/aspectwise/engine/BlockEnd$Side;" (.ref w_WEST))) hZ (hw _ (List.mem_of_getElem? (i := 36) rfl)) (hw _ (List.mem_of_getElem? (i := 5) rfl)) (by decide) (by decide)) qq269a qq269c (g := (mkF m 172 #[iv p1, iv p2, iv p3, iv p4, rv w_EAST, iv (1 : Int32), rv b241, rv b253, rv b1_260, rv w_WEST, .unset] [(.ref b1_260)])) rfl (by rw [hml]; rfl) (Steps.refl _) (argsL := []) (rest := []) (lenOf pd_11 rfl) rfl (by show 2 * 0 + _ ≤ _; exact Nat.le_of_eq rfl) (hb hby at_172) (fun _ _ => ⟨rfl, e266, (by decide : 6 + 0 ≤ _), (by decide : 12 + 0 ≤ _)⟩)
      dsimp only [Pt.U, Pt.locs, Pt.cells, Pt.slots] at X269 l269 y269 z269 st269 hQ269
      subst l269 y269 z269
      obtain ⟨rfl, Nq269, e269⟩ := hQ269
      have N269 := Fr.app N260 Nq269
      have k270 : Way p e below S0 T269 (mkF m 175 #[iv p1, iv p2, iv p3, iv p4, rv w_EAST, iv (1 : Int32), rv b241, rv b253, rv b1_260, rv w_WEST, .unset] [(.ref w_WEST)]) := fun t k => k268 t (st269.trans k)
      have k271 : Way p e below S0 T269 (mkF m 186 #[iv p1, iv p2, iv p3, iv p4, rv w_EAST, iv (1 : Int32), rv b241, rv b253, rv b1_260, rv w_WEST, .unset] [(.ref b1_260), (.ref b241)]) := by
        intro t k
        refine k270 t ?_
        refine XS.aload X269.here hx rfl (hb hby at_175) rfl rfl ?_
        show Steps p.tables e below (T269.setTop (mkF m 177 #[iv p1, iv p2, iv p3, iv p4, rv w_EAST, iv (1 : Int32), rv b241, rv b253, rv b1_260, rv w_WEST, .unset] [(.ref w_WEST), (.ref w_WEST)])) _
        refine Jvm.RoadKit.acmp (g := (mkF m 177 #[iv p1, iv p2, iv p3, iv p4, rv w_EAST, iv (1 : Int32), rv b241, rv b253, rv b1_260, rv w_WEST, .unset] [(.ref w_WEST), (.ref w_WEST)])) X269 hx rfl rfl rfl (pc0 := 177) (pc' := 182) (same := true) rfl (hb hby at_177) rfl (decide_eq_true rfl) (by decide) (by decide) ?_
        show Steps p.tables e below (T269.setTop (mkF m 182 #[iv p1, iv p2, iv p3, iv p4, rv w_EAST, iv (1 : Int32), rv b241, rv b253, rv b1_260, rv w_WEST, .unset] [])) _
        refine XS.aload X269.here hx rfl (hb hby at_182) rfl rfl ?_
        show Steps p.tables e below (T269.setTop (mkF m 184 #[iv p1, iv p2, iv p3, iv p4, rv w_EAST, iv (1 : Int32), rv b241, rv b253, rv b1_260, rv w_WEST, .unset] [(.ref b241)])) _
        refine XS.aload X269.here hx rfl (hb hby at_184) rfl rfl ?_
        show Steps p.tables e below (T269.setTop (mkF m 186 #[iv p1, iv p2, iv p3, iv p4, rv w_EAST, iv (1 : Int32), rv b241, rv b253, rv b1_260, rv w_WEST, .unset] [(.ref b1_260), (.ref b241)])) _
        exact k
      obtain ⟨cq272, kq272, qq272a, qq272b, qq272c⟩ := isOf hZ e269 po260_1
      obtain ⟨_, _, ⟨T272, L272, kk272, nn272⟩, -, X272, ⟨Lc272, hQ272, l272, y272, z272⟩, st272⟩ := X269.virtualBack hx (y := (⟨"com/example/aspectwise/aspectwise/engine/BlockEnd", "block", "()Ljava/lang/String;"⟩ : MethodName)) (z := (⟨"com/example/aspectwise/aspectwise/engine/BlockEnd", "block", "()Ljava/lang/String;"⟩ : MethodName)) hown (mvT hZ (hw _ (List.mem_of_getElem? (i := 37) rfl))) (mvT hZ (hw _ (List.mem_of_getElem? (i := 38) rfl))) (notFace_of_selects (args := #[]) (mvT hZ (hw _ (List.mem_of_getElem? (i := 40) rfl)))) (mvT hZ (hw _ (List.mem_of_getElem? (i := 40) rfl))) (mvT hZ (hw _ (List.mem_of_getElem? (i := 39) rfl))) (by decide) (backOf (W := 1) (blk0 l Z a0 hw [] w_EAST w_WEST wCS G b1_260 b241 T260.heap n0 O260 (po260_2 : Fld Z T260.heap b1_260 "com/example/aspectwise/aspectwise/engine/BlockEnd" "block" "Ljava/lang/String;" (.ref b241))) hZ (hw _ (List.mem_of_getElem? (i := 41) rfl)) (hw _ (List.mem_of_getElem? (i := 5) rfl)) (by decide) (by decide)) qq272a qq272c (g := (mkF m 186 #[iv p1, iv p2, iv p3, iv p4, rv w_EAST, iv (1 : Int32), rv b241, rv b253, rv b1_260, rv w_WEST, .unset] [(.ref b1_260), (.ref b241)])) rfl (by rw [hml]; rfl) (Steps.refl _) (argsL := []) (rest := [(.ref b241)]) (lenOf pd_12 rfl) rfl (by show 2 * 0 + _ ≤ _; exact Nat.le_of_eq rfl) (hb hby at_186) (fun _ _ => ⟨rfl, e269, (by decide : 6 + 0 ≤ _), (by decide : 12 + 0 ≤ _)⟩)
      dsimp only [Pt.U, Pt.locs, Pt.cells, Pt.slots] at X272 l272 y272 z272 st272 hQ272
      subst l272 y272 z272
      obtain ⟨rfl, Nq272, e272⟩ := hQ272
      have N272 := Fr.app N269 Nq272
      have k273 : Way p e below S0 T272 (mkF m 189 #[iv p1, iv p2, iv p3, iv p4, rv w_EAST, iv (1 : Int32), rv b241, rv b253, rv b1_260, rv w_WEST, .unset] [(.ref b241), (.ref b241)]) := fun t k => k271 t (st272.trans k)
      have f274 : Exa Z T260.heap b241 "java/lang/String" := (((po250_0.ext E253).keep Kq257).keep Kq260)
      obtain ⟨_, _, ⟨T275, L275, kk275, nn275⟩, -, X275, ⟨Lc275, hQ275, l275, y275, z275⟩, st275⟩ := Jvm.LawKit.callS X272 hx (y := (⟨"com/example/aspectwise/aspectwise/engine/BlockEndOppositePinLaw", "sameBlock", "(Ljava/lang/String;Ljava/lang/String;)Z"⟩ : MethodName)) hown (mvT hZ (hw _ (List.mem_of_getElem? (i := 42) rfl))) (mvT hZ (hw _ (List.mem_of_getElem? (i := 43) rfl))) (mvT hZ (hw _ (List.mem_of_getElem? (i := 44) rfl))) (mvT hZ (hw _ (List.mem_of_getElem? (i := 45) rfl))) (by decide) (backOf (W := 0) (sb1 l Z a0 hw [] w_EAST w_WEST wCS G b241 T260.heap n0 O260 (f274 : Exa Z T260.heap b241 "java/lang/String")) hZ (hw _ (List.mem_of_getElem? (i := 45) rfl)) (hw _ (List.mem_of_getElem? (i := 44) rfl)) (by decide) (by decide)) (g := (mkF m 189 #[iv p1, iv p2, iv p3, iv p4, rv w_EAST, iv (1 : Int32), rv b241, rv b253, rv b1_260, rv w_WEST, .unset] [(.ref b241), (.ref b241)])) rfl (by rw [hml]; rfl) (argsL := [(.ref b241), (.ref b241)]) (rest := []) (lenOf pd_13 rfl) rfl (by show 2 * 0 + _ ≤ _; exact Nat.le_of_eq rfl) (hb hby at_189) (fun _ _ => ⟨rfl, e272, (by decide : 6 + 0 ≤ _), (by decide : 12 + 0 ≤ _)⟩)
      dsimp only [Pt.U, Pt.locs, Pt.cells, Pt.slots] at X275 l275 y275 z275 st275 hQ275
      subst l275 y275 z275
      obtain ⟨rfl, Nq275, e275⟩ := hQ275
      have N275 := Fr.app N272 Nq275
      have k276 : Way p e below S0 T275 (mkF m 192 #[iv p1, iv p2, iv p3, iv p4, rv w_EAST, iv (1 : Int32), rv b241, rv b253, rv b1_260, rv w_WEST, .unset] [(.int (1 : Int32))]) := fun t k => k273 t (st275 _ k)
      have k277 : Way p e below S0 T275 (mkF m 199 #[iv p1, iv p2, iv p3, iv p4, rv w_EAST, iv (1 : Int32), rv b241, rv b253, rv b1_260, rv w_WEST, .unset] [(.ref b1_260)]) := by
        intro t k
        refine k276 t ?_
        refine XS.ifYes X275.here hx rfl (pc0 := 192) (pc' := 197) rfl (hb hby at_192) rfl ((if0 _ _).trans (feq ((by decide) : ¬ ((1 : Int32) = (0 : Int32)))).2) (by decide) (by decide) ?_
        show Steps p.tables e below (T275.setTop (mkF m 197 #[iv p1, iv p2, iv p3, iv p4, rv w_EAST, iv (1 : Int32), rv b241, rv b253, rv b1_260, rv w_WEST, .unset] [])) _
        refine XS.aload X275.here hx rfl (hb hby at_197) rfl rfl ?_
        show Steps p.tables e below (T275.setTop (mkF m 199 #[iv p1, iv p2, iv p3, iv p4, rv w_EAST, iv (1 : Int32), rv b241, rv b253, rv b1_260, rv w_WEST, .unset] [(.ref b1_260)])) _
        exact k
      obtain ⟨cq278, kq278, qq278a, qq278b, qq278c⟩ := isOf hZ e275 po260_1
      obtain ⟨_, _, ⟨T278, L278, kk278, nn278⟩, -, X278, ⟨Lc278, hQ278, l278, y278, z278⟩, st278⟩ := X275.virtualBack hx (y := (⟨"com/example/aspectwise/aspectwise/engine/BlockEnd", "opposite", "()Lcom/example/aspectwise/aspectwise/engine/BlockEnd;"⟩ : MethodName)) (z := (⟨"com/example/aspectwise/aspectwise/engine/BlockEnd", "opposite", "()Lcom/example/aspectwise/aspectwise/engine/BlockEnd;"⟩ : MethodName)) hown (mvT hZ (hw _ (List.mem_of_getElem? (i := 21) rfl))) (mvT hZ (hw _ (List.mem_of_getElem? (i := 22) rfl))) (notFace_of_selects (args := #[]) (mvT hZ (hw _ (List.mem_of_getElem? (i := 24) rfl)))) (mvT hZ (hw _ (List.mem_of_getElem? (i := 24) rfl))) (mvT hZ (hw _ (List.mem_of_getElem? (i := 23) rfl))) (by decide) (backOf (W := 0) (opp0WEST l Z a0 hw [] w_EAST w_WEST wCS G b1_260 b241 T260.heap n0 O260 (po260_2 : Fld Z T260.heap b1_260 "com/example/aspectwise/aspectwise/engine/BlockEnd" "block" "Ljava/lang/String;" (.ref b241)) (po260_3 : Fld Z T260.heap b1_260 "com/example/aspectwise/aspectwise/engine/BlockEnd" "side" "Lcom/example/aspectwise/aspectwise/engine/BlockEnd$Side;" (.ref w_WEST))) hZ (hw _ (List.mem_of_getElem? (i := 25) rfl)) (hw _ (List.mem_of_getElem? (i := 5) rfl)) (by decide) (by decide)) qq278a qq278c (g := (mkF m 199 #[iv p1, iv p2, iv p3, iv p4, rv w_EAST, iv (1 : Int32), rv b241, rv b253, rv b1_260, rv w_WEST, .unset] [(.ref b1_260)])) rfl (by rw [hml]; rfl) (Steps.refl _) (argsL := []) (rest := []) (lenOf pd_10 rfl) rfl (by show 2 * 0 + _ ≤ _; exact Nat.le_of_eq rfl) (hb hby at_199) (fun _ _ => ⟨rfl, e275, (by decide : 6 + 1 ≤ _), (by decide : 12 + 2 ≤ _)⟩)
      dsimp only [Pt.U, Pt.locs, Pt.cells, Pt.slots] at X278 l278 y278 z278 st278 hQ278
      subst l278 y278 z278
      obtain ⟨b1_278, rfl, Nq278, Kq278, po278_0, po278_1, po278_2, po278_3⟩ := hQ278
      have N278 := Fr.app N275 Nq278
      have O278 := O260.keep Kq278 all0
      have k279 : Way p e below S0 T278 (mkF m 202 #[iv p1, iv p2, iv p3, iv p4, rv w_EAST, iv (1 : Int32), rv b241, rv b253, rv b1_260, rv w_WEST, .unset] [(.ref b1_278)]) := fun t k => k277 t (st278.trans k)
      have k280 : Way p e below S0 T278 (mkF m 213 #[iv p1, iv p2, iv p3, iv p4, rv w_EAST, iv (1 : Int32), rv b241, rv b253, rv b1_260, rv w_WEST, rv b1_278] [(.ref b1_278)]) := by
        intro t k
        refine k279 t ?_
        refine XS.astore X278.here hx rfl (hb hby at_202) rfl rfl (l' := #[iv p1, iv p2, iv p3, iv p4, rv w_EAST, iv (1 : Int32), rv b241, rv b253, rv b1_260, rv w_WEST, rv b1_278]) rfl ?_
        show Steps p.tables e below (T278.setTop (mkF m 204 #[iv p1, iv p2, iv p3, iv p4, rv w_EAST, iv (1 : Int32), rv b241, rv b253, rv b1_260, rv w_WEST, rv b1_278] [])) _
        refine XS.aload X278.here hx rfl (hb hby at_204) rfl rfl ?_
        show Steps p.tables e below (T278.setTop (mkF m 206 #[iv p1, iv p2, iv p3, iv p4, rv w_EAST, iv (1 : Int32), rv b241, rv b253, rv b1_260, rv w_WEST, rv b1_278] [(.ref b1_278)])) _
        refine XS.ifnonnullYes X278.here hx rfl (pc0 := 206) (pc' := 211) rfl (hb hby at_206) rfl (by decide) (by decide) ?_
        show Steps p.tables e below (T278.setTop (mkF m 211 #[iv p1, iv p2, iv p3, iv p4, rv w_EAST, iv (1 : Int32), rv b241, rv b253, rv b1_260, rv w_WEST, rv b1_278] [])) _
        refine XS.aload X278.here hx rfl (hb hby at_211) rfl rfl ?_
        show Steps p.tables e below (T278.setTop (mkF m 213 #[iv p1, iv p2, iv p3, iv p4, rv w_EAST, iv (1 : Int32), rv b241, rv b253, rv b1_260, rv w_WEST, rv b1_278] [(.ref b1_278)])) _
        exact k
      obtain ⟨cq281, kq281, qq281a, qq281b, qq281c⟩ := isOf hZ rfl po278_1
      obtain ⟨_, _, ⟨T281, L281, kk281, nn281⟩, -, X281, ⟨Lc281, hQ281, l281, y281, z281⟩, st281⟩ := X278.virtualBack hx (y := (⟨"com/example/aspectwise/aspectwise/engine/BlockEnd", "side", "()Lcom/example/aspectwise/aspectwise/engine/BlockEnd$Side;"⟩ : MethodName)) (z := (⟨"com/example/aspectwise/aspectwise/engine/BlockEnd", "side", "()Lcom/example/aspectwise/aspectwise/engine/BlockEnd$Side;"⟩ : MethodName)) hown (mvT hZ (hw _ (List.mem_of_getElem? (i := 32) rfl))) (mvT hZ (hw _ (List.mem_of_getElem? (i := 33) rfl))) (notFace_of_selects (args := #[]) (mvT hZ (hw _ (List.mem_of_getElem? (i := 35) rfl)))) (mvT hZ (hw _ (List.mem_of_getElem? (i := 35) rfl))) (mvT hZ (hw _ (List.mem_of_getElem? (i := 34) rfl))) (by decide) (backOf (W := 0) (sid l Z a0 hw [] w_EAST w_WEST wCS G b1_278 w_EAST T278.heap n0 O278 (po278_3 : Fld Z T278.heap b1_278 "com/example/aspectwise/aspectwise/engine/BlockEnd" "side" "Lcom/example/aspectwise/aspectwise/engine/BlockEnd$Side;" (.ref w_EAST))) hZ (hw _ (List.mem_of_getElem? (i := 36) rfl)) (hw _ (List.mem_of_getElem? (i := 5) rfl)) (by decide) (by decide)) qq281a qq281c (g := (mkF m 213 #[iv p1, iv p2, iv p3, iv p4, rv w_EAST, iv (1 : Int32), rv b241, rv b253, rv b1_260, rv w_WEST, rv b1_278] [(.ref b1_278)])) rfl (by rw [hml]; rfl) (Steps.refl _) (argsL := []) (rest := []) (lenOf pd_11 rfl) rfl (by show 2 * 0 + _ ≤ _; exact Nat.le_of_eq rfl) (hb hby at_213) (fun _ _ => ⟨rfl, rfl, (by decide : 7 + 0 ≤ _), (by decide : 14 + 0 ≤ _)⟩)
      dsimp only [Pt.U, Pt.locs, Pt.cells, Pt.slots] at X281 l281 y281 z281 st281 hQ281
      subst l281 y281 z281
      obtain ⟨rfl, Nq281, e281⟩ := hQ281
      have N281 := Fr.app N278 Nq281
      have k282 : Way p e below S0 T281 (mkF m 216 #[iv p1, iv p2, iv p3, iv p4, rv w_EAST, iv (1 : Int32), rv b241, rv b253, rv b1_260, rv w_WEST, rv b1_278] [(.ref w_EAST)]) := fun t k => k280 t (st281.trans k)
      have k283 : Way p e below S0 T281 (mkF m 225 #[iv p1, iv p2, iv p3, iv p4, rv w_EAST, iv (1 : Int32), rv b241, rv b253, rv b1_260, rv w_WEST, rv b1_278] [(.ref b1_278), (.ref b241)]) := by
        intro t k
        refine k282 t ?_
        refine XS.aload X281.here hx rfl (hb hby at_216) rfl rfl ?_
        show Steps p.tables e below (T281.setTop (mkF m 218 #[iv p1, iv p2, iv p3, iv p4, rv w_EAST, iv (1 : Int32), rv b241, rv b253, rv b1_260, rv w_WEST, rv b1_278] [(.ref w_EAST), (.ref w_EAST)])) _
        refine Jvm.RoadKit.acmp (g := (mkF m 218 #[iv p1, iv p2, iv p3, iv p4, rv w_EAST, iv (1 : Int32), rv b241, rv b253, rv b1_260, rv w_WEST, rv b1_278] [(.ref w_EAST), (.ref w_EAST)])) X281 hx rfl rfl rfl (pc0 := 218) (pc' := 221) (same := true) rfl (hb hby at_218) rfl (decide_eq_true rfl) (by decide) (by decide) ?_
        show Steps p.tables e below (T281.setTop (mkF m 221 #[iv p1, iv p2, iv p3, iv p4, rv w_EAST, iv (1 : Int32), rv b241, rv b253, rv b1_260, rv w_WEST, rv b1_278] [])) _
        refine XS.aload X281.here hx rfl (hb hby at_221) rfl rfl ?_
        show Steps p.tables e below (T281.setTop (mkF m 223 #[iv p1, iv p2, iv p3, iv p4, rv w_EAST, iv (1 : Int32), rv b241, rv b253, rv b1_260, rv w_WEST, rv b1_278] [(.ref b241)])) _
        refine XS.aload X281.here hx rfl (hb hby at_223) rfl rfl ?_
        show Steps p.tables e below (T281.setTop (mkF m 225 #[iv p1, iv p2, iv p3, iv p4, rv w_EAST, iv (1 : Int32), rv b241, rv b253, rv b1_260, rv w_WEST, rv b1_278] [(.ref b1_278), (.ref b241)])) _
        exact k
      obtain ⟨cq284, kq284, qq284a, qq284b, qq284c⟩ := isOf hZ e281 po278_1
      obtain ⟨_, _, ⟨T284, L284, kk284, nn284⟩, -, X284, ⟨Lc284, hQ284, l284, y284, z284⟩, st284⟩ := X281.virtualBack hx (y := (⟨"com/example/aspectwise/aspectwise/engine/BlockEnd", "block", "()Ljava/lang/String;"⟩ : MethodName)) (z := (⟨"com/example/aspectwise/aspectwise/engine/BlockEnd", "block", "()Ljava/lang/String;"⟩ : MethodName)) hown (mvT hZ (hw _ (List.mem_of_getElem? (i := 37) rfl))) (mvT hZ (hw _ (List.mem_of_getElem? (i := 38) rfl))) (notFace_of_selects (args := #[]) (mvT hZ (hw _ (List.mem_of_getElem? (i := 40) rfl)))) (mvT hZ (hw _ (List.mem_of_getElem? (i := 40) rfl))) (mvT hZ (hw _ (List.mem_of_getElem? (i := 39) rfl))) (by decide) (backOf (W := 1) (blk0 l Z a0 hw [] w_EAST w_WEST wCS G b1_278 b241 T278.heap n0 O278 (po278_2 : Fld Z T278.heap b1_278 "com/example/aspectwise/aspectwise/engine/BlockEnd" "block" "Ljava/lang/String;" (.ref b241))) hZ (hw _ (List.mem_of_getElem? (i := 41) rfl)) (hw _ (List.mem_of_getElem? (i := 5) rfl)) (by decide) (by decide)) qq284a qq284c (g := (mkF m 225 #[iv p1, iv p2, iv p3, iv p4, rv w_EAST, iv (1 : Int32), rv b241, rv b253, rv b1_260, rv w_WEST, rv b1_278] [(.ref b1_278), (.ref b241)])) rfl (by rw [hml]; rfl) (Steps.refl _) (argsL := []) (rest := [(.ref b241)]) (lenOf pd_12 rfl) rfl (by show 2 * 0 + _ ≤ _; exact Nat.le_of_eq rfl) (hb hby at_225) (fun _ _ => ⟨rfl, e281, (by decide : 7 + 0 ≤ _), (by decide : 14 + 0 ≤ _)⟩)
      dsimp only [Pt.U, Pt.locs, Pt.cells, Pt.slots] at X284 l284 y284 z284 st284 hQ284
      subst l284 y284 z284
      obtain ⟨rfl, Nq284, e284⟩ := hQ284
      have N284 := Fr.app N281 Nq284
      have k285 : Way p e below S0 T284 (mkF m 228 #[iv p1, iv p2, iv p3, iv p4, rv w_EAST, iv (1 : Int32), rv b241, rv b253, rv b1_260, rv w_WEST, rv b1_278] [(.ref b241), (.ref b241)]) := fun t k => k283 t (st284.trans k)
      have f286 : Exa Z T278.heap b241 "java/lang/String" := (f274.keep Kq278)
      obtain ⟨_, _, ⟨T287, L287, kk287, nn287⟩, -, X287, ⟨Lc287, hQ287, l287, y287, z287⟩, st287⟩ := Jvm.LawKit.callS X284 hx (y := (⟨"com/example/aspectwise/aspectwise/engine/BlockEndOppositePinLaw", "sameBlock", "(Ljava/lang/String;Ljava/lang/String;)Z"⟩ : MethodName)) hown (mvT hZ (hw _ (List.mem_of_getElem? (i := 42) rfl))) (mvT hZ (hw _ (List.mem_of_getElem? (i := 43) rfl))) (mvT hZ (hw _ (List.mem_of_getElem? (i := 44) rfl))) (mvT hZ (hw _ (List.mem_of_getElem? (i := 45) rfl))) (by decide) (backOf (W := 0) (sb1 l Z a0 hw [] w_EAST w_WEST wCS G b241 T278.heap n0 O278 (f286 : Exa Z T278.heap b241 "java/lang/String")) hZ (hw _ (List.mem_of_getElem? (i := 45) rfl)) (hw _ (List.mem_of_getElem? (i := 44) rfl)) (by decide) (by decide)) (g := (mkF m 228 #[iv p1, iv p2, iv p3, iv p4, rv w_EAST, iv (1 : Int32), rv b241, rv b253, rv b1_260, rv w_WEST, rv b1_278] [(.ref b241), (.ref b241)])) rfl (by rw [hml]; rfl) (argsL := [(.ref b241), (.ref b241)]) (rest := []) (lenOf pd_13 rfl) rfl (by show 2 * 0 + _ ≤ _; exact Nat.le_of_eq rfl) (hb hby at_228) (fun _ _ => ⟨rfl, e284, (by decide : 7 + 0 ≤ _), (by decide : 14 + 0 ≤ _)⟩)
      dsimp only [Pt.U, Pt.locs, Pt.cells, Pt.slots] at X287 l287 y287 z287 st287 hQ287
      subst l287 y287 z287
      obtain ⟨rfl, Nq287, e287⟩ := hQ287
      have N287 := Fr.app N284 Nq287
      have k288 : Way p e below S0 T287 (mkF m 231 #[iv p1, iv p2, iv p3, iv p4, rv w_EAST, iv (1 : Int32), rv b241, rv b253, rv b1_260, rv w_WEST, rv b1_278] [(.int (1 : Int32))]) := fun t k => k285 t (st287 _ k)
      have k289 : Way p e below S0 T287 (mkF m 239 #[iv p1, iv p2, iv p3, iv p4, rv w_EAST, iv (1 : Int32), rv b241, rv b253, rv b1_260, rv w_WEST, rv b1_278] [(.int (1 : Int32))]) := by
        intro t k
        refine k288 t ?_
        refine XS.ifNo X287.here hx rfl (hb hby at_231) rfl ((if0 _ _).trans (feq ((by decide) : ¬ ((1 : Int32) = (0 : Int32)))).1) ?_
        show Steps p.tables e below (T287.setTop (mkF m 234 #[iv p1, iv p2, iv p3, iv p4, rv w_EAST, iv (1 : Int32), rv b241, rv b253, rv b1_260, rv w_WEST, rv b1_278] [])) _
        refine XS.iconst X287.here hx rfl (hb hby at_234) ?_
        show Steps p.tables e below (T287.setTop (mkF m 235 #[iv p1, iv p2, iv p3, iv p4, rv w_EAST, iv (1 : Int32), rv b241, rv b253, rv b1_260, rv w_WEST, rv b1_278] [(.int (1 : Int32))])) _
        refine XS.goto X287.here hx rfl (pc0 := 235) (pc' := 239) rfl (hb hby at_235) (by decide) (by decide) ?_
        show Steps p.tables e below (T287.setTop (mkF m 239 #[iv p1, iv p2, iv p3, iv p4, rv w_EAST, iv (1 : Int32), rv b241, rv b253, rv b1_260, rv w_WEST, rv b1_278] [(.int (1 : Int32))])) _
        exact k
      obtain ⟨fs, hr, hrun, hended, hRW⟩ := Stand.leaveW (s := s) (vm₁ := T250.vm) X287 hS250 (by rw [e287]; exact (Nat.le_trans (Nat.le_refl _) (Nat.le_trans (Nat.le_trans (Nat.le_trans E253.1 Kq257.1) Kq260.1) Kq278.1))) (v := some (.int (1 : Int32))) (fun h => by rw [Bd.returns] at h; cases h)
      refine ⟨_, _, k289 _ (retN X287 hx (t := .boolean) Bd.returns (by simp) (hb hby at_239) hr), hrun, hended, _, _, rfl, ?_, own_rw hRW (by decide) (by decide)⟩
      show Q_law_met Z w_EAST w_WEST wCS p1 p2 p3 p4 h0 n0 _ T287.heap _
      rw [e287]
      exact ⟨rfl, N287⟩
    · have k290 : Way p e below S0 T198 (mkF m 24 #[iv p1, iv p2, iv p3, iv p4, rv w_EAST, iv (2 : Int32), .unset, .unset, .unset, .unset, .unset] []) := by have q := k200; rw [hi201] at q; exact q
      have k291 : Way p e below S0 T198 (mkF m 68 #[iv p1, iv p2, iv p3, iv p4, rv w_EAST, iv (2 : Int32), .unset, .unset, .unset, .unset, .unset] [(.int ((p1 &&& (255 : Int32)).toUInt32.toUInt16.toUInt32.toInt32))]) := by
        intro t k
        refine k290 t ?_
        refine XS.iload X198.here hx rfl (hb hby at_24) rfl ?_
        show Steps p.tables e below (T198.setTop (mkF m 26 #[iv p1, iv p2, iv p3, iv p4, rv w_EAST, iv (2 : Int32), .unset, .unset, .unset, .unset, .unset] [(.int (2 : Int32))])) _
        refine XS.ifYes X198.here hx rfl (pc0 := 26) (pc' := 35) rfl (hb hby at_26) rfl ((if0 _ _).trans (feq ((by decide) : ¬ ((2 : Int32) = (0 : Int32)))).2) (by decide) (by decide) ?_
        show Steps p.tables e below (T198.setTop (mkF m 35 #[iv p1, iv p2, iv p3, iv p4, rv w_EAST, iv (2 : Int32), .unset, .unset, .unset, .unset, .unset] [])) _
        refine XS.iload X198.here hx rfl (hb hby at_35) rfl ?_
        show Steps p.tables e below (T198.setTop (mkF m 37 #[iv p1, iv p2, iv p3, iv p4, rv w_EAST, iv (2 : Int32), .unset, .unset, .unset, .unset, .unset] [(.int (2 : Int32))])) _
        refine XS.iconst X198.here hx rfl (hb hby at_37) ?_
        show Steps p.tables e below (T198.setTop (mkF m 38 #[iv p1, iv p2, iv p3, iv p4, rv w_EAST, iv (2 : Int32), .unset, .unset, .unset, .unset, .unset] [(.int (1 : Int32)), (.int (2 : Int32))])) _
        refine XS.icmpYes X198.here hx rfl (pc0 := 38) (pc' := 56) rfl (hb hby at_38) rfl (feq ((by decide) : ¬ ((2 : Int32) = (1 : Int32)))).2 (by decide) (by decide) ?_
        show Steps p.tables e below (T198.setTop (mkF m 56 #[iv p1, iv p2, iv p3, iv p4, rv w_EAST, iv (2 : Int32), .unset, .unset, .unset, .unset, .unset] [])) _
        refine XS.iload X198.here hx rfl (hb hby at_56) rfl ?_
        show Steps p.tables e below (T198.setTop (mkF m 58 #[iv p1, iv p2, iv p3, iv p4, rv w_EAST, iv (2 : Int32), .unset, .unset, .unset, .unset, .unset] [(.int (2 : Int32))])) _
        refine XS.iconst X198.here hx rfl (hb hby at_58) ?_
        show Steps p.tables e below (T198.setTop (mkF m 59 #[iv p1, iv p2, iv p3, iv p4, rv w_EAST, iv (2 : Int32), .unset, .unset, .unset, .unset, .unset] [(.int (2 : Int32)), (.int (2 : Int32))])) _
        refine XS.icmpNo X198.here hx rfl (hb hby at_59) rfl (teq ((by decide) : (2 : Int32) = (2 : Int32))).2 ?_
        show Steps p.tables e below (T198.setTop (mkF m 62 #[iv p1, iv p2, iv p3, iv p4, rv w_EAST, iv (2 : Int32), .unset, .unset, .unset, .unset, .unset] [])) _
        refine XS.iloadN X198.here hx rfl (hb hby at_62) rfl ?_
        show Steps p.tables e below (T198.setTop (mkF m 63 #[iv p1, iv p2, iv p3, iv p4, rv w_EAST, iv (2 : Int32), .unset, .unset, .unset, .unset, .unset] [(.int p1)])) _
        refine XS.sipush X198.here hx rfl (hb hby at_63) ?_
        show Steps p.tables e below (T198.setTop (mkF m 66 #[iv p1, iv p2, iv p3, iv p4, rv w_EAST, iv (2 : Int32), .unset, .unset, .unset, .unset, .unset] [(.int (255 : Int32)), (.int p1)])) _
        refine XS.iand X198.here hx rfl (hb hby at_66) rfl ?_
        show Steps p.tables e below (T198.setTop (mkF m 67 #[iv p1, iv p2, iv p3, iv p4, rv w_EAST, iv (2 : Int32), .unset, .unset, .unset, .unset, .unset] [(.int (p1 &&& (255 : Int32)))])) _
        refine XS.i2c X198.here hx rfl (hb hby at_67) rfl ?_
        show Steps p.tables e below (T198.setTop (mkF m 68 #[iv p1, iv p2, iv p3, iv p4, rv w_EAST, iv (2 : Int32), .unset, .unset, .unset, .unset, .unset] [(.int ((p1 &&& (255 : Int32)).toUInt32.toUInt16.toUInt32.toInt32))])) _
        exact k
      obtain ⟨_, _, ⟨T292, L292, kk292, nn292⟩, -, X292, ⟨Lc292, hQ292, l292, y292, z292⟩, st292⟩ := Jvm.LawKit.callS X198 hx (y := (⟨"java/lang/String", "valueOf", "(C)Ljava/lang/String;"⟩ : MethodName)) hown (mvT hZ (hw _ (List.mem_of_getElem? (i := 71) rfl))) (mvT hZ (hw _ (List.mem_of_getElem? (i := 72) rfl))) (mvT hZ (hw _ (List.mem_of_getElem? (i := 48) rfl))) (mvT hZ (hw _ (List.mem_of_getElem? (i := 73) rfl))) (by decide) (backOf (W := 0) (svalueOf l Z a0 hw [] w_EAST w_WEST wCS G ((p1 &&& (255 : Int32)).toUInt32.toUInt16.toUInt32.toInt32) h0 n0 O0 (own_chr1 _ : ¬ ((255 : Int32) < ((p1 &&& (255 : Int32)).toUInt32.toUInt16.toUInt32.toInt32)))) hZ (hw _ (List.mem_of_getElem? (i := 73) rfl)) (hw _ (List.mem_of_getElem? (i := 48) rfl)) (by decide) (by decide)) (g := (mkF m 68 #[iv p1, iv p2, iv p3, iv p4, rv w_EAST, iv (2 : Int32), .unset, .unset, .unset, .unset, .unset] [(.int ((p1 &&& (255 : Int32)).toUInt32.toUInt16.toUInt32.toInt32))])) rfl (by rw [hml]; rfl) (argsL := [(.int ((p1 &&& (255 : Int32)).toUInt32.toUInt16.toUInt32.toInt32))]) (rest := []) (lenOf pd_15 rfl) rfl (by show 2 * 0 + _ ≤ _; exact Nat.le_of_eq rfl) (hb hby at_68) (fun _ _ => ⟨rfl, e198, (by decide : 0 + 2 ≤ _), (by decide : 0 + 5 ≤ _)⟩)
      dsimp only [Pt.U, Pt.locs, Pt.cells, Pt.slots] at X292 l292 y292 z292 st292 hQ292
      subst l292 y292 z292
      obtain ⟨b1_292, d1_292, kb_292, rfl, Nq292, Kq292, po292_0, po292_1, po292_2, po292_3, po292_4, po292_5, po292_6⟩ := hQ292
      have N292 := Fr.app N0 Nq292
      have O292 := O0.keep Kq292 all0
      have k293 : Way p e below S0 T292 (mkF m 71 #[iv p1, iv p2, iv p3, iv p4, rv w_EAST, iv (2 : Int32), .unset, .unset, .unset, .unset, .unset] [(.ref b1_292)]) := fun t k => k291 t (st292 _ k)
      have k294 : Way p e below S0 T292 (mkF m 122 #[iv p1, iv p2, iv p3, iv p4, rv w_EAST, iv (2 : Int32), rv b1_292, .unset, .unset, .unset, .unset] []) := by
        intro t k
        refine k293 t ?_
        refine XS.astore X292.here hx rfl (hb hby at_71) rfl rfl (l' := #[iv p1, iv p2, iv p3, iv p4, rv w_EAST, iv (2 : Int32), rv b1_292, .unset, .unset, .unset, .unset]) rfl ?_
        show Steps p.tables e below (T292.setTop (mkF m 73 #[iv p1, iv p2, iv p3, iv p4, rv w_EAST, iv (2 : Int32), rv b1_292, .unset, .unset, .unset, .unset] [])) _
        refine XS.goto X292.here hx rfl (pc0 := 73) (pc' := 122) rfl (hb hby at_73) (by decide) (by decide) ?_
        show Steps p.tables e below (T292.setTop (mkF m 122 #[iv p1, iv p2, iv p3, iv p4, rv w_EAST, iv (2 : Int32), rv b1_292, .unset, .unset, .unset, .unset] [])) _
        exact k
      obtain ⟨T295, h295, X295, e295, E295, A295, D295, U295, st295⟩ := newO X292 hx hZ hown (hw _ (List.mem_of_getElem? (i := 3) rfl)) (hw _ (List.mem_of_getElem? (i := 4) rfl)) (hw _ (List.mem_of_getElem? (i := 5) rfl)) rfl (g := (mkF m 122 #[iv p1, iv p2, iv p3, iv p4, rv w_EAST, iv (2 : Int32), rv b1_292, .unset, .unset, .unset, .unset] [])) rfl (hb hby at_122) (by decide) (by decide)
      obtain ⟨b295, g295⟩ : ∃ z, z = T292.heap.size := ⟨_, rfl⟩
      rw [← g295] at A295 D295 U295 st295
      have O295 := O292.ext E295
      have i295_block : Fld Z h295 b295 "com/example/aspectwise/aspectwise/engine/BlockEnd" "block" "Ljava/lang/String;" .null := D295 (Or.inr (hw _ (List.mem_of_getElem? (i := 18) rfl))) (ty := (.object "java/lang/String")) (by decide)
      have i295_side : Fld Z h295 b295 "com/example/aspectwise/aspectwise/engine/BlockEnd" "side" "Lcom/example/aspectwise/aspectwise/engine/BlockEnd$Side;" .null := D295 (Or.inr (hw _ (List.mem_of_getElem? (i := 20) rfl))) (ty := (.object "com/example/aspectwise/aspectwise/engine/BlockEnd$Side")) (by decide)
      have k296 : Way p e below S0 T295 (mkF m 125 #[iv p1, iv p2, iv p3, iv p4, rv w_EAST, iv (2 : Int32), rv b1_292, .unset, .unset, .unset, .unset] [(.ref b295)]) := fun t k => k294 t (st295 _ k)
      have k297 : Way p e below S0 T295 (mkF m 130 #[iv p1, iv p2, iv p3, iv p4, rv w_EAST, iv (2 : Int32), rv b1_292, .unset, .unset, .unset, .unset] [(.ref w_EAST), (.ref b1_292), (.ref b295), (.ref b295)]) := by
        intro t k
        refine k296 t ?_
        refine XS.dup X295.here hx rfl (hb hby at_125) rfl rfl ?_
        show Steps p.tables e below (T295.setTop (mkF m 126 #[iv p1, iv p2, iv p3, iv p4, rv w_EAST, iv (2 : Int32), rv b1_292, .unset, .unset, .unset, .unset] [(.ref b295), (.ref b295)])) _
        refine XS.aload X295.here hx rfl (hb hby at_126) rfl rfl ?_
        show Steps p.tables e below (T295.setTop (mkF m 128 #[iv p1, iv p2, iv p3, iv p4, rv w_EAST, iv (2 : Int32), rv b1_292, .unset, .unset, .unset, .unset] [(.ref b1_292), (.ref b295), (.ref b295)])) _
        refine XS.aload X295.here hx rfl (hb hby at_128) rfl rfl ?_
        show Steps p.tables e below (T295.setTop (mkF m 130 #[iv p1, iv p2, iv p3, iv p4, rv w_EAST, iv (2 : Int32), rv b1_292, .unset, .unset, .unset, .unset] [(.ref w_EAST), (.ref b1_292), (.ref b295), (.ref b295)])) _
        exact k
      have ge298 : n0 ≤ b295 := Nat.le_trans (own_old O292) (Nat.le_of_eq g295.symm)
      obtain ⟨_, _, ⟨T299, L299, kk299, nn299⟩, -, X299, ⟨Lc299, hQ299, l299, y299, z299⟩, st299⟩ := X295.specialBack hx (y := (⟨"com/example/aspectwise/aspectwise/engine/BlockEnd", "<init>", "(Ljava/lang/String;Lcom/example/aspectwise/aspectwise/engine/BlockEnd$Side;)V"⟩ : MethodName)) rfl hown (mvT hZ (hw _ (List.mem_of_getElem? (i := 6) rfl))) (mvT hZ (hw _ (List.mem_of_getElem? (i := 7) rfl))) (mvT hZ (hw _ (List.mem_of_getElem? (i := 8) rfl))) (by decide) (backOf (W := 1) (bi1 l Z a0 hw [] w_EAST w_WEST wCS G b295 b1_292 w_EAST h295 n0 O295 (A295 : Exa Z h295 b295 "com/example/aspectwise/aspectwise/engine/BlockEnd") (i295_block : Fld Z h295 b295 "com/example/aspectwise/aspectwise/engine/BlockEnd" "block" "Ljava/lang/String;" .null) (i295_side : Fld Z h295 b295 "com/example/aspectwise/aspectwise/engine/BlockEnd" "side" "Lcom/example/aspectwise/aspectwise/engine/BlockEnd$Side;" .null) (ge298 : n0 ≤ b295)) hZ (hw _ (List.mem_of_getElem? (i := 8) rfl)) (hw _ (List.mem_of_getElem? (i := 5) rfl)) (by decide) (by decide)) (g := (mkF m 130 #[iv p1, iv p2, iv p3, iv p4, rv w_EAST, iv (2 : Int32), rv b1_292, .unset, .unset, .unset, .unset] [(.ref w_EAST), (.ref b1_292), (.ref b295), (.ref b295)])) rfl (by rw [hml]; rfl) (Steps.refl _) (a := b295) (argsL := [(.ref b1_292), (.ref w_EAST)]) (rest := [(.ref b295)]) (lenOf pd_8 rfl) rfl (by show 2 * 0 + _ ≤ _; exact Nat.le_of_eq rfl) (hb hby at_130) (fun _ _ => ⟨rfl, e295, (by decide : 3 + 0 ≤ _), (by decide : 7 + 0 ≤ _)⟩)
      dsimp only [Pt.U, Pt.locs, Pt.cells, Pt.slots] at X299 l299 y299 z299 st299 hQ299
      subst l299 y299 z299
      obtain ⟨rfl, Nq299, Kq299, po299_0, po299_1, po299_2⟩ := hQ299
      have N299 := Fr.app N292 Nq299
      have O299 := O295.keep Kq299 (allS ge298 all0)
      have k300 : Way p e below S0 T299 (mkF m 133 #[iv p1, iv p2, iv p3, iv p4, rv w_EAST, iv (2 : Int32), rv b1_292, .unset, .unset, .unset, .unset] [(.ref b295)]) := fun t k => k297 t (st299.trans k)
      have k301 : Way p e below S0 T299 (mkF m 137 #[iv p1, iv p2, iv p3, iv p4, rv w_EAST, iv (2 : Int32), rv b1_292, rv b295, .unset, .unset, .unset] [(.ref b295)]) := by
        intro t k
        refine k300 t ?_
        refine XS.astore X299.here hx rfl (hb hby at_133) rfl rfl (l' := #[iv p1, iv p2, iv p3, iv p4, rv w_EAST, iv (2 : Int32), rv b1_292, rv b295, .unset, .unset, .unset]) rfl ?_
        show Steps p.tables e below (T299.setTop (mkF m 135 #[iv p1, iv p2, iv p3, iv p4, rv w_EAST, iv (2 : Int32), rv b1_292, rv b295, .unset, .unset, .unset] [])) _
        refine XS.aload X299.here hx rfl (hb hby at_135) rfl rfl ?_
        show Steps p.tables e below (T299.setTop (mkF m 137 #[iv p1, iv p2, iv p3, iv p4, rv w_EAST, iv (2 : Int32), rv b1_292, rv b295, .unset, .unset, .unset] [(.ref b295)])) _
        exact k
      obtain ⟨cq302, kq302, qq302a, qq302b, qq302c⟩ := isOf hZ rfl po299_0
      obtain ⟨_, _, ⟨T302, L302, kk302, nn302⟩, -, X302, ⟨Lc302, hQ302, l302, y302, z302⟩, st302⟩ := X299.virtualBack hx (y := (⟨"com/example/aspectwise/aspectwise/engine/BlockEnd", "opposite", "()Lcom/example/aspectwise/aspectwise/engine/BlockEnd;"⟩ : MethodName)) (z := (⟨"com/example/aspectwise/aspectwise/engine/BlockEnd", "opposite", "()Lcom/example/aspectwise/aspectwise/engine/BlockEnd;"⟩ : MethodName)) hown (mvT hZ (hw _ (List.mem_of_getElem? (i := 21) rfl))) (mvT hZ (hw _ (List.mem_of_getElem? (i := 22) rfl))) (notFace_of_selects (args := #[]) (mvT hZ (hw _ (List.mem_of_getElem? (i := 24) rfl)))) (mvT hZ (hw _ (List.mem_of_getElem? (i := 24) rfl))) (mvT hZ (hw _ (List.mem_of_getElem? (i := 23) rfl))) (by decide) (backOf (W := 0) (opp0EAST l Z a0 hw [] w_EAST w_WEST wCS G b295 b1_292 T299.heap n0 O299 (po299_1 : Fld Z T299.heap b295 "com/example/aspectwise/aspectwise/engine/BlockEnd" "block" "Ljava/lang/String;" (.ref b1_292)) (po299_2 : Fld Z T299.heap b295 "com/example/aspectwise/aspectwise/engine/BlockEnd" "side" "Lcom/example/aspectwise/aspectwise/engine/BlockEnd$Side;" (.ref w_EAST))) hZ (hw _ (List.mem_of_getElem? (i := 25) rfl)) (hw _ (List.mem_of_getElem? (i := 5) rfl)) (by decide) (by decide)) qq302a qq302c (g := (mkF m 137 #[iv p1, iv p2, iv p3, iv p4, rv w_EAST, iv (2 : Int32), rv b1_292, rv b295, .unset, .unset, .unset] [(.ref b295)])) rfl (by rw [hml]; rfl) (Steps.refl _) (argsL := []) (rest := []) (lenOf pd_10 rfl) rfl (by show 2 * 0 + _ ≤ _; exact Nat.le_of_eq rfl) (hb hby at_137) (fun _ _ => ⟨rfl, rfl, (by decide : 3 + 1 ≤ _), (by decide : 7 + 2 ≤ _)⟩)
      dsimp only [Pt.U, Pt.locs, Pt.cells, Pt.slots] at X302 l302 y302 z302 st302 hQ302
      subst l302 y302 z302
      obtain ⟨b1_302, rfl, Nq302, Kq302, po302_0, po302_1, po302_2, po302_3⟩ := hQ302
      have N302 := Fr.app N299 Nq302
      have O302 := O299.keep Kq302 all0
      have k303 : Way p e below S0 T302 (mkF m 140 #[iv p1, iv p2, iv p3, iv p4, rv w_EAST, iv (2 : Int32), rv b1_292, rv b295, .unset, .unset, .unset] [(.ref b1_302)]) := fun t k => k301 t (st302.trans k)
      have k304 : Way p e below S0 T302 (mkF m 151 #[iv p1, iv p2, iv p3, iv p4, rv w_EAST, iv (2 : Int32), rv b1_292, rv b295, rv b1_302, .unset, .unset] [(.ref w_EAST)]) := by
        intro t k
        refine k303 t ?_
        refine XS.astore X302.here hx rfl (hb hby at_140) rfl rfl (l' := #[iv p1, iv p2, iv p3, iv p4, rv w_EAST, iv (2 : Int32), rv b1_292, rv b295, rv b1_302, .unset, .unset]) rfl ?_
        show Steps p.tables e below (T302.setTop (mkF m 142 #[iv p1, iv p2, iv p3, iv p4, rv w_EAST, iv (2 : Int32), rv b1_292, rv b295, rv b1_302, .unset, .unset] [])) _
        refine XS.aload X302.here hx rfl (hb hby at_142) rfl rfl ?_
        show Steps p.tables e below (T302.setTop (mkF m 144 #[iv p1, iv p2, iv p3, iv p4, rv w_EAST, iv (2 : Int32), rv b1_292, rv b295, rv b1_302, .unset, .unset] [(.ref b1_302)])) _
        refine XS.ifnonnullYes X302.here hx rfl (pc0 := 144) (pc' := 149) rfl (hb hby at_144) rfl (by decide) (by decide) ?_
        show Steps p.tables e below (T302.setTop (mkF m 149 #[iv p1, iv p2, iv p3, iv p4, rv w_EAST, iv (2 : Int32), rv b1_292, rv b295, rv b1_302, .unset, .unset] [])) _
        refine XS.aload X302.here hx rfl (hb hby at_149) rfl rfl ?_
        show Steps p.tables e below (T302.setTop (mkF m 151 #[iv p1, iv p2, iv p3, iv p4, rv w_EAST, iv (2 : Int32), rv b1_292, rv b295, rv b1_302, .unset, .unset] [(.ref w_EAST)])) _
        exact k
      obtain ⟨T305, X305, e305, st305⟩ := getS2 X302 hx hZ hown (host := "") (Or.inl (hw _ (List.mem_of_getElem? (i := 0) rfl))) Via.refl rfl (S_w_EAST.ext O302.2) (g := (mkF m 151 #[iv p1, iv p2, iv p3, iv p4, rv w_EAST, iv (2 : Int32), rv b1_292, rv b295, rv b1_302, .unset, .unset] [(.ref w_EAST)])) rfl (hb hby at_151)
      have k306 : Way p e below S0 T305 (mkF m 154 #[iv p1, iv p2, iv p3, iv p4, rv w_EAST, iv (2 : Int32), rv b1_292, rv b295, rv b1_302, .unset, .unset] [(.ref w_EAST), (.ref w_EAST)]) := fun t k => k304 t (st305 _ k)
      have k307 : Way p e below S0 T305 (mkF m 157 #[iv p1, iv p2, iv p3, iv p4, rv w_EAST, iv (2 : Int32), rv b1_292, rv b295, rv b1_302, .unset, .unset] []) := by
        intro t k
        refine k306 t ?_
        refine Jvm.RoadKit.acmp (g := (mkF m 154 #[iv p1, iv p2, iv p3, iv p4, rv w_EAST, iv (2 : Int32), rv b1_292, rv b295, rv b1_302, .unset, .unset] [(.ref w_EAST), (.ref w_EAST)])) X305 hx rfl rfl rfl (pc0 := 154) (pc' := 157) (same := true) rfl (hb hby at_154) rfl (decide_eq_true rfl) (by decide) (by decide) ?_
        show Steps p.tables e below (T305.setTop (mkF m 157 #[iv p1, iv p2, iv p3, iv p4, rv w_EAST, iv (2 : Int32), rv b1_292, rv b295, rv b1_302, .unset, .unset] [])) _
        exact k
      obtain ⟨T308, X308, e308, st308⟩ := getS2 X305 hx hZ hown (host := "") (Or.inl (hw _ (List.mem_of_getElem? (i := 31) rfl))) Via.refl e305 (S_w_WEST.ext O302.2) (g := (mkF m 157 #[iv p1, iv p2, iv p3, iv p4, rv w_EAST, iv (2 : Int32), rv b1_292, rv b295, rv b1_302, .unset, .unset] [])) rfl (hb hby at_157)
      have k309 : Way p e below S0 T308 (mkF m 160 #[iv p1, iv p2, iv p3, iv p4, rv w_EAST, iv (2 : Int32), rv b1_292, rv b295, rv b1_302, .unset, .unset] [(.ref w_WEST)]) := fun t k => k307 t (st308 _ k)
      have k310 : Way p e below S0 T308 (mkF m 172 #[iv p1, iv p2, iv p3, iv p4, rv w_EAST, iv (2 : Int32), rv b1_292, rv b295, rv b1_302, rv w_WEST, .unset] [(.ref b1_302)]) := by
        intro t k
        refine k309 t ?_
        refine XS.astore X308.here hx rfl (hb hby at_160) rfl rfl (l' := #[iv p1, iv p2, iv p3, iv p4, rv w_EAST, iv (2 : Int32), rv b1_292, rv b295, rv b1_302, rv w_WEST, .unset]) rfl ?_
        show Steps p.tables e below (T308.setTop (mkF m 162 #[iv p1, iv p2, iv p3, iv p4, rv w_EAST, iv (2 : Int32), rv b1_292, rv b295, rv b1_302, rv w_WEST, .unset] [])) _
        refine XS.goto X308.here hx rfl (pc0 := 162) (pc' := 170) rfl (hb hby at_162) (by decide) (by decide) ?_
        show Steps p.tables e below (T308.setTop (mkF m 170 #[iv p1, iv p2, iv p3, iv p4, rv w_EAST, iv (2 : Int32), rv b1_292, rv b295, rv b1_302, rv w_WEST, .unset] [])) _
        refine XS.aload X308.here hx rfl (hb hby at_170) rfl rfl ?_
        show Steps p.tables e below (T308.setTop (mkF m 172 #[iv p1, iv p2, iv p3, iv p4, rv w_EAST, iv (2 : Int32), rv b1_292, rv b295, rv b1_302, rv w_WEST, .unset] [(.ref b1_302)])) _
        exact k
      obtain ⟨cq311, kq311, qq311a, qq311b, qq311c⟩ := isOf hZ e308 po302_1
      obtain ⟨_, _, ⟨T311, L311, kk311, nn311⟩, -, X311, ⟨Lc311, hQ311, l311, y311, z311⟩, st311⟩ := X308.virtualBack hx (y := (⟨"com/example/aspectwise/aspectwise/engine/BlockEnd", "side", "()Lcom/example/aspectwise/aspectwise/engine/BlockEnd$Side;"⟩ : MethodName)) (z := (⟨"com/example/aspectwise/aspectwise/engine/BlockEnd", "side", "()Lcom/example/aspectwise/aspectwise/engine/BlockEnd$Side;"⟩ : MethodName)) hown (mvT hZ (hw _ (List.mem_of_getElem? (i := 32) rfl))) (mvT hZ (hw _ (List.mem_of_getElem? (i := 33) rfl))) (notFace_of_selects (args := #[]) (mvT hZ (hw _ (List.mem_of_getElem? (i := 35) rfl)))) (mvT hZ (hw _ (List.mem_of_getElem? (i := 35) rfl))) (mvT hZ (hw _ (List.mem_of_getElem? (i := 34) rfl))) (by decide) (backOf (W := 0) (sid l Z a0 hw [] w_EAST w_WEST wCS G b1_302 w_WEST T302.heap n0 O302 (po302_3 : Fld Z T302.heap b1_302 "com/example/aspectwise/aspectwise/engine/BlockEnd" "side" "Lcom/example/aspectwise/aspectwise/engine/BlockEnd$Side;" (.ref w_WEST))) hZ (hw _ (List.mem_of_getElem? (i := 36) rfl)) (hw _ (List.mem_of_getElem? (i := 5) rfl)) (by decide) (by decide)) qq311a qq311c (g := (mkF m 172 #[iv p1, iv p2, iv p3, iv p4, rv w_EAST, iv (2 : Int32), rv b1_292, rv b295, rv b1_302, rv w_WEST, .unset] [(.ref b1_302)])) rfl (by rw [hml]; rfl) (Steps.refl _) (argsL := []) (rest := []) (lenOf pd_11 rfl) rfl (by show 2 * 0 + _ ≤ _; exact Nat.le_of_eq rfl) (hb hby at_172) (fun _ _ => ⟨rfl, e308, (by decide : 4 + 0 ≤ _), (by decide : 9 + 0 ≤ _)⟩)
      dsimp only [Pt.U, Pt.locs, Pt.cells, Pt.slots] at X311 l311 y311 z311 st311 hQ311
      subst l311 y311 z311
      obtain ⟨rfl, Nq311, e311⟩ := hQ311
      have N311 := Fr.app N302 Nq311
      have k312 : Way p e below S0 T311 (mkF m 175 #[iv p1, iv p2, iv p3, iv p4, rv w_EAST, iv (2 : Int32), rv b1_292, rv b295, rv b1_302, rv w_WEST, .unset] [(.ref w_WEST)]) := fun t k => k310 t (st311.trans k)
      have k313 : Way p e below S0 T311 (mkF m 186 #[iv p1, iv p2, iv p3, iv p4, rv w_EAST, iv (2 : Int32), rv b1_292, rv b295, rv b1_302, rv w_WEST, .unset] [(.ref b1_302), (.ref b1_292)]) := by
        intro t k
        refine k312 t ?_
        refine XS.aload X311.here hx rfl (hb hby at_175) rfl rfl ?_
        show Steps p.tables e below (T311.setTop (mkF m 177 #[iv p1, iv p2, iv p3, iv p4, rv w_EAST, iv (2 : Int32), rv b1_292, rv b295, rv b1_302, rv w_WEST, .unset] [(.ref w_WEST), (.ref w_WEST)])) _
        refine Jvm.RoadKit.acmp (g := (mkF m 177 #[iv p1, iv p2, iv p3, iv p4, rv w_EAST, iv (2 : Int32), rv b1_292, rv b295, rv b1_302, rv w_WEST, .unset] [(.ref w_WEST), (.ref w_WEST)])) X311 hx rfl rfl rfl (pc0 := 177) (pc' := 182) (same := true) rfl (hb hby at_177) rfl (decide_eq_true rfl) (by decide) (by decide) ?_
        show Steps p.tables e below (T311.setTop (mkF m 182 #[iv p1, iv p2, iv p3, iv p4, rv w_EAST, iv (2 : Int32), rv b1_292, rv b295, rv b1_302, rv w_WEST, .unset] [])) _
        refine XS.aload X311.here hx rfl (hb hby at_182) rfl rfl ?_
        show Steps p.tables e below (T311.setTop (mkF m 184 #[iv p1, iv p2, iv p3, iv p4, rv w_EAST, iv (2 : Int32), rv b1_292, rv b295, rv b1_302, rv w_WEST, .unset] [(.ref b1_292)])) _
        refine XS.aload X311.here hx rfl (hb hby at_184) rfl rfl ?_
        show Steps p.tables e below (T311.setTop (mkF m 186 #[iv p1, iv p2, iv p3, iv p4, rv w_EAST, iv (2 : Int32), rv b1_292, rv b295, rv b1_302, rv w_WEST, .unset] [(.ref b1_302), (.ref b1_292)])) _
        exact k
      obtain ⟨cq314, kq314, qq314a, qq314b, qq314c⟩ := isOf hZ e311 po302_1
      obtain ⟨_, _, ⟨T314, L314, kk314, nn314⟩, -, X314, ⟨Lc314, hQ314, l314, y314, z314⟩, st314⟩ := X311.virtualBack hx (y := (⟨"com/example/aspectwise/aspectwise/engine/BlockEnd", "block", "()Ljava/lang/String;"⟩ : MethodName)) (z := (⟨"com/example/aspectwise/aspectwise/engine/BlockEnd", "block", "()Ljava/lang/String;"⟩ : MethodName)) hown (mvT hZ (hw _ (List.mem_of_getElem? (i := 37) rfl))) (mvT hZ (hw _ (List.mem_of_getElem? (i := 38) rfl))) (notFace_of_selects (args := #[]) (mvT hZ (hw _ (List.mem_of_getElem? (i := 40) rfl)))) (mvT hZ (hw _ (List.mem_of_getElem? (i := 40) rfl))) (mvT hZ (hw _ (List.mem_of_getElem? (i := 39) rfl))) (by decide) (backOf (W := 1) (blk0 l Z a0 hw [] w_EAST w_WEST wCS G b1_302 b1_292 T302.heap n0 O302 (po302_2 : Fld Z T302.heap b1_302 "com/example/aspectwise/aspectwise/engine/BlockEnd" "block" "Ljava/lang/String;" (.ref b1_292))) hZ (hw _ (List.mem_of_getElem? (i := 41) rfl)) (hw _ (List.mem_of_getElem? (i := 5) rfl)) (by decide) (by decide)) qq314a qq314c (g := (mkF m 186 #[iv p1, iv p2, iv p3, iv p4, rv w_EAST, iv (2 : Int32), rv b1_292, rv b295, rv b1_302, rv w_WEST, .unset] [(.ref b1_302), (.ref b1_292)])) rfl (by rw [hml]; rfl) (Steps.refl _) (argsL := []) (rest := [(.ref b1_292)]) (lenOf pd_12 rfl) rfl (by show 2 * 0 + _ ≤ _; exact Nat.le_of_eq rfl) (hb hby at_186) (fun _ _ => ⟨rfl, e311, (by decide : 4 + 0 ≤ _), (by decide : 9 + 0 ≤ _)⟩)
      dsimp only [Pt.U, Pt.locs, Pt.cells, Pt.slots] at X314 l314 y314 z314 st314 hQ314
      subst l314 y314 z314
      obtain ⟨rfl, Nq314, e314⟩ := hQ314
      have N314 := Fr.app N311 Nq314
      have k315 : Way p e below S0 T314 (mkF m 189 #[iv p1, iv p2, iv p3, iv p4, rv w_EAST, iv (2 : Int32), rv b1_292, rv b295, rv b1_302, rv w_WEST, .unset] [(.ref b1_292), (.ref b1_292)]) := fun t k => k313 t (st314.trans k)
      have f316 : Exa Z T302.heap b1_292 "java/lang/String" := (((po292_2.ext E295).keep Kq299).keep Kq302)
      obtain ⟨_, _, ⟨T317, L317, kk317, nn317⟩, -, X317, ⟨Lc317, hQ317, l317, y317, z317⟩, st317⟩ := Jvm.LawKit.callS X314 hx (y := (⟨"com/example/aspectwise/aspectwise/engine/BlockEndOppositePinLaw", "sameBlock", "(Ljava/lang/String;Ljava/lang/String;)Z"⟩ : MethodName)) hown (mvT hZ (hw _ (List.mem_of_getElem? (i := 42) rfl))) (mvT hZ (hw _ (List.mem_of_getElem? (i := 43) rfl))) (mvT hZ (hw _ (List.mem_of_getElem? (i := 44) rfl))) (mvT hZ (hw _ (List.mem_of_getElem? (i := 45) rfl))) (by decide) (backOf (W := 0) (sb1 l Z a0 hw [] w_EAST w_WEST wCS G b1_292 T302.heap n0 O302 (f316 : Exa Z T302.heap b1_292 "java/lang/String")) hZ (hw _ (List.mem_of_getElem? (i := 45) rfl)) (hw _ (List.mem_of_getElem? (i := 44) rfl)) (by decide) (by decide)) (g := (mkF m 189 #[iv p1, iv p2, iv p3, iv p4, rv w_EAST, iv (2 : Int32), rv b1_292, rv b295, rv b1_302, rv w_WEST, .unset] [(.ref b1_292), (.ref b1_292)])) rfl (by rw [hml]; rfl) (argsL := [(.ref b1_292), (.ref b1_292)]) (rest := []) (lenOf pd_13 rfl) rfl (by show 2 * 0 + _ ≤ _; exact Nat.le_of_eq rfl) (hb hby at_189) (fun _ _ => ⟨rfl, e314, (by decide : 4 + 0 ≤ _), (by decide : 9 + 0 ≤ _)⟩)
      dsimp only [Pt.U, Pt.locs, Pt.cells, Pt.slots] at X317 l317 y317 z317 st317 hQ317
      subst l317 y317 z317
      obtain ⟨rfl, Nq317, e317⟩ := hQ317
      have N317 := Fr.app N314 Nq317
      have k318 : Way p e below S0 T317 (mkF m 192 #[iv p1, iv p2, iv p3, iv p4, rv w_EAST, iv (2 : Int32), rv b1_292, rv b295, rv b1_302, rv w_WEST, .unset] [(.int (1 : Int32))]) := fun t k => k315 t (st317 _ k)
      have k319 : Way p e below S0 T317 (mkF m 199 #[iv p1, iv p2, iv p3, iv p4, rv w_EAST, iv (2 : Int32), rv b1_292, rv b295, rv b1_302, rv w_WEST, .unset] [(.ref b1_302)]) := by
        intro t k
        refine k318 t ?_
        refine XS.ifYes X317.here hx rfl (pc0 := 192) (pc' := 197) rfl (hb hby at_192) rfl ((if0 _ _).trans (feq ((by decide) : ¬ ((1 : Int32) = (0 : Int32)))).2) (by decide) (by decide) ?_
        show Steps p.tables e below (T317.setTop (mkF m 197 #[iv p1, iv p2, iv p3, iv p4, rv w_EAST, iv (2 : Int32), rv b1_292, rv b295, rv b1_302, rv w_WEST, .unset] [])) _
        refine XS.aload X317.here hx rfl (hb hby at_197) rfl rfl ?_
        show Steps p.tables e below (T317.setTop (mkF m 199 #[iv p1, iv p2, iv p3, iv p4, rv w_EAST, iv (2 : Int32), rv b1_292, rv b295, rv b1_302, rv w_WEST, .unset] [(.ref b1_302)])) _
        exact k
      obtain ⟨cq320, kq320, qq320a, qq320b, qq320c⟩ := isOf hZ e317 po302_1
      obtain ⟨_, _, ⟨T320, L320, kk320, nn320⟩, -, X320, ⟨Lc320, hQ320, l320, y320, z320⟩, st320⟩ := X317.virtualBack hx (y := (⟨"com/example/aspectwise/aspectwise/engine/BlockEnd", "opposite", "()Lcom/example/aspectwise/aspectwise/engine/BlockEnd;"⟩ : MethodName)) (z := (⟨"com/example/aspectwise/aspectwise/engine/BlockEnd", "opposite", "()Lcom/example/aspectwise/aspectwise/engine/BlockEnd;"⟩ : MethodName)) hown (mvT hZ (hw _ (List.mem_of_getElem? (i := 21) rfl))) (mvT hZ (hw _ (List.mem_of_getElem? (i := 22) rfl))) (notFace_of_selects (args := #[]) (mvT hZ (hw _ (List.mem_of_getElem? (i := 24) rfl)))) (mvT hZ (hw _ (List.mem_of_getElem? (i := 24) rfl))) (mvT hZ (hw _ (List.mem_of_getElem? (i := 23) rfl))) (by decide) (backOf (W := 0) (opp0WEST l Z a0 hw [] w_EAST w_WEST wCS G b1_302 b1_292 T302.heap n0 O302 (po302_2 : Fld Z T302.heap b1_302 "com/example/aspectwise/aspectwise/engine/BlockEnd" "block" "Ljava/lang/String;" (.ref b1_292)) (po302_3 : Fld Z T302.heap b1_302 "com/example/aspectwise/aspectwise/engine/BlockEnd" "side" "Lcom/example/aspectwise/aspectwise/engine/BlockEnd$Side;" (.ref w_WEST))) hZ (hw _ (List.mem_of_getElem? (i := 25) rfl)) (hw _ (List.mem_of_getElem? (i := 5) rfl)) (by decide) (by decide)) qq320a qq320c (g := (mkF m 199 #[iv p1, iv p2, iv p3, iv p4, rv w_EAST, iv (2 : Int32), rv b1_292, rv b295, rv b1_302, rv w_WEST, .unset] [(.ref b1_302)])) rfl (by rw [hml]; rfl) (Steps.refl _) (argsL := []) (rest := []) (lenOf pd_10 rfl) rfl (by show 2 * 0 + _ ≤ _; exact Nat.le_of_eq rfl) (hb hby at_199) (fun _ _ => ⟨rfl, e317, (by decide : 4 + 1 ≤ _), (by decide : 9 + 2 ≤ _)⟩)
      dsimp only [Pt.U, Pt.locs, Pt.cells, Pt.slots] at X320 l320 y320 z320 st320 hQ320
      subst l320 y320 z320
      obtain ⟨b1_320, rfl, Nq320, Kq320, po320_0, po320_1, po320_2, po320_3⟩ := hQ320
      have N320 := Fr.app N317 Nq320
      have O320 := O302.keep Kq320 all0
      have k321 : Way p e below S0 T320 (mkF m 202 #[iv p1, iv p2, iv p3, iv p4, rv w_EAST, iv (2 : Int32), rv b1_292, rv b295, rv b1_302, rv w_WEST, .unset] [(.ref b1_320)]) := fun t k => k319 t (st320.trans k)
      have k322 : Way p e below S0 T320 (mkF m 213 #[iv p1, iv p2, iv p3, iv p4, rv w_EAST, iv (2 : Int32), rv b1_292, rv b295, rv b1_302, rv w_WEST, rv b1_320] [(.ref b1_320)]) := by
        intro t k
        refine k321 t ?_
        refine XS.astore X320.here hx rfl (hb hby at_202) rfl rfl (l' := #[iv p1, iv p2, iv p3, iv p4, rv w_EAST, iv (2 : Int32), rv b1_292, rv b295, rv b1_302, rv w_WEST, rv b1_320]) rfl ?_
        show Steps p.tables e below (T320.setTop (mkF m 204 #[iv p1, iv p2, iv p3, iv p4, rv w_EAST, iv (2 : Int32), rv b1_292, rv b295, rv b1_302, rv w_WEST, rv b1_320] [])) _
        refine XS.aload X320.here hx rfl (hb hby at_204) rfl rfl ?_
        show Steps p.tables e below (T320.setTop (mkF m 206 #[iv p1, iv p2, iv p3, iv p4, rv w_EAST, iv (2 : Int32), rv b1_292, rv b295, rv b1_302, rv w_WEST, rv b1_320] [(.ref b1_320)])) _
        refine XS.ifnonnullYes X320.here hx rfl (pc0 := 206) (pc' := 211) rfl (hb hby at_206) rfl (by decide) (by decide) ?_
        show Steps p.tables e below (T320.setTop (mkF m 211 #[iv p1, iv p2, iv p3, iv p4, rv w_EAST, iv (2 : Int32), rv b1_292, rv b295, rv b1_302, rv w_WEST, rv b1_320] [])) _
        refine XS.aload X320.here hx rfl (hb hby at_211) rfl rfl ?_
        show Steps p.tables e below (T320.setTop (mkF m 213 #[iv p1, iv p2, iv p3, iv p4, rv w_EAST, iv (2 : Int32), rv b1_292, rv b295, rv b1_302, rv w_WEST, rv b1_320] [(.ref b1_320)])) _
        exact k
      obtain ⟨cq323, kq323, qq323a, qq323b, qq323c⟩ := isOf hZ rfl po320_1
      obtain ⟨_, _, ⟨T323, L323, kk323, nn323⟩, -, X323, ⟨Lc323, hQ323, l323, y323, z323⟩, st323⟩ := X320.virtualBack hx (y := (⟨"com/example/aspectwise/aspectwise/engine/BlockEnd", "side", "()Lcom/example/aspectwise/aspectwise/engine/BlockEnd$Side;"⟩ : MethodName)) (z := (⟨"com/example/aspectwise/aspectwise/engine/BlockEnd", "side", "()Lcom/example/aspectwise/aspectwise/engine/BlockEnd$Side;"⟩ : MethodName)) hown (mvT hZ (hw _ (List.mem_of_getElem? (i := 32) rfl))) (mvT hZ (hw _ (List.mem_of_getElem? (i := 33) rfl))) (notFace_of_selects (args := #[]) (mvT hZ (hw _ (List.mem_of_getElem? (i := 35) rfl)))) (mvT hZ (hw _ (List.mem_of_getElem? (i := 35) rfl))) (mvT hZ (hw _ (List.mem_of_getElem? (i := 34) rfl))) (by decide) (backOf (W := 0) (sid l Z a0 hw [] w_EAST w_WEST wCS G b1_320 w_EAST T320.heap n0 O320 (po320_3 : Fld Z T320.heap b1_320 "com/example/aspectwise/aspectwise/engine/BlockEnd" "side" "Lcom/example/aspectwise/aspectwise/engine/BlockEnd$Side;" (.ref w_EAST))) hZ (hw _ (List.mem_of_getElem? (i := 36) rfl)) (hw _ (List.mem_of_getElem? (i := 5) rfl)) (by decide) (by decide)) qq323a qq323c (g := (mkF m 213 #[iv p1, iv p2, iv p3, iv p4, rv w_EAST, iv (2 : Int32), rv b1_292, rv b295, rv b1_302, rv w_WEST, rv b1_320] [(.ref b1_320)])) rfl (by rw [hml]; rfl) (Steps.refl _) (argsL := []) (rest := []) (lenOf pd_11 rfl) rfl (by show 2 * 0 + _ ≤ _; exact Nat.le_of_eq rfl) (hb hby at_213) (fun _ _ => ⟨rfl, rfl, (by decide : 5 + 0 ≤ _), (by decide : 11 + 0 ≤ _)⟩)
      dsimp only [Pt.U, Pt.locs, Pt.cells, Pt.slots] at X323 l323 y323 z323 st323 hQ323
      subst l323 y323 z323
      obtain ⟨rfl, Nq323, e323⟩ := hQ323
      have N323 := Fr.app N320 Nq323
      have k324 : Way p e below S0 T323 (mkF m 216 #[iv p1, iv p2, iv p3, iv p4, rv w_EAST, iv (2 : Int32), rv b1_292, rv b295, rv b1_302, rv w_WEST, rv b1_320] [(.ref w_EAST)]) := fun t k => k322 t (st323.trans k)
      have k325 : Way p e below S0 T323 (mkF m 225 #[iv p1, iv p2, iv p3, iv p4, rv w_EAST, iv (2 : Int32), rv b1_292, rv b295, rv b1_302, rv w_WEST, rv b1_320] [(.ref b1_320), (.ref b1_292)]) := by
        intro t k
        refine k324 t ?_
        refine XS.aload X323.here hx rfl (hb hby at_216) rfl rfl ?_
        show Steps p.tables e below (T323.setTop (mkF m 218 #[iv p1, iv p2, iv p3, iv p4, rv w_EAST, iv (2 : Int32), rv b1_292, rv b295, rv b1_302, rv w_WEST, rv b1_320] [(.ref w_EAST), (.ref w_EAST)])) _
        refine Jvm.RoadKit.acmp (g := (mkF m 218 #[iv p1, iv p2, iv p3, iv p4, rv w_EAST, iv (2 : Int32), rv b1_292, rv b295, rv b1_302, rv w_WEST, rv b1_320] [(.ref w_EAST), (.ref w_EAST)])) X323 hx rfl rfl rfl (pc0 := 218) (pc' := 221) (same := true) rfl (hb hby at_218) rfl (decide_eq_true rfl) (by decide) (by decide) ?_
        show Steps p.tables e below (T323.setTop (mkF m 221 #[iv p1, iv p2, iv p3, iv p4, rv w_EAST, iv (2 : Int32), rv b1_292, rv b295, rv b1_302, rv w_WEST, rv b1_320] [])) _
        refine XS.aload X323.here hx rfl (hb hby at_221) rfl rfl ?_
        show Steps p.tables e below (T323.setTop (mkF m 223 #[iv p1, iv p2, iv p3, iv p4, rv w_EAST, iv (2 : Int32), rv b1_292, rv b295, rv b1_302, rv w_WEST, rv b1_320] [(.ref b1_292)])) _
        refine XS.aload X323.here hx rfl (hb hby at_223) rfl rfl ?_
        show Steps p.tables e below (T323.setTop (mkF m 225 #[iv p1, iv p2, iv p3, iv p4, rv w_EAST, iv (2 : Int32), rv b1_292, rv b295, rv b1_302, rv w_WEST, rv b1_320] [(.ref b1_320), (.ref b1_292)])) _
        exact k
      obtain ⟨cq326, kq326, qq326a, qq326b, qq326c⟩ := isOf hZ e323 po320_1
      obtain ⟨_, _, ⟨T326, L326, kk326, nn326⟩, -, X326, ⟨Lc326, hQ326, l326, y326, z326⟩, st326⟩ := X323.virtualBack hx (y := (⟨"com/example/aspectwise/aspectwise/engine/BlockEnd", "block", "()Ljava/lang/String;"⟩ : MethodName)) (z := (⟨"com/example/aspectwise/aspectwise/engine/BlockEnd", "block", "()Ljava/lang/String;"⟩ : MethodName)) hown (mvT hZ (hw _ (List.mem_of_getElem? (i := 37) rfl))) (mvT hZ (hw _ (List.mem_of_getElem? (i := 38) rfl))) (notFace_of_selects (args := #[]) (mvT hZ (hw _ (List.mem_of_getElem? (i := 40) rfl)))) (mvT hZ (hw _ (List.mem_of_getElem? (i := 40) rfl))) (mvT hZ (hw _ (List.mem_of_getElem? (i := 39) rfl))) (by decide) (backOf (W := 1) (blk0 l Z a0 hw [] w_EAST w_WEST wCS G b1_320 b1_292 T320.heap n0 O320 (po320_2 : Fld Z T320.heap b1_320 "com/example/aspectwise/aspectwise/engine/BlockEnd" "block" "Ljava/lang/String;" (.ref b1_292))) hZ (hw _ (List.mem_of_getElem? (i := 41) rfl)) (hw _ (List.mem_of_getElem? (i := 5) rfl)) (by decide) (by decide)) qq326a qq326c (g := (mkF m 225 #[iv p1, iv p2, iv p3, iv p4, rv w_EAST, iv (2 : Int32), rv b1_292, rv b295, rv b1_302, rv w_WEST, rv b1_320] [(.ref b1_320), (.ref b1_292)])) rfl (by rw [hml]; rfl) (Steps.refl _) (argsL := []) (rest := [(.ref b1_292)]) (lenOf pd_12 rfl) rfl (by show 2 * 0 + _ ≤ _; exact Nat.le_of_eq rfl) (hb hby at_225) (fun _ _ => ⟨rfl, e323, (by decide : 5 + 0 ≤ _), (by decide : 11 + 0 ≤ _)⟩)
      dsimp only [Pt.U, Pt.locs, Pt.cells, Pt.slots] at X326 l326 y326 z326 st326 hQ326
      subst l326 y326 z326
      obtain ⟨rfl, Nq326, e326⟩ := hQ326
      have N326 := Fr.app N323 Nq326
      have k327 : Way p e below S0 T326 (mkF m 228 #[iv p1, iv p2, iv p3, iv p4, rv w_EAST, iv (2 : Int32), rv b1_292, rv b295, rv b1_302, rv w_WEST, rv b1_320] [(.ref b1_292), (.ref b1_292)]) := fun t k => k325 t (st326.trans k)
      have f328 : Exa Z T320.heap b1_292 "java/lang/String" := (f316.keep Kq320)
      obtain ⟨_, _, ⟨T329, L329, kk329, nn329⟩, -, X329, ⟨Lc329, hQ329, l329, y329, z329⟩, st329⟩ := Jvm.LawKit.callS X326 hx (y := (⟨"com/example/aspectwise/aspectwise/engine/BlockEndOppositePinLaw", "sameBlock", "(Ljava/lang/String;Ljava/lang/String;)Z"⟩ : MethodName)) hown (mvT hZ (hw _ (List.mem_of_getElem? (i := 42) rfl))) (mvT hZ (hw _ (List.mem_of_getElem? (i := 43) rfl))) (mvT hZ (hw _ (List.mem_of_getElem? (i := 44) rfl))) (mvT hZ (hw _ (List.mem_of_getElem? (i := 45) rfl))) (by decide) (backOf (W := 0) (sb1 l Z a0 hw [] w_EAST w_WEST wCS G b1_292 T320.heap n0 O320 (f328 : Exa Z T320.heap b1_292 "java/lang/String")) hZ (hw _ (List.mem_of_getElem? (i := 45) rfl)) (hw _ (List.mem_of_getElem? (i := 44) rfl)) (by decide) (by decide)) (g := (mkF m 228 #[iv p1, iv p2, iv p3, iv p4, rv w_EAST, iv (2 : Int32), rv b1_292, rv b295, rv b1_302, rv w_WEST, rv b1_320] [(.ref b1_292), (.ref b1_292)])) rfl (by rw [hml]; rfl) (argsL := [(.ref b1_292), (.ref b1_292)]) (rest := []) (lenOf pd_13 rfl) rfl (by show 2 * 0 + _ ≤ _; exact Nat.le_of_eq rfl) (hb hby at_228) (fun _ _ => ⟨rfl, e326, (by decide : 5 + 0 ≤ _), (by decide : 11 + 0 ≤ _)⟩)
      dsimp only [Pt.U, Pt.locs, Pt.cells, Pt.slots] at X329 l329 y329 z329 st329 hQ329
      subst l329 y329 z329
      obtain ⟨rfl, Nq329, e329⟩ := hQ329
      have N329 := Fr.app N326 Nq329
      have k330 : Way p e below S0 T329 (mkF m 231 #[iv p1, iv p2, iv p3, iv p4, rv w_EAST, iv (2 : Int32), rv b1_292, rv b295, rv b1_302, rv w_WEST, rv b1_320] [(.int (1 : Int32))]) := fun t k => k327 t (st329 _ k)
      have k331 : Way p e below S0 T329 (mkF m 239 #[iv p1, iv p2, iv p3, iv p4, rv w_EAST, iv (2 : Int32), rv b1_292, rv b295, rv b1_302, rv w_WEST, rv b1_320] [(.int (1 : Int32))]) := by
        intro t k
        refine k330 t ?_
        refine XS.ifNo X329.here hx rfl (hb hby at_231) rfl ((if0 _ _).trans (feq ((by decide) : ¬ ((1 : Int32) = (0 : Int32)))).1) ?_
        show Steps p.tables e below (T329.setTop (mkF m 234 #[iv p1, iv p2, iv p3, iv p4, rv w_EAST, iv (2 : Int32), rv b1_292, rv b295, rv b1_302, rv w_WEST, rv b1_320] [])) _
        refine XS.iconst X329.here hx rfl (hb hby at_234) ?_
        show Steps p.tables e below (T329.setTop (mkF m 235 #[iv p1, iv p2, iv p3, iv p4, rv w_EAST, iv (2 : Int32), rv b1_292, rv b295, rv b1_302, rv w_WEST, rv b1_320] [(.int (1 : Int32))])) _
        refine XS.goto X329.here hx rfl (pc0 := 235) (pc' := 239) rfl (hb hby at_235) (by decide) (by decide) ?_
        show Steps p.tables e below (T329.setTop (mkF m 239 #[iv p1, iv p2, iv p3, iv p4, rv w_EAST, iv (2 : Int32), rv b1_292, rv b295, rv b1_302, rv w_WEST, rv b1_320] [(.int (1 : Int32))])) _
        exact k
      obtain ⟨fs, hr, hrun, hended, hRW⟩ := Stand.leaveW (s := s) (vm₁ := s.vm) X329 hS0 (by rw [e329]; exact (Nat.zero_le _)) (v := some (.int (1 : Int32))) (fun h => by rw [Bd.returns] at h; cases h)
      refine ⟨_, _, k331 _ (retN X329 hx (t := .boolean) Bd.returns (by simp) (hb hby at_239) hr), hrun, hended, _, _, rfl, ?_, own_rw hRW (by decide) (by decide)⟩
      show Q_law_met Z w_EAST w_WEST wCS p1 p2 p3 p4 h0 n0 _ T329.heap _
      rw [e329]
      exact ⟨rfl, N329⟩
    · have k332 : Way p e below S0 T198 (mkF m 24 #[iv p1, iv p2, iv p3, iv p4, rv w_EAST, iv (3 : Int32), .unset, .unset, .unset, .unset, .unset] []) := by have q := k200; rw [hi201] at q; exact q
      have k333 : Way p e below S0 T198 (mkF m 77 #[iv p1, iv p2, iv p3, iv p4, rv w_EAST, iv (3 : Int32), .unset, .unset, .unset, .unset, .unset] [(.int (3 : Int32))]) := by
        intro t k
        refine k332 t ?_
        refine XS.iload X198.here hx rfl (hb hby at_24) rfl ?_
        show Steps p.tables e below (T198.setTop (mkF m 26 #[iv p1, iv p2, iv p3, iv p4, rv w_EAST, iv (3 : Int32), .unset, .unset, .unset, .unset, .unset] [(.int (3 : Int32))])) _
        refine XS.ifYes X198.here hx rfl (pc0 := 26) (pc' := 35) rfl (hb hby at_26) rfl ((if0 _ _).trans (feq ((by decide) : ¬ ((3 : Int32) = (0 : Int32)))).2) (by decide) (by decide) ?_
        show Steps p.tables e below (T198.setTop (mkF m 35 #[iv p1, iv p2, iv p3, iv p4, rv w_EAST, iv (3 : Int32), .unset, .unset, .unset, .unset, .unset] [])) _
        refine XS.iload X198.here hx rfl (hb hby at_35) rfl ?_
        show Steps p.tables e below (T198.setTop (mkF m 37 #[iv p1, iv p2, iv p3, iv p4, rv w_EAST, iv (3 : Int32), .unset, .unset, .unset, .unset, .unset] [(.int (3 : Int32))])) _
        refine XS.iconst X198.here hx rfl (hb hby at_37) ?_
        show Steps p.tables e below (T198.setTop (mkF m 38 #[iv p1, iv p2, iv p3, iv p4, rv w_EAST, iv (3 : Int32), .unset, .unset, .unset, .unset, .unset] [(.int (1 : Int32)), (.int (3 : Int32))])) _
        refine XS.icmpYes X198.here hx rfl (pc0 := 38) (pc' := 56) rfl (hb hby at_38) rfl (feq ((by decide) : ¬ ((3 : Int32) = (1 : Int32)))).2 (by decide) (by decide) ?_
        show Steps p.tables e below (T198.setTop (mkF m 56 #[iv p1, iv p2, iv p3, iv p4, rv w_EAST, iv (3 : Int32), .unset, .unset, .unset, .unset, .unset] [])) _
        refine XS.iload X198.here hx rfl (hb hby at_56) rfl ?_
        show Steps p.tables e below (T198.setTop (mkF m 58 #[iv p1, iv p2, iv p3, iv p4, rv w_EAST, iv (3 : Int32), .unset, .unset, .unset, .unset, .unset] [(.int (3 : Int32))])) _
        refine XS.iconst X198.here hx rfl (hb hby at_58) ?_
        show Steps p.tables e below (T198.setTop (mkF m 59 #[iv p1, iv p2, iv p3, iv p4, rv w_EAST, iv (3 : Int32), .unset, .unset, .unset, .unset, .unset] [(.int (2 : Int32)), (.int (3 : Int32))])) _
        refine XS.icmpYes X198.here hx rfl (pc0 := 59) (pc' := 76) rfl (hb hby at_59) rfl (feq ((by decide) : ¬ ((3 : Int32) = (2 : Int32)))).2 (by decide) (by decide) ?_
        show Steps p.tables e below (T198.setTop (mkF m 76 #[iv p1, iv p2, iv p3, iv p4, rv w_EAST, iv (3 : Int32), .unset, .unset, .unset, .unset, .unset] [])) _
        refine XS.iconst X198.here hx rfl (hb hby at_76) ?_
        show Steps p.tables e below (T198.setTop (mkF m 77 #[iv p1, iv p2, iv p3, iv p4, rv w_EAST, iv (3 : Int32), .unset, .unset, .unset, .unset, .unset] [(.int (3 : Int32))])) _
        exact k
      obtain ⟨T334, h334, c334, X334, e334, E334, A334, B334, st334⟩ := newPE X198 hx hZ (hw _ (List.mem_of_getElem? (i := 49) rfl)) e198 (g := (mkF m 77 #[iv p1, iv p2, iv p3, iv p4, rv w_EAST, iv (3 : Int32), .unset, .unset, .unset, .unset, .unset] [(.int (3 : Int32))])) rfl (hb hby at_77) rfl (by decide) (cap := 3) (by decide) (by decide) (by decide) (by decide) (ad := "[C") (by decide)
      obtain ⟨b334, g334⟩ : ∃ z, z = h0.size := ⟨_, rfl⟩
      rw [← g334] at A334 B334 st334
      have O334 := O0.ext E334
      have v334 : Arv Z h334 b334 c334 .char (3 : Int32) [(.int (0 : Int32)), (.int (0 : Int32)), (.int (0 : Int32))] (.int (0 : Int32)) := (Arv.new A334 (by decide)).pad (pad_rep [] (.int (0 : Int32)) 3)
      have k335 : Way p e below S0 T334 (mkF m 79 #[iv p1, iv p2, iv p3, iv p4, rv w_EAST, iv (3 : Int32), .unset, .unset, .unset, .unset, .unset] [(.ref b334)]) := fun t k => k333 t (st334 _ k)
      have k336 : Way p e below S0 T334 (mkF m 90 #[iv p1, iv p2, iv p3, iv p4, rv w_EAST, iv (3 : Int32), .unset, rv b334, .unset, .unset, .unset] [(.int ((p1 &&& (255 : Int32)).toUInt32.toUInt16.toUInt32.toInt32)), (.int (0 : Int32)), (.ref b334)]) := by
        intro t k
        refine k335 t ?_
        refine XS.astore X334.here hx rfl (hb hby at_79) rfl rfl (l' := #[iv p1, iv p2, iv p3, iv p4, rv w_EAST, iv (3 : Int32), .unset, rv b334, .unset, .unset, .unset]) rfl ?_
        show Steps p.tables e below (T334.setTop (mkF m 81 #[iv p1, iv p2, iv p3, iv p4, rv w_EAST, iv (3 : Int32), .unset, rv b334, .unset, .unset, .unset] [])) _
        refine XS.aload X334.here hx rfl (hb hby at_81) rfl rfl ?_
        show Steps p.tables e below (T334.setTop (mkF m 83 #[iv p1, iv p2, iv p3, iv p4, rv w_EAST, iv (3 : Int32), .unset, rv b334, .unset, .unset, .unset] [(.ref b334)])) _
        refine XS.iconst X334.here hx rfl (hb hby at_83) ?_
        show Steps p.tables e below (T334.setTop (mkF m 84 #[iv p1, iv p2, iv p3, iv p4, rv w_EAST, iv (3 : Int32), .unset, rv b334, .unset, .unset, .unset] [(.int (0 : Int32)), (.ref b334)])) _
        refine XS.iloadN X334.here hx rfl (hb hby at_84) rfl ?_
        show Steps p.tables e below (T334.setTop (mkF m 85 #[iv p1, iv p2, iv p3, iv p4, rv w_EAST, iv (3 : Int32), .unset, rv b334, .unset, .unset, .unset] [(.int p1), (.int (0 : Int32)), (.ref b334)])) _
        refine XS.sipush X334.here hx rfl (hb hby at_85) ?_
        show Steps p.tables e below (T334.setTop (mkF m 88 #[iv p1, iv p2, iv p3, iv p4, rv w_EAST, iv (3 : Int32), .unset, rv b334, .unset, .unset, .unset] [(.int (255 : Int32)), (.int p1), (.int (0 : Int32)), (.ref b334)])) _
        refine XS.iand X334.here hx rfl (hb hby at_88) rfl ?_
        show Steps p.tables e below (T334.setTop (mkF m 89 #[iv p1, iv p2, iv p3, iv p4, rv w_EAST, iv (3 : Int32), .unset, rv b334, .unset, .unset, .unset] [(.int (p1 &&& (255 : Int32))), (.int (0 : Int32)), (.ref b334)])) _
        refine XS.i2c X334.here hx rfl (hb hby at_89) rfl ?_
        show Steps p.tables e below (T334.setTop (mkF m 90 #[iv p1, iv p2, iv p3, iv p4, rv w_EAST, iv (3 : Int32), .unset, rv b334, .unset, .unset, .unset] [(.int ((p1 &&& (255 : Int32)).toUInt32.toUInt16.toUInt32.toInt32)), (.int (0 : Int32)), (.ref b334)])) _
        exact k
      obtain ⟨cl337, Ar337, qc337, S337, M337, U337, G337⟩ := id (v334)
      have hin337 : ¬ ((0 : Int32) < 0 ∨ cl337.slots.size ≤ ((0 : Int32)).toNatClampNeg) := inb_of S337 ⟨by decide, by decide⟩
      obtain ⟨T337, h337, X337, e337, W337, st337⟩ := stC X334 hx hZ e334 Ar337 (j := (0 : Int32)) hin337 (g := (mkF m 90 #[iv p1, iv p2, iv p3, iv p4, rv w_EAST, iv (3 : Int32), .unset, rv b334, .unset, .unset, .unset] [(.int ((p1 &&& (255 : Int32)).toUInt32.toUInt16.toUInt32.toInt32)), (.int (0 : Int32)), (.ref b334)])) rfl rfl (hb hby at_90)
      have ge338 : n0 ≤ b334 := Nat.le_trans (own_old O0) (Nat.le_of_eq g334.symm)
      have O337 := O334.wr W337 ge338
      have N337 := Fr.snoc X337 N0 ge338
      have va337 : Arv Z h337 b334 c334 .char (3 : Int32) [(.int (((p1 &&& (255 : Int32)).toUInt32.toUInt16.toUInt32.toInt32).toUInt32.toUInt16.toUInt32.toInt32)), (.int (0 : Int32)), (.int (0 : Int32))] (.int (0 : Int32)) := Arv.set Ar337 qc337 S337 M337 U337 G337 (fits_nar_char _) W337 0 rfl (Nat.le_of_ble_eq_true rfl)
      have k339 : Way p e below S0 T337 (mkF m 91 #[iv p1, iv p2, iv p3, iv p4, rv w_EAST, iv (3 : Int32), .unset, rv b334, .unset, .unset, .unset] []) := fun t k => k336 t (st337 _ k)
      have k340 : Way p e below S0 T337 (mkF m 100 #[iv p1, iv p2, iv p3, iv p4, rv w_EAST, iv (3 : Int32), .unset, rv b334, .unset, .unset, .unset] [(.int ((p2 &&& (255 : Int32)).toUInt32.toUInt16.toUInt32.toInt32)), (.int (1 : Int32)), (.ref b334)]) := by
        intro t k
        refine k339 t ?_
        refine XS.aload X337.here hx rfl (hb hby at_91) rfl rfl ?_
        show Steps p.tables e below (T337.setTop (mkF m 93 #[iv p1, iv p2, iv p3, iv p4, rv w_EAST, iv (3 : Int32), .unset, rv b334, .unset, .unset, .unset] [(.ref b334)])) _
        refine XS.iconst X337.here hx rfl (hb hby at_93) ?_
        show Steps p.tables e below (T337.setTop (mkF m 94 #[iv p1, iv p2, iv p3, iv p4, rv w_EAST, iv (3 : Int32), .unset, rv b334, .unset, .unset, .unset] [(.int (1 : Int32)), (.ref b334)])) _
        refine XS.iloadN X337.here hx rfl (hb hby at_94) rfl ?_
        show Steps p.tables e below (T337.setTop (mkF m 95 #[iv p1, iv p2, iv p3, iv p4, rv w_EAST, iv (3 : Int32), .unset, rv b334, .unset, .unset, .unset] [(.int p2), (.int (1 : Int32)), (.ref b334)])) _
        refine XS.sipush X337.here hx rfl (hb hby at_95) ?_
        show Steps p.tables e below (T337.setTop (mkF m 98 #[iv p1, iv p2, iv p3, iv p4, rv w_EAST, iv (3 : Int32), .unset, rv b334, .unset, .unset, .unset] [(.int (255 : Int32)), (.int p2), (.int (1 : Int32)), (.ref b334)])) _
        refine XS.iand X337.here hx rfl (hb hby at_98) rfl ?_
        show Steps p.tables e below (T337.setTop (mkF m 99 #[iv p1, iv p2, iv p3, iv p4, rv w_EAST, iv (3 : Int32), .unset, rv b334, .unset, .unset, .unset] [(.int (p2 &&& (255 : Int32))), (.int (1 : Int32)), (.ref b334)])) _
        refine XS.i2c X337.here hx rfl (hb hby at_99) rfl ?_
        show Steps p.tables e below (T337.setTop (mkF m 100 #[iv p1, iv p2, iv p3, iv p4, rv w_EAST, iv (3 : Int32), .unset, rv b334, .unset, .unset, .unset] [(.int ((p2 &&& (255 : Int32)).toUInt32.toUInt16.toUInt32.toInt32)), (.int (1 : Int32)), (.ref b334)])) _
        exact k
      obtain ⟨cl341, Ar341, qc341, S341, M341, U341, G341⟩ := id (va337)
      have hin341 : ¬ ((1 : Int32) < 0 ∨ cl341.slots.size ≤ ((1 : Int32)).toNatClampNeg) := inb_of S341 ⟨by decide, by decide⟩
      obtain ⟨T341, h341, X341, e341, W341, st341⟩ := stC X337 hx hZ e337 Ar341 (j := (1 : Int32)) hin341 (g := (mkF m 100 #[iv p1, iv p2, iv p3, iv p4, rv w_EAST, iv (3 : Int32), .unset, rv b334, .unset, .unset, .unset] [(.int ((p2 &&& (255 : Int32)).toUInt32.toUInt16.toUInt32.toInt32)), (.int (1 : Int32)), (.ref b334)])) rfl rfl (hb hby at_100)
      have O341 := O337.wr W341 ge338
      have N341 := Fr.snoc X341 N337 ge338
      have va341 : Arv Z h341 b334 c334 .char (3 : Int32) [(.int (((p1 &&& (255 : Int32)).toUInt32.toUInt16.toUInt32.toInt32).toUInt32.toUInt16.toUInt32.toInt32)), (.int (((p2 &&& (255 : Int32)).toUInt32.toUInt16.toUInt32.toInt32).toUInt32.toUInt16.toUInt32.toInt32)), (.int (0 : Int32))] (.int (0 : Int32)) := Arv.set Ar341 qc341 S341 M341 U341 G341 (fits_nar_char _) W341 1 rfl (Nat.le_of_ble_eq_true rfl)
      have k342 : Way p e below S0 T341 (mkF m 101 #[iv p1, iv p2, iv p3, iv p4, rv w_EAST, iv (3 : Int32), .unset, rv b334, .unset, .unset, .unset] []) := fun t k => k340 t (st341 _ k)
      have k343 : Way p e below S0 T341 (mkF m 110 #[iv p1, iv p2, iv p3, iv p4, rv w_EAST, iv (3 : Int32), .unset, rv b334, .unset, .unset, .unset] [(.int ((p3 &&& (255 : Int32)).toUInt32.toUInt16.toUInt32.toInt32)), (.int (2 : Int32)), (.ref b334)]) := by
        intro t k
        refine k342 t ?_
        refine XS.aload X341.here hx rfl (hb hby at_101) rfl rfl ?_
        show Steps p.tables e below (T341.setTop (mkF m 103 #[iv p1, iv p2, iv p3, iv p4, rv w_EAST, iv (3 : Int32), .unset, rv b334, .unset, .unset, .unset] [(.ref b334)])) _
        refine XS.iconst X341.here hx rfl (hb hby at_103) ?_
        show Steps p.tables e below (T341.setTop (mkF m 104 #[iv p1, iv p2, iv p3, iv p4, rv w_EAST, iv (3 : Int32), .unset, rv b334, .unset, .unset, .unset] [(.int (2 : Int32)), (.ref b334)])) _
        refine XS.iloadN X341.here hx rfl (hb hby at_104) rfl ?_
        show Steps p.tables e below (T341.setTop (mkF m 105 #[iv p1, iv p2, iv p3, iv p4, rv w_EAST, iv (3 : Int32), .unset, rv b334, .unset, .unset, .unset] [(.int p3), (.int (2 : Int32)), (.ref b334)])) _
        refine XS.sipush X341.here hx rfl (hb hby at_105) ?_
        show Steps p.tables e below (T341.setTop (mkF m 108 #[iv p1, iv p2, iv p3, iv p4, rv w_EAST, iv (3 : Int32), .unset, rv b334, .unset, .unset, .unset] [(.int (255 : Int32)), (.int p3), (.int (2 : Int32)), (.ref b334)])) _
        refine XS.iand X341.here hx rfl (hb hby at_108) rfl ?_
        show Steps p.tables e below (T341.setTop (mkF m 109 #[iv p1, iv p2, iv p3, iv p4, rv w_EAST, iv (3 : Int32), .unset, rv b334, .unset, .unset, .unset] [(.int (p3 &&& (255 : Int32))), (.int (2 : Int32)), (.ref b334)])) _
        refine XS.i2c X341.here hx rfl (hb hby at_109) rfl ?_
        show Steps p.tables e below (T341.setTop (mkF m 110 #[iv p1, iv p2, iv p3, iv p4, rv w_EAST, iv (3 : Int32), .unset, rv b334, .unset, .unset, .unset] [(.int ((p3 &&& (255 : Int32)).toUInt32.toUInt16.toUInt32.toInt32)), (.int (2 : Int32)), (.ref b334)])) _
        exact k
      obtain ⟨cl344, Ar344, qc344, S344, M344, U344, G344⟩ := id (va341)
      have hin344 : ¬ ((2 : Int32) < 0 ∨ cl344.slots.size ≤ ((2 : Int32)).toNatClampNeg) := inb_of S344 ⟨by decide, by decide⟩
      obtain ⟨T344, h344, X344, e344, W344, st344⟩ := stC X341 hx hZ e341 Ar344 (j := (2 : Int32)) hin344 (g := (mkF m 110 #[iv p1, iv p2, iv p3, iv p4, rv w_EAST, iv (3 : Int32), .unset, rv b334, .unset, .unset, .unset] [(.int ((p3 &&& (255 : Int32)).toUInt32.toUInt16.toUInt32.toInt32)), (.int (2 : Int32)), (.ref b334)])) rfl rfl (hb hby at_110)
      have O344 := O341.wr W344 ge338
      have N344 := Fr.snoc X344 N341 ge338
      have va344 : Arv Z h344 b334 c334 .char (3 : Int32) [(.int (((p1 &&& (255 : Int32)).toUInt32.toUInt16.toUInt32.toInt32).toUInt32.toUInt16.toUInt32.toInt32)), (.int (((p2 &&& (255 : Int32)).toUInt32.toUInt16.toUInt32.toInt32).toUInt32.toUInt16.toUInt32.toInt32)), (.int (((p3 &&& (255 : Int32)).toUInt32.toUInt16.toUInt32.toInt32).toUInt32.toUInt16.toUInt32.toInt32))] (.int (0 : Int32)) := Arv.set Ar344 qc344 S344 M344 U344 G344 (fits_nar_char _) W344 2 rfl (Nat.le_of_ble_eq_true rfl)
      have k345 : Way p e below S0 T344 (mkF m 111 #[iv p1, iv p2, iv p3, iv p4, rv w_EAST, iv (3 : Int32), .unset, rv b334, .unset, .unset, .unset] []) := fun t k => k343 t (st344 _ k)
      obtain ⟨T346, h346, X346, e346, E346, A346, D346, U346, st346⟩ := newO X344 hx hZ hown (hw _ (List.mem_of_getElem? (i := 46) rfl)) (hw _ (List.mem_of_getElem? (i := 47) rfl)) (hw _ (List.mem_of_getElem? (i := 48) rfl)) e344 (g := (mkF m 111 #[iv p1, iv p2, iv p3, iv p4, rv w_EAST, iv (3 : Int32), .unset, rv b334, .unset, .unset, .unset] [])) rfl (hb hby at_111) (by decide) (by decide)
      obtain ⟨b346, g346⟩ : ∃ z, z = h344.size := ⟨_, rfl⟩
      rw [← g346] at A346 D346 U346 st346
      have O346 := O344.ext E346
      have i346_value : Fld Z h346 b346 "java/lang/String" "value" "[B" .null := D346 (Or.inr (hw _ (List.mem_of_getElem? (i := 60) rfl))) (ty := (.array .byte)) (by decide)
      have i346_coder : Fld Z h346 b346 "java/lang/String" "coder" "B" (.int (0 : Int32)) := D346 (Or.inr (hw _ (List.mem_of_getElem? (i := 61) rfl))) (ty := .byte) (by decide)
      have k347 : Way p e below S0 T346 (mkF m 114 #[iv p1, iv p2, iv p3, iv p4, rv w_EAST, iv (3 : Int32), .unset, rv b334, .unset, .unset, .unset] [(.ref b346)]) := fun t k => k345 t (st346 _ k)
      have k348 : Way p e below S0 T346 (mkF m 117 #[iv p1, iv p2, iv p3, iv p4, rv w_EAST, iv (3 : Int32), .unset, rv b334, .unset, .unset, .unset] [(.ref b334), (.ref b346), (.ref b346)]) := by
        intro t k
        refine k347 t ?_
        refine XS.dup X346.here hx rfl (hb hby at_114) rfl rfl ?_
        show Steps p.tables e below (T346.setTop (mkF m 115 #[iv p1, iv p2, iv p3, iv p4, rv w_EAST, iv (3 : Int32), .unset, rv b334, .unset, .unset, .unset] [(.ref b346), (.ref b346)])) _
        refine XS.aload X346.here hx rfl (hb hby at_115) rfl rfl ?_
        show Steps p.tables e below (T346.setTop (mkF m 117 #[iv p1, iv p2, iv p3, iv p4, rv w_EAST, iv (3 : Int32), .unset, rv b334, .unset, .unset, .unset] [(.ref b334), (.ref b346), (.ref b346)])) _
        exact k
      have ge349 : n0 ≤ b346 := Nat.le_trans (own_old O344) (Nat.le_of_eq g346.symm)
      have f350 : Arv Z h346 b334 c334 .char (3 : Int32) [(.int (((p1 &&& (255 : Int32)).toUInt32.toUInt16.toUInt32.toInt32).toUInt32.toUInt16.toUInt32.toInt32)), (.int (((p2 &&& (255 : Int32)).toUInt32.toUInt16.toUInt32.toInt32).toUInt32.toUInt16.toUInt32.toInt32)), (.int (((p3 &&& (255 : Int32)).toUInt32.toUInt16.toUInt32.toInt32).toUInt32.toUInt16.toUInt32.toInt32))] (.int (0 : Int32)) := (va344.ext E346)
      obtain ⟨_, _, ⟨T351, L351, kk351, nn351⟩, -, X351, ⟨Lc351, hQ351, l351, y351, z351⟩, st351⟩ := X346.specialBack hx (y := (⟨"java/lang/String", "<init>", "([C)V"⟩ : MethodName)) rfl hown (mvT hZ (hw _ (List.mem_of_getElem? (i := 50) rfl))) (mvT hZ (hw _ (List.mem_of_getElem? (i := 51) rfl))) (mvT hZ (hw _ (List.mem_of_getElem? (i := 52) rfl))) (by decide) (backOf (W := 1) (sinit_3 l Z a0 hw [] w_EAST w_WEST wCS G b346 b334 c334 (((p1 &&& (255 : Int32)).toUInt32.toUInt16.toUInt32.toInt32).toUInt32.toUInt16.toUInt32.toInt32) (((p2 &&& (255 : Int32)).toUInt32.toUInt16.toUInt32.toInt32).toUInt32.toUInt16.toUInt32.toInt32) (((p3 &&& (255 : Int32)).toUInt32.toUInt16.toUInt32.toInt32).toUInt32.toUInt16.toUInt32.toInt32) h346 n0 O346 (A346 : Exa Z h346 b346 "java/lang/String") (i346_value : Fld Z h346 b346 "java/lang/String" "value" "[B" .null) (i346_coder : Fld Z h346 b346 "java/lang/String" "coder" "B" (.int (0 : Int32))) (ge349 : n0 ≤ b346) ((Ne.symm (Nat.ne_of_lt (Nat.lt_of_lt_of_le (((B334.wr W337).wr W341).wr W344).lt (Nat.le_of_eq g346.symm)))) : b346 ≠ b334) (f350 : Arv Z h346 b334 c334 .char (3 : Int32) [(.int (((p1 &&& (255 : Int32)).toUInt32.toUInt16.toUInt32.toInt32).toUInt32.toUInt16.toUInt32.toInt32)), (.int (((p2 &&& (255 : Int32)).toUInt32.toUInt16.toUInt32.toInt32).toUInt32.toUInt16.toUInt32.toInt32)), (.int (((p3 &&& (255 : Int32)).toUInt32.toUInt16.toUInt32.toInt32).toUInt32.toUInt16.toUInt32.toInt32))] (.int (0 : Int32))) (own_chr _ : ¬ ((255 : Int32) < (((p1 &&& (255 : Int32)).toUInt32.toUInt16.toUInt32.toInt32).toUInt32.toUInt16.toUInt32.toInt32))) (own_chr _ : ¬ ((255 : Int32) < (((p2 &&& (255 : Int32)).toUInt32.toUInt16.toUInt32.toInt32).toUInt32.toUInt16.toUInt32.toInt32))) (own_chr _ : ¬ ((255 : Int32) < (((p3 &&& (255 : Int32)).toUInt32.toUInt16.toUInt32.toInt32).toUInt32.toUInt16.toUInt32.toInt32)))) hZ (hw _ (List.mem_of_getElem? (i := 52) rfl)) (hw _ (List.mem_of_getElem? (i := 48) rfl)) (by decide) (by decide)) (g := (mkF m 117 #[iv p1, iv p2, iv p3, iv p4, rv w_EAST, iv (3 : Int32), .unset, rv b334, .unset, .unset, .unset] [(.ref b334), (.ref b346), (.ref b346)])) rfl (by rw [hml]; rfl) (Steps.refl _) (a := b346) (argsL := [(.ref b334)]) (rest := [(.ref b346)]) (lenOf pd_14 rfl) rfl (by show 2 * 0 + _ ≤ _; exact Nat.le_of_eq rfl) (hb hby at_117) (fun _ _ => ⟨rfl, e346, (by decide : 2 + 1 ≤ _), (by decide : 7 + 3 ≤ _)⟩)
      dsimp only [Pt.U, Pt.locs, Pt.cells, Pt.slots] at X351 l351 y351 z351 st351 hQ351
      subst l351 y351 z351
      obtain ⟨d1_351, kb_351, rfl, Nq351, Kq351, po351_0, po351_1, po351_2, po351_3, po351_4, po351_5⟩ := hQ351
      have N351 := Fr.app N344 Nq351
      have O351 := O346.keep Kq351 (allS ge349 all0)
      have k352 : Way p e below S0 T351 (mkF m 120 #[iv p1, iv p2, iv p3, iv p4, rv w_EAST, iv (3 : Int32), .unset, rv b334, .unset, .unset, .unset] [(.ref b346)]) := fun t k => k348 t (st351.trans k)
      have k353 : Way p e below S0 T351 (mkF m 122 #[iv p1, iv p2, iv p3, iv p4, rv w_EAST, iv (3 : Int32), rv b346, rv b334, .unset, .unset, .unset] []) := by
        intro t k
        refine k352 t ?_
        refine XS.astore X351.here hx rfl (hb hby at_120) rfl rfl (l' := #[iv p1, iv p2, iv p3, iv p4, rv w_EAST, iv (3 : Int32), rv b346, rv b334, .unset, .unset, .unset]) rfl ?_
        show Steps p.tables e below (T351.setTop (mkF m 122 #[iv p1, iv p2, iv p3, iv p4, rv w_EAST, iv (3 : Int32), rv b346, rv b334, .unset, .unset, .unset] [])) _
        exact k
      obtain ⟨T354, h354, X354, e354, E354, A354, D354, U354, st354⟩ := newO X351 hx hZ hown (hw _ (List.mem_of_getElem? (i := 3) rfl)) (hw _ (List.mem_of_getElem? (i := 4) rfl)) (hw _ (List.mem_of_getElem? (i := 5) rfl)) rfl (g := (mkF m 122 #[iv p1, iv p2, iv p3, iv p4, rv w_EAST, iv (3 : Int32), rv b346, rv b334, .unset, .unset, .unset] [])) rfl (hb hby at_122) (by decide) (by decide)
      obtain ⟨b354, g354⟩ : ∃ z, z = T351.heap.size := ⟨_, rfl⟩
      rw [← g354] at A354 D354 U354 st354
      have O354 := O351.ext E354
      have i354_block : Fld Z h354 b354 "com/example/aspectwise/aspectwise/engine/BlockEnd" "block" "Ljava/lang/String;" .null := D354 (Or.inr (hw _ (List.mem_of_getElem? (i := 18) rfl))) (ty := (.object "java/lang/String")) (by decide)
      have i354_side : Fld Z h354 b354 "com/example/aspectwise/aspectwise/engine/BlockEnd" "side" "Lcom/example/aspectwise/aspectwise/engine/BlockEnd$Side;" .null := D354 (Or.inr (hw _ (List.mem_of_getElem? (i := 20) rfl))) (ty := (.object "com/example/aspectwise/aspectwise/engine/BlockEnd$Side")) (by decide)
      have k355 : Way p e below S0 T354 (mkF m 125 #[iv p1, iv p2, iv p3, iv p4, rv w_EAST, iv (3 : Int32), rv b346, rv b334, .unset, .unset, .unset] [(.ref b354)]) := fun t k => k353 t (st354 _ k)
      have k356 : Way p e below S0 T354 (mkF m 130 #[iv p1, iv p2, iv p3, iv p4, rv w_EAST, iv (3 : Int32), rv b346, rv b334, .unset, .unset, .unset] [(.ref w_EAST), (.ref b346), (.ref b354), (.ref b354)]) := by
        intro t k
        refine k355 t ?_
        refine XS.dup X354.here hx rfl (hb hby at_125) rfl rfl ?_
        show Steps p.tables e below (T354.setTop (mkF m 126 #[iv p1, iv p2, iv p3, iv p4, rv w_EAST, iv (3 : Int32), rv b346, rv b334, .unset, .unset, .unset] [(.ref b354), (.ref b354)])) _
        refine XS.aload X354.here hx rfl (hb hby at_126) rfl rfl ?_
        show Steps p.tables e below (T354.setTop (mkF m 128 #[iv p1, iv p2, iv p3, iv p4, rv w_EAST, iv (3 : Int32), rv b346, rv b334, .unset, .unset, .unset] [(.ref b346), (.ref b354), (.ref b354)])) _
        refine XS.aload X354.here hx rfl (hb hby at_128) rfl rfl ?_
        show Steps p.tables e below (T354.setTop (mkF m 130 #[iv p1, iv p2, iv p3, iv p4, rv w_EAST, iv (3 : Int32), rv b346, rv b334, .unset, .unset, .unset] [(.ref w_EAST), (.ref b346), (.ref b354), (.ref b354)])) _
        exact k
      have ge357 : n0 ≤ b354 := Nat.le_trans (own_old O351) (Nat.le_of_eq g354.symm)
      obtain ⟨_, _, ⟨T358, L358, kk358, nn358⟩, -, X358, ⟨Lc358, hQ358, l358, y358, z358⟩, st358⟩ := X354.specialBack hx (y := (⟨"com/example/aspectwise/aspectwise/engine/BlockEnd", "<init>", "(Ljava/lang/String;Lcom/example/aspectwise/aspectwise/engine/BlockEnd$Side;)V"⟩ : MethodName)) rfl hown (mvT hZ (hw _ (List.mem_of_getElem? (i := 6) rfl))) (mvT hZ (hw _ (List.mem_of_getElem? (i := 7) rfl))) (mvT hZ (hw _ (List.mem_of_getElem? (i := 8) rfl))) (by decide) (backOf (W := 1) (bi1 l Z a0 hw [] w_EAST w_WEST wCS G b354 b346 w_EAST h354 n0 O354 (A354 : Exa Z h354 b354 "com/example/aspectwise/aspectwise/engine/BlockEnd") (i354_block : Fld Z h354 b354 "com/example/aspectwise/aspectwise/engine/BlockEnd" "block" "Ljava/lang/String;" .null) (i354_side : Fld Z h354 b354 "com/example/aspectwise/aspectwise/engine/BlockEnd" "side" "Lcom/example/aspectwise/aspectwise/engine/BlockEnd$Side;" .null) (ge357 : n0 ≤ b354)) hZ (hw _ (List.mem_of_getElem? (i := 8) rfl)) (hw _ (List.mem_of_getElem? (i := 5) rfl)) (by decide) (by decide)) (g := (mkF m 130 #[iv p1, iv p2, iv p3, iv p4, rv w_EAST, iv (3 : Int32), rv b346, rv b334, .unset, .unset, .unset] [(.ref w_EAST), (.ref b346), (.ref b354), (.ref b354)])) rfl (by rw [hml]; rfl) (Steps.refl _) (a := b354) (argsL := [(.ref b346), (.ref w_EAST)]) (rest := [(.ref b354)]) (lenOf pd_8 rfl) rfl (by show 2 * 0 + _ ≤ _; exact Nat.le_of_eq rfl) (hb hby at_130) (fun _ _ => ⟨rfl, e354, (by decide : 4 + 0 ≤ _), (by decide : 12 + 0 ≤ _)⟩)
      dsimp only [Pt.U, Pt.locs, Pt.cells, Pt.slots] at X358 l358 y358 z358 st358 hQ358
      subst l358 y358 z358
      obtain ⟨rfl, Nq358, Kq358, po358_0, po358_1, po358_2⟩ := hQ358
      have N358 := Fr.app N351 Nq358
      have O358 := O354.keep Kq358 (allS ge357 all0)
      have k359 : Way p e below S0 T358 (mkF m 133 #[iv p1, iv p2, iv p3, iv p4, rv w_EAST, iv (3 : Int32), rv b346, rv b334, .unset, .unset, .unset] [(.ref b354)]) := fun t k => k356 t (st358.trans k)
      have k360 : Way p e below S0 T358 (mkF m 137 #[iv p1, iv p2, iv p3, iv p4, rv w_EAST, iv (3 : Int32), rv b346, rv b354, .unset, .unset, .unset] [(.ref b354)]) := by
        intro t k
        refine k359 t ?_
        refine XS.astore X358.here hx rfl (hb hby at_133) rfl rfl (l' := #[iv p1, iv p2, iv p3, iv p4, rv w_EAST, iv (3 : Int32), rv b346, rv b354, .unset, .unset, .unset]) rfl ?_
        show Steps p.tables e below (T358.setTop (mkF m 135 #[iv p1, iv p2, iv p3, iv p4, rv w_EAST, iv (3 : Int32), rv b346, rv b354, .unset, .unset, .unset] [])) _
        refine XS.aload X358.here hx rfl (hb hby at_135) rfl rfl ?_
        show Steps p.tables e below (T358.setTop (mkF m 137 #[iv p1, iv p2, iv p3, iv p4, rv w_EAST, iv (3 : Int32), rv b346, rv b354, .unset, .unset, .unset] [(.ref b354)])) _
        exact k
      obtain ⟨cq361, kq361, qq361a, qq361b, qq361c⟩ := isOf hZ rfl po358_0
      obtain ⟨_, _, ⟨T361, L361, kk361, nn361⟩, -, X361, ⟨Lc361, hQ361, l361, y361, z361⟩, st361⟩ := X358.virtualBack hx (y := (⟨"com/example/aspectwise/aspectwise/engine/BlockEnd", "opposite", "()Lcom/example/aspectwise/aspectwise/engine/BlockEnd;"⟩ : MethodName)) (z := (⟨"com/example/aspectwise/aspectwise/engine/BlockEnd", "opposite", "()Lcom/example/aspectwise/aspectwise/engine/BlockEnd;"⟩ : MethodName)) hown (mvT hZ (hw _ (List.mem_of_getElem? (i := 21) rfl))) (mvT hZ (hw _ (List.mem_of_getElem? (i := 22) rfl))) (notFace_of_selects (args := #[]) (mvT hZ (hw _ (List.mem_of_getElem? (i := 24) rfl)))) (mvT hZ (hw _ (List.mem_of_getElem? (i := 24) rfl))) (mvT hZ (hw _ (List.mem_of_getElem? (i := 23) rfl))) (by decide) (backOf (W := 0) (opp0EAST l Z a0 hw [] w_EAST w_WEST wCS G b354 b346 T358.heap n0 O358 (po358_1 : Fld Z T358.heap b354 "com/example/aspectwise/aspectwise/engine/BlockEnd" "block" "Ljava/lang/String;" (.ref b346)) (po358_2 : Fld Z T358.heap b354 "com/example/aspectwise/aspectwise/engine/BlockEnd" "side" "Lcom/example/aspectwise/aspectwise/engine/BlockEnd$Side;" (.ref w_EAST))) hZ (hw _ (List.mem_of_getElem? (i := 25) rfl)) (hw _ (List.mem_of_getElem? (i := 5) rfl)) (by decide) (by decide)) qq361a qq361c (g := (mkF m 137 #[iv p1, iv p2, iv p3, iv p4, rv w_EAST, iv (3 : Int32), rv b346, rv b354, .unset, .unset, .unset] [(.ref b354)])) rfl (by rw [hml]; rfl) (Steps.refl _) (argsL := []) (rest := []) (lenOf pd_10 rfl) rfl (by show 2 * 0 + _ ≤ _; exact Nat.le_of_eq rfl) (hb hby at_137) (fun _ _ => ⟨rfl, rfl, (by decide : 4 + 1 ≤ _), (by decide : 12 + 2 ≤ _)⟩)
      dsimp only [Pt.U, Pt.locs, Pt.cells, Pt.slots] at X361 l361 y361 z361 st361 hQ361
      subst l361 y361 z361
      obtain ⟨b1_361, rfl, Nq361, Kq361, po361_0, po361_1, po361_2, po361_3⟩ := hQ361
      have N361 := Fr.app N358 Nq361
      have O361 := O358.keep Kq361 all0
      have k362 : Way p e below S0 T361 (mkF m 140 #[iv p1, iv p2, iv p3, iv p4, rv w_EAST, iv (3 : Int32), rv b346, rv b354, .unset, .unset, .unset] [(.ref b1_361)]) := fun t k => k360 t (st361.trans k)
      have k363 : Way p e below S0 T361 (mkF m 151 #[iv p1, iv p2, iv p3, iv p4, rv w_EAST, iv (3 : Int32), rv b346, rv b354, rv b1_361, .unset, .unset] [(.ref w_EAST)]) := by
        intro t k
        refine k362 t ?_
        refine XS.astore X361.here hx rfl (hb hby at_140) rfl rfl (l' := #[iv p1, iv p2, iv p3, iv p4, rv w_EAST, iv (3 : Int32), rv b346, rv b354, rv b1_361, .unset, .unset]) rfl ?_
        show Steps p.tables e below (T361.setTop (mkF m 142 #[iv p1, iv p2, iv p3, iv p4, rv w_EAST, iv (3 : Int32), rv b346, rv b354, rv b1_361, .unset, .unset] [])) _
        refine XS.aload X361.here hx rfl (hb hby at_142) rfl rfl ?_
        show Steps p.tables e below (T361.setTop (mkF m 144 #[iv p1, iv p2, iv p3, iv p4, rv w_EAST, iv (3 : Int32), rv b346, rv b354, rv b1_361, .unset, .unset] [(.ref b1_361)])) _
        refine XS.ifnonnullYes X361.here hx rfl (pc0 := 144) (pc' := 149) rfl (hb hby at_144) rfl (by decide) (by decide) ?_
        show Steps p.tables e below (T361.setTop (mkF m 149 #[iv p1, iv p2, iv p3, iv p4, rv w_EAST, iv (3 : Int32), rv b346, rv b354, rv b1_361, .unset, .unset] [])) _
        refine XS.aload X361.here hx rfl (hb hby at_149) rfl rfl ?_
        show Steps p.tables e below (T361.setTop (mkF m 151 #[iv p1, iv p2, iv p3, iv p4, rv w_EAST, iv (3 : Int32), rv b346, rv b354, rv b1_361, .unset, .unset] [(.ref w_EAST)])) _
        exact k
      obtain ⟨T364, X364, e364, st364⟩ := getS2 X361 hx hZ hown (host := "") (Or.inl (hw _ (List.mem_of_getElem? (i := 0) rfl))) Via.refl rfl (S_w_EAST.ext O361.2) (g := (mkF m 151 #[iv p1, iv p2, iv p3, iv p4, rv w_EAST, iv (3 : Int32), rv b346, rv b354, rv b1_361, .unset, .unset] [(.ref w_EAST)])) rfl (hb hby at_151)
      have k365 : Way p e below S0 T364 (mkF m 154 #[iv p1, iv p2, iv p3, iv p4, rv w_EAST, iv (3 : Int32), rv b346, rv b354, rv b1_361, .unset, .unset] [(.ref w_EAST), (.ref w_EAST)]) := fun t k => k363 t (st364 _ k)
      have k366 : Way p e below S0 T364 (mkF m 157 #[iv p1, iv p2, iv p3, iv p4, rv w_EAST, iv (3 : Int32), rv b346, rv b354, rv b1_361, .unset, .unset] []) := by
        intro t k
        refine k365 t ?_
        refine Jvm.RoadKit.acmp (g := (mkF m 154 #[iv p1, iv p2, iv p3, iv p4, rv w_EAST, iv (3 : Int32), rv b346, rv b354, rv b1_361, .unset, .unset] [(.ref w_EAST), (.ref w_EAST)])) X364 hx rfl rfl rfl (pc0 := 154) (pc' := 157) (same := true) rfl (hb hby at_154) rfl (decide_eq_true rfl) (by decide) (by decide) ?_
        show Steps p.tables e below (T364.setTop (mkF m 157 #[iv p1, iv p2, iv p3, iv p4, rv w_EAST, iv (3 : Int32), rv b346, rv b354, rv b1_361, .unset, .unset] [])) _
        exact k
      obtain ⟨T367, X367, e367, st367⟩ := getS2 X364 hx hZ hown (host := "") (Or.inl (hw _ (List.mem_of_getElem? (i := 31) rfl))) Via.refl e364 (S_w_WEST.ext O361.2) (g := (mkF m 157 #[iv p1, iv p2, iv p3, iv p4, rv w_EAST, iv (3 : Int32), rv b346, rv b354, rv b1_361, .unset, .unset] [])) rfl (hb hby at_157)
      have k368 : Way p e below S0 T367 (mkF m 160 #[iv p1, iv p2, iv p3, iv p4, rv w_EAST, iv (3 : Int32), rv b346, rv b354, rv b1_361, .unset, .unset] [(.ref w_WEST)]) := fun t k => k366 t (st367 _ k)
      have k369 : Way p e below S0 T367 (mkF m 172 #[iv p1, iv p2, iv p3, iv p4, rv w_EAST, iv (3 : Int32), rv b346, rv b354, rv b1_361, rv w_WEST, .unset] [(.ref b1_361)]) := by
        intro t k
        refine k368 t ?_
        refine XS.astore X367.here hx rfl (hb hby at_160) rfl rfl (l' := #[iv p1, iv p2, iv p3, iv p4, rv w_EAST, iv (3 : Int32), rv b346, rv b354, rv b1_361, rv w_WEST, .unset]) rfl ?_
        show Steps p.tables e below (T367.setTop (mkF m 162 #[iv p1, iv p2, iv p3, iv p4, rv w_EAST, iv (3 : Int32), rv b346, rv b354, rv b1_361, rv w_WEST, .unset] [])) _
        refine XS.goto X367.here hx rfl (pc0 := 162) (pc' := 170) rfl (hb hby at_162) (by decide) (by decide) ?_
        show Steps p.tables e below (T367.setTop (mkF m 170 #[iv p1, iv p2, iv p3, iv p4, rv w_EAST, iv (3 : Int32), rv b346, rv b354, rv b1_361, rv w_WEST, .unset] [])) _
        refine XS.aload X367.here hx rfl (hb hby at_170) rfl rfl ?_
        show Steps p.tables e below (T367.setTop (mkF m 172 #[iv p1, iv p2, iv p3, iv p4, rv w_EAST, iv (3 : Int32), rv b346, rv b354, rv b1_361, rv w_WEST, .unset] [(.ref b1_361)])) _
        exact k
      obtain ⟨cq370, kq370, qq370a, qq370b, qq370c⟩ := isOf hZ e367 po361_1
      obtain ⟨_, _, ⟨T370, L370, kk370, nn370⟩, -, X370, ⟨Lc370, hQ370, l370, y370, z370⟩, st370⟩ := X367.virtualBack hx (y := (⟨"com/example/aspectwise/aspectwise/engine/BlockEnd", "side", "()Lcom/example/aspectwise/aspectwise/engine/BlockEnd$Side;"⟩ : MethodName)) (z := (⟨"com/example/aspectwise/aspectwise/engine/BlockEnd", "side", "()Lcom/example/aspectwise/aspectwise/engine/BlockEnd$Side;"⟩ : MethodName)) hown (mvT hZ (hw _ (List.mem_of_getElem? (i := 32) rfl))) (mvT hZ (hw _ (List.mem_of_getElem? (i := 33) rfl))) (notFace_of_selects (args := #[]) (mvT hZ (hw _ (List.mem_of_getElem? (i := 35) rfl)))) (mvT hZ (hw _ (List.mem_of_getElem? (i := 35) rfl))) (mvT hZ (hw _ (List.mem_of_getElem? (i := 34) rfl))) (by decide) (backOf (W := 0) (sid l Z a0 hw [] w_EAST w_WEST wCS G b1_361 w_WEST T361.heap n0 O361 (po361_3 : Fld Z T361.heap b1_361 "com/example/aspectwise/aspectwise/engine/BlockEnd" "side" "Lcom/example/aspectwise/aspectwise/engine/BlockEnd$Side;" (.ref w_WEST))) hZ (hw _ (List.mem_of_getElem? (i := 36) rfl)) (hw _ (List.mem_of_getElem? (i := 5) rfl)) (by decide) (by decide)) qq370a qq370c (g := (mkF m 172 #[iv p1, iv p2, iv p3, iv p4, rv w_EAST, iv (3 : Int32), rv b346, rv b354, rv b1_361, rv w_WEST, .unset] [(.ref b1_361)])) rfl (by rw [hml]; rfl) (Steps.refl _) (argsL := []) (rest := []) (lenOf pd_11 rfl) rfl (by show 2 * 0 + _ ≤ _; exact Nat.le_of_eq rfl) (hb hby at_172) (fun _ _ => ⟨rfl, e367, (by decide : 5 + 0 ≤ _), (by decide : 14 + 0 ≤ _)⟩)
      dsimp only [Pt.U, Pt.locs, Pt.cells, Pt.slots] at X370 l370 y370 z370 st370 hQ370
      subst l370 y370 z370
      obtain ⟨rfl, Nq370, e370⟩ := hQ370
      have N370 := Fr.app N361 Nq370
      have k371 : Way p e below S0 T370 (mkF m 175 #[iv p1, iv p2, iv p3, iv p4, rv w_EAST, iv (3 : Int32), rv b346, rv b354, rv b1_361, rv w_WEST, .unset] [(.ref w_WEST)]) := fun t k => k369 t (st370.trans k)
      have k372 : Way p e below S0 T370 (mkF m 186 #[iv p1, iv p2, iv p3, iv p4, rv w_EAST, iv (3 : Int32), rv b346, rv b354, rv b1_361, rv w_WEST, .unset] [(.ref b1_361), (.ref b346)]) := by
        intro t k
        refine k371 t ?_
        refine XS.aload X370.here hx rfl (hb hby at_175) rfl rfl ?_
        show Steps p.tables e below (T370.setTop (mkF m 177 #[iv p1, iv p2, iv p3, iv p4, rv w_EAST, iv (3 : Int32), rv b346, rv b354, rv b1_361, rv w_WEST, .unset] [(.ref w_WEST), (.ref w_WEST)])) _
        refine Jvm.RoadKit.acmp (g := (mkF m 177 #[iv p1, iv p2, iv p3, iv p4, rv w_EAST, iv (3 : Int32), rv b346, rv b354, rv b1_361, rv w_WEST, .unset] [(.ref w_WEST), (.ref w_WEST)])) X370 hx rfl rfl rfl (pc0 := 177) (pc' := 182) (same := true) rfl (hb hby at_177) rfl (decide_eq_true rfl) (by decide) (by decide) ?_
        show Steps p.tables e below (T370.setTop (mkF m 182 #[iv p1, iv p2, iv p3, iv p4, rv w_EAST, iv (3 : Int32), rv b346, rv b354, rv b1_361, rv w_WEST, .unset] [])) _
        refine XS.aload X370.here hx rfl (hb hby at_182) rfl rfl ?_
        show Steps p.tables e below (T370.setTop (mkF m 184 #[iv p1, iv p2, iv p3, iv p4, rv w_EAST, iv (3 : Int32), rv b346, rv b354, rv b1_361, rv w_WEST, .unset] [(.ref b346)])) _
        refine XS.aload X370.here hx rfl (hb hby at_184) rfl rfl ?_
        show Steps p.tables e below (T370.setTop (mkF m 186 #[iv p1, iv p2, iv p3, iv p4, rv w_EAST, iv (3 : Int32), rv b346, rv b354, rv b1_361, rv w_WEST, .unset] [(.ref b1_361), (.ref b346)])) _
        exact k
      obtain ⟨cq373, kq373, qq373a, qq373b, qq373c⟩ := isOf hZ e370 po361_1
      obtain ⟨_, _, ⟨T373, L373, kk373, nn373⟩, -, X373, ⟨Lc373, hQ373, l373, y373, z373⟩, st373⟩ := X370.virtualBack hx (y := (⟨"com/example/aspectwise/aspectwise/engine/BlockEnd", "block", "()Ljava/lang/String;"⟩ : MethodName)) (z := (⟨"com/example/aspectwise/aspectwise/engine/BlockEnd", "block", "()Ljava/lang/String;"⟩ : MethodName)) hown (mvT hZ (hw _ (List.mem_of_getElem? (i := 37) rfl))) (mvT hZ (hw _ (List.mem_of_getElem? (i := 38) rfl))) (notFace_of_selects (args := #[]) (mvT hZ (hw _ (List.mem_of_getElem? (i := 40) rfl)))) (mvT hZ (hw _ (List.mem_of_getElem? (i := 40) rfl))) (mvT hZ (hw _ (List.mem_of_getElem? (i := 39) rfl))) (by decide) (backOf (W := 1) (blk0 l Z a0 hw [] w_EAST w_WEST wCS G b1_361 b346 T361.heap n0 O361 (po361_2 : Fld Z T361.heap b1_361 "com/example/aspectwise/aspectwise/engine/BlockEnd" "block" "Ljava/lang/String;" (.ref b346))) hZ (hw _ (List.mem_of_getElem? (i := 41) rfl)) (hw _ (List.mem_of_getElem? (i := 5) rfl)) (by decide) (by decide)) qq373a qq373c (g := (mkF m 186 #[iv p1, iv p2, iv p3, iv p4, rv w_EAST, iv (3 : Int32), rv b346, rv b354, rv b1_361, rv w_WEST, .unset] [(.ref b1_361), (.ref b346)])) rfl (by rw [hml]; rfl) (Steps.refl _) (argsL := []) (rest := [(.ref b346)]) (lenOf pd_12 rfl) rfl (by show 2 * 0 + _ ≤ _; exact Nat.le_of_eq rfl) (hb hby at_186) (fun _ _ => ⟨rfl, e370, (by decide : 5 + 0 ≤ _), (by decide : 14 + 0 ≤ _)⟩)
      dsimp only [Pt.U, Pt.locs, Pt.cells, Pt.slots] at X373 l373 y373 z373 st373 hQ373
      subst l373 y373 z373
      obtain ⟨rfl, Nq373, e373⟩ := hQ373
      have N373 := Fr.app N370 Nq373
      have k374 : Way p e below S0 T373 (mkF m 189 #[iv p1, iv p2, iv p3, iv p4, rv w_EAST, iv (3 : Int32), rv b346, rv b354, rv b1_361, rv w_WEST, .unset] [(.ref b346), (.ref b346)]) := fun t k => k372 t (st373.trans k)
      have f375 : Exa Z T361.heap b346 "java/lang/String" := (((po351_1.ext E354).keep Kq358).keep Kq361)
      obtain ⟨_, _, ⟨T376, L376, kk376, nn376⟩, -, X376, ⟨Lc376, hQ376, l376, y376, z376⟩, st376⟩ := Jvm.LawKit.callS X373 hx (y := (⟨"com/example/aspectwise/aspectwise/engine/BlockEndOppositePinLaw", "sameBlock", "(Ljava/lang/String;Ljava/lang/String;)Z"⟩ : MethodName)) hown (mvT hZ (hw _ (List.mem_of_getElem? (i := 42) rfl))) (mvT hZ (hw _ (List.mem_of_getElem? (i := 43) rfl))) (mvT hZ (hw _ (List.mem_of_getElem? (i := 44) rfl))) (mvT hZ (hw _ (List.mem_of_getElem? (i := 45) rfl))) (by decide) (backOf (W := 0) (sb1 l Z a0 hw [] w_EAST w_WEST wCS G b346 T361.heap n0 O361 (f375 : Exa Z T361.heap b346 "java/lang/String")) hZ (hw _ (List.mem_of_getElem? (i := 45) rfl)) (hw _ (List.mem_of_getElem? (i := 44) rfl)) (by decide) (by decide)) (g := (mkF m 189 #[iv p1, iv p2, iv p3, iv p4, rv w_EAST, iv (3 : Int32), rv b346, rv b354, rv b1_361, rv w_WEST, .unset] [(.ref b346), (.ref b346)])) rfl (by rw [hml]; rfl) (argsL := [(.ref b346), (.ref b346)]) (rest := []) (lenOf pd_13 rfl) rfl (by show 2 * 0 + _ ≤ _; exact Nat.le_of_eq rfl) (hb hby at_189) (fun _ _ => ⟨rfl, e373, (by decide : 5 + 0 ≤ _), (by decide : 14 + 0 ≤ _)⟩)
      dsimp only [Pt.U, Pt.locs, Pt.cells, Pt.slots] at X376 l376 y376 z376 st376 hQ376
      subst l376 y376 z376
      obtain ⟨rfl, Nq376, e376⟩ := hQ376
      have N376 := Fr.app N373 Nq376
      have k377 : Way p e below S0 T376 (mkF m 192 #[iv p1, iv p2, iv p3, iv p4, rv w_EAST, iv (3 : Int32), rv b346, rv b354, rv b1_361, rv w_WEST, .unset] [(.int (1 : Int32))]) := fun t k => k374 t (st376 _ k)
      have k378 : Way p e below S0 T376 (mkF m 199 #[iv p1, iv p2, iv p3, iv p4, rv w_EAST, iv (3 : Int32), rv b346, rv b354, rv b1_361, rv w_WEST, .unset] [(.ref b1_361)]) := by
        intro t k
        refine k377 t ?_
        refine XS.ifYes X376.here hx rfl (pc0 := 192) (pc' := 197) rfl (hb hby at_192) rfl ((if0 _ _).trans (feq ((by decide) : ¬ ((1 : Int32) = (0 : Int32)))).2) (by decide) (by decide) ?_
        show Steps p.tables e below (T376.setTop (mkF m 197 #[iv p1, iv p2, iv p3, iv p4, rv w_EAST, iv (3 : Int32), rv b346, rv b354, rv b1_361, rv w_WEST, .unset] [])) _
        refine XS.aload X376.here hx rfl (hb hby at_197) rfl rfl ?_
        show Steps p.tables e below (T376.setTop (mkF m 199 #[iv p1, iv p2, iv p3, iv p4, rv w_EAST, iv (3 : Int32), rv b346, rv b354, rv b1_361, rv w_WEST, .unset] [(.ref b1_361)])) _
        exact k
      obtain ⟨cq379, kq379, qq379a, qq379b, qq379c⟩ := isOf hZ e376 po361_1
      obtain ⟨_, _, ⟨T379, L379, kk379, nn379⟩, -, X379, ⟨Lc379, hQ379, l379, y379, z379⟩, st379⟩ := X376.virtualBack hx (y := (⟨"com/example/aspectwise/aspectwise/engine/BlockEnd", "opposite", "()Lcom/example/aspectwise/aspectwise/engine/BlockEnd;"⟩ : MethodName)) (z := (⟨"com/example/aspectwise/aspectwise/engine/BlockEnd", "opposite", "()Lcom/example/aspectwise/aspectwise/engine/BlockEnd;"⟩ : MethodName)) hown (mvT hZ (hw _ (List.mem_of_getElem? (i := 21) rfl))) (mvT hZ (hw _ (List.mem_of_getElem? (i := 22) rfl))) (notFace_of_selects (args := #[]) (mvT hZ (hw _ (List.mem_of_getElem? (i := 24) rfl)))) (mvT hZ (hw _ (List.mem_of_getElem? (i := 24) rfl))) (mvT hZ (hw _ (List.mem_of_getElem? (i := 23) rfl))) (by decide) (backOf (W := 0) (opp0WEST l Z a0 hw [] w_EAST w_WEST wCS G b1_361 b346 T361.heap n0 O361 (po361_2 : Fld Z T361.heap b1_361 "com/example/aspectwise/aspectwise/engine/BlockEnd" "block" "Ljava/lang/String;" (.ref b346)) (po361_3 : Fld Z T361.heap b1_361 "com/example/aspectwise/aspectwise/engine/BlockEnd" "side" "Lcom/example/aspectwise/aspectwise/engine/BlockEnd$Side;" (.ref w_WEST))) hZ (hw _ (List.mem_of_getElem? (i := 25) rfl)) (hw _ (List.mem_of_getElem? (i := 5) rfl)) (by decide) (by decide)) qq379a qq379c (g := (mkF m 199 #[iv p1, iv p2, iv p3, iv p4, rv w_EAST, iv (3 : Int32), rv b346, rv b354, rv b1_361, rv w_WEST, .unset] [(.ref b1_361)])) rfl (by rw [hml]; rfl) (Steps.refl _) (argsL := []) (rest := []) (lenOf pd_10 rfl) rfl (by show 2 * 0 + _ ≤ _; exact Nat.le_of_eq rfl) (hb hby at_199) (fun _ _ => ⟨rfl, e376, (by decide : 5 + 1 ≤ _), (by decide : 14 + 2 ≤ _)⟩)
      dsimp only [Pt.U, Pt.locs, Pt.cells, Pt.slots] at X379 l379 y379 z379 st379 hQ379
      subst l379 y379 z379
      obtain ⟨b1_379, rfl, Nq379, Kq379, po379_0, po379_1, po379_2, po379_3⟩ := hQ379
      have N379 := Fr.app N376 Nq379
      have O379 := O361.keep Kq379 all0
      have k380 : Way p e below S0 T379 (mkF m 202 #[iv p1, iv p2, iv p3, iv p4, rv w_EAST, iv (3 : Int32), rv b346, rv b354, rv b1_361, rv w_WEST, .unset] [(.ref b1_379)]) := fun t k => k378 t (st379.trans k)
      have k381 : Way p e below S0 T379 (mkF m 213 #[iv p1, iv p2, iv p3, iv p4, rv w_EAST, iv (3 : Int32), rv b346, rv b354, rv b1_361, rv w_WEST, rv b1_379] [(.ref b1_379)]) := by
        intro t k
        refine k380 t ?_
        refine XS.astore X379.here hx rfl (hb hby at_202) rfl rfl (l' := #[iv p1, iv p2, iv p3, iv p4, rv w_EAST, iv (3 : Int32), rv b346, rv b354, rv b1_361, rv w_WEST, rv b1_379]) rfl ?_
        show Steps p.tables e below (T379.setTop (mkF m 204 #[iv p1, iv p2, iv p3, iv p4, rv w_EAST, iv (3 : Int32), rv b346, rv b354, rv b1_361, rv w_WEST, rv b1_379] [])) _
        refine XS.aload X379.here hx rfl (hb hby at_204) rfl rfl ?_
        show Steps p.tables e below (T379.setTop (mkF m 206 #[iv p1, iv p2, iv p3, iv p4, rv w_EAST, iv (3 : Int32), rv b346, rv b354, rv b1_361, rv w_WEST, rv b1_379] [(.ref b1_379)])) _
        refine XS.ifnonnullYes X379.here hx rfl (pc0 := 206) (pc' := 211) rfl (hb hby at_206) rfl (by decide) (by decide) ?_
        show Steps p.tables e below (T379.setTop (mkF m 211 #[iv p1, iv p2, iv p3, iv p4, rv w_EAST, iv (3 : Int32), rv b346, rv b354, rv b1_361, rv w_WEST, rv b1_379] [])) _
        refine XS.aload X379.here hx rfl (hb hby at_211) rfl rfl ?_
        show Steps p.tables e below (T379.setTop (mkF m 213 #[iv p1, iv p2, iv p3, iv p4, rv w_EAST, iv (3 : Int32), rv b346, rv b354, rv b1_361, rv w_WEST, rv b1_379] [(.ref b1_379)])) _
        exact k
      obtain ⟨cq382, kq382, qq382a, qq382b, qq382c⟩ := isOf hZ rfl po379_1
      obtain ⟨_, _, ⟨T382, L382, kk382, nn382⟩, -, X382, ⟨Lc382, hQ382, l382, y382, z382⟩, st382⟩ := X379.virtualBack hx (y := (⟨"com/example/aspectwise/aspectwise/engine/BlockEnd", "side", "()Lcom/example/aspectwise/aspectwise/engine/BlockEnd$Side;"⟩ : MethodName)) (z := (⟨"com/example/aspectwise/aspectwise/engine/BlockEnd", "side", "()Lcom/example/aspectwise/aspectwise/engine/BlockEnd$Side;"⟩ : MethodName)) hown (mvT hZ (hw _ (List.mem_of_getElem? (i := 32) rfl))) (mvT hZ (hw _ (List.mem_of_getElem? (i := 33) rfl))) (notFace_of_selects (args := #[]) (mvT hZ (hw _ (List.mem_of_getElem? (i := 35) rfl)))) (mvT hZ (hw _ (List.mem_of_getElem? (i := 35) rfl))) (mvT hZ (hw _ (List.mem_of_getElem? (i := 34) rfl))) (by decide) (backOf (W := 0) (sid l Z a0 hw [] w_EAST w_WEST wCS G b1_379 w_EAST T379.heap n0 O379 (po379_3 : Fld Z T379.heap b1_379 "com/example/aspectwise/aspectwise/engine/BlockEnd" "side" "Lcom/example/aspectwise/aspectwise/engine/BlockEnd$Side;" (.ref w_EAST))) hZ (hw _ (List.mem_of_getElem? (i := 36) rfl)) (hw _ (List.mem_of_getElem? (i := 5) rfl)) (by decide) (by decide)) qq382a qq382c (g := (mkF m 213 #[iv p1, iv p2, iv p3, iv p4, rv w_EAST, iv (3 : Int32), rv b346, rv b354, rv b1_361, rv w_WEST, rv b1_379] [(.ref b1_379)])) rfl (by rw [hml]; rfl) (Steps.refl _) (argsL := []) (rest := []) (lenOf pd_11 rfl) rfl (by show 2 * 0 + _ ≤ _; exact Nat.le_of_eq rfl) (hb hby at_213) (fun _ _ => ⟨rfl, rfl, (by decide : 6 + 0 ≤ _), (by decide : 16 + 0 ≤ _)⟩)
      dsimp only [Pt.U, Pt.locs, Pt.cells, Pt.slots] at X382 l382 y382 z382 st382 hQ382
      subst l382 y382 z382
      obtain ⟨rfl, Nq382, e382⟩ := hQ382
      have N382 := Fr.app N379 Nq382
      have k383 : Way p e below S0 T382 (mkF m 216 #[iv p1, iv p2, iv p3, iv p4, rv w_EAST, iv (3 : Int32), rv b346, rv b354, rv b1_361, rv w_WEST, rv b1_379] [(.ref w_EAST)]) := fun t k => k381 t (st382.trans k)
      have k384 : Way p e below S0 T382 (mkF m 225 #[iv p1, iv p2, iv p3, iv p4, rv w_EAST, iv (3 : Int32), rv b346, rv b354, rv b1_361, rv w_WEST, rv b1_379] [(.ref b1_379), (.ref b346)]) := by
        intro t k
        refine k383 t ?_
        refine XS.aload X382.here hx rfl (hb hby at_216) rfl rfl ?_
        show Steps p.tables e below (T382.setTop (mkF m 218 #[iv p1, iv p2, iv p3, iv p4, rv w_EAST, iv (3 : Int32), rv b346, rv b354, rv b1_361, rv w_WEST, rv b1_379] [(.ref w_EAST), (.ref w_EAST)])) _
        refine Jvm.RoadKit.acmp (g := (mkF m 218 #[iv p1, iv p2, iv p3, iv p4, rv w_EAST, iv (3 : Int32), rv b346, rv b354, rv b1_361, rv w_WEST, rv b1_379] [(.ref w_EAST), (.ref w_EAST)])) X382 hx rfl rfl rfl (pc0 := 218) (pc' := 221) (same := true) rfl (hb hby at_218) rfl (decide_eq_true rfl) (by decide) (by decide) ?_
        show Steps p.tables e below (T382.setTop (mkF m 221 #[iv p1, iv p2, iv p3, iv p4, rv w_EAST, iv (3 : Int32), rv b346, rv b354, rv b1_361, rv w_WEST, rv b1_379] [])) _
        refine XS.aload X382.here hx rfl (hb hby at_221) rfl rfl ?_
        show Steps p.tables e below (T382.setTop (mkF m 223 #[iv p1, iv p2, iv p3, iv p4, rv w_EAST, iv (3 : Int32), rv b346, rv b354, rv b1_361, rv w_WEST, rv b1_379] [(.ref b346)])) _
        refine XS.aload X382.here hx rfl (hb hby at_223) rfl rfl ?_
        show Steps p.tables e below (T382.setTop (mkF m 225 #[iv p1, iv p2, iv p3, iv p4, rv w_EAST, iv (3 : Int32), rv b346, rv b354, rv b1_361, rv w_WEST, rv b1_379] [(.ref b1_379), (.ref b346)])) _
        exact k
      obtain ⟨cq385, kq385, qq385a, qq385b, qq385c⟩ := isOf hZ e382 po379_1
      obtain ⟨_, _, ⟨T385, L385, kk385, nn385⟩, -, X385, ⟨Lc385, hQ385, l385, y385, z385⟩, st385⟩ := X382.virtualBack hx (y := (⟨"com/example/aspectwise/aspectwise/engine/BlockEnd", "block", "()Ljava/lang/String;"⟩ : MethodName)) (z := (⟨"com/example/aspectwise/aspectwise/engine/BlockEnd", "block", "()Ljava/lang/String;"⟩ : MethodName)) hown (mvT hZ (hw _ (List.mem_of_getElem? (i := 37) rfl))) (mvT hZ (hw _ (List.mem_of_getElem? (i := 38) rfl))) (notFace_of_selects (args := #[]) (mvT hZ (hw _ (List.mem_of_getElem? (i := 40) rfl)))) (mvT hZ (hw _ (List.mem_of_getElem? (i := 40) rfl))) (mvT hZ (hw _ (List.mem_of_getElem? (i := 39) rfl))) (by decide) (backOf (W := 1) (blk0 l Z a0 hw [] w_EAST w_WEST wCS G b1_379 b346 T379.heap n0 O379 (po379_2 : Fld Z T379.heap b1_379 "com/example/aspectwise/aspectwise/engine/BlockEnd" "block" "Ljava/lang/String;" (.ref b346))) hZ (hw _ (List.mem_of_getElem? (i := 41) rfl)) (hw _ (List.mem_of_getElem? (i := 5) rfl)) (by decide) (by decide)) qq385a qq385c (g := (mkF m 225 #[iv p1, iv p2, iv p3, iv p4, rv w_EAST, iv (3 : Int32), rv b346, rv b354, rv b1_361, rv w_WEST, rv b1_379] [(.ref b1_379), (.ref b346)])) rfl (by rw [hml]; rfl) (Steps.refl _) (argsL := []) (rest := [(.ref b346)]) (lenOf pd_12 rfl) rfl (by show 2 * 0 + _ ≤ _; exact Nat.le_of_eq rfl) (hb hby at_225) (fun _ _ => ⟨rfl, e382, (by decide : 6 + 0 ≤ _), (by decide : 16 + 0 ≤ _)⟩)
      dsimp only [Pt.U, Pt.locs, Pt.cells, Pt.slots] at X385 l385 y385 z385 st385 hQ385
      subst l385 y385 z385
      obtain ⟨rfl, Nq385, e385⟩ := hQ385
      have N385 := Fr.app N382 Nq385
      have k386 : Way p e below S0 T385 (mkF m 228 #[iv p1, iv p2, iv p3, iv p4, rv w_EAST, iv (3 : Int32), rv b346, rv b354, rv b1_361, rv w_WEST, rv b1_379] [(.ref b346), (.ref b346)]) := fun t k => k384 t (st385.trans k)
      have f387 : Exa Z T379.heap b346 "java/lang/String" := (f375.keep Kq379)
      obtain ⟨_, _, ⟨T388, L388, kk388, nn388⟩, -, X388, ⟨Lc388, hQ388, l388, y388, z388⟩, st388⟩ := Jvm.LawKit.callS X385 hx (y := (⟨"com/example/aspectwise/aspectwise/engine/BlockEndOppositePinLaw", "sameBlock", "(Ljava/lang/String;Ljava/lang/String;)Z"⟩ : MethodName)) hown (mvT hZ (hw _ (List.mem_of_getElem? (i := 42) rfl))) (mvT hZ (hw _ (List.mem_of_getElem? (i := 43) rfl))) (mvT hZ (hw _ (List.mem_of_getElem? (i := 44) rfl))) (mvT hZ (hw _ (List.mem_of_getElem? (i := 45) rfl))) (by decide) (backOf (W := 0) (sb1 l Z a0 hw [] w_EAST w_WEST wCS G b346 T379.heap n0 O379 (f387 : Exa Z T379.heap b346 "java/lang/String")) hZ (hw _ (List.mem_of_getElem? (i := 45) rfl)) (hw _ (List.mem_of_getElem? (i := 44) rfl)) (by decide) (by decide)) (g := (mkF m 228 #[iv p1, iv p2, iv p3, iv p4, rv w_EAST, iv (3 : Int32), rv b346, rv b354, rv b1_361, rv w_WEST, rv b1_379] [(.ref b346), (.ref b346)])) rfl (by rw [hml]; rfl) (argsL := [(.ref b346), (.ref b346)]) (rest := []) (lenOf pd_13 rfl) rfl (by show 2 * 0 + _ ≤ _; exact Nat.le_of_eq rfl) (hb hby at_228) (fun _ _ => ⟨rfl, e385, (by decide : 6 + 0 ≤ _), (by decide : 16 + 0 ≤ _)⟩)
      dsimp only [Pt.U, Pt.locs, Pt.cells, Pt.slots] at X388 l388 y388 z388 st388 hQ388
      subst l388 y388 z388
      obtain ⟨rfl, Nq388, e388⟩ := hQ388
      have N388 := Fr.app N385 Nq388
      have k389 : Way p e below S0 T388 (mkF m 231 #[iv p1, iv p2, iv p3, iv p4, rv w_EAST, iv (3 : Int32), rv b346, rv b354, rv b1_361, rv w_WEST, rv b1_379] [(.int (1 : Int32))]) := fun t k => k386 t (st388 _ k)
      have k390 : Way p e below S0 T388 (mkF m 239 #[iv p1, iv p2, iv p3, iv p4, rv w_EAST, iv (3 : Int32), rv b346, rv b354, rv b1_361, rv w_WEST, rv b1_379] [(.int (1 : Int32))]) := by
        intro t k
        refine k389 t ?_
        refine XS.ifNo X388.here hx rfl (hb hby at_231) rfl ((if0 _ _).trans (feq ((by decide) : ¬ ((1 : Int32) = (0 : Int32)))).1) ?_
        show Steps p.tables e below (T388.setTop (mkF m 234 #[iv p1, iv p2, iv p3, iv p4, rv w_EAST, iv (3 : Int32), rv b346, rv b354, rv b1_361, rv w_WEST, rv b1_379] [])) _
        refine XS.iconst X388.here hx rfl (hb hby at_234) ?_
        show Steps p.tables e below (T388.setTop (mkF m 235 #[iv p1, iv p2, iv p3, iv p4, rv w_EAST, iv (3 : Int32), rv b346, rv b354, rv b1_361, rv w_WEST, rv b1_379] [(.int (1 : Int32))])) _
        refine XS.goto X388.here hx rfl (pc0 := 235) (pc' := 239) rfl (hb hby at_235) (by decide) (by decide) ?_
        show Steps p.tables e below (T388.setTop (mkF m 239 #[iv p1, iv p2, iv p3, iv p4, rv w_EAST, iv (3 : Int32), rv b346, rv b354, rv b1_361, rv w_WEST, rv b1_379] [(.int (1 : Int32))])) _
        exact k
      obtain ⟨fs, hr, hrun, hended, hRW⟩ := Stand.leaveW (s := s) (vm₁ := s.vm) X388 hS0 (by rw [e388]; exact (Nat.zero_le _)) (v := some (.int (1 : Int32))) (fun h => by rw [Bd.returns] at h; cases h)
      refine ⟨_, _, k390 _ (retN X388 hx (t := .boolean) Bd.returns (by simp) (hb hby at_239) hr), hrun, hended, _, _, rfl, ?_, own_rw hRW (by decide) (by decide)⟩
      show Q_law_met Z w_EAST w_WEST wCS p1 p2 p3 p4 h0 n0 _ T388.heap _
      rw [e388]
      exact ⟨rfl, N388⟩
set_option maxRecDepth 65536 in
set_option maxHeartbeats 40000000 in
theorem comes_1 {Post : Tables → Env → Array Value → State → Outcome → State → Prop} (hpost : ∀ tb e args s v u, (limb_1_1.after args s (.returned v) u = true ∧ limb_1_2.after args s (.returned v) u = true ∧ True) → ReturnedEndW s (.returned v) u (Jvm.fieldLocs frame_1_writes args s ++ Jvm.arrayLocs frame_1_arrays args s ++ Jvm.staticLocs frame_1_statics s) 24 1152 → Post tb e args s (.returned v) u) :
    ArmFor flags0 classFile x code maxLocals ret World_1 tables_1 room_1 Calls_1 rest_1 Pre_1 Post := by
  intro l hfl _ _ p e ha hc hk s m args below hf hA hF happ hP
  obtain ⟨hcalls, hrest, hpre⟩ := hP
  obtain ⟨-, -, -, hnamed, -, -, -, hat⟩ := (Spec.applies_iff hf).mp happ
  obtain ⟨hg, hn⟩ := and_e (Cond.before_iff.mp (show (Jvm.Cond.and given_1 narrow_1).before args s = true from hpre))
  obtain ⟨g1a, g1b⟩ := and_e hg
  obtain ⟨g2a, g2b⟩ := and_e g1b
  obtain ⟨g3a, g3b⟩ := and_e g2b
  obtain ⟨g4a, g4b⟩ := and_e g3b
  obtain ⟨g5a, g5b⟩ := and_e hn
  obtain ⟨g6a, g6b⟩ := and_e g5b
  obtain ⟨g7a, g7b⟩ := and_e g6b
  obtain ⟨w0, w1, w2, w3, rfl⟩ : ∃ w0 w1 w2 w3 : Value, args = #[w0, w1, w2, w3] := by
    have hs : args.size = 4 := by simpa [Cond.value, given_1] using g1a
    obtain ⟨L⟩ := args
    match L, hs with
    | [w0, w1, w2, w3], _ => exact ⟨w0, w1, w2, w3, rfl⟩
  have hw := fun d (hd : d ∈ tables_1) => atoms_spec (ws := Jvm.Cond.code x code maxLocals ret :: tables_1) hat d (List.mem_cons_of_mem _ hd)
  have hfit : Fit s := fun {y c} hc i hi => by
    obtain ⟨ha, rfl⟩ := Array.getElem?_eq_some_iff.mp hc
    have q := List.all_eq_true.mp ((Array.all_eq_true_iff_forall_mem.mp hF) _ (Array.getElem_mem ha)) i (List.mem_range.mpr hi)
    simpa [Array.getElem?_eq_getElem hi] using q
  obtain ⟨hsets, hown0⟩ := atoms_of _ (rest_1_c_eq ▸ (show rest_1_c.before _ s = true from hrest))
  have hr0 := Cond.before_iff.mp hown0
  obtain ⟨i0, ei0⟩ := is_v g2a
  obtain rfl : w0 = (.int i0) := Option.some.inj ei0
  obtain ⟨i1, ei1⟩ := is_v g3a
  obtain rfl : w1 = (.int i1) := Option.some.inj ei1
  obtain ⟨i2, ei2⟩ := is_v g4a
  obtain rfl : w2 = (.int i2) := Option.some.inj ei2
  obtain ⟨i3, ei3⟩ := is_v g4b
  obtain rfl : w3 = (.int i3) := Option.some.inj ei3
  obtain ⟨w_EAST, ev_w_EAST⟩ := exa_v g5a
  have S_w_EAST := Sta.start ev_w_EAST (Or.inr ⟨(hw _ (List.mem_of_getElem? (i := 1) rfl)), (hw _ (List.mem_of_getElem? (i := 2) rfl))⟩)
  have E_w_EAST := Exa.start ev_w_EAST g5a
  obtain ⟨w_WEST, ev_w_WEST⟩ := exa_v g6a
  have S_w_WEST := Sta.start ev_w_WEST (Or.inr ⟨(hw _ (List.mem_of_getElem? (i := 1) rfl)), (hw _ (List.mem_of_getElem? (i := 29) rfl))⟩)
  have E_w_WEST := Exa.start ev_w_WEST g6a
  have F_w_WEST_ordinal := Fld.start (own_eqF ev_w_WEST g7a)
  have F_w_EAST_ordinal := Fld.start (own_eqF ev_w_EAST g7b)
  obtain ⟨wCS, ev_CS⟩ := is_v (Cond.before_iff.mp (hsets _ (List.mem_of_getElem? (i := 1) rfl)))
  have S_CS := Sta.start ev_CS (Or.inl (hsets _ (List.mem_of_getElem? (i := 0) rfl)))
  have hCS : ¬ (wCS = (0 : Int32)) := fun q => by subst q; have u := not_v (Cond.before_iff.mp (hsets _ (List.mem_of_getElem? (i := 2) rfl))); exact absurd u (by rw [eq_i ev_CS (Term.int_eval _) rfl]; decide)
  have G : Gst s w_EAST w_WEST wCS := ⟨S_w_EAST, E_w_EAST, F_w_EAST_ordinal, S_w_WEST, E_w_WEST, F_w_WEST_ordinal, S_CS, hCS⟩
  obtain ⟨n, o, h1, h2, h3, _, L, rfl, ⟨rfl, N⟩, hq⟩ := law_met l s _ hw tables_1 w_EAST w_WEST wCS G i0 i1 i2 i3 s.heap s.heap.size (Old.start s) (own_held hcalls) (hsets _ (List.mem_of_getElem? (i := 2) rfl)) p e ha hc hk s m _ below hf ((Spec.applies_iff_loose hf).mp happ).1 ⟨rfl, State.Warmed39.refl s, rfl, IB.start⟩ trivial
  refine ⟨n, _, h1, h2, h3, hpost _ _ _ _ _ _ ⟨Cond.after_iff.mpr rfl, Cond.after_iff.mpr (eq_i res_at (Term.int_eval (1)) rfl), trivial⟩ ⟨hq.1, hq.2.1, hq.2.2.1, (hq.2.2.2.sift fun y hy => Or.inr (N y hy)).mono (by decide) (by decide)⟩⟩
theorem main_1_1 : Claimed_1_1 := comes_1 fun _ _ _ _ _ _ h hF => ⟨h.1, hF⟩
theorem main_1_2 : Claimed_1_2 := comes_1 fun _ _ _ _ _ _ h hF => ⟨h.2.1, hF⟩
end Jvm.Pilot.@@N@@
namespace Jvm.Pilot.@@N@@
open Jvm Jvm.ClassFile Sem Op Lib Jvm.Free Jvm.Stand Jvm.Pilot.@@N@@.Jvm.D
/-! MADE BY PROGRAM (witnessworld.py) out of the Statement's table words and the real class files: 23 classes; the members and pool entries that the words name. The judged class is class 1, her method 2. -/
namespace start1
open Jvm.ClassFile
def u (s : String) : CpInfo := .utf8 (stringToUtf16 s)
/-- a pool by its gaps: so many unusable entries, then the entry; so many at the end -/
def gap : Nat → List CpInfo → List CpInfo
  | 0, r => r
  | n + 1, r => .unusable :: gap n r
def poolList (es : List (Nat × CpInfo)) (last : Nat) : List CpInfo := es.foldr (fun e r => gap e.1 (e.2 :: r)) (gap last [])
def pool (es : List (Nat × CpInfo)) (last : Nat) : Array CpInfo := ⟨poolList es last⟩
def fileOf (pool : Array CpInfo) (this : Nat) (attrs : Array Attribute := #[]) (ms : Array MethodInfo := #[]) (fl : Nat := 33) (sup : Nat := 0) (ifs : Array Nat := #[]) (fds : Array FieldInfo := #[]) : ClassFile where
  minorVersion := 0
  majorVersion := 65
  constantPool := pool
  accessFlags := fl
  thisClass := this
  superClass := sup
  interfaces := ifs
  fields := fds
  methods := ms
  attributes := attrs
def plain (name : String) (sup : Option ClassId) : Class where
  name := name
  kind := .ordinary
  loader := none
  accessFlags := 33
  super := sup
  interfaces := #[]
  cf := none
  fields := #[]
  methods := #[]
  instanceTypes := #[]
  staticTypes := #[]
  resolved := #[]
  callSites := []
  init := .initialized
  statics := none
  mirror := none

def pool0 : Array CpInfo := pool [(5, u "<init>"), (0, u "()V"), (1, .class_ 10), (1, u "java/lang/Object")] 113

def k0c0 : Code := { maxStack := 0, maxLocals := 1, code := object_method_1_code, exceptionTable := #[], attributes := #[] }
def k0m0 : Method := { name := "<init>", desc := "()V", sig := { parameters := [], returnType := none }, accessFlags := 1, code := some k0c0 }
/-- java/lang/Object -/
def k0 : Class := { plain "java/lang/Object" none with
  accessFlags := 33
  interfaces := #[]
  cf := some (fileOf pool0 8 #[] #[{ accessFlags := 1, nameIndex := 5, descriptorIndex := 6, attributes := #[] }] 33 0 #[] #[])
  fields := #[]
  methods := #[k0m0]
  instanceTypes := #[]
  staticTypes := #[]
  resolved := Array.replicate 124 none
  statics := none }

def pool1 : Array CpInfo := pool [(2, .class_ 4), (1, u "java/lang/Object"), (0, u "<init>"), (0, u "()V"), (0, .methodref 8 9), (0, .class_ 10), (0, .nameAndType 11 12), (0, u "java/lang/String"), (0, u "equals"), (0, u "(Ljava/lang/Object;)Z"), (0, .fieldref 14 15), (0, .class_ 16), (0, .nameAndType 17 18), (0, u "com/example/aspectwise/aspectwise/engine/BlockEnd$Side"), (0, u "EAST"), (0, u "Lcom/example/aspectwise/aspectwise/engine/BlockEnd$Side;"), (0, .fieldref 14 20), (0, .nameAndType 21 18), (0, u "WEST"), (0, .methodref 8 23), (0, .nameAndType 5 24), (0, u "([C)V"), (0, .methodref 8 26), (0, .nameAndType 27 28), (0, u "valueOf"), (0, u "(C)Ljava/lang/String;"), (0, .class_ 30), (0, u "com/example/aspectwise/aspectwise/engine/BlockEnd"), (0, .methodref 29 32), (0, .nameAndType 5 33), (0, u "(Ljava/lang/String;Lcom/example/aspectwise/aspectwise/engine/BlockEnd$Side;)V"), (0, .methodref 29 35), (0, .nameAndType 36 37), (0, u "opposite"), (0, u "()Lcom/example/aspectwise/aspectwise/engine/BlockEnd;"), (0, .methodref 29 39), (0, .nameAndType 40 41), (0, u "side"), (0, u "()Lcom/example/aspectwise/aspectwise/engine/BlockEnd$Side;"), (0, .methodref 29 43), (0, .nameAndType 44 45), (0, u "block"), (0, u "()Ljava/lang/String;"), (0, .methodref 47 48), (0, .class_ 49), (0, .nameAndType 50 51), (0, u "com/example/aspectwise/aspectwise/engine/BlockEndOppositePinLaw"), (0, u "sameBlock"), (0, u "(Ljava/lang/String;Ljava/lang/String;)Z"), (3, u "law"), (0, u "(IIII)Z")] 4

def k1m0 : Method := { name := "<init>", desc := "()V", sig := { parameters := [], returnType := none }, accessFlags := 1, code := none }
def k1c1 : Code := { maxStack := 2, maxLocals := 2, code := method_2_code, exceptionTable := #[], attributes := #[] }
def k1m1 : Method := { name := "sameBlock", desc := "(Ljava/lang/String;Ljava/lang/String;)Z", sig := { parameters := [(.object "java/lang/String"), (.object "java/lang/String")], returnType := some .boolean }, accessFlags := 10, code := some k1c1 }
def k1c2 : Code := { maxStack := 4, maxLocals := 11, code := code, exceptionTable := #[], attributes := #[] }
def k1m2 : Method := { name := "law", desc := "(IIII)Z", sig := { parameters := [.int, .int, .int, .int], returnType := some .boolean }, accessFlags := 9, code := some k1c2 }
/-- com/example/aspectwise/aspectwise/engine/BlockEndOppositePinLaw -/
def k1 : Class := { plain "com/example/aspectwise/aspectwise/engine/BlockEndOppositePinLaw" (some 0) with
  accessFlags := 49
  interfaces := #[]
  cf := some (fileOf pool1 47 #[] #[{ accessFlags := 1, nameIndex := 5, descriptorIndex := 6, attributes := #[] }, { accessFlags := 10, nameIndex := 50, descriptorIndex := 51, attributes := #[] }, { accessFlags := 9, nameIndex := 55, descriptorIndex := 56, attributes := #[] }] 49 2 #[] #[])
  fields := #[]
  methods := #[k1m0, k1m1, k1m2]
  instanceTypes := #[]
  staticTypes := #[]
  resolved := Array.replicate 61 none
  statics := none }

def pool2 : Array CpInfo := pool [(1, .class_ 2), (0, u "java/lang/constant/Constable"), (0, .class_ 4), (0, u "java/lang/Object")] 6

/-- java/lang/constant/Constable -/
def k2 : Class := { plain "java/lang/constant/Constable" (some 0) with
  accessFlags := 1537
  interfaces := #[]
  cf := some (fileOf pool2 1 #[] #[] 1537 3 #[] #[])
  fields := #[]
  methods := #[]
  instanceTypes := #[]
  staticTypes := #[]
  resolved := Array.replicate 11 none
  statics := none }

def pool3 : Array CpInfo := pool [(1, .class_ 2), (0, u "java/lang/Comparable"), (0, .class_ 4), (0, u "java/lang/Object")] 7

/-- java/lang/Comparable -/
def k3 : Class := { plain "java/lang/Comparable" (some 0) with
  accessFlags := 1537
  interfaces := #[]
  cf := some (fileOf pool3 1 #[] #[] 1537 3 #[] #[])
  fields := #[]
  methods := #[]
  instanceTypes := #[]
  staticTypes := #[]
  resolved := Array.replicate 12 none
  statics := none }

def pool4 : Array CpInfo := pool [(1, .class_ 2), (0, u "java/io/Serializable"), (0, .class_ 4), (0, u "java/lang/Object")] 2

/-- java/io/Serializable -/
def k4 : Class := { plain "java/io/Serializable" (some 0) with
  accessFlags := 1537
  interfaces := #[]
  cf := some (fileOf pool4 1 #[] #[] 1537 3 #[] #[])
  fields := #[]
  methods := #[]
  instanceTypes := #[]
  staticTypes := #[]
  resolved := Array.replicate 7 none
  statics := none }

def pool5 : Array CpInfo := pool [(2, .class_ 4), (1, u "java/lang/Enum"), (0, u "name"), (0, u "Ljava/lang/String;"), (2, u "ordinal"), (0, u "I"), (1, .class_ 14), (1, u "java/lang/Object"), (4, u "hash"), (86, .class_ 108), (1, u "java/lang/Enum$EnumDesc"), (2, .class_ 112), (0, u "java/lang/constant/Constable"), (0, .class_ 114), (0, u "java/lang/Comparable"), (0, .class_ 116), (0, u "java/io/Serializable")] 87

/-- java/lang/Enum -/
def k5 : Class := { plain "java/lang/Enum" (some 0) with
  accessFlags := 1057
  interfaces := #[2, 3, 4]
  cf := some (fileOf pool5 2 #[.nestMembers #[106]] #[] 1057 12 #[111, 113, 115] #[{ accessFlags := 18, nameIndex := 5, descriptorIndex := 6, attributes := #[] }, { accessFlags := 18, nameIndex := 9, descriptorIndex := 10, attributes := #[] }, { accessFlags := 2, nameIndex := 19, descriptorIndex := 10, attributes := #[] }])
  fields := #[{ name := "name", type := (.object "java/lang/String"), accessFlags := 18, slot := 0, constantValue := 0 }, { name := "ordinal", type := .int, accessFlags := 18, slot := 1, constantValue := 0 }, { name := "hash", type := .int, accessFlags := 2, slot := 2, constantValue := 0 }]
  methods := #[]
  instanceTypes := #[(.object "java/lang/String"), .int, .int]
  staticTypes := #[]
  resolved := Array.replicate 204 none
  statics := none }

def pool6 : Array CpInfo := pool [(1, .class_ 2), (0, u "com/example/aspectwise/aspectwise/engine/BlockEnd$Side"), (2, u "EAST"), (0, u "Lcom/example/aspectwise/aspectwise/engine/BlockEnd$Side;"), (2, u "WEST"), (2, u "$VALUES"), (0, u "[Lcom/example/aspectwise/aspectwise/engine/BlockEnd$Side;"), (6, .class_ 22), (1, u "java/lang/Enum"), (8, u "word"), (0, u "Ljava/lang/String;"), (28, .class_ 62), (0, u "com/example/aspectwise/aspectwise/engine/BlockEnd")] 2

/-- com/example/aspectwise/aspectwise/engine/BlockEnd$Side -/
def k6 : Class := { plain "com/example/aspectwise/aspectwise/engine/BlockEnd$Side" (some 5) with
  accessFlags := 16433
  interfaces := #[]
  cf := some (fileOf pool6 1 #[.nestHost 61] #[] 16433 20 #[] #[{ accessFlags := 16409, nameIndex := 5, descriptorIndex := 6, attributes := #[] }, { accessFlags := 16409, nameIndex := 9, descriptorIndex := 6, attributes := #[] }, { accessFlags := 18, nameIndex := 31, descriptorIndex := 32, attributes := #[] }, { accessFlags := 4122, nameIndex := 12, descriptorIndex := 13, attributes := #[] }])
  fields := #[{ name := "EAST", type := (.object "com/example/aspectwise/aspectwise/engine/BlockEnd$Side"), accessFlags := 16409, slot := 0, constantValue := 0 }, { name := "WEST", type := (.object "com/example/aspectwise/aspectwise/engine/BlockEnd$Side"), accessFlags := 16409, slot := 1, constantValue := 0 }, { name := "word", type := (.object "java/lang/String"), accessFlags := 18, slot := 3, constantValue := 0 }, { name := "$VALUES", type := (.array (.object "com/example/aspectwise/aspectwise/engine/BlockEnd$Side")), accessFlags := 4122, slot := 2, constantValue := 0 }]
  methods := #[]
  instanceTypes := #[(.object "java/lang/String"), .int, .int, (.object "java/lang/String")]
  staticTypes := #[(.object "com/example/aspectwise/aspectwise/engine/BlockEnd$Side"), (.object "com/example/aspectwise/aspectwise/engine/BlockEnd$Side"), (.array (.object "com/example/aspectwise/aspectwise/engine/BlockEnd$Side"))]
  resolved := Array.replicate 65 none
  statics := some 0 }

def pool7 : Array CpInfo := pool [(1, .methodref 2 3), (0, .class_ 4), (0, .nameAndType 5 6), (0, u "java/lang/Object"), (0, u "<init>"), (0, u "()V"), (0, .class_ 8), (0, u "java/lang/Record")] 13

def k7c0 : Code := { maxStack := 1, maxLocals := 1, code := jdk_30_method_1_code, exceptionTable := #[], attributes := #[] }
def k7m0 : Method := { name := "<init>", desc := "()V", sig := { parameters := [], returnType := none }, accessFlags := 4, code := some k7c0 }
/-- java/lang/Record -/
def k7 : Class := { plain "java/lang/Record" (some 0) with
  accessFlags := 1057
  interfaces := #[]
  cf := some (fileOf pool7 7 #[] #[{ accessFlags := 4, nameIndex := 5, descriptorIndex := 6, attributes := #[] }] 1057 2 #[] #[])
  fields := #[]
  methods := #[k7m0]
  instanceTypes := #[]
  staticTypes := #[]
  resolved := Array.replicate 22 none
  statics := none }

def pool8 : Array CpInfo := pool [(1, .methodref 2 3), (0, .class_ 4), (0, .nameAndType 5 6), (0, u "java/lang/Record"), (0, u "<init>"), (0, u "()V"), (0, .fieldref 8 9), (0, .class_ 10), (0, .nameAndType 11 12), (0, u "com/example/aspectwise/aspectwise/engine/BlockEnd"), (0, u "block"), (0, u "Ljava/lang/String;"), (0, .fieldref 8 14), (0, .nameAndType 15 16), (0, u "side"), (0, u "Lcom/example/aspectwise/aspectwise/engine/BlockEnd$Side;"), (11, .class_ 30), (1, u "com/example/aspectwise/aspectwise/engine/BlockEnd$Side"), (12, .methodref 8 44), (0, .nameAndType 5 45), (0, u "(Ljava/lang/String;Lcom/example/aspectwise/aspectwise/engine/BlockEnd$Side;)V"), (0, .fieldref 28 47), (0, .nameAndType 48 16), (0, u "EAST"), (0, .fieldref 28 50), (0, .nameAndType 51 16), (0, u "WEST"), (23, u "opposite"), (0, u "()Lcom/example/aspectwise/aspectwise/engine/BlockEnd;"), (1, u "()Ljava/lang/String;"), (1, u "()Lcom/example/aspectwise/aspectwise/engine/BlockEnd$Side;")] 31

def k8c0 : Code := { maxStack := 2, maxLocals := 3, code := prog_23_method_1_code, exceptionTable := #[], attributes := #[] }
def k8m0 : Method := { name := "<init>", desc := "(Ljava/lang/String;Lcom/example/aspectwise/aspectwise/engine/BlockEnd$Side;)V", sig := { parameters := [(.object "java/lang/String"), (.object "com/example/aspectwise/aspectwise/engine/BlockEnd$Side")], returnType := none }, accessFlags := 1, code := some k8c0 }
def k8c1 : Code := { maxStack := 5, maxLocals := 1, code := prog_23_method_3_code, exceptionTable := #[], attributes := #[] }
def k8m1 : Method := { name := "opposite", desc := "()Lcom/example/aspectwise/aspectwise/engine/BlockEnd;", sig := { parameters := [], returnType := some (.object "com/example/aspectwise/aspectwise/engine/BlockEnd") }, accessFlags := 1, code := some k8c1 }
def k8c2 : Code := { maxStack := 1, maxLocals := 1, code := prog_23_method_7_code, exceptionTable := #[], attributes := #[] }
def k8m2 : Method := { name := "block", desc := "()Ljava/lang/String;", sig := { parameters := [], returnType := some (.object "java/lang/String") }, accessFlags := 1, code := some k8c2 }
def k8c3 : Code := { maxStack := 1, maxLocals := 1, code := prog_23_method_8_code, exceptionTable := #[], attributes := #[] }
def k8m3 : Method := { name := "side", desc := "()Lcom/example/aspectwise/aspectwise/engine/BlockEnd$Side;", sig := { parameters := [], returnType := some (.object "com/example/aspectwise/aspectwise/engine/BlockEnd$Side") }, accessFlags := 1, code := some k8c3 }
/-- com/example/aspectwise/aspectwise/engine/BlockEnd -/
def k8 : Class := { plain "com/example/aspectwise/aspectwise/engine/BlockEnd" (some 7) with
  accessFlags := 49
  interfaces := #[]
  cf := some (fileOf pool8 8 #[.nestMembers #[28]] #[{ accessFlags := 1, nameIndex := 5, descriptorIndex := 45, attributes := #[] }, { accessFlags := 1, nameIndex := 75, descriptorIndex := 76, attributes := #[] }, { accessFlags := 1, nameIndex := 11, descriptorIndex := 78, attributes := #[] }, { accessFlags := 1, nameIndex := 15, descriptorIndex := 80, attributes := #[] }] 49 2 #[] #[{ accessFlags := 18, nameIndex := 11, descriptorIndex := 12, attributes := #[] }, { accessFlags := 18, nameIndex := 15, descriptorIndex := 16, attributes := #[] }])
  fields := #[{ name := "block", type := (.object "java/lang/String"), accessFlags := 18, slot := 0, constantValue := 0 }, { name := "side", type := (.object "com/example/aspectwise/aspectwise/engine/BlockEnd$Side"), accessFlags := 18, slot := 1, constantValue := 0 }]
  methods := #[k8m0, k8m1, k8m2, k8m3]
  instanceTypes := #[(.object "java/lang/String"), (.object "com/example/aspectwise/aspectwise/engine/BlockEnd$Side")]
  staticTypes := #[]
  resolved := Array.replicate 112 none
  statics := none }

def pool9 : Array CpInfo := pool [(2, .class_ 4), (1, u "java/lang/CharSequence"), (42, .class_ 48), (0, u "java/lang/CharSequence$1CodePointIterator"), (10, .class_ 60), (0, u "java/lang/CharSequence$1CharIterator"), (5, .class_ 67), (0, u "java/lang/Object")] 63

/-- java/lang/CharSequence -/
def k9 : Class := { plain "java/lang/CharSequence" (some 0) with
  accessFlags := 1537
  interfaces := #[]
  cf := some (fileOf pool9 2 #[.nestMembers #[47, 59]] #[] 1537 66 #[] #[])
  fields := #[]
  methods := #[]
  instanceTypes := #[]
  staticTypes := #[]
  resolved := Array.replicate 131 none
  statics := none }

def pool10 : Array CpInfo := pool [(1, .class_ 2), (0, u "java/lang/constant/ConstantDesc"), (0, .class_ 4), (0, u "java/lang/Object")] 32

/-- java/lang/constant/ConstantDesc -/
def k10 : Class := { plain "java/lang/constant/ConstantDesc" (some 0) with
  accessFlags := 1537
  interfaces := #[]
  cf := some (fileOf pool10 1 #[] #[] 1537 3 #[] #[])
  fields := #[]
  methods := #[]
  instanceTypes := #[]
  staticTypes := #[]
  resolved := Array.replicate 37 none
  statics := none }

def pool11 : Array CpInfo := pool [(1, .methodref 2 3), (0, .class_ 4), (0, .nameAndType 5 6), (0, u "java/lang/Object"), (0, u "<init>"), (0, u "()V"), (0, .string 8), (0, u ""), (0, .fieldref 10 11), (0, .class_ 12), (0, .nameAndType 13 14), (0, u "java/lang/String"), (0, u "value"), (0, u "[B"), (0, .fieldref 10 16), (0, .nameAndType 17 18), (0, u "coder"), (0, u "B"), (2, u "hash"), (0, u "I"), (2, u "hashIsZero"), (0, u "Z"), (0, .methodref 10 28), (0, .nameAndType 5 29), (0, u "([CIILjava/lang/Void;)V"), (8, .fieldref 10 39), (0, .nameAndType 40 26), (0, u "COMPACT_STRINGS"), (1, .class_ 44), (1, u "java/lang/StringUTF16"), (0, u "compress"), (1, .methodref 42 48), (0, .nameAndType 49 50), (0, u "coderFromArrayLen"), (0, u "([BI)B"), (2, u "toBytes"), (53, .class_ 109), (1, u "java/lang/StringLatin1"), (67, .methodref 42 178), (0, .nameAndType 45 179), (0, u "([CII)[B"), (29, .methodref 10 210), (0, .nameAndType 5 211), (0, u "([BB)V"), (157, u "(C)Z"), (173, u "equals"), (29, u "(Ljava/lang/Object;)Z"), (1, .class_ 576), (0, u "java/lang/CharSequence"), (22, u "CASE_INSENSITIVE_ORDER"), (0, u "Ljava/util/Comparator;"), (181, u "valueOf"), (0, u "(C)Ljava/lang/String;"), (226, u "([C)V"), (4, .methodref 107 1016), (0, .nameAndType 1017 369), (0, u "canEncode"), (0, .methodref 107 1019), (0, .nameAndType 53 1020), (0, u "(C)[B"), (80, u "serialPersistentFields"), (0, u "[Ljava/io/ObjectStreamField;"), (0, .class_ 1104), (0, u "java/lang/String$CaseInsensitiveComparator"), (1, .class_ 1107), (0, u "java/io/Serializable"), (0, .class_ 1109), (0, u "java/lang/Comparable"), (0, .class_ 1111), (0, u "java/lang/constant/Constable"), (0, .class_ 1113), (0, u "java/lang/constant/ConstantDesc"), (2, u "serialVersionUID"), (0, u "J"), (3, u "REPL"), (0, u "C"), (2, u "LATIN1"), (1, u "UTF16")] 323

def k11m0 : Method := { name := "<init>", desc := "()V", sig := { parameters := [], returnType := none }, accessFlags := 1, code := none }
def k11c1 : Code := { maxStack := 5, maxLocals := 2, code := jdk_42_method_3_code, exceptionTable := #[], attributes := #[] }
def k11m1 : Method := { name := "<init>", desc := "([C)V", sig := { parameters := [(.array .char)], returnType := none }, accessFlags := 1, code := some k11c1 }
def k11c2 : Code := { maxStack := 2, maxLocals := 3, code := jdk_42_method_66_code, exceptionTable := #[], attributes := #[] }
def k11m2 : Method := { name := "equals", desc := "(Ljava/lang/Object;)Z", sig := { parameters := [(.object "java/lang/Object")], returnType := some .boolean }, accessFlags := 1, code := some k11c2 }
def k11c3 : Code := { maxStack := 4, maxLocals := 1, code := jdk_42_method_139_code, exceptionTable := #[], attributes := #[] }
def k11m3 : Method := { name := "valueOf", desc := "(C)Ljava/lang/String;", sig := { parameters := [.char], returnType := some (.object "java/lang/String") }, accessFlags := 9, code := some k11c3 }
def k11c4 : Code := { maxStack := 4, maxLocals := 6, code := jdk_42_method_149_code, exceptionTable := #[], attributes := #[] }
def k11m4 : Method := { name := "<init>", desc := "([CIILjava/lang/Void;)V", sig := { parameters := [(.array .char), .int, .int, (.object "java/lang/Void")], returnType := none }, accessFlags := 2, code := some k11c4 }
def k11c5 : Code := { maxStack := 2, maxLocals := 3, code := jdk_42_method_151_code, exceptionTable := #[], attributes := #[] }
def k11m5 : Method := { name := "<init>", desc := "([BB)V", sig := { parameters := [(.array .byte), .byte], returnType := none }, accessFlags := 0, code := some k11c5 }
/-- java/lang/String -/
def k11 : Class := { plain "java/lang/String" (some 0) with
  accessFlags := 49
  interfaces := #[4, 3, 9, 2, 10]
  cf := some (fileOf pool11 10 #[.nestMembers #[1103]] #[{ accessFlags := 1, nameIndex := 5, descriptorIndex := 6, attributes := #[] }, { accessFlags := 1, nameIndex := 5, descriptorIndex := 1010, attributes := #[] }, { accessFlags := 1, nameIndex := 543, descriptorIndex := 573, attributes := #[] }, { accessFlags := 9, nameIndex := 782, descriptorIndex := 783, attributes := #[] }, { accessFlags := 2, nameIndex := 5, descriptorIndex := 29, attributes := #[] }, { accessFlags := 0, nameIndex := 5, descriptorIndex := 211, attributes := #[] }] 49 2 #[1106, 1108, 575, 1110, 1112] #[{ accessFlags := 18, nameIndex := 13, descriptorIndex := 14, attributes := #[] }, { accessFlags := 18, nameIndex := 17, descriptorIndex := 18, attributes := #[] }, { accessFlags := 2, nameIndex := 21, descriptorIndex := 22, attributes := #[] }, { accessFlags := 2, nameIndex := 25, descriptorIndex := 26, attributes := #[] }, { accessFlags := 26, nameIndex := 1116, descriptorIndex := 1117, attributes := #[] }, { accessFlags := 24, nameIndex := 40, descriptorIndex := 26, attributes := #[] }, { accessFlags := 26, nameIndex := 1101, descriptorIndex := 1102, attributes := #[] }, { accessFlags := 26, nameIndex := 1121, descriptorIndex := 1122, attributes := #[] }, { accessFlags := 25, nameIndex := 599, descriptorIndex := 600, attributes := #[] }, { accessFlags := 24, nameIndex := 1125, descriptorIndex := 18, attributes := #[] }, { accessFlags := 24, nameIndex := 1127, descriptorIndex := 18, attributes := #[] }])
  fields := #[{ name := "value", type := (.array .byte), accessFlags := 18, slot := 0, constantValue := 0 }, { name := "coder", type := .byte, accessFlags := 18, slot := 1, constantValue := 0 }, { name := "hash", type := .int, accessFlags := 2, slot := 2, constantValue := 0 }, { name := "hashIsZero", type := .boolean, accessFlags := 2, slot := 3, constantValue := 0 }, { name := "serialVersionUID", type := .long, accessFlags := 26, slot := 0, constantValue := 0 }, { name := "COMPACT_STRINGS", type := .boolean, accessFlags := 24, slot := 1, constantValue := 0 }, { name := "serialPersistentFields", type := (.array (.object "java/io/ObjectStreamField")), accessFlags := 26, slot := 2, constantValue := 0 }, { name := "REPL", type := .char, accessFlags := 26, slot := 3, constantValue := 0 }, { name := "CASE_INSENSITIVE_ORDER", type := (.object "java/util/Comparator"), accessFlags := 25, slot := 4, constantValue := 0 }, { name := "LATIN1", type := .byte, accessFlags := 24, slot := 5, constantValue := 0 }, { name := "UTF16", type := .byte, accessFlags := 24, slot := 6, constantValue := 0 }]
  methods := #[k11m0, k11m1, k11m2, k11m3, k11m4, k11m5]
  instanceTypes := #[(.array .byte), .byte, .int, .boolean]
  staticTypes := #[.long, .boolean, (.array (.object "java/io/ObjectStreamField")), .char, (.object "java/util/Comparator"), .byte, .byte]
  resolved := Array.replicate 1451 none
  statics := some 1 }

def pool12 : Array CpInfo := pool [(4, .class_ 6), (1, u "java/lang/Object"), (0, u "<init>"), (0, u "()V"), (5, .class_ 16), (1, u "java/lang/StringLatin1"), (73, u "canEncode"), (14, u "(C)Z"), (15, u "$assertionsDisabled"), (0, u "Z"), (98, .class_ 223), (1, u "java/lang/StringLatin1$LinesSpliterator"), (156, u "toBytes"), (1, u "(C)[B"), (7, .class_ 391), (0, u "java/lang/StringLatin1$CharsSpliterator")] 3

def k12m0 : Method := { name := "<init>", desc := "()V", sig := { parameters := [], returnType := none }, accessFlags := 0, code := none }
def k12c1 : Code := { maxStack := 2, maxLocals := 1, code := jdk_43_method_3_code, exceptionTable := #[], attributes := #[] }
def k12m1 : Method := { name := "canEncode", desc := "(C)Z", sig := { parameters := [.char], returnType := some .boolean }, accessFlags := 9, code := some k12c1 }
def k12c2 : Code := { maxStack := 4, maxLocals := 1, code := jdk_43_method_46_code, exceptionTable := #[], attributes := #[] }
def k12m2 : Method := { name := "toBytes", desc := "(C)[B", sig := { parameters := [.char], returnType := some (.array .byte) }, accessFlags := 9, code := some k12c2 }
/-- java/lang/StringLatin1 -/
def k12 : Class := { plain "java/lang/StringLatin1" (some 0) with
  accessFlags := 48
  interfaces := #[]
  cf := some (fileOf pool12 14 #[.nestMembers #[390, 221]] #[{ accessFlags := 0, nameIndex := 7, descriptorIndex := 8, attributes := #[] }, { accessFlags := 9, nameIndex := 90, descriptorIndex := 105, attributes := #[] }, { accessFlags := 9, nameIndex := 380, descriptorIndex := 382, attributes := #[] }] 48 4 #[] #[{ accessFlags := 4120, nameIndex := 121, descriptorIndex := 122, attributes := #[] }])
  fields := #[{ name := "$assertionsDisabled", type := .boolean, accessFlags := 4120, slot := 0, constantValue := 0 }]
  methods := #[k12m0, k12m1, k12m2]
  instanceTypes := #[]
  staticTypes := #[.boolean]
  resolved := Array.replicate 395 none
  statics := none }

def pool13 : Array CpInfo := pool [(6, .class_ 8), (1, u "java/lang/Object"), (0, u "<init>"), (0, u "()V"), (1, .class_ 14), (1, u "java/lang/StringUTF16"), (31, u "$assertionsDisabled"), (0, u "Z"), (13, u "HI_BYTE_SHIFT"), (0, u "I"), (2, u "LO_BYTE_SHIFT"), (49, .methodref 12 116), (0, .nameAndType 117 118), (0, u "compress"), (0, u "([CI[BII)I"), (3, u "([CII)[B"), (138, u "coderFromArrayLen"), (0, u "([BI)B"), (106, .class_ 371), (1, u "java/lang/StringUTF16$LinesSpliterator"), (58, u "MAX_LENGTH"), (196, .class_ 628), (0, u "java/lang/StringUTF16$CodePointsSpliterator"), (0, .class_ 630), (0, u "java/lang/StringUTF16$CharsSpliterator")] 4

def k13m0 : Method := { name := "<init>", desc := "()V", sig := { parameters := [], returnType := none }, accessFlags := 0, code := none }
def k13c1 : Code := { maxStack := 2, maxLocals := 2, code := jdk_52_method_15_code, exceptionTable := #[], attributes := #[] }
def k13m1 : Method := { name := "coderFromArrayLen", desc := "([BI)B", sig := { parameters := [(.array .byte), .int], returnType := some .byte }, accessFlags := 8, code := some k13c1 }
def k13c2 : Code := { maxStack := 5, maxLocals := 6, code := jdk_52_method_16_code, exceptionTable := #[], attributes := #[] }
def k13m2 : Method := { name := "compress", desc := "([CII)[B", sig := { parameters := [(.array .char), .int, .int], returnType := some (.array .byte) }, accessFlags := 9, code := some k13c2 }
def k13c3 : Code := { maxStack := 3, maxLocals := 7, code := jdk_52_method_21_code, exceptionTable := #[], attributes := #[] }
def k13m3 : Method := { name := "compress", desc := "([CI[BII)I", sig := { parameters := [(.array .char), .int, (.array .byte), .int, .int], returnType := some .int }, accessFlags := 9, code := some k13c3 }
/-- java/lang/StringUTF16 -/
def k13 : Class := { plain "java/lang/StringUTF16" (some 0) with
  accessFlags := 48
  interfaces := #[]
  cf := some (fileOf pool13 12 #[.nestMembers #[627, 629, 369]] #[{ accessFlags := 0, nameIndex := 9, descriptorIndex := 10, attributes := #[] }, { accessFlags := 8, nameIndex := 261, descriptorIndex := 262, attributes := #[] }, { accessFlags := 9, nameIndex := 117, descriptorIndex := 122, attributes := #[] }, { accessFlags := 9, nameIndex := 117, descriptorIndex := 118, attributes := #[] }] 48 6 #[] #[{ accessFlags := 26, nameIndex := 61, descriptorIndex := 62, attributes := #[] }, { accessFlags := 26, nameIndex := 65, descriptorIndex := 62, attributes := #[] }, { accessFlags := 24, nameIndex := 430, descriptorIndex := 62, attributes := #[] }, { accessFlags := 4120, nameIndex := 46, descriptorIndex := 47, attributes := #[] }])
  fields := #[{ name := "HI_BYTE_SHIFT", type := .int, accessFlags := 26, slot := 0, constantValue := 0 }, { name := "LO_BYTE_SHIFT", type := .int, accessFlags := 26, slot := 1, constantValue := 0 }, { name := "MAX_LENGTH", type := .int, accessFlags := 24, slot := 2, constantValue := 0 }, { name := "$assertionsDisabled", type := .boolean, accessFlags := 4120, slot := 3, constantValue := 0 }]
  methods := #[k13m0, k13m1, k13m2, k13m3]
  instanceTypes := #[]
  staticTypes := #[.int, .int, .int, .boolean]
  resolved := Array.replicate 635 none
  statics := none }

def pool14 : Array CpInfo := pool [(2, .class_ 4), (1, u "java/lang/Object"), (0, u "<init>"), (0, u "()V"), (17, .class_ 26), (1, u "jdk/internal/util/Preconditions"), (28, .class_ 56), (0, u "jdk/internal/util/Preconditions$4"), (57, .class_ 115), (0, u "jdk/internal/util/Preconditions$1"), (7, u "SIOOBE_FORMATTER"), (0, u "Ljava/util/function/BiFunction;"), (0, .class_ 126), (0, u "jdk/internal/util/Preconditions$2"), (3, u "AIOOBE_FORMATTER"), (0, .class_ 132), (0, u "jdk/internal/util/Preconditions$3"), (3, u "IOOBE_FORMATTER")] 57

def k14m0 : Method := { name := "<init>", desc := "()V", sig := { parameters := [], returnType := none }, accessFlags := 1, code := none }
/-- jdk/internal/util/Preconditions -/
def k14 : Class := { plain "jdk/internal/util/Preconditions" (some 0) with
  accessFlags := 33
  interfaces := #[]
  cf := some (fileOf pool14 24 #[.nestMembers #[55, 131, 125, 114]] #[{ accessFlags := 1, nameIndex := 5, descriptorIndex := 6, attributes := #[] }] 33 2 #[] #[{ accessFlags := 25, nameIndex := 123, descriptorIndex := 124, attributes := #[] }, { accessFlags := 25, nameIndex := 130, descriptorIndex := 124, attributes := #[] }, { accessFlags := 25, nameIndex := 136, descriptorIndex := 124, attributes := #[] }])
  fields := #[{ name := "SIOOBE_FORMATTER", type := (.object "java/util/function/BiFunction"), accessFlags := 25, slot := 0, constantValue := 0 }, { name := "AIOOBE_FORMATTER", type := (.object "java/util/function/BiFunction"), accessFlags := 25, slot := 1, constantValue := 0 }, { name := "IOOBE_FORMATTER", type := (.object "java/util/function/BiFunction"), accessFlags := 25, slot := 2, constantValue := 0 }]
  methods := #[k14m0]
  instanceTypes := #[]
  staticTypes := #[(.object "java/util/function/BiFunction"), (.object "java/util/function/BiFunction"), (.object "java/util/function/BiFunction")]
  resolved := Array.replicate 194 none
  statics := some 2 }

def pool15 : Array CpInfo := pool [(9, u "<init>"), (6, .class_ 18), (1, u "java/lang/Object"), (0, u "()V"), (1, .class_ 23), (1, u "jdk/internal/util/ArraysSupport"), (0, u "LOG2_ARRAY_LONG_INDEX_SCALE"), (0, u "I"), (2, u "U"), (0, u "Ljdk/internal/misc/Unsafe;"), (8, u "BIG_ENDIAN"), (0, u "Z"), (8, u "LOG2_BYTE_BIT_SIZE"), (4, u "LOG2_ARRAY_INT_INDEX_SCALE"), (54, u "JLA"), (0, u "Ljdk/internal/access/JavaLangAccess;"), (11, u "LOG2_ARRAY_BOOLEAN_INDEX_SCALE"), (9, u "LOG2_ARRAY_BYTE_INDEX_SCALE"), (5, u "LOG2_ARRAY_CHAR_INDEX_SCALE"), (5, u "LOG2_ARRAY_SHORT_INDEX_SCALE"), (18, u "LOG2_ARRAY_FLOAT_INDEX_SCALE"), (24, u "LOG2_ARRAY_DOUBLE_INDEX_SCALE"), (89, u "T_BOOLEAN"), (2, u "T_CHAR"), (1, u "T_FLOAT"), (1, u "T_DOUBLE"), (1, u "T_BYTE"), (1, u "T_SHORT"), (1, u "T_INT"), (1, u "T_LONG"), (1, u "SOFT_MAX_ARRAY_LENGTH")] 83

def k15m0 : Method := { name := "<init>", desc := "()V", sig := { parameters := [], returnType := none }, accessFlags := 2, code := none }
/-- jdk/internal/util/ArraysSupport -/
def k15 : Class := { plain "jdk/internal/util/ArraysSupport" (some 0) with
  accessFlags := 33
  interfaces := #[]
  cf := some (fileOf pool15 21 #[] #[{ accessFlags := 2, nameIndex := 9, descriptorIndex := 19, attributes := #[] }] 33 16 #[] #[{ accessFlags := 24, nameIndex := 28, descriptorIndex := 29, attributes := #[] }, { accessFlags := 26, nameIndex := 38, descriptorIndex := 39, attributes := #[] }, { accessFlags := 25, nameIndex := 121, descriptorIndex := 25, attributes := #[] }, { accessFlags := 25, nameIndex := 131, descriptorIndex := 25, attributes := #[] }, { accessFlags := 25, nameIndex := 137, descriptorIndex := 25, attributes := #[] }, { accessFlags := 25, nameIndex := 143, descriptorIndex := 25, attributes := #[] }, { accessFlags := 25, nameIndex := 53, descriptorIndex := 25, attributes := #[] }, { accessFlags := 25, nameIndex := 24, descriptorIndex := 25, attributes := #[] }, { accessFlags := 25, nameIndex := 162, descriptorIndex := 25, attributes := #[] }, { accessFlags := 25, nameIndex := 187, descriptorIndex := 25, attributes := #[] }, { accessFlags := 26, nameIndex := 48, descriptorIndex := 25, attributes := #[] }, { accessFlags := 25, nameIndex := 277, descriptorIndex := 25, attributes := #[] }, { accessFlags := 25, nameIndex := 280, descriptorIndex := 25, attributes := #[] }, { accessFlags := 25, nameIndex := 282, descriptorIndex := 25, attributes := #[] }, { accessFlags := 25, nameIndex := 284, descriptorIndex := 25, attributes := #[] }, { accessFlags := 25, nameIndex := 286, descriptorIndex := 25, attributes := #[] }, { accessFlags := 25, nameIndex := 288, descriptorIndex := 25, attributes := #[] }, { accessFlags := 25, nameIndex := 290, descriptorIndex := 25, attributes := #[] }, { accessFlags := 25, nameIndex := 292, descriptorIndex := 25, attributes := #[] }, { accessFlags := 26, nameIndex := 108, descriptorIndex := 109, attributes := #[] }, { accessFlags := 25, nameIndex := 294, descriptorIndex := 25, attributes := #[] }])
  fields := #[{ name := "U", type := (.object "jdk/internal/misc/Unsafe"), accessFlags := 24, slot := 0, constantValue := 0 }, { name := "BIG_ENDIAN", type := .boolean, accessFlags := 26, slot := 1, constantValue := 0 }, { name := "LOG2_ARRAY_BOOLEAN_INDEX_SCALE", type := .int, accessFlags := 25, slot := 2, constantValue := 0 }, { name := "LOG2_ARRAY_BYTE_INDEX_SCALE", type := .int, accessFlags := 25, slot := 3, constantValue := 0 }, { name := "LOG2_ARRAY_CHAR_INDEX_SCALE", type := .int, accessFlags := 25, slot := 4, constantValue := 0 }, { name := "LOG2_ARRAY_SHORT_INDEX_SCALE", type := .int, accessFlags := 25, slot := 5, constantValue := 0 }, { name := "LOG2_ARRAY_INT_INDEX_SCALE", type := .int, accessFlags := 25, slot := 6, constantValue := 0 }, { name := "LOG2_ARRAY_LONG_INDEX_SCALE", type := .int, accessFlags := 25, slot := 7, constantValue := 0 }, { name := "LOG2_ARRAY_FLOAT_INDEX_SCALE", type := .int, accessFlags := 25, slot := 8, constantValue := 0 }, { name := "LOG2_ARRAY_DOUBLE_INDEX_SCALE", type := .int, accessFlags := 25, slot := 9, constantValue := 0 }, { name := "LOG2_BYTE_BIT_SIZE", type := .int, accessFlags := 26, slot := 10, constantValue := 0 }, { name := "T_BOOLEAN", type := .int, accessFlags := 25, slot := 11, constantValue := 0 }, { name := "T_CHAR", type := .int, accessFlags := 25, slot := 12, constantValue := 0 }, { name := "T_FLOAT", type := .int, accessFlags := 25, slot := 13, constantValue := 0 }, { name := "T_DOUBLE", type := .int, accessFlags := 25, slot := 14, constantValue := 0 }, { name := "T_BYTE", type := .int, accessFlags := 25, slot := 15, constantValue := 0 }, { name := "T_SHORT", type := .int, accessFlags := 25, slot := 16, constantValue := 0 }, { name := "T_INT", type := .int, accessFlags := 25, slot := 17, constantValue := 0 }, { name := "T_LONG", type := .int, accessFlags := 25, slot := 18, constantValue := 0 }, { name := "JLA", type := (.object "jdk/internal/access/JavaLangAccess"), accessFlags := 26, slot := 19, constantValue := 0 }, { name := "SOFT_MAX_ARRAY_LENGTH", type := .int, accessFlags := 25, slot := 20, constantValue := 0 }]
  methods := #[k15m0]
  instanceTypes := #[]
  staticTypes := #[(.object "jdk/internal/misc/Unsafe"), .boolean, .int, .int, .int, .int, .int, .int, .int, .int, .int, .int, .int, .int, .int, .int, .int, .int, .int, (.object "jdk/internal/access/JavaLangAccess"), .int]
  resolved := Array.replicate 378 none
  statics := none }

def pool16 : Array CpInfo := pool [(1, u "java/lang/Cloneable"), (0, .class_ 1), (0, u "java/lang/Object"), (0, .class_ 3)] 3

/-- java/lang/Cloneable -/
def k16 : Class := { plain "java/lang/Cloneable" (some 0) with
  accessFlags := 1537
  interfaces := #[]
  cf := some (fileOf pool16 2 #[] #[] 1537 4 #[] #[])
  fields := #[]
  methods := #[]
  instanceTypes := #[]
  staticTypes := #[]
  resolved := Array.replicate 8 none
  statics := none }

/-- the primitive byte -/
def k17 : Class := { plain "byte" none with kind := .primitive 'B', accessFlags := 0x411 }
/-- [B -/
def k18 : Class := { plain "[B" (some 0) with kind := .array 17 .byte, interfaces := #[16, 4], accessFlags := 1041 }

/-- the primitive char -/
def k19 : Class := { plain "char" none with kind := .primitive 'C', accessFlags := 0x411 }
/-- [C -/
def k20 : Class := { plain "[C" (some 0) with kind := .array 19 .char, interfaces := #[16, 4], accessFlags := 1041 }

/-- the primitive int -/
def k21 : Class := { plain "int" none with kind := .primitive 'I', accessFlags := 0x411 }
/-- [I -/
def k22 : Class := { plain "[I" (some 0) with kind := .array 21 .int, interfaces := #[16, 4], accessFlags := 1041 }

def heap : Heap := #[{ cls := 6, slots := #[.ref 3, .ref 4, .null], vm := .statics 6 },
  { cls := 11, slots := #[.long 0, .int 1, .null, .int 0, .null, .int 0, .int 0], vm := .statics 11 },
  { cls := 14, slots := #[.null, .null, .null], vm := .statics 14 },
  { cls := 6, slots := #[.null, .int 0, .int 0, .null], vm := .none },
  { cls := 6, slots := #[.null, .int 1, .int 0, .null], vm := .none }]
def classes : Array Class := #[k0, k1, k2, k3, k4, k5, k6, k7, k8, k9, k10, k11, k12, k13, k14, k15, k16, k17, k18, k19, k20, k21, k22]
def interned : List (Array UInt16 × Addr) := []
def slotsUsed : Nat := 21
def theMethod : MethodId := ⟨1, 2⟩
def args0 : Array Value := #[.int 65, .int 66, .int 67, .int 6]
def aboutOver (below : List Frame) : State where
  vm := { classes := classes, interned := interned.toArray }
  heap := heap
  slotsUsed := slotsUsed
  threads := #[{ frames := .invoking theMethod args0 :: below }]
def below0 : List Frame := [.native { method := ⟨0, 0⟩, args := #[] }]
def about1 : State := aboutOver below0
def p0 : Program := .bare "" "" ""
def e0 : Env := launch0.env 0 0 0
theorem w_frames : about1.frames = Frame.invoking theMethod args0 :: below0 := rfl
set_option maxRecDepth 65536 in
theorem w_args : argsFit about1.vm theMethod args0 = true := by decide +kernel
set_option maxRecDepth 65536 in
theorem w_heap : heapFits about1 = true := by decide +kernel
set_option maxRecDepth 65536 in
theorem w_runnable : about1.curStatus? = some .runnable := by decide +kernel
set_option maxRecDepth 65536 in
theorem w_alone : about1.alone = true := by decide +kernel
set_option maxRecDepth 65536 in
theorem w_named : about1.methodNamed? x = some theMethod := by decide +kernel
set_option maxRecDepth 65536 in
theorem w_hears : about1.hears theMethod below0 = true := by decide +kernel
set_option maxRecDepth 65536 in
theorem w_ripe : about1.ripe theMethod args0 below0 = true := by decide +kernel
theorem w_running : about1.status = .running := rfl
set_option maxRecDepth 65536 in
theorem w_room : about1.hasRoom e0.platform room_1 = true :=
  launch0.hasRoom_least _ room_1 (by decide +kernel) (by decide +kernel) (by decide +kernel) (by decide +kernel) (by decide +kernel) (by decide +kernel)
theorem allAtoms_all (ts : List Jvm.Cond) (a : Array Jvm.Value) (st : Jvm.State) : (allAtoms ts).before a st = ts.all (fun c => c.before a st) := by
  induction ts with
  | nil => rfl
  | cons c t ih =>
    show (Jvm.Cond.and c (allAtoms t)).before a st = _
    rw [Jvm.Cond.before_and, ih, List.all_cons]
def words1 : List Jvm.Cond := Jvm.Cond.code x code maxLocals ret :: tables_1
/-- a 'code' word, met by the world's own term for the bytes: nothing is compared byte by byte -/
theorem code_word {y : MethodName} {bytes : ByteArray} {mx : Nat} {rt : Option FieldType} {a : Array Value} {s : State} {m : MethodId} {meth : Method} {c : Code} (h1 : s.methodNamed? y = some m) (h2 : s.vm.method? m = some meth) (h3 : meth.code = some c) (h4 : c.code = bytes)
    (h5 : (c.maxLocals == mx && c.exceptionTable.isEmpty && decide (c.maxStack ≤ mostOperands) && decide (meth.sig.returnType = rt) && !meth.locks && decide (parseMethodDescriptor y.desc = some meth.sig)) = true) : (Jvm.Cond.code y bytes mx rt).before a s = true := by
  simp only [Bool.and_eq_true, beq_iff_eq, Bool.not_eq_true', decide_eq_true_eq] at h5
  obtain ⟨⟨⟨⟨⟨g1, g2⟩, g3⟩, g4⟩, g5⟩, g6⟩ := h5
  simp [Cond.before, Cond.holds, Cond.value, h1, h2, h3, h4, g1, g2, g3, g4, g5, g6]
def isCode : Jvm.Cond → Bool
  | .code _ _ _ _ => true
  | _ => false
theorem all_split {L : List Jvm.Cond} {P : Jvm.Cond → Bool} (h1 : L.all (fun c => isCode c || P c) = true) (h2 : ∀ c ∈ L.filter isCode, P c = true) : L.all P = true := by
  refine List.all_eq_true.mpr fun c hc => ?_
  have h := List.all_eq_true.mp h1 c hc
  rcases Bool.eq_false_or_eq_true (isCode c) with hi | hi
  · exact h2 c (List.mem_filter.mpr ⟨hc, hi⟩)
  · simpa [hi] using h
set_option maxRecDepth 65536 in
theorem w_c0 : (Jvm.Cond.code x code maxLocals ret).before args0 about1 = true := code_word (m := ⟨1, 2⟩) (meth := k1m2) (c := k1c2) (by decide +kernel) rfl rfl rfl (by decide +kernel)
set_option maxRecDepth 65536 in
theorem w_c1 : (Jvm.Cond.code ({ cls := "com/example/aspectwise/aspectwise/engine/BlockEnd", name := "<init>", desc := "(Ljava/lang/String;Lcom/example/aspectwise/aspectwise/engine/BlockEnd$Side;)V" } : Jvm.MethodName) prog_23_method_1_code (3 : Nat) (Option.none : Option Jvm.ClassFile.FieldType)).before args0 about1 = true := code_word (m := ⟨8, 0⟩) (meth := k8m0) (c := k8c0) (by decide +kernel) rfl rfl rfl (by decide +kernel)
set_option maxRecDepth 65536 in
theorem w_c2 : (Jvm.Cond.code ({ cls := "java/lang/Record", name := "<init>", desc := "()V" } : Jvm.MethodName) jdk_30_method_1_code (1 : Nat) (Option.none : Option Jvm.ClassFile.FieldType)).before args0 about1 = true := code_word (m := ⟨7, 0⟩) (meth := k7m0) (c := k7c0) (by decide +kernel) rfl rfl rfl (by decide +kernel)
set_option maxRecDepth 65536 in
theorem w_c3 : (Jvm.Cond.code ({ cls := "java/lang/Object", name := "<init>", desc := "()V" } : Jvm.MethodName) object_method_1_code (1 : Nat) (Option.none : Option Jvm.ClassFile.FieldType)).before args0 about1 = true := code_word (m := ⟨0, 0⟩) (meth := k0m0) (c := k0c0) (by decide +kernel) rfl rfl rfl (by decide +kernel)
set_option maxRecDepth 65536 in
theorem w_c4 : (Jvm.Cond.code ({ cls := "com/example/aspectwise/aspectwise/engine/BlockEnd", name := "opposite", desc := "()Lcom/example/aspectwise/aspectwise/engine/BlockEnd;" } : Jvm.MethodName) prog_23_method_3_code (1 : Nat) (Option.some (Jvm.ClassFile.FieldType.object "com/example/aspectwise/aspectwise/engine/BlockEnd"))).before args0 about1 = true := code_word (m := ⟨8, 1⟩) (meth := k8m1) (c := k8c1) (by decide +kernel) rfl rfl rfl (by decide +kernel)
set_option maxRecDepth 65536 in
theorem w_c5 : (Jvm.Cond.code ({ cls := "com/example/aspectwise/aspectwise/engine/BlockEnd", name := "side", desc := "()Lcom/example/aspectwise/aspectwise/engine/BlockEnd$Side;" } : Jvm.MethodName) prog_23_method_8_code (1 : Nat) (Option.some (Jvm.ClassFile.FieldType.object "com/example/aspectwise/aspectwise/engine/BlockEnd$Side"))).before args0 about1 = true := code_word (m := ⟨8, 3⟩) (meth := k8m3) (c := k8c3) (by decide +kernel) rfl rfl rfl (by decide +kernel)
set_option maxRecDepth 65536 in
theorem w_c6 : (Jvm.Cond.code ({ cls := "com/example/aspectwise/aspectwise/engine/BlockEnd", name := "block", desc := "()Ljava/lang/String;" } : Jvm.MethodName) prog_23_method_7_code (1 : Nat) (Option.some (Jvm.ClassFile.FieldType.object "java/lang/String"))).before args0 about1 = true := code_word (m := ⟨8, 2⟩) (meth := k8m2) (c := k8c2) (by decide +kernel) rfl rfl rfl (by decide +kernel)
set_option maxRecDepth 65536 in
theorem w_c7 : (Jvm.Cond.code ({ cls := "com/example/aspectwise/aspectwise/engine/BlockEndOppositePinLaw", name := "sameBlock", desc := "(Ljava/lang/String;Ljava/lang/String;)Z" } : Jvm.MethodName) method_2_code (2 : Nat) (Option.some Jvm.ClassFile.FieldType.boolean)).before args0 about1 = true := code_word (m := ⟨1, 1⟩) (meth := k1m1) (c := k1c1) (by decide +kernel) rfl rfl rfl (by decide +kernel)
set_option maxRecDepth 65536 in
theorem w_c8 : (Jvm.Cond.code ({ cls := "java/lang/String", name := "<init>", desc := "([C)V" } : Jvm.MethodName) jdk_42_method_3_code (2 : Nat) (Option.none : Option Jvm.ClassFile.FieldType)).before args0 about1 = true := code_word (m := ⟨11, 1⟩) (meth := k11m1) (c := k11c1) (by decide +kernel) rfl rfl rfl (by decide +kernel)
set_option maxRecDepth 65536 in
theorem w_c9 : (Jvm.Cond.code ({ cls := "java/lang/String", name := "<init>", desc := "([CIILjava/lang/Void;)V" } : Jvm.MethodName) jdk_42_method_149_code (6 : Nat) (Option.none : Option Jvm.ClassFile.FieldType)).before args0 about1 = true := code_word (m := ⟨11, 4⟩) (meth := k11m4) (c := k11c4) (by decide +kernel) rfl rfl rfl (by decide +kernel)
set_option maxRecDepth 65536 in
theorem w_c10 : (Jvm.Cond.code ({ cls := "java/lang/String", name := "equals", desc := "(Ljava/lang/Object;)Z" } : Jvm.MethodName) jdk_42_method_66_code (3 : Nat) (Option.some Jvm.ClassFile.FieldType.boolean)).before args0 about1 = true := code_word (m := ⟨11, 2⟩) (meth := k11m2) (c := k11c2) (by decide +kernel) rfl rfl rfl (by decide +kernel)
set_option maxRecDepth 65536 in
theorem w_c11 : (Jvm.Cond.code ({ cls := "java/lang/String", name := "valueOf", desc := "(C)Ljava/lang/String;" } : Jvm.MethodName) jdk_42_method_139_code (1 : Nat) (Option.some (Jvm.ClassFile.FieldType.object "java/lang/String"))).before args0 about1 = true := code_word (m := ⟨11, 3⟩) (meth := k11m3) (c := k11c3) (by decide +kernel) rfl rfl rfl (by decide +kernel)
set_option maxRecDepth 65536 in
theorem w_c12 : (Jvm.Cond.code ({ cls := "java/lang/StringLatin1", name := "canEncode", desc := "(C)Z" } : Jvm.MethodName) jdk_43_method_3_code (1 : Nat) (Option.some Jvm.ClassFile.FieldType.boolean)).before args0 about1 = true := code_word (m := ⟨12, 1⟩) (meth := k12m1) (c := k12c1) (by decide +kernel) rfl rfl rfl (by decide +kernel)
set_option maxRecDepth 65536 in
theorem w_c13 : (Jvm.Cond.code ({ cls := "java/lang/StringLatin1", name := "toBytes", desc := "(C)[B" } : Jvm.MethodName) jdk_43_method_46_code (1 : Nat) (Option.some (Jvm.ClassFile.FieldType.array Jvm.ClassFile.FieldType.byte))).before args0 about1 = true := code_word (m := ⟨12, 2⟩) (meth := k12m2) (c := k12c2) (by decide +kernel) rfl rfl rfl (by decide +kernel)
set_option maxRecDepth 65536 in
theorem w_c14 : (Jvm.Cond.code ({ cls := "java/lang/String", name := "<init>", desc := "([BB)V" } : Jvm.MethodName) jdk_42_method_151_code (3 : Nat) (Option.none : Option Jvm.ClassFile.FieldType)).before args0 about1 = true := code_word (m := ⟨11, 5⟩) (meth := k11m5) (c := k11c5) (by decide +kernel) rfl rfl rfl (by decide +kernel)
set_option maxRecDepth 65536 in
theorem w_c15 : (Jvm.Cond.code ({ cls := "java/lang/StringUTF16", name := "compress", desc := "([CII)[B" } : Jvm.MethodName) jdk_52_method_16_code (6 : Nat) (Option.some (Jvm.ClassFile.FieldType.array Jvm.ClassFile.FieldType.byte))).before args0 about1 = true := code_word (m := ⟨13, 2⟩) (meth := k13m2) (c := k13c2) (by decide +kernel) rfl rfl rfl (by decide +kernel)
set_option maxRecDepth 65536 in
theorem w_c16 : (Jvm.Cond.code ({ cls := "java/lang/StringUTF16", name := "compress", desc := "([CI[BII)I" } : Jvm.MethodName) jdk_52_method_21_code (7 : Nat) (Option.some Jvm.ClassFile.FieldType.int)).before args0 about1 = true := code_word (m := ⟨13, 3⟩) (meth := k13m3) (c := k13c3) (by decide +kernel) rfl rfl rfl (by decide +kernel)
set_option maxRecDepth 65536 in
theorem w_c17 : (Jvm.Cond.code ({ cls := "java/lang/StringUTF16", name := "coderFromArrayLen", desc := "([BI)B" } : Jvm.MethodName) jdk_52_method_15_code (2 : Nat) (Option.some Jvm.ClassFile.FieldType.byte)).before args0 about1 = true := code_word (m := ⟨13, 1⟩) (meth := k13m1) (c := k13c1) (by decide +kernel) rfl rfl rfl (by decide +kernel)
def codes1 : List Jvm.Cond := [Jvm.Cond.code x code maxLocals ret, Jvm.Cond.code ({ cls := "com/example/aspectwise/aspectwise/engine/BlockEnd", name := "<init>", desc := "(Ljava/lang/String;Lcom/example/aspectwise/aspectwise/engine/BlockEnd$Side;)V" } : Jvm.MethodName) prog_23_method_1_code (3 : Nat) (Option.none : Option Jvm.ClassFile.FieldType), Jvm.Cond.code ({ cls := "java/lang/Record", name := "<init>", desc := "()V" } : Jvm.MethodName) jdk_30_method_1_code (1 : Nat) (Option.none : Option Jvm.ClassFile.FieldType), Jvm.Cond.code ({ cls := "java/lang/Object", name := "<init>", desc := "()V" } : Jvm.MethodName) object_method_1_code (1 : Nat) (Option.none : Option Jvm.ClassFile.FieldType), Jvm.Cond.code ({ cls := "com/example/aspectwise/aspectwise/engine/BlockEnd", name := "opposite", desc := "()Lcom/example/aspectwise/aspectwise/engine/BlockEnd;" } : Jvm.MethodName) prog_23_method_3_code (1 : Nat) (Option.some (Jvm.ClassFile.FieldType.object "com/example/aspectwise/aspectwise/engine/BlockEnd")), Jvm.Cond.code ({ cls := "com/example/aspectwise/aspectwise/engine/BlockEnd", name := "side", desc := "()Lcom/example/aspectwise/aspectwise/engine/BlockEnd$Side;" } : Jvm.MethodName) prog_23_method_8_code (1 : Nat) (Option.some (Jvm.ClassFile.FieldType.object "com/example/aspectwise/aspectwise/engine/BlockEnd$Side")), Jvm.Cond.code ({ cls := "com/example/aspectwise/aspectwise/engine/BlockEnd", name := "block", desc := "()Ljava/lang/String;" } : Jvm.MethodName) prog_23_method_7_code (1 : Nat) (Option.some (Jvm.ClassFile.FieldType.object "java/lang/String")), Jvm.Cond.code ({ cls := "com/example/aspectwise/aspectwise/engine/BlockEndOppositePinLaw", name := "sameBlock", desc := "(Ljava/lang/String;Ljava/lang/String;)Z" } : Jvm.MethodName) method_2_code (2 : Nat) (Option.some Jvm.ClassFile.FieldType.boolean), Jvm.Cond.code ({ cls := "java/lang/String", name := "<init>", desc := "([C)V" } : Jvm.MethodName) jdk_42_method_3_code (2 : Nat) (Option.none : Option Jvm.ClassFile.FieldType), Jvm.Cond.code ({ cls := "java/lang/String", name := "<init>", desc := "([CIILjava/lang/Void;)V" } : Jvm.MethodName) jdk_42_method_149_code (6 : Nat) (Option.none : Option Jvm.ClassFile.FieldType), Jvm.Cond.code ({ cls := "java/lang/String", name := "equals", desc := "(Ljava/lang/Object;)Z" } : Jvm.MethodName) jdk_42_method_66_code (3 : Nat) (Option.some Jvm.ClassFile.FieldType.boolean), Jvm.Cond.code ({ cls := "java/lang/String", name := "valueOf", desc := "(C)Ljava/lang/String;" } : Jvm.MethodName) jdk_42_method_139_code (1 : Nat) (Option.some (Jvm.ClassFile.FieldType.object "java/lang/String")), Jvm.Cond.code ({ cls := "java/lang/StringLatin1", name := "canEncode", desc := "(C)Z" } : Jvm.MethodName) jdk_43_method_3_code (1 : Nat) (Option.some Jvm.ClassFile.FieldType.boolean), Jvm.Cond.code ({ cls := "java/lang/StringLatin1", name := "toBytes", desc := "(C)[B" } : Jvm.MethodName) jdk_43_method_46_code (1 : Nat) (Option.some (Jvm.ClassFile.FieldType.array Jvm.ClassFile.FieldType.byte)), Jvm.Cond.code ({ cls := "java/lang/String", name := "<init>", desc := "([BB)V" } : Jvm.MethodName) jdk_42_method_151_code (3 : Nat) (Option.none : Option Jvm.ClassFile.FieldType), Jvm.Cond.code ({ cls := "java/lang/StringUTF16", name := "compress", desc := "([CII)[B" } : Jvm.MethodName) jdk_52_method_16_code (6 : Nat) (Option.some (Jvm.ClassFile.FieldType.array Jvm.ClassFile.FieldType.byte)), Jvm.Cond.code ({ cls := "java/lang/StringUTF16", name := "compress", desc := "([CI[BII)I" } : Jvm.MethodName) jdk_52_method_21_code (7 : Nat) (Option.some Jvm.ClassFile.FieldType.int), Jvm.Cond.code ({ cls := "java/lang/StringUTF16", name := "coderFromArrayLen", desc := "([BI)B" } : Jvm.MethodName) jdk_52_method_15_code (2 : Nat) (Option.some Jvm.ClassFile.FieldType.byte)]
set_option maxRecDepth 65536 in
theorem codes_eq : words1.filter isCode = codes1 := rfl
theorem w_codes : ∀ c ∈ words1.filter isCode, c.before args0 about1 = true := by
  rw [codes_eq]
  intro c hc
  simp only [codes1, List.mem_cons, List.not_mem_nil, or_false] at hc
  rcases hc with rfl | rfl | rfl | rfl | rfl | rfl | rfl | rfl | rfl | rfl | rfl | rfl | rfl | rfl | rfl | rfl | rfl | rfl
  · exact w_c0
  · exact w_c1
  · exact w_c2
  · exact w_c3
  · exact w_c4
  · exact w_c5
  · exact w_c6
  · exact w_c7
  · exact w_c8
  · exact w_c9
  · exact w_c10
  · exact w_c11
  · exact w_c12
  · exact w_c13
  · exact w_c14
  · exact w_c15
  · exact w_c16
  · exact w_c17
set_option maxRecDepth 65536 in
theorem w_t1 : (words1.take 24).all (fun c => isCode c || c.before args0 about1) = true := by decide +kernel
set_option maxRecDepth 65536 in
theorem w_t2 : ((words1.drop 24).take 24).all (fun c => isCode c || c.before args0 about1) = true := by decide +kernel
set_option maxRecDepth 65536 in
theorem w_t3 : (((words1.drop 24).drop 24).take 24).all (fun c => isCode c || c.before args0 about1) = true := by decide +kernel
set_option maxRecDepth 65536 in
theorem w_t4 : ((((words1.drop 24).drop 24).drop 24).take 24).all (fun c => isCode c || c.before args0 about1) = true := by decide +kernel
set_option maxRecDepth 65536 in
theorem w_t5 : ((((words1.drop 24).drop 24).drop 24).drop 24).all (fun c => isCode c || c.before args0 about1) = true := by decide +kernel
theorem w_tables : (allAtoms (Jvm.Cond.code x code maxLocals ret :: tables_1)).before args0 about1 = true := by
  rw [allAtoms_all]
  show words1.all (fun c => c.before args0 about1) = true
  refine all_split ?_ w_codes
  rw [← List.take_append_drop 24 words1, List.all_append, w_t1, ← List.take_append_drop 24 (words1.drop 24), List.all_append, w_t2, ← List.take_append_drop 24 ((words1.drop 24).drop 24), List.all_append, w_t3, ← List.take_append_drop 24 (((words1.drop 24).drop 24).drop 24), List.all_append, w_t4, w_t5]
  rfl
set_option maxRecDepth 65536 in
theorem w_rest : rest_1_c.before args0 about1 = true := by decide +kernel
set_option maxRecDepth 65536 in
theorem w_case : (Jvm.Cond.and given_1 narrow_1).before args0 about1 = true := by decide +kernel
set_option maxRecDepth 65536 in
theorem w_consts : constsHeld consts_1 about1 := Jvm.Lit.constsHeldB_iff.mp (by decide +kernel)
theorem w_applies : (headSpec (Jvm.Cond.code x code maxLocals ret :: tables_1) room_1).applies x e0.platform about1 = true :=
  (Spec.applies_iff w_frames).mpr ⟨w_running, w_runnable, w_alone, w_named, w_hears, w_ripe, w_room, w_tables⟩
theorem atStart : AtStart classFile x code maxLocals ret World_1 tables_1 room_1 Calls_1 rest_1 Pre_1 launch0 p0 e0 about1 theMethod args0 below0 :=
  ⟨lists_1, trivial, launch0.admits_env _ _ _, launch0.least_env, fairChoices_fair.cas, fairChoices_fair.clock, w_frames, w_args, w_heap, w_applies, ⟨w_consts, trivial⟩, w_rest, w_case⟩
end start1
theorem witness_1 : WitnessClaimed_1 := ⟨start1.p0, start1.e0, start1.about1, start1.theMethod, start1.args0, start1.below0, start1.atStart⟩
end Jvm.Pilot.@@N@@
