import JvmDerived
import JvmDerived.Pilot.@@N@@Statement
import JvmDerived.Pilot.@@N@@Code
set_option linter.unusedVariables false
set_option linter.unusedSimpArgs false
namespace Jvm.Pilot.@@N@@
open Jvm Jvm.ClassFile Sem Op Lib Jvm.Free Jvm.Stand Jvm.LawKit Jvm.RoadKit Bundle Jvm.Pilot.@@N@@.Jvm.D
abbrev Way (p : Program) (e : Env) (below : List Frame) (S0 T : State) (g : JFrame) : Prop := ∀ t, Steps p.tables e below (T.setTop g) t → Steps p.tables e below S0 t
theorem own_old {Z : State} {n0 : Nat} {h : Heap} (O : Old Z n0 h) : n0 ≤ h.size := O.1 ▸ O.2.1
theorem own_strW {a0 : Array Value} {Z : State} (hw : ∀ d ∈ tables_1, d.before a0 Z = true) : ∀ a ∈ Bundle.stringAtoms, a.before a0 Z = true := fun d hd => by
  simp only [Bundle.stringAtoms, List.mem_cons, List.not_mem_nil, or_false] at hd
  rcases hd with rfl | rfl | rfl | rfl | rfl | rfl | rfl
  · exact (hw _ (List.mem_of_getElem? (i := 8) rfl))
  · exact (hw _ (List.mem_of_getElem? (i := 9) rfl))
  · exact (hw _ (List.mem_of_getElem? (i := 10) rfl))
  · exact (hw _ (List.mem_of_getElem? (i := 11) rfl))
  · exact (hw _ (List.mem_of_getElem? (i := 12) rfl))
  · exact (hw _ (List.mem_of_getElem? (i := 13) rfl))
  · exact (hw _ (List.mem_of_getElem? (i := 14) rfl))
theorem own_rw {s t : State} {o : Outcome} {L : List Loc} {k n k' n' : Nat} (h : ReturnedEndW s o t L k n) (hk : k ≤ k') (hn : n ≤ n') : ReturnedEndW s o t L k' n' := ⟨h.1, h.2.1, h.2.2.1, h.2.2.2.mono hk hn⟩
theorem own_eqF {args : Array Value} {s : State} {t : Term} {x : Addr} {C n d : String} {k : Int32} (ht : t.eval args s none [] s = some (.ref x)) (h : (Jvm.Cond.eq (.field t C n d) (.int k)).value args s none s [] = some true) : s.fieldOf? x C n d = some (.int k) :=
  (fld_at ht).symm.trans (Cond.eq_int (Cond.before_iff.mpr h) rfl)
def own_min (x y : Int32) : Int32 := if y < x then y else x
def own_max (x y : Int32) : Int32 := if x < y then y else x
theorem own_min_toInt (x y : Int32) : (y.toInt < x.toInt ∧ (own_min x y).toInt = y.toInt) ∨ (x.toInt ≤ y.toInt ∧ (own_min x y).toInt = x.toInt) := by
  by_cases h : y < x
  · left; exact ⟨Int32.lt_iff_toInt_lt.mp h, by simp [own_min, h]⟩
  · right; rw [Int32.lt_iff_toInt_lt] at h; exact ⟨by omega, by simp [own_min, Int32.lt_iff_toInt_lt, h]⟩
theorem own_max_toInt (x y : Int32) : (x.toInt < y.toInt ∧ (own_max x y).toInt = y.toInt) ∨ (y.toInt ≤ x.toInt ∧ (own_max x y).toInt = x.toInt) := by
  by_cases h : x < y
  · left; exact ⟨Int32.lt_iff_toInt_lt.mp h, by simp [own_max, h]⟩
  · right; rw [Int32.lt_iff_toInt_lt] at h; exact ⟨by omega, by simp [own_max, Int32.lt_iff_toInt_lt, h]⟩
theorem own_spanI (a b : Int32) : (((b.toInt64) - (a.toInt64)) + (1 : Int64)).toInt = b.toInt - a.toInt + 1 := by
  have h1 := c_ladd ((b.toInt64) - (a.toInt64)) (1 : Int64)
  have h2 := c_lsub (b.toInt64) (a.toInt64)
  have h3 := c_i2l a
  have h4 := c_i2l b
  have r1 := rng32 a
  have r2 := rng32 b
  have r3 := rng64 (((b.toInt64) - (a.toInt64)) + (1 : Int64))
  have r4 := rng64 ((b.toInt64) - (a.toInt64))
  have h5 : (1 : Int64).toInt = 1 := by decide
  omega
theorem own_one (x : Int32) : (lcmpW (((x.toInt64) - (x.toInt64)) + (1 : Int64)) (1 : Int64)) = (0 : Int32) := by
  rw [lw_eq, ← Int64.toInt_inj, own_spanI]
  have h5 : (1 : Int64).toInt = 1 := by decide
  omega
theorem own_le2 (a b : Int32) : ¬ ((0 : Int32) < (lcmpW (((b.toInt64) - (a.toInt64)) + (1 : Int64)) (4294967296 : Int64))) := by
  rw [lw_gt, Int64.lt_iff_toInt_lt, own_spanI]
  have h5 : (4294967296 : Int64).toInt = 4294967296 := by decide
  have r1 := rng32 a
  have r2 := rng32 b
  omega
theorem own_ge1 {x y z lo hi : Int32} (hlo : own_min x (own_min y z) = lo) (hhi : own_max x (own_max y z) = hi) : ¬ ((lcmpW (((hi.toInt64) - (lo.toInt64)) + (1 : Int64)) (1 : Int64)) < (0 : Int32)) := by
  rw [lw_lt, Int64.lt_iff_toInt_lt, own_spanI]
  have h5 : (1 : Int64).toInt = 1 := by decide
  have a1 := own_min_toInt y z
  have a2 := own_min_toInt x (own_min y z)
  have b1 := own_max_toInt y z
  have b2 := own_max_toInt x (own_max y z)
  rw [hlo] at a2
  rw [hhi] at b2
  omega
theorem own_ladd (a b : Int64) (h1 : -9223372036854775808 ≤ a.toInt + b.toInt) (h2 : a.toInt + b.toInt < 9223372036854775808) : (a + b).toInt = a.toInt + b.toInt := by
  have c := c_ladd a b
  have r := rng64 (a + b)
  omega
theorem own_lsub (a b : Int64) (h1 : -9223372036854775808 ≤ a.toInt - b.toInt) (h2 : a.toInt - b.toInt < 9223372036854775808) : (a - b).toInt = a.toInt - b.toInt := by
  have c := c_lsub a b
  have r := rng64 (a - b)
  omega
theorem own_l2i (a : Int64) (h1 : -2147483648 ≤ a.toInt) (h2 : a.toInt < 2147483648) : a.toInt32.toInt = a.toInt := by
  have c := c_l2i a
  have r := rng32 a.toInt32
  omega
theorem own_med {x y z m lo M hi : Int} (a1 : (z < y ∧ m = z) ∨ (y ≤ z ∧ m = y)) (a2 : (m < x ∧ lo = m) ∨ (x ≤ m ∧ lo = x)) (b1 : (y < z ∧ M = z) ∨ (z ≤ y ∧ M = y)) (b2 : (x < M ∧ hi = M) ∨ (M ≤ x ∧ hi = x)) :
    lo ≤ x + y + z - lo - hi ∧ x + y + z - lo - hi ≤ hi := by
  rcases a1 with ⟨a, rfl⟩ | ⟨a, rfl⟩ <;> rcases a2 with ⟨b, rfl⟩ | ⟨b, rfl⟩ <;> rcases b1 with ⟨c, rfl⟩ | ⟨c, rfl⟩ <;> rcases b2 with ⟨d, rfl⟩ | ⟨d, rfl⟩ <;> omega
theorem own_sum5 (x y z lo hi : Int32) : (((((x.toInt64) + (y.toInt64)) + (z.toInt64)) - (lo.toInt64)) - (hi.toInt64)).toInt = x.toInt + y.toInt + z.toInt - lo.toInt - hi.toInt := by
  have r1 := rng32 x
  have r2 := rng32 y
  have r3 := rng32 z
  have r4 := rng32 lo
  have r5 := rng32 hi
  have e1 : ((x.toInt64) + (y.toInt64)).toInt = x.toInt + y.toInt := by
    rw [own_ladd] <;> rw [c_i2l, c_i2l] <;> omega
  have e2 : (((x.toInt64) + (y.toInt64)) + (z.toInt64)).toInt = x.toInt + y.toInt + z.toInt := by
    rw [own_ladd] <;> rw [e1, c_i2l] <;> omega
  have e3 : ((((x.toInt64) + (y.toInt64)) + (z.toInt64)) - (lo.toInt64)).toInt = x.toInt + y.toInt + z.toInt - lo.toInt := by
    rw [own_lsub] <;> rw [e2, c_i2l] <;> omega
  rw [own_lsub] <;> rw [e3, c_i2l] <;> omega
theorem own_fin (lo mid hi : Int32) (h : mid.toInt < hi.toInt) :
    (((((mid.toInt64) - (lo.toInt64)) + (1 : Int64)) + (((hi.toInt64) - ((mid + (1 : Int32)).toInt64)) + (1 : Int64)))).toInt = (((hi.toInt64) - (lo.toInt64)) + (1 : Int64)).toInt := by
  have r4 := rng32 lo
  have r5 := rng32 hi
  have r6 := rng32 mid
  have hm1 : (mid + (1 : Int32)).toInt = mid.toInt + 1 := by
    have h1 : (1 : Int32).toInt = 1 := by decide
    have d1 := c_iadd mid (1 : Int32)
    have r7 := rng32 (mid + (1 : Int32))
    rw [h1] at d1
    omega
  rw [own_ladd] <;> rw [own_spanI, own_spanI, hm1]
  · rw [own_spanI]; omega
  · omega
  · omega
theorem own_sum {x y z lo hi mid : Int32} (hlo : own_min x (own_min y z) = lo) (hhi : own_max x (own_max y z) = hi) (hmid : ((((((x.toInt64) + (y.toInt64)) + (z.toInt64)) - (lo.toInt64)) - (hi.toInt64)).toInt32) = mid) (hne : ¬ (mid = hi)) :
    (lcmpW ((((mid.toInt64) - (lo.toInt64)) + (1 : Int64)) + (((hi.toInt64) - ((mid + (1 : Int32)).toInt64)) + (1 : Int64))) (((hi.toInt64) - (lo.toInt64)) + (1 : Int64))) = (0 : Int32) := by
  have a1 := own_min_toInt y z
  have a2 := own_min_toInt x (own_min y z)
  have b1 := own_max_toInt y z
  have b2 := own_max_toInt x (own_max y z)
  rw [hlo] at a2
  rw [hhi] at b2
  have hb := own_med a1 a2 b1 b2
  have s5 := own_sum5 x y z lo hi
  have r4 := rng32 lo
  have r5 := rng32 hi
  have e5 := own_l2i (((((x.toInt64) + (y.toInt64)) + (z.toInt64)) - (lo.toInt64)) - (hi.toInt64)) (by rw [s5]; exact Int.le_trans r4.1 hb.1) (by rw [s5]; exact Int.lt_of_le_of_lt hb.2 r5.2)
  rw [hmid, s5] at e5
  have hne' : mid.toInt ≠ hi.toInt := fun e => hne (Int32.toInt_inj.mp e)
  have hlt : mid.toInt < hi.toInt := by rw [← e5] at hb; exact Int.lt_iff_le_and_ne.mpr ⟨hb.2, hne'⟩
  rw [lw_eq, ← Int64.toInt_inj]
  exact own_fin lo mid hi hlt
def Gst (Z : State) (w_INT : Addr) : Prop := (Sta Z Z.heap "com/example/inert_quotient/inertquotient/prism/Type" "INT" "Lcom/example/inert_quotient/inertquotient/prism/Type;" (.ref w_INT)) ∧ (Exa Z Z.heap w_INT "com/example/inert_quotient/inertquotient/prism/Type")
theorem d_prog_82_method_1_code_0 : decode prog_82_method_1_code 0 = .ok (.aload_n 0, 1) := by decide +kernel
theorem d_prog_82_method_1_code_1 : decode prog_82_method_1_code 1 = .ok (.invokespecial 1, 3) := by decide +kernel
theorem d_prog_82_method_1_code_4 : decode prog_82_method_1_code 4 = .ok (.aload_n 0, 1) := by decide +kernel
theorem d_prog_82_method_1_code_5 : decode prog_82_method_1_code 5 = .ok (.aload_n 1, 1) := by decide +kernel
theorem d_prog_82_method_1_code_6 : decode prog_82_method_1_code 6 = .ok (.putfield 7, 3) := by decide +kernel
theorem d_prog_82_method_1_code_9 : decode prog_82_method_1_code 9 = .ok (.aload_n 0, 1) := by decide +kernel
theorem d_prog_82_method_1_code_10 : decode prog_82_method_1_code 10 = .ok (.aload_n 2, 1) := by decide +kernel
theorem d_prog_82_method_1_code_11 : decode prog_82_method_1_code 11 = .ok (.putfield 13, 3) := by decide +kernel
theorem d_prog_82_method_1_code_14 : decode prog_82_method_1_code 14 = .ok (.aload_n 0, 1) := by decide +kernel
theorem d_prog_82_method_1_code_15 : decode prog_82_method_1_code 15 = .ok (.iload_n 3, 1) := by decide +kernel
theorem d_prog_82_method_1_code_16 : decode prog_82_method_1_code 16 = .ok (.putfield 17, 3) := by decide +kernel
theorem d_prog_82_method_1_code_19 : decode prog_82_method_1_code 19 = .ok (.aload_n 0, 1) := by decide +kernel
theorem d_prog_82_method_1_code_20 : decode prog_82_method_1_code 20 = .ok (.iload 4, 2) := by decide +kernel
theorem d_prog_82_method_1_code_22 : decode prog_82_method_1_code 22 = .ok (.putfield 21, 3) := by decide +kernel
theorem d_prog_82_method_1_code_25 : decode prog_82_method_1_code 25 = .ok (.aload_n 0, 1) := by decide +kernel
theorem d_prog_82_method_1_code_26 : decode prog_82_method_1_code 26 = .ok (.iload 5, 2) := by decide +kernel
theorem d_prog_82_method_1_code_28 : decode prog_82_method_1_code 28 = .ok (.putfield 24, 3) := by decide +kernel
theorem d_prog_82_method_1_code_31 : decode prog_82_method_1_code 31 = .ok (.aload_n 0, 1) := by decide +kernel
theorem d_prog_82_method_1_code_32 : decode prog_82_method_1_code 32 = .ok (.iload 6, 2) := by decide +kernel
theorem d_prog_82_method_1_code_34 : decode prog_82_method_1_code 34 = .ok (.putfield 27, 3) := by decide +kernel
theorem d_prog_82_method_1_code_37 : decode prog_82_method_1_code 37 = .ok (.aload_n 0, 1) := by decide +kernel
theorem d_prog_82_method_1_code_38 : decode prog_82_method_1_code 38 = .ok (.aload 7, 2) := by decide +kernel
theorem d_prog_82_method_1_code_40 : decode prog_82_method_1_code 40 = .ok (.putfield 30, 3) := by decide +kernel
theorem d_prog_82_method_1_code_43 : decode prog_82_method_1_code 43 = .ok (.return_, 1) := by decide +kernel
theorem pn_0 : plainName "com/example/inert_quotient/inertquotient/prism/Variable" = true := by first | (simp [plainName, overriddenIn]; done) | decide +kernel
theorem d_method_2_code_0 : decode method_2_code 0 = .ok (.new 7, 3) := by decide +kernel
theorem d_method_2_code_3 : decode method_2_code 3 = .ok (.dup, 1) := by decide +kernel
theorem d_method_2_code_4 : decode method_2_code 4 = .ok (.ldc 9, 2) := by decide +kernel
theorem d_method_2_code_6 : decode method_2_code 6 = .ok (.getstatic 11, 3) := by decide +kernel
theorem d_method_2_code_9 : decode method_2_code 9 = .ok (.iconst 0, 1) := by decide +kernel
theorem d_method_2_code_10 : decode method_2_code 10 = .ok (.iload_n 0, 1) := by decide +kernel
theorem d_method_2_code_11 : decode method_2_code 11 = .ok (.iload_n 1, 1) := by decide +kernel
theorem d_method_2_code_12 : decode method_2_code 12 = .ok (.iload_n 0, 1) := by decide +kernel
theorem d_method_2_code_13 : decode method_2_code 13 = .ok (.aconst_null, 1) := by decide +kernel
theorem d_method_2_code_14 : decode method_2_code 14 = .ok (.invokespecial 17, 3) := by decide +kernel
theorem pd_0 : parseMethodDescriptor "(Ljava/lang/String;Lcom/example/inert_quotient/inertquotient/prism/Type;IIIILjava/lang/String;)V" = some ⟨[(.object "java/lang/String"), (.object "com/example/inert_quotient/inertquotient/prism/Type"), .int, .int, .int, .int, (.object "java/lang/String")], none⟩ := by decide +kernel
theorem d_method_2_code_17 : decode method_2_code 17 = .ok (.areturn, 1) := by decide +kernel
theorem pn_1 : plainName "com/example/inert_quotient/inertquotient/prism/AlikeValuesSpanPinLaw" = true := by first | (simp [plainName, overriddenIn]; done) | decide +kernel
theorem d_prog_82_method_6_code_0 : decode prog_82_method_6_code 0 = .ok (.aload_n 0, 1) := by decide +kernel
theorem d_prog_82_method_6_code_1 : decode prog_82_method_6_code 1 = .ok (.getfield 24, 3) := by decide +kernel
theorem d_prog_82_method_6_code_4 : decode prog_82_method_6_code 4 = .ok (.ireturn, 1) := by decide +kernel
theorem d_prog_82_method_5_code_0 : decode prog_82_method_5_code 0 = .ok (.aload_n 0, 1) := by decide +kernel
theorem d_prog_82_method_5_code_1 : decode prog_82_method_5_code 1 = .ok (.getfield 21, 3) := by decide +kernel
theorem d_prog_82_method_5_code_4 : decode prog_82_method_5_code 4 = .ok (.ireturn, 1) := by decide +kernel
theorem d_prog_28_method_24_code_0 : decode prog_28_method_24_code 0 = .ok (.aload_n 0, 1) := by decide +kernel
theorem d_prog_28_method_24_code_1 : decode prog_28_method_24_code 1 = .ok (.invokevirtual 374, 3) := by decide +kernel
theorem pd_1 : parseMethodDescriptor "()I" = some ⟨[], some .int⟩ := by decide +kernel
theorem d_prog_28_method_24_code_4 : decode prog_28_method_24_code 4 = .ok (.i2l, 1) := by decide +kernel
theorem d_prog_28_method_24_code_5 : decode prog_28_method_24_code 5 = .ok (.aload_n 0, 1) := by decide +kernel
theorem d_prog_28_method_24_code_6 : decode prog_28_method_24_code 6 = .ok (.invokevirtual 360, 3) := by decide +kernel
theorem d_prog_28_method_24_code_9 : decode prog_28_method_24_code 9 = .ok (.i2l, 1) := by decide +kernel
theorem d_prog_28_method_24_code_10 : decode prog_28_method_24_code 10 = .ok (.lsub, 1) := by decide +kernel
theorem d_prog_28_method_24_code_11 : decode prog_28_method_24_code 11 = .ok (.lconst 1, 1) := by decide +kernel
theorem d_prog_28_method_24_code_12 : decode prog_28_method_24_code 12 = .ok (.ladd, 1) := by decide +kernel
theorem d_prog_28_method_24_code_13 : decode prog_28_method_24_code 13 = .ok (.lreturn, 1) := by decide +kernel
theorem pn_2 : plainName "com/example/inert_quotient/inertquotient/prism/AlikeValues" = true := by first | (simp [plainName, overriddenIn]; done) | decide +kernel
theorem d_jdk_29_method_69_code_0 : decode jdk_29_method_69_code 0 = .ok (.iload_n 0, 1) := by decide +kernel
theorem d_jdk_29_method_69_code_1 : decode jdk_29_method_69_code 1 = .ok (.iload_n 1, 1) := by decide +kernel
theorem d_jdk_29_method_69_code_2 : decode jdk_29_method_69_code 2 = .ok (.if_icmp .gt 7, 3) := by decide +kernel
theorem d_jdk_29_method_69_code_9 : decode jdk_29_method_69_code 9 = .ok (.iload_n 1, 1) := by decide +kernel
theorem d_jdk_29_method_69_code_10 : decode jdk_29_method_69_code 10 = .ok (.ireturn, 1) := by decide +kernel
theorem d_jdk_29_method_69_code_5 : decode jdk_29_method_69_code 5 = .ok (.iload_n 0, 1) := by decide +kernel
theorem d_jdk_29_method_69_code_6 : decode jdk_29_method_69_code 6 = .ok (.goto 4, 3) := by decide +kernel
theorem d_jdk_29_method_65_code_0 : decode jdk_29_method_65_code 0 = .ok (.iload_n 0, 1) := by decide +kernel
theorem d_jdk_29_method_65_code_1 : decode jdk_29_method_65_code 1 = .ok (.iload_n 1, 1) := by decide +kernel
theorem d_jdk_29_method_65_code_2 : decode jdk_29_method_65_code 2 = .ok (.if_icmp .lt 7, 3) := by decide +kernel
theorem d_jdk_29_method_65_code_9 : decode jdk_29_method_65_code 9 = .ok (.iload_n 1, 1) := by decide +kernel
theorem d_jdk_29_method_65_code_10 : decode jdk_29_method_65_code 10 = .ok (.ireturn, 1) := by decide +kernel
theorem d_jdk_29_method_65_code_5 : decode jdk_29_method_65_code 5 = .ok (.iload_n 0, 1) := by decide +kernel
theorem d_jdk_29_method_65_code_6 : decode jdk_29_method_65_code 6 = .ok (.goto 4, 3) := by decide +kernel
theorem pd_2 : parseMethodDescriptor "(II)Lcom/example/inert_quotient/inertquotient/prism/Variable;" = some ⟨[.int, .int], some (.object "com/example/inert_quotient/inertquotient/prism/Variable")⟩ := by decide +kernel
theorem pd_3 : parseMethodDescriptor "(Lcom/example/inert_quotient/inertquotient/prism/Variable;)J" = some ⟨[(.object "com/example/inert_quotient/inertquotient/prism/Variable")], some .long⟩ := by decide +kernel
theorem pd_4 : parseMethodDescriptor "(II)I" = some ⟨[.int, .int], some .int⟩ := by decide +kernel
def Q_init (Z : State) (w_INT : Addr) (a1 : Addr) (a2 : Addr) (a3 : Addr) (p4 : Int32) (p5 : Int32) (p6 : Int32) (p7 : Int32) (h0 : Heap) (n0 : Nat) (v : Option Value) (h : Heap) (L : List Loc) : Prop := (v = none) ∧ (Fr n0 L) ∧ (Keep h0 h [a1]) ∧ (Exa Z h a1 "com/example/inert_quotient/inertquotient/prism/Variable") ∧ (Fld Z h a1 "com/example/inert_quotient/inertquotient/prism/Variable" "low" "I" (.int p5)) ∧ (Fld Z h a1 "com/example/inert_quotient/inertquotient/prism/Variable" "high" "I" (.int p6))
set_option maxRecDepth 65536 in
set_option maxHeartbeats 40000000 in
theorem init (l : Launch) (Z : State) (a0 : Array Value) (hw : ∀ d ∈ tables_1, d.before a0 Z = true) (ws : List Jvm.Cond) (w_INT : Addr) (G : Gst Z w_INT) (a1 : Addr) (a2 : Addr) (a3 : Addr) (p4 : Int32) (p5 : Int32) (p6 : Int32) (p7 : Int32) (h0 : Heap) (n0 : Nat) (O0 : Old Z n0 h0) (a_0 : Exa Z h0 a1 "com/example/inert_quotient/inertquotient/prism/Variable") (a_1 : Fld Z h0 a1 "com/example/inert_quotient/inertquotient/prism/Variable" "name" "Ljava/lang/String;" .null) (a_2 : Fld Z h0 a1 "com/example/inert_quotient/inertquotient/prism/Variable" "type" "Lcom/example/inert_quotient/inertquotient/prism/Type;" .null) (a_3 : Fld Z h0 a1 "com/example/inert_quotient/inertquotient/prism/Variable" "index" "I" (.int (0 : Int32))) (a_4 : Fld Z h0 a1 "com/example/inert_quotient/inertquotient/prism/Variable" "low" "I" (.int (0 : Int32))) (a_5 : Fld Z h0 a1 "com/example/inert_quotient/inertquotient/prism/Variable" "high" "I" (.int (0 : Int32))) (a_6 : Fld Z h0 a1 "com/example/inert_quotient/inertquotient/prism/Variable" "initial" "I" (.int (0 : Int32))) (a_7 : Fld Z h0 a1 "com/example/inert_quotient/inertquotient/prism/Variable" "module" "Ljava/lang/String;" .null) (ga1 : n0 ≤ a1) :
    MetFree l (⟨"com/example/inert_quotient/inertquotient/prism/Variable", "<init>", "(Ljava/lang/String;Lcom/example/inert_quotient/inertquotient/prism/Type;IIIILjava/lang/String;)V"⟩ : MethodName) (head1 (Jvm.Cond.code (⟨"com/example/inert_quotient/inertquotient/prism/Variable", "<init>", "(Ljava/lang/String;Lcom/example/inert_quotient/inertquotient/prism/Type;IIIILjava/lang/String;)V"⟩ : MethodName) prog_82_method_1_code 8 none :: ws) ({ frames := 1, cells := 0, slots := 0, locals := 12 } : Room)) (fun a U => a = #[(.ref a1), (.ref a2), (.ref a3), (.int p4), (.int p5), (.int p6), (.int p7), .null] ∧ Z.Warmed39 U.vm ∧ U.heap = h0) (fun _ _ _ _ _ => True) (fun _ U o U' => ∃ v L, o = .returned v ∧ Q_init Z w_INT a1 a2 a3 p4 p5 p6 p7 h0 n0 v U'.heap L ∧ FrameEnd U o U' L ({ frames := 1, cells := 0, slots := 0, locals := 12 } : Room).cells ({ frames := 1, cells := 0, slots := 0, locals := 12 } : Room).slots) := by
  refine MetFree.of_bodySF (plainFor_of_name pn_0) hisR ?_
  intro p e s m args below meth c s₁ Bd hml0 hP hK
  obtain ⟨rfl, hZ, hh⟩ := hP
  have hx := Bd.exec
  have hby := Bd.bytes
  have hml : c.maxLocals = 8 := hml0
  have hown : s.vm.findClass "com/example/inert_quotient/inertquotient/prism/Variable" = some m.cls := findClass_of_methodNamed Bd.named
  have hnm := (name_of_methodNamed Bd.named Bd.method).1
  have X0 : Stand p l e ({ frames := 1, cells := 0, slots := 0, locals := 12 } : Room) s m #[(.ref a1), (.ref a2), (.ref a3), (.int p4), (.int p5), (.int p6), (.int p7), .null] below meth c s₁ [] 0 0 := Stand.of_body Bd
  have e0 : s₁.heap = h0 := by rw [← hh, Bd.state]; rfl
  have N0 := Fr.nil n0
  obtain ⟨S_w_INT, E_w_INT⟩ := id G
  have k0 : Way p e below (s₁.setTop (entryFrame m #[(.ref a1), (.ref a2), (.ref a3), (.int p4), (.int p5), (.int p6), (.int p7), .null] 8)) s₁ (mkF m 0 #[rv a1, rv a2, rv a3, iv p4, iv p5, iv p6, iv p7, .val .null] []) := fun t k => castTop (by first | (simp [entryFrame, mkF, argsToLocals, Value.category]; done) | rfl) k
  generalize s₁.setTop (entryFrame m #[(.ref a1), (.ref a2), (.ref a3), (.int p4), (.int p5), (.int p6), (.int p7), .null] 8) = S0 at k0 ⊢
  have k1 : Way p e below S0 s₁ (mkF m 1 #[rv a1, rv a2, rv a3, iv p4, iv p5, iv p6, iv p7, .val .null] [(.ref a1)]) := by
    intro t k
    refine k0 t ?_
    refine XS.aloadN X0.here hx rfl (hb hby d_prog_82_method_1_code_0) rfl rfl ?_
    show Steps p.tables e below (s₁.setTop (mkF m 1 #[rv a1, rv a2, rv a3, iv p4, iv p5, iv p6, iv p7, .val .null] [(.ref a1)])) _
    exact k
  obtain ⟨T2, X2, e2, st2⟩ := initO X0 hx hZ hown (hw _ (List.mem_of_getElem? (i := 21) rfl)) (hw _ (List.mem_of_getElem? (i := 22) rfl)) (hw _ (List.mem_of_getElem? (i := 23) rfl)) e0 (g := (mkF m 1 #[rv a1, rv a2, rv a3, iv p4, iv p5, iv p6, iv p7, .val .null] [(.ref a1)])) rfl (by rw [hml]; rfl) rfl (hb hby d_prog_82_method_1_code_1) (by decide) (W := 0) (by show 2 * 0 + _ ≤ _; exact Nat.le_of_eq rfl) (by decide)
  have k3 : Way p e below S0 T2 (mkF m 4 #[rv a1, rv a2, rv a3, iv p4, iv p5, iv p6, iv p7, .val .null] []) := fun t k => k1 t (st2 _ k)
  have k4 : Way p e below S0 T2 (mkF m 6 #[rv a1, rv a2, rv a3, iv p4, iv p5, iv p6, iv p7, .val .null] [(.ref a2), (.ref a1)]) := by
    intro t k
    refine k3 t ?_
    refine XS.aloadN X2.here hx rfl (hb hby d_prog_82_method_1_code_4) rfl rfl ?_
    show Steps p.tables e below (T2.setTop (mkF m 5 #[rv a1, rv a2, rv a3, iv p4, iv p5, iv p6, iv p7, .val .null] [(.ref a1)])) _
    refine XS.aloadN X2.here hx rfl (hb hby d_prog_82_method_1_code_5) rfl rfl ?_
    show Steps p.tables e below (T2.setTop (mkF m 6 #[rv a1, rv a2, rv a3, iv p4, iv p5, iv p6, iv p7, .val .null] [(.ref a2), (.ref a1)])) _
    exact k
  obtain ⟨T5, h5, X5, e5, W5, st5⟩ := putF X2 hx hZ hown (host := "") (Or.inl (hw _ (List.mem_of_getElem? (i := 24) rfl))) Via.refl e2 a_1 a_0 (Or.inr ⟨(hw _ (List.mem_of_getElem? (i := 25) rfl)), rfl, hnm⟩) (hw _ (List.mem_of_getElem? (i := 5) rfl)) (ty := (.object "java/lang/String")) (by decide) rfl rfl (g := (mkF m 6 #[rv a1, rv a2, rv a3, iv p4, iv p5, iv p6, iv p7, .val .null] [(.ref a2), (.ref a1)])) rfl rfl (hb hby d_prog_82_method_1_code_6)
  have O5 := O0.wr W5 ga1
  have N5 := Fr.snoc X5 N0 ga1
  have K5 : Keep h0 h5 [a1] := (Keep.refl h0 [a1]).wr W5 (Or.inl (List.mem_of_getElem? (i := 0) rfl))
  have fw5 : Fld Z h5 a1 "com/example/inert_quotient/inertquotient/prism/Variable" "name" "Ljava/lang/String;" (.ref a2) := a_1.same W5
  have k6 : Way p e below S0 T5 (mkF m 9 #[rv a1, rv a2, rv a3, iv p4, iv p5, iv p6, iv p7, .val .null] []) := fun t k => k4 t (st5 _ k)
  have k7 : Way p e below S0 T5 (mkF m 11 #[rv a1, rv a2, rv a3, iv p4, iv p5, iv p6, iv p7, .val .null] [(.ref a3), (.ref a1)]) := by
    intro t k
    refine k6 t ?_
    refine XS.aloadN X5.here hx rfl (hb hby d_prog_82_method_1_code_9) rfl rfl ?_
    show Steps p.tables e below (T5.setTop (mkF m 10 #[rv a1, rv a2, rv a3, iv p4, iv p5, iv p6, iv p7, .val .null] [(.ref a1)])) _
    refine XS.aloadN X5.here hx rfl (hb hby d_prog_82_method_1_code_10) rfl rfl ?_
    show Steps p.tables e below (T5.setTop (mkF m 11 #[rv a1, rv a2, rv a3, iv p4, iv p5, iv p6, iv p7, .val .null] [(.ref a3), (.ref a1)])) _
    exact k
  have f8 : Fld Z h5 a1 "com/example/inert_quotient/inertquotient/prism/Variable" "type" "Lcom/example/inert_quotient/inertquotient/prism/Type;" .null := (a_2.other W5 (Or.inr (slot_ne (Or.inr (hw _ (List.mem_of_getElem? (i := 27) rfl))) (Or.inr (hw _ (List.mem_of_getElem? (i := 25) rfl))) (by decide) (t := (.object "com/example/inert_quotient/inertquotient/prism/Type")) (t' := (.object "java/lang/String")) (by decide) (by decide))))
  have f9 : Exa Z h5 a1 "com/example/inert_quotient/inertquotient/prism/Variable" := (a_0.wr W5)
  obtain ⟨T10, h10, X10, e10, W10, st10⟩ := putF X5 hx hZ hown (host := "") (Or.inl (hw _ (List.mem_of_getElem? (i := 26) rfl))) Via.refl e5 f8 f9 (Or.inr ⟨(hw _ (List.mem_of_getElem? (i := 27) rfl)), rfl, hnm⟩) (hw _ (List.mem_of_getElem? (i := 5) rfl)) (ty := (.object "com/example/inert_quotient/inertquotient/prism/Type")) (by decide) rfl rfl (g := (mkF m 11 #[rv a1, rv a2, rv a3, iv p4, iv p5, iv p6, iv p7, .val .null] [(.ref a3), (.ref a1)])) rfl rfl (hb hby d_prog_82_method_1_code_11)
  have O10 := O5.wr W10 ga1
  have N10 := Fr.snoc X10 N5 ga1
  have K10 : Keep h0 h10 [a1] := K5.wr W10 (Or.inl (List.mem_of_getElem? (i := 0) rfl))
  have fw10 : Fld Z h10 a1 "com/example/inert_quotient/inertquotient/prism/Variable" "type" "Lcom/example/inert_quotient/inertquotient/prism/Type;" (.ref a3) := f8.same W10
  have k11 : Way p e below S0 T10 (mkF m 14 #[rv a1, rv a2, rv a3, iv p4, iv p5, iv p6, iv p7, .val .null] []) := fun t k => k7 t (st10 _ k)
  have k12 : Way p e below S0 T10 (mkF m 16 #[rv a1, rv a2, rv a3, iv p4, iv p5, iv p6, iv p7, .val .null] [(.int p4), (.ref a1)]) := by
    intro t k
    refine k11 t ?_
    refine XS.aloadN X10.here hx rfl (hb hby d_prog_82_method_1_code_14) rfl rfl ?_
    show Steps p.tables e below (T10.setTop (mkF m 15 #[rv a1, rv a2, rv a3, iv p4, iv p5, iv p6, iv p7, .val .null] [(.ref a1)])) _
    refine XS.iloadN X10.here hx rfl (hb hby d_prog_82_method_1_code_15) rfl ?_
    show Steps p.tables e below (T10.setTop (mkF m 16 #[rv a1, rv a2, rv a3, iv p4, iv p5, iv p6, iv p7, .val .null] [(.int p4), (.ref a1)])) _
    exact k
  have f13 : Fld Z h10 a1 "com/example/inert_quotient/inertquotient/prism/Variable" "index" "I" (.int (0 : Int32)) := ((a_3.other W5 (Or.inr (slot_ne (Or.inr (hw _ (List.mem_of_getElem? (i := 29) rfl))) (Or.inr (hw _ (List.mem_of_getElem? (i := 25) rfl))) (by decide) (t := .int) (t' := (.object "java/lang/String")) (by decide) (by decide)))).other W10 (Or.inr (slot_ne (Or.inr (hw _ (List.mem_of_getElem? (i := 29) rfl))) (Or.inr (hw _ (List.mem_of_getElem? (i := 27) rfl))) (by decide) (t := .int) (t' := (.object "com/example/inert_quotient/inertquotient/prism/Type")) (by decide) (by decide))))
  have f14 : Exa Z h10 a1 "com/example/inert_quotient/inertquotient/prism/Variable" := (f9.wr W10)
  obtain ⟨T15, h15, X15, e15, W15, st15⟩ := putF X10 hx hZ hown (host := "") (Or.inl (hw _ (List.mem_of_getElem? (i := 28) rfl))) Via.refl e10 f13 f14 (Or.inr ⟨(hw _ (List.mem_of_getElem? (i := 29) rfl)), rfl, hnm⟩) (hw _ (List.mem_of_getElem? (i := 5) rfl)) (ty := .int) (by decide) rfl rfl (g := (mkF m 16 #[rv a1, rv a2, rv a3, iv p4, iv p5, iv p6, iv p7, .val .null] [(.int p4), (.ref a1)])) rfl rfl (hb hby d_prog_82_method_1_code_16)
  have O15 := O10.wr W15 ga1
  have N15 := Fr.snoc X15 N10 ga1
  have K15 : Keep h0 h15 [a1] := K10.wr W15 (Or.inl (List.mem_of_getElem? (i := 0) rfl))
  have fw15 : Fld Z h15 a1 "com/example/inert_quotient/inertquotient/prism/Variable" "index" "I" (.int p4) := f13.same W15
  have k16 : Way p e below S0 T15 (mkF m 19 #[rv a1, rv a2, rv a3, iv p4, iv p5, iv p6, iv p7, .val .null] []) := fun t k => k12 t (st15 _ k)
  have k17 : Way p e below S0 T15 (mkF m 22 #[rv a1, rv a2, rv a3, iv p4, iv p5, iv p6, iv p7, .val .null] [(.int p5), (.ref a1)]) := by
    intro t k
    refine k16 t ?_
    refine XS.aloadN X15.here hx rfl (hb hby d_prog_82_method_1_code_19) rfl rfl ?_
    show Steps p.tables e below (T15.setTop (mkF m 20 #[rv a1, rv a2, rv a3, iv p4, iv p5, iv p6, iv p7, .val .null] [(.ref a1)])) _
    refine XS.iload X15.here hx rfl (hb hby d_prog_82_method_1_code_20) rfl ?_
    show Steps p.tables e below (T15.setTop (mkF m 22 #[rv a1, rv a2, rv a3, iv p4, iv p5, iv p6, iv p7, .val .null] [(.int p5), (.ref a1)])) _
    exact k
  have f18 : Fld Z h15 a1 "com/example/inert_quotient/inertquotient/prism/Variable" "low" "I" (.int (0 : Int32)) := (((a_4.other W5 (Or.inr (slot_ne (Or.inr (hw _ (List.mem_of_getElem? (i := 31) rfl))) (Or.inr (hw _ (List.mem_of_getElem? (i := 25) rfl))) (by decide) (t := .int) (t' := (.object "java/lang/String")) (by decide) (by decide)))).other W10 (Or.inr (slot_ne (Or.inr (hw _ (List.mem_of_getElem? (i := 31) rfl))) (Or.inr (hw _ (List.mem_of_getElem? (i := 27) rfl))) (by decide) (t := .int) (t' := (.object "com/example/inert_quotient/inertquotient/prism/Type")) (by decide) (by decide)))).other W15 (Or.inr (slot_ne (Or.inr (hw _ (List.mem_of_getElem? (i := 31) rfl))) (Or.inr (hw _ (List.mem_of_getElem? (i := 29) rfl))) (by decide) (t := .int) (t' := .int) (by decide) (by decide))))
  have f19 : Exa Z h15 a1 "com/example/inert_quotient/inertquotient/prism/Variable" := (f14.wr W15)
  obtain ⟨T20, h20, X20, e20, W20, st20⟩ := putF X15 hx hZ hown (host := "") (Or.inl (hw _ (List.mem_of_getElem? (i := 30) rfl))) Via.refl e15 f18 f19 (Or.inr ⟨(hw _ (List.mem_of_getElem? (i := 31) rfl)), rfl, hnm⟩) (hw _ (List.mem_of_getElem? (i := 5) rfl)) (ty := .int) (by decide) rfl rfl (g := (mkF m 22 #[rv a1, rv a2, rv a3, iv p4, iv p5, iv p6, iv p7, .val .null] [(.int p5), (.ref a1)])) rfl rfl (hb hby d_prog_82_method_1_code_22)
  have O20 := O15.wr W20 ga1
  have N20 := Fr.snoc X20 N15 ga1
  have K20 : Keep h0 h20 [a1] := K15.wr W20 (Or.inl (List.mem_of_getElem? (i := 0) rfl))
  have fw20 : Fld Z h20 a1 "com/example/inert_quotient/inertquotient/prism/Variable" "low" "I" (.int p5) := f18.same W20
  have k21 : Way p e below S0 T20 (mkF m 25 #[rv a1, rv a2, rv a3, iv p4, iv p5, iv p6, iv p7, .val .null] []) := fun t k => k17 t (st20 _ k)
  have k22 : Way p e below S0 T20 (mkF m 28 #[rv a1, rv a2, rv a3, iv p4, iv p5, iv p6, iv p7, .val .null] [(.int p6), (.ref a1)]) := by
    intro t k
    refine k21 t ?_
    refine XS.aloadN X20.here hx rfl (hb hby d_prog_82_method_1_code_25) rfl rfl ?_
    show Steps p.tables e below (T20.setTop (mkF m 26 #[rv a1, rv a2, rv a3, iv p4, iv p5, iv p6, iv p7, .val .null] [(.ref a1)])) _
    refine XS.iload X20.here hx rfl (hb hby d_prog_82_method_1_code_26) rfl ?_
    show Steps p.tables e below (T20.setTop (mkF m 28 #[rv a1, rv a2, rv a3, iv p4, iv p5, iv p6, iv p7, .val .null] [(.int p6), (.ref a1)])) _
    exact k
  have f23 : Fld Z h20 a1 "com/example/inert_quotient/inertquotient/prism/Variable" "high" "I" (.int (0 : Int32)) := ((((a_5.other W5 (Or.inr (slot_ne (Or.inr (hw _ (List.mem_of_getElem? (i := 33) rfl))) (Or.inr (hw _ (List.mem_of_getElem? (i := 25) rfl))) (by decide) (t := .int) (t' := (.object "java/lang/String")) (by decide) (by decide)))).other W10 (Or.inr (slot_ne (Or.inr (hw _ (List.mem_of_getElem? (i := 33) rfl))) (Or.inr (hw _ (List.mem_of_getElem? (i := 27) rfl))) (by decide) (t := .int) (t' := (.object "com/example/inert_quotient/inertquotient/prism/Type")) (by decide) (by decide)))).other W15 (Or.inr (slot_ne (Or.inr (hw _ (List.mem_of_getElem? (i := 33) rfl))) (Or.inr (hw _ (List.mem_of_getElem? (i := 29) rfl))) (by decide) (t := .int) (t' := .int) (by decide) (by decide)))).other W20 (Or.inr (slot_ne (Or.inr (hw _ (List.mem_of_getElem? (i := 33) rfl))) (Or.inr (hw _ (List.mem_of_getElem? (i := 31) rfl))) (by decide) (t := .int) (t' := .int) (by decide) (by decide))))
  have f24 : Exa Z h20 a1 "com/example/inert_quotient/inertquotient/prism/Variable" := (f19.wr W20)
  obtain ⟨T25, h25, X25, e25, W25, st25⟩ := putF X20 hx hZ hown (host := "") (Or.inl (hw _ (List.mem_of_getElem? (i := 32) rfl))) Via.refl e20 f23 f24 (Or.inr ⟨(hw _ (List.mem_of_getElem? (i := 33) rfl)), rfl, hnm⟩) (hw _ (List.mem_of_getElem? (i := 5) rfl)) (ty := .int) (by decide) rfl rfl (g := (mkF m 28 #[rv a1, rv a2, rv a3, iv p4, iv p5, iv p6, iv p7, .val .null] [(.int p6), (.ref a1)])) rfl rfl (hb hby d_prog_82_method_1_code_28)
  have O25 := O20.wr W25 ga1
  have N25 := Fr.snoc X25 N20 ga1
  have K25 : Keep h0 h25 [a1] := K20.wr W25 (Or.inl (List.mem_of_getElem? (i := 0) rfl))
  have fw25 : Fld Z h25 a1 "com/example/inert_quotient/inertquotient/prism/Variable" "high" "I" (.int p6) := f23.same W25
  have k26 : Way p e below S0 T25 (mkF m 31 #[rv a1, rv a2, rv a3, iv p4, iv p5, iv p6, iv p7, .val .null] []) := fun t k => k22 t (st25 _ k)
  have k27 : Way p e below S0 T25 (mkF m 34 #[rv a1, rv a2, rv a3, iv p4, iv p5, iv p6, iv p7, .val .null] [(.int p7), (.ref a1)]) := by
    intro t k
    refine k26 t ?_
    refine XS.aloadN X25.here hx rfl (hb hby d_prog_82_method_1_code_31) rfl rfl ?_
    show Steps p.tables e below (T25.setTop (mkF m 32 #[rv a1, rv a2, rv a3, iv p4, iv p5, iv p6, iv p7, .val .null] [(.ref a1)])) _
    refine XS.iload X25.here hx rfl (hb hby d_prog_82_method_1_code_32) rfl ?_
    show Steps p.tables e below (T25.setTop (mkF m 34 #[rv a1, rv a2, rv a3, iv p4, iv p5, iv p6, iv p7, .val .null] [(.int p7), (.ref a1)])) _
    exact k
  have f28 : Fld Z h25 a1 "com/example/inert_quotient/inertquotient/prism/Variable" "initial" "I" (.int (0 : Int32)) := (((((a_6.other W5 (Or.inr (slot_ne (Or.inr (hw _ (List.mem_of_getElem? (i := 35) rfl))) (Or.inr (hw _ (List.mem_of_getElem? (i := 25) rfl))) (by decide) (t := .int) (t' := (.object "java/lang/String")) (by decide) (by decide)))).other W10 (Or.inr (slot_ne (Or.inr (hw _ (List.mem_of_getElem? (i := 35) rfl))) (Or.inr (hw _ (List.mem_of_getElem? (i := 27) rfl))) (by decide) (t := .int) (t' := (.object "com/example/inert_quotient/inertquotient/prism/Type")) (by decide) (by decide)))).other W15 (Or.inr (slot_ne (Or.inr (hw _ (List.mem_of_getElem? (i := 35) rfl))) (Or.inr (hw _ (List.mem_of_getElem? (i := 29) rfl))) (by decide) (t := .int) (t' := .int) (by decide) (by decide)))).other W20 (Or.inr (slot_ne (Or.inr (hw _ (List.mem_of_getElem? (i := 35) rfl))) (Or.inr (hw _ (List.mem_of_getElem? (i := 31) rfl))) (by decide) (t := .int) (t' := .int) (by decide) (by decide)))).other W25 (Or.inr (slot_ne (Or.inr (hw _ (List.mem_of_getElem? (i := 35) rfl))) (Or.inr (hw _ (List.mem_of_getElem? (i := 33) rfl))) (by decide) (t := .int) (t' := .int) (by decide) (by decide))))
  have f29 : Exa Z h25 a1 "com/example/inert_quotient/inertquotient/prism/Variable" := (f24.wr W25)
  obtain ⟨T30, h30, X30, e30, W30, st30⟩ := putF X25 hx hZ hown (host := "") (Or.inl (hw _ (List.mem_of_getElem? (i := 34) rfl))) Via.refl e25 f28 f29 (Or.inr ⟨(hw _ (List.mem_of_getElem? (i := 35) rfl)), rfl, hnm⟩) (hw _ (List.mem_of_getElem? (i := 5) rfl)) (ty := .int) (by decide) rfl rfl (g := (mkF m 34 #[rv a1, rv a2, rv a3, iv p4, iv p5, iv p6, iv p7, .val .null] [(.int p7), (.ref a1)])) rfl rfl (hb hby d_prog_82_method_1_code_34)
  have O30 := O25.wr W30 ga1
  have N30 := Fr.snoc X30 N25 ga1
  have K30 : Keep h0 h30 [a1] := K25.wr W30 (Or.inl (List.mem_of_getElem? (i := 0) rfl))
  have fw30 : Fld Z h30 a1 "com/example/inert_quotient/inertquotient/prism/Variable" "initial" "I" (.int p7) := f28.same W30
  have k31 : Way p e below S0 T30 (mkF m 37 #[rv a1, rv a2, rv a3, iv p4, iv p5, iv p6, iv p7, .val .null] []) := fun t k => k27 t (st30 _ k)
  have k32 : Way p e below S0 T30 (mkF m 40 #[rv a1, rv a2, rv a3, iv p4, iv p5, iv p6, iv p7, .val .null] [.null, (.ref a1)]) := by
    intro t k
    refine k31 t ?_
    refine XS.aloadN X30.here hx rfl (hb hby d_prog_82_method_1_code_37) rfl rfl ?_
    show Steps p.tables e below (T30.setTop (mkF m 38 #[rv a1, rv a2, rv a3, iv p4, iv p5, iv p6, iv p7, .val .null] [(.ref a1)])) _
    refine XS.aload X30.here hx rfl (hb hby d_prog_82_method_1_code_38) rfl rfl ?_
    show Steps p.tables e below (T30.setTop (mkF m 40 #[rv a1, rv a2, rv a3, iv p4, iv p5, iv p6, iv p7, .val .null] [.null, (.ref a1)])) _
    exact k
  have f33 : Fld Z h30 a1 "com/example/inert_quotient/inertquotient/prism/Variable" "module" "Ljava/lang/String;" .null := ((((((a_7.other W5 (Or.inr (slot_ne (Or.inr (hw _ (List.mem_of_getElem? (i := 37) rfl))) (Or.inr (hw _ (List.mem_of_getElem? (i := 25) rfl))) (by decide) (t := (.object "java/lang/String")) (t' := (.object "java/lang/String")) (by decide) (by decide)))).other W10 (Or.inr (slot_ne (Or.inr (hw _ (List.mem_of_getElem? (i := 37) rfl))) (Or.inr (hw _ (List.mem_of_getElem? (i := 27) rfl))) (by decide) (t := (.object "java/lang/String")) (t' := (.object "com/example/inert_quotient/inertquotient/prism/Type")) (by decide) (by decide)))).other W15 (Or.inr (slot_ne (Or.inr (hw _ (List.mem_of_getElem? (i := 37) rfl))) (Or.inr (hw _ (List.mem_of_getElem? (i := 29) rfl))) (by decide) (t := (.object "java/lang/String")) (t' := .int) (by decide) (by decide)))).other W20 (Or.inr (slot_ne (Or.inr (hw _ (List.mem_of_getElem? (i := 37) rfl))) (Or.inr (hw _ (List.mem_of_getElem? (i := 31) rfl))) (by decide) (t := (.object "java/lang/String")) (t' := .int) (by decide) (by decide)))).other W25 (Or.inr (slot_ne (Or.inr (hw _ (List.mem_of_getElem? (i := 37) rfl))) (Or.inr (hw _ (List.mem_of_getElem? (i := 33) rfl))) (by decide) (t := (.object "java/lang/String")) (t' := .int) (by decide) (by decide)))).other W30 (Or.inr (slot_ne (Or.inr (hw _ (List.mem_of_getElem? (i := 37) rfl))) (Or.inr (hw _ (List.mem_of_getElem? (i := 35) rfl))) (by decide) (t := (.object "java/lang/String")) (t' := .int) (by decide) (by decide))))
  have f34 : Exa Z h30 a1 "com/example/inert_quotient/inertquotient/prism/Variable" := (f29.wr W30)
  obtain ⟨T35, h35, X35, e35, W35, st35⟩ := putF X30 hx hZ hown (host := "") (Or.inl (hw _ (List.mem_of_getElem? (i := 36) rfl))) Via.refl e30 f33 f34 (Or.inr ⟨(hw _ (List.mem_of_getElem? (i := 37) rfl)), rfl, hnm⟩) (hw _ (List.mem_of_getElem? (i := 5) rfl)) (ty := (.object "java/lang/String")) (by decide) rfl rfl (g := (mkF m 40 #[rv a1, rv a2, rv a3, iv p4, iv p5, iv p6, iv p7, .val .null] [.null, (.ref a1)])) rfl rfl (hb hby d_prog_82_method_1_code_40)
  have O35 := O30.wr W35 ga1
  have N35 := Fr.snoc X35 N30 ga1
  have K35 : Keep h0 h35 [a1] := K30.wr W35 (Or.inl (List.mem_of_getElem? (i := 0) rfl))
  have fw35 : Fld Z h35 a1 "com/example/inert_quotient/inertquotient/prism/Variable" "module" "Ljava/lang/String;" .null := f33.same W35
  have k36 : Way p e below S0 T35 (mkF m 43 #[rv a1, rv a2, rv a3, iv p4, iv p5, iv p6, iv p7, .val .null] []) := fun t k => k32 t (st35 _ k)
  obtain ⟨fs, hr, hrun, hended, hW, hsame⟩ := X35.leave (v := none) (fun _ => rfl)
  have f37 : Exa Z h35 a1 "com/example/inert_quotient/inertquotient/prism/Variable" := (f34.wr W35)
  have f38 : Fld Z h35 a1 "com/example/inert_quotient/inertquotient/prism/Variable" "low" "I" (.int p5) := (((fw20.other W25 (Or.inr (slot_ne (Or.inr (hw _ (List.mem_of_getElem? (i := 31) rfl))) (Or.inr (hw _ (List.mem_of_getElem? (i := 33) rfl))) (by decide) (t := .int) (t' := .int) (by decide) (by decide)))).other W30 (Or.inr (slot_ne (Or.inr (hw _ (List.mem_of_getElem? (i := 31) rfl))) (Or.inr (hw _ (List.mem_of_getElem? (i := 35) rfl))) (by decide) (t := .int) (t' := .int) (by decide) (by decide)))).other W35 (Or.inr (slot_ne (Or.inr (hw _ (List.mem_of_getElem? (i := 31) rfl))) (Or.inr (hw _ (List.mem_of_getElem? (i := 37) rfl))) (by decide) (t := .int) (t' := (.object "java/lang/String")) (by decide) (by decide))))
  have f39 : Fld Z h35 a1 "com/example/inert_quotient/inertquotient/prism/Variable" "high" "I" (.int p6) := ((fw25.other W30 (Or.inr (slot_ne (Or.inr (hw _ (List.mem_of_getElem? (i := 33) rfl))) (Or.inr (hw _ (List.mem_of_getElem? (i := 35) rfl))) (by decide) (t := .int) (t' := .int) (by decide) (by decide)))).other W35 (Or.inr (slot_ne (Or.inr (hw _ (List.mem_of_getElem? (i := 33) rfl))) (Or.inr (hw _ (List.mem_of_getElem? (i := 37) rfl))) (by decide) (t := .int) (t' := (.object "java/lang/String")) (by decide) (by decide))))
  refine ⟨_, _, k36 _ (X35.returnOut hx Bd.returns (hb hby d_prog_82_method_1_code_43) hr), hrun, hended, _, _, rfl, ?_, ⟨_, rfl⟩, hW, hsame.mono (by decide) (by decide)⟩
  show Q_init Z w_INT a1 a2 a3 p4 p5 p6 p7 h0 n0 _ T35.heap _
  rw [e35]
  exact ⟨rfl, N35, K35, f37, f38, f39⟩
def Q_vmake (Z : State) (w_INT : Addr) (p1 : Int32) (p2 : Int32) (h0 : Heap) (n0 : Nat) (v : Option Value) (h : Heap) (L : List Loc) : Prop := ∃ b1 : Addr, (v = some (.ref b1)) ∧ (Fr n0 L) ∧ (Keep h0 h []) ∧ (h0.size ≤ b1) ∧ (Exa Z h b1 "com/example/inert_quotient/inertquotient/prism/Variable") ∧ (Fld Z h b1 "com/example/inert_quotient/inertquotient/prism/Variable" "low" "I" (.int p1)) ∧ (Fld Z h b1 "com/example/inert_quotient/inertquotient/prism/Variable" "high" "I" (.int p2))
set_option maxRecDepth 65536 in
set_option maxHeartbeats 40000000 in
theorem vmake (l : Launch) (Z : State) (a0 : Array Value) (hw : ∀ d ∈ tables_1, d.before a0 Z = true) (ws : List Jvm.Cond) (w_INT : Addr) (G : Gst Z w_INT) (p1 : Int32) (p2 : Int32) (h0 : Heap) (n0 : Nat) (O0 : Old Z n0 h0) :
    MetFree l (⟨"com/example/inert_quotient/inertquotient/prism/AlikeValuesSpanPinLaw", "v", "(II)Lcom/example/inert_quotient/inertquotient/prism/Variable;"⟩ : MethodName) (head1 (Jvm.Cond.code (⟨"com/example/inert_quotient/inertquotient/prism/AlikeValuesSpanPinLaw", "v", "(II)Lcom/example/inert_quotient/inertquotient/prism/Variable;"⟩ : MethodName) method_2_code 2 (some (.object "com/example/inert_quotient/inertquotient/prism/Variable")) :: ws) ({ frames := 2, cells := 3, slots := 15, locals := 32 } : Room)) (fun a U => a = #[(.int p1), (.int p2)] ∧ Z.Warmed39 U.vm ∧ U.heap = h0) (fun _ _ _ _ _ => True) (fun _ U o U' => ∃ v L, o = .returned v ∧ Q_vmake Z w_INT p1 p2 h0 n0 v U'.heap L ∧ ReturnedEndW U o U' L ({ frames := 2, cells := 3, slots := 15, locals := 32 } : Room).cells ({ frames := 2, cells := 3, slots := 15, locals := 32 } : Room).slots) := by
  refine MetFree.of_bodySF (plainFor_of_name pn_1) hisR ?_
  intro p e s m args below meth c s₁ Bd hml0 hP hK
  obtain ⟨rfl, hZ, hh⟩ := hP
  have hx := Bd.exec
  have hby := Bd.bytes
  have hml : c.maxLocals = 2 := hml0
  have hown : s.vm.findClass "com/example/inert_quotient/inertquotient/prism/AlikeValuesSpanPinLaw" = some m.cls := findClass_of_methodNamed Bd.named
  have hnm := (name_of_methodNamed Bd.named Bd.method).1
  have X0 : Stand p l e ({ frames := 2, cells := 3, slots := 15, locals := 32 } : Room) s m #[(.int p1), (.int p2)] below meth c s₁ [] 0 0 := Stand.of_body Bd
  have e0 : s₁.heap = h0 := by rw [← hh, Bd.state]; rfl
  have N0 := Fr.nil n0
  have X0 : Stand p l e ({ frames := 2, cells := 3, slots := 15, locals := 32 } : Room) (s.setVm s.vm) m #[(.int p1), (.int p2)] below meth c s₁ [] 0 0 := X0
  have hS0 : s.Since s.vm 0 := (State.WarmedH.refl s).since 0
  obtain ⟨S_w_INT, E_w_INT⟩ := id G
  have k0 : Way p e below (s₁.setTop (entryFrame m #[(.int p1), (.int p2)] 2)) s₁ (mkF m 0 #[iv p1, iv p2] []) := fun t k => castTop (by first | (simp [entryFrame, mkF, argsToLocals, Value.category]; done) | rfl) k
  generalize s₁.setTop (entryFrame m #[(.int p1), (.int p2)] 2) = S0 at k0 ⊢
  obtain ⟨T1, h1, X1, e1, E1, A1, D1, U1, st1⟩ := newO X0 hx hZ hown (hw _ (List.mem_of_getElem? (i := 4) rfl)) (hw _ (List.mem_of_getElem? (i := 5) rfl)) (hw _ (List.mem_of_getElem? (i := 6) rfl)) e0 (g := (mkF m 0 #[iv p1, iv p2] [])) rfl (hb hby d_method_2_code_0) (by decide) (by decide)
  obtain ⟨b1, g1⟩ : ∃ z, z = h0.size := ⟨_, rfl⟩
  rw [← g1] at A1 D1 U1 st1
  have O1 := O0.ext E1
  have K1 : Keep h0 h1 [] := (Keep.refl h0 []).ext E1
  have i1_name : Fld Z h1 b1 "com/example/inert_quotient/inertquotient/prism/Variable" "name" "Ljava/lang/String;" .null := D1 (Or.inr (hw _ (List.mem_of_getElem? (i := 25) rfl))) (ty := (.object "java/lang/String")) (by decide)
  have i1_type : Fld Z h1 b1 "com/example/inert_quotient/inertquotient/prism/Variable" "type" "Lcom/example/inert_quotient/inertquotient/prism/Type;" .null := D1 (Or.inr (hw _ (List.mem_of_getElem? (i := 27) rfl))) (ty := (.object "com/example/inert_quotient/inertquotient/prism/Type")) (by decide)
  have i1_index : Fld Z h1 b1 "com/example/inert_quotient/inertquotient/prism/Variable" "index" "I" (.int (0 : Int32)) := D1 (Or.inr (hw _ (List.mem_of_getElem? (i := 29) rfl))) (ty := .int) (by decide)
  have i1_low : Fld Z h1 b1 "com/example/inert_quotient/inertquotient/prism/Variable" "low" "I" (.int (0 : Int32)) := D1 (Or.inr (hw _ (List.mem_of_getElem? (i := 31) rfl))) (ty := .int) (by decide)
  have i1_high : Fld Z h1 b1 "com/example/inert_quotient/inertquotient/prism/Variable" "high" "I" (.int (0 : Int32)) := D1 (Or.inr (hw _ (List.mem_of_getElem? (i := 33) rfl))) (ty := .int) (by decide)
  have i1_initial : Fld Z h1 b1 "com/example/inert_quotient/inertquotient/prism/Variable" "initial" "I" (.int (0 : Int32)) := D1 (Or.inr (hw _ (List.mem_of_getElem? (i := 35) rfl))) (ty := .int) (by decide)
  have i1_module : Fld Z h1 b1 "com/example/inert_quotient/inertquotient/prism/Variable" "module" "Ljava/lang/String;" .null := D1 (Or.inr (hw _ (List.mem_of_getElem? (i := 37) rfl))) (ty := (.object "java/lang/String")) (by decide)
  have k2 : Way p e below S0 T1 (mkF m 3 #[iv p1, iv p2] [(.ref b1)]) := fun t k => k0 t (st1 _ k)
  have k3 : Way p e below S0 T1 (mkF m 4 #[iv p1, iv p2] [(.ref b1), (.ref b1)]) := by
    intro t k
    refine k2 t ?_
    refine XS.dup X1.here hx rfl (hb hby d_method_2_code_3) rfl rfl ?_
    show Steps p.tables e below (T1.setTop (mkF m 4 #[iv p1, iv p2] [(.ref b1), (.ref b1)])) _
    exact k
  obtain ⟨la4, T4, h4, ks4, X4, e4, E4, hS4, hk4, hZ4, ho4, st4⟩ := ldcS (s := s) (vm0 := s.vm) X1 hx hZ hown (hw _ (List.mem_of_getElem? (i := 7) rfl)) (own_strW hw) e1 hS0 (Nat.zero_le _) (g := (mkF m 4 #[iv p1, iv p2] [(.ref b1), (.ref b1)])) rfl (hb hby d_method_2_code_4) (n := 4) (by decide) (by decide) (by decide) (by decide)
  have hZ := hZ4
  have hown := ho4
  have O4 := O1.ext E4
  have K4 : Keep h0 h4 [] := K1.ext E4
  have k5 : Way p e below S0 T4 (mkF m 6 #[iv p1, iv p2] [(.ref la4), (.ref b1), (.ref b1)]) := fun t k => k3 t (st4 _ k)
  obtain ⟨T6, X6, e6, st6⟩ := getS2 X4 hx hZ hown (host := "") (Or.inl (hw _ (List.mem_of_getElem? (i := 15) rfl))) Via.refl e4 (S_w_INT.ext O4.2) (g := (mkF m 6 #[iv p1, iv p2] [(.ref la4), (.ref b1), (.ref b1)])) rfl (hb hby d_method_2_code_6)
  have k7 : Way p e below S0 T6 (mkF m 9 #[iv p1, iv p2] [(.ref w_INT), (.ref la4), (.ref b1), (.ref b1)]) := fun t k => k5 t (st6 _ k)
  have k8 : Way p e below S0 T6 (mkF m 14 #[iv p1, iv p2] [.null, (.int p1), (.int p2), (.int p1), (.int (0 : Int32)), (.ref w_INT), (.ref la4), (.ref b1), (.ref b1)]) := by
    intro t k
    refine k7 t ?_
    refine XS.iconst X6.here hx rfl (hb hby d_method_2_code_9) ?_
    show Steps p.tables e below (T6.setTop (mkF m 10 #[iv p1, iv p2] [(.int (0 : Int32)), (.ref w_INT), (.ref la4), (.ref b1), (.ref b1)])) _
    refine XS.iloadN X6.here hx rfl (hb hby d_method_2_code_10) rfl ?_
    show Steps p.tables e below (T6.setTop (mkF m 11 #[iv p1, iv p2] [(.int p1), (.int (0 : Int32)), (.ref w_INT), (.ref la4), (.ref b1), (.ref b1)])) _
    refine XS.iloadN X6.here hx rfl (hb hby d_method_2_code_11) rfl ?_
    show Steps p.tables e below (T6.setTop (mkF m 12 #[iv p1, iv p2] [(.int p2), (.int p1), (.int (0 : Int32)), (.ref w_INT), (.ref la4), (.ref b1), (.ref b1)])) _
    refine XS.iloadN X6.here hx rfl (hb hby d_method_2_code_12) rfl ?_
    show Steps p.tables e below (T6.setTop (mkF m 13 #[iv p1, iv p2] [(.int p1), (.int p2), (.int p1), (.int (0 : Int32)), (.ref w_INT), (.ref la4), (.ref b1), (.ref b1)])) _
    refine XS.aconstNull X6.here hx rfl (hb hby d_method_2_code_13) ?_
    show Steps p.tables e below (T6.setTop (mkF m 14 #[iv p1, iv p2] [.null, (.int p1), (.int p2), (.int p1), (.int (0 : Int32)), (.ref w_INT), (.ref la4), (.ref b1), (.ref b1)])) _
    exact k
  have f9 : Exa Z h4 b1 "com/example/inert_quotient/inertquotient/prism/Variable" := (A1.ext E4)
  have f10 : Fld Z h4 b1 "com/example/inert_quotient/inertquotient/prism/Variable" "name" "Ljava/lang/String;" .null := (i1_name.ext E4)
  have f11 : Fld Z h4 b1 "com/example/inert_quotient/inertquotient/prism/Variable" "type" "Lcom/example/inert_quotient/inertquotient/prism/Type;" .null := (i1_type.ext E4)
  have f12 : Fld Z h4 b1 "com/example/inert_quotient/inertquotient/prism/Variable" "index" "I" (.int (0 : Int32)) := (i1_index.ext E4)
  have f13 : Fld Z h4 b1 "com/example/inert_quotient/inertquotient/prism/Variable" "low" "I" (.int (0 : Int32)) := (i1_low.ext E4)
  have f14 : Fld Z h4 b1 "com/example/inert_quotient/inertquotient/prism/Variable" "high" "I" (.int (0 : Int32)) := (i1_high.ext E4)
  have f15 : Fld Z h4 b1 "com/example/inert_quotient/inertquotient/prism/Variable" "initial" "I" (.int (0 : Int32)) := (i1_initial.ext E4)
  have f16 : Fld Z h4 b1 "com/example/inert_quotient/inertquotient/prism/Variable" "module" "Ljava/lang/String;" .null := (i1_module.ext E4)
  have ge17 : n0 ≤ b1 := Nat.le_trans (own_old O0) (Nat.le_of_eq g1.symm)
  obtain ⟨_, _, ⟨T18, L18, kk18, nn18⟩, -, X18, ⟨Lc18, hQ18, l18, y18, z18⟩, st18⟩ := X6.specialBack hx (y := (⟨"com/example/inert_quotient/inertquotient/prism/Variable", "<init>", "(Ljava/lang/String;Lcom/example/inert_quotient/inertquotient/prism/Type;IIIILjava/lang/String;)V"⟩ : MethodName)) rfl hown (mvT hZ (hw _ (List.mem_of_getElem? (i := 18) rfl))) (mvT hZ (hw _ (List.mem_of_getElem? (i := 19) rfl))) (mvT hZ (hw _ (List.mem_of_getElem? (i := 20) rfl))) (by decide) (backOf (W := 1) (init l Z a0 hw [] w_INT G b1 la4 w_INT (0 : Int32) p1 p2 p1 h4 n0 O4 (f9 : Exa Z h4 b1 "com/example/inert_quotient/inertquotient/prism/Variable") (f10 : Fld Z h4 b1 "com/example/inert_quotient/inertquotient/prism/Variable" "name" "Ljava/lang/String;" .null) (f11 : Fld Z h4 b1 "com/example/inert_quotient/inertquotient/prism/Variable" "type" "Lcom/example/inert_quotient/inertquotient/prism/Type;" .null) (f12 : Fld Z h4 b1 "com/example/inert_quotient/inertquotient/prism/Variable" "index" "I" (.int (0 : Int32))) (f13 : Fld Z h4 b1 "com/example/inert_quotient/inertquotient/prism/Variable" "low" "I" (.int (0 : Int32))) (f14 : Fld Z h4 b1 "com/example/inert_quotient/inertquotient/prism/Variable" "high" "I" (.int (0 : Int32))) (f15 : Fld Z h4 b1 "com/example/inert_quotient/inertquotient/prism/Variable" "initial" "I" (.int (0 : Int32))) (f16 : Fld Z h4 b1 "com/example/inert_quotient/inertquotient/prism/Variable" "module" "Ljava/lang/String;" .null) (ge17 : n0 ≤ b1)) hZ (hw _ (List.mem_of_getElem? (i := 20) rfl)) (hw _ (List.mem_of_getElem? (i := 6) rfl)) (by decide) (by decide)) (g := (mkF m 14 #[iv p1, iv p2] [.null, (.int p1), (.int p2), (.int p1), (.int (0 : Int32)), (.ref w_INT), (.ref la4), (.ref b1), (.ref b1)])) rfl (by rw [hml]; rfl) (Steps.refl _) (a := b1) (argsL := [(.ref la4), (.ref w_INT), (.int (0 : Int32)), (.int p1), (.int p2), (.int p1), .null]) (rest := [(.ref b1)]) (lenOf pd_0 rfl) rfl (by show 2 * 0 + _ ≤ _; exact Nat.le_of_eq rfl) (hb hby d_method_2_code_14) (fun _ _ => ⟨rfl, e6, (by decide : 3 + 0 ≤ _), (by decide : 15 + 0 ≤ _)⟩)
  dsimp only [Pt.U, Pt.locs, Pt.cells, Pt.slots] at X18 l18 y18 z18 st18 hQ18
  subst l18 y18 z18
  obtain ⟨rfl, Nq18, Kq18, po18_0, po18_1, po18_2⟩ := hQ18
  have N18 := Fr.app N0 Nq18
  have O18 := O4.keep Kq18 (allS ge17 all0)
  have gz19 : h0.size ≤ b1 := Nat.le_trans (Keep.refl h0 []).1 (Nat.le_of_eq g1.symm)
  have K18 : Keep h0 T18.heap [] := K4.trans Kq18 (allS (Or.inr gz19) all0)
  have k20 : Way p e below S0 T18 (mkF m 17 #[iv p1, iv p2] [(.ref b1)]) := fun t k => k8 t (st18.trans k)
  obtain ⟨fs, hr, hrun, hended, hRW⟩ := Stand.leaveW (s := s) (vm₁ := T4.vm) X18 hS4 (Nat.le_trans hk4 Kq18.1) (v := some (.ref b1)) (fun h => by rw [Bd.returns] at h; cases h)
  refine ⟨_, _, k20 _ (retOut X18 hx Bd.returns rfl (Or.inr (Or.inr (Or.inr (Or.inr ⟨rfl, rfl, rfl⟩)))) (hb hby d_method_2_code_17) hr), hrun, hended, _, _, rfl, ?_, own_rw hRW (by decide) (by decide)⟩
  show Q_vmake Z w_INT p1 p2 h0 n0 _ T18.heap _
  exact ⟨b1, rfl, N18, K18, gz19, po18_0, po18_1, po18_2⟩
def Q_get_high (Z : State) (w_INT : Addr) (a1 : Addr) (q1 : Int32) (h0 : Heap) (n0 : Nat) (v : Option Value) (h : Heap) (L : List Loc) : Prop := (v = some (.int q1)) ∧ (Fr n0 L) ∧ (h = h0)
set_option maxRecDepth 65536 in
set_option maxHeartbeats 40000000 in
theorem get_high (l : Launch) (Z : State) (a0 : Array Value) (hw : ∀ d ∈ tables_1, d.before a0 Z = true) (ws : List Jvm.Cond) (w_INT : Addr) (G : Gst Z w_INT) (a1 : Addr) (q1 : Int32) (h0 : Heap) (n0 : Nat) (O0 : Old Z n0 h0) (a_0 : Fld Z h0 a1 "com/example/inert_quotient/inertquotient/prism/Variable" "high" "I" (.int q1)) :
    MetFree l (⟨"com/example/inert_quotient/inertquotient/prism/Variable", "high", "()I"⟩ : MethodName) (head1 (Jvm.Cond.code (⟨"com/example/inert_quotient/inertquotient/prism/Variable", "high", "()I"⟩ : MethodName) prog_82_method_6_code 1 (some .int) :: ws) ({ frames := 0, cells := 0, slots := 0, locals := 0 } : Room)) (fun a U => a = #[(.ref a1)] ∧ Z.Warmed39 U.vm ∧ U.heap = h0) (fun _ _ _ _ _ => True) (fun _ U o U' => ∃ v L, o = .returned v ∧ Q_get_high Z w_INT a1 q1 h0 n0 v U'.heap L ∧ FrameEnd U o U' L ({ frames := 0, cells := 0, slots := 0, locals := 0 } : Room).cells ({ frames := 0, cells := 0, slots := 0, locals := 0 } : Room).slots) := by
  refine MetFree.of_bodySF (plainFor_of_name pn_0) hisR ?_
  intro p e s m args below meth c s₁ Bd hml0 hP hK
  obtain ⟨rfl, hZ, hh⟩ := hP
  have hx := Bd.exec
  have hby := Bd.bytes
  have hml : c.maxLocals = 1 := hml0
  have hown : s.vm.findClass "com/example/inert_quotient/inertquotient/prism/Variable" = some m.cls := findClass_of_methodNamed Bd.named
  have hnm := (name_of_methodNamed Bd.named Bd.method).1
  have X0 : Stand p l e ({ frames := 0, cells := 0, slots := 0, locals := 0 } : Room) s m #[(.ref a1)] below meth c s₁ [] 0 0 := Stand.of_body Bd
  have e0 : s₁.heap = h0 := by rw [← hh, Bd.state]; rfl
  have N0 := Fr.nil n0
  obtain ⟨S_w_INT, E_w_INT⟩ := id G
  have k0 : Way p e below (s₁.setTop (entryFrame m #[(.ref a1)] 1)) s₁ (mkF m 0 #[rv a1] []) := fun t k => castTop (by first | (simp [entryFrame, mkF, argsToLocals, Value.category]; done) | rfl) k
  generalize s₁.setTop (entryFrame m #[(.ref a1)] 1) = S0 at k0 ⊢
  have k1 : Way p e below S0 s₁ (mkF m 1 #[rv a1] [(.ref a1)]) := by
    intro t k
    refine k0 t ?_
    refine XS.aloadN X0.here hx rfl (hb hby d_prog_82_method_6_code_0) rfl rfl ?_
    show Steps p.tables e below (s₁.setTop (mkF m 1 #[rv a1] [(.ref a1)])) _
    exact k
  obtain ⟨T2, X2, e2, st2⟩ := getF X0 hx hZ hown (host := "") (Or.inl (hw _ (List.mem_of_getElem? (i := 32) rfl))) Via.refl e0 a_0 (g := (mkF m 1 #[rv a1] [(.ref a1)])) rfl rfl (hb hby d_prog_82_method_6_code_1)
  have k3 : Way p e below S0 T2 (mkF m 4 #[rv a1] [(.int q1)]) := fun t k => k1 t (st2 _ k)
  obtain ⟨fs, hr, hrun, hended, hW, hsame⟩ := X2.leave (v := some (.int q1)) (fun h => by rw [Bd.returns] at h; cases h)
  refine ⟨_, _, k3 _ (retOut X2 hx Bd.returns rfl (Or.inl ⟨rfl, Or.inl rfl, _, rfl⟩) (hb hby d_prog_82_method_6_code_4) hr), hrun, hended, _, _, rfl, ?_, ⟨_, rfl⟩, hW, hsame.mono (by decide) (by decide)⟩
  show Q_get_high Z w_INT a1 q1 h0 n0 _ T2.heap _
  rw [e2]
  exact ⟨rfl, N0, rfl⟩
def Q_get_low (Z : State) (w_INT : Addr) (a1 : Addr) (q1 : Int32) (h0 : Heap) (n0 : Nat) (v : Option Value) (h : Heap) (L : List Loc) : Prop := (v = some (.int q1)) ∧ (Fr n0 L) ∧ (h = h0)
set_option maxRecDepth 65536 in
set_option maxHeartbeats 40000000 in
theorem get_low (l : Launch) (Z : State) (a0 : Array Value) (hw : ∀ d ∈ tables_1, d.before a0 Z = true) (ws : List Jvm.Cond) (w_INT : Addr) (G : Gst Z w_INT) (a1 : Addr) (q1 : Int32) (h0 : Heap) (n0 : Nat) (O0 : Old Z n0 h0) (a_0 : Fld Z h0 a1 "com/example/inert_quotient/inertquotient/prism/Variable" "low" "I" (.int q1)) :
    MetFree l (⟨"com/example/inert_quotient/inertquotient/prism/Variable", "low", "()I"⟩ : MethodName) (head1 (Jvm.Cond.code (⟨"com/example/inert_quotient/inertquotient/prism/Variable", "low", "()I"⟩ : MethodName) prog_82_method_5_code 1 (some .int) :: ws) ({ frames := 0, cells := 0, slots := 0, locals := 0 } : Room)) (fun a U => a = #[(.ref a1)] ∧ Z.Warmed39 U.vm ∧ U.heap = h0) (fun _ _ _ _ _ => True) (fun _ U o U' => ∃ v L, o = .returned v ∧ Q_get_low Z w_INT a1 q1 h0 n0 v U'.heap L ∧ FrameEnd U o U' L ({ frames := 0, cells := 0, slots := 0, locals := 0 } : Room).cells ({ frames := 0, cells := 0, slots := 0, locals := 0 } : Room).slots) := by
  refine MetFree.of_bodySF (plainFor_of_name pn_0) hisR ?_
  intro p e s m args below meth c s₁ Bd hml0 hP hK
  obtain ⟨rfl, hZ, hh⟩ := hP
  have hx := Bd.exec
  have hby := Bd.bytes
  have hml : c.maxLocals = 1 := hml0
  have hown : s.vm.findClass "com/example/inert_quotient/inertquotient/prism/Variable" = some m.cls := findClass_of_methodNamed Bd.named
  have hnm := (name_of_methodNamed Bd.named Bd.method).1
  have X0 : Stand p l e ({ frames := 0, cells := 0, slots := 0, locals := 0 } : Room) s m #[(.ref a1)] below meth c s₁ [] 0 0 := Stand.of_body Bd
  have e0 : s₁.heap = h0 := by rw [← hh, Bd.state]; rfl
  have N0 := Fr.nil n0
  obtain ⟨S_w_INT, E_w_INT⟩ := id G
  have k0 : Way p e below (s₁.setTop (entryFrame m #[(.ref a1)] 1)) s₁ (mkF m 0 #[rv a1] []) := fun t k => castTop (by first | (simp [entryFrame, mkF, argsToLocals, Value.category]; done) | rfl) k
  generalize s₁.setTop (entryFrame m #[(.ref a1)] 1) = S0 at k0 ⊢
  have k1 : Way p e below S0 s₁ (mkF m 1 #[rv a1] [(.ref a1)]) := by
    intro t k
    refine k0 t ?_
    refine XS.aloadN X0.here hx rfl (hb hby d_prog_82_method_5_code_0) rfl rfl ?_
    show Steps p.tables e below (s₁.setTop (mkF m 1 #[rv a1] [(.ref a1)])) _
    exact k
  obtain ⟨T2, X2, e2, st2⟩ := getF X0 hx hZ hown (host := "") (Or.inl (hw _ (List.mem_of_getElem? (i := 30) rfl))) Via.refl e0 a_0 (g := (mkF m 1 #[rv a1] [(.ref a1)])) rfl rfl (hb hby d_prog_82_method_5_code_1)
  have k3 : Way p e below S0 T2 (mkF m 4 #[rv a1] [(.int q1)]) := fun t k => k1 t (st2 _ k)
  obtain ⟨fs, hr, hrun, hended, hW, hsame⟩ := X2.leave (v := some (.int q1)) (fun h => by rw [Bd.returns] at h; cases h)
  refine ⟨_, _, k3 _ (retOut X2 hx Bd.returns rfl (Or.inl ⟨rfl, Or.inl rfl, _, rfl⟩) (hb hby d_prog_82_method_5_code_4) hr), hrun, hended, _, _, rfl, ?_, ⟨_, rfl⟩, hW, hsame.mono (by decide) (by decide)⟩
  show Q_get_low Z w_INT a1 q1 h0 n0 _ T2.heap _
  rw [e2]
  exact ⟨rfl, N0, rfl⟩
def Q_span (Z : State) (w_INT : Addr) (a1 : Addr) (q1 : Int32) (q2 : Int32) (h0 : Heap) (n0 : Nat) (v : Option Value) (h : Heap) (L : List Loc) : Prop := (v = some (.long (((q2.toInt64) - (q1.toInt64)) + (1 : Int64)))) ∧ (Fr n0 L) ∧ (h = h0)
set_option maxRecDepth 65536 in
set_option maxHeartbeats 40000000 in
theorem span (l : Launch) (Z : State) (a0 : Array Value) (hw : ∀ d ∈ tables_1, d.before a0 Z = true) (ws : List Jvm.Cond) (w_INT : Addr) (G : Gst Z w_INT) (a1 : Addr) (q1 : Int32) (q2 : Int32) (h0 : Heap) (n0 : Nat) (O0 : Old Z n0 h0) (a_0 : Exa Z h0 a1 "com/example/inert_quotient/inertquotient/prism/Variable") (a_1 : Fld Z h0 a1 "com/example/inert_quotient/inertquotient/prism/Variable" "low" "I" (.int q1)) (a_2 : Fld Z h0 a1 "com/example/inert_quotient/inertquotient/prism/Variable" "high" "I" (.int q2)) :
    MetFree l (⟨"com/example/inert_quotient/inertquotient/prism/AlikeValues", "span", "(Lcom/example/inert_quotient/inertquotient/prism/Variable;)J"⟩ : MethodName) (head1 (Jvm.Cond.code (⟨"com/example/inert_quotient/inertquotient/prism/AlikeValues", "span", "(Lcom/example/inert_quotient/inertquotient/prism/Variable;)J"⟩ : MethodName) prog_28_method_24_code 1 (some .long) :: ws) ({ frames := 1, cells := 0, slots := 0, locals := 14 } : Room)) (fun a U => a = #[(.ref a1)] ∧ Z.Warmed39 U.vm ∧ U.heap = h0) (fun _ _ _ _ _ => True) (fun _ U o U' => ∃ v L, o = .returned v ∧ Q_span Z w_INT a1 q1 q2 h0 n0 v U'.heap L ∧ FrameEnd U o U' L ({ frames := 1, cells := 0, slots := 0, locals := 14 } : Room).cells ({ frames := 1, cells := 0, slots := 0, locals := 14 } : Room).slots) := by
  refine MetFree.of_bodySF (plainFor_of_name pn_2) hisR ?_
  intro p e s m args below meth c s₁ Bd hml0 hP hK
  obtain ⟨rfl, hZ, hh⟩ := hP
  have hx := Bd.exec
  have hby := Bd.bytes
  have hml : c.maxLocals = 1 := hml0
  have hown : s.vm.findClass "com/example/inert_quotient/inertquotient/prism/AlikeValues" = some m.cls := findClass_of_methodNamed Bd.named
  have hnm := (name_of_methodNamed Bd.named Bd.method).1
  have X0 : Stand p l e ({ frames := 1, cells := 0, slots := 0, locals := 14 } : Room) s m #[(.ref a1)] below meth c s₁ [] 0 0 := Stand.of_body Bd
  have e0 : s₁.heap = h0 := by rw [← hh, Bd.state]; rfl
  have N0 := Fr.nil n0
  obtain ⟨S_w_INT, E_w_INT⟩ := id G
  have k0 : Way p e below (s₁.setTop (entryFrame m #[(.ref a1)] 1)) s₁ (mkF m 0 #[rv a1] []) := fun t k => castTop (by first | (simp [entryFrame, mkF, argsToLocals, Value.category]; done) | rfl) k
  generalize s₁.setTop (entryFrame m #[(.ref a1)] 1) = S0 at k0 ⊢
  have k1 : Way p e below S0 s₁ (mkF m 1 #[rv a1] [(.ref a1)]) := by
    intro t k
    refine k0 t ?_
    refine XS.aloadN X0.here hx rfl (hb hby d_prog_28_method_24_code_0) rfl rfl ?_
    show Steps p.tables e below (s₁.setTop (mkF m 1 #[rv a1] [(.ref a1)])) _
    exact k
  obtain ⟨cq2, kq2, qq2a, qq2b, qq2c⟩ := isOf hZ e0 a_0
  obtain ⟨_, _, ⟨T2, L2, kk2, nn2⟩, -, X2, ⟨Lc2, hQ2, l2, y2, z2⟩, st2⟩ := X0.virtualBack hx (y := (⟨"com/example/inert_quotient/inertquotient/prism/Variable", "high", "()I"⟩ : MethodName)) (z := (⟨"com/example/inert_quotient/inertquotient/prism/Variable", "high", "()I"⟩ : MethodName)) hown (mvT hZ (hw _ (List.mem_of_getElem? (i := 42) rfl))) (mvT hZ (hw _ (List.mem_of_getElem? (i := 43) rfl))) (notFace_of_selects (args := #[]) (mvT hZ (hw _ (List.mem_of_getElem? (i := 45) rfl)))) (mvT hZ (hw _ (List.mem_of_getElem? (i := 45) rfl))) (mvT hZ (hw _ (List.mem_of_getElem? (i := 44) rfl))) (by decide) (backOf (W := 0) (get_high l Z a0 hw [] w_INT G a1 q2 h0 n0 O0 (a_2 : Fld Z h0 a1 "com/example/inert_quotient/inertquotient/prism/Variable" "high" "I" (.int q2))) hZ (hw _ (List.mem_of_getElem? (i := 46) rfl)) (hw _ (List.mem_of_getElem? (i := 6) rfl)) (by decide) (by decide)) qq2a qq2c (g := (mkF m 1 #[rv a1] [(.ref a1)])) rfl (by rw [hml]; rfl) (Steps.refl _) (argsL := []) (rest := []) (lenOf pd_1 rfl) rfl (by show 2 * 0 + _ ≤ _; exact Nat.le_of_eq rfl) (hb hby d_prog_28_method_24_code_1) (fun _ _ => ⟨rfl, e0, (by decide : 0 + 0 ≤ _), (by decide : 0 + 0 ≤ _)⟩)
  dsimp only [Pt.U, Pt.locs, Pt.cells, Pt.slots] at X2 l2 y2 z2 st2 hQ2
  subst l2 y2 z2
  obtain ⟨rfl, Nq2, e2⟩ := hQ2
  have N2 := Fr.app N0 Nq2
  have k3 : Way p e below S0 T2 (mkF m 4 #[rv a1] [(.int q2)]) := fun t k => k1 t (st2.trans k)
  have k4 : Way p e below S0 T2 (mkF m 6 #[rv a1] [(.ref a1), (.long (q2.toInt64))]) := by
    intro t k
    refine k3 t ?_
    refine XS.i2l X2.here hx rfl (hb hby d_prog_28_method_24_code_4) rfl ?_
    show Steps p.tables e below (T2.setTop (mkF m 5 #[rv a1] [(.long (q2.toInt64))])) _
    refine XS.aloadN X2.here hx rfl (hb hby d_prog_28_method_24_code_5) rfl rfl ?_
    show Steps p.tables e below (T2.setTop (mkF m 6 #[rv a1] [(.ref a1), (.long (q2.toInt64))])) _
    exact k
  obtain ⟨cq5, kq5, qq5a, qq5b, qq5c⟩ := isOf hZ e2 a_0
  obtain ⟨_, _, ⟨T5, L5, kk5, nn5⟩, -, X5, ⟨Lc5, hQ5, l5, y5, z5⟩, st5⟩ := X2.virtualBack hx (y := (⟨"com/example/inert_quotient/inertquotient/prism/Variable", "low", "()I"⟩ : MethodName)) (z := (⟨"com/example/inert_quotient/inertquotient/prism/Variable", "low", "()I"⟩ : MethodName)) hown (mvT hZ (hw _ (List.mem_of_getElem? (i := 47) rfl))) (mvT hZ (hw _ (List.mem_of_getElem? (i := 48) rfl))) (notFace_of_selects (args := #[]) (mvT hZ (hw _ (List.mem_of_getElem? (i := 50) rfl)))) (mvT hZ (hw _ (List.mem_of_getElem? (i := 50) rfl))) (mvT hZ (hw _ (List.mem_of_getElem? (i := 49) rfl))) (by decide) (backOf (W := 2) (get_low l Z a0 hw [] w_INT G a1 q1 h0 n0 O0 (a_1 : Fld Z h0 a1 "com/example/inert_quotient/inertquotient/prism/Variable" "low" "I" (.int q1))) hZ (hw _ (List.mem_of_getElem? (i := 51) rfl)) (hw _ (List.mem_of_getElem? (i := 6) rfl)) (by decide) (by decide)) qq5a qq5c (g := (mkF m 6 #[rv a1] [(.ref a1), (.long (q2.toInt64))])) rfl (by rw [hml]; rfl) (Steps.refl _) (argsL := []) (rest := [(.long (q2.toInt64))]) (lenOf pd_1 rfl) rfl (by show 2 * 0 + _ ≤ _; exact Nat.le_of_eq rfl) (hb hby d_prog_28_method_24_code_6) (fun _ _ => ⟨rfl, e2, (by decide : 0 + 0 ≤ _), (by decide : 0 + 0 ≤ _)⟩)
  dsimp only [Pt.U, Pt.locs, Pt.cells, Pt.slots] at X5 l5 y5 z5 st5 hQ5
  subst l5 y5 z5
  obtain ⟨rfl, Nq5, e5⟩ := hQ5
  have N5 := Fr.app N2 Nq5
  have k6 : Way p e below S0 T5 (mkF m 9 #[rv a1] [(.int q1), (.long (q2.toInt64))]) := fun t k => k4 t (st5.trans k)
  have k7 : Way p e below S0 T5 (mkF m 13 #[rv a1] [(.long (((q2.toInt64) - (q1.toInt64)) + (1 : Int64)))]) := by
    intro t k
    refine k6 t ?_
    refine XS.i2l X5.here hx rfl (hb hby d_prog_28_method_24_code_9) rfl ?_
    show Steps p.tables e below (T5.setTop (mkF m 10 #[rv a1] [(.long (q1.toInt64)), (.long (q2.toInt64))])) _
    refine XS.lsub X5.here hx rfl (hb hby d_prog_28_method_24_code_10) rfl ?_
    show Steps p.tables e below (T5.setTop (mkF m 11 #[rv a1] [(.long ((q2.toInt64) - (q1.toInt64)))])) _
    refine XS.lconst X5.here hx rfl (hb hby d_prog_28_method_24_code_11) ?_
    show Steps p.tables e below (T5.setTop (mkF m 12 #[rv a1] [(.long (1 : Int64)), (.long ((q2.toInt64) - (q1.toInt64)))])) _
    refine XS.ladd X5.here hx rfl (hb hby d_prog_28_method_24_code_12) rfl ?_
    show Steps p.tables e below (T5.setTop (mkF m 13 #[rv a1] [(.long (((q2.toInt64) - (q1.toInt64)) + (1 : Int64)))])) _
    exact k
  obtain ⟨fs, hr, hrun, hended, hW, hsame⟩ := X5.leave (v := some (.long (((q2.toInt64) - (q1.toInt64)) + (1 : Int64)))) (fun h => by rw [Bd.returns] at h; cases h)
  refine ⟨_, _, k7 _ (retOut X5 hx Bd.returns rfl (Or.inr (Or.inl ⟨rfl, rfl, _, rfl⟩)) (hb hby d_prog_28_method_24_code_13) hr), hrun, hended, _, _, rfl, ?_, ⟨_, rfl⟩, hW, hsame.mono (by decide) (by decide)⟩
  show Q_span Z w_INT a1 q1 q2 h0 n0 _ T5.heap _
  rw [e5]
  exact ⟨rfl, N5, rfl⟩
def Q_mmin (Z : State) (w_INT : Addr) (p1 : Int32) (p2 : Int32) (h0 : Heap) (n0 : Nat) (v : Option Value) (h : Heap) (L : List Loc) : Prop := (v = some (.int (own_min p1 p2))) ∧ (Fr n0 L) ∧ (h = h0)
set_option maxRecDepth 65536 in
set_option maxHeartbeats 40000000 in
theorem mmin (l : Launch) (Z : State) (a0 : Array Value) (hw : ∀ d ∈ tables_1, d.before a0 Z = true) (ws : List Jvm.Cond) (w_INT : Addr) (G : Gst Z w_INT) (p1 : Int32) (p2 : Int32) (h0 : Heap) (n0 : Nat) (O0 : Old Z n0 h0) :
    MetFree l (⟨"java/lang/Math", "min", "(II)I"⟩ : MethodName) (head1 (Jvm.Cond.code (⟨"java/lang/Math", "min", "(II)I"⟩ : MethodName) jdk_29_method_69_code 2 (some .int) :: ws) ({ frames := 0, cells := 0, slots := 0, locals := 0 } : Room)) (fun a U => a = #[(.int p1), (.int p2)] ∧ Z.Warmed39 U.vm ∧ U.heap = h0) (fun _ _ _ _ _ => True) (fun _ U o U' => ∃ v L, o = .returned v ∧ Q_mmin Z w_INT p1 p2 h0 n0 v U'.heap L ∧ FrameEnd U o U' L ({ frames := 0, cells := 0, slots := 0, locals := 0 } : Room).cells ({ frames := 0, cells := 0, slots := 0, locals := 0 } : Room).slots) := by
  refine MetFree.of_bodySF (Jvm.Free.JP.mathPlain rfl (by decide +kernel)) hisR ?_
  intro p e s m args below meth c s₁ Bd hml0 hP hK
  obtain ⟨rfl, hZ, hh⟩ := hP
  have hx := Bd.exec
  have hby := Bd.bytes
  have hml : c.maxLocals = 2 := hml0
  have hown : s.vm.findClass "java/lang/Math" = some m.cls := findClass_of_methodNamed Bd.named
  have hnm := (name_of_methodNamed Bd.named Bd.method).1
  have X0 : Stand p l e ({ frames := 0, cells := 0, slots := 0, locals := 0 } : Room) s m #[(.int p1), (.int p2)] below meth c s₁ [] 0 0 := Stand.of_body Bd
  have e0 : s₁.heap = h0 := by rw [← hh, Bd.state]; rfl
  have N0 := Fr.nil n0
  obtain ⟨S_w_INT, E_w_INT⟩ := id G
  have k0 : Way p e below (s₁.setTop (entryFrame m #[(.int p1), (.int p2)] 2)) s₁ (mkF m 0 #[iv p1, iv p2] []) := fun t k => castTop (by first | (simp [entryFrame, mkF, argsToLocals, Value.category]; done) | rfl) k
  generalize s₁.setTop (entryFrame m #[(.int p1), (.int p2)] 2) = S0 at k0 ⊢
  have k2 : Way p e below S0 s₁ (mkF m 2 #[iv p1, iv p2] [(.int p2), (.int p1)]) := by
    intro t k
    refine k0 t ?_
    refine XS.iloadN X0.here hx rfl (hb hby d_jdk_29_method_69_code_0) rfl ?_
    show Steps p.tables e below (s₁.setTop (mkF m 1 #[iv p1, iv p2] [(.int p1)])) _
    refine XS.iloadN X0.here hx rfl (hb hby d_jdk_29_method_69_code_1) rfl ?_
    show Steps p.tables e below (s₁.setTop (mkF m 2 #[iv p1, iv p2] [(.int p2), (.int p1)])) _
    exact k
  by_cases hc1 : p2 < p1
  · have k3 : Way p e below S0 s₁ (mkF m 10 #[iv p1, iv p2] [(.int p2)]) := by
      intro t k
      refine k2 t ?_
      refine XS.icmpYes X0.here hx rfl (pc0 := 2) (pc' := 9) rfl (hb hby d_jdk_29_method_69_code_2) rfl (tlt (hc1 : p2 < p1)).2.2.1 (by decide) (by decide) ?_
      show Steps p.tables e below (s₁.setTop (mkF m 9 #[iv p1, iv p2] [])) _
      refine XS.iloadN X0.here hx rfl (hb hby d_jdk_29_method_69_code_9) rfl ?_
      show Steps p.tables e below (s₁.setTop (mkF m 10 #[iv p1, iv p2] [(.int p2)])) _
      exact k
    obtain ⟨fs, hr, hrun, hended, hW, hsame⟩ := X0.leave (v := some (.int p2)) (fun h => by rw [Bd.returns] at h; cases h)
    refine ⟨_, _, k3 _ (retOut X0 hx Bd.returns rfl (Or.inl ⟨rfl, Or.inl rfl, _, rfl⟩) (hb hby d_jdk_29_method_69_code_10) hr), hrun, hended, _, _, rfl, ?_, ⟨_, rfl⟩, hW, hsame.mono (by decide) (by decide)⟩
    show Q_mmin Z w_INT p1 p2 h0 n0 _ s₁.heap _
    rw [e0]
    exact ⟨(by simp [own_min, hc1]), N0, rfl⟩
  · have k4 : Way p e below S0 s₁ (mkF m 10 #[iv p1, iv p2] [(.int p1)]) := by
      intro t k
      refine k2 t ?_
      refine XS.icmpNo X0.here hx rfl (hb hby d_jdk_29_method_69_code_2) rfl (flt (hc1 : ¬ (p2 < p1))).2.2.1 ?_
      show Steps p.tables e below (s₁.setTop (mkF m 5 #[iv p1, iv p2] [])) _
      refine XS.iloadN X0.here hx rfl (hb hby d_jdk_29_method_69_code_5) rfl ?_
      show Steps p.tables e below (s₁.setTop (mkF m 6 #[iv p1, iv p2] [(.int p1)])) _
      refine XS.goto X0.here hx rfl (pc0 := 6) (pc' := 10) rfl (hb hby d_jdk_29_method_69_code_6) (by decide) (by decide) ?_
      show Steps p.tables e below (s₁.setTop (mkF m 10 #[iv p1, iv p2] [(.int p1)])) _
      exact k
    obtain ⟨fs, hr, hrun, hended, hW, hsame⟩ := X0.leave (v := some (.int p1)) (fun h => by rw [Bd.returns] at h; cases h)
    refine ⟨_, _, k4 _ (retOut X0 hx Bd.returns rfl (Or.inl ⟨rfl, Or.inl rfl, _, rfl⟩) (hb hby d_jdk_29_method_69_code_10) hr), hrun, hended, _, _, rfl, ?_, ⟨_, rfl⟩, hW, hsame.mono (by decide) (by decide)⟩
    show Q_mmin Z w_INT p1 p2 h0 n0 _ s₁.heap _
    rw [e0]
    exact ⟨(by simp [own_min, hc1]), N0, rfl⟩
def Q_mmax (Z : State) (w_INT : Addr) (p1 : Int32) (p2 : Int32) (h0 : Heap) (n0 : Nat) (v : Option Value) (h : Heap) (L : List Loc) : Prop := (v = some (.int (own_max p1 p2))) ∧ (Fr n0 L) ∧ (h = h0)
set_option maxRecDepth 65536 in
set_option maxHeartbeats 40000000 in
theorem mmax (l : Launch) (Z : State) (a0 : Array Value) (hw : ∀ d ∈ tables_1, d.before a0 Z = true) (ws : List Jvm.Cond) (w_INT : Addr) (G : Gst Z w_INT) (p1 : Int32) (p2 : Int32) (h0 : Heap) (n0 : Nat) (O0 : Old Z n0 h0) :
    MetFree l (⟨"java/lang/Math", "max", "(II)I"⟩ : MethodName) (head1 (Jvm.Cond.code (⟨"java/lang/Math", "max", "(II)I"⟩ : MethodName) jdk_29_method_65_code 2 (some .int) :: ws) ({ frames := 0, cells := 0, slots := 0, locals := 0 } : Room)) (fun a U => a = #[(.int p1), (.int p2)] ∧ Z.Warmed39 U.vm ∧ U.heap = h0) (fun _ _ _ _ _ => True) (fun _ U o U' => ∃ v L, o = .returned v ∧ Q_mmax Z w_INT p1 p2 h0 n0 v U'.heap L ∧ FrameEnd U o U' L ({ frames := 0, cells := 0, slots := 0, locals := 0 } : Room).cells ({ frames := 0, cells := 0, slots := 0, locals := 0 } : Room).slots) := by
  refine MetFree.of_bodySF (Jvm.Free.JP.mathPlain rfl (by decide +kernel)) hisR ?_
  intro p e s m args below meth c s₁ Bd hml0 hP hK
  obtain ⟨rfl, hZ, hh⟩ := hP
  have hx := Bd.exec
  have hby := Bd.bytes
  have hml : c.maxLocals = 2 := hml0
  have hown : s.vm.findClass "java/lang/Math" = some m.cls := findClass_of_methodNamed Bd.named
  have hnm := (name_of_methodNamed Bd.named Bd.method).1
  have X0 : Stand p l e ({ frames := 0, cells := 0, slots := 0, locals := 0 } : Room) s m #[(.int p1), (.int p2)] below meth c s₁ [] 0 0 := Stand.of_body Bd
  have e0 : s₁.heap = h0 := by rw [← hh, Bd.state]; rfl
  have N0 := Fr.nil n0
  obtain ⟨S_w_INT, E_w_INT⟩ := id G
  have k0 : Way p e below (s₁.setTop (entryFrame m #[(.int p1), (.int p2)] 2)) s₁ (mkF m 0 #[iv p1, iv p2] []) := fun t k => castTop (by first | (simp [entryFrame, mkF, argsToLocals, Value.category]; done) | rfl) k
  generalize s₁.setTop (entryFrame m #[(.int p1), (.int p2)] 2) = S0 at k0 ⊢
  have k2 : Way p e below S0 s₁ (mkF m 2 #[iv p1, iv p2] [(.int p2), (.int p1)]) := by
    intro t k
    refine k0 t ?_
    refine XS.iloadN X0.here hx rfl (hb hby d_jdk_29_method_65_code_0) rfl ?_
    show Steps p.tables e below (s₁.setTop (mkF m 1 #[iv p1, iv p2] [(.int p1)])) _
    refine XS.iloadN X0.here hx rfl (hb hby d_jdk_29_method_65_code_1) rfl ?_
    show Steps p.tables e below (s₁.setTop (mkF m 2 #[iv p1, iv p2] [(.int p2), (.int p1)])) _
    exact k
  by_cases hc1 : p1 < p2
  · have k3 : Way p e below S0 s₁ (mkF m 10 #[iv p1, iv p2] [(.int p2)]) := by
      intro t k
      refine k2 t ?_
      refine XS.icmpYes X0.here hx rfl (pc0 := 2) (pc' := 9) rfl (hb hby d_jdk_29_method_65_code_2) rfl (tlt (hc1 : p1 < p2)).1 (by decide) (by decide) ?_
      show Steps p.tables e below (s₁.setTop (mkF m 9 #[iv p1, iv p2] [])) _
      refine XS.iloadN X0.here hx rfl (hb hby d_jdk_29_method_65_code_9) rfl ?_
      show Steps p.tables e below (s₁.setTop (mkF m 10 #[iv p1, iv p2] [(.int p2)])) _
      exact k
    obtain ⟨fs, hr, hrun, hended, hW, hsame⟩ := X0.leave (v := some (.int p2)) (fun h => by rw [Bd.returns] at h; cases h)
    refine ⟨_, _, k3 _ (retOut X0 hx Bd.returns rfl (Or.inl ⟨rfl, Or.inl rfl, _, rfl⟩) (hb hby d_jdk_29_method_65_code_10) hr), hrun, hended, _, _, rfl, ?_, ⟨_, rfl⟩, hW, hsame.mono (by decide) (by decide)⟩
    show Q_mmax Z w_INT p1 p2 h0 n0 _ s₁.heap _
    rw [e0]
    exact ⟨(by simp [own_max, hc1]), N0, rfl⟩
  · have k4 : Way p e below S0 s₁ (mkF m 10 #[iv p1, iv p2] [(.int p1)]) := by
      intro t k
      refine k2 t ?_
      refine XS.icmpNo X0.here hx rfl (hb hby d_jdk_29_method_65_code_2) rfl (flt (hc1 : ¬ (p1 < p2))).1 ?_
      show Steps p.tables e below (s₁.setTop (mkF m 5 #[iv p1, iv p2] [])) _
      refine XS.iloadN X0.here hx rfl (hb hby d_jdk_29_method_65_code_5) rfl ?_
      show Steps p.tables e below (s₁.setTop (mkF m 6 #[iv p1, iv p2] [(.int p1)])) _
      refine XS.goto X0.here hx rfl (pc0 := 6) (pc' := 10) rfl (hb hby d_jdk_29_method_65_code_6) (by decide) (by decide) ?_
      show Steps p.tables e below (s₁.setTop (mkF m 10 #[iv p1, iv p2] [(.int p1)])) _
      exact k
    obtain ⟨fs, hr, hrun, hended, hW, hsame⟩ := X0.leave (v := some (.int p1)) (fun h => by rw [Bd.returns] at h; cases h)
    refine ⟨_, _, k4 _ (retOut X0 hx Bd.returns rfl (Or.inl ⟨rfl, Or.inl rfl, _, rfl⟩) (hb hby d_jdk_29_method_65_code_10) hr), hrun, hended, _, _, rfl, ?_, ⟨_, rfl⟩, hW, hsame.mono (by decide) (by decide)⟩
    show Q_mmax Z w_INT p1 p2 h0 n0 _ s₁.heap _
    rw [e0]
    exact ⟨(by simp [own_max, hc1]), N0, rfl⟩
def Q_law_met (Z : State) (w_INT : Addr) (p1 : Int32) (p2 : Int32) (p3 : Int32) (h0 : Heap) (n0 : Nat) (v : Option Value) (h : Heap) (L : List Loc) : Prop := (v = some (.int (1 : Int32))) ∧ (Fr n0 L)
set_option maxRecDepth 65536 in
set_option maxHeartbeats 40000000 in
theorem law_met (l : Launch) (Z : State) (a0 : Array Value) (hw : ∀ d ∈ tables_1, d.before a0 Z = true) (ws : List Jvm.Cond) (w_INT : Addr) (G : Gst Z w_INT) (p1 : Int32) (p2 : Int32) (p3 : Int32) (h0 : Heap) (n0 : Nat) (O0 : Old Z n0 h0) :
    MetFree l x (head1 (Jvm.Cond.code x code maxLocals ret :: ws) room_1) (fun a U => a = #[(.int p1), (.int p2), (.int p3)] ∧ Z.Warmed39 U.vm ∧ U.heap = h0) (fun _ _ _ _ _ => True) (fun _ U o U' => ∃ v L, o = .returned v ∧ Q_law_met Z w_INT p1 p2 p3 h0 n0 v U'.heap L ∧ ReturnedEndW U o U' L 24 1152) := by
  refine MetFree.of_bodySF (plainFor_of_name pn_1) hisR ?_
  intro p e s m args below meth c s₁ Bd hml0 hP hK
  obtain ⟨rfl, hZ, hh⟩ := hP
  have hx := Bd.exec
  have hby := Bd.bytes
  have hml : c.maxLocals = 14 := hml0
  have hown : s.vm.findClass "com/example/inert_quotient/inertquotient/prism/AlikeValuesSpanPinLaw" = some m.cls := findClass_of_methodNamed Bd.named
  have hnm := (name_of_methodNamed Bd.named Bd.method).1
  have X0 : Stand p l e room_1 s m #[(.int p1), (.int p2), (.int p3)] below meth c s₁ [] 0 0 := Stand.of_body Bd
  have e0 : s₁.heap = h0 := by rw [← hh, Bd.state]; rfl
  have N0 := Fr.nil n0
  have X0 : Stand p l e room_1 (s.setVm s.vm) m #[(.int p1), (.int p2), (.int p3)] below meth c s₁ [] 0 0 := X0
  have hS0 : s.Since s.vm 0 := (State.WarmedH.refl s).since 0
  obtain ⟨S_w_INT, E_w_INT⟩ := id G
  have k0 : Way p e below (s₁.setTop (entryFrame m #[(.int p1), (.int p2), (.int p3)] maxLocals)) s₁ (mkF m 0 #[iv p1, iv p2, iv p3, .unset, .unset, .unset, .unset, .unset, .unset, .unset, .unset, .unset, .unset, .unset] []) := fun t k => castTop (by first | (simp [entryFrame, mkF, argsToLocals, Value.category, maxLocals]; done) | rfl) k
  generalize s₁.setTop (entryFrame m #[(.int p1), (.int p2), (.int p3)] maxLocals) = S0 at k0 ⊢
  have k1 : Way p e below S0 s₁ (mkF m 2 #[iv p1, iv p2, iv p3, .unset, .unset, .unset, .unset, .unset, .unset, .unset, .unset, .unset, .unset, .unset] [(.int p1), (.int p1)]) := by
    intro t k
    refine k0 t ?_
    refine XS.iloadN X0.here hx rfl (hb hby at_0) rfl ?_
    show Steps p.tables e below (s₁.setTop (mkF m 1 #[iv p1, iv p2, iv p3, .unset, .unset, .unset, .unset, .unset, .unset, .unset, .unset, .unset, .unset, .unset] [(.int p1)])) _
    refine XS.iloadN X0.here hx rfl (hb hby at_1) rfl ?_
    show Steps p.tables e below (s₁.setTop (mkF m 2 #[iv p1, iv p2, iv p3, .unset, .unset, .unset, .unset, .unset, .unset, .unset, .unset, .unset, .unset, .unset] [(.int p1), (.int p1)])) _
    exact k
  obtain ⟨_, _, ⟨T2, L2, kk2, nn2⟩, -, Xr2, hSr2, hgr2, ⟨Lc2, hQ2, l2, y2, z2⟩, st2⟩ := callSS X0 hx (y := (⟨"com/example/inert_quotient/inertquotient/prism/AlikeValuesSpanPinLaw", "v", "(II)Lcom/example/inert_quotient/inertquotient/prism/Variable;"⟩ : MethodName)) hown (mvT hZ (hw _ (List.mem_of_getElem? (i := 0) rfl))) (mvT hZ (hw _ (List.mem_of_getElem? (i := 1) rfl))) (mvT hZ (hw _ (List.mem_of_getElem? (i := 2) rfl))) (mvT hZ (hw _ (List.mem_of_getElem? (i := 3) rfl))) (by decide) (backOfS (W := 0) (vmake l Z a0 hw [] w_INT G p1 p1 h0 n0 O0 ) hZ (hw _ (List.mem_of_getElem? (i := 3) rfl)) (hw _ (List.mem_of_getElem? (i := 2) rfl)) (by decide) (by decide)) (g := (mkF m 2 #[iv p1, iv p2, iv p3, .unset, .unset, .unset, .unset, .unset, .unset, .unset, .unset, .unset, .unset, .unset] [(.int p1), (.int p1)])) rfl (by rw [hml]; rfl) (argsL := [(.int p1), (.int p1)]) (rest := []) (lenOf pd_2 rfl) rfl (by show 2 * 0 + _ ≤ _; exact Nat.le_of_eq rfl) (hb hby at_2) (fun _ _ => ⟨rfl, e0, (by decide : 0 + 3 ≤ _), (by decide : 0 + 15 ≤ _)⟩)
  dsimp only [Pt.U, Pt.locs, Pt.cells, Pt.slots] at Xr2 hSr2 hgr2 l2 y2 z2 st2 hQ2
  subst l2 y2 z2
  obtain ⟨X2, hS2, hZ2, ho2⟩ := rebS (s := s) (vm0 := s.vm) hS0 (by rw [e0]; exact (Nat.zero_le _)) Xr2 hSr2 hgr2 hZ hown
  have hZ := hZ2
  have hown := ho2
  obtain ⟨b1_2, rfl, Nq2, Kq2, po2_0, po2_1, po2_2, po2_3⟩ := hQ2
  have N2 := Fr.app N0 Nq2
  have O2 := O0.keep Kq2 all0
  have k3 : Way p e below S0 T2 (mkF m 5 #[iv p1, iv p2, iv p3, .unset, .unset, .unset, .unset, .unset, .unset, .unset, .unset, .unset, .unset, .unset] [(.ref b1_2)]) := fun t k => k1 t (st2.trans k)
  obtain ⟨_, _, ⟨T4, L4, kk4, nn4⟩, -, X4, ⟨Lc4, hQ4, l4, y4, z4⟩, st4⟩ := Jvm.LawKit.callS X2 hx (y := (⟨"com/example/inert_quotient/inertquotient/prism/AlikeValues", "span", "(Lcom/example/inert_quotient/inertquotient/prism/Variable;)J"⟩ : MethodName)) hown (mvT hZ (hw _ (List.mem_of_getElem? (i := 38) rfl))) (mvT hZ (hw _ (List.mem_of_getElem? (i := 39) rfl))) (mvT hZ (hw _ (List.mem_of_getElem? (i := 40) rfl))) (mvT hZ (hw _ (List.mem_of_getElem? (i := 41) rfl))) (by decide) (backOf (W := 0) (span l Z a0 hw [] w_INT G b1_2 p1 p1 T2.heap n0 O2 (po2_1 : Exa Z T2.heap b1_2 "com/example/inert_quotient/inertquotient/prism/Variable") (po2_2 : Fld Z T2.heap b1_2 "com/example/inert_quotient/inertquotient/prism/Variable" "low" "I" (.int p1)) (po2_3 : Fld Z T2.heap b1_2 "com/example/inert_quotient/inertquotient/prism/Variable" "high" "I" (.int p1))) hZ (hw _ (List.mem_of_getElem? (i := 41) rfl)) (hw _ (List.mem_of_getElem? (i := 40) rfl)) (by decide) (by decide)) (g := (mkF m 5 #[iv p1, iv p2, iv p3, .unset, .unset, .unset, .unset, .unset, .unset, .unset, .unset, .unset, .unset, .unset] [(.ref b1_2)])) rfl (by rw [hml]; rfl) (argsL := [(.ref b1_2)]) (rest := []) (lenOf pd_3 rfl) rfl (by show 2 * 0 + _ ≤ _; exact Nat.le_of_eq rfl) (hb hby at_5) (fun _ _ => ⟨rfl, rfl, (by decide : 3 + 0 ≤ _), (by decide : 15 + 0 ≤ _)⟩)
  dsimp only [Pt.U, Pt.locs, Pt.cells, Pt.slots] at X4 l4 y4 z4 st4 hQ4
  subst l4 y4 z4
  obtain ⟨rfl, Nq4, e4⟩ := hQ4
  have N4 := Fr.app N2 Nq4
  have k5 : Way p e below S0 T4 (mkF m 8 #[iv p1, iv p2, iv p3, .unset, .unset, .unset, .unset, .unset, .unset, .unset, .unset, .unset, .unset, .unset] [(.long (((p1.toInt64) - (p1.toInt64)) + (1 : Int64)))]) := fun t k => k3 t (st4 _ k)
  have k6 : Way p e below S0 T4 (mkF m 22 #[iv p1, iv p2, iv p3, iv (1 : Int32), .unset, .unset, .unset, .unset, .unset, .unset, .unset, .unset, .unset, .unset] [(.int p3), (.int p2), (.int p1)]) := by
    intro t k
    refine k5 t ?_
    refine XS.lconst X4.here hx rfl (hb hby at_8) ?_
    show Steps p.tables e below (T4.setTop (mkF m 9 #[iv p1, iv p2, iv p3, .unset, .unset, .unset, .unset, .unset, .unset, .unset, .unset, .unset, .unset, .unset] [(.long (1 : Int64)), (.long (((p1.toInt64) - (p1.toInt64)) + (1 : Int64)))])) _
    refine XS.lcmp X4.here hx rfl (hb hby at_9) rfl ?_
    show Steps p.tables e below (T4.setTop (mkF m 10 #[iv p1, iv p2, iv p3, .unset, .unset, .unset, .unset, .unset, .unset, .unset, .unset, .unset, .unset, .unset] [(.int (lcmpW (((p1.toInt64) - (p1.toInt64)) + (1 : Int64)) (1 : Int64)))])) _
    refine XS.ifNo X4.here hx rfl (hb hby at_10) rfl ((if0 _ _).trans (teq (own_one p1 : (lcmpW (((p1.toInt64) - (p1.toInt64)) + (1 : Int64)) (1 : Int64)) = (0 : Int32))).2) ?_
    show Steps p.tables e below (T4.setTop (mkF m 13 #[iv p1, iv p2, iv p3, .unset, .unset, .unset, .unset, .unset, .unset, .unset, .unset, .unset, .unset, .unset] [])) _
    refine XS.iconst X4.here hx rfl (hb hby at_13) ?_
    show Steps p.tables e below (T4.setTop (mkF m 14 #[iv p1, iv p2, iv p3, .unset, .unset, .unset, .unset, .unset, .unset, .unset, .unset, .unset, .unset, .unset] [(.int (1 : Int32))])) _
    refine XS.goto X4.here hx rfl (pc0 := 14) (pc' := 18) rfl (hb hby at_14) (by decide) (by decide) ?_
    show Steps p.tables e below (T4.setTop (mkF m 18 #[iv p1, iv p2, iv p3, .unset, .unset, .unset, .unset, .unset, .unset, .unset, .unset, .unset, .unset, .unset] [(.int (1 : Int32))])) _
    refine XS.istoreN X4.here hx rfl (hb hby at_18) rfl (l' := #[iv p1, iv p2, iv p3, iv (1 : Int32), .unset, .unset, .unset, .unset, .unset, .unset, .unset, .unset, .unset, .unset]) rfl ?_
    show Steps p.tables e below (T4.setTop (mkF m 19 #[iv p1, iv p2, iv p3, iv (1 : Int32), .unset, .unset, .unset, .unset, .unset, .unset, .unset, .unset, .unset, .unset] [])) _
    refine XS.iloadN X4.here hx rfl (hb hby at_19) rfl ?_
    show Steps p.tables e below (T4.setTop (mkF m 20 #[iv p1, iv p2, iv p3, iv (1 : Int32), .unset, .unset, .unset, .unset, .unset, .unset, .unset, .unset, .unset, .unset] [(.int p1)])) _
    refine XS.iloadN X4.here hx rfl (hb hby at_20) rfl ?_
    show Steps p.tables e below (T4.setTop (mkF m 21 #[iv p1, iv p2, iv p3, iv (1 : Int32), .unset, .unset, .unset, .unset, .unset, .unset, .unset, .unset, .unset, .unset] [(.int p2), (.int p1)])) _
    refine XS.iloadN X4.here hx rfl (hb hby at_21) rfl ?_
    show Steps p.tables e below (T4.setTop (mkF m 22 #[iv p1, iv p2, iv p3, iv (1 : Int32), .unset, .unset, .unset, .unset, .unset, .unset, .unset, .unset, .unset, .unset] [(.int p3), (.int p2), (.int p1)])) _
    exact k
  obtain ⟨_, _, ⟨T7, L7, kk7, nn7⟩, -, X7, ⟨Lc7, hQ7, l7, y7, z7⟩, st7⟩ := Jvm.LawKit.callS X4 hx (y := (⟨"java/lang/Math", "min", "(II)I"⟩ : MethodName)) hown (mvT hZ (hw _ (List.mem_of_getElem? (i := 52) rfl))) (mvT hZ (hw _ (List.mem_of_getElem? (i := 53) rfl))) (mvT hZ (hw _ (List.mem_of_getElem? (i := 54) rfl))) (mvT hZ (hw _ (List.mem_of_getElem? (i := 55) rfl))) (by decide) (backOf (W := 1) (mmin l Z a0 hw [] w_INT G p2 p3 T2.heap n0 O2 ) hZ (hw _ (List.mem_of_getElem? (i := 55) rfl)) (hw _ (List.mem_of_getElem? (i := 54) rfl)) (by decide) (by decide)) (g := (mkF m 22 #[iv p1, iv p2, iv p3, iv (1 : Int32), .unset, .unset, .unset, .unset, .unset, .unset, .unset, .unset, .unset, .unset] [(.int p3), (.int p2), (.int p1)])) rfl (by rw [hml]; rfl) (argsL := [(.int p2), (.int p3)]) (rest := [(.int p1)]) (lenOf pd_4 rfl) rfl (by show 2 * 0 + _ ≤ _; exact Nat.le_of_eq rfl) (hb hby at_22) (fun _ _ => ⟨rfl, e4, (by decide : 3 + 0 ≤ _), (by decide : 15 + 0 ≤ _)⟩)
  dsimp only [Pt.U, Pt.locs, Pt.cells, Pt.slots] at X7 l7 y7 z7 st7 hQ7
  subst l7 y7 z7
  obtain ⟨rfl, Nq7, e7⟩ := hQ7
  have N7 := Fr.app N4 Nq7
  have k8 : Way p e below S0 T7 (mkF m 25 #[iv p1, iv p2, iv p3, iv (1 : Int32), .unset, .unset, .unset, .unset, .unset, .unset, .unset, .unset, .unset, .unset] [(.int (own_min p2 p3)), (.int p1)]) := fun t k => k6 t (st7 _ k)
  obtain ⟨_, _, ⟨T9, L9, kk9, nn9⟩, -, X9, ⟨Lc9, hQ9, l9, y9, z9⟩, st9⟩ := Jvm.LawKit.callS X7 hx (y := (⟨"java/lang/Math", "min", "(II)I"⟩ : MethodName)) hown (mvT hZ (hw _ (List.mem_of_getElem? (i := 52) rfl))) (mvT hZ (hw _ (List.mem_of_getElem? (i := 53) rfl))) (mvT hZ (hw _ (List.mem_of_getElem? (i := 54) rfl))) (mvT hZ (hw _ (List.mem_of_getElem? (i := 55) rfl))) (by decide) (backOf (W := 0) (mmin l Z a0 hw [] w_INT G p1 (own_min p2 p3) T2.heap n0 O2 ) hZ (hw _ (List.mem_of_getElem? (i := 55) rfl)) (hw _ (List.mem_of_getElem? (i := 54) rfl)) (by decide) (by decide)) (g := (mkF m 25 #[iv p1, iv p2, iv p3, iv (1 : Int32), .unset, .unset, .unset, .unset, .unset, .unset, .unset, .unset, .unset, .unset] [(.int (own_min p2 p3)), (.int p1)])) rfl (by rw [hml]; rfl) (argsL := [(.int p1), (.int (own_min p2 p3))]) (rest := []) (lenOf pd_4 rfl) rfl (by show 2 * 0 + _ ≤ _; exact Nat.le_of_eq rfl) (hb hby at_25) (fun _ _ => ⟨rfl, e7, (by decide : 3 + 0 ≤ _), (by decide : 15 + 0 ≤ _)⟩)
  dsimp only [Pt.U, Pt.locs, Pt.cells, Pt.slots] at X9 l9 y9 z9 st9 hQ9
  subst l9 y9 z9
  obtain ⟨rfl, Nq9, e9⟩ := hQ9
  have N9 := Fr.app N7 Nq9
  have k10 : Way p e below S0 T9 (mkF m 28 #[iv p1, iv p2, iv p3, iv (1 : Int32), .unset, .unset, .unset, .unset, .unset, .unset, .unset, .unset, .unset, .unset] [(.int (own_min p1 (own_min p2 p3)))]) := fun t k => k8 t (st9 _ k)
  have k11 : Way p e below S0 T9 (mkF m 30 #[iv p1, iv p2, iv p3, iv (1 : Int32), iv (own_min p1 (own_min p2 p3)), .unset, .unset, .unset, .unset, .unset, .unset, .unset, .unset, .unset] []) := by
    intro t k
    refine k10 t ?_
    refine XS.istore X9.here hx rfl (hb hby at_28) rfl (l' := #[iv p1, iv p2, iv p3, iv (1 : Int32), iv (own_min p1 (own_min p2 p3)), .unset, .unset, .unset, .unset, .unset, .unset, .unset, .unset, .unset]) rfl ?_
    show Steps p.tables e below (T9.setTop (mkF m 30 #[iv p1, iv p2, iv p3, iv (1 : Int32), iv (own_min p1 (own_min p2 p3)), .unset, .unset, .unset, .unset, .unset, .unset, .unset, .unset, .unset] [])) _
    exact k
  obtain ⟨lo, hlo⟩ : ∃ z, (own_min p1 (own_min p2 p3)) = z := ⟨_, rfl⟩
  have k12 : Way p e below S0 T9 (mkF m 30 #[iv p1, iv p2, iv p3, iv (1 : Int32), iv lo, .unset, .unset, .unset, .unset, .unset, .unset, .unset, .unset, .unset] []) := by have q := k11; rw [hlo] at q; exact q
  have k13 : Way p e below S0 T9 (mkF m 33 #[iv p1, iv p2, iv p3, iv (1 : Int32), iv lo, .unset, .unset, .unset, .unset, .unset, .unset, .unset, .unset, .unset] [(.int p3), (.int p2), (.int p1)]) := by
    intro t k
    refine k12 t ?_
    refine XS.iloadN X9.here hx rfl (hb hby at_30) rfl ?_
    show Steps p.tables e below (T9.setTop (mkF m 31 #[iv p1, iv p2, iv p3, iv (1 : Int32), iv lo, .unset, .unset, .unset, .unset, .unset, .unset, .unset, .unset, .unset] [(.int p1)])) _
    refine XS.iloadN X9.here hx rfl (hb hby at_31) rfl ?_
    show Steps p.tables e below (T9.setTop (mkF m 32 #[iv p1, iv p2, iv p3, iv (1 : Int32), iv lo, .unset, .unset, .unset, .unset, .unset, .unset, .unset, .unset, .unset] [(.int p2), (.int p1)])) _
    refine XS.iloadN X9.here hx rfl (hb hby at_32) rfl ?_
    show Steps p.tables e below (T9.setTop (mkF m 33 #[iv p1, iv p2, iv p3, iv (1 : Int32), iv lo, .unset, .unset, .unset, .unset, .unset, .unset, .unset, .unset, .unset] [(.int p3), (.int p2), (.int p1)])) _
    exact k
  obtain ⟨_, _, ⟨T14, L14, kk14, nn14⟩, -, X14, ⟨Lc14, hQ14, l14, y14, z14⟩, st14⟩ := Jvm.LawKit.callS X9 hx (y := (⟨"java/lang/Math", "max", "(II)I"⟩ : MethodName)) hown (mvT hZ (hw _ (List.mem_of_getElem? (i := 56) rfl))) (mvT hZ (hw _ (List.mem_of_getElem? (i := 57) rfl))) (mvT hZ (hw _ (List.mem_of_getElem? (i := 54) rfl))) (mvT hZ (hw _ (List.mem_of_getElem? (i := 58) rfl))) (by decide) (backOf (W := 1) (mmax l Z a0 hw [] w_INT G p2 p3 T2.heap n0 O2 ) hZ (hw _ (List.mem_of_getElem? (i := 58) rfl)) (hw _ (List.mem_of_getElem? (i := 54) rfl)) (by decide) (by decide)) (g := (mkF m 33 #[iv p1, iv p2, iv p3, iv (1 : Int32), iv lo, .unset, .unset, .unset, .unset, .unset, .unset, .unset, .unset, .unset] [(.int p3), (.int p2), (.int p1)])) rfl (by rw [hml]; rfl) (argsL := [(.int p2), (.int p3)]) (rest := [(.int p1)]) (lenOf pd_4 rfl) rfl (by show 2 * 0 + _ ≤ _; exact Nat.le_of_eq rfl) (hb hby at_33) (fun _ _ => ⟨rfl, e9, (by decide : 3 + 0 ≤ _), (by decide : 15 + 0 ≤ _)⟩)
  dsimp only [Pt.U, Pt.locs, Pt.cells, Pt.slots] at X14 l14 y14 z14 st14 hQ14
  subst l14 y14 z14
  obtain ⟨rfl, Nq14, e14⟩ := hQ14
  have N14 := Fr.app N9 Nq14
  have k15 : Way p e below S0 T14 (mkF m 36 #[iv p1, iv p2, iv p3, iv (1 : Int32), iv lo, .unset, .unset, .unset, .unset, .unset, .unset, .unset, .unset, .unset] [(.int (own_max p2 p3)), (.int p1)]) := fun t k => k13 t (st14 _ k)
  obtain ⟨_, _, ⟨T16, L16, kk16, nn16⟩, -, X16, ⟨Lc16, hQ16, l16, y16, z16⟩, st16⟩ := Jvm.LawKit.callS X14 hx (y := (⟨"java/lang/Math", "max", "(II)I"⟩ : MethodName)) hown (mvT hZ (hw _ (List.mem_of_getElem? (i := 56) rfl))) (mvT hZ (hw _ (List.mem_of_getElem? (i := 57) rfl))) (mvT hZ (hw _ (List.mem_of_getElem? (i := 54) rfl))) (mvT hZ (hw _ (List.mem_of_getElem? (i := 58) rfl))) (by decide) (backOf (W := 0) (mmax l Z a0 hw [] w_INT G p1 (own_max p2 p3) T2.heap n0 O2 ) hZ (hw _ (List.mem_of_getElem? (i := 58) rfl)) (hw _ (List.mem_of_getElem? (i := 54) rfl)) (by decide) (by decide)) (g := (mkF m 36 #[iv p1, iv p2, iv p3, iv (1 : Int32), iv lo, .unset, .unset, .unset, .unset, .unset, .unset, .unset, .unset, .unset] [(.int (own_max p2 p3)), (.int p1)])) rfl (by rw [hml]; rfl) (argsL := [(.int p1), (.int (own_max p2 p3))]) (rest := []) (lenOf pd_4 rfl) rfl (by show 2 * 0 + _ ≤ _; exact Nat.le_of_eq rfl) (hb hby at_36) (fun _ _ => ⟨rfl, e14, (by decide : 3 + 0 ≤ _), (by decide : 15 + 0 ≤ _)⟩)
  dsimp only [Pt.U, Pt.locs, Pt.cells, Pt.slots] at X16 l16 y16 z16 st16 hQ16
  subst l16 y16 z16
  obtain ⟨rfl, Nq16, e16⟩ := hQ16
  have N16 := Fr.app N14 Nq16
  have k17 : Way p e below S0 T16 (mkF m 39 #[iv p1, iv p2, iv p3, iv (1 : Int32), iv lo, .unset, .unset, .unset, .unset, .unset, .unset, .unset, .unset, .unset] [(.int (own_max p1 (own_max p2 p3)))]) := fun t k => k15 t (st16 _ k)
  have k18 : Way p e below S0 T16 (mkF m 41 #[iv p1, iv p2, iv p3, iv (1 : Int32), iv lo, iv (own_max p1 (own_max p2 p3)), .unset, .unset, .unset, .unset, .unset, .unset, .unset, .unset] []) := by
    intro t k
    refine k17 t ?_
    refine XS.istore X16.here hx rfl (hb hby at_39) rfl (l' := #[iv p1, iv p2, iv p3, iv (1 : Int32), iv lo, iv (own_max p1 (own_max p2 p3)), .unset, .unset, .unset, .unset, .unset, .unset, .unset, .unset]) rfl ?_
    show Steps p.tables e below (T16.setTop (mkF m 41 #[iv p1, iv p2, iv p3, iv (1 : Int32), iv lo, iv (own_max p1 (own_max p2 p3)), .unset, .unset, .unset, .unset, .unset, .unset, .unset, .unset] [])) _
    exact k
  obtain ⟨hi, hhi⟩ : ∃ z, (own_max p1 (own_max p2 p3)) = z := ⟨_, rfl⟩
  have k19 : Way p e below S0 T16 (mkF m 41 #[iv p1, iv p2, iv p3, iv (1 : Int32), iv lo, iv hi, .unset, .unset, .unset, .unset, .unset, .unset, .unset, .unset] []) := by have q := k18; rw [hhi] at q; exact q
  have k20 : Way p e below S0 T16 (mkF m 60 #[iv p1, iv p2, iv p3, iv (1 : Int32), iv lo, iv hi, iv ((((((p1.toInt64) + (p2.toInt64)) + (p3.toInt64)) - (lo.toInt64)) - (hi.toInt64)).toInt32), .unset, .unset, .unset, .unset, .unset, .unset, .unset] []) := by
    intro t k
    refine k19 t ?_
    refine XS.iloadN X16.here hx rfl (hb hby at_41) rfl ?_
    show Steps p.tables e below (T16.setTop (mkF m 42 #[iv p1, iv p2, iv p3, iv (1 : Int32), iv lo, iv hi, .unset, .unset, .unset, .unset, .unset, .unset, .unset, .unset] [(.int p1)])) _
    refine XS.i2l X16.here hx rfl (hb hby at_42) rfl ?_
    show Steps p.tables e below (T16.setTop (mkF m 43 #[iv p1, iv p2, iv p3, iv (1 : Int32), iv lo, iv hi, .unset, .unset, .unset, .unset, .unset, .unset, .unset, .unset] [(.long (p1.toInt64))])) _
    refine XS.iloadN X16.here hx rfl (hb hby at_43) rfl ?_
    show Steps p.tables e below (T16.setTop (mkF m 44 #[iv p1, iv p2, iv p3, iv (1 : Int32), iv lo, iv hi, .unset, .unset, .unset, .unset, .unset, .unset, .unset, .unset] [(.int p2), (.long (p1.toInt64))])) _
    refine XS.i2l X16.here hx rfl (hb hby at_44) rfl ?_
    show Steps p.tables e below (T16.setTop (mkF m 45 #[iv p1, iv p2, iv p3, iv (1 : Int32), iv lo, iv hi, .unset, .unset, .unset, .unset, .unset, .unset, .unset, .unset] [(.long (p2.toInt64)), (.long (p1.toInt64))])) _
    refine XS.ladd X16.here hx rfl (hb hby at_45) rfl ?_
    show Steps p.tables e below (T16.setTop (mkF m 46 #[iv p1, iv p2, iv p3, iv (1 : Int32), iv lo, iv hi, .unset, .unset, .unset, .unset, .unset, .unset, .unset, .unset] [(.long ((p1.toInt64) + (p2.toInt64)))])) _
    refine XS.iloadN X16.here hx rfl (hb hby at_46) rfl ?_
    show Steps p.tables e below (T16.setTop (mkF m 47 #[iv p1, iv p2, iv p3, iv (1 : Int32), iv lo, iv hi, .unset, .unset, .unset, .unset, .unset, .unset, .unset, .unset] [(.int p3), (.long ((p1.toInt64) + (p2.toInt64)))])) _
    refine XS.i2l X16.here hx rfl (hb hby at_47) rfl ?_
    show Steps p.tables e below (T16.setTop (mkF m 48 #[iv p1, iv p2, iv p3, iv (1 : Int32), iv lo, iv hi, .unset, .unset, .unset, .unset, .unset, .unset, .unset, .unset] [(.long (p3.toInt64)), (.long ((p1.toInt64) + (p2.toInt64)))])) _
    refine XS.ladd X16.here hx rfl (hb hby at_48) rfl ?_
    show Steps p.tables e below (T16.setTop (mkF m 49 #[iv p1, iv p2, iv p3, iv (1 : Int32), iv lo, iv hi, .unset, .unset, .unset, .unset, .unset, .unset, .unset, .unset] [(.long (((p1.toInt64) + (p2.toInt64)) + (p3.toInt64)))])) _
    refine XS.iload X16.here hx rfl (hb hby at_49) rfl ?_
    show Steps p.tables e below (T16.setTop (mkF m 51 #[iv p1, iv p2, iv p3, iv (1 : Int32), iv lo, iv hi, .unset, .unset, .unset, .unset, .unset, .unset, .unset, .unset] [(.int lo), (.long (((p1.toInt64) + (p2.toInt64)) + (p3.toInt64)))])) _
    refine XS.i2l X16.here hx rfl (hb hby at_51) rfl ?_
    show Steps p.tables e below (T16.setTop (mkF m 52 #[iv p1, iv p2, iv p3, iv (1 : Int32), iv lo, iv hi, .unset, .unset, .unset, .unset, .unset, .unset, .unset, .unset] [(.long (lo.toInt64)), (.long (((p1.toInt64) + (p2.toInt64)) + (p3.toInt64)))])) _
    refine XS.lsub X16.here hx rfl (hb hby at_52) rfl ?_
    show Steps p.tables e below (T16.setTop (mkF m 53 #[iv p1, iv p2, iv p3, iv (1 : Int32), iv lo, iv hi, .unset, .unset, .unset, .unset, .unset, .unset, .unset, .unset] [(.long ((((p1.toInt64) + (p2.toInt64)) + (p3.toInt64)) - (lo.toInt64)))])) _
    refine XS.iload X16.here hx rfl (hb hby at_53) rfl ?_
    show Steps p.tables e below (T16.setTop (mkF m 55 #[iv p1, iv p2, iv p3, iv (1 : Int32), iv lo, iv hi, .unset, .unset, .unset, .unset, .unset, .unset, .unset, .unset] [(.int hi), (.long ((((p1.toInt64) + (p2.toInt64)) + (p3.toInt64)) - (lo.toInt64)))])) _
    refine XS.i2l X16.here hx rfl (hb hby at_55) rfl ?_
    show Steps p.tables e below (T16.setTop (mkF m 56 #[iv p1, iv p2, iv p3, iv (1 : Int32), iv lo, iv hi, .unset, .unset, .unset, .unset, .unset, .unset, .unset, .unset] [(.long (hi.toInt64)), (.long ((((p1.toInt64) + (p2.toInt64)) + (p3.toInt64)) - (lo.toInt64)))])) _
    refine XS.lsub X16.here hx rfl (hb hby at_56) rfl ?_
    show Steps p.tables e below (T16.setTop (mkF m 57 #[iv p1, iv p2, iv p3, iv (1 : Int32), iv lo, iv hi, .unset, .unset, .unset, .unset, .unset, .unset, .unset, .unset] [(.long (((((p1.toInt64) + (p2.toInt64)) + (p3.toInt64)) - (lo.toInt64)) - (hi.toInt64)))])) _
    refine XS.l2i X16.here hx rfl (hb hby at_57) rfl ?_
    show Steps p.tables e below (T16.setTop (mkF m 58 #[iv p1, iv p2, iv p3, iv (1 : Int32), iv lo, iv hi, .unset, .unset, .unset, .unset, .unset, .unset, .unset, .unset] [(.int ((((((p1.toInt64) + (p2.toInt64)) + (p3.toInt64)) - (lo.toInt64)) - (hi.toInt64)).toInt32))])) _
    refine XS.istore X16.here hx rfl (hb hby at_58) rfl (l' := #[iv p1, iv p2, iv p3, iv (1 : Int32), iv lo, iv hi, iv ((((((p1.toInt64) + (p2.toInt64)) + (p3.toInt64)) - (lo.toInt64)) - (hi.toInt64)).toInt32), .unset, .unset, .unset, .unset, .unset, .unset, .unset]) rfl ?_
    show Steps p.tables e below (T16.setTop (mkF m 60 #[iv p1, iv p2, iv p3, iv (1 : Int32), iv lo, iv hi, iv ((((((p1.toInt64) + (p2.toInt64)) + (p3.toInt64)) - (lo.toInt64)) - (hi.toInt64)).toInt32), .unset, .unset, .unset, .unset, .unset, .unset, .unset] [])) _
    exact k
  obtain ⟨mid, hmid⟩ : ∃ z, ((((((p1.toInt64) + (p2.toInt64)) + (p3.toInt64)) - (lo.toInt64)) - (hi.toInt64)).toInt32) = z := ⟨_, rfl⟩
  have k21 : Way p e below S0 T16 (mkF m 60 #[iv p1, iv p2, iv p3, iv (1 : Int32), iv lo, iv hi, iv mid, .unset, .unset, .unset, .unset, .unset, .unset, .unset] []) := by have q := k20; rw [hmid] at q; exact q
  have k22 : Way p e below S0 T16 (mkF m 64 #[iv p1, iv p2, iv p3, iv (1 : Int32), iv lo, iv hi, iv mid, .unset, .unset, .unset, .unset, .unset, .unset, .unset] [(.int hi), (.int lo)]) := by
    intro t k
    refine k21 t ?_
    refine XS.iload X16.here hx rfl (hb hby at_60) rfl ?_
    show Steps p.tables e below (T16.setTop (mkF m 62 #[iv p1, iv p2, iv p3, iv (1 : Int32), iv lo, iv hi, iv mid, .unset, .unset, .unset, .unset, .unset, .unset, .unset] [(.int lo)])) _
    refine XS.iload X16.here hx rfl (hb hby at_62) rfl ?_
    show Steps p.tables e below (T16.setTop (mkF m 64 #[iv p1, iv p2, iv p3, iv (1 : Int32), iv lo, iv hi, iv mid, .unset, .unset, .unset, .unset, .unset, .unset, .unset] [(.int hi), (.int lo)])) _
    exact k
  obtain ⟨_, _, ⟨T23, L23, kk23, nn23⟩, -, Xr23, hSr23, hgr23, ⟨Lc23, hQ23, l23, y23, z23⟩, st23⟩ := callSS X16 hx (y := (⟨"com/example/inert_quotient/inertquotient/prism/AlikeValuesSpanPinLaw", "v", "(II)Lcom/example/inert_quotient/inertquotient/prism/Variable;"⟩ : MethodName)) hown (mvT hZ (hw _ (List.mem_of_getElem? (i := 0) rfl))) (mvT hZ (hw _ (List.mem_of_getElem? (i := 1) rfl))) (mvT hZ (hw _ (List.mem_of_getElem? (i := 2) rfl))) (mvT hZ (hw _ (List.mem_of_getElem? (i := 3) rfl))) (by decide) (backOfS (W := 0) (vmake l Z a0 hw [] w_INT G lo hi T2.heap n0 O2 ) hZ (hw _ (List.mem_of_getElem? (i := 3) rfl)) (hw _ (List.mem_of_getElem? (i := 2) rfl)) (by decide) (by decide)) (g := (mkF m 64 #[iv p1, iv p2, iv p3, iv (1 : Int32), iv lo, iv hi, iv mid, .unset, .unset, .unset, .unset, .unset, .unset, .unset] [(.int hi), (.int lo)])) rfl (by rw [hml]; rfl) (argsL := [(.int lo), (.int hi)]) (rest := []) (lenOf pd_2 rfl) rfl (by show 2 * 0 + _ ≤ _; exact Nat.le_of_eq rfl) (hb hby at_64) (fun _ _ => ⟨rfl, e16, (by decide : 3 + 3 ≤ _), (by decide : 15 + 15 ≤ _)⟩)
  dsimp only [Pt.U, Pt.locs, Pt.cells, Pt.slots] at Xr23 hSr23 hgr23 l23 y23 z23 st23 hQ23
  subst l23 y23 z23
  obtain ⟨X23, hS23, hZ23, ho23⟩ := rebS (s := s) (vm0 := T2.vm) hS2 (by rw [e16]; exact (Nat.le_trans (Nat.le_refl _) (Nat.le_refl _))) Xr23 hSr23 hgr23 hZ hown
  have hZ := hZ23
  have hown := ho23
  obtain ⟨b1_23, rfl, Nq23, Kq23, po23_0, po23_1, po23_2, po23_3⟩ := hQ23
  have N23 := Fr.app N16 Nq23
  have O23 := O2.keep Kq23 all0
  have k24 : Way p e below S0 T23 (mkF m 67 #[iv p1, iv p2, iv p3, iv (1 : Int32), iv lo, iv hi, iv mid, .unset, .unset, .unset, .unset, .unset, .unset, .unset] [(.ref b1_23)]) := fun t k => k22 t (st23.trans k)
  obtain ⟨_, _, ⟨T25, L25, kk25, nn25⟩, -, X25, ⟨Lc25, hQ25, l25, y25, z25⟩, st25⟩ := Jvm.LawKit.callS X23 hx (y := (⟨"com/example/inert_quotient/inertquotient/prism/AlikeValues", "span", "(Lcom/example/inert_quotient/inertquotient/prism/Variable;)J"⟩ : MethodName)) hown (mvT hZ (hw _ (List.mem_of_getElem? (i := 38) rfl))) (mvT hZ (hw _ (List.mem_of_getElem? (i := 39) rfl))) (mvT hZ (hw _ (List.mem_of_getElem? (i := 40) rfl))) (mvT hZ (hw _ (List.mem_of_getElem? (i := 41) rfl))) (by decide) (backOf (W := 0) (span l Z a0 hw [] w_INT G b1_23 lo hi T23.heap n0 O23 (po23_1 : Exa Z T23.heap b1_23 "com/example/inert_quotient/inertquotient/prism/Variable") (po23_2 : Fld Z T23.heap b1_23 "com/example/inert_quotient/inertquotient/prism/Variable" "low" "I" (.int lo)) (po23_3 : Fld Z T23.heap b1_23 "com/example/inert_quotient/inertquotient/prism/Variable" "high" "I" (.int hi))) hZ (hw _ (List.mem_of_getElem? (i := 41) rfl)) (hw _ (List.mem_of_getElem? (i := 40) rfl)) (by decide) (by decide)) (g := (mkF m 67 #[iv p1, iv p2, iv p3, iv (1 : Int32), iv lo, iv hi, iv mid, .unset, .unset, .unset, .unset, .unset, .unset, .unset] [(.ref b1_23)])) rfl (by rw [hml]; rfl) (argsL := [(.ref b1_23)]) (rest := []) (lenOf pd_3 rfl) rfl (by show 2 * 0 + _ ≤ _; exact Nat.le_of_eq rfl) (hb hby at_67) (fun _ _ => ⟨rfl, rfl, (by decide : 6 + 0 ≤ _), (by decide : 30 + 0 ≤ _)⟩)
  dsimp only [Pt.U, Pt.locs, Pt.cells, Pt.slots] at X25 l25 y25 z25 st25 hQ25
  subst l25 y25 z25
  obtain ⟨rfl, Nq25, e25⟩ := hQ25
  have N25 := Fr.app N23 Nq25
  have k26 : Way p e below S0 T25 (mkF m 70 #[iv p1, iv p2, iv p3, iv (1 : Int32), iv lo, iv hi, iv mid, .unset, .unset, .unset, .unset, .unset, .unset, .unset] [(.long (((hi.toInt64) - (lo.toInt64)) + (1 : Int64)))]) := fun t k => k24 t (st25 _ k)
  have k28 : Way p e below S0 T25 (mkF m 99 #[iv p1, iv p2, iv p3, iv (1 : Int32), iv lo, iv hi, iv mid, .val (.long (((hi.toInt64) - (lo.toInt64)) + (1 : Int64))), .second, iv (1 : Int32), .unset, .unset, .unset, .unset] [(.int hi), (.int mid)]) := by
    intro t k
    refine k26 t ?_
    refine XS.lstore X25.here hx rfl (hb hby at_70) rfl (l' := #[iv p1, iv p2, iv p3, iv (1 : Int32), iv lo, iv hi, iv mid, .val (.long (((hi.toInt64) - (lo.toInt64)) + (1 : Int64))), .second, .unset, .unset, .unset, .unset, .unset]) rfl ?_
    show Steps p.tables e below (T25.setTop (mkF m 72 #[iv p1, iv p2, iv p3, iv (1 : Int32), iv lo, iv hi, iv mid, .val (.long (((hi.toInt64) - (lo.toInt64)) + (1 : Int64))), .second, .unset, .unset, .unset, .unset, .unset] [])) _
    refine XS.lload X25.here hx rfl (hb hby at_72) rfl ?_
    show Steps p.tables e below (T25.setTop (mkF m 74 #[iv p1, iv p2, iv p3, iv (1 : Int32), iv lo, iv hi, iv mid, .val (.long (((hi.toInt64) - (lo.toInt64)) + (1 : Int64))), .second, .unset, .unset, .unset, .unset, .unset] [(.long (((hi.toInt64) - (lo.toInt64)) + (1 : Int64)))])) _
    refine XS.lconst X25.here hx rfl (hb hby at_74) ?_
    show Steps p.tables e below (T25.setTop (mkF m 75 #[iv p1, iv p2, iv p3, iv (1 : Int32), iv lo, iv hi, iv mid, .val (.long (((hi.toInt64) - (lo.toInt64)) + (1 : Int64))), .second, .unset, .unset, .unset, .unset, .unset] [(.long (1 : Int64)), (.long (((hi.toInt64) - (lo.toInt64)) + (1 : Int64)))])) _
    refine XS.lcmp X25.here hx rfl (hb hby at_75) rfl ?_
    show Steps p.tables e below (T25.setTop (mkF m 76 #[iv p1, iv p2, iv p3, iv (1 : Int32), iv lo, iv hi, iv mid, .val (.long (((hi.toInt64) - (lo.toInt64)) + (1 : Int64))), .second, .unset, .unset, .unset, .unset, .unset] [(.int (lcmpW (((hi.toInt64) - (lo.toInt64)) + (1 : Int64)) (1 : Int64)))])) _
    refine XS.ifNo X25.here hx rfl (hb hby at_76) rfl ((if0 _ _).trans (flt (own_ge1 hlo hhi : ¬ ((lcmpW (((hi.toInt64) - (lo.toInt64)) + (1 : Int64)) (1 : Int64)) < (0 : Int32)))).1) ?_
    show Steps p.tables e below (T25.setTop (mkF m 79 #[iv p1, iv p2, iv p3, iv (1 : Int32), iv lo, iv hi, iv mid, .val (.long (((hi.toInt64) - (lo.toInt64)) + (1 : Int64))), .second, .unset, .unset, .unset, .unset, .unset] [])) _
    refine XS.lload X25.here hx rfl (hb hby at_79) rfl ?_
    show Steps p.tables e below (T25.setTop (mkF m 81 #[iv p1, iv p2, iv p3, iv (1 : Int32), iv lo, iv hi, iv mid, .val (.long (((hi.toInt64) - (lo.toInt64)) + (1 : Int64))), .second, .unset, .unset, .unset, .unset, .unset] [(.long (((hi.toInt64) - (lo.toInt64)) + (1 : Int64)))])) _
    refine X25.ldc2Long hx hown (mvT hZ (hw _ (List.mem_of_getElem? (i := 59) rfl))) (g := (mkF m 81 #[iv p1, iv p2, iv p3, iv (1 : Int32), iv lo, iv hi, iv mid, .val (.long (((hi.toInt64) - (lo.toInt64)) + (1 : Int64))), .second, .unset, .unset, .unset, .unset, .unset] [(.long (((hi.toInt64) - (lo.toInt64)) + (1 : Int64)))])) rfl (hb hby at_81) _ ?_
    show Steps p.tables e below (T25.setTop (mkF m 84 #[iv p1, iv p2, iv p3, iv (1 : Int32), iv lo, iv hi, iv mid, .val (.long (((hi.toInt64) - (lo.toInt64)) + (1 : Int64))), .second, .unset, .unset, .unset, .unset, .unset] [(.long (4294967296 : Int64)), (.long (((hi.toInt64) - (lo.toInt64)) + (1 : Int64)))])) _
    refine XS.lcmp X25.here hx rfl (hb hby at_84) rfl ?_
    show Steps p.tables e below (T25.setTop (mkF m 85 #[iv p1, iv p2, iv p3, iv (1 : Int32), iv lo, iv hi, iv mid, .val (.long (((hi.toInt64) - (lo.toInt64)) + (1 : Int64))), .second, .unset, .unset, .unset, .unset, .unset] [(.int (lcmpW (((hi.toInt64) - (lo.toInt64)) + (1 : Int64)) (4294967296 : Int64)))])) _
    refine XS.ifNo X25.here hx rfl (hb hby at_85) rfl ((if0 _ _).trans (flt (own_le2 _ _ : ¬ ((0 : Int32) < (lcmpW (((hi.toInt64) - (lo.toInt64)) + (1 : Int64)) (4294967296 : Int64))))).2.2.1) ?_
    show Steps p.tables e below (T25.setTop (mkF m 88 #[iv p1, iv p2, iv p3, iv (1 : Int32), iv lo, iv hi, iv mid, .val (.long (((hi.toInt64) - (lo.toInt64)) + (1 : Int64))), .second, .unset, .unset, .unset, .unset, .unset] [])) _
    refine XS.iconst X25.here hx rfl (hb hby at_88) ?_
    show Steps p.tables e below (T25.setTop (mkF m 89 #[iv p1, iv p2, iv p3, iv (1 : Int32), iv lo, iv hi, iv mid, .val (.long (((hi.toInt64) - (lo.toInt64)) + (1 : Int64))), .second, .unset, .unset, .unset, .unset, .unset] [(.int (1 : Int32))])) _
    refine XS.goto X25.here hx rfl (pc0 := 89) (pc' := 93) rfl (hb hby at_89) (by decide) (by decide) ?_
    show Steps p.tables e below (T25.setTop (mkF m 93 #[iv p1, iv p2, iv p3, iv (1 : Int32), iv lo, iv hi, iv mid, .val (.long (((hi.toInt64) - (lo.toInt64)) + (1 : Int64))), .second, .unset, .unset, .unset, .unset, .unset] [(.int (1 : Int32))])) _
    refine XS.istore X25.here hx rfl (hb hby at_93) rfl (l' := #[iv p1, iv p2, iv p3, iv (1 : Int32), iv lo, iv hi, iv mid, .val (.long (((hi.toInt64) - (lo.toInt64)) + (1 : Int64))), .second, iv (1 : Int32), .unset, .unset, .unset, .unset]) rfl ?_
    show Steps p.tables e below (T25.setTop (mkF m 95 #[iv p1, iv p2, iv p3, iv (1 : Int32), iv lo, iv hi, iv mid, .val (.long (((hi.toInt64) - (lo.toInt64)) + (1 : Int64))), .second, iv (1 : Int32), .unset, .unset, .unset, .unset] [])) _
    refine XS.iload X25.here hx rfl (hb hby at_95) rfl ?_
    show Steps p.tables e below (T25.setTop (mkF m 97 #[iv p1, iv p2, iv p3, iv (1 : Int32), iv lo, iv hi, iv mid, .val (.long (((hi.toInt64) - (lo.toInt64)) + (1 : Int64))), .second, iv (1 : Int32), .unset, .unset, .unset, .unset] [(.int mid)])) _
    refine XS.iload X25.here hx rfl (hb hby at_97) rfl ?_
    show Steps p.tables e below (T25.setTop (mkF m 99 #[iv p1, iv p2, iv p3, iv (1 : Int32), iv lo, iv hi, iv mid, .val (.long (((hi.toInt64) - (lo.toInt64)) + (1 : Int64))), .second, iv (1 : Int32), .unset, .unset, .unset, .unset] [(.int hi), (.int mid)])) _
    exact k
  by_cases hc27 : mid = hi
  · have k29 : Way p e below S0 T25 (mkF m 116 #[iv p1, iv p2, iv p3, iv (1 : Int32), iv lo, iv hi, iv mid, .val (.long (((hi.toInt64) - (lo.toInt64)) + (1 : Int64))), .second, iv (1 : Int32), .unset, .unset, .unset, .unset] [(.int (1 : Int32))]) := by
      intro t k
      refine k28 t ?_
      refine XS.icmpNo X25.here hx rfl (hb hby at_99) rfl (teq (hc27 : mid = hi)).2 ?_
      show Steps p.tables e below (T25.setTop (mkF m 102 #[iv p1, iv p2, iv p3, iv (1 : Int32), iv lo, iv hi, iv mid, .val (.long (((hi.toInt64) - (lo.toInt64)) + (1 : Int64))), .second, iv (1 : Int32), .unset, .unset, .unset, .unset] [])) _
      refine XS.iloadN X25.here hx rfl (hb hby at_102) rfl ?_
      show Steps p.tables e below (T25.setTop (mkF m 103 #[iv p1, iv p2, iv p3, iv (1 : Int32), iv lo, iv hi, iv mid, .val (.long (((hi.toInt64) - (lo.toInt64)) + (1 : Int64))), .second, iv (1 : Int32), .unset, .unset, .unset, .unset] [(.int (1 : Int32))])) _
      refine XS.ifNo X25.here hx rfl (hb hby at_103) rfl ((if0 _ _).trans (feq ((by decide) : ¬ ((1 : Int32) = (0 : Int32)))).1) ?_
      show Steps p.tables e below (T25.setTop (mkF m 106 #[iv p1, iv p2, iv p3, iv (1 : Int32), iv lo, iv hi, iv mid, .val (.long (((hi.toInt64) - (lo.toInt64)) + (1 : Int64))), .second, iv (1 : Int32), .unset, .unset, .unset, .unset] [])) _
      refine XS.iload X25.here hx rfl (hb hby at_106) rfl ?_
      show Steps p.tables e below (T25.setTop (mkF m 108 #[iv p1, iv p2, iv p3, iv (1 : Int32), iv lo, iv hi, iv mid, .val (.long (((hi.toInt64) - (lo.toInt64)) + (1 : Int64))), .second, iv (1 : Int32), .unset, .unset, .unset, .unset] [(.int (1 : Int32))])) _
      refine XS.ifNo X25.here hx rfl (hb hby at_108) rfl ((if0 _ _).trans (feq ((by decide) : ¬ ((1 : Int32) = (0 : Int32)))).1) ?_
      show Steps p.tables e below (T25.setTop (mkF m 111 #[iv p1, iv p2, iv p3, iv (1 : Int32), iv lo, iv hi, iv mid, .val (.long (((hi.toInt64) - (lo.toInt64)) + (1 : Int64))), .second, iv (1 : Int32), .unset, .unset, .unset, .unset] [])) _
      refine XS.iconst X25.here hx rfl (hb hby at_111) ?_
      show Steps p.tables e below (T25.setTop (mkF m 112 #[iv p1, iv p2, iv p3, iv (1 : Int32), iv lo, iv hi, iv mid, .val (.long (((hi.toInt64) - (lo.toInt64)) + (1 : Int64))), .second, iv (1 : Int32), .unset, .unset, .unset, .unset] [(.int (1 : Int32))])) _
      refine XS.goto X25.here hx rfl (pc0 := 112) (pc' := 116) rfl (hb hby at_112) (by decide) (by decide) ?_
      show Steps p.tables e below (T25.setTop (mkF m 116 #[iv p1, iv p2, iv p3, iv (1 : Int32), iv lo, iv hi, iv mid, .val (.long (((hi.toInt64) - (lo.toInt64)) + (1 : Int64))), .second, iv (1 : Int32), .unset, .unset, .unset, .unset] [(.int (1 : Int32))])) _
      exact k
    obtain ⟨fs, hr, hrun, hended, hRW⟩ := Stand.leaveW (s := s) (vm₁ := T23.vm) X25 hS23 (by rw [e25]; exact (Nat.le_trans (Nat.le_refl _) (Nat.le_refl _))) (v := some (.int (1 : Int32))) (fun h => by rw [Bd.returns] at h; cases h)
    refine ⟨_, _, k29 _ (retN X25 hx (t := .boolean) Bd.returns (by simp) (hb hby at_116) hr), hrun, hended, _, _, rfl, ?_, own_rw hRW (by decide) (by decide)⟩
    show Q_law_met Z w_INT p1 p2 p3 h0 n0 _ T25.heap _
    rw [e25]
    exact ⟨rfl, N25⟩
  · have k30 : Way p e below S0 T25 (mkF m 121 #[iv p1, iv p2, iv p3, iv (1 : Int32), iv lo, iv hi, iv mid, .val (.long (((hi.toInt64) - (lo.toInt64)) + (1 : Int64))), .second, iv (1 : Int32), .unset, .unset, .unset, .unset] [(.int mid), (.int lo)]) := by
      intro t k
      refine k28 t ?_
      refine XS.icmpYes X25.here hx rfl (pc0 := 99) (pc' := 117) rfl (hb hby at_99) rfl (feq (hc27 : ¬ (mid = hi))).2 (by decide) (by decide) ?_
      show Steps p.tables e below (T25.setTop (mkF m 117 #[iv p1, iv p2, iv p3, iv (1 : Int32), iv lo, iv hi, iv mid, .val (.long (((hi.toInt64) - (lo.toInt64)) + (1 : Int64))), .second, iv (1 : Int32), .unset, .unset, .unset, .unset] [])) _
      refine XS.iload X25.here hx rfl (hb hby at_117) rfl ?_
      show Steps p.tables e below (T25.setTop (mkF m 119 #[iv p1, iv p2, iv p3, iv (1 : Int32), iv lo, iv hi, iv mid, .val (.long (((hi.toInt64) - (lo.toInt64)) + (1 : Int64))), .second, iv (1 : Int32), .unset, .unset, .unset, .unset] [(.int lo)])) _
      refine XS.iload X25.here hx rfl (hb hby at_119) rfl ?_
      show Steps p.tables e below (T25.setTop (mkF m 121 #[iv p1, iv p2, iv p3, iv (1 : Int32), iv lo, iv hi, iv mid, .val (.long (((hi.toInt64) - (lo.toInt64)) + (1 : Int64))), .second, iv (1 : Int32), .unset, .unset, .unset, .unset] [(.int mid), (.int lo)])) _
      exact k
    obtain ⟨_, _, ⟨T31, L31, kk31, nn31⟩, -, Xr31, hSr31, hgr31, ⟨Lc31, hQ31, l31, y31, z31⟩, st31⟩ := callSS X25 hx (y := (⟨"com/example/inert_quotient/inertquotient/prism/AlikeValuesSpanPinLaw", "v", "(II)Lcom/example/inert_quotient/inertquotient/prism/Variable;"⟩ : MethodName)) hown (mvT hZ (hw _ (List.mem_of_getElem? (i := 0) rfl))) (mvT hZ (hw _ (List.mem_of_getElem? (i := 1) rfl))) (mvT hZ (hw _ (List.mem_of_getElem? (i := 2) rfl))) (mvT hZ (hw _ (List.mem_of_getElem? (i := 3) rfl))) (by decide) (backOfS (W := 0) (vmake l Z a0 hw [] w_INT G lo mid T23.heap n0 O23 ) hZ (hw _ (List.mem_of_getElem? (i := 3) rfl)) (hw _ (List.mem_of_getElem? (i := 2) rfl)) (by decide) (by decide)) (g := (mkF m 121 #[iv p1, iv p2, iv p3, iv (1 : Int32), iv lo, iv hi, iv mid, .val (.long (((hi.toInt64) - (lo.toInt64)) + (1 : Int64))), .second, iv (1 : Int32), .unset, .unset, .unset, .unset] [(.int mid), (.int lo)])) rfl (by rw [hml]; rfl) (argsL := [(.int lo), (.int mid)]) (rest := []) (lenOf pd_2 rfl) rfl (by show 2 * 0 + _ ≤ _; exact Nat.le_of_eq rfl) (hb hby at_121) (fun _ _ => ⟨rfl, e25, (by decide : 6 + 3 ≤ _), (by decide : 30 + 15 ≤ _)⟩)
    dsimp only [Pt.U, Pt.locs, Pt.cells, Pt.slots] at Xr31 hSr31 hgr31 l31 y31 z31 st31 hQ31
    subst l31 y31 z31
    obtain ⟨X31, hS31, hZ31, ho31⟩ := rebS (s := s) (vm0 := T23.vm) hS23 (by rw [e25]; exact (Nat.le_trans (Nat.le_refl _) (Nat.le_refl _))) Xr31 hSr31 hgr31 hZ hown
    have hZ := hZ31
    have hown := ho31
    obtain ⟨b1_31, rfl, Nq31, Kq31, po31_0, po31_1, po31_2, po31_3⟩ := hQ31
    have N31 := Fr.app N25 Nq31
    have O31 := O23.keep Kq31 all0
    have k32 : Way p e below S0 T31 (mkF m 124 #[iv p1, iv p2, iv p3, iv (1 : Int32), iv lo, iv hi, iv mid, .val (.long (((hi.toInt64) - (lo.toInt64)) + (1 : Int64))), .second, iv (1 : Int32), .unset, .unset, .unset, .unset] [(.ref b1_31)]) := fun t k => k30 t (st31.trans k)
    obtain ⟨_, _, ⟨T33, L33, kk33, nn33⟩, -, X33, ⟨Lc33, hQ33, l33, y33, z33⟩, st33⟩ := Jvm.LawKit.callS X31 hx (y := (⟨"com/example/inert_quotient/inertquotient/prism/AlikeValues", "span", "(Lcom/example/inert_quotient/inertquotient/prism/Variable;)J"⟩ : MethodName)) hown (mvT hZ (hw _ (List.mem_of_getElem? (i := 38) rfl))) (mvT hZ (hw _ (List.mem_of_getElem? (i := 39) rfl))) (mvT hZ (hw _ (List.mem_of_getElem? (i := 40) rfl))) (mvT hZ (hw _ (List.mem_of_getElem? (i := 41) rfl))) (by decide) (backOf (W := 0) (span l Z a0 hw [] w_INT G b1_31 lo mid T31.heap n0 O31 (po31_1 : Exa Z T31.heap b1_31 "com/example/inert_quotient/inertquotient/prism/Variable") (po31_2 : Fld Z T31.heap b1_31 "com/example/inert_quotient/inertquotient/prism/Variable" "low" "I" (.int lo)) (po31_3 : Fld Z T31.heap b1_31 "com/example/inert_quotient/inertquotient/prism/Variable" "high" "I" (.int mid))) hZ (hw _ (List.mem_of_getElem? (i := 41) rfl)) (hw _ (List.mem_of_getElem? (i := 40) rfl)) (by decide) (by decide)) (g := (mkF m 124 #[iv p1, iv p2, iv p3, iv (1 : Int32), iv lo, iv hi, iv mid, .val (.long (((hi.toInt64) - (lo.toInt64)) + (1 : Int64))), .second, iv (1 : Int32), .unset, .unset, .unset, .unset] [(.ref b1_31)])) rfl (by rw [hml]; rfl) (argsL := [(.ref b1_31)]) (rest := []) (lenOf pd_3 rfl) rfl (by show 2 * 0 + _ ≤ _; exact Nat.le_of_eq rfl) (hb hby at_124) (fun _ _ => ⟨rfl, rfl, (by decide : 9 + 0 ≤ _), (by decide : 45 + 0 ≤ _)⟩)
    dsimp only [Pt.U, Pt.locs, Pt.cells, Pt.slots] at X33 l33 y33 z33 st33 hQ33
    subst l33 y33 z33
    obtain ⟨rfl, Nq33, e33⟩ := hQ33
    have N33 := Fr.app N31 Nq33
    have k34 : Way p e below S0 T33 (mkF m 127 #[iv p1, iv p2, iv p3, iv (1 : Int32), iv lo, iv hi, iv mid, .val (.long (((hi.toInt64) - (lo.toInt64)) + (1 : Int64))), .second, iv (1 : Int32), .unset, .unset, .unset, .unset] [(.long (((mid.toInt64) - (lo.toInt64)) + (1 : Int64)))]) := fun t k => k32 t (st33 _ k)
    have k35 : Way p e below S0 T33 (mkF m 135 #[iv p1, iv p2, iv p3, iv (1 : Int32), iv lo, iv hi, iv mid, .val (.long (((hi.toInt64) - (lo.toInt64)) + (1 : Int64))), .second, iv (1 : Int32), .val (.long (((mid.toInt64) - (lo.toInt64)) + (1 : Int64))), .second, .unset, .unset] [(.int hi), (.int (mid + (1 : Int32)))]) := by
      intro t k
      refine k34 t ?_
      refine XS.lstore X33.here hx rfl (hb hby at_127) rfl (l' := #[iv p1, iv p2, iv p3, iv (1 : Int32), iv lo, iv hi, iv mid, .val (.long (((hi.toInt64) - (lo.toInt64)) + (1 : Int64))), .second, iv (1 : Int32), .val (.long (((mid.toInt64) - (lo.toInt64)) + (1 : Int64))), .second, .unset, .unset]) rfl ?_
      show Steps p.tables e below (T33.setTop (mkF m 129 #[iv p1, iv p2, iv p3, iv (1 : Int32), iv lo, iv hi, iv mid, .val (.long (((hi.toInt64) - (lo.toInt64)) + (1 : Int64))), .second, iv (1 : Int32), .val (.long (((mid.toInt64) - (lo.toInt64)) + (1 : Int64))), .second, .unset, .unset] [])) _
      refine XS.iload X33.here hx rfl (hb hby at_129) rfl ?_
      show Steps p.tables e below (T33.setTop (mkF m 131 #[iv p1, iv p2, iv p3, iv (1 : Int32), iv lo, iv hi, iv mid, .val (.long (((hi.toInt64) - (lo.toInt64)) + (1 : Int64))), .second, iv (1 : Int32), .val (.long (((mid.toInt64) - (lo.toInt64)) + (1 : Int64))), .second, .unset, .unset] [(.int mid)])) _
      refine XS.iconst X33.here hx rfl (hb hby at_131) ?_
      show Steps p.tables e below (T33.setTop (mkF m 132 #[iv p1, iv p2, iv p3, iv (1 : Int32), iv lo, iv hi, iv mid, .val (.long (((hi.toInt64) - (lo.toInt64)) + (1 : Int64))), .second, iv (1 : Int32), .val (.long (((mid.toInt64) - (lo.toInt64)) + (1 : Int64))), .second, .unset, .unset] [(.int (1 : Int32)), (.int mid)])) _
      refine XS.iadd X33.here hx rfl (hb hby at_132) rfl ?_
      show Steps p.tables e below (T33.setTop (mkF m 133 #[iv p1, iv p2, iv p3, iv (1 : Int32), iv lo, iv hi, iv mid, .val (.long (((hi.toInt64) - (lo.toInt64)) + (1 : Int64))), .second, iv (1 : Int32), .val (.long (((mid.toInt64) - (lo.toInt64)) + (1 : Int64))), .second, .unset, .unset] [(.int (mid + (1 : Int32)))])) _
      refine XS.iload X33.here hx rfl (hb hby at_133) rfl ?_
      show Steps p.tables e below (T33.setTop (mkF m 135 #[iv p1, iv p2, iv p3, iv (1 : Int32), iv lo, iv hi, iv mid, .val (.long (((hi.toInt64) - (lo.toInt64)) + (1 : Int64))), .second, iv (1 : Int32), .val (.long (((mid.toInt64) - (lo.toInt64)) + (1 : Int64))), .second, .unset, .unset] [(.int hi), (.int (mid + (1 : Int32)))])) _
      exact k
    obtain ⟨_, _, ⟨T36, L36, kk36, nn36⟩, -, Xr36, hSr36, hgr36, ⟨Lc36, hQ36, l36, y36, z36⟩, st36⟩ := callSS X33 hx (y := (⟨"com/example/inert_quotient/inertquotient/prism/AlikeValuesSpanPinLaw", "v", "(II)Lcom/example/inert_quotient/inertquotient/prism/Variable;"⟩ : MethodName)) hown (mvT hZ (hw _ (List.mem_of_getElem? (i := 0) rfl))) (mvT hZ (hw _ (List.mem_of_getElem? (i := 1) rfl))) (mvT hZ (hw _ (List.mem_of_getElem? (i := 2) rfl))) (mvT hZ (hw _ (List.mem_of_getElem? (i := 3) rfl))) (by decide) (backOfS (W := 0) (vmake l Z a0 hw [] w_INT G (mid + (1 : Int32)) hi T31.heap n0 O31 ) hZ (hw _ (List.mem_of_getElem? (i := 3) rfl)) (hw _ (List.mem_of_getElem? (i := 2) rfl)) (by decide) (by decide)) (g := (mkF m 135 #[iv p1, iv p2, iv p3, iv (1 : Int32), iv lo, iv hi, iv mid, .val (.long (((hi.toInt64) - (lo.toInt64)) + (1 : Int64))), .second, iv (1 : Int32), .val (.long (((mid.toInt64) - (lo.toInt64)) + (1 : Int64))), .second, .unset, .unset] [(.int hi), (.int (mid + (1 : Int32)))])) rfl (by rw [hml]; rfl) (argsL := [(.int (mid + (1 : Int32))), (.int hi)]) (rest := []) (lenOf pd_2 rfl) rfl (by show 2 * 0 + _ ≤ _; exact Nat.le_of_eq rfl) (hb hby at_135) (fun _ _ => ⟨rfl, e33, (by decide : 9 + 3 ≤ _), (by decide : 45 + 15 ≤ _)⟩)
    dsimp only [Pt.U, Pt.locs, Pt.cells, Pt.slots] at Xr36 hSr36 hgr36 l36 y36 z36 st36 hQ36
    subst l36 y36 z36
    obtain ⟨X36, hS36, hZ36, ho36⟩ := rebS (s := s) (vm0 := T31.vm) hS31 (by rw [e33]; exact (Nat.le_trans (Nat.le_refl _) (Nat.le_refl _))) Xr36 hSr36 hgr36 hZ hown
    have hZ := hZ36
    have hown := ho36
    obtain ⟨b1_36, rfl, Nq36, Kq36, po36_0, po36_1, po36_2, po36_3⟩ := hQ36
    have N36 := Fr.app N33 Nq36
    have O36 := O31.keep Kq36 all0
    have k37 : Way p e below S0 T36 (mkF m 138 #[iv p1, iv p2, iv p3, iv (1 : Int32), iv lo, iv hi, iv mid, .val (.long (((hi.toInt64) - (lo.toInt64)) + (1 : Int64))), .second, iv (1 : Int32), .val (.long (((mid.toInt64) - (lo.toInt64)) + (1 : Int64))), .second, .unset, .unset] [(.ref b1_36)]) := fun t k => k35 t (st36.trans k)
    obtain ⟨_, _, ⟨T38, L38, kk38, nn38⟩, -, X38, ⟨Lc38, hQ38, l38, y38, z38⟩, st38⟩ := Jvm.LawKit.callS X36 hx (y := (⟨"com/example/inert_quotient/inertquotient/prism/AlikeValues", "span", "(Lcom/example/inert_quotient/inertquotient/prism/Variable;)J"⟩ : MethodName)) hown (mvT hZ (hw _ (List.mem_of_getElem? (i := 38) rfl))) (mvT hZ (hw _ (List.mem_of_getElem? (i := 39) rfl))) (mvT hZ (hw _ (List.mem_of_getElem? (i := 40) rfl))) (mvT hZ (hw _ (List.mem_of_getElem? (i := 41) rfl))) (by decide) (backOf (W := 0) (span l Z a0 hw [] w_INT G b1_36 (mid + (1 : Int32)) hi T36.heap n0 O36 (po36_1 : Exa Z T36.heap b1_36 "com/example/inert_quotient/inertquotient/prism/Variable") (po36_2 : Fld Z T36.heap b1_36 "com/example/inert_quotient/inertquotient/prism/Variable" "low" "I" (.int (mid + (1 : Int32)))) (po36_3 : Fld Z T36.heap b1_36 "com/example/inert_quotient/inertquotient/prism/Variable" "high" "I" (.int hi))) hZ (hw _ (List.mem_of_getElem? (i := 41) rfl)) (hw _ (List.mem_of_getElem? (i := 40) rfl)) (by decide) (by decide)) (g := (mkF m 138 #[iv p1, iv p2, iv p3, iv (1 : Int32), iv lo, iv hi, iv mid, .val (.long (((hi.toInt64) - (lo.toInt64)) + (1 : Int64))), .second, iv (1 : Int32), .val (.long (((mid.toInt64) - (lo.toInt64)) + (1 : Int64))), .second, .unset, .unset] [(.ref b1_36)])) rfl (by rw [hml]; rfl) (argsL := [(.ref b1_36)]) (rest := []) (lenOf pd_3 rfl) rfl (by show 2 * 0 + _ ≤ _; exact Nat.le_of_eq rfl) (hb hby at_138) (fun _ _ => ⟨rfl, rfl, (by decide : 12 + 0 ≤ _), (by decide : 60 + 0 ≤ _)⟩)
    dsimp only [Pt.U, Pt.locs, Pt.cells, Pt.slots] at X38 l38 y38 z38 st38 hQ38
    subst l38 y38 z38
    obtain ⟨rfl, Nq38, e38⟩ := hQ38
    have N38 := Fr.app N36 Nq38
    have k39 : Way p e below S0 T38 (mkF m 141 #[iv p1, iv p2, iv p3, iv (1 : Int32), iv lo, iv hi, iv mid, .val (.long (((hi.toInt64) - (lo.toInt64)) + (1 : Int64))), .second, iv (1 : Int32), .val (.long (((mid.toInt64) - (lo.toInt64)) + (1 : Int64))), .second, .unset, .unset] [(.long (((hi.toInt64) - ((mid + (1 : Int32)).toInt64)) + (1 : Int64)))]) := fun t k => k37 t (st38 _ k)
    have k40 : Way p e below S0 T38 (mkF m 168 #[iv p1, iv p2, iv p3, iv (1 : Int32), iv lo, iv hi, iv mid, .val (.long (((hi.toInt64) - (lo.toInt64)) + (1 : Int64))), .second, iv (1 : Int32), .val (.long (((mid.toInt64) - (lo.toInt64)) + (1 : Int64))), .second, .val (.long (((hi.toInt64) - ((mid + (1 : Int32)).toInt64)) + (1 : Int64))), .second] [(.int (1 : Int32))]) := by
      intro t k
      refine k39 t ?_
      refine XS.lstore X38.here hx rfl (hb hby at_141) rfl (l' := #[iv p1, iv p2, iv p3, iv (1 : Int32), iv lo, iv hi, iv mid, .val (.long (((hi.toInt64) - (lo.toInt64)) + (1 : Int64))), .second, iv (1 : Int32), .val (.long (((mid.toInt64) - (lo.toInt64)) + (1 : Int64))), .second, .val (.long (((hi.toInt64) - ((mid + (1 : Int32)).toInt64)) + (1 : Int64))), .second]) rfl ?_
      show Steps p.tables e below (T38.setTop (mkF m 143 #[iv p1, iv p2, iv p3, iv (1 : Int32), iv lo, iv hi, iv mid, .val (.long (((hi.toInt64) - (lo.toInt64)) + (1 : Int64))), .second, iv (1 : Int32), .val (.long (((mid.toInt64) - (lo.toInt64)) + (1 : Int64))), .second, .val (.long (((hi.toInt64) - ((mid + (1 : Int32)).toInt64)) + (1 : Int64))), .second] [])) _
      refine XS.iloadN X38.here hx rfl (hb hby at_143) rfl ?_
      show Steps p.tables e below (T38.setTop (mkF m 144 #[iv p1, iv p2, iv p3, iv (1 : Int32), iv lo, iv hi, iv mid, .val (.long (((hi.toInt64) - (lo.toInt64)) + (1 : Int64))), .second, iv (1 : Int32), .val (.long (((mid.toInt64) - (lo.toInt64)) + (1 : Int64))), .second, .val (.long (((hi.toInt64) - ((mid + (1 : Int32)).toInt64)) + (1 : Int64))), .second] [(.int (1 : Int32))])) _
      refine XS.ifNo X38.here hx rfl (hb hby at_144) rfl ((if0 _ _).trans (feq ((by decide) : ¬ ((1 : Int32) = (0 : Int32)))).1) ?_
      show Steps p.tables e below (T38.setTop (mkF m 147 #[iv p1, iv p2, iv p3, iv (1 : Int32), iv lo, iv hi, iv mid, .val (.long (((hi.toInt64) - (lo.toInt64)) + (1 : Int64))), .second, iv (1 : Int32), .val (.long (((mid.toInt64) - (lo.toInt64)) + (1 : Int64))), .second, .val (.long (((hi.toInt64) - ((mid + (1 : Int32)).toInt64)) + (1 : Int64))), .second] [])) _
      refine XS.iload X38.here hx rfl (hb hby at_147) rfl ?_
      show Steps p.tables e below (T38.setTop (mkF m 149 #[iv p1, iv p2, iv p3, iv (1 : Int32), iv lo, iv hi, iv mid, .val (.long (((hi.toInt64) - (lo.toInt64)) + (1 : Int64))), .second, iv (1 : Int32), .val (.long (((mid.toInt64) - (lo.toInt64)) + (1 : Int64))), .second, .val (.long (((hi.toInt64) - ((mid + (1 : Int32)).toInt64)) + (1 : Int64))), .second] [(.int (1 : Int32))])) _
      refine XS.ifNo X38.here hx rfl (hb hby at_149) rfl ((if0 _ _).trans (feq ((by decide) : ¬ ((1 : Int32) = (0 : Int32)))).1) ?_
      show Steps p.tables e below (T38.setTop (mkF m 152 #[iv p1, iv p2, iv p3, iv (1 : Int32), iv lo, iv hi, iv mid, .val (.long (((hi.toInt64) - (lo.toInt64)) + (1 : Int64))), .second, iv (1 : Int32), .val (.long (((mid.toInt64) - (lo.toInt64)) + (1 : Int64))), .second, .val (.long (((hi.toInt64) - ((mid + (1 : Int32)).toInt64)) + (1 : Int64))), .second] [])) _
      refine XS.lload X38.here hx rfl (hb hby at_152) rfl ?_
      show Steps p.tables e below (T38.setTop (mkF m 154 #[iv p1, iv p2, iv p3, iv (1 : Int32), iv lo, iv hi, iv mid, .val (.long (((hi.toInt64) - (lo.toInt64)) + (1 : Int64))), .second, iv (1 : Int32), .val (.long (((mid.toInt64) - (lo.toInt64)) + (1 : Int64))), .second, .val (.long (((hi.toInt64) - ((mid + (1 : Int32)).toInt64)) + (1 : Int64))), .second] [(.long (((mid.toInt64) - (lo.toInt64)) + (1 : Int64)))])) _
      refine XS.lload X38.here hx rfl (hb hby at_154) rfl ?_
      show Steps p.tables e below (T38.setTop (mkF m 156 #[iv p1, iv p2, iv p3, iv (1 : Int32), iv lo, iv hi, iv mid, .val (.long (((hi.toInt64) - (lo.toInt64)) + (1 : Int64))), .second, iv (1 : Int32), .val (.long (((mid.toInt64) - (lo.toInt64)) + (1 : Int64))), .second, .val (.long (((hi.toInt64) - ((mid + (1 : Int32)).toInt64)) + (1 : Int64))), .second] [(.long (((hi.toInt64) - ((mid + (1 : Int32)).toInt64)) + (1 : Int64))), (.long (((mid.toInt64) - (lo.toInt64)) + (1 : Int64)))])) _
      refine XS.ladd X38.here hx rfl (hb hby at_156) rfl ?_
      show Steps p.tables e below (T38.setTop (mkF m 157 #[iv p1, iv p2, iv p3, iv (1 : Int32), iv lo, iv hi, iv mid, .val (.long (((hi.toInt64) - (lo.toInt64)) + (1 : Int64))), .second, iv (1 : Int32), .val (.long (((mid.toInt64) - (lo.toInt64)) + (1 : Int64))), .second, .val (.long (((hi.toInt64) - ((mid + (1 : Int32)).toInt64)) + (1 : Int64))), .second] [(.long ((((mid.toInt64) - (lo.toInt64)) + (1 : Int64)) + (((hi.toInt64) - ((mid + (1 : Int32)).toInt64)) + (1 : Int64))))])) _
      refine XS.lload X38.here hx rfl (hb hby at_157) rfl ?_
      show Steps p.tables e below (T38.setTop (mkF m 159 #[iv p1, iv p2, iv p3, iv (1 : Int32), iv lo, iv hi, iv mid, .val (.long (((hi.toInt64) - (lo.toInt64)) + (1 : Int64))), .second, iv (1 : Int32), .val (.long (((mid.toInt64) - (lo.toInt64)) + (1 : Int64))), .second, .val (.long (((hi.toInt64) - ((mid + (1 : Int32)).toInt64)) + (1 : Int64))), .second] [(.long (((hi.toInt64) - (lo.toInt64)) + (1 : Int64))), (.long ((((mid.toInt64) - (lo.toInt64)) + (1 : Int64)) + (((hi.toInt64) - ((mid + (1 : Int32)).toInt64)) + (1 : Int64))))])) _
      refine XS.lcmp X38.here hx rfl (hb hby at_159) rfl ?_
      show Steps p.tables e below (T38.setTop (mkF m 160 #[iv p1, iv p2, iv p3, iv (1 : Int32), iv lo, iv hi, iv mid, .val (.long (((hi.toInt64) - (lo.toInt64)) + (1 : Int64))), .second, iv (1 : Int32), .val (.long (((mid.toInt64) - (lo.toInt64)) + (1 : Int64))), .second, .val (.long (((hi.toInt64) - ((mid + (1 : Int32)).toInt64)) + (1 : Int64))), .second] [(.int (lcmpW ((((mid.toInt64) - (lo.toInt64)) + (1 : Int64)) + (((hi.toInt64) - ((mid + (1 : Int32)).toInt64)) + (1 : Int64))) (((hi.toInt64) - (lo.toInt64)) + (1 : Int64))))])) _
      refine XS.ifNo X38.here hx rfl (hb hby at_160) rfl ((if0 _ _).trans (teq (own_sum hlo hhi hmid hc27 : (lcmpW ((((mid.toInt64) - (lo.toInt64)) + (1 : Int64)) + (((hi.toInt64) - ((mid + (1 : Int32)).toInt64)) + (1 : Int64))) (((hi.toInt64) - (lo.toInt64)) + (1 : Int64))) = (0 : Int32))).2) ?_
      show Steps p.tables e below (T38.setTop (mkF m 163 #[iv p1, iv p2, iv p3, iv (1 : Int32), iv lo, iv hi, iv mid, .val (.long (((hi.toInt64) - (lo.toInt64)) + (1 : Int64))), .second, iv (1 : Int32), .val (.long (((mid.toInt64) - (lo.toInt64)) + (1 : Int64))), .second, .val (.long (((hi.toInt64) - ((mid + (1 : Int32)).toInt64)) + (1 : Int64))), .second] [])) _
      refine XS.iconst X38.here hx rfl (hb hby at_163) ?_
      show Steps p.tables e below (T38.setTop (mkF m 164 #[iv p1, iv p2, iv p3, iv (1 : Int32), iv lo, iv hi, iv mid, .val (.long (((hi.toInt64) - (lo.toInt64)) + (1 : Int64))), .second, iv (1 : Int32), .val (.long (((mid.toInt64) - (lo.toInt64)) + (1 : Int64))), .second, .val (.long (((hi.toInt64) - ((mid + (1 : Int32)).toInt64)) + (1 : Int64))), .second] [(.int (1 : Int32))])) _
      refine XS.goto X38.here hx rfl (pc0 := 164) (pc' := 168) rfl (hb hby at_164) (by decide) (by decide) ?_
      show Steps p.tables e below (T38.setTop (mkF m 168 #[iv p1, iv p2, iv p3, iv (1 : Int32), iv lo, iv hi, iv mid, .val (.long (((hi.toInt64) - (lo.toInt64)) + (1 : Int64))), .second, iv (1 : Int32), .val (.long (((mid.toInt64) - (lo.toInt64)) + (1 : Int64))), .second, .val (.long (((hi.toInt64) - ((mid + (1 : Int32)).toInt64)) + (1 : Int64))), .second] [(.int (1 : Int32))])) _
      exact k
    obtain ⟨fs, hr, hrun, hended, hRW⟩ := Stand.leaveW (s := s) (vm₁ := T36.vm) X38 hS36 (by rw [e38]; exact (Nat.le_trans (Nat.le_refl _) (Nat.le_refl _))) (v := some (.int (1 : Int32))) (fun h => by rw [Bd.returns] at h; cases h)
    refine ⟨_, _, k40 _ (retN X38 hx (t := .boolean) Bd.returns (by simp) (hb hby at_168) hr), hrun, hended, _, _, rfl, ?_, own_rw hRW (by decide) (by decide)⟩
    show Q_law_met Z w_INT p1 p2 p3 h0 n0 _ T38.heap _
    rw [e38]
    exact ⟨rfl, N38⟩
set_option maxRecDepth 65536 in
set_option maxHeartbeats 40000000 in
theorem comes_1 {Post : Tables → Env → Array Value → State → Outcome → State → Prop} (hpost : ∀ tb e args s v u, (limb_1_1.after args s (.returned v) u = true ∧ limb_1_2.after args s (.returned v) u = true ∧ True) → ReturnedEndW s (.returned v) u (Jvm.fieldLocs frame_1_writes args s ++ Jvm.arrayLocs frame_1_arrays args s ++ Jvm.staticLocs frame_1_statics s) 24 1152 → Post tb e args s (.returned v) u) :
    ArmFor flags0 classFile x code maxLocals ret World_1 tables_1 room_1 Calls_1 rest_1 Pre_1 Post := by
  intro l hfl _ _ p e ha hc hk s m args below hf hA hF happ hP
  obtain ⟨hcalls, hrest, hpre⟩ := hP
  obtain ⟨-, -, -, hnamed, -, -, -, hat⟩ := (Spec.applies_iff hf).mp happ
  obtain ⟨hg, hn⟩ := and_e (Cond.before_iff.mp (show (Jvm.Cond.and given_1 narrow_1).before args s = true from hpre))
  obtain ⟨g1a, g1b⟩ := and_e hg
  obtain ⟨g2a, g2b⟩ := and_e g1b
  obtain ⟨g3a, g3b⟩ := and_e g2b
  obtain ⟨w0, w1, w2, rfl⟩ : ∃ w0 w1 w2 : Value, args = #[w0, w1, w2] := by
    have hs : args.size = 3 := by simpa [Cond.value, given_1] using g1a
    obtain ⟨L⟩ := args
    match L, hs with
    | [w0, w1, w2], _ => exact ⟨w0, w1, w2, rfl⟩
  have hw := fun d (hd : d ∈ tables_1) => atoms_spec (ws := Jvm.Cond.code x code maxLocals ret :: tables_1) hat d (List.mem_cons_of_mem _ hd)
  have hfit : Fit s := fun {y c} hc i hi => by
    obtain ⟨ha, rfl⟩ := Array.getElem?_eq_some_iff.mp hc
    have q := List.all_eq_true.mp ((Array.all_eq_true_iff_forall_mem.mp hF) _ (Array.getElem_mem ha)) i (List.mem_range.mpr hi)
    simpa [Array.getElem?_eq_getElem hi] using q
  obtain ⟨i0, ei0⟩ := is_v g2a
  obtain rfl : w0 = (.int i0) := Option.some.inj ei0
  obtain ⟨i1, ei1⟩ := is_v g3a
  obtain rfl : w1 = (.int i1) := Option.some.inj ei1
  obtain ⟨i2, ei2⟩ := is_v g3b
  obtain rfl : w2 = (.int i2) := Option.some.inj ei2
  obtain ⟨w_INT, ev_w_INT⟩ := exa_v hn
  have S_w_INT := Sta.start ev_w_INT (Or.inr ⟨(hw _ (List.mem_of_getElem? (i := 16) rfl)), (hw _ (List.mem_of_getElem? (i := 17) rfl))⟩)
  have E_w_INT := Exa.start ev_w_INT hn
  have G : Gst s w_INT := ⟨S_w_INT, E_w_INT⟩
  obtain ⟨n, o, h1, h2, h3, _, L, rfl, ⟨rfl, N⟩, hq⟩ := law_met l s _ hw tables_1 w_INT G i0 i1 i2 s.heap s.heap.size (Old.start s)  p e ha hc hk s m _ below hf ((Spec.applies_iff_loose hf).mp happ).1 ⟨rfl, State.Warmed39.refl s, rfl⟩ trivial
  refine ⟨n, _, h1, h2, h3, hpost _ _ _ _ _ _ ⟨Cond.after_iff.mpr rfl, Cond.after_iff.mpr (eq_i res_at (Term.int_eval (1)) rfl), trivial⟩ ⟨hq.1, hq.2.1, hq.2.2.1, (hq.2.2.2.sift fun y hy => Or.inr (N y hy)).mono (by decide) (by decide)⟩⟩
theorem main_1_1 : Claimed_1_1 := comes_1 fun _ _ _ _ _ _ h hF => ⟨h.1, hF⟩
theorem main_1_2 : Claimed_1_2 := comes_1 fun _ _ _ _ _ _ h hF => ⟨h.2.1, hF⟩
end Jvm.Pilot.@@N@@
namespace Jvm.Pilot.@@N@@
open Jvm Jvm.ClassFile Sem Op Lib Jvm.Free Jvm.Stand Jvm.Pilot.@@N@@.Jvm.D
/-! MADE BY PROGRAM (witnessworld.py) out of the Statement's table words and the real class files: 18 classes; the members and pool entries that the words name. The judged class is class 1, her method 2. -/
namespace start1
open Jvm.ClassFile
def u (s : String) : CpInfo := .utf8 (stringToUtf16 s)
/-- a pool by its gaps: so many unusable entries, then the entry; so many at the end -/
def gap : Nat → List CpInfo → List CpInfo
  | 0, r => r
  | n + 1, r => .unusable :: gap n r
def poolList (es : List (Nat × CpInfo)) (last : Nat) : List CpInfo := es.foldr (fun e r => gap e.1 (e.2 :: r)) (gap last [])
def pool (es : List (Nat × CpInfo)) (last : Nat) : Array CpInfo := ⟨poolList es last⟩
def fileOf (pool : Array CpInfo) (this : Nat) (attrs : Array Attribute := #[]) (ms : Array MethodInfo := #[]) (fl : Nat := 33) (sup : Nat := 0) (ifs : Array Nat := #[]) (fds : Array FieldInfo := #[]) : ClassFile where
  minorVersion := 0
  majorVersion := 65
  constantPool := pool
  accessFlags := fl
  thisClass := this
  superClass := sup
  interfaces := ifs
  fields := fds
  methods := ms
  attributes := attrs
def plain (name : String) (sup : Option ClassId) : Class where
  name := name
  kind := .ordinary
  loader := none
  accessFlags := 33
  super := sup
  interfaces := #[]
  cf := none
  fields := #[]
  methods := #[]
  instanceTypes := #[]
  staticTypes := #[]
  resolved := #[]
  callSites := []
  init := .initialized
  statics := none
  mirror := none

def pool0 : Array CpInfo := pool [(5, u "<init>"), (0, u "()V"), (1, .class_ 10), (1, u "java/lang/Object")] 113

def k0c0 : Code := { maxStack := 0, maxLocals := 1, code := object_method_1_code, exceptionTable := #[], attributes := #[] }
def k0m0 : Method := { name := "<init>", desc := "()V", sig := { parameters := [], returnType := none }, accessFlags := 1, code := some k0c0 }
/-- java/lang/Object -/
def k0 : Class := { plain "java/lang/Object" none with
  accessFlags := 33
  interfaces := #[]
  cf := some (fileOf pool0 8 #[] #[{ accessFlags := 1, nameIndex := 5, descriptorIndex := 6, attributes := #[] }] 33 0 #[] #[])
  fields := #[]
  methods := #[k0m0]
  instanceTypes := #[]
  staticTypes := #[]
  resolved := Array.replicate 124 none
  statics := none }

def pool1 : Array CpInfo := pool [(2, .class_ 4), (1, u "java/lang/Object"), (0, u "<init>"), (0, u "()V"), (0, .class_ 8), (0, u "com/example/inert_quotient/inertquotient/prism/Variable"), (0, .string 10), (0, u "v"), (0, .fieldref 12 13), (0, .class_ 14), (0, .nameAndType 15 16), (0, u "com/example/inert_quotient/inertquotient/prism/Type"), (0, u "INT"), (0, u "Lcom/example/inert_quotient/inertquotient/prism/Type;"), (0, .methodref 7 18), (0, .nameAndType 5 19), (0, u "(Ljava/lang/String;Lcom/example/inert_quotient/inertquotient/prism/Type;IIIILjava/lang/String;)V"), (0, .methodref 21 22), (0, .class_ 23), (0, .nameAndType 10 24), (0, u "com/example/inert_quotient/inertquotient/prism/AlikeValuesSpanPinLaw"), (0, u "(II)Lcom/example/inert_quotient/inertquotient/prism/Variable;"), (0, .methodref 26 27), (0, .class_ 28), (0, .nameAndType 29 30), (0, u "com/example/inert_quotient/inertquotient/prism/AlikeValues"), (0, u "span"), (0, u "(Lcom/example/inert_quotient/inertquotient/prism/Variable;)J"), (0, .methodref 32 33), (0, .class_ 34), (0, .nameAndType 35 36), (0, u "java/lang/Math"), (0, u "min"), (0, u "(II)I"), (0, .methodref 32 38), (0, .nameAndType 39 36), (0, u "max"), (0, .long 4294967296), (3, u "law"), (0, u "(III)Z")] 3

def k1m0 : Method := { name := "<init>", desc := "()V", sig := { parameters := [], returnType := none }, accessFlags := 1, code := none }
def k1c1 : Code := { maxStack := 9, maxLocals := 2, code := method_2_code, exceptionTable := #[], attributes := #[] }
def k1m1 : Method := { name := "v", desc := "(II)Lcom/example/inert_quotient/inertquotient/prism/Variable;", sig := { parameters := [.int, .int], returnType := some (.object "com/example/inert_quotient/inertquotient/prism/Variable") }, accessFlags := 10, code := some k1c1 }
def k1c2 : Code := { maxStack := 4, maxLocals := 14, code := code, exceptionTable := #[], attributes := #[] }
def k1m2 : Method := { name := "law", desc := "(III)Z", sig := { parameters := [.int, .int, .int], returnType := some .boolean }, accessFlags := 9, code := some k1c2 }
/-- com/example/inert_quotient/inertquotient/prism/AlikeValuesSpanPinLaw -/
def k1 : Class := { plain "com/example/inert_quotient/inertquotient/prism/AlikeValuesSpanPinLaw" (some 0) with
  accessFlags := 49
  interfaces := #[]
  cf := some (fileOf pool1 21 #[] #[{ accessFlags := 1, nameIndex := 5, descriptorIndex := 6, attributes := #[] }, { accessFlags := 10, nameIndex := 10, descriptorIndex := 24, attributes := #[] }, { accessFlags := 9, nameIndex := 44, descriptorIndex := 45, attributes := #[] }] 49 2 #[] #[])
  fields := #[]
  methods := #[k1m0, k1m1, k1m2]
  instanceTypes := #[]
  staticTypes := #[]
  resolved := Array.replicate 49 none
  statics := none }

def pool2 : Array CpInfo := pool [(1, .methodref 2 3), (0, .class_ 4), (0, .nameAndType 5 6), (0, u "java/lang/Object"), (0, u "<init>"), (0, u "()V"), (0, .fieldref 8 9), (0, .class_ 10), (0, .nameAndType 11 12), (0, u "com/example/inert_quotient/inertquotient/prism/Variable"), (0, u "name"), (0, u "Ljava/lang/String;"), (0, .fieldref 8 14), (0, .nameAndType 15 16), (0, u "type"), (0, u "Lcom/example/inert_quotient/inertquotient/prism/Type;"), (0, .fieldref 8 18), (0, .nameAndType 19 20), (0, u "index"), (0, u "I"), (0, .fieldref 8 22), (0, .nameAndType 23 20), (0, u "low"), (0, .fieldref 8 25), (0, .nameAndType 26 20), (0, u "high"), (0, .fieldref 8 28), (0, .nameAndType 29 20), (0, u "initial"), (0, .fieldref 8 31), (0, .nameAndType 32 12), (0, u "module"), (15, u "(Ljava/lang/String;Lcom/example/inert_quotient/inertquotient/prism/Type;IIIILjava/lang/String;)V"), (4, u "()I")] 6

def k2c0 : Code := { maxStack := 2, maxLocals := 8, code := prog_82_method_1_code, exceptionTable := #[], attributes := #[] }
def k2m0 : Method := { name := "<init>", desc := "(Ljava/lang/String;Lcom/example/inert_quotient/inertquotient/prism/Type;IIIILjava/lang/String;)V", sig := { parameters := [(.object "java/lang/String"), (.object "com/example/inert_quotient/inertquotient/prism/Type"), .int, .int, .int, .int, (.object "java/lang/String")], returnType := none }, accessFlags := 0, code := some k2c0 }
def k2c1 : Code := { maxStack := 1, maxLocals := 1, code := prog_82_method_5_code, exceptionTable := #[], attributes := #[] }
def k2m1 : Method := { name := "low", desc := "()I", sig := { parameters := [], returnType := some .int }, accessFlags := 1, code := some k2c1 }
def k2c2 : Code := { maxStack := 1, maxLocals := 1, code := prog_82_method_6_code, exceptionTable := #[], attributes := #[] }
def k2m2 : Method := { name := "high", desc := "()I", sig := { parameters := [], returnType := some .int }, accessFlags := 1, code := some k2c2 }
/-- com/example/inert_quotient/inertquotient/prism/Variable -/
def k2 : Class := { plain "com/example/inert_quotient/inertquotient/prism/Variable" (some 0) with
  accessFlags := 33
  interfaces := #[]
  cf := some (fileOf pool2 8 #[] #[{ accessFlags := 0, nameIndex := 5, descriptorIndex := 48, attributes := #[] }, { accessFlags := 1, nameIndex := 23, descriptorIndex := 53, attributes := #[] }, { accessFlags := 1, nameIndex := 26, descriptorIndex := 53, attributes := #[] }] 33 2 #[] #[{ accessFlags := 18, nameIndex := 11, descriptorIndex := 12, attributes := #[] }, { accessFlags := 18, nameIndex := 15, descriptorIndex := 16, attributes := #[] }, { accessFlags := 18, nameIndex := 19, descriptorIndex := 20, attributes := #[] }, { accessFlags := 18, nameIndex := 23, descriptorIndex := 20, attributes := #[] }, { accessFlags := 18, nameIndex := 26, descriptorIndex := 20, attributes := #[] }, { accessFlags := 18, nameIndex := 29, descriptorIndex := 20, attributes := #[] }, { accessFlags := 18, nameIndex := 32, descriptorIndex := 12, attributes := #[] }])
  fields := #[{ name := "name", type := (.object "java/lang/String"), accessFlags := 18, slot := 0, constantValue := 0 }, { name := "type", type := (.object "com/example/inert_quotient/inertquotient/prism/Type"), accessFlags := 18, slot := 1, constantValue := 0 }, { name := "index", type := .int, accessFlags := 18, slot := 2, constantValue := 0 }, { name := "low", type := .int, accessFlags := 18, slot := 3, constantValue := 0 }, { name := "high", type := .int, accessFlags := 18, slot := 4, constantValue := 0 }, { name := "initial", type := .int, accessFlags := 18, slot := 5, constantValue := 0 }, { name := "module", type := (.object "java/lang/String"), accessFlags := 18, slot := 6, constantValue := 0 }]
  methods := #[k2m0, k2m1, k2m2]
  instanceTypes := #[(.object "java/lang/String"), (.object "com/example/inert_quotient/inertquotient/prism/Type"), .int, .int, .int, .int, (.object "java/lang/String")]
  staticTypes := #[]
  resolved := Array.replicate 60 none
  statics := none }

def pool3 : Array CpInfo := pool [(1, .class_ 2), (0, u "java/io/Serializable"), (0, .class_ 4), (0, u "java/lang/Object")] 2

/-- java/io/Serializable -/
def k3 : Class := { plain "java/io/Serializable" (some 0) with
  accessFlags := 1537
  interfaces := #[]
  cf := some (fileOf pool3 1 #[] #[] 1537 3 #[] #[])
  fields := #[]
  methods := #[]
  instanceTypes := #[]
  staticTypes := #[]
  resolved := Array.replicate 7 none
  statics := none }

def pool4 : Array CpInfo := pool [(1, .class_ 2), (0, u "java/lang/Comparable"), (0, .class_ 4), (0, u "java/lang/Object")] 7

/-- java/lang/Comparable -/
def k4 : Class := { plain "java/lang/Comparable" (some 0) with
  accessFlags := 1537
  interfaces := #[]
  cf := some (fileOf pool4 1 #[] #[] 1537 3 #[] #[])
  fields := #[]
  methods := #[]
  instanceTypes := #[]
  staticTypes := #[]
  resolved := Array.replicate 12 none
  statics := none }

def pool5 : Array CpInfo := pool [(2, .class_ 4), (1, u "java/lang/CharSequence"), (42, .class_ 48), (0, u "java/lang/CharSequence$1CodePointIterator"), (10, .class_ 60), (0, u "java/lang/CharSequence$1CharIterator"), (5, .class_ 67), (0, u "java/lang/Object")] 63

/-- java/lang/CharSequence -/
def k5 : Class := { plain "java/lang/CharSequence" (some 0) with
  accessFlags := 1537
  interfaces := #[]
  cf := some (fileOf pool5 2 #[.nestMembers #[47, 59]] #[] 1537 66 #[] #[])
  fields := #[]
  methods := #[]
  instanceTypes := #[]
  staticTypes := #[]
  resolved := Array.replicate 131 none
  statics := none }

def pool6 : Array CpInfo := pool [(1, .class_ 2), (0, u "java/lang/constant/Constable"), (0, .class_ 4), (0, u "java/lang/Object")] 6

/-- java/lang/constant/Constable -/
def k6 : Class := { plain "java/lang/constant/Constable" (some 0) with
  accessFlags := 1537
  interfaces := #[]
  cf := some (fileOf pool6 1 #[] #[] 1537 3 #[] #[])
  fields := #[]
  methods := #[]
  instanceTypes := #[]
  staticTypes := #[]
  resolved := Array.replicate 11 none
  statics := none }

def pool7 : Array CpInfo := pool [(1, .class_ 2), (0, u "java/lang/constant/ConstantDesc"), (0, .class_ 4), (0, u "java/lang/Object")] 32

/-- java/lang/constant/ConstantDesc -/
def k7 : Class := { plain "java/lang/constant/ConstantDesc" (some 0) with
  accessFlags := 1537
  interfaces := #[]
  cf := some (fileOf pool7 1 #[] #[] 1537 3 #[] #[])
  fields := #[]
  methods := #[]
  instanceTypes := #[]
  staticTypes := #[]
  resolved := Array.replicate 37 none
  statics := none }

def pool8 : Array CpInfo := pool [(2, .class_ 4), (1, u "java/lang/Object"), (0, u "<init>"), (0, u "()V"), (3, .class_ 12), (1, u "java/lang/String"), (0, u "value"), (0, u "[B"), (2, u "coder"), (0, u "B"), (2, u "hash"), (0, u "I"), (2, u "hashIsZero"), (0, u "Z"), (13, u "COMPACT_STRINGS"), (534, .class_ 576), (0, u "java/lang/CharSequence"), (22, u "CASE_INSENSITIVE_ORDER"), (0, u "Ljava/util/Comparator;"), (500, u "serialPersistentFields"), (0, u "[Ljava/io/ObjectStreamField;"), (0, .class_ 1104), (0, u "java/lang/String$CaseInsensitiveComparator"), (1, .class_ 1107), (0, u "java/io/Serializable"), (0, .class_ 1109), (0, u "java/lang/Comparable"), (0, .class_ 1111), (0, u "java/lang/constant/Constable"), (0, .class_ 1113), (0, u "java/lang/constant/ConstantDesc"), (2, u "serialVersionUID"), (0, u "J"), (3, u "REPL"), (0, u "C"), (2, u "LATIN1"), (1, u "UTF16")] 323

def k8m0 : Method := { name := "<init>", desc := "()V", sig := { parameters := [], returnType := none }, accessFlags := 1, code := none }
/-- java/lang/String -/
def k8 : Class := { plain "java/lang/String" (some 0) with
  accessFlags := 49
  interfaces := #[3, 4, 5, 6, 7]
  cf := some (fileOf pool8 10 #[.nestMembers #[1103]] #[{ accessFlags := 1, nameIndex := 5, descriptorIndex := 6, attributes := #[] }] 49 2 #[1106, 1108, 575, 1110, 1112] #[{ accessFlags := 18, nameIndex := 13, descriptorIndex := 14, attributes := #[] }, { accessFlags := 18, nameIndex := 17, descriptorIndex := 18, attributes := #[] }, { accessFlags := 2, nameIndex := 21, descriptorIndex := 22, attributes := #[] }, { accessFlags := 2, nameIndex := 25, descriptorIndex := 26, attributes := #[] }, { accessFlags := 26, nameIndex := 1116, descriptorIndex := 1117, attributes := #[] }, { accessFlags := 24, nameIndex := 40, descriptorIndex := 26, attributes := #[] }, { accessFlags := 26, nameIndex := 1101, descriptorIndex := 1102, attributes := #[] }, { accessFlags := 26, nameIndex := 1121, descriptorIndex := 1122, attributes := #[] }, { accessFlags := 25, nameIndex := 599, descriptorIndex := 600, attributes := #[] }, { accessFlags := 24, nameIndex := 1125, descriptorIndex := 18, attributes := #[] }, { accessFlags := 24, nameIndex := 1127, descriptorIndex := 18, attributes := #[] }])
  fields := #[{ name := "value", type := (.array .byte), accessFlags := 18, slot := 0, constantValue := 0 }, { name := "coder", type := .byte, accessFlags := 18, slot := 1, constantValue := 0 }, { name := "hash", type := .int, accessFlags := 2, slot := 2, constantValue := 0 }, { name := "hashIsZero", type := .boolean, accessFlags := 2, slot := 3, constantValue := 0 }, { name := "serialVersionUID", type := .long, accessFlags := 26, slot := 0, constantValue := 0 }, { name := "COMPACT_STRINGS", type := .boolean, accessFlags := 24, slot := 1, constantValue := 0 }, { name := "serialPersistentFields", type := (.array (.object "java/io/ObjectStreamField")), accessFlags := 26, slot := 2, constantValue := 0 }, { name := "REPL", type := .char, accessFlags := 26, slot := 3, constantValue := 0 }, { name := "CASE_INSENSITIVE_ORDER", type := (.object "java/util/Comparator"), accessFlags := 25, slot := 4, constantValue := 0 }, { name := "LATIN1", type := .byte, accessFlags := 24, slot := 5, constantValue := 0 }, { name := "UTF16", type := .byte, accessFlags := 24, slot := 6, constantValue := 0 }]
  methods := #[k8m0]
  instanceTypes := #[(.array .byte), .byte, .int, .boolean]
  staticTypes := #[.long, .boolean, (.array (.object "java/io/ObjectStreamField")), .char, (.object "java/util/Comparator"), .byte, .byte]
  resolved := Array.replicate 1451 none
  statics := none }

def pool9 : Array CpInfo := pool [(2, .class_ 4), (1, u "java/lang/Enum"), (0, u "name"), (0, u "Ljava/lang/String;"), (2, u "ordinal"), (0, u "I"), (1, .class_ 14), (1, u "java/lang/Object"), (4, u "hash"), (86, .class_ 108), (1, u "java/lang/Enum$EnumDesc"), (2, .class_ 112), (0, u "java/lang/constant/Constable"), (0, .class_ 114), (0, u "java/lang/Comparable"), (0, .class_ 116), (0, u "java/io/Serializable")] 87

/-- java/lang/Enum -/
def k9 : Class := { plain "java/lang/Enum" (some 0) with
  accessFlags := 1057
  interfaces := #[6, 4, 3]
  cf := some (fileOf pool9 2 #[.nestMembers #[106]] #[] 1057 12 #[111, 113, 115] #[{ accessFlags := 18, nameIndex := 5, descriptorIndex := 6, attributes := #[] }, { accessFlags := 18, nameIndex := 9, descriptorIndex := 10, attributes := #[] }, { accessFlags := 2, nameIndex := 19, descriptorIndex := 10, attributes := #[] }])
  fields := #[{ name := "name", type := (.object "java/lang/String"), accessFlags := 18, slot := 0, constantValue := 0 }, { name := "ordinal", type := .int, accessFlags := 18, slot := 1, constantValue := 0 }, { name := "hash", type := .int, accessFlags := 2, slot := 2, constantValue := 0 }]
  methods := #[]
  instanceTypes := #[(.object "java/lang/String"), .int, .int]
  staticTypes := #[]
  resolved := Array.replicate 204 none
  statics := none }

def pool10 : Array CpInfo := pool [(1, .class_ 2), (0, u "com/example/inert_quotient/inertquotient/prism/Type"), (2, u "INT"), (0, u "Lcom/example/inert_quotient/inertquotient/prism/Type;"), (2, u "DOUBLE"), (2, u "BOOL"), (2, u "$VALUES"), (0, u "[Lcom/example/inert_quotient/inertquotient/prism/Type;"), (6, .class_ 25), (1, u "java/lang/Enum"), (8, u "keyword"), (0, u "Ljava/lang/String;")] 33

/-- com/example/inert_quotient/inertquotient/prism/Type -/
def k10 : Class := { plain "com/example/inert_quotient/inertquotient/prism/Type" (some 9) with
  accessFlags := 16433
  interfaces := #[]
  cf := some (fileOf pool10 1 #[] #[] 16433 23 #[] #[{ accessFlags := 16409, nameIndex := 5, descriptorIndex := 6, attributes := #[] }, { accessFlags := 16409, nameIndex := 9, descriptorIndex := 6, attributes := #[] }, { accessFlags := 16409, nameIndex := 12, descriptorIndex := 6, attributes := #[] }, { accessFlags := 18, nameIndex := 34, descriptorIndex := 35, attributes := #[] }, { accessFlags := 4122, nameIndex := 15, descriptorIndex := 16, attributes := #[] }])
  fields := #[{ name := "INT", type := (.object "com/example/inert_quotient/inertquotient/prism/Type"), accessFlags := 16409, slot := 0, constantValue := 0 }, { name := "DOUBLE", type := (.object "com/example/inert_quotient/inertquotient/prism/Type"), accessFlags := 16409, slot := 1, constantValue := 0 }, { name := "BOOL", type := (.object "com/example/inert_quotient/inertquotient/prism/Type"), accessFlags := 16409, slot := 2, constantValue := 0 }, { name := "keyword", type := (.object "java/lang/String"), accessFlags := 18, slot := 3, constantValue := 0 }, { name := "$VALUES", type := (.array (.object "com/example/inert_quotient/inertquotient/prism/Type")), accessFlags := 4122, slot := 3, constantValue := 0 }]
  methods := #[]
  instanceTypes := #[(.object "java/lang/String"), .int, .int, (.object "java/lang/String")]
  staticTypes := #[(.object "com/example/inert_quotient/inertquotient/prism/Type"), (.object "com/example/inert_quotient/inertquotient/prism/Type"), (.object "com/example/inert_quotient/inertquotient/prism/Type"), (.array (.object "com/example/inert_quotient/inertquotient/prism/Type"))]
  resolved := Array.replicate 69 none
  statics := some 0 }

def pool11 : Array CpInfo := pool [(2, .class_ 4), (1, u "java/lang/Object"), (6, .class_ 13), (1, u "com/example/inert_quotient/inertquotient/prism/AlikeValues"), (0, u "reads"), (0, u "Ljava/util/Map;"), (2, u "affectingVariables"), (2, u "alike"), (2, u "holding"), (2, u "variables"), (0, u "Ljava/util/List;"), (25, .class_ 55), (0, u "com/example/inert_quotient/inertquotient/prism/Variable"), (2, u "span"), (0, u "(Lcom/example/inert_quotient/inertquotient/prism/Variable;)J"), (57, u "()I"), (31, .class_ 150), (0, u "com/example/inert_quotient/inertquotient/prism/AlikeValues$Combinations"), (64, .class_ 217), (1, u "com/example/inert_quotient/inertquotient/prism/AlikeValues$1"), (142, .methodref 54 361), (0, .nameAndType 362 117), (0, u "low"), (11, .methodref 54 375), (0, .nameAndType 376 117), (0, u "high"), (45, u "EVALUATION_LIMIT"), (0, u "I"), (2, u "RANGE_LIMIT"), (1, u "REFINED_LIMIT")] 68

def k11c0 : Code := { maxStack := 4, maxLocals := 1, code := prog_28_method_24_code, exceptionTable := #[], attributes := #[] }
def k11m0 : Method := { name := "span", desc := "(Lcom/example/inert_quotient/inertquotient/prism/Variable;)J", sig := { parameters := [(.object "com/example/inert_quotient/inertquotient/prism/Variable")], returnType := some .long }, accessFlags := 8, code := some k11c0 }
/-- com/example/inert_quotient/inertquotient/prism/AlikeValues -/
def k11 : Class := { plain "com/example/inert_quotient/inertquotient/prism/AlikeValues" (some 0) with
  accessFlags := 32
  interfaces := #[]
  cf := some (fileOf pool11 11 #[.nestMembers #[215, 149]] #[{ accessFlags := 8, nameIndex := 58, descriptorIndex := 59, attributes := #[] }] 32 2 #[] #[{ accessFlags := 24, nameIndex := 422, descriptorIndex := 423, attributes := #[] }, { accessFlags := 24, nameIndex := 426, descriptorIndex := 423, attributes := #[] }, { accessFlags := 26, nameIndex := 428, descriptorIndex := 423, attributes := #[] }, { accessFlags := 18, nameIndex := 27, descriptorIndex := 28, attributes := #[] }, { accessFlags := 18, nameIndex := 14, descriptorIndex := 15, attributes := #[] }, { accessFlags := 18, nameIndex := 18, descriptorIndex := 15, attributes := #[] }, { accessFlags := 18, nameIndex := 21, descriptorIndex := 15, attributes := #[] }, { accessFlags := 18, nameIndex := 24, descriptorIndex := 15, attributes := #[] }])
  fields := #[{ name := "EVALUATION_LIMIT", type := .int, accessFlags := 24, slot := 0, constantValue := 0 }, { name := "RANGE_LIMIT", type := .int, accessFlags := 24, slot := 1, constantValue := 0 }, { name := "REFINED_LIMIT", type := .int, accessFlags := 26, slot := 2, constantValue := 0 }, { name := "variables", type := (.object "java/util/List"), accessFlags := 18, slot := 0, constantValue := 0 }, { name := "reads", type := (.object "java/util/Map"), accessFlags := 18, slot := 1, constantValue := 0 }, { name := "affectingVariables", type := (.object "java/util/Map"), accessFlags := 18, slot := 2, constantValue := 0 }, { name := "alike", type := (.object "java/util/Map"), accessFlags := 18, slot := 3, constantValue := 0 }, { name := "holding", type := (.object "java/util/Map"), accessFlags := 18, slot := 4, constantValue := 0 }]
  methods := #[k11m0]
  instanceTypes := #[(.object "java/util/List"), (.object "java/util/Map"), (.object "java/util/Map"), (.object "java/util/Map"), (.object "java/util/Map")]
  staticTypes := #[.int, .int, .int]
  resolved := Array.replicate 497 none
  statics := none }

def pool12 : Array CpInfo := pool [(1, .class_ 2), (0, u "java/lang/Math"), (1, .class_ 6), (1, u "java/lang/Object"), (0, u "<init>"), (0, u "()V"), (89, .class_ 100), (1, u "java/lang/Math$RandomNumberGeneratorHolder"), (71, u "negativeZeroFloatBits"), (0, u "J"), (2, u "negativeZeroDoubleBits"), (21, u "max"), (2, u "min"), (43, u "$assertionsDisabled"), (0, u "Z"), (88, u "(II)I"), (2, u "twoToTheDoubleScaleDown"), (0, u "D"), (4, u "twoToTheDoubleScaleUp"), (9, u "E"), (3, u "PI"), (2, u "TAU"), (2, u "DEGREES_TO_RADIANS"), (0, u "RADIANS_TO_DEGREES")] 94

def k12m0 : Method := { name := "<init>", desc := "()V", sig := { parameters := [], returnType := none }, accessFlags := 2, code := none }
def k12c1 : Code := { maxStack := 2, maxLocals := 2, code := jdk_29_method_65_code, exceptionTable := #[], attributes := #[] }
def k12m1 : Method := { name := "max", desc := "(II)I", sig := { parameters := [.int, .int], returnType := some .int }, accessFlags := 9, code := some k12c1 }
def k12c2 : Code := { maxStack := 2, maxLocals := 2, code := jdk_29_method_69_code, exceptionTable := #[], attributes := #[] }
def k12m2 : Method := { name := "min", desc := "(II)I", sig := { parameters := [.int, .int], returnType := some .int }, accessFlags := 9, code := some k12c2 }
/-- java/lang/Math -/
def k12 : Class := { plain "java/lang/Math" (some 0) with
  accessFlags := 49
  interfaces := #[]
  cf := some (fileOf pool12 1 #[.nestMembers #[98]] #[{ accessFlags := 2, nameIndex := 7, descriptorIndex := 8, attributes := #[] }, { accessFlags := 9, nameIndex := 198, descriptorIndex := 335, attributes := #[] }, { accessFlags := 9, nameIndex := 201, descriptorIndex := 335, attributes := #[] }] 49 4 #[] #[{ accessFlags := 25, nameIndex := 354, descriptorIndex := 339, attributes := #[] }, { accessFlags := 25, nameIndex := 358, descriptorIndex := 339, attributes := #[] }, { accessFlags := 25, nameIndex := 361, descriptorIndex := 339, attributes := #[] }, { accessFlags := 26, nameIndex := 364, descriptorIndex := 339, attributes := #[] }, { accessFlags := 26, nameIndex := 365, descriptorIndex := 339, attributes := #[] }, { accessFlags := 26, nameIndex := 172, descriptorIndex := 173, attributes := #[] }, { accessFlags := 26, nameIndex := 176, descriptorIndex := 173, attributes := #[] }, { accessFlags := 8, nameIndex := 344, descriptorIndex := 339, attributes := #[] }, { accessFlags := 8, nameIndex := 338, descriptorIndex := 339, attributes := #[] }, { accessFlags := 4120, nameIndex := 245, descriptorIndex := 246, attributes := #[] }])
  fields := #[{ name := "E", type := .double, accessFlags := 25, slot := 0, constantValue := 0 }, { name := "PI", type := .double, accessFlags := 25, slot := 1, constantValue := 0 }, { name := "TAU", type := .double, accessFlags := 25, slot := 2, constantValue := 0 }, { name := "DEGREES_TO_RADIANS", type := .double, accessFlags := 26, slot := 3, constantValue := 0 }, { name := "RADIANS_TO_DEGREES", type := .double, accessFlags := 26, slot := 4, constantValue := 0 }, { name := "negativeZeroFloatBits", type := .long, accessFlags := 26, slot := 5, constantValue := 0 }, { name := "negativeZeroDoubleBits", type := .long, accessFlags := 26, slot := 6, constantValue := 0 }, { name := "twoToTheDoubleScaleUp", type := .double, accessFlags := 8, slot := 7, constantValue := 0 }, { name := "twoToTheDoubleScaleDown", type := .double, accessFlags := 8, slot := 8, constantValue := 0 }, { name := "$assertionsDisabled", type := .boolean, accessFlags := 4120, slot := 9, constantValue := 0 }]
  methods := #[k12m0, k12m1, k12m2]
  instanceTypes := #[]
  staticTypes := #[.double, .double, .double, .double, .double, .long, .long, .double, .double, .boolean]
  resolved := Array.replicate 460 none
  statics := none }

def pool13 : Array CpInfo := pool [(1, u "java/lang/Cloneable"), (0, .class_ 1), (0, u "java/lang/Object"), (0, .class_ 3)] 3

/-- java/lang/Cloneable -/
def k13 : Class := { plain "java/lang/Cloneable" (some 0) with
  accessFlags := 1537
  interfaces := #[]
  cf := some (fileOf pool13 2 #[] #[] 1537 4 #[] #[])
  fields := #[]
  methods := #[]
  instanceTypes := #[]
  staticTypes := #[]
  resolved := Array.replicate 8 none
  statics := none }

/-- the primitive byte -/
def k14 : Class := { plain "byte" none with kind := .primitive 'B', accessFlags := 0x411 }
/-- [B -/
def k15 : Class := { plain "[B" (some 0) with kind := .array 14 .byte, interfaces := #[13, 3], accessFlags := 1041 }

/-- the primitive int -/
def k16 : Class := { plain "int" none with kind := .primitive 'I', accessFlags := 0x411 }
/-- [I -/
def k17 : Class := { plain "[I" (some 0) with kind := .array 16 .int, interfaces := #[13, 3], accessFlags := 1041 }

def heap : Heap := #[{ cls := 10, slots := #[.ref 1, .null, .null, .null], vm := .statics 10 },
  { cls := 10, slots := #[.null, .int 0, .int 0, .null], vm := .none }]
def classes : Array Class := #[k0, k1, k2, k3, k4, k5, k6, k7, k8, k9, k10, k11, k12, k13, k14, k15, k16, k17]
def interned : List (Array UInt16 × Addr) := []
def slotsUsed : Nat := 8
def theMethod : MethodId := ⟨1, 2⟩
def args0 : Array Value := #[.int 5, .int 7, .int 1]
def aboutOver (below : List Frame) : State where
  vm := { classes := classes, interned := interned.toArray }
  heap := heap
  slotsUsed := slotsUsed
  threads := #[{ frames := .invoking theMethod args0 :: below }]
def below0 : List Frame := [.native { method := ⟨0, 0⟩, args := #[] }]
def about1 : State := aboutOver below0
def p0 : Program := .bare "" "" ""
def e0 : Env := launch0.env 0 0 0
theorem w_frames : about1.frames = Frame.invoking theMethod args0 :: below0 := rfl
set_option maxRecDepth 65536 in
theorem w_args : argsFit about1.vm theMethod args0 = true := by decide +kernel
set_option maxRecDepth 65536 in
theorem w_heap : heapFits about1 = true := by decide +kernel
set_option maxRecDepth 65536 in
theorem w_runnable : about1.curStatus? = some .runnable := by decide +kernel
set_option maxRecDepth 65536 in
theorem w_alone : about1.alone = true := by decide +kernel
set_option maxRecDepth 65536 in
theorem w_named : about1.methodNamed? x = some theMethod := by decide +kernel
set_option maxRecDepth 65536 in
theorem w_hears : about1.hears theMethod below0 = true := by decide +kernel
set_option maxRecDepth 65536 in
theorem w_ripe : about1.ripe theMethod args0 below0 = true := by decide +kernel
theorem w_running : about1.status = .running := rfl
set_option maxRecDepth 65536 in
theorem w_room : about1.hasRoom e0.platform room_1 = true :=
  launch0.hasRoom_least _ room_1 (by decide +kernel) (by decide +kernel) (by decide +kernel) (by decide +kernel) (by decide +kernel) (by decide +kernel)
theorem allAtoms_all (ts : List Jvm.Cond) (a : Array Jvm.Value) (st : Jvm.State) : (allAtoms ts).before a st = ts.all (fun c => c.before a st) := by
  induction ts with
  | nil => rfl
  | cons c t ih =>
    show (Jvm.Cond.and c (allAtoms t)).before a st = _
    rw [Jvm.Cond.before_and, ih, List.all_cons]
def words1 : List Jvm.Cond := Jvm.Cond.code x code maxLocals ret :: tables_1
/-- a 'code' word, met by the world's own term for the bytes: nothing is compared byte by byte -/
theorem code_word {y : MethodName} {bytes : ByteArray} {mx : Nat} {rt : Option FieldType} {a : Array Value} {s : State} {m : MethodId} {meth : Method} {c : Code} (h1 : s.methodNamed? y = some m) (h2 : s.vm.method? m = some meth) (h3 : meth.code = some c) (h4 : c.code = bytes)
    (h5 : (c.maxLocals == mx && c.exceptionTable.isEmpty && decide (c.maxStack ≤ mostOperands) && decide (meth.sig.returnType = rt) && !meth.locks && decide (parseMethodDescriptor y.desc = some meth.sig)) = true) : (Jvm.Cond.code y bytes mx rt).before a s = true := by
  simp only [Bool.and_eq_true, beq_iff_eq, Bool.not_eq_true', decide_eq_true_eq] at h5
  obtain ⟨⟨⟨⟨⟨g1, g2⟩, g3⟩, g4⟩, g5⟩, g6⟩ := h5
  simp [Cond.before, Cond.holds, Cond.value, h1, h2, h3, h4, g1, g2, g3, g4, g5, g6]
def isCode : Jvm.Cond → Bool
  | .code _ _ _ _ => true
  | _ => false
theorem all_split {L : List Jvm.Cond} {P : Jvm.Cond → Bool} (h1 : L.all (fun c => isCode c || P c) = true) (h2 : ∀ c ∈ L.filter isCode, P c = true) : L.all P = true := by
  refine List.all_eq_true.mpr fun c hc => ?_
  have h := List.all_eq_true.mp h1 c hc
  rcases Bool.eq_false_or_eq_true (isCode c) with hi | hi
  · exact h2 c (List.mem_filter.mpr ⟨hc, hi⟩)
  · simpa [hi] using h
set_option maxRecDepth 65536 in
theorem w_c0 : (Jvm.Cond.code x code maxLocals ret).before args0 about1 = true := code_word (m := ⟨1, 2⟩) (meth := k1m2) (c := k1c2) (by decide +kernel) rfl rfl rfl (by decide +kernel)
set_option maxRecDepth 65536 in
theorem w_c1 : (Jvm.Cond.code ({ cls := "com/example/inert_quotient/inertquotient/prism/AlikeValuesSpanPinLaw", name := "v", desc := "(II)Lcom/example/inert_quotient/inertquotient/prism/Variable;" } : Jvm.MethodName) method_2_code (2 : Nat) (Option.some (Jvm.ClassFile.FieldType.object "com/example/inert_quotient/inertquotient/prism/Variable"))).before args0 about1 = true := code_word (m := ⟨1, 1⟩) (meth := k1m1) (c := k1c1) (by decide +kernel) rfl rfl rfl (by decide +kernel)
set_option maxRecDepth 65536 in
theorem w_c2 : (Jvm.Cond.code ({ cls := "com/example/inert_quotient/inertquotient/prism/Variable", name := "<init>", desc := "(Ljava/lang/String;Lcom/example/inert_quotient/inertquotient/prism/Type;IIIILjava/lang/String;)V" } : Jvm.MethodName) prog_82_method_1_code (8 : Nat) (Option.none : Option Jvm.ClassFile.FieldType)).before args0 about1 = true := code_word (m := ⟨2, 0⟩) (meth := k2m0) (c := k2c0) (by decide +kernel) rfl rfl rfl (by decide +kernel)
set_option maxRecDepth 65536 in
theorem w_c3 : (Jvm.Cond.code ({ cls := "java/lang/Object", name := "<init>", desc := "()V" } : Jvm.MethodName) object_method_1_code (1 : Nat) (Option.none : Option Jvm.ClassFile.FieldType)).before args0 about1 = true := code_word (m := ⟨0, 0⟩) (meth := k0m0) (c := k0c0) (by decide +kernel) rfl rfl rfl (by decide +kernel)
set_option maxRecDepth 65536 in
theorem w_c4 : (Jvm.Cond.code ({ cls := "com/example/inert_quotient/inertquotient/prism/AlikeValues", name := "span", desc := "(Lcom/example/inert_quotient/inertquotient/prism/Variable;)J" } : Jvm.MethodName) prog_28_method_24_code (1 : Nat) (Option.some Jvm.ClassFile.FieldType.long)).before args0 about1 = true := code_word (m := ⟨11, 0⟩) (meth := k11m0) (c := k11c0) (by decide +kernel) rfl rfl rfl (by decide +kernel)
set_option maxRecDepth 65536 in
theorem w_c5 : (Jvm.Cond.code ({ cls := "com/example/inert_quotient/inertquotient/prism/Variable", name := "high", desc := "()I" } : Jvm.MethodName) prog_82_method_6_code (1 : Nat) (Option.some Jvm.ClassFile.FieldType.int)).before args0 about1 = true := code_word (m := ⟨2, 2⟩) (meth := k2m2) (c := k2c2) (by decide +kernel) rfl rfl rfl (by decide +kernel)
set_option maxRecDepth 65536 in
theorem w_c6 : (Jvm.Cond.code ({ cls := "com/example/inert_quotient/inertquotient/prism/Variable", name := "low", desc := "()I" } : Jvm.MethodName) prog_82_method_5_code (1 : Nat) (Option.some Jvm.ClassFile.FieldType.int)).before args0 about1 = true := code_word (m := ⟨2, 1⟩) (meth := k2m1) (c := k2c1) (by decide +kernel) rfl rfl rfl (by decide +kernel)
set_option maxRecDepth 65536 in
theorem w_c7 : (Jvm.Cond.code ({ cls := "java/lang/Math", name := "min", desc := "(II)I" } : Jvm.MethodName) jdk_29_method_69_code (2 : Nat) (Option.some Jvm.ClassFile.FieldType.int)).before args0 about1 = true := code_word (m := ⟨12, 2⟩) (meth := k12m2) (c := k12c2) (by decide +kernel) rfl rfl rfl (by decide +kernel)
set_option maxRecDepth 65536 in
theorem w_c8 : (Jvm.Cond.code ({ cls := "java/lang/Math", name := "max", desc := "(II)I" } : Jvm.MethodName) jdk_29_method_65_code (2 : Nat) (Option.some Jvm.ClassFile.FieldType.int)).before args0 about1 = true := code_word (m := ⟨12, 1⟩) (meth := k12m1) (c := k12c1) (by decide +kernel) rfl rfl rfl (by decide +kernel)
def codes1 : List Jvm.Cond := [Jvm.Cond.code x code maxLocals ret, Jvm.Cond.code ({ cls := "com/example/inert_quotient/inertquotient/prism/AlikeValuesSpanPinLaw", name := "v", desc := "(II)Lcom/example/inert_quotient/inertquotient/prism/Variable;" } : Jvm.MethodName) method_2_code (2 : Nat) (Option.some (Jvm.ClassFile.FieldType.object "com/example/inert_quotient/inertquotient/prism/Variable")), Jvm.Cond.code ({ cls := "com/example/inert_quotient/inertquotient/prism/Variable", name := "<init>", desc := "(Ljava/lang/String;Lcom/example/inert_quotient/inertquotient/prism/Type;IIIILjava/lang/String;)V" } : Jvm.MethodName) prog_82_method_1_code (8 : Nat) (Option.none : Option Jvm.ClassFile.FieldType), Jvm.Cond.code ({ cls := "java/lang/Object", name := "<init>", desc := "()V" } : Jvm.MethodName) object_method_1_code (1 : Nat) (Option.none : Option Jvm.ClassFile.FieldType), Jvm.Cond.code ({ cls := "com/example/inert_quotient/inertquotient/prism/AlikeValues", name := "span", desc := "(Lcom/example/inert_quotient/inertquotient/prism/Variable;)J" } : Jvm.MethodName) prog_28_method_24_code (1 : Nat) (Option.some Jvm.ClassFile.FieldType.long), Jvm.Cond.code ({ cls := "com/example/inert_quotient/inertquotient/prism/Variable", name := "high", desc := "()I" } : Jvm.MethodName) prog_82_method_6_code (1 : Nat) (Option.some Jvm.ClassFile.FieldType.int), Jvm.Cond.code ({ cls := "com/example/inert_quotient/inertquotient/prism/Variable", name := "low", desc := "()I" } : Jvm.MethodName) prog_82_method_5_code (1 : Nat) (Option.some Jvm.ClassFile.FieldType.int), Jvm.Cond.code ({ cls := "java/lang/Math", name := "min", desc := "(II)I" } : Jvm.MethodName) jdk_29_method_69_code (2 : Nat) (Option.some Jvm.ClassFile.FieldType.int), Jvm.Cond.code ({ cls := "java/lang/Math", name := "max", desc := "(II)I" } : Jvm.MethodName) jdk_29_method_65_code (2 : Nat) (Option.some Jvm.ClassFile.FieldType.int)]
set_option maxRecDepth 65536 in
theorem codes_eq : words1.filter isCode = codes1 := rfl
theorem w_codes : ∀ c ∈ words1.filter isCode, c.before args0 about1 = true := by
  rw [codes_eq]
  intro c hc
  simp only [codes1, List.mem_cons, List.not_mem_nil, or_false] at hc
  rcases hc with rfl | rfl | rfl | rfl | rfl | rfl | rfl | rfl | rfl
  · exact w_c0
  · exact w_c1
  · exact w_c2
  · exact w_c3
  · exact w_c4
  · exact w_c5
  · exact w_c6
  · exact w_c7
  · exact w_c8
set_option maxRecDepth 65536 in
theorem w_t1 : (words1.take 24).all (fun c => isCode c || c.before args0 about1) = true := by decide +kernel
set_option maxRecDepth 65536 in
theorem w_t2 : ((words1.drop 24).take 24).all (fun c => isCode c || c.before args0 about1) = true := by decide +kernel
set_option maxRecDepth 65536 in
theorem w_t3 : ((words1.drop 24).drop 24).all (fun c => isCode c || c.before args0 about1) = true := by decide +kernel
theorem w_tables : (allAtoms (Jvm.Cond.code x code maxLocals ret :: tables_1)).before args0 about1 = true := by
  rw [allAtoms_all]
  show words1.all (fun c => c.before args0 about1) = true
  refine all_split ?_ w_codes
  rw [← List.take_append_drop 24 words1, List.all_append, w_t1, ← List.take_append_drop 24 (words1.drop 24), List.all_append, w_t2, w_t3]
  rfl
set_option maxRecDepth 65536 in
theorem w_case : (Jvm.Cond.and given_1 narrow_1).before args0 about1 = true := by decide +kernel
theorem w_applies : (headSpec (Jvm.Cond.code x code maxLocals ret :: tables_1) room_1).applies x e0.platform about1 = true :=
  (Spec.applies_iff w_frames).mpr ⟨w_running, w_runnable, w_alone, w_named, w_hears, w_ripe, w_room, w_tables⟩
theorem atStart : AtStart classFile x code maxLocals ret World_1 tables_1 room_1 Calls_1 rest_1 Pre_1 launch0 p0 e0 about1 theMethod args0 below0 :=
  ⟨lists_1, trivial, launch0.admits_env _ _ _, launch0.least_env, fairChoices_fair.cas, fairChoices_fair.clock, w_frames, w_args, w_heap, w_applies, trivial, trivial, w_case⟩
end start1
theorem witness_1 : WitnessClaimed_1 := ⟨start1.p0, start1.e0, start1.about1, start1.theMethod, start1.args0, start1.below0, start1.atStart⟩
end Jvm.Pilot.@@N@@
